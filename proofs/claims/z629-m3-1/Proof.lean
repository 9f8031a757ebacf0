import JvmDerived
import JvmDerived.Pilot.@@N@@Statement
import JvmDerived.Pilot.@@N@@Code
set_option linter.unusedVariables false
set_option linter.unusedSimpArgs false
namespace Jvm.RoadKit
open Sem ClassFile Op Lib Jvm.Stand Jvm.Free Jvm.LawKit
section New
variable {p : Program} {l : Launch} {e : Env} {R : Room} {s : State} {m : MethodId} {args : Array Value} {below : List Frame} {meth : Method} {c : Code} {T : State} {locs : List Loc} {cells slots : Nat}
theorem retI (X : Stand p l e R s m args below meth c T locs cells slots) (hx : p.tables.exec = Jvm.exec) {pc : Nat} {Ls : Array Slot} {z : Int32} {rest : List Value} (hret : meth.sig.returnType = some .int) (hd : decode c.code pc = .ok (.ireturn, 1)) {fs : List Frame}
    (hl : ∀ (f : JFrame) (acts : List Action), f.method = m → f.locked = none → f.entered = [] → (doReturn e (T.setTop f) acts (some (.int z))).1 = T.setFrames fs) : Steps p.tables e below (T.setTop (mkF m pc Ls (.int z :: rest))) (T.setFrames fs) := by
  have hm' : T.vm.method? m = some meth := X.method'
  have hn : narrow .int (.int z) = .int z := rfl
  show Steps p.tables e below (T.setTop { method := m, pc := pc, locals := Ls, stack := _ :: rest, locked := none }) _
  jvm_step X.here [X.here.top, hx, hd, hm', hret, hn]
  first | (intro acts; rw [hl _ acts rfl rfl rfl]) | rw [hl _ _ rfl rfl rfl]
  exact Steps.refl _
end New
end Jvm.RoadKit
namespace Jvm.Pilot.@@N@@
open Jvm Jvm.ClassFile Sem Op Lib Jvm.Free Jvm.Stand Jvm.LawKit Jvm.RoadKit Bundle Jvm.Pilot.@@N@@.Jvm.D
theorem own_sta_keep {Z : State} {h h' : Heap} {C n d : String} {v : Value} (F : Sta Z h C n d v) (K : Keep h h' []) : Sta Z h' C n d v := by
  obtain ⟨cf, i, k, f, st, cell, h1, h2, h3, h4, h5, r⟩ := F
  exact ⟨cf, i, k, f, st, cell, h1, h2, h3, h4, K.2.1 _ _ h5 nin0, r⟩
/-- whoever comes from B to t comes from A to t -/
abbrev own_R (p : Program) (e : Env) (below : List Frame) (A B : State) : Prop := ∀ t, Steps p.tables e below B t → Steps p.tables e below A t
theorem own_c {p : Program} {e : Env} {below : List Frame} {A B D : State} (K : own_R p e below A B) (h : ∀ t, Steps p.tables e below D t → Steps p.tables e below B t) : own_R p e below A D := fun t k => K t (h t k)
theorem own_ct {p : Program} {e : Env} {below : List Frame} {A B D : State} (K : own_R p e below A B) (h : Steps p.tables e below B D) : own_R p e below A D := fun t k => K t (h.trans k)
abbrev vI (x : Int32) : Slot := .val (.int x)
abbrev vJ (x : Int64) : Slot := .val (.long x)
abbrev vR (x : Addr) : Slot := .val (.ref x)
theorem own_w {Z : State} {a0 : Array Value} (hw : ∀ d ∈ tables_1, d.before a0 Z = true) (i : Nat) {d : Jvm.Cond} (h : tables_1[i]? = some d) : d.before a0 Z = true := hw _ (List.mem_of_getElem? h)

section OwnWords
variable {args : Array Value} {s : State} {t : Term}
theorem own_eqi {k : Int32} (h : (Jvm.Cond.eq t (.int k)).value args s none s [] = some true) : t.eval args s none [] s = some (.int k) := by
  simp only [Cond.value, Term.eval] at h
  cases ht : t.eval args s none [] s with
  | none => simp [ht] at h
  | some x => cases x <;> simp [ht] at h ⊢ <;> exact h
theorem own_eql {k : Int64} (h : (Jvm.Cond.eq t (.long k)).value args s none s [] = some true) : t.eval args s none [] s = some (.long k) := by
  simp only [Cond.value, Term.eval] at h
  cases ht : t.eval args s none [] s with
  | none => simp [ht] at h
  | some x => cases x <;> simp [ht] at h ⊢ <;> exact h
theorem own_eqr {u : Term} {x : Addr} (h : (Jvm.Cond.eq t u).value args s none s [] = some true) (hu : u.eval args s none [] s = some (.ref x)) : t.eval args s none [] s = some (.ref x) := by
  simp only [Cond.value, hu] at h
  cases ht : t.eval args s none [] s with
  | none => simp [ht] at h
  | some y => cases y <;> simp [ht] at h ⊢ <;> exact h
theorem own_len {x : Addr} {cl : Cell} {ty : FieldType} {k : Int32} (h : (Jvm.Cond.eq (.length t) (.int k)).value args s none s [] = some true) (ev : t.eval args s none [] s = some (.ref x)) (A : Arr s s.heap x cl ty) : cl.slots.size < 2 ^ 31 ∧ cl.slots.size.toInt32 = k := by
  have h1 := own_eqi h
  have h2 := A.fin (Vm.Alike.refl _)
  simp only [Term.eval, ev, Option.bind_eq_bind, Option.bind_some, h2] at h1
  split at h1
  · rename_i q; exact ⟨q, by simpa using h1⟩
  · cases h1
theorem own_elem {x : Addr} {cl : Cell} {ty : FieldType} {j : Int32} {v : Value} (h : (Term.elem t (.int j)).eval args s none [] s = some v) (ev : t.eval args s none [] s = some (.ref x)) (A : Arr s s.heap x cl ty) : cl.slots[j.toNatClampNeg]? = some v :=
  (elem_in h ev (Term.int_eval j) A.1).2
end OwnWords
theorem own_strs {Z : State} {a0 : Array Value} (hw : ∀ d ∈ tables_1, d.before a0 Z = true) : ∀ a ∈ Bundle.stringAtoms, a.before a0 Z = true := by
  intro a ha
  simp only [Bundle.stringAtoms, List.mem_cons, List.not_mem_nil, or_false] at ha
  rcases ha with rfl | rfl | rfl | rfl | rfl | rfl | rfl
  · exact (own_w hw 7 rfl)
  · exact (own_w hw 6 rfl)
  · exact (own_w hw 20 rfl)
  · exact (own_w hw 21 rfl)
  · exact (own_w hw 22 rfl)
  · exact (own_w hw 23 rfl)
  · exact (own_w hw 24 rfl)
theorem own_rng (c : Int32) (R : c.toUInt32.toUInt16.toUInt32.toInt32 = c) : ∃ k : Nat, k < 65536 ∧ c = Int32.ofNat k := by
  have key : ∀ u : UInt16, u.toUInt32.toInt32 = Int32.ofNat u.toNat := fun u => by
    apply Int32.toBitVec_inj.mp
    show u.toUInt32.toBitVec = BitVec.ofNat 32 u.toNat
    apply BitVec.eq_of_toNat_eq
    have := u.toNat_lt
    show u.toUInt32.toNat = _
    simp
  exact ⟨c.toUInt32.toUInt16.toNat, c.toUInt32.toUInt16.toNat_lt, R.symm.trans (key _)⟩
theorem own_rngI (c : Int32) (R : c.toUInt32.toUInt16.toUInt32.toInt32 = c) : 0 ≤ c.toInt ∧ c.toInt < 65536 := by
  obtain ⟨k, hk, rfl⟩ := own_rng c R
  rw [Int32.toInt_ofNat_of_lt (by omega)]; omega
theorem own_lat (c : Int32) (R : c.toUInt32.toUInt16.toUInt32.toInt32 = c) (h : ¬ (255 : Int32) < c) : ∃ k : Fin 256, c = Int32.ofNat k.val := by
  obtain ⟨k, hk, rfl⟩ := own_rng c R
  refine ⟨⟨k, ?_⟩, rfl⟩
  rw [Int32.lt_iff_toInt_lt, Int32.toInt_ofNat_of_lt (by omega), show (255 : Int32).toInt = 255 from by decide] at h
  omega
theorem own_l1 (c : Int32) (R : c.toUInt32.toUInt16.toUInt32.toInt32 = c) (h : ¬ (255 : Int32) < c) : ((c.toInt8.toInt32 &&& (255 : Int32)).toUInt32.toUInt16.toUInt32.toInt32) = c := by
  obtain ⟨k, rfl⟩ := own_lat c R h
  revert k; decide +kernel
theorem own_46 (c : Int32) (R : c.toUInt32.toUInt16.toUInt32.toInt32 = c) (h : ¬ (255 : Int32) < c) : (c.toInt8.toInt32 = (46 : Int32)) = (c = (46 : Int32)) := by
  obtain ⟨k, rfl⟩ := own_lat c R h
  apply propext; revert k; decide +kernel
theorem own_bits (x : BitVec 16) : (((((x.setWidth 32).signExtend 8).signExtend 32 &&& 255#32) ||| ((((x.setWidth 32).sshiftRight 8).signExtend 8).signExtend 32 &&& 255#32) <<< 8)).setWidth 16 = x := by
  apply BitVec.eq_of_getLsbD_eq
  intro i hi
  have h255 : ∀ j, (255#32).getLsbD j = decide (j < 8) := by
    intro j
    by_cases hj : j < 32
    · have : ∀ j : Fin 32, (255#32).getLsbD j.val = decide (j.val < 8) := by decide
      exact this ⟨j, hj⟩
    · rw [BitVec.getLsbD_of_ge _ _ (by omega)]; simp; omega
  simp only [BitVec.getLsbD_setWidth, BitVec.getLsbD_or, BitVec.getLsbD_and, BitVec.getLsbD_shiftLeft, BitVec.getLsbD_signExtend, BitVec.getLsbD_sshiftRight, h255]
  by_cases h8 : i < 8
  · simp [h8, hi, show i < 32 by omega]
  · have e : 8 + (i - 8) = i := by omega
    simp [h8, hi, show i < 32 by omega, show i - 8 < 8 by omega, show i - 8 < 32 by omega, e]
    try omega
theorem own_get (c : Int32) (R : c.toUInt32.toUInt16.toUInt32.toInt32 = c) : ((((((c >>> ((0 : Int32) &&& 31)).toInt8.toInt32) &&& (255 : Int32)) <<< ((0 : Int32) &&& 31)) ||| ((((c >>> ((8 : Int32) &&& 31)).toInt8.toInt32) &&& (255 : Int32)) <<< ((8 : Int32) &&& 31))).toUInt32.toUInt16.toUInt32.toInt32) = c := by
  rw [show ((0 : Int32) &&& 31) = 0 from by decide, show ((8 : Int32) &&& 31) = 8 from by decide]
  have key : ∀ x : UInt16, (((((x.toUInt32.toInt32 >>> (0 : Int32)).toInt8.toInt32) &&& (255 : Int32)) <<< (0 : Int32)) ||| ((((x.toUInt32.toInt32 >>> (8 : Int32)).toInt8.toInt32) &&& (255 : Int32)) <<< (8 : Int32))).toUInt32.toUInt16 = x := by
    intro x
    apply UInt16.toBitVec_inj.mp
    have := own_bits x.toBitVec
    simpa using this
  have := key c.toUInt32.toUInt16
  rw [R] at this
  rw [this, R]

theorem own_nc (x : Int32) : narrow .char (.int (x.toUInt32.toUInt16.toUInt32.toInt32)) = .int (x.toUInt32.toUInt16.toUInt32.toInt32) := by
  show Value.int ((x.toUInt32.toUInt16.toUInt32.toInt32).toUInt32.toUInt16.toUInt32.toInt32) = _
  have k : ∀ u : UInt16, u.toUInt32.toInt32.toUInt32.toUInt16 = u := fun u => by simp
  rw [k]
abbrev own_S9 (Z : State) (h : Heap) (y : Int32) : Prop := Sta Z h "java/lang/String" "COMPACT_STRINGS" "Z" (.int y)
abbrev own_S8 (Z : State) (h : Heap) (u : Value) : Prop := Sta Z h "jdk/internal/util/Preconditions" "SIOOBE_FORMATTER" "Ljava/util/function/BiFunction;" u
abbrev own_S7a (Z : State) (h : Heap) : Prop := Sta Z h "java/lang/StringUTF16" "$assertionsDisabled" "Z" (.int 1)
abbrev own_S7b (Z : State) (h : Heap) : Prop := Sta Z h "java/lang/StringUTF16" "HI_BYTE_SHIFT" "I" (.int 0)
abbrev own_S7c (Z : State) (h : Heap) : Prop := Sta Z h "java/lang/StringUTF16" "LO_BYTE_SHIFT" "I" (.int 8)
abbrev own_Cd (Z : State) (h : Heap) (a : Addr) (k : Int32) : Prop := Fld Z h a "java/lang/String" "coder" "B" (.int k)
abbrev own_Fv (Z : State) (h : Heap) (a t : Addr) : Prop := Fld Z h a "java/lang/String" "value" "[B" (.ref t)
theorem own_nbk {k : Int32} (h : k.toInt8.toInt32 = k) : narrow .byte (.int k) = .int k := by
  show Value.int k.toInt8.toInt32 = _
  rw [h]
theorem own_nbb (y : Int32) : narrow .byte (.int y.toInt8.toInt32) = .int y.toInt8.toInt32 := by
  show Value.int (y.toInt8.toInt32).toInt8.toInt32 = _
  rw [Int8.toInt8_toInt32]
theorem own_safe_null {Z : State} {EL : List (String × Nat)} {vm : Vm} {h : Heap} {x : Addr} (hal : Z.vm.Alike vm) (E : Exa Z h x "java/lang/String") (N : Fld Z h x "java/lang/String" "value" "[B" .null) : Safe Z EL vm h x := fun B => by
  obtain ⟨p, -, u, a, -, q, -, F, rfl | rfl⟩ := B
  · obtain ⟨cS, ⟨⟨s1, -, -, ⟨c1, k1, i1, f1, -⟩, -, -, -, v1, -⟩, -⟩, -⟩ := F
    obtain ⟨k', z4⟩ := ff_back (U := Wst Z vm h) hal f1
    obtain ⟨c0, _, _, _, _, n1, n2, -, -, -, -, n7⟩ := N
    cases (show h[q.sa]? = some q.sC from s1).symm.trans n1
    cases n2.symm.trans z4
    cases n7.symm.trans v1
  · obtain ⟨cell, k, e1, e2, e3, -, -⟩ := E
    cases (show h[q.sd]? = some q.SA from F.hd).symm.trans e1
    obtain ⟨cS, -, -, f, -⟩ := F
    have f : vm.findClass "[B" = some q.SA.cls := f
    rw [hal.findClass] at f
    obtain ⟨k1, q1, q2⟩ := Vm.findClass_spec f
    obtain ⟨k2, q3, q4⟩ := Vm.findClass_spec e2
    cases q1.symm.trans q3
    exact absurd (q2.symm.trans q4) (by decide)
theorem own_ncR {c : Int32} (R : c.toUInt32.toUInt16.toUInt32.toInt32 = c) : narrow .char (.int c) = .int c := by rw [← R]; exact own_nc c

def own_sh (n : Nat) (k z : Int32) (vs : List Value) (ys : List Int32) : Prop :=
  (k = 0 ∧ z = Int32.ofNat n ∧ vs = ys.map (fun y => Value.int y.toInt8.toInt32) ∧ ∀ y ∈ ys, ¬ (255 : Int32) < y) ∨
  (k = 1 ∧ z = Int32.ofNat (2 * n) ∧ vs = ys.flatMap (fun y => [Value.int ((y >>> ((0 : Int32) &&& 31)).toInt8.toInt32), Value.int ((y >>> ((8 : Int32) &&& 31)).toInt8.toInt32)]) ∧ ∃ y ∈ ys, (255 : Int32) < y)
theorem own_sh_k {n : Nat} {k z : Int32} {vs : List Value} {ys : List Int32} (h : own_sh n k z vs ys) : k.toInt8.toInt32 = k := by rcases h with ⟨rfl, -⟩ | ⟨rfl, -⟩ <;> decide
def own_at (k z : Int32) (vs : List Value) (p w zn : Int32) : Prop :=
  (k = 0 ∧ ¬ p < 0 ∧ p < z ∧ ∃ b : Int32, vs.getD p.toNatClampNeg (.int 0) = .int b ∧ ((b &&& (255 : Int32)).toUInt32.toUInt16.toUInt32.toInt32) = w) ∨
  (k = 1 ∧ ¬ p < 0 ∧ p < zn ∧ (z >>> ((1 : Int32) &&& 31)) = zn ∧ (¬ (p <<< ((1 : Int32) &&& 31)) < 0 ∧ (p <<< ((1 : Int32) &&& 31)) < z) ∧ (¬ ((p <<< ((1 : Int32) &&& 31)) + 1) < 0 ∧ ((p <<< ((1 : Int32) &&& 31)) + 1) < z) ∧ ∃ b c : Int32, vs.getD (p <<< ((1 : Int32) &&& 31)).toNatClampNeg (.int 0) = .int b ∧ vs.getD ((p <<< ((1 : Int32) &&& 31)) + 1).toNatClampNeg (.int 0) = .int c ∧
    (((b &&& (255 : Int32)) <<< ((0 : Int32) &&& 31)) ||| ((c &&& (255 : Int32)) <<< ((8 : Int32) &&& 31))).toUInt32.toUInt16.toUInt32.toInt32 = w)
theorem own_an {P : Int32 → Prop} : ∀ y ∈ ([] : List Int32), P y := fun _ h => nomatch h
theorem own_ac {P : Int32 → Prop} {y : Int32} {l : List Int32} (h : P y) (q : ∀ y ∈ l, P y) : ∀ z ∈ y :: l, P z := fun z hz => by
  rcases List.mem_cons.mp hz with rfl | hz
  · exact h
  · exact q _ hz
theorem own_sh_len1 {k z y0 : Int32} {vs : List Value} (h : own_sh 1 k z vs [y0]) : (z >>> (k &&& 31)) = 1 := by rcases h with ⟨rfl, rfl, -⟩ | ⟨rfl, rfl, -⟩ <;> decide
theorem own_sh_ne1 {k z y0 : Int32} {vs : List Value} (h : own_sh 1 k z vs [y0]) : ¬ z = 0 := by rcases h with ⟨rfl, rfl, -⟩ | ⟨rfl, rfl, -⟩ <;> decide
theorem own_sh_ck1 {k z y0 : Int32} {vs : List Value} (h : own_sh 1 k z vs [y0]) : (((((1 : Int32) - z).toUInt32 >>> ((31 : Int32) &&& 31).toUInt32).toInt32).toInt8.toInt32) = k := by rcases h with ⟨rfl, rfl, -⟩ | ⟨rfl, rfl, -⟩ <;> decide
theorem own_sh_d1_2 {k z y0 : Int32} {vs : List Value} (h : own_sh 1 k z vs [y0]) : (k = 0 ∧ ¬ z = 2 ∧ z.toNatClampNeg ≠ (2 : Int32).toNatClampNeg) ∨ k = 1 := by
  rcases h with ⟨rfl, rfl, -⟩ | ⟨rfl, -⟩
  · exact Or.inl ⟨rfl, by decide, by decide⟩
  · exact Or.inr rfl
theorem own_sh_at1_0 {k z y0 : Int32} {vs : List Value} (h : own_sh 1 k z vs [y0]) (R : y0.toUInt32.toUInt16.toUInt32.toInt32 = y0) : own_at k z vs 0 y0 1 := by
  rcases h with ⟨rfl, rfl, rfl, q⟩ | ⟨rfl, rfl, rfl, -⟩
  · exact Or.inl ⟨rfl, by decide, by decide, _, rfl, own_l1 _ R (q _ (by simp))⟩
  · exact Or.inr ⟨rfl, by decide, by decide, by decide, ⟨by decide, by decide⟩, ⟨by decide, by decide⟩, _, _, rfl, rfl, own_get _ R⟩
theorem own_sh_len2 {k z y0 y1 : Int32} {vs : List Value} (h : own_sh 2 k z vs [y0, y1]) : (z >>> (k &&& 31)) = 2 := by rcases h with ⟨rfl, rfl, -⟩ | ⟨rfl, rfl, -⟩ <;> decide
theorem own_sh_ne2 {k z y0 y1 : Int32} {vs : List Value} (h : own_sh 2 k z vs [y0, y1]) : ¬ z = 0 := by rcases h with ⟨rfl, rfl, -⟩ | ⟨rfl, rfl, -⟩ <;> decide
theorem own_sh_ck2 {k z y0 y1 : Int32} {vs : List Value} (h : own_sh 2 k z vs [y0, y1]) : (((((2 : Int32) - z).toUInt32 >>> ((31 : Int32) &&& 31).toUInt32).toInt32).toInt8.toInt32) = k := by rcases h with ⟨rfl, rfl, -⟩ | ⟨rfl, rfl, -⟩ <;> decide
theorem own_sh_d2_1 {k z y0 y1 : Int32} {vs : List Value} (h : own_sh 2 k z vs [y0, y1]) : (k = 0 ∧ ¬ z = 1 ∧ z.toNatClampNeg ≠ (1 : Int32).toNatClampNeg) ∨ k = 1 := by
  rcases h with ⟨rfl, rfl, -⟩ | ⟨rfl, -⟩
  · exact Or.inl ⟨rfl, by decide, by decide⟩
  · exact Or.inr rfl
theorem own_sh_at2_0 {k z y0 y1 : Int32} {vs : List Value} (h : own_sh 2 k z vs [y0, y1]) (R : y0.toUInt32.toUInt16.toUInt32.toInt32 = y0) : own_at k z vs 0 y0 2 := by
  rcases h with ⟨rfl, rfl, rfl, q⟩ | ⟨rfl, rfl, rfl, -⟩
  · exact Or.inl ⟨rfl, by decide, by decide, _, rfl, own_l1 _ R (q _ (by simp))⟩
  · exact Or.inr ⟨rfl, by decide, by decide, by decide, ⟨by decide, by decide⟩, ⟨by decide, by decide⟩, _, _, rfl, rfl, own_get _ R⟩
theorem own_sh_at2_1 {k z y0 y1 : Int32} {vs : List Value} (h : own_sh 2 k z vs [y0, y1]) (R : y1.toUInt32.toUInt16.toUInt32.toInt32 = y1) : own_at k z vs 1 y1 2 := by
  rcases h with ⟨rfl, rfl, rfl, q⟩ | ⟨rfl, rfl, rfl, -⟩
  · exact Or.inl ⟨rfl, by decide, by decide, _, rfl, own_l1 _ R (q _ (by simp))⟩
  · exact Or.inr ⟨rfl, by decide, by decide, by decide, ⟨by decide, by decide⟩, ⟨by decide, by decide⟩, _, _, rfl, rfl, own_get _ R⟩
theorem own_sh_len3 {k z y0 y1 y2 : Int32} {vs : List Value} (h : own_sh 3 k z vs [y0, y1, y2]) : (z >>> (k &&& 31)) = 3 := by rcases h with ⟨rfl, rfl, -⟩ | ⟨rfl, rfl, -⟩ <;> decide
theorem own_sh_ne3 {k z y0 y1 y2 : Int32} {vs : List Value} (h : own_sh 3 k z vs [y0, y1, y2]) : ¬ z = 0 := by rcases h with ⟨rfl, rfl, -⟩ | ⟨rfl, rfl, -⟩ <;> decide
theorem own_sh_ck3 {k z y0 y1 y2 : Int32} {vs : List Value} (h : own_sh 3 k z vs [y0, y1, y2]) : (((((3 : Int32) - z).toUInt32 >>> ((31 : Int32) &&& 31).toUInt32).toInt32).toInt8.toInt32) = k := by rcases h with ⟨rfl, rfl, -⟩ | ⟨rfl, rfl, -⟩ <;> decide
theorem own_sh_d3_1 {k z y0 y1 y2 : Int32} {vs : List Value} (h : own_sh 3 k z vs [y0, y1, y2]) : (k = 0 ∧ ¬ z = 1 ∧ z.toNatClampNeg ≠ (1 : Int32).toNatClampNeg) ∨ k = 1 := by
  rcases h with ⟨rfl, rfl, -⟩ | ⟨rfl, -⟩
  · exact Or.inl ⟨rfl, by decide, by decide⟩
  · exact Or.inr rfl
theorem own_sh_d3_2 {k z y0 y1 y2 : Int32} {vs : List Value} (h : own_sh 3 k z vs [y0, y1, y2]) : (k = 0 ∧ ¬ z = 2 ∧ z.toNatClampNeg ≠ (2 : Int32).toNatClampNeg) ∨ k = 1 := by
  rcases h with ⟨rfl, rfl, -⟩ | ⟨rfl, -⟩
  · exact Or.inl ⟨rfl, by decide, by decide⟩
  · exact Or.inr rfl
theorem own_sh_at3_0 {k z y0 y1 y2 : Int32} {vs : List Value} (h : own_sh 3 k z vs [y0, y1, y2]) (R : y0.toUInt32.toUInt16.toUInt32.toInt32 = y0) : own_at k z vs 0 y0 3 := by
  rcases h with ⟨rfl, rfl, rfl, q⟩ | ⟨rfl, rfl, rfl, -⟩
  · exact Or.inl ⟨rfl, by decide, by decide, _, rfl, own_l1 _ R (q _ (by simp))⟩
  · exact Or.inr ⟨rfl, by decide, by decide, by decide, ⟨by decide, by decide⟩, ⟨by decide, by decide⟩, _, _, rfl, rfl, own_get _ R⟩
theorem own_sh_at3_1 {k z y0 y1 y2 : Int32} {vs : List Value} (h : own_sh 3 k z vs [y0, y1, y2]) (R : y1.toUInt32.toUInt16.toUInt32.toInt32 = y1) : own_at k z vs 1 y1 3 := by
  rcases h with ⟨rfl, rfl, rfl, q⟩ | ⟨rfl, rfl, rfl, -⟩
  · exact Or.inl ⟨rfl, by decide, by decide, _, rfl, own_l1 _ R (q _ (by simp))⟩
  · exact Or.inr ⟨rfl, by decide, by decide, by decide, ⟨by decide, by decide⟩, ⟨by decide, by decide⟩, _, _, rfl, rfl, own_get _ R⟩
theorem own_sh_at3_2 {k z y0 y1 y2 : Int32} {vs : List Value} (h : own_sh 3 k z vs [y0, y1, y2]) (R : y2.toUInt32.toUInt16.toUInt32.toInt32 = y2) : own_at k z vs 2 y2 3 := by
  rcases h with ⟨rfl, rfl, rfl, q⟩ | ⟨rfl, rfl, rfl, -⟩
  · exact Or.inl ⟨rfl, by decide, by decide, _, rfl, own_l1 _ R (q _ (by simp))⟩
  · exact Or.inr ⟨rfl, by decide, by decide, by decide, ⟨by decide, by decide⟩, ⟨by decide, by decide⟩, _, _, rfl, rfl, own_get _ R⟩
theorem own_EW {Z : State} {a0 : Array Value} (hw : ∀ d ∈ tables_1, d.before a0 Z = true) : EW Z a0 consts_1 := (EW.cons (own_w hw 70 rfl) (by decide) (EW.cons (own_w hw 77 rfl) (by decide) (EW.cons (own_w hw 135 rfl) (by decide) (EW.cons (own_w hw 19 rfl) (by decide) EW.nil))))
def own_draw (p0 : Int32) : Int32 := (if (p0 &&& (65536 : Int32)) = (0 : Int32) then ((p0 &&& (127 : Int32)).toUInt32.toUInt16.toUInt32.toInt32) else ((p0 &&& (65535 : Int32)).toUInt32.toUInt16.toUInt32.toInt32))
theorem d1_0 : decode method_2_code 0 = .ok (.iload_n 0, 1) := by decide +kernel
theorem d1_1 : decode method_2_code 1 = .ok (.ldc 7, 2) := by decide +kernel
theorem d1_3 : decode method_2_code 3 = .ok (.iand, 1) := by decide +kernel
theorem d1_4 : decode method_2_code 4 = .ok (.ifCond .eq 9, 3) := by decide +kernel
theorem d1_7 : decode method_2_code 7 = .ok (.iload_n 0, 1) := by decide +kernel
theorem d1_8 : decode method_2_code 8 = .ok (.ldc 8, 2) := by decide +kernel
theorem d1_10 : decode method_2_code 10 = .ok (.iand, 1) := by decide +kernel
theorem d1_11 : decode method_2_code 11 = .ok (.i2c, 1) := by decide +kernel
theorem d1_12 : decode method_2_code 12 = .ok (.ireturn, 1) := by decide +kernel
theorem d1_13 : decode method_2_code 13 = .ok (.iload_n 0, 1) := by decide +kernel
theorem d1_14 : decode method_2_code 14 = .ok (.bipush 127, 2) := by decide +kernel
theorem d1_16 : decode method_2_code 16 = .ok (.iand, 1) := by decide +kernel
theorem d1_17 : decode method_2_code 17 = .ok (.i2c, 1) := by decide +kernel
theorem d1_18 : decode method_2_code 18 = .ok (.ireturn, 1) := by decide +kernel
theorem pn_1 : plainName "com/example/rackline/rackline/core/NamesIsValidPinLaw" = true := by first | (simp [plainName, overriddenIn]; done) | decide +kernel
theorem ef_1 (m : MethodId) (x0 : Int32) : entryFrame m #[(.int x0)] 1 = mkF m 0 #[.val (.int x0)] [] := by first | (simp [entryFrame, mkF, argsToLocals, Value.category]; done) | rfl
def Q1 (Z : State) (p0 : Int32) (h0 : Heap) (n0 : Nat) (v : Option Value) (h : Heap) (L : List Loc) : Prop := v = some (.int (own_draw p0)) ∧ Fr n0 L ∧ h = h0
set_option maxRecDepth 65536 in
set_option maxHeartbeats 40000000 in
theorem rm1 (l : Launch) (Z : State) (a0 : Array Value) (hw : ∀ d ∈ tables_1, d.before a0 Z = true) (ws : List Jvm.Cond) (p0 : Int32) (h0 : Heap) (n0 : Nat) (Z0 : n0 ≤ h0.size) :
    MetFree l (⟨"com/example/rackline/rackline/core/NamesIsValidPinLaw", "draw", "(I)C"⟩ : MethodName) (head1 (Jvm.Cond.code (⟨"com/example/rackline/rackline/core/NamesIsValidPinLaw", "draw", "(I)C"⟩ : MethodName) method_2_code 1 (some .char) :: ws) ({ frames := 0, cells := 0, slots := 0, locals := 0 } : Room)) (fun a U => a = #[(.int p0)] ∧ Z.Warmed39 U.vm ∧ U.heap = h0) (fun _ _ _ _ _ => True) (fun _ U o U' => ∃ v L, o = .returned v ∧ Q1 Z p0 h0 n0 v U'.heap L ∧ FrameEnd U o U' L ({ frames := 0, cells := 0, slots := 0, locals := 0 } : Room).cells ({ frames := 0, cells := 0, slots := 0, locals := 0 } : Room).slots) := by
  refine MetFree.of_bodySF (plainFor_of_name pn_1) hisR ?_
  intro p e s m args below meth c s₁ Bd hml0 hP hK
  obtain ⟨rfl, hZ, hh⟩ := hP
  have hx := Bd.exec
  have hby := Bd.bytes
  have hml : c.maxLocals = 1 := hml0
  have hown : s.vm.findClass "com/example/rackline/rackline/core/NamesIsValidPinLaw" = some m.cls := findClass_of_methodNamed Bd.named
  have hnm := (name_of_methodNamed Bd.named Bd.method).1
  have hlk : meth.locks = false := by first | exact BodyLoose.notSynchronized Bd | exact Body.notSynchronized Bd
  have X0 : Stand p l e ({ frames := 0, cells := 0, slots := 0, locals := 0 } : Room) s m #[(.int p0)] below meth c s₁ [] 0 0 := Stand.of_body Bd
  have e0 : s₁.heap = h0 := by rw [← hh, Bd.state]; rfl
  have N0 := Fr.nil n0
  have k0 : own_R p e below (s₁.setTop (entryFrame m #[(.int p0)] 1)) (s₁.setTop (mkF m 0 #[vI p0] [])) := fun t k => castTop (ef_1 m p0) k
  obtain ⟨A0, hA0⟩ : ∃ z, z = s₁.setTop (entryFrame m #[(.int p0)] 1) := ⟨_, rfl⟩
  rw [← hA0] at k0
  have kz : ∀ t, Steps p.tables e below A0 t → Steps p.tables e below (s₁.setTop (entryFrame m #[(.int p0)] 1)) t := fun t q => hA0 ▸ q
  have ks1 : own_R p e below (A0) (s₁.setTop (mkF m 4 #[vI p0] [(.int (p0 &&& (65536 : Int32)))])) := fun t k => k0 t (by
    refine XS.iloadN X0.here hx rfl (hb hby d1_0) rfl ?_
    refine X0.ldcInt hx hown (mvT hZ (own_w hw 4 rfl)) (g := (mkF m 1 #[vI p0] [(.int p0)])) rfl (hb hby d1_1) _ ?_
    refine XS.iand X0.here hx rfl (hb hby d1_3) rfl ?_
    exact k)
  by_cases hc2 : (p0 &&& (65536 : Int32)) = (0 : Int32)
  · skip
    have ks3 : own_R p e below (A0) (s₁.setTop (mkF m 18 #[vI p0] [(.int ((p0 &&& (127 : Int32)).toUInt32.toUInt16.toUInt32.toInt32))])) := fun t k => ks1 t (by
      refine XS.ifYes X0.here hx rfl (pc0 := 4) (pc' := 13) rfl (hb hby d1_4) rfl ((if0 _ _).trans (teq hc2).1) (by decide) (by decide) ?_
      refine XS.iloadN X0.here hx rfl (hb hby d1_13) rfl ?_
      refine XS.bipush X0.here hx rfl (hb hby d1_14) ?_
      show Steps p.tables e below (s₁.setTop (mkF m 16 #[vI p0] [(.int 127), (.int p0)])) _
      refine XS.iand X0.here hx rfl (hb hby d1_16) rfl ?_
      refine XS.i2c X0.here hx rfl (hb hby d1_17) rfl ?_
      exact k)
    obtain ⟨fs, hr, hrun, hended, hW, hsame⟩ := X0.leave (v := some (.int ((p0 &&& (127 : Int32)).toUInt32.toUInt16.toUInt32.toInt32))) (fun h => by rw [Bd.returns] at h; cases h) hlk
    refine ⟨_, _, kz _ (ks3 _ ?_), hrun, hended, _, _, rfl, ?_, ⟨_, rfl⟩, hW, hsame.mono (by decide) (by decide)⟩
    · exact retOut X0 hx Bd.returns (own_nc _) (Or.inl ⟨rfl, by simp, _, rfl⟩) (hb hby d1_18) hr
    · show Q1 Z p0 h0 n0 _ s₁.heap _
      rw [e0]
      refine ⟨?_, N0, rfl⟩
      rw [own_draw, if_pos hc2]
  · skip
    have ks4 : own_R p e below (A0) (s₁.setTop (mkF m 12 #[vI p0] [(.int ((p0 &&& (65535 : Int32)).toUInt32.toUInt16.toUInt32.toInt32))])) := fun t k => ks1 t (by
      refine XS.ifNo X0.here hx rfl (hb hby d1_4) rfl ((if0 _ _).trans (feq hc2).1) ?_
      refine XS.iloadN X0.here hx rfl (hb hby d1_7) rfl ?_
      refine X0.ldcInt hx hown (mvT hZ (own_w hw 36 rfl)) (g := (mkF m 8 #[vI p0] [(.int p0)])) rfl (hb hby d1_8) _ ?_
      show Steps p.tables e below (s₁.setTop (mkF m 10 #[vI p0] [(.int 65535), (.int p0)])) _
      refine XS.iand X0.here hx rfl (hb hby d1_10) rfl ?_
      refine XS.i2c X0.here hx rfl (hb hby d1_11) rfl ?_
      exact k)
    obtain ⟨fs, hr, hrun, hended, hW, hsame⟩ := X0.leave (v := some (.int ((p0 &&& (65535 : Int32)).toUInt32.toUInt16.toUInt32.toInt32))) (fun h => by rw [Bd.returns] at h; cases h) hlk
    refine ⟨_, _, kz _ (ks4 _ ?_), hrun, hended, _, _, rfl, ?_, ⟨_, rfl⟩, hW, hsame.mono (by decide) (by decide)⟩
    · exact retOut X0 hx Bd.returns (own_nc _) (Or.inl ⟨rfl, by simp, _, rfl⟩) (hb hby d1_12) hr
    · show Q1 Z p0 h0 n0 _ s₁.heap _
      rw [e0]
      refine ⟨?_, N0, rfl⟩
      rw [own_draw, if_neg hc2]
def own_ok (p0 : Int32) : Int32 := (if p0 < (33 : Int32) then (0 : Int32) else (if (126 : Int32) < p0 then (0 : Int32) else (if p0 = (34 : Int32) then (0 : Int32) else (if p0 = (35 : Int32) then (0 : Int32) else (if p0 = (42 : Int32) then (0 : Int32) else (if p0 = (44 : Int32) then (0 : Int32) else (if p0 = (47 : Int32) then (0 : Int32) else (if p0 = (58 : Int32) then (0 : Int32) else (if p0 = (63 : Int32) then (0 : Int32) else (if p0 = (91 : Int32) then (0 : Int32) else (if p0 = (93 : Int32) then (0 : Int32) else (if p0 = (123 : Int32) then (0 : Int32) else (if p0 = (125 : Int32) then (0 : Int32) else (1 : Int32))))))))))))))
theorem d15_0 : decode method_3_code 0 = .ok (.iload_n 0, 1) := by decide +kernel
theorem d15_1 : decode method_3_code 1 = .ok (.bipush 33, 2) := by decide +kernel
theorem d15_3 : decode method_3_code 3 = .ok (.if_icmp .lt 9, 3) := by decide +kernel
theorem d15_6 : decode method_3_code 6 = .ok (.iload_n 0, 1) := by decide +kernel
theorem d15_7 : decode method_3_code 7 = .ok (.bipush 126, 2) := by decide +kernel
theorem d15_9 : decode method_3_code 9 = .ok (.if_icmp .le 5, 3) := by decide +kernel
theorem d15_12 : decode method_3_code 12 = .ok (.iconst 0, 1) := by decide +kernel
theorem d15_13 : decode method_3_code 13 = .ok (.ireturn, 1) := by decide +kernel
theorem d15_14 : decode method_3_code 14 = .ok (.iload_n 0, 1) := by decide +kernel
theorem d15_15 : decode method_3_code 15 = .ok (.bipush 34, 2) := by decide +kernel
theorem d15_17 : decode method_3_code 17 = .ok (.if_icmp .eq 33, 3) := by decide +kernel
theorem d15_20 : decode method_3_code 20 = .ok (.iload_n 0, 1) := by decide +kernel
theorem d15_21 : decode method_3_code 21 = .ok (.bipush 35, 2) := by decide +kernel
theorem d15_23 : decode method_3_code 23 = .ok (.if_icmp .eq 27, 3) := by decide +kernel
theorem d15_26 : decode method_3_code 26 = .ok (.iload_n 0, 1) := by decide +kernel
theorem d15_27 : decode method_3_code 27 = .ok (.bipush 42, 2) := by decide +kernel
theorem d15_29 : decode method_3_code 29 = .ok (.if_icmp .eq 21, 3) := by decide +kernel
theorem d15_32 : decode method_3_code 32 = .ok (.iload_n 0, 1) := by decide +kernel
theorem d15_33 : decode method_3_code 33 = .ok (.bipush 44, 2) := by decide +kernel
theorem d15_35 : decode method_3_code 35 = .ok (.if_icmp .eq 15, 3) := by decide +kernel
theorem d15_38 : decode method_3_code 38 = .ok (.iload_n 0, 1) := by decide +kernel
theorem d15_39 : decode method_3_code 39 = .ok (.bipush 47, 2) := by decide +kernel
theorem d15_41 : decode method_3_code 41 = .ok (.if_icmp .eq 9, 3) := by decide +kernel
theorem d15_44 : decode method_3_code 44 = .ok (.iload_n 0, 1) := by decide +kernel
theorem d15_45 : decode method_3_code 45 = .ok (.bipush 58, 2) := by decide +kernel
theorem d15_47 : decode method_3_code 47 = .ok (.if_icmp .ne 5, 3) := by decide +kernel
theorem d15_50 : decode method_3_code 50 = .ok (.iconst 0, 1) := by decide +kernel
theorem d15_51 : decode method_3_code 51 = .ok (.ireturn, 1) := by decide +kernel
theorem d15_52 : decode method_3_code 52 = .ok (.iload_n 0, 1) := by decide +kernel
theorem d15_53 : decode method_3_code 53 = .ok (.bipush 63, 2) := by decide +kernel
theorem d15_55 : decode method_3_code 55 = .ok (.if_icmp .eq 27, 3) := by decide +kernel
theorem d15_58 : decode method_3_code 58 = .ok (.iload_n 0, 1) := by decide +kernel
theorem d15_59 : decode method_3_code 59 = .ok (.bipush 91, 2) := by decide +kernel
theorem d15_61 : decode method_3_code 61 = .ok (.if_icmp .eq 21, 3) := by decide +kernel
theorem d15_64 : decode method_3_code 64 = .ok (.iload_n 0, 1) := by decide +kernel
theorem d15_65 : decode method_3_code 65 = .ok (.bipush 93, 2) := by decide +kernel
theorem d15_67 : decode method_3_code 67 = .ok (.if_icmp .eq 15, 3) := by decide +kernel
theorem d15_70 : decode method_3_code 70 = .ok (.iload_n 0, 1) := by decide +kernel
theorem d15_71 : decode method_3_code 71 = .ok (.bipush 123, 2) := by decide +kernel
theorem d15_73 : decode method_3_code 73 = .ok (.if_icmp .eq 9, 3) := by decide +kernel
theorem d15_76 : decode method_3_code 76 = .ok (.iload_n 0, 1) := by decide +kernel
theorem d15_77 : decode method_3_code 77 = .ok (.bipush 125, 2) := by decide +kernel
theorem d15_79 : decode method_3_code 79 = .ok (.if_icmp .ne 5, 3) := by decide +kernel
theorem d15_82 : decode method_3_code 82 = .ok (.iconst 0, 1) := by decide +kernel
theorem d15_83 : decode method_3_code 83 = .ok (.ireturn, 1) := by decide +kernel
theorem d15_84 : decode method_3_code 84 = .ok (.iconst 1, 1) := by decide +kernel
theorem d15_85 : decode method_3_code 85 = .ok (.ireturn, 1) := by decide +kernel
theorem pn_15 : plainName "com/example/rackline/rackline/core/NamesIsValidPinLaw" = true := by first | (simp [plainName, overriddenIn]; done) | decide +kernel
theorem ef_15 (m : MethodId) (x0 : Int32) : entryFrame m #[(.int x0)] 1 = mkF m 0 #[.val (.int x0)] [] := by first | (simp [entryFrame, mkF, argsToLocals, Value.category]; done) | rfl
def Q15 (Z : State) (p0 : Int32) (h0 : Heap) (n0 : Nat) (v : Option Value) (h : Heap) (L : List Loc) : Prop := v = some (.int (own_ok p0)) ∧ Fr n0 L ∧ h = h0
set_option maxRecDepth 65536 in
set_option maxHeartbeats 40000000 in
theorem rm15 (l : Launch) (Z : State) (a0 : Array Value) (hw : ∀ d ∈ tables_1, d.before a0 Z = true) (ws : List Jvm.Cond) (p0 : Int32) (h0 : Heap) (n0 : Nat) (Z0 : n0 ≤ h0.size) :
    MetFree l (⟨"com/example/rackline/rackline/core/NamesIsValidPinLaw", "ok", "(C)Z"⟩ : MethodName) (head1 (Jvm.Cond.code (⟨"com/example/rackline/rackline/core/NamesIsValidPinLaw", "ok", "(C)Z"⟩ : MethodName) method_3_code 1 (some .boolean) :: ws) ({ frames := 0, cells := 0, slots := 0, locals := 0 } : Room)) (fun a U => a = #[(.int p0)] ∧ Z.Warmed39 U.vm ∧ U.heap = h0) (fun _ _ _ _ _ => True) (fun _ U o U' => ∃ v L, o = .returned v ∧ Q15 Z p0 h0 n0 v U'.heap L ∧ FrameEnd U o U' L ({ frames := 0, cells := 0, slots := 0, locals := 0 } : Room).cells ({ frames := 0, cells := 0, slots := 0, locals := 0 } : Room).slots) := by
  refine MetFree.of_bodySF (plainFor_of_name pn_15) hisR ?_
  intro p e s m args below meth c s₁ Bd hml0 hP hK
  obtain ⟨rfl, hZ, hh⟩ := hP
  have hx := Bd.exec
  have hby := Bd.bytes
  have hml : c.maxLocals = 1 := hml0
  have hown : s.vm.findClass "com/example/rackline/rackline/core/NamesIsValidPinLaw" = some m.cls := findClass_of_methodNamed Bd.named
  have hnm := (name_of_methodNamed Bd.named Bd.method).1
  have hlk : meth.locks = false := by first | exact BodyLoose.notSynchronized Bd | exact Body.notSynchronized Bd
  have X0 : Stand p l e ({ frames := 0, cells := 0, slots := 0, locals := 0 } : Room) s m #[(.int p0)] below meth c s₁ [] 0 0 := Stand.of_body Bd
  have e0 : s₁.heap = h0 := by rw [← hh, Bd.state]; rfl
  have N0 := Fr.nil n0
  have k0 : own_R p e below (s₁.setTop (entryFrame m #[(.int p0)] 1)) (s₁.setTop (mkF m 0 #[vI p0] [])) := fun t k => castTop (ef_15 m p0) k
  obtain ⟨A0, hA0⟩ : ∃ z, z = s₁.setTop (entryFrame m #[(.int p0)] 1) := ⟨_, rfl⟩
  rw [← hA0] at k0
  have kz : ∀ t, Steps p.tables e below A0 t → Steps p.tables e below (s₁.setTop (entryFrame m #[(.int p0)] 1)) t := fun t q => hA0 ▸ q
  have ks1 : own_R p e below (A0) (s₁.setTop (mkF m 3 #[vI p0] [(.int 33), (.int p0)])) := fun t k => k0 t (by
    refine XS.iloadN X0.here hx rfl (hb hby d15_0) rfl ?_
    refine XS.bipush X0.here hx rfl (hb hby d15_1) ?_
    exact k)
  by_cases hc2 : p0 < (33 : Int32)
  · skip
    have ks3 : own_R p e below (A0) (s₁.setTop (mkF m 13 #[vI p0] [(.int 0)])) := fun t k => ks1 t (by
      refine XS.icmpYes X0.here hx rfl (pc0 := 3) (pc' := 12) rfl (hb hby d15_3) rfl (tlt hc2).1 (by decide) (by decide) ?_
      refine XS.iconst X0.here hx rfl (hb hby d15_12) ?_
      exact k)
    obtain ⟨fs, hr, hrun, hended, hW, hsame⟩ := X0.leave (v := some (.int 0)) (fun h => by rw [Bd.returns] at h; cases h) hlk
    refine ⟨_, _, kz _ (ks3 _ ?_), hrun, hended, _, _, rfl, ?_, ⟨_, rfl⟩, hW, hsame.mono (by decide) (by decide)⟩
    · exact retN X0 hx (t := .boolean) Bd.returns (by simp) (hb hby d15_13) hr
    · show Q15 Z p0 h0 n0 _ s₁.heap _
      rw [e0]
      refine ⟨?_, N0, rfl⟩
      rw [own_ok, if_pos hc2]
  · skip
    have ks4 : own_R p e below (A0) (s₁.setTop (mkF m 9 #[vI p0] [(.int 126), (.int p0)])) := fun t k => ks1 t (by
      refine XS.icmpNo X0.here hx rfl (hb hby d15_3) rfl (flt hc2).1 ?_
      refine XS.iloadN X0.here hx rfl (hb hby d15_6) rfl ?_
      refine XS.bipush X0.here hx rfl (hb hby d15_7) ?_
      exact k)
    by_cases hc5 : (126 : Int32) < p0
    · skip
      have ks6 : own_R p e below (A0) (s₁.setTop (mkF m 13 #[vI p0] [(.int 0)])) := fun t k => ks4 t (by
        refine XS.icmpNo X0.here hx rfl (hb hby d15_9) rfl (tlt hc5).2.2.2 ?_
        refine XS.iconst X0.here hx rfl (hb hby d15_12) ?_
        exact k)
      obtain ⟨fs, hr, hrun, hended, hW, hsame⟩ := X0.leave (v := some (.int 0)) (fun h => by rw [Bd.returns] at h; cases h) hlk
      refine ⟨_, _, kz _ (ks6 _ ?_), hrun, hended, _, _, rfl, ?_, ⟨_, rfl⟩, hW, hsame.mono (by decide) (by decide)⟩
      · exact retN X0 hx (t := .boolean) Bd.returns (by simp) (hb hby d15_13) hr
      · show Q15 Z p0 h0 n0 _ s₁.heap _
        rw [e0]
        refine ⟨?_, N0, rfl⟩
        rw [own_ok, if_neg hc2, if_pos hc5]
    · skip
      have ks7 : own_R p e below (A0) (s₁.setTop (mkF m 17 #[vI p0] [(.int 34), (.int p0)])) := fun t k => ks4 t (by
        refine XS.icmpYes X0.here hx rfl (pc0 := 9) (pc' := 14) rfl (hb hby d15_9) rfl (flt hc5).2.2.2 (by decide) (by decide) ?_
        refine XS.iloadN X0.here hx rfl (hb hby d15_14) rfl ?_
        refine XS.bipush X0.here hx rfl (hb hby d15_15) ?_
        exact k)
      by_cases hc8 : p0 = (34 : Int32)
      · skip
        have ks9 : own_R p e below (A0) (s₁.setTop (mkF m 51 #[vI p0] [(.int 0)])) := fun t k => ks7 t (by
          refine XS.icmpYes X0.here hx rfl (pc0 := 17) (pc' := 50) rfl (hb hby d15_17) rfl (teq hc8).1 (by decide) (by decide) ?_
          refine XS.iconst X0.here hx rfl (hb hby d15_50) ?_
          exact k)
        obtain ⟨fs, hr, hrun, hended, hW, hsame⟩ := X0.leave (v := some (.int 0)) (fun h => by rw [Bd.returns] at h; cases h) hlk
        refine ⟨_, _, kz _ (ks9 _ ?_), hrun, hended, _, _, rfl, ?_, ⟨_, rfl⟩, hW, hsame.mono (by decide) (by decide)⟩
        · exact retN X0 hx (t := .boolean) Bd.returns (by simp) (hb hby d15_51) hr
        · show Q15 Z p0 h0 n0 _ s₁.heap _
          rw [e0]
          refine ⟨?_, N0, rfl⟩
          rw [own_ok, if_neg hc2, if_neg hc5, if_pos hc8]
      · skip
        have ks10 : own_R p e below (A0) (s₁.setTop (mkF m 23 #[vI p0] [(.int 35), (.int p0)])) := fun t k => ks7 t (by
          refine XS.icmpNo X0.here hx rfl (hb hby d15_17) rfl (feq hc8).1 ?_
          refine XS.iloadN X0.here hx rfl (hb hby d15_20) rfl ?_
          refine XS.bipush X0.here hx rfl (hb hby d15_21) ?_
          exact k)
        by_cases hc11 : p0 = (35 : Int32)
        · skip
          have ks12 : own_R p e below (A0) (s₁.setTop (mkF m 51 #[vI p0] [(.int 0)])) := fun t k => ks10 t (by
            refine XS.icmpYes X0.here hx rfl (pc0 := 23) (pc' := 50) rfl (hb hby d15_23) rfl (teq hc11).1 (by decide) (by decide) ?_
            refine XS.iconst X0.here hx rfl (hb hby d15_50) ?_
            exact k)
          obtain ⟨fs, hr, hrun, hended, hW, hsame⟩ := X0.leave (v := some (.int 0)) (fun h => by rw [Bd.returns] at h; cases h) hlk
          refine ⟨_, _, kz _ (ks12 _ ?_), hrun, hended, _, _, rfl, ?_, ⟨_, rfl⟩, hW, hsame.mono (by decide) (by decide)⟩
          · exact retN X0 hx (t := .boolean) Bd.returns (by simp) (hb hby d15_51) hr
          · show Q15 Z p0 h0 n0 _ s₁.heap _
            rw [e0]
            refine ⟨?_, N0, rfl⟩
            rw [own_ok, if_neg hc2, if_neg hc5, if_neg hc8, if_pos hc11]
        · skip
          have ks13 : own_R p e below (A0) (s₁.setTop (mkF m 29 #[vI p0] [(.int 42), (.int p0)])) := fun t k => ks10 t (by
            refine XS.icmpNo X0.here hx rfl (hb hby d15_23) rfl (feq hc11).1 ?_
            refine XS.iloadN X0.here hx rfl (hb hby d15_26) rfl ?_
            refine XS.bipush X0.here hx rfl (hb hby d15_27) ?_
            exact k)
          by_cases hc14 : p0 = (42 : Int32)
          · skip
            have ks15 : own_R p e below (A0) (s₁.setTop (mkF m 51 #[vI p0] [(.int 0)])) := fun t k => ks13 t (by
              refine XS.icmpYes X0.here hx rfl (pc0 := 29) (pc' := 50) rfl (hb hby d15_29) rfl (teq hc14).1 (by decide) (by decide) ?_
              refine XS.iconst X0.here hx rfl (hb hby d15_50) ?_
              exact k)
            obtain ⟨fs, hr, hrun, hended, hW, hsame⟩ := X0.leave (v := some (.int 0)) (fun h => by rw [Bd.returns] at h; cases h) hlk
            refine ⟨_, _, kz _ (ks15 _ ?_), hrun, hended, _, _, rfl, ?_, ⟨_, rfl⟩, hW, hsame.mono (by decide) (by decide)⟩
            · exact retN X0 hx (t := .boolean) Bd.returns (by simp) (hb hby d15_51) hr
            · show Q15 Z p0 h0 n0 _ s₁.heap _
              rw [e0]
              refine ⟨?_, N0, rfl⟩
              rw [own_ok, if_neg hc2, if_neg hc5, if_neg hc8, if_neg hc11, if_pos hc14]
          · skip
            have ks16 : own_R p e below (A0) (s₁.setTop (mkF m 35 #[vI p0] [(.int 44), (.int p0)])) := fun t k => ks13 t (by
              refine XS.icmpNo X0.here hx rfl (hb hby d15_29) rfl (feq hc14).1 ?_
              refine XS.iloadN X0.here hx rfl (hb hby d15_32) rfl ?_
              refine XS.bipush X0.here hx rfl (hb hby d15_33) ?_
              exact k)
            by_cases hc17 : p0 = (44 : Int32)
            · skip
              have ks18 : own_R p e below (A0) (s₁.setTop (mkF m 51 #[vI p0] [(.int 0)])) := fun t k => ks16 t (by
                refine XS.icmpYes X0.here hx rfl (pc0 := 35) (pc' := 50) rfl (hb hby d15_35) rfl (teq hc17).1 (by decide) (by decide) ?_
                refine XS.iconst X0.here hx rfl (hb hby d15_50) ?_
                exact k)
              obtain ⟨fs, hr, hrun, hended, hW, hsame⟩ := X0.leave (v := some (.int 0)) (fun h => by rw [Bd.returns] at h; cases h) hlk
              refine ⟨_, _, kz _ (ks18 _ ?_), hrun, hended, _, _, rfl, ?_, ⟨_, rfl⟩, hW, hsame.mono (by decide) (by decide)⟩
              · exact retN X0 hx (t := .boolean) Bd.returns (by simp) (hb hby d15_51) hr
              · show Q15 Z p0 h0 n0 _ s₁.heap _
                rw [e0]
                refine ⟨?_, N0, rfl⟩
                rw [own_ok, if_neg hc2, if_neg hc5, if_neg hc8, if_neg hc11, if_neg hc14, if_pos hc17]
            · skip
              have ks19 : own_R p e below (A0) (s₁.setTop (mkF m 41 #[vI p0] [(.int 47), (.int p0)])) := fun t k => ks16 t (by
                refine XS.icmpNo X0.here hx rfl (hb hby d15_35) rfl (feq hc17).1 ?_
                refine XS.iloadN X0.here hx rfl (hb hby d15_38) rfl ?_
                refine XS.bipush X0.here hx rfl (hb hby d15_39) ?_
                exact k)
              by_cases hc20 : p0 = (47 : Int32)
              · skip
                have ks21 : own_R p e below (A0) (s₁.setTop (mkF m 51 #[vI p0] [(.int 0)])) := fun t k => ks19 t (by
                  refine XS.icmpYes X0.here hx rfl (pc0 := 41) (pc' := 50) rfl (hb hby d15_41) rfl (teq hc20).1 (by decide) (by decide) ?_
                  refine XS.iconst X0.here hx rfl (hb hby d15_50) ?_
                  exact k)
                obtain ⟨fs, hr, hrun, hended, hW, hsame⟩ := X0.leave (v := some (.int 0)) (fun h => by rw [Bd.returns] at h; cases h) hlk
                refine ⟨_, _, kz _ (ks21 _ ?_), hrun, hended, _, _, rfl, ?_, ⟨_, rfl⟩, hW, hsame.mono (by decide) (by decide)⟩
                · exact retN X0 hx (t := .boolean) Bd.returns (by simp) (hb hby d15_51) hr
                · show Q15 Z p0 h0 n0 _ s₁.heap _
                  rw [e0]
                  refine ⟨?_, N0, rfl⟩
                  rw [own_ok, if_neg hc2, if_neg hc5, if_neg hc8, if_neg hc11, if_neg hc14, if_neg hc17, if_pos hc20]
              · skip
                have ks22 : own_R p e below (A0) (s₁.setTop (mkF m 47 #[vI p0] [(.int 58), (.int p0)])) := fun t k => ks19 t (by
                  refine XS.icmpNo X0.here hx rfl (hb hby d15_41) rfl (feq hc20).1 ?_
                  refine XS.iloadN X0.here hx rfl (hb hby d15_44) rfl ?_
                  refine XS.bipush X0.here hx rfl (hb hby d15_45) ?_
                  exact k)
                by_cases hc23 : p0 = (58 : Int32)
                · skip
                  have ks24 : own_R p e below (A0) (s₁.setTop (mkF m 51 #[vI p0] [(.int 0)])) := fun t k => ks22 t (by
                    refine XS.icmpNo X0.here hx rfl (hb hby d15_47) rfl (teq hc23).2 ?_
                    refine XS.iconst X0.here hx rfl (hb hby d15_50) ?_
                    exact k)
                  obtain ⟨fs, hr, hrun, hended, hW, hsame⟩ := X0.leave (v := some (.int 0)) (fun h => by rw [Bd.returns] at h; cases h) hlk
                  refine ⟨_, _, kz _ (ks24 _ ?_), hrun, hended, _, _, rfl, ?_, ⟨_, rfl⟩, hW, hsame.mono (by decide) (by decide)⟩
                  · exact retN X0 hx (t := .boolean) Bd.returns (by simp) (hb hby d15_51) hr
                  · show Q15 Z p0 h0 n0 _ s₁.heap _
                    rw [e0]
                    refine ⟨?_, N0, rfl⟩
                    rw [own_ok, if_neg hc2, if_neg hc5, if_neg hc8, if_neg hc11, if_neg hc14, if_neg hc17, if_neg hc20, if_pos hc23]
                · skip
                  have ks25 : own_R p e below (A0) (s₁.setTop (mkF m 55 #[vI p0] [(.int 63), (.int p0)])) := fun t k => ks22 t (by
                    refine XS.icmpYes X0.here hx rfl (pc0 := 47) (pc' := 52) rfl (hb hby d15_47) rfl (feq hc23).2 (by decide) (by decide) ?_
                    refine XS.iloadN X0.here hx rfl (hb hby d15_52) rfl ?_
                    refine XS.bipush X0.here hx rfl (hb hby d15_53) ?_
                    exact k)
                  by_cases hc26 : p0 = (63 : Int32)
                  · skip
                    have ks27 : own_R p e below (A0) (s₁.setTop (mkF m 83 #[vI p0] [(.int 0)])) := fun t k => ks25 t (by
                      refine XS.icmpYes X0.here hx rfl (pc0 := 55) (pc' := 82) rfl (hb hby d15_55) rfl (teq hc26).1 (by decide) (by decide) ?_
                      refine XS.iconst X0.here hx rfl (hb hby d15_82) ?_
                      exact k)
                    obtain ⟨fs, hr, hrun, hended, hW, hsame⟩ := X0.leave (v := some (.int 0)) (fun h => by rw [Bd.returns] at h; cases h) hlk
                    refine ⟨_, _, kz _ (ks27 _ ?_), hrun, hended, _, _, rfl, ?_, ⟨_, rfl⟩, hW, hsame.mono (by decide) (by decide)⟩
                    · exact retN X0 hx (t := .boolean) Bd.returns (by simp) (hb hby d15_83) hr
                    · show Q15 Z p0 h0 n0 _ s₁.heap _
                      rw [e0]
                      refine ⟨?_, N0, rfl⟩
                      rw [own_ok, if_neg hc2, if_neg hc5, if_neg hc8, if_neg hc11, if_neg hc14, if_neg hc17, if_neg hc20, if_neg hc23, if_pos hc26]
                  · skip
                    have ks28 : own_R p e below (A0) (s₁.setTop (mkF m 61 #[vI p0] [(.int 91), (.int p0)])) := fun t k => ks25 t (by
                      refine XS.icmpNo X0.here hx rfl (hb hby d15_55) rfl (feq hc26).1 ?_
                      refine XS.iloadN X0.here hx rfl (hb hby d15_58) rfl ?_
                      refine XS.bipush X0.here hx rfl (hb hby d15_59) ?_
                      exact k)
                    by_cases hc29 : p0 = (91 : Int32)
                    · skip
                      have ks30 : own_R p e below (A0) (s₁.setTop (mkF m 83 #[vI p0] [(.int 0)])) := fun t k => ks28 t (by
                        refine XS.icmpYes X0.here hx rfl (pc0 := 61) (pc' := 82) rfl (hb hby d15_61) rfl (teq hc29).1 (by decide) (by decide) ?_
                        refine XS.iconst X0.here hx rfl (hb hby d15_82) ?_
                        exact k)
                      obtain ⟨fs, hr, hrun, hended, hW, hsame⟩ := X0.leave (v := some (.int 0)) (fun h => by rw [Bd.returns] at h; cases h) hlk
                      refine ⟨_, _, kz _ (ks30 _ ?_), hrun, hended, _, _, rfl, ?_, ⟨_, rfl⟩, hW, hsame.mono (by decide) (by decide)⟩
                      · exact retN X0 hx (t := .boolean) Bd.returns (by simp) (hb hby d15_83) hr
                      · show Q15 Z p0 h0 n0 _ s₁.heap _
                        rw [e0]
                        refine ⟨?_, N0, rfl⟩
                        rw [own_ok, if_neg hc2, if_neg hc5, if_neg hc8, if_neg hc11, if_neg hc14, if_neg hc17, if_neg hc20, if_neg hc23, if_neg hc26, if_pos hc29]
                    · skip
                      have ks31 : own_R p e below (A0) (s₁.setTop (mkF m 67 #[vI p0] [(.int 93), (.int p0)])) := fun t k => ks28 t (by
                        refine XS.icmpNo X0.here hx rfl (hb hby d15_61) rfl (feq hc29).1 ?_
                        refine XS.iloadN X0.here hx rfl (hb hby d15_64) rfl ?_
                        refine XS.bipush X0.here hx rfl (hb hby d15_65) ?_
                        exact k)
                      by_cases hc32 : p0 = (93 : Int32)
                      · skip
                        have ks33 : own_R p e below (A0) (s₁.setTop (mkF m 83 #[vI p0] [(.int 0)])) := fun t k => ks31 t (by
                          refine XS.icmpYes X0.here hx rfl (pc0 := 67) (pc' := 82) rfl (hb hby d15_67) rfl (teq hc32).1 (by decide) (by decide) ?_
                          refine XS.iconst X0.here hx rfl (hb hby d15_82) ?_
                          exact k)
                        obtain ⟨fs, hr, hrun, hended, hW, hsame⟩ := X0.leave (v := some (.int 0)) (fun h => by rw [Bd.returns] at h; cases h) hlk
                        refine ⟨_, _, kz _ (ks33 _ ?_), hrun, hended, _, _, rfl, ?_, ⟨_, rfl⟩, hW, hsame.mono (by decide) (by decide)⟩
                        · exact retN X0 hx (t := .boolean) Bd.returns (by simp) (hb hby d15_83) hr
                        · show Q15 Z p0 h0 n0 _ s₁.heap _
                          rw [e0]
                          refine ⟨?_, N0, rfl⟩
                          rw [own_ok, if_neg hc2, if_neg hc5, if_neg hc8, if_neg hc11, if_neg hc14, if_neg hc17, if_neg hc20, if_neg hc23, if_neg hc26, if_neg hc29, if_pos hc32]
                      · skip
                        have ks34 : own_R p e below (A0) (s₁.setTop (mkF m 73 #[vI p0] [(.int 123), (.int p0)])) := fun t k => ks31 t (by
                          refine XS.icmpNo X0.here hx rfl (hb hby d15_67) rfl (feq hc32).1 ?_
                          refine XS.iloadN X0.here hx rfl (hb hby d15_70) rfl ?_
                          refine XS.bipush X0.here hx rfl (hb hby d15_71) ?_
                          exact k)
                        by_cases hc35 : p0 = (123 : Int32)
                        · skip
                          have ks36 : own_R p e below (A0) (s₁.setTop (mkF m 83 #[vI p0] [(.int 0)])) := fun t k => ks34 t (by
                            refine XS.icmpYes X0.here hx rfl (pc0 := 73) (pc' := 82) rfl (hb hby d15_73) rfl (teq hc35).1 (by decide) (by decide) ?_
                            refine XS.iconst X0.here hx rfl (hb hby d15_82) ?_
                            exact k)
                          obtain ⟨fs, hr, hrun, hended, hW, hsame⟩ := X0.leave (v := some (.int 0)) (fun h => by rw [Bd.returns] at h; cases h) hlk
                          refine ⟨_, _, kz _ (ks36 _ ?_), hrun, hended, _, _, rfl, ?_, ⟨_, rfl⟩, hW, hsame.mono (by decide) (by decide)⟩
                          · exact retN X0 hx (t := .boolean) Bd.returns (by simp) (hb hby d15_83) hr
                          · show Q15 Z p0 h0 n0 _ s₁.heap _
                            rw [e0]
                            refine ⟨?_, N0, rfl⟩
                            rw [own_ok, if_neg hc2, if_neg hc5, if_neg hc8, if_neg hc11, if_neg hc14, if_neg hc17, if_neg hc20, if_neg hc23, if_neg hc26, if_neg hc29, if_neg hc32, if_pos hc35]
                        · skip
                          have ks37 : own_R p e below (A0) (s₁.setTop (mkF m 79 #[vI p0] [(.int 125), (.int p0)])) := fun t k => ks34 t (by
                            refine XS.icmpNo X0.here hx rfl (hb hby d15_73) rfl (feq hc35).1 ?_
                            refine XS.iloadN X0.here hx rfl (hb hby d15_76) rfl ?_
                            refine XS.bipush X0.here hx rfl (hb hby d15_77) ?_
                            exact k)
                          by_cases hc38 : p0 = (125 : Int32)
                          · skip
                            have ks39 : own_R p e below (A0) (s₁.setTop (mkF m 83 #[vI p0] [(.int 0)])) := fun t k => ks37 t (by
                              refine XS.icmpNo X0.here hx rfl (hb hby d15_79) rfl (teq hc38).2 ?_
                              refine XS.iconst X0.here hx rfl (hb hby d15_82) ?_
                              exact k)
                            obtain ⟨fs, hr, hrun, hended, hW, hsame⟩ := X0.leave (v := some (.int 0)) (fun h => by rw [Bd.returns] at h; cases h) hlk
                            refine ⟨_, _, kz _ (ks39 _ ?_), hrun, hended, _, _, rfl, ?_, ⟨_, rfl⟩, hW, hsame.mono (by decide) (by decide)⟩
                            · exact retN X0 hx (t := .boolean) Bd.returns (by simp) (hb hby d15_83) hr
                            · show Q15 Z p0 h0 n0 _ s₁.heap _
                              rw [e0]
                              refine ⟨?_, N0, rfl⟩
                              rw [own_ok, if_neg hc2, if_neg hc5, if_neg hc8, if_neg hc11, if_neg hc14, if_neg hc17, if_neg hc20, if_neg hc23, if_neg hc26, if_neg hc29, if_neg hc32, if_neg hc35, if_pos hc38]
                          · skip
                            have ks40 : own_R p e below (A0) (s₁.setTop (mkF m 85 #[vI p0] [(.int 1)])) := fun t k => ks37 t (by
                              refine XS.icmpYes X0.here hx rfl (pc0 := 79) (pc' := 84) rfl (hb hby d15_79) rfl (feq hc38).2 (by decide) (by decide) ?_
                              refine XS.iconst X0.here hx rfl (hb hby d15_84) ?_
                              exact k)
                            obtain ⟨fs, hr, hrun, hended, hW, hsame⟩ := X0.leave (v := some (.int 1)) (fun h => by rw [Bd.returns] at h; cases h) hlk
                            refine ⟨_, _, kz _ (ks40 _ ?_), hrun, hended, _, _, rfl, ?_, ⟨_, rfl⟩, hW, hsame.mono (by decide) (by decide)⟩
                            · exact retN X0 hx (t := .boolean) Bd.returns (by simp) (hb hby d15_85) hr
                            · show Q15 Z p0 h0 n0 _ s₁.heap _
                              rw [e0]
                              refine ⟨?_, N0, rfl⟩
                              rw [own_ok, if_neg hc2, if_neg hc5, if_neg hc8, if_neg hc11, if_neg hc14, if_neg hc17, if_neg hc20, if_neg hc23, if_neg hc26, if_neg hc29, if_neg hc32, if_neg hc35, if_neg hc38]
theorem d18_0 : decode jdk_42_method_152_code 0 = .ok (.getstatic 38, 3) := by decide +kernel
theorem d18_3 : decode jdk_42_method_152_code 3 = .ok (.ifCond .eq 10, 3) := by decide +kernel
theorem d18_6 : decode jdk_42_method_152_code 6 = .ok (.aload_n 0, 1) := by decide +kernel
theorem d18_7 : decode jdk_42_method_152_code 7 = .ok (.getfield 15, 3) := by decide +kernel
theorem d18_10 : decode jdk_42_method_152_code 10 = .ok (.goto 4, 3) := by decide +kernel
theorem d18_14 : decode jdk_42_method_152_code 14 = .ok (.ireturn, 1) := by decide +kernel
theorem pn_18 : plainName "java/lang/String" = true := by first | (simp [plainName, overriddenIn]; done) | decide +kernel
theorem ef_18 (m : MethodId) (x0 : Addr) : entryFrame m #[(.ref x0)] 1 = mkF m 0 #[.val (.ref x0)] [] := by first | (simp [entryFrame, mkF, argsToLocals, Value.category]; done) | rfl
def Q18 (Z : State) (r0 : Addr) (y9 : Int32) (kd0 : Int32) (h0 : Heap) (n0 : Nat) (v : Option Value) (h : Heap) (L : List Loc) : Prop := v = some (.int kd0) ∧ Fr n0 L ∧ h = h0
set_option maxRecDepth 65536 in
set_option maxHeartbeats 40000000 in
theorem rm18 (l : Launch) (Z : State) (a0 : Array Value) (hw : ∀ d ∈ tables_1, d.before a0 Z = true) (ws : List Jvm.Cond) (r0 : Addr) (y9 : Int32) (kd0 : Int32) (h0 : Heap) (n0 : Nat) (Z0 : n0 ≤ h0.size) (S9 : own_S9 Z h0 y9) (P9 : ¬ y9 = (0 : Int32)) (Cd0 : own_Cd Z h0 r0 kd0) (hk0 : kd0.toInt8.toInt32 = kd0) :
    MetFree l (⟨"java/lang/String", "coder", "()B"⟩ : MethodName) (head1 (Jvm.Cond.code (⟨"java/lang/String", "coder", "()B"⟩ : MethodName) jdk_42_method_152_code 1 (some .byte) :: ws) ({ frames := 0, cells := 0, slots := 0, locals := 0 } : Room)) (fun a U => a = #[(.ref r0)] ∧ Z.Warmed39 U.vm ∧ U.heap = h0) (fun _ _ _ _ _ => True) (fun _ U o U' => ∃ v L, o = .returned v ∧ Q18 Z r0 y9 kd0 h0 n0 v U'.heap L ∧ FrameEnd U o U' L ({ frames := 0, cells := 0, slots := 0, locals := 0 } : Room).cells ({ frames := 0, cells := 0, slots := 0, locals := 0 } : Room).slots) := by
  refine MetFree.of_bodySF (plainFor_of_name pn_18) hisR ?_
  intro p e s m args below meth c s₁ Bd hml0 hP hK
  obtain ⟨rfl, hZ, hh⟩ := hP
  have hx := Bd.exec
  have hby := Bd.bytes
  have hml : c.maxLocals = 1 := hml0
  have hown : s.vm.findClass "java/lang/String" = some m.cls := findClass_of_methodNamed Bd.named
  have hnm := (name_of_methodNamed Bd.named Bd.method).1
  have hlk : meth.locks = false := by first | exact BodyLoose.notSynchronized Bd | exact Body.notSynchronized Bd
  have X0 : Stand p l e ({ frames := 0, cells := 0, slots := 0, locals := 0 } : Room) s m #[(.ref r0)] below meth c s₁ [] 0 0 := Stand.of_body Bd
  have e0 : s₁.heap = h0 := by rw [← hh, Bd.state]; rfl
  have N0 := Fr.nil n0
  have k0 : own_R p e below (s₁.setTop (entryFrame m #[(.ref r0)] 1)) (s₁.setTop (mkF m 0 #[vR r0] [])) := fun t k => castTop (ef_18 m r0) k
  obtain ⟨A0, hA0⟩ : ∃ z, z = s₁.setTop (entryFrame m #[(.ref r0)] 1) := ⟨_, rfl⟩
  rw [← hA0] at k0
  have kz : ∀ t, Steps p.tables e below A0 t → Steps p.tables e below (s₁.setTop (entryFrame m #[(.ref r0)] 1)) t := fun t q => hA0 ▸ q
  obtain ⟨T1, X1, e1, st1⟩ := getS2 X0 hx hZ hown (host := "") (Or.inl (own_w hw 37 rfl)) Via.refl e0 S9 (g := (mkF m 0 #[vR r0] [])) rfl (hb hby d18_0)
  have ks2 := own_c k0 st1
  have ks3 : own_R p e below (A0) (T1.setTop (mkF m 7 #[vR r0] [(.ref r0)])) := fun t k => ks2 t (by
    refine XS.ifNo X1.here hx rfl (hb hby d18_3) rfl ((if0 _ _).trans (feq P9).1) ?_
    refine XS.aloadN X1.here hx rfl (hb hby d18_6) rfl rfl ?_
    exact k)
  obtain ⟨T4, X4, e4, st4⟩ := getF X1 hx hZ hown (host := "") (Or.inl (own_w hw 26 rfl)) Via.refl e1 Cd0 (g := (mkF m 7 #[vR r0] [(.ref r0)])) rfl rfl (hb hby d18_7)
  have ks5 := own_c ks3 st4
  have ks6 : own_R p e below (A0) (T4.setTop (mkF m 14 #[vR r0] [(.int kd0)])) := fun t k => ks5 t (by
    refine XS.goto X4.here hx rfl (pc0 := 10) (pc' := 14) rfl (hb hby d18_10) (by decide) (by decide) ?_
    exact k)
  obtain ⟨fs, hr, hrun, hended, hW, hsame⟩ := X4.leave (v := some (.int kd0)) (fun h => by rw [Bd.returns] at h; cases h) hlk
  refine ⟨_, _, kz _ (ks6 _ ?_), hrun, hended, _, _, rfl, ?_, ⟨_, rfl⟩, hW, hsame.mono (by decide) (by decide)⟩
  · exact retOut X4 hx Bd.returns (own_nbk hk0) (Or.inl ⟨rfl, by simp, _, rfl⟩) (hb hby d18_14) hr
  · show Q18 Z r0 y9 kd0 h0 n0 _ T4.heap _
    rw [e4]
    exact ⟨rfl, N0, rfl⟩
theorem d20_0 : decode jdk_42_method_154_code 0 = .ok (.getstatic 38, 3) := by decide +kernel
theorem d20_3 : decode jdk_42_method_154_code 3 = .ok (.ifCond .eq 14, 3) := by decide +kernel
theorem d20_6 : decode jdk_42_method_154_code 6 = .ok (.aload_n 0, 1) := by decide +kernel
theorem d20_7 : decode jdk_42_method_154_code 7 = .ok (.getfield 15, 3) := by decide +kernel
theorem d20_10 : decode jdk_42_method_154_code 10 = .ok (.ifCond .ne 7, 3) := by decide +kernel
theorem d20_13 : decode jdk_42_method_154_code 13 = .ok (.iconst 1, 1) := by decide +kernel
theorem d20_14 : decode jdk_42_method_154_code 14 = .ok (.goto 4, 3) := by decide +kernel
theorem d20_18 : decode jdk_42_method_154_code 18 = .ok (.ireturn, 1) := by decide +kernel
theorem pn_20 : plainName "java/lang/String" = true := by first | (simp [plainName, overriddenIn]; done) | decide +kernel
theorem ef_20_L (m : MethodId) (x0 : Addr) : entryFrame m #[(.ref x0)] 1 = mkF m 0 #[.val (.ref x0)] [] := by first | (simp [entryFrame, mkF, argsToLocals, Value.category]; done) | rfl
def Q20_L (Z : State) (r0 : Addr) (y9 : Int32) (h0 : Heap) (n0 : Nat) (v : Option Value) (h : Heap) (L : List Loc) : Prop := v = some (.int 1) ∧ Fr n0 L ∧ h = h0
set_option maxRecDepth 65536 in
set_option maxHeartbeats 40000000 in
theorem rm20_L (l : Launch) (Z : State) (a0 : Array Value) (hw : ∀ d ∈ tables_1, d.before a0 Z = true) (ws : List Jvm.Cond) (r0 : Addr) (y9 : Int32) (h0 : Heap) (n0 : Nat) (Z0 : n0 ≤ h0.size) (S9 : own_S9 Z h0 y9) (P9 : ¬ y9 = (0 : Int32)) (Cd0 : own_Cd Z h0 r0 0) :
    MetFree l (⟨"java/lang/String", "isLatin1", "()Z"⟩ : MethodName) (head1 (Jvm.Cond.code (⟨"java/lang/String", "isLatin1", "()Z"⟩ : MethodName) jdk_42_method_154_code 1 (some .boolean) :: ws) ({ frames := 0, cells := 0, slots := 0, locals := 0 } : Room)) (fun a U => a = #[(.ref r0)] ∧ Z.Warmed39 U.vm ∧ U.heap = h0) (fun _ _ _ _ _ => True) (fun _ U o U' => ∃ v L, o = .returned v ∧ Q20_L Z r0 y9 h0 n0 v U'.heap L ∧ FrameEnd U o U' L ({ frames := 0, cells := 0, slots := 0, locals := 0 } : Room).cells ({ frames := 0, cells := 0, slots := 0, locals := 0 } : Room).slots) := by
  refine MetFree.of_bodySF (plainFor_of_name pn_20) hisR ?_
  intro p e s m args below meth c s₁ Bd hml0 hP hK
  obtain ⟨rfl, hZ, hh⟩ := hP
  have hx := Bd.exec
  have hby := Bd.bytes
  have hml : c.maxLocals = 1 := hml0
  have hown : s.vm.findClass "java/lang/String" = some m.cls := findClass_of_methodNamed Bd.named
  have hnm := (name_of_methodNamed Bd.named Bd.method).1
  have hlk : meth.locks = false := by first | exact BodyLoose.notSynchronized Bd | exact Body.notSynchronized Bd
  have X0 : Stand p l e ({ frames := 0, cells := 0, slots := 0, locals := 0 } : Room) s m #[(.ref r0)] below meth c s₁ [] 0 0 := Stand.of_body Bd
  have e0 : s₁.heap = h0 := by rw [← hh, Bd.state]; rfl
  have N0 := Fr.nil n0
  have k0 : own_R p e below (s₁.setTop (entryFrame m #[(.ref r0)] 1)) (s₁.setTop (mkF m 0 #[vR r0] [])) := fun t k => castTop (ef_20_L m r0) k
  obtain ⟨A0, hA0⟩ : ∃ z, z = s₁.setTop (entryFrame m #[(.ref r0)] 1) := ⟨_, rfl⟩
  rw [← hA0] at k0
  have kz : ∀ t, Steps p.tables e below A0 t → Steps p.tables e below (s₁.setTop (entryFrame m #[(.ref r0)] 1)) t := fun t q => hA0 ▸ q
  obtain ⟨T1, X1, e1, st1⟩ := getS2 X0 hx hZ hown (host := "") (Or.inl (own_w hw 37 rfl)) Via.refl e0 S9 (g := (mkF m 0 #[vR r0] [])) rfl (hb hby d20_0)
  have ks2 := own_c k0 st1
  have ks3 : own_R p e below (A0) (T1.setTop (mkF m 7 #[vR r0] [(.ref r0)])) := fun t k => ks2 t (by
    refine XS.ifNo X1.here hx rfl (hb hby d20_3) rfl ((if0 _ _).trans (feq P9).1) ?_
    refine XS.aloadN X1.here hx rfl (hb hby d20_6) rfl rfl ?_
    exact k)
  obtain ⟨T4, X4, e4, st4⟩ := getF X1 hx hZ hown (host := "") (Or.inl (own_w hw 26 rfl)) Via.refl e1 Cd0 (g := (mkF m 7 #[vR r0] [(.ref r0)])) rfl rfl (hb hby d20_7)
  have ks5 := own_c ks3 st4
  have ks6 : own_R p e below (A0) (T4.setTop (mkF m 18 #[vR r0] [(.int 1)])) := fun t k => ks5 t (by
    refine XS.ifNo X4.here hx rfl (hb hby d20_10) rfl ((if0 _ _).trans (teq (by decide)).2) ?_
    refine XS.iconst X4.here hx rfl (hb hby d20_13) ?_
    refine XS.goto X4.here hx rfl (pc0 := 14) (pc' := 18) rfl (hb hby d20_14) (by decide) (by decide) ?_
    exact k)
  obtain ⟨fs, hr, hrun, hended, hW, hsame⟩ := X4.leave (v := some (.int 1)) (fun h => by rw [Bd.returns] at h; cases h) hlk
  refine ⟨_, _, kz _ (ks6 _ ?_), hrun, hended, _, _, rfl, ?_, ⟨_, rfl⟩, hW, hsame.mono (by decide) (by decide)⟩
  · exact retN X4 hx (t := .boolean) Bd.returns (by simp) (hb hby d20_18) hr
  · show Q20_L Z r0 y9 h0 n0 _ T4.heap _
    rw [e4]
    exact ⟨rfl, N0, rfl⟩
theorem d20_17 : decode jdk_42_method_154_code 17 = .ok (.iconst 0, 1) := by decide +kernel
theorem ef_20_U (m : MethodId) (x0 : Addr) : entryFrame m #[(.ref x0)] 1 = mkF m 0 #[.val (.ref x0)] [] := by first | (simp [entryFrame, mkF, argsToLocals, Value.category]; done) | rfl
def Q20_U (Z : State) (r0 : Addr) (y9 : Int32) (h0 : Heap) (n0 : Nat) (v : Option Value) (h : Heap) (L : List Loc) : Prop := v = some (.int 0) ∧ Fr n0 L ∧ h = h0
set_option maxRecDepth 65536 in
set_option maxHeartbeats 40000000 in
theorem rm20_U (l : Launch) (Z : State) (a0 : Array Value) (hw : ∀ d ∈ tables_1, d.before a0 Z = true) (ws : List Jvm.Cond) (r0 : Addr) (y9 : Int32) (h0 : Heap) (n0 : Nat) (Z0 : n0 ≤ h0.size) (S9 : own_S9 Z h0 y9) (P9 : ¬ y9 = (0 : Int32)) (Cd0 : own_Cd Z h0 r0 1) :
    MetFree l (⟨"java/lang/String", "isLatin1", "()Z"⟩ : MethodName) (head1 (Jvm.Cond.code (⟨"java/lang/String", "isLatin1", "()Z"⟩ : MethodName) jdk_42_method_154_code 1 (some .boolean) :: ws) ({ frames := 0, cells := 0, slots := 0, locals := 0 } : Room)) (fun a U => a = #[(.ref r0)] ∧ Z.Warmed39 U.vm ∧ U.heap = h0) (fun _ _ _ _ _ => True) (fun _ U o U' => ∃ v L, o = .returned v ∧ Q20_U Z r0 y9 h0 n0 v U'.heap L ∧ FrameEnd U o U' L ({ frames := 0, cells := 0, slots := 0, locals := 0 } : Room).cells ({ frames := 0, cells := 0, slots := 0, locals := 0 } : Room).slots) := by
  refine MetFree.of_bodySF (plainFor_of_name pn_20) hisR ?_
  intro p e s m args below meth c s₁ Bd hml0 hP hK
  obtain ⟨rfl, hZ, hh⟩ := hP
  have hx := Bd.exec
  have hby := Bd.bytes
  have hml : c.maxLocals = 1 := hml0
  have hown : s.vm.findClass "java/lang/String" = some m.cls := findClass_of_methodNamed Bd.named
  have hnm := (name_of_methodNamed Bd.named Bd.method).1
  have hlk : meth.locks = false := by first | exact BodyLoose.notSynchronized Bd | exact Body.notSynchronized Bd
  have X0 : Stand p l e ({ frames := 0, cells := 0, slots := 0, locals := 0 } : Room) s m #[(.ref r0)] below meth c s₁ [] 0 0 := Stand.of_body Bd
  have e0 : s₁.heap = h0 := by rw [← hh, Bd.state]; rfl
  have N0 := Fr.nil n0
  have k0 : own_R p e below (s₁.setTop (entryFrame m #[(.ref r0)] 1)) (s₁.setTop (mkF m 0 #[vR r0] [])) := fun t k => castTop (ef_20_U m r0) k
  obtain ⟨A0, hA0⟩ : ∃ z, z = s₁.setTop (entryFrame m #[(.ref r0)] 1) := ⟨_, rfl⟩
  rw [← hA0] at k0
  have kz : ∀ t, Steps p.tables e below A0 t → Steps p.tables e below (s₁.setTop (entryFrame m #[(.ref r0)] 1)) t := fun t q => hA0 ▸ q
  obtain ⟨T1, X1, e1, st1⟩ := getS2 X0 hx hZ hown (host := "") (Or.inl (own_w hw 37 rfl)) Via.refl e0 S9 (g := (mkF m 0 #[vR r0] [])) rfl (hb hby d20_0)
  have ks2 := own_c k0 st1
  have ks3 : own_R p e below (A0) (T1.setTop (mkF m 7 #[vR r0] [(.ref r0)])) := fun t k => ks2 t (by
    refine XS.ifNo X1.here hx rfl (hb hby d20_3) rfl ((if0 _ _).trans (feq P9).1) ?_
    refine XS.aloadN X1.here hx rfl (hb hby d20_6) rfl rfl ?_
    exact k)
  obtain ⟨T4, X4, e4, st4⟩ := getF X1 hx hZ hown (host := "") (Or.inl (own_w hw 26 rfl)) Via.refl e1 Cd0 (g := (mkF m 7 #[vR r0] [(.ref r0)])) rfl rfl (hb hby d20_7)
  have ks5 := own_c ks3 st4
  have ks6 : own_R p e below (A0) (T4.setTop (mkF m 18 #[vR r0] [(.int 0)])) := fun t k => ks5 t (by
    refine XS.ifYes X4.here hx rfl (pc0 := 10) (pc' := 17) rfl (hb hby d20_10) rfl ((if0 _ _).trans (feq (by decide)).2) (by decide) (by decide) ?_
    refine XS.iconst X4.here hx rfl (hb hby d20_17) ?_
    exact k)
  obtain ⟨fs, hr, hrun, hended, hW, hsame⟩ := X4.leave (v := some (.int 0)) (fun h => by rw [Bd.returns] at h; cases h) hlk
  refine ⟨_, _, kz _ (ks6 _ ?_), hrun, hended, _, _, rfl, ?_, ⟨_, rfl⟩, hW, hsame.mono (by decide) (by decide)⟩
  · exact retN X4 hx (t := .boolean) Bd.returns (by simp) (hb hby d20_18) hr
  · show Q20_U Z r0 y9 h0 n0 _ T4.heap _
    rw [e4]
    exact ⟨rfl, N0, rfl⟩
theorem d17_0 : decode jdk_42_method_54_code 0 = .ok (.aload_n 0, 1) := by decide +kernel
theorem d17_1 : decode jdk_42_method_54_code 1 = .ok (.getfield 9, 3) := by decide +kernel
theorem d17_4 : decode jdk_42_method_54_code 4 = .ok (.arraylength, 1) := by decide +kernel
theorem d17_5 : decode jdk_42_method_54_code 5 = .ok (.aload_n 0, 1) := by decide +kernel
theorem d17_6 : decode jdk_42_method_54_code 6 = .ok (.invokevirtual 335, 3) := by decide +kernel
theorem d17_9 : decode jdk_42_method_54_code 9 = .ok (.ishr, 1) := by decide +kernel
theorem d17_10 : decode jdk_42_method_54_code 10 = .ok (.ireturn, 1) := by decide +kernel
theorem pn_17 : plainName "java/lang/String" = true := by first | (simp [plainName, overriddenIn]; done) | decide +kernel
theorem pd_16 : parseMethodDescriptor "()B" = some ⟨[], some .byte⟩ := by decide +kernel
theorem ef_17 (m : MethodId) (x0 : Addr) : entryFrame m #[(.ref x0)] 1 = mkF m 0 #[.val (.ref x0)] [] := by first | (simp [entryFrame, mkF, argsToLocals, Value.category]; done) | rfl
def Q17 (Z : State) (r0 : Addr) (y9 : Int32) (t0 : Addr) (kt0 : ClassId) (kd0 : Int32) (z0 : Int32) (vs0 : List Value) (zn : Int32) (h0 : Heap) (n0 : Nat) (v : Option Value) (h : Heap) (L : List Loc) : Prop := v = some (.int zn) ∧ Fr n0 L ∧ h = h0
set_option maxRecDepth 65536 in
set_option maxHeartbeats 40000000 in
theorem rm17 (l : Launch) (Z : State) (a0 : Array Value) (hw : ∀ d ∈ tables_1, d.before a0 Z = true) (ws : List Jvm.Cond) (r0 : Addr) (y9 : Int32) (t0 : Addr) (kt0 : ClassId) (kd0 : Int32) (z0 : Int32) (vs0 : List Value) (zn : Int32) (h0 : Heap) (n0 : Nat) (Z0 : n0 ≤ h0.size) (S9 : own_S9 Z h0 y9) (P9 : ¬ y9 = (0 : Int32)) (E0 : Exa Z h0 r0 "java/lang/String") (Cd0 : own_Cd Z h0 r0 kd0) (F0 : own_Fv Z h0 r0 t0) (V0 : Arv Z h0 t0 kt0 .byte z0 vs0 (.int 0)) (hk0 : kd0.toInt8.toInt32 = kd0) (hn : (z0 >>> (kd0 &&& 31)) = zn) :
    MetFree l (⟨"java/lang/String", "length", "()I"⟩ : MethodName) (head1 (Jvm.Cond.code (⟨"java/lang/String", "length", "()I"⟩ : MethodName) jdk_42_method_54_code 1 (some .int) :: ws) ({ frames := 1, cells := 0, slots := 0, locals := 13 } : Room)) (fun a U => a = #[(.ref r0)] ∧ Z.Warmed39 U.vm ∧ U.heap = h0) (fun _ _ _ _ _ => True) (fun _ U o U' => ∃ v L, o = .returned v ∧ Q17 Z r0 y9 t0 kt0 kd0 z0 vs0 zn h0 n0 v U'.heap L ∧ FrameEnd U o U' L ({ frames := 1, cells := 0, slots := 0, locals := 13 } : Room).cells ({ frames := 1, cells := 0, slots := 0, locals := 13 } : Room).slots) := by
  refine MetFree.of_bodySF (plainFor_of_name pn_17) hisR ?_
  intro p e s m args below meth c s₁ Bd hml0 hP hK
  obtain ⟨rfl, hZ, hh⟩ := hP
  have hx := Bd.exec
  have hby := Bd.bytes
  have hml : c.maxLocals = 1 := hml0
  have hown : s.vm.findClass "java/lang/String" = some m.cls := findClass_of_methodNamed Bd.named
  have hnm := (name_of_methodNamed Bd.named Bd.method).1
  have hlk : meth.locks = false := by first | exact BodyLoose.notSynchronized Bd | exact Body.notSynchronized Bd
  have X0 : Stand p l e ({ frames := 1, cells := 0, slots := 0, locals := 13 } : Room) s m #[(.ref r0)] below meth c s₁ [] 0 0 := Stand.of_body Bd
  have e0 : s₁.heap = h0 := by rw [← hh, Bd.state]; rfl
  have N0 := Fr.nil n0
  have k0 : own_R p e below (s₁.setTop (entryFrame m #[(.ref r0)] 1)) (s₁.setTop (mkF m 0 #[vR r0] [])) := fun t k => castTop (ef_17 m r0) k
  obtain ⟨A0, hA0⟩ : ∃ z, z = s₁.setTop (entryFrame m #[(.ref r0)] 1) := ⟨_, rfl⟩
  rw [← hA0] at k0
  have kz : ∀ t, Steps p.tables e below A0 t → Steps p.tables e below (s₁.setTop (entryFrame m #[(.ref r0)] 1)) t := fun t q => hA0 ▸ q
  have ks1 : own_R p e below (A0) (s₁.setTop (mkF m 1 #[vR r0] [(.ref r0)])) := fun t k => k0 t (by
    refine XS.aloadN X0.here hx rfl (hb hby d17_0) rfl rfl ?_
    exact k)
  obtain ⟨T2, X2, e2, st2⟩ := getF X0 hx hZ hown (host := "") (Or.inl (own_w hw 25 rfl)) Via.refl e0 F0 (g := (mkF m 1 #[vR r0] [(.ref r0)])) rfl rfl (hb hby d17_1)
  have ks3 := own_c ks1 st2
  obtain ⟨cl4, Ar4, qa4, S4, Na4, Ha4, Ga4⟩ := id V0
  have ks5 : own_R p e below (A0) (T2.setTop (mkF m 6 #[vR r0] [(.ref r0), (.int z0)])) := fun t k => ks3 t (by
    refine X2.arraylength hx (by rw [e2]; exact Ar4.1) (State.isArrayOf_alike hZ.alike Ar4.2.1) (g := (mkF m 4 #[vR r0] [(.ref t0)])) rfl rfl (hb hby d17_4) _ ?_
    rw [len_of S4 Na4]
    refine XS.aloadN X2.here hx rfl (hb hby d17_5) rfl rfl ?_
    exact k)
  obtain ⟨cq6, kq6, q6a, q6b, q6c⟩ := isOf hZ e2 E0
  obtain ⟨_, _, ⟨T6, L6, k6, n6⟩, -, X6, ⟨Lc6, hQ6, lq6, yq6, zq6⟩, st6⟩ := X2.virtualBack hx (y := (⟨"java/lang/String", "coder", "()B"⟩ : MethodName)) (z := (⟨"java/lang/String", "coder", "()B"⟩ : MethodName)) hown (mvT hZ (own_w hw 83 rfl)) (mvT hZ (own_w hw 84 rfl)) (notFace_of_selects (args := #[]) (mvT hZ (own_w hw 86 rfl))) (mvT hZ (own_w hw 86 rfl)) (mvT hZ (own_w hw 85 rfl)) (by decide) (backOf (W := 1) (rm18 l Z a0 hw [] r0 y9 kd0 h0 n0 Z0 S9 P9 Cd0 hk0) hZ (own_w hw 87 rfl) (own_w hw 7 rfl) (by decide) (by decide)) q6a q6c (g := (mkF m 6 #[vR r0] [(.ref r0), (.int z0)])) rfl (by rw [hml]; rfl) (Steps.refl _) (argsL := []) (rest := [(.int z0)]) (lenOf pd_16 rfl) rfl (by show 2 * 0 + _ ≤ _; exact Nat.le_of_eq rfl) (hb hby d17_6) (fun _ _ => ⟨rfl, e2, (by decide : 0 + 0 ≤ _), (by decide : 0 + 0 ≤ _)⟩)
  dsimp only [Pt.U, Pt.locs, Pt.cells, Pt.slots] at X6 lq6 yq6 zq6 st6 hQ6
  subst lq6 yq6 zq6
  obtain ⟨rfl, Nq6, eq6⟩ := hQ6
  have N6 := Fr.app N0 Nq6
  have ks7 := own_ct ks5 st6
  have ks8 : own_R p e below (A0) (T6.setTop (mkF m 10 #[vR r0] [(.int (z0 >>> (kd0 &&& 31)))])) := fun t k => ks7 t (by
    refine XS.ishr X6.here hx rfl (hb hby d17_9) rfl ?_
    exact k)
  obtain ⟨fs, hr, hrun, hended, hW, hsame⟩ := X6.leave (v := some (.int (z0 >>> (kd0 &&& 31)))) (fun h => by rw [Bd.returns] at h; cases h) hlk
  refine ⟨_, _, kz _ (ks8 _ ?_), hrun, hended, _, _, rfl, ?_, ⟨_, rfl⟩, hW, hsame.mono (by decide) (by decide)⟩
  · exact retI X6 hx Bd.returns (hb hby d17_10) hr
  · show Q17 Z r0 y9 t0 kt0 kd0 z0 vs0 zn h0 n0 _ T6.heap _
    rw [eq6]
    exact ⟨by rw [hn], N6, rfl⟩
theorem d6_0 : decode jdk_42_method_55_code 0 = .ok (.aload_n 0, 1) := by decide +kernel
theorem d6_1 : decode jdk_42_method_55_code 1 = .ok (.getfield 9, 3) := by decide +kernel
theorem d6_4 : decode jdk_42_method_55_code 4 = .ok (.arraylength, 1) := by decide +kernel
theorem d6_5 : decode jdk_42_method_55_code 5 = .ok (.ifCond .ne 7, 3) := by decide +kernel
theorem d6_12 : decode jdk_42_method_55_code 12 = .ok (.iconst 0, 1) := by decide +kernel
theorem d6_13 : decode jdk_42_method_55_code 13 = .ok (.ireturn, 1) := by decide +kernel
theorem pn_6 : plainName "java/lang/String" = true := by first | (simp [plainName, overriddenIn]; done) | decide +kernel
theorem ef_6_n (m : MethodId) (x0 : Addr) : entryFrame m #[(.ref x0)] 1 = mkF m 0 #[.val (.ref x0)] [] := by first | (simp [entryFrame, mkF, argsToLocals, Value.category]; done) | rfl
def Q6_n (Z : State) (r0 : Addr) (t0 : Addr) (kt0 : ClassId) (kd0 : Int32) (z0 : Int32) (vs0 : List Value) (h0 : Heap) (n0 : Nat) (v : Option Value) (h : Heap) (L : List Loc) : Prop := v = some (.int 0) ∧ Fr n0 L ∧ h = h0
set_option maxRecDepth 65536 in
set_option maxHeartbeats 40000000 in
theorem rm6_n (l : Launch) (Z : State) (a0 : Array Value) (hw : ∀ d ∈ tables_1, d.before a0 Z = true) (ws : List Jvm.Cond) (r0 : Addr) (t0 : Addr) (kt0 : ClassId) (kd0 : Int32) (z0 : Int32) (vs0 : List Value) (h0 : Heap) (n0 : Nat) (Z0 : n0 ≤ h0.size) (E0 : Exa Z h0 r0 "java/lang/String") (Cd0 : own_Cd Z h0 r0 kd0) (F0 : own_Fv Z h0 r0 t0) (V0 : Arv Z h0 t0 kt0 .byte z0 vs0 (.int 0)) (hz : ¬ z0 = 0) :
    MetFree l (⟨"java/lang/String", "isEmpty", "()Z"⟩ : MethodName) (head1 (Jvm.Cond.code (⟨"java/lang/String", "isEmpty", "()Z"⟩ : MethodName) jdk_42_method_55_code 1 (some .boolean) :: ws) ({ frames := 0, cells := 0, slots := 0, locals := 0 } : Room)) (fun a U => a = #[(.ref r0)] ∧ Z.Warmed39 U.vm ∧ U.heap = h0) (fun _ _ _ _ _ => True) (fun _ U o U' => ∃ v L, o = .returned v ∧ Q6_n Z r0 t0 kt0 kd0 z0 vs0 h0 n0 v U'.heap L ∧ FrameEnd U o U' L ({ frames := 0, cells := 0, slots := 0, locals := 0 } : Room).cells ({ frames := 0, cells := 0, slots := 0, locals := 0 } : Room).slots) := by
  refine MetFree.of_bodySF (plainFor_of_name pn_6) hisR ?_
  intro p e s m args below meth c s₁ Bd hml0 hP hK
  obtain ⟨rfl, hZ, hh⟩ := hP
  have hx := Bd.exec
  have hby := Bd.bytes
  have hml : c.maxLocals = 1 := hml0
  have hown : s.vm.findClass "java/lang/String" = some m.cls := findClass_of_methodNamed Bd.named
  have hnm := (name_of_methodNamed Bd.named Bd.method).1
  have hlk : meth.locks = false := by first | exact BodyLoose.notSynchronized Bd | exact Body.notSynchronized Bd
  have X0 : Stand p l e ({ frames := 0, cells := 0, slots := 0, locals := 0 } : Room) s m #[(.ref r0)] below meth c s₁ [] 0 0 := Stand.of_body Bd
  have e0 : s₁.heap = h0 := by rw [← hh, Bd.state]; rfl
  have N0 := Fr.nil n0
  have k0 : own_R p e below (s₁.setTop (entryFrame m #[(.ref r0)] 1)) (s₁.setTop (mkF m 0 #[vR r0] [])) := fun t k => castTop (ef_6_n m r0) k
  obtain ⟨A0, hA0⟩ : ∃ z, z = s₁.setTop (entryFrame m #[(.ref r0)] 1) := ⟨_, rfl⟩
  rw [← hA0] at k0
  have kz : ∀ t, Steps p.tables e below A0 t → Steps p.tables e below (s₁.setTop (entryFrame m #[(.ref r0)] 1)) t := fun t q => hA0 ▸ q
  have ks1 : own_R p e below (A0) (s₁.setTop (mkF m 1 #[vR r0] [(.ref r0)])) := fun t k => k0 t (by
    refine XS.aloadN X0.here hx rfl (hb hby d6_0) rfl rfl ?_
    exact k)
  obtain ⟨T2, X2, e2, st2⟩ := getF X0 hx hZ hown (host := "") (Or.inl (own_w hw 25 rfl)) Via.refl e0 F0 (g := (mkF m 1 #[vR r0] [(.ref r0)])) rfl rfl (hb hby d6_1)
  have ks3 := own_c ks1 st2
  obtain ⟨cl4, Ar4, qa4, S4, Na4, Ha4, Ga4⟩ := id V0
  have ks5 : own_R p e below (A0) (T2.setTop (mkF m 13 #[vR r0] [(.int 0)])) := fun t k => ks3 t (by
    refine X2.arraylength hx (by rw [e2]; exact Ar4.1) (State.isArrayOf_alike hZ.alike Ar4.2.1) (g := (mkF m 4 #[vR r0] [(.ref t0)])) rfl rfl (hb hby d6_4) _ ?_
    rw [len_of S4 Na4]
    refine XS.ifYes X2.here hx rfl (pc0 := 5) (pc' := 12) rfl (hb hby d6_5) rfl ((if0 _ _).trans (feq hz).2) (by decide) (by decide) ?_
    refine XS.iconst X2.here hx rfl (hb hby d6_12) ?_
    exact k)
  obtain ⟨fs, hr, hrun, hended, hW, hsame⟩ := X2.leave (v := some (.int 0)) (fun h => by rw [Bd.returns] at h; cases h) hlk
  refine ⟨_, _, kz _ (ks5 _ ?_), hrun, hended, _, _, rfl, ?_, ⟨_, rfl⟩, hW, hsame.mono (by decide) (by decide)⟩
  · exact retN X2 hx (t := .boolean) Bd.returns (by simp) (hb hby d6_13) hr
  · show Q6_n Z r0 t0 kt0 kd0 z0 vs0 h0 n0 _ T2.heap _
    rw [e2]
    exact ⟨rfl, N0, rfl⟩
theorem d6_8 : decode jdk_42_method_55_code 8 = .ok (.iconst 1, 1) := by decide +kernel
theorem d6_9 : decode jdk_42_method_55_code 9 = .ok (.goto 4, 3) := by decide +kernel
theorem ef_6_e (m : MethodId) (x0 : Addr) : entryFrame m #[(.ref x0)] 1 = mkF m 0 #[.val (.ref x0)] [] := by first | (simp [entryFrame, mkF, argsToLocals, Value.category]; done) | rfl
def Q6_e (Z : State) (r0 : Addr) (t0 : Addr) (kt0 : ClassId) (kd0 : Int32) (z0 : Int32) (vs0 : List Value) (h0 : Heap) (n0 : Nat) (v : Option Value) (h : Heap) (L : List Loc) : Prop := v = some (.int 1) ∧ Fr n0 L ∧ h = h0
set_option maxRecDepth 65536 in
set_option maxHeartbeats 40000000 in
theorem rm6_e (l : Launch) (Z : State) (a0 : Array Value) (hw : ∀ d ∈ tables_1, d.before a0 Z = true) (ws : List Jvm.Cond) (r0 : Addr) (t0 : Addr) (kt0 : ClassId) (kd0 : Int32) (z0 : Int32) (vs0 : List Value) (h0 : Heap) (n0 : Nat) (Z0 : n0 ≤ h0.size) (E0 : Exa Z h0 r0 "java/lang/String") (Cd0 : own_Cd Z h0 r0 kd0) (F0 : own_Fv Z h0 r0 t0) (V0 : Arv Z h0 t0 kt0 .byte z0 vs0 (.int 0)) (hz : z0 = 0) :
    MetFree l (⟨"java/lang/String", "isEmpty", "()Z"⟩ : MethodName) (head1 (Jvm.Cond.code (⟨"java/lang/String", "isEmpty", "()Z"⟩ : MethodName) jdk_42_method_55_code 1 (some .boolean) :: ws) ({ frames := 0, cells := 0, slots := 0, locals := 0 } : Room)) (fun a U => a = #[(.ref r0)] ∧ Z.Warmed39 U.vm ∧ U.heap = h0) (fun _ _ _ _ _ => True) (fun _ U o U' => ∃ v L, o = .returned v ∧ Q6_e Z r0 t0 kt0 kd0 z0 vs0 h0 n0 v U'.heap L ∧ FrameEnd U o U' L ({ frames := 0, cells := 0, slots := 0, locals := 0 } : Room).cells ({ frames := 0, cells := 0, slots := 0, locals := 0 } : Room).slots) := by
  refine MetFree.of_bodySF (plainFor_of_name pn_6) hisR ?_
  intro p e s m args below meth c s₁ Bd hml0 hP hK
  obtain ⟨rfl, hZ, hh⟩ := hP
  have hx := Bd.exec
  have hby := Bd.bytes
  have hml : c.maxLocals = 1 := hml0
  have hown : s.vm.findClass "java/lang/String" = some m.cls := findClass_of_methodNamed Bd.named
  have hnm := (name_of_methodNamed Bd.named Bd.method).1
  have hlk : meth.locks = false := by first | exact BodyLoose.notSynchronized Bd | exact Body.notSynchronized Bd
  have X0 : Stand p l e ({ frames := 0, cells := 0, slots := 0, locals := 0 } : Room) s m #[(.ref r0)] below meth c s₁ [] 0 0 := Stand.of_body Bd
  have e0 : s₁.heap = h0 := by rw [← hh, Bd.state]; rfl
  have N0 := Fr.nil n0
  have k0 : own_R p e below (s₁.setTop (entryFrame m #[(.ref r0)] 1)) (s₁.setTop (mkF m 0 #[vR r0] [])) := fun t k => castTop (ef_6_e m r0) k
  obtain ⟨A0, hA0⟩ : ∃ z, z = s₁.setTop (entryFrame m #[(.ref r0)] 1) := ⟨_, rfl⟩
  rw [← hA0] at k0
  have kz : ∀ t, Steps p.tables e below A0 t → Steps p.tables e below (s₁.setTop (entryFrame m #[(.ref r0)] 1)) t := fun t q => hA0 ▸ q
  have ks1 : own_R p e below (A0) (s₁.setTop (mkF m 1 #[vR r0] [(.ref r0)])) := fun t k => k0 t (by
    refine XS.aloadN X0.here hx rfl (hb hby d6_0) rfl rfl ?_
    exact k)
  obtain ⟨T2, X2, e2, st2⟩ := getF X0 hx hZ hown (host := "") (Or.inl (own_w hw 25 rfl)) Via.refl e0 F0 (g := (mkF m 1 #[vR r0] [(.ref r0)])) rfl rfl (hb hby d6_1)
  have ks3 := own_c ks1 st2
  obtain ⟨cl4, Ar4, qa4, S4, Na4, Ha4, Ga4⟩ := id V0
  have ks5 : own_R p e below (A0) (T2.setTop (mkF m 13 #[vR r0] [(.int 1)])) := fun t k => ks3 t (by
    refine X2.arraylength hx (by rw [e2]; exact Ar4.1) (State.isArrayOf_alike hZ.alike Ar4.2.1) (g := (mkF m 4 #[vR r0] [(.ref t0)])) rfl rfl (hb hby d6_4) _ ?_
    rw [len_of S4 Na4]
    refine XS.ifNo X2.here hx rfl (hb hby d6_5) rfl ((if0 _ _).trans (teq hz).2) ?_
    refine XS.iconst X2.here hx rfl (hb hby d6_8) ?_
    show Steps p.tables e below (T2.setTop (mkF m 9 #[vR r0] [(.int 1)])) _
    refine XS.goto X2.here hx rfl (pc0 := 9) (pc' := 13) rfl (hb hby d6_9) (by decide) (by decide) ?_
    exact k)
  obtain ⟨fs, hr, hrun, hended, hW, hsame⟩ := X2.leave (v := some (.int 1)) (fun h => by rw [Bd.returns] at h; cases h) hlk
  refine ⟨_, _, kz _ (ks5 _ ?_), hrun, hended, _, _, rfl, ?_, ⟨_, rfl⟩, hW, hsame.mono (by decide) (by decide)⟩
  · exact retN X2 hx (t := .boolean) Bd.returns (by simp) (hb hby d6_13) hr
  · show Q6_e Z r0 t0 kt0 kd0 z0 vs0 h0 n0 _ T2.heap _
    rw [e2]
    exact ⟨rfl, N0, rfl⟩
theorem d25_0 : decode jdk_41_method_11_code 0 = .ok (.iload_n 0, 1) := by decide +kernel
theorem d25_1 : decode jdk_41_method_11_code 1 = .ok (.ifCond .lt 8, 3) := by decide +kernel
theorem d25_4 : decode jdk_41_method_11_code 4 = .ok (.iload_n 0, 1) := by decide +kernel
theorem d25_5 : decode jdk_41_method_11_code 5 = .ok (.iload_n 1, 1) := by decide +kernel
theorem d25_6 : decode jdk_41_method_11_code 6 = .ok (.if_icmp .lt 10, 3) := by decide +kernel
theorem d25_16 : decode jdk_41_method_11_code 16 = .ok (.iload_n 0, 1) := by decide +kernel
theorem d25_17 : decode jdk_41_method_11_code 17 = .ok (.ireturn, 1) := by decide +kernel
theorem pn_25 : plainName "jdk/internal/util/Preconditions" = true := by first | (simp [plainName, overriddenIn]; done) | decide +kernel
theorem ef_25_n (m : MethodId) (x0 : Int32) (x1 : Int32) : entryFrame m #[(.int x0), (.int x1), .null] 3 = mkF m 0 #[.val (.int x0), .val (.int x1), .val .null] [] := by first | (simp [entryFrame, mkF, argsToLocals, Value.category]; done) | rfl
def Q25_n (Z : State) (p0 : Int32) (p1 : Int32) (h0 : Heap) (n0 : Nat) (v : Option Value) (h : Heap) (L : List Loc) : Prop := v = some (.int p0) ∧ Fr n0 L ∧ h = h0
set_option maxRecDepth 65536 in
set_option maxHeartbeats 40000000 in
theorem rm25_n (l : Launch) (Z : State) (a0 : Array Value) (hw : ∀ d ∈ tables_1, d.before a0 Z = true) (ws : List Jvm.Cond) (p0 : Int32) (p1 : Int32) (h0 : Heap) (n0 : Nat) (Z0 : n0 ≤ h0.size) (H0 : ¬ p0 < (0 : Int32)) (H1 : p0 < p1) :
    MetFree l (⟨"jdk/internal/util/Preconditions", "checkIndex", "(IILjava/util/function/BiFunction;)I"⟩ : MethodName) (head1 (Jvm.Cond.code (⟨"jdk/internal/util/Preconditions", "checkIndex", "(IILjava/util/function/BiFunction;)I"⟩ : MethodName) jdk_41_method_11_code 3 (some .int) :: ws) ({ frames := 0, cells := 0, slots := 0, locals := 0 } : Room)) (fun a U => a = #[(.int p0), (.int p1), .null] ∧ Z.Warmed39 U.vm ∧ U.heap = h0) (fun _ _ _ _ _ => True) (fun _ U o U' => ∃ v L, o = .returned v ∧ Q25_n Z p0 p1 h0 n0 v U'.heap L ∧ FrameEnd U o U' L ({ frames := 0, cells := 0, slots := 0, locals := 0 } : Room).cells ({ frames := 0, cells := 0, slots := 0, locals := 0 } : Room).slots) := by
  refine MetFree.of_bodySF (plainFor_of_name pn_25) hisR ?_
  intro p e s m args below meth c s₁ Bd hml0 hP hK
  obtain ⟨rfl, hZ, hh⟩ := hP
  have hx := Bd.exec
  have hby := Bd.bytes
  have hml : c.maxLocals = 3 := hml0
  have hown : s.vm.findClass "jdk/internal/util/Preconditions" = some m.cls := findClass_of_methodNamed Bd.named
  have hnm := (name_of_methodNamed Bd.named Bd.method).1
  have hlk : meth.locks = false := by first | exact BodyLoose.notSynchronized Bd | exact Body.notSynchronized Bd
  have X0 : Stand p l e ({ frames := 0, cells := 0, slots := 0, locals := 0 } : Room) s m #[(.int p0), (.int p1), .null] below meth c s₁ [] 0 0 := Stand.of_body Bd
  have e0 : s₁.heap = h0 := by rw [← hh, Bd.state]; rfl
  have N0 := Fr.nil n0
  have k0 : own_R p e below (s₁.setTop (entryFrame m #[(.int p0), (.int p1), .null] 3)) (s₁.setTop (mkF m 0 #[vI p0, vI p1, .val .null] [])) := fun t k => castTop (ef_25_n m p0 p1) k
  obtain ⟨A0, hA0⟩ : ∃ z, z = s₁.setTop (entryFrame m #[(.int p0), (.int p1), .null] 3) := ⟨_, rfl⟩
  rw [← hA0] at k0
  have kz : ∀ t, Steps p.tables e below A0 t → Steps p.tables e below (s₁.setTop (entryFrame m #[(.int p0), (.int p1), .null] 3)) t := fun t q => hA0 ▸ q
  have ks1 : own_R p e below (A0) (s₁.setTop (mkF m 17 #[vI p0, vI p1, .val .null] [(.int p0)])) := fun t k => k0 t (by
    refine XS.iloadN X0.here hx rfl (hb hby d25_0) rfl ?_
    refine XS.ifNo X0.here hx rfl (hb hby d25_1) rfl ((if0 _ _).trans (flt H0).1) ?_
    refine XS.iloadN X0.here hx rfl (hb hby d25_4) rfl ?_
    show Steps p.tables e below (s₁.setTop (mkF m 5 #[vI p0, vI p1, .val .null] [(.int p0)])) _
    refine XS.iloadN X0.here hx rfl (hb hby d25_5) rfl ?_
    refine XS.icmpYes X0.here hx rfl (pc0 := 6) (pc' := 16) rfl (hb hby d25_6) rfl (tlt H1).1 (by decide) (by decide) ?_
    refine XS.iloadN X0.here hx rfl (hb hby d25_16) rfl ?_
    exact k)
  obtain ⟨fs, hr, hrun, hended, hW, hsame⟩ := X0.leave (v := some (.int p0)) (fun h => by rw [Bd.returns] at h; cases h) hlk
  refine ⟨_, _, kz _ (ks1 _ ?_), hrun, hended, _, _, rfl, ?_, ⟨_, rfl⟩, hW, hsame.mono (by decide) (by decide)⟩
  · exact retI X0 hx Bd.returns (hb hby d25_17) hr
  · show Q25_n Z p0 p1 h0 n0 _ s₁.heap _
    rw [e0]
    exact ⟨rfl, N0, rfl⟩
theorem ef_25_r (m : MethodId) (x0 : Int32) (x1 : Int32) (x2 : Addr) : entryFrame m #[(.int x0), (.int x1), (.ref x2)] 3 = mkF m 0 #[.val (.int x0), .val (.int x1), .val (.ref x2)] [] := by first | (simp [entryFrame, mkF, argsToLocals, Value.category]; done) | rfl
def Q25_r (Z : State) (p0 : Int32) (p1 : Int32) (r2 : Addr) (h0 : Heap) (n0 : Nat) (v : Option Value) (h : Heap) (L : List Loc) : Prop := v = some (.int p0) ∧ Fr n0 L ∧ h = h0
set_option maxRecDepth 65536 in
set_option maxHeartbeats 40000000 in
theorem rm25_r (l : Launch) (Z : State) (a0 : Array Value) (hw : ∀ d ∈ tables_1, d.before a0 Z = true) (ws : List Jvm.Cond) (p0 : Int32) (p1 : Int32) (r2 : Addr) (h0 : Heap) (n0 : Nat) (Z0 : n0 ≤ h0.size) (H0 : ¬ p0 < (0 : Int32)) (H1 : p0 < p1) :
    MetFree l (⟨"jdk/internal/util/Preconditions", "checkIndex", "(IILjava/util/function/BiFunction;)I"⟩ : MethodName) (head1 (Jvm.Cond.code (⟨"jdk/internal/util/Preconditions", "checkIndex", "(IILjava/util/function/BiFunction;)I"⟩ : MethodName) jdk_41_method_11_code 3 (some .int) :: ws) ({ frames := 0, cells := 0, slots := 0, locals := 0 } : Room)) (fun a U => a = #[(.int p0), (.int p1), (.ref r2)] ∧ Z.Warmed39 U.vm ∧ U.heap = h0) (fun _ _ _ _ _ => True) (fun _ U o U' => ∃ v L, o = .returned v ∧ Q25_r Z p0 p1 r2 h0 n0 v U'.heap L ∧ FrameEnd U o U' L ({ frames := 0, cells := 0, slots := 0, locals := 0 } : Room).cells ({ frames := 0, cells := 0, slots := 0, locals := 0 } : Room).slots) := by
  refine MetFree.of_bodySF (plainFor_of_name pn_25) hisR ?_
  intro p e s m args below meth c s₁ Bd hml0 hP hK
  obtain ⟨rfl, hZ, hh⟩ := hP
  have hx := Bd.exec
  have hby := Bd.bytes
  have hml : c.maxLocals = 3 := hml0
  have hown : s.vm.findClass "jdk/internal/util/Preconditions" = some m.cls := findClass_of_methodNamed Bd.named
  have hnm := (name_of_methodNamed Bd.named Bd.method).1
  have hlk : meth.locks = false := by first | exact BodyLoose.notSynchronized Bd | exact Body.notSynchronized Bd
  have X0 : Stand p l e ({ frames := 0, cells := 0, slots := 0, locals := 0 } : Room) s m #[(.int p0), (.int p1), (.ref r2)] below meth c s₁ [] 0 0 := Stand.of_body Bd
  have e0 : s₁.heap = h0 := by rw [← hh, Bd.state]; rfl
  have N0 := Fr.nil n0
  have k0 : own_R p e below (s₁.setTop (entryFrame m #[(.int p0), (.int p1), (.ref r2)] 3)) (s₁.setTop (mkF m 0 #[vI p0, vI p1, vR r2] [])) := fun t k => castTop (ef_25_r m p0 p1 r2) k
  obtain ⟨A0, hA0⟩ : ∃ z, z = s₁.setTop (entryFrame m #[(.int p0), (.int p1), (.ref r2)] 3) := ⟨_, rfl⟩
  rw [← hA0] at k0
  have kz : ∀ t, Steps p.tables e below A0 t → Steps p.tables e below (s₁.setTop (entryFrame m #[(.int p0), (.int p1), (.ref r2)] 3)) t := fun t q => hA0 ▸ q
  have ks1 : own_R p e below (A0) (s₁.setTop (mkF m 17 #[vI p0, vI p1, vR r2] [(.int p0)])) := fun t k => k0 t (by
    refine XS.iloadN X0.here hx rfl (hb hby d25_0) rfl ?_
    refine XS.ifNo X0.here hx rfl (hb hby d25_1) rfl ((if0 _ _).trans (flt H0).1) ?_
    refine XS.iloadN X0.here hx rfl (hb hby d25_4) rfl ?_
    show Steps p.tables e below (s₁.setTop (mkF m 5 #[vI p0, vI p1, vR r2] [(.int p0)])) _
    refine XS.iloadN X0.here hx rfl (hb hby d25_5) rfl ?_
    refine XS.icmpYes X0.here hx rfl (pc0 := 6) (pc' := 16) rfl (hb hby d25_6) rfl (tlt H1).1 (by decide) (by decide) ?_
    refine XS.iloadN X0.here hx rfl (hb hby d25_16) rfl ?_
    exact k)
  obtain ⟨fs, hr, hrun, hended, hW, hsame⟩ := X0.leave (v := some (.int p0)) (fun h => by rw [Bd.returns] at h; cases h) hlk
  refine ⟨_, _, kz _ (ks1 _ ?_), hrun, hended, _, _, rfl, ?_, ⟨_, rfl⟩, hW, hsame.mono (by decide) (by decide)⟩
  · exact retI X0 hx Bd.returns (hb hby d25_17) hr
  · show Q25_r Z p0 p1 r2 h0 n0 _ s₁.heap _
    rw [e0]
    exact ⟨rfl, N0, rfl⟩
theorem d24_0 : decode jdk_42_method_155_code 0 = .ok (.iload_n 0, 1) := by decide +kernel
theorem d24_1 : decode jdk_42_method_155_code 1 = .ok (.iload_n 1, 1) := by decide +kernel
theorem d24_2 : decode jdk_42_method_155_code 2 = .ok (.getstatic 1053, 3) := by decide +kernel
theorem d24_5 : decode jdk_42_method_155_code 5 = .ok (.invokestatic 1059, 3) := by decide +kernel
theorem d24_8 : decode jdk_42_method_155_code 8 = .ok (.pop, 1) := by decide +kernel
theorem d24_9 : decode jdk_42_method_155_code 9 = .ok (.return_, 1) := by decide +kernel
theorem pn_24 : plainName "java/lang/String" = true := by first | (simp [plainName, overriddenIn]; done) | decide +kernel
theorem pd_20 : parseMethodDescriptor "(IILjava/util/function/BiFunction;)I" = some ⟨[.int, .int, (.object "java/util/function/BiFunction")], some .int⟩ := by decide +kernel
theorem ef_24 (m : MethodId) (x0 : Int32) (x1 : Int32) : entryFrame m #[(.int x0), (.int x1)] 2 = mkF m 0 #[.val (.int x0), .val (.int x1)] [] := by first | (simp [entryFrame, mkF, argsToLocals, Value.category]; done) | rfl
def Q24 (Z : State) (p0 : Int32) (p1 : Int32) (u8 : Value) (h0 : Heap) (n0 : Nat) (v : Option Value) (h : Heap) (L : List Loc) : Prop := v = none ∧ Fr n0 L ∧ h = h0
set_option maxRecDepth 65536 in
set_option maxHeartbeats 40000000 in
theorem rm24 (l : Launch) (Z : State) (a0 : Array Value) (hw : ∀ d ∈ tables_1, d.before a0 Z = true) (ws : List Jvm.Cond) (p0 : Int32) (p1 : Int32) (u8 : Value) (h0 : Heap) (n0 : Nat) (Z0 : n0 ≤ h0.size) (H0 : ¬ p0 < (0 : Int32)) (H1 : p0 < p1) (S8 : own_S8 Z h0 u8) (I8 : u8.isRef = true) :
    MetFree l (⟨"java/lang/String", "checkIndex", "(II)V"⟩ : MethodName) (head1 (Jvm.Cond.code (⟨"java/lang/String", "checkIndex", "(II)V"⟩ : MethodName) jdk_42_method_155_code 2 none :: ws) ({ frames := 1, cells := 0, slots := 0, locals := 14 } : Room)) (fun a U => a = #[(.int p0), (.int p1)] ∧ Z.Warmed39 U.vm ∧ U.heap = h0) (fun _ _ _ _ _ => True) (fun _ U o U' => ∃ v L, o = .returned v ∧ Q24 Z p0 p1 u8 h0 n0 v U'.heap L ∧ FrameEnd U o U' L ({ frames := 1, cells := 0, slots := 0, locals := 14 } : Room).cells ({ frames := 1, cells := 0, slots := 0, locals := 14 } : Room).slots) := by
  refine MetFree.of_bodySF (plainFor_of_name pn_24) hisR ?_
  intro p e s m args below meth c s₁ Bd hml0 hP hK
  obtain ⟨rfl, hZ, hh⟩ := hP
  have hx := Bd.exec
  have hby := Bd.bytes
  have hml : c.maxLocals = 2 := hml0
  have hown : s.vm.findClass "java/lang/String" = some m.cls := findClass_of_methodNamed Bd.named
  have hnm := (name_of_methodNamed Bd.named Bd.method).1
  have hlk : meth.locks = false := by first | exact BodyLoose.notSynchronized Bd | exact Body.notSynchronized Bd
  have X0 : Stand p l e ({ frames := 1, cells := 0, slots := 0, locals := 14 } : Room) s m #[(.int p0), (.int p1)] below meth c s₁ [] 0 0 := Stand.of_body Bd
  have e0 : s₁.heap = h0 := by rw [← hh, Bd.state]; rfl
  have N0 := Fr.nil n0
  have k0 : own_R p e below (s₁.setTop (entryFrame m #[(.int p0), (.int p1)] 2)) (s₁.setTop (mkF m 0 #[vI p0, vI p1] [])) := fun t k => castTop (ef_24 m p0 p1) k
  obtain ⟨A0, hA0⟩ : ∃ z, z = s₁.setTop (entryFrame m #[(.int p0), (.int p1)] 2) := ⟨_, rfl⟩
  rw [← hA0] at k0
  have kz : ∀ t, Steps p.tables e below A0 t → Steps p.tables e below (s₁.setTop (entryFrame m #[(.int p0), (.int p1)] 2)) t := fun t q => hA0 ▸ q
  have ks1 : own_R p e below (A0) (s₁.setTop (mkF m 2 #[vI p0, vI p1] [(.int p1), (.int p0)])) := fun t k => k0 t (by
    refine XS.iloadN X0.here hx rfl (hb hby d24_0) rfl ?_
    refine XS.iloadN X0.here hx rfl (hb hby d24_1) rfl ?_
    exact k)
  obtain ⟨T2, X2, e2, st2⟩ := getS2 X0 hx hZ hown (host := "") (Or.inl (own_w hw 110 rfl)) Via.refl e0 S8 (g := (mkF m 2 #[vI p0, vI p1] [(.int p1), (.int p0)])) rfl (hb hby d24_2)
  have ks3 := own_c ks1 st2
  have ks4 : own_R p e below (A0) (T2.setTop (mkF m 5 #[vI p0, vI p1] [u8, (.int p1), (.int p0)])) := ks3
  rcases ref_cases I8 with hu8 | ⟨z8, hu8⟩
  · skip
    rw [hu8] at ks4
    obtain ⟨_, _, ⟨T5, L5, k5, n5⟩, -, X5, ⟨Lc5, hQ5, lq5, yq5, zq5⟩, st5⟩ := Jvm.LawKit.callS X2 hx (y := (⟨"jdk/internal/util/Preconditions", "checkIndex", "(IILjava/util/function/BiFunction;)I"⟩ : MethodName)) hown (mvT hZ (own_w hw 112 rfl)) (mvT hZ (own_w hw 113 rfl)) (mvT hZ (own_w hw 111 rfl)) (mvT hZ (own_w hw 114 rfl)) (by decide) (backOf (W := 0) (rm25_n l Z a0 hw [] p0 p1 h0 n0 Z0 H0 H1) hZ (own_w hw 114 rfl) (own_w hw 111 rfl) (by decide) (by decide)) (g := (mkF m 5 #[vI p0, vI p1] [.null, (.int p1), (.int p0)])) rfl (by rw [hml]; rfl) (argsL := [(.int p0), (.int p1), .null]) (rest := []) (lenOf pd_20 rfl) rfl (by show 2 * 0 + _ ≤ _; exact Nat.le_of_eq rfl) (hb hby d24_5) (fun _ _ => ⟨rfl, e2, (by decide : 0 + 0 ≤ _), (by decide : 0 + 0 ≤ _)⟩)
    dsimp only [Pt.U, Pt.locs, Pt.cells, Pt.slots] at X5 lq5 yq5 zq5 st5 hQ5
    subst lq5 yq5 zq5
    obtain ⟨rfl, Nq5, eq5⟩ := hQ5
    have N5 := Fr.app N0 Nq5
    have ks6 := own_c ks4 st5
    have ks7 : own_R p e below (A0) (T5.setTop (mkF m 9 #[vI p0, vI p1] [])) := fun t k => ks6 t (by
      refine XS.pop X5.here hx rfl (hb hby d24_8) rfl rfl ?_
      exact k)
    obtain ⟨fs, hr, hrun, hended, hW, hsame⟩ := X5.leave (v := none) (fun _ => rfl) hlk
    refine ⟨_, _, kz _ (ks7 _ ?_), hrun, hended, _, _, rfl, ?_, ⟨_, rfl⟩, hW, hsame.mono (by decide) (by decide)⟩
    · exact X5.returnOut hx Bd.returns (hb hby d24_9) hr
    · show Q24 Z p0 p1 u8 h0 n0 _ T5.heap _
      rw [eq5]
      exact ⟨rfl, N5, rfl⟩
  · skip
    rw [hu8] at ks4
    obtain ⟨_, _, ⟨T8, L8, k8, n8⟩, -, X8, ⟨Lc8, hQ8, lq8, yq8, zq8⟩, st8⟩ := Jvm.LawKit.callS X2 hx (y := (⟨"jdk/internal/util/Preconditions", "checkIndex", "(IILjava/util/function/BiFunction;)I"⟩ : MethodName)) hown (mvT hZ (own_w hw 112 rfl)) (mvT hZ (own_w hw 113 rfl)) (mvT hZ (own_w hw 111 rfl)) (mvT hZ (own_w hw 114 rfl)) (by decide) (backOf (W := 0) (rm25_r l Z a0 hw [] p0 p1 z8 h0 n0 Z0 H0 H1) hZ (own_w hw 114 rfl) (own_w hw 111 rfl) (by decide) (by decide)) (g := (mkF m 5 #[vI p0, vI p1] [(.ref z8), (.int p1), (.int p0)])) rfl (by rw [hml]; rfl) (argsL := [(.int p0), (.int p1), (.ref z8)]) (rest := []) (lenOf pd_20 rfl) rfl (by show 2 * 0 + _ ≤ _; exact Nat.le_of_eq rfl) (hb hby d24_5) (fun _ _ => ⟨rfl, e2, (by decide : 0 + 0 ≤ _), (by decide : 0 + 0 ≤ _)⟩)
    dsimp only [Pt.U, Pt.locs, Pt.cells, Pt.slots] at X8 lq8 yq8 zq8 st8 hQ8
    subst lq8 yq8 zq8
    obtain ⟨rfl, Nq8, eq8⟩ := hQ8
    have N8 := Fr.app N0 Nq8
    have ks9 := own_c ks4 st8
    have ks10 : own_R p e below (A0) (T8.setTop (mkF m 9 #[vI p0, vI p1] [])) := fun t k => ks9 t (by
      refine XS.pop X8.here hx rfl (hb hby d24_8) rfl rfl ?_
      exact k)
    obtain ⟨fs, hr, hrun, hended, hW, hsame⟩ := X8.leave (v := none) (fun _ => rfl) hlk
    refine ⟨_, _, kz _ (ks10 _ ?_), hrun, hended, _, _, rfl, ?_, ⟨_, rfl⟩, hW, hsame.mono (by decide) (by decide)⟩
    · exact X8.returnOut hx Bd.returns (hb hby d24_9) hr
    · show Q24 Z p0 p1 u8 h0 n0 _ T8.heap _
      rw [eq8]
      exact ⟨rfl, N8, rfl⟩
theorem d31_0 : decode jdk_43_method_2_code 0 = .ok (.iload_n 1, 1) := by decide +kernel
theorem d31_1 : decode jdk_43_method_2_code 1 = .ok (.aload_n 0, 1) := by decide +kernel
theorem d31_2 : decode jdk_43_method_2_code 2 = .ok (.arraylength, 1) := by decide +kernel
theorem d31_3 : decode jdk_43_method_2_code 3 = .ok (.invokestatic 9, 3) := by decide +kernel
theorem d31_6 : decode jdk_43_method_2_code 6 = .ok (.aload_n 0, 1) := by decide +kernel
theorem d31_7 : decode jdk_43_method_2_code 7 = .ok (.iload_n 1, 1) := by decide +kernel
theorem d31_8 : decode jdk_43_method_2_code 8 = .ok (.baload, 1) := by decide +kernel
theorem d31_9 : decode jdk_43_method_2_code 9 = .ok (.sipush 255, 3) := by decide +kernel
theorem d31_12 : decode jdk_43_method_2_code 12 = .ok (.iand, 1) := by decide +kernel
theorem d31_13 : decode jdk_43_method_2_code 13 = .ok (.i2c, 1) := by decide +kernel
theorem d31_14 : decode jdk_43_method_2_code 14 = .ok (.ireturn, 1) := by decide +kernel
theorem pn_31 : plainName "java/lang/StringLatin1" = true := by first | (simp [plainName, overriddenIn]; done) | decide +kernel
theorem pd_19 : parseMethodDescriptor "(II)V" = some ⟨[.int, .int], none⟩ := by decide +kernel
theorem ef_31 (m : MethodId) (x0 : Addr) (x1 : Int32) : entryFrame m #[(.ref x0), (.int x1)] 2 = mkF m 0 #[.val (.ref x0), .val (.int x1)] [] := by first | (simp [entryFrame, mkF, argsToLocals, Value.category]; done) | rfl
def Q31 (Z : State) (r0 : Addr) (p1 : Int32) (u8 : Value) (kr0 : ClassId) (z0 : Int32) (vs0 : List Value) (b0 : Int32) (w0 : Int32) (h0 : Heap) (n0 : Nat) (v : Option Value) (h : Heap) (L : List Loc) : Prop := v = some (.int w0) ∧ Fr n0 L ∧ h = h0
set_option maxRecDepth 65536 in
set_option maxHeartbeats 40000000 in
theorem rm31 (l : Launch) (Z : State) (a0 : Array Value) (hw : ∀ d ∈ tables_1, d.before a0 Z = true) (ws : List Jvm.Cond) (r0 : Addr) (p1 : Int32) (u8 : Value) (kr0 : ClassId) (z0 : Int32) (vs0 : List Value) (b0 : Int32) (w0 : Int32) (h0 : Heap) (n0 : Nat) (Z0 : n0 ≤ h0.size) (S8 : own_S8 Z h0 u8) (I8 : u8.isRef = true) (V0 : Arv Z h0 r0 kr0 .byte z0 vs0 (.int 0)) (hi0 : ¬ p1 < (0 : Int32)) (hi1 : p1 < z0) (hb0 : vs0.getD p1.toNatClampNeg (.int 0) = .int b0) (hw0 : ((b0 &&& (255 : Int32)).toUInt32.toUInt16.toUInt32.toInt32) = w0) :
    MetFree l (⟨"java/lang/StringLatin1", "charAt", "([BI)C"⟩ : MethodName) (head1 (Jvm.Cond.code (⟨"java/lang/StringLatin1", "charAt", "([BI)C"⟩ : MethodName) jdk_43_method_2_code 2 (some .char) :: ws) ({ frames := 2, cells := 0, slots := 0, locals := 27 } : Room)) (fun a U => a = #[(.ref r0), (.int p1)] ∧ Z.Warmed39 U.vm ∧ U.heap = h0) (fun _ _ _ _ _ => True) (fun _ U o U' => ∃ v L, o = .returned v ∧ Q31 Z r0 p1 u8 kr0 z0 vs0 b0 w0 h0 n0 v U'.heap L ∧ FrameEnd U o U' L ({ frames := 2, cells := 0, slots := 0, locals := 27 } : Room).cells ({ frames := 2, cells := 0, slots := 0, locals := 27 } : Room).slots) := by
  refine MetFree.of_bodySF (plainFor_of_name pn_31) hisR ?_
  intro p e s m args below meth c s₁ Bd hml0 hP hK
  obtain ⟨rfl, hZ, hh⟩ := hP
  have hx := Bd.exec
  have hby := Bd.bytes
  have hml : c.maxLocals = 2 := hml0
  have hown : s.vm.findClass "java/lang/StringLatin1" = some m.cls := findClass_of_methodNamed Bd.named
  have hnm := (name_of_methodNamed Bd.named Bd.method).1
  have hlk : meth.locks = false := by first | exact BodyLoose.notSynchronized Bd | exact Body.notSynchronized Bd
  have X0 : Stand p l e ({ frames := 2, cells := 0, slots := 0, locals := 27 } : Room) s m #[(.ref r0), (.int p1)] below meth c s₁ [] 0 0 := Stand.of_body Bd
  have e0 : s₁.heap = h0 := by rw [← hh, Bd.state]; rfl
  have N0 := Fr.nil n0
  have k0 : own_R p e below (s₁.setTop (entryFrame m #[(.ref r0), (.int p1)] 2)) (s₁.setTop (mkF m 0 #[vR r0, vI p1] [])) := fun t k => castTop (ef_31 m r0 p1) k
  obtain ⟨A0, hA0⟩ : ∃ z, z = s₁.setTop (entryFrame m #[(.ref r0), (.int p1)] 2) := ⟨_, rfl⟩
  rw [← hA0] at k0
  have kz : ∀ t, Steps p.tables e below A0 t → Steps p.tables e below (s₁.setTop (entryFrame m #[(.ref r0), (.int p1)] 2)) t := fun t q => hA0 ▸ q
  have ks1 : own_R p e below (A0) (s₁.setTop (mkF m 2 #[vR r0, vI p1] [(.ref r0), (.int p1)])) := fun t k => k0 t (by
    refine XS.iloadN X0.here hx rfl (hb hby d31_0) rfl ?_
    refine XS.aloadN X0.here hx rfl (hb hby d31_1) rfl rfl ?_
    exact k)
  obtain ⟨cl2, Ar2, qa2, S2, Na2, Ha2, Ga2⟩ := id V0
  have ks3 : own_R p e below (A0) (s₁.setTop (mkF m 3 #[vR r0, vI p1] [(.int z0), (.int p1)])) := fun t k => ks1 t (by
    refine X0.arraylength hx (by rw [e0]; exact Ar2.1) (State.isArrayOf_alike hZ.alike Ar2.2.1) (g := (mkF m 2 #[vR r0, vI p1] [(.ref r0), (.int p1)])) rfl rfl (hb hby d31_2) _ ?_
    rw [len_of S2 Na2]
    exact k)
  obtain ⟨_, _, ⟨T4, L4, k4, n4⟩, -, X4, ⟨Lc4, hQ4, lq4, yq4, zq4⟩, st4⟩ := Jvm.LawKit.callS X0 hx (y := (⟨"java/lang/String", "checkIndex", "(II)V"⟩ : MethodName)) hown (mvT hZ (own_w hw 134 rfl)) (mvT hZ (own_w hw 108 rfl)) (mvT hZ (own_w hw 7 rfl)) (mvT hZ (own_w hw 109 rfl)) (by decide) (backOf (W := 0) (rm24 l Z a0 hw [] p1 z0 u8 h0 n0 Z0 hi0 hi1 S8 I8) hZ (own_w hw 109 rfl) (own_w hw 7 rfl) (by decide) (by decide)) (g := (mkF m 3 #[vR r0, vI p1] [(.int z0), (.int p1)])) rfl (by rw [hml]; rfl) (argsL := [(.int p1), (.int z0)]) (rest := []) (lenOf pd_19 rfl) rfl (by show 2 * 0 + _ ≤ _; exact Nat.le_of_eq rfl) (hb hby d31_3) (fun _ _ => ⟨rfl, e0, (by decide : 0 + 0 ≤ _), (by decide : 0 + 0 ≤ _)⟩)
  dsimp only [Pt.U, Pt.locs, Pt.cells, Pt.slots] at X4 lq4 yq4 zq4 st4 hQ4
  subst lq4 yq4 zq4
  obtain ⟨rfl, Nq4, eq4⟩ := hQ4
  have N4 := Fr.app N0 Nq4
  have ks5 := own_c ks3 st4
  have ks6 : own_R p e below (A0) (T4.setTop (mkF m 14 #[vR r0, vI p1] [(.int ((b0 &&& (255 : Int32)).toUInt32.toUInt16.toUInt32.toInt32))])) := fun t k => ks5 t (by
    refine XS.aloadN X4.here hx rfl (hb hby d31_6) rfl rfl ?_
    refine XS.iloadN X4.here hx rfl (hb hby d31_7) rfl ?_
    refine X4.baloadBytes hx (j := p1) (v := (.int b0)) (by rw [eq4]; exact Ar2.1) (State.isArrayOf_alike hZ.alike Ar2.2.1) Ar2.2.2 (inb_of S2 ⟨hi0, hi1⟩) (Has.at Ha2 (inb_of S2 ⟨hi0, hi1⟩) hb0) (g := (mkF m 8 #[vR r0, vI p1] [(.int p1), (.ref r0)])) rfl rfl (hb hby d31_8) _ ?_
    show Steps p.tables e below (T4.setTop (mkF m 9 #[vR r0, vI p1] [(.int b0)])) _
    refine XS.sipush X4.here hx rfl (hb hby d31_9) ?_
    refine XS.iand X4.here hx rfl (hb hby d31_12) rfl ?_
    refine XS.i2c X4.here hx rfl (hb hby d31_13) rfl ?_
    exact k)
  obtain ⟨fs, hr, hrun, hended, hW, hsame⟩ := X4.leave (v := some (.int ((b0 &&& (255 : Int32)).toUInt32.toUInt16.toUInt32.toInt32))) (fun h => by rw [Bd.returns] at h; cases h) hlk
  refine ⟨_, _, kz _ (ks6 _ ?_), hrun, hended, _, _, rfl, ?_, ⟨_, rfl⟩, hW, hsame.mono (by decide) (by decide)⟩
  · exact retOut X4 hx Bd.returns (own_nc _) (Or.inl ⟨rfl, by simp, _, rfl⟩) (hb hby d31_14) hr
  · show Q31 Z r0 p1 u8 kr0 z0 vs0 b0 w0 h0 n0 _ T4.heap _
    rw [eq4]
    exact ⟨by rw [hw0], N4, rfl⟩
theorem d23_0 : decode jdk_52_method_6_code 0 = .ok (.aload_n 0, 1) := by decide +kernel
theorem d23_1 : decode jdk_52_method_6_code 1 = .ok (.arraylength, 1) := by decide +kernel
theorem d23_2 : decode jdk_52_method_6_code 2 = .ok (.iconst 1, 1) := by decide +kernel
theorem d23_3 : decode jdk_52_method_6_code 3 = .ok (.ishr, 1) := by decide +kernel
theorem d23_4 : decode jdk_52_method_6_code 4 = .ok (.ireturn, 1) := by decide +kernel
theorem pn_23 : plainName "java/lang/StringUTF16" = true := by first | (simp [plainName, overriddenIn]; done) | decide +kernel
theorem ef_23 (m : MethodId) (x0 : Addr) : entryFrame m #[(.ref x0)] 1 = mkF m 0 #[.val (.ref x0)] [] := by first | (simp [entryFrame, mkF, argsToLocals, Value.category]; done) | rfl
def Q23 (Z : State) (r0 : Addr) (kr0 : ClassId) (z0 : Int32) (vs0 : List Value) (zn : Int32) (h0 : Heap) (n0 : Nat) (v : Option Value) (h : Heap) (L : List Loc) : Prop := v = some (.int zn) ∧ Fr n0 L ∧ h = h0
set_option maxRecDepth 65536 in
set_option maxHeartbeats 40000000 in
theorem rm23 (l : Launch) (Z : State) (a0 : Array Value) (hw : ∀ d ∈ tables_1, d.before a0 Z = true) (ws : List Jvm.Cond) (r0 : Addr) (kr0 : ClassId) (z0 : Int32) (vs0 : List Value) (zn : Int32) (h0 : Heap) (n0 : Nat) (Z0 : n0 ≤ h0.size) (V0 : Arv Z h0 r0 kr0 .byte z0 vs0 (.int 0)) (hn : (z0 >>> ((1 : Int32) &&& 31)) = zn) :
    MetFree l (⟨"java/lang/StringUTF16", "length", "([B)I"⟩ : MethodName) (head1 (Jvm.Cond.code (⟨"java/lang/StringUTF16", "length", "([B)I"⟩ : MethodName) jdk_52_method_6_code 1 (some .int) :: ws) ({ frames := 0, cells := 0, slots := 0, locals := 0 } : Room)) (fun a U => a = #[(.ref r0)] ∧ Z.Warmed39 U.vm ∧ U.heap = h0) (fun _ _ _ _ _ => True) (fun _ U o U' => ∃ v L, o = .returned v ∧ Q23 Z r0 kr0 z0 vs0 zn h0 n0 v U'.heap L ∧ FrameEnd U o U' L ({ frames := 0, cells := 0, slots := 0, locals := 0 } : Room).cells ({ frames := 0, cells := 0, slots := 0, locals := 0 } : Room).slots) := by
  refine MetFree.of_bodySF (plainFor_of_name pn_23) hisR ?_
  intro p e s m args below meth c s₁ Bd hml0 hP hK
  obtain ⟨rfl, hZ, hh⟩ := hP
  have hx := Bd.exec
  have hby := Bd.bytes
  have hml : c.maxLocals = 1 := hml0
  have hown : s.vm.findClass "java/lang/StringUTF16" = some m.cls := findClass_of_methodNamed Bd.named
  have hnm := (name_of_methodNamed Bd.named Bd.method).1
  have hlk : meth.locks = false := by first | exact BodyLoose.notSynchronized Bd | exact Body.notSynchronized Bd
  have X0 : Stand p l e ({ frames := 0, cells := 0, slots := 0, locals := 0 } : Room) s m #[(.ref r0)] below meth c s₁ [] 0 0 := Stand.of_body Bd
  have e0 : s₁.heap = h0 := by rw [← hh, Bd.state]; rfl
  have N0 := Fr.nil n0
  have k0 : own_R p e below (s₁.setTop (entryFrame m #[(.ref r0)] 1)) (s₁.setTop (mkF m 0 #[vR r0] [])) := fun t k => castTop (ef_23 m r0) k
  obtain ⟨A0, hA0⟩ : ∃ z, z = s₁.setTop (entryFrame m #[(.ref r0)] 1) := ⟨_, rfl⟩
  rw [← hA0] at k0
  have kz : ∀ t, Steps p.tables e below A0 t → Steps p.tables e below (s₁.setTop (entryFrame m #[(.ref r0)] 1)) t := fun t q => hA0 ▸ q
  have ks1 : own_R p e below (A0) (s₁.setTop (mkF m 1 #[vR r0] [(.ref r0)])) := fun t k => k0 t (by
    refine XS.aloadN X0.here hx rfl (hb hby d23_0) rfl rfl ?_
    exact k)
  obtain ⟨cl2, Ar2, qa2, S2, Na2, Ha2, Ga2⟩ := id V0
  have ks3 : own_R p e below (A0) (s₁.setTop (mkF m 4 #[vR r0] [(.int (z0 >>> ((1 : Int32) &&& 31)))])) := fun t k => ks1 t (by
    refine X0.arraylength hx (by rw [e0]; exact Ar2.1) (State.isArrayOf_alike hZ.alike Ar2.2.1) (g := (mkF m 1 #[vR r0] [(.ref r0)])) rfl rfl (hb hby d23_1) _ ?_
    rw [len_of S2 Na2]
    refine XS.iconst X0.here hx rfl (hb hby d23_2) ?_
    refine XS.ishr X0.here hx rfl (hb hby d23_3) rfl ?_
    exact k)
  obtain ⟨fs, hr, hrun, hended, hW, hsame⟩ := X0.leave (v := some (.int (z0 >>> ((1 : Int32) &&& 31)))) (fun h => by rw [Bd.returns] at h; cases h) hlk
  refine ⟨_, _, kz _ (ks3 _ ?_), hrun, hended, _, _, rfl, ?_, ⟨_, rfl⟩, hW, hsame.mono (by decide) (by decide)⟩
  · exact retI X0 hx Bd.returns (hb hby d23_4) hr
  · show Q23 Z r0 kr0 z0 vs0 zn h0 n0 _ s₁.heap _
    rw [e0]
    exact ⟨by rw [hn], N0, rfl⟩
theorem d22_0 : decode jdk_52_method_91_code 0 = .ok (.iload_n 0, 1) := by decide +kernel
theorem d22_1 : decode jdk_52_method_91_code 1 = .ok (.aload_n 1, 1) := by decide +kernel
theorem d22_2 : decode jdk_52_method_91_code 2 = .ok (.invokestatic 48, 3) := by decide +kernel
theorem d22_5 : decode jdk_52_method_91_code 5 = .ok (.invokestatic 414, 3) := by decide +kernel
theorem d22_8 : decode jdk_52_method_91_code 8 = .ok (.return_, 1) := by decide +kernel
theorem pn_22 : plainName "java/lang/StringUTF16" = true := by first | (simp [plainName, overriddenIn]; done) | decide +kernel
theorem pd_18 : parseMethodDescriptor "([B)I" = some ⟨[(.array .byte)], some .int⟩ := by decide +kernel
theorem ef_22 (m : MethodId) (x0 : Int32) (x1 : Addr) : entryFrame m #[(.int x0), (.ref x1)] 2 = mkF m 0 #[.val (.int x0), .val (.ref x1)] [] := by first | (simp [entryFrame, mkF, argsToLocals, Value.category]; done) | rfl
def Q22 (Z : State) (p0 : Int32) (r1 : Addr) (u8 : Value) (kr1 : ClassId) (z0 : Int32) (vs0 : List Value) (zn : Int32) (h0 : Heap) (n0 : Nat) (v : Option Value) (h : Heap) (L : List Loc) : Prop := v = none ∧ Fr n0 L ∧ h = h0
set_option maxRecDepth 65536 in
set_option maxHeartbeats 40000000 in
theorem rm22 (l : Launch) (Z : State) (a0 : Array Value) (hw : ∀ d ∈ tables_1, d.before a0 Z = true) (ws : List Jvm.Cond) (p0 : Int32) (r1 : Addr) (u8 : Value) (kr1 : ClassId) (z0 : Int32) (vs0 : List Value) (zn : Int32) (h0 : Heap) (n0 : Nat) (Z0 : n0 ≤ h0.size) (S8 : own_S8 Z h0 u8) (I8 : u8.isRef = true) (V0 : Arv Z h0 r1 kr1 .byte z0 vs0 (.int 0)) (hn : (z0 >>> ((1 : Int32) &&& 31)) = zn) (hi0 : ¬ p0 < (0 : Int32)) (hi1 : p0 < zn) :
    MetFree l (⟨"java/lang/StringUTF16", "checkIndex", "(I[B)V"⟩ : MethodName) (head1 (Jvm.Cond.code (⟨"java/lang/StringUTF16", "checkIndex", "(I[B)V"⟩ : MethodName) jdk_52_method_91_code 2 none :: ws) ({ frames := 2, cells := 0, slots := 0, locals := 27 } : Room)) (fun a U => a = #[(.int p0), (.ref r1)] ∧ Z.Warmed39 U.vm ∧ U.heap = h0) (fun _ _ _ _ _ => True) (fun _ U o U' => ∃ v L, o = .returned v ∧ Q22 Z p0 r1 u8 kr1 z0 vs0 zn h0 n0 v U'.heap L ∧ FrameEnd U o U' L ({ frames := 2, cells := 0, slots := 0, locals := 27 } : Room).cells ({ frames := 2, cells := 0, slots := 0, locals := 27 } : Room).slots) := by
  refine MetFree.of_bodySF (plainFor_of_name pn_22) hisR ?_
  intro p e s m args below meth c s₁ Bd hml0 hP hK
  obtain ⟨rfl, hZ, hh⟩ := hP
  have hx := Bd.exec
  have hby := Bd.bytes
  have hml : c.maxLocals = 2 := hml0
  have hown : s.vm.findClass "java/lang/StringUTF16" = some m.cls := findClass_of_methodNamed Bd.named
  have hnm := (name_of_methodNamed Bd.named Bd.method).1
  have hlk : meth.locks = false := by first | exact BodyLoose.notSynchronized Bd | exact Body.notSynchronized Bd
  have X0 : Stand p l e ({ frames := 2, cells := 0, slots := 0, locals := 27 } : Room) s m #[(.int p0), (.ref r1)] below meth c s₁ [] 0 0 := Stand.of_body Bd
  have e0 : s₁.heap = h0 := by rw [← hh, Bd.state]; rfl
  have N0 := Fr.nil n0
  have k0 : own_R p e below (s₁.setTop (entryFrame m #[(.int p0), (.ref r1)] 2)) (s₁.setTop (mkF m 0 #[vI p0, vR r1] [])) := fun t k => castTop (ef_22 m p0 r1) k
  obtain ⟨A0, hA0⟩ : ∃ z, z = s₁.setTop (entryFrame m #[(.int p0), (.ref r1)] 2) := ⟨_, rfl⟩
  rw [← hA0] at k0
  have kz : ∀ t, Steps p.tables e below A0 t → Steps p.tables e below (s₁.setTop (entryFrame m #[(.int p0), (.ref r1)] 2)) t := fun t q => hA0 ▸ q
  have ks1 : own_R p e below (A0) (s₁.setTop (mkF m 2 #[vI p0, vR r1] [(.ref r1), (.int p0)])) := fun t k => k0 t (by
    refine XS.iloadN X0.here hx rfl (hb hby d22_0) rfl ?_
    refine XS.aloadN X0.here hx rfl (hb hby d22_1) rfl rfl ?_
    exact k)
  obtain ⟨_, _, ⟨T2, L2, k2, n2⟩, -, X2, ⟨Lc2, hQ2, lq2, yq2, zq2⟩, st2⟩ := Jvm.LawKit.callS X0 hx (y := (⟨"java/lang/StringUTF16", "length", "([B)I"⟩ : MethodName)) hown (mvT hZ (own_w hw 104 rfl)) (mvT hZ (own_w hw 105 rfl)) (mvT hZ (own_w hw 40 rfl)) (mvT hZ (own_w hw 106 rfl)) (by decide) (backOf (W := 1) (rm23 l Z a0 hw [] r1 _ z0 _ zn h0 n0 Z0 V0 hn) hZ (own_w hw 106 rfl) (own_w hw 40 rfl) (by decide) (by decide)) (g := (mkF m 2 #[vI p0, vR r1] [(.ref r1), (.int p0)])) rfl (by rw [hml]; rfl) (argsL := [(.ref r1)]) (rest := [(.int p0)]) (lenOf pd_18 rfl) rfl (by show 2 * 0 + _ ≤ _; exact Nat.le_of_eq rfl) (hb hby d22_2) (fun _ _ => ⟨rfl, e0, (by decide : 0 + 0 ≤ _), (by decide : 0 + 0 ≤ _)⟩)
  dsimp only [Pt.U, Pt.locs, Pt.cells, Pt.slots] at X2 lq2 yq2 zq2 st2 hQ2
  subst lq2 yq2 zq2
  obtain ⟨rfl, Nq2, eq2⟩ := hQ2
  have N2 := Fr.app N0 Nq2
  have ks3 := own_c ks1 st2
  obtain ⟨_, _, ⟨T4, L4, k4, n4⟩, -, X4, ⟨Lc4, hQ4, lq4, yq4, zq4⟩, st4⟩ := Jvm.LawKit.callS X2 hx (y := (⟨"java/lang/String", "checkIndex", "(II)V"⟩ : MethodName)) hown (mvT hZ (own_w hw 107 rfl)) (mvT hZ (own_w hw 108 rfl)) (mvT hZ (own_w hw 7 rfl)) (mvT hZ (own_w hw 109 rfl)) (by decide) (backOf (W := 0) (rm24 l Z a0 hw [] p0 zn u8 h0 n0 Z0 hi0 hi1 S8 I8) hZ (own_w hw 109 rfl) (own_w hw 7 rfl) (by decide) (by decide)) (g := (mkF m 5 #[vI p0, vR r1] [(.int zn), (.int p0)])) rfl (by rw [hml]; rfl) (argsL := [(.int p0), (.int zn)]) (rest := []) (lenOf pd_19 rfl) rfl (by show 2 * 0 + _ ≤ _; exact Nat.le_of_eq rfl) (hb hby d22_5) (fun _ _ => ⟨rfl, eq2, (by decide : 0 + 0 ≤ _), (by decide : 0 + 0 ≤ _)⟩)
  dsimp only [Pt.U, Pt.locs, Pt.cells, Pt.slots] at X4 lq4 yq4 zq4 st4 hQ4
  subst lq4 yq4 zq4
  obtain ⟨rfl, Nq4, eq4⟩ := hQ4
  have N4 := Fr.app N2 Nq4
  have ks5 := own_c ks3 st4
  obtain ⟨fs, hr, hrun, hended, hW, hsame⟩ := X4.leave (v := none) (fun _ => rfl) hlk
  refine ⟨_, _, kz _ (ks5 _ ?_), hrun, hended, _, _, rfl, ?_, ⟨_, rfl⟩, hW, hsame.mono (by decide) (by decide)⟩
  · exact X4.returnOut hx Bd.returns (hb hby d22_8) hr
  · show Q22 Z p0 r1 u8 kr1 z0 vs0 zn h0 n0 _ T4.heap _
    rw [eq4]
    exact ⟨rfl, N4, rfl⟩
theorem d13_0 : decode jdk_52_method_5_code 0 = .ok (.getstatic 44, 3) := by decide +kernel
theorem d13_3 : decode jdk_52_method_5_code 3 = .ok (.ifCond .ne 25, 3) := by decide +kernel
theorem d13_28 : decode jdk_52_method_5_code 28 = .ok (.iload_n 1, 1) := by decide +kernel
theorem d13_29 : decode jdk_52_method_5_code 29 = .ok (.iconst 1, 1) := by decide +kernel
theorem d13_30 : decode jdk_52_method_5_code 30 = .ok (.ishl, 1) := by decide +kernel
theorem d13_31 : decode jdk_52_method_5_code 31 = .ok (.istore_n 1, 1) := by decide +kernel
theorem d13_32 : decode jdk_52_method_5_code 32 = .ok (.aload_n 0, 1) := by decide +kernel
theorem d13_33 : decode jdk_52_method_5_code 33 = .ok (.iload_n 1, 1) := by decide +kernel
theorem d13_34 : decode jdk_52_method_5_code 34 = .ok (.iinc 1 1, 3) := by decide +kernel
theorem d13_37 : decode jdk_52_method_5_code 37 = .ok (.baload, 1) := by decide +kernel
theorem d13_38 : decode jdk_52_method_5_code 38 = .ok (.sipush 255, 3) := by decide +kernel
theorem d13_41 : decode jdk_52_method_5_code 41 = .ok (.iand, 1) := by decide +kernel
theorem d13_42 : decode jdk_52_method_5_code 42 = .ok (.getstatic 59, 3) := by decide +kernel
theorem d13_45 : decode jdk_52_method_5_code 45 = .ok (.ishl, 1) := by decide +kernel
theorem d13_46 : decode jdk_52_method_5_code 46 = .ok (.aload_n 0, 1) := by decide +kernel
theorem d13_47 : decode jdk_52_method_5_code 47 = .ok (.iload_n 1, 1) := by decide +kernel
theorem d13_48 : decode jdk_52_method_5_code 48 = .ok (.baload, 1) := by decide +kernel
theorem d13_49 : decode jdk_52_method_5_code 49 = .ok (.sipush 255, 3) := by decide +kernel
theorem d13_52 : decode jdk_52_method_5_code 52 = .ok (.iand, 1) := by decide +kernel
theorem d13_53 : decode jdk_52_method_5_code 53 = .ok (.getstatic 63, 3) := by decide +kernel
theorem d13_56 : decode jdk_52_method_5_code 56 = .ok (.ishl, 1) := by decide +kernel
theorem d13_57 : decode jdk_52_method_5_code 57 = .ok (.ior, 1) := by decide +kernel
theorem d13_58 : decode jdk_52_method_5_code 58 = .ok (.i2c, 1) := by decide +kernel
theorem d13_59 : decode jdk_52_method_5_code 59 = .ok (.ireturn, 1) := by decide +kernel
theorem pn_13 : plainName "java/lang/StringUTF16" = true := by first | (simp [plainName, overriddenIn]; done) | decide +kernel
theorem ef_13 (m : MethodId) (x0 : Addr) (x1 : Int32) : entryFrame m #[(.ref x0), (.int x1)] 2 = mkF m 0 #[.val (.ref x0), .val (.int x1)] [] := by first | (simp [entryFrame, mkF, argsToLocals, Value.category]; done) | rfl
def Q13 (Z : State) (r0 : Addr) (p1 : Int32) (kr0 : ClassId) (z0 : Int32) (vs0 : List Value) (b0 : Int32) (b1 : Int32) (w0 : Int32) (h0 : Heap) (n0 : Nat) (v : Option Value) (h : Heap) (L : List Loc) : Prop := v = some (.int w0) ∧ Fr n0 L ∧ h = h0
set_option maxRecDepth 65536 in
set_option maxHeartbeats 40000000 in
theorem rm13 (l : Launch) (Z : State) (a0 : Array Value) (hw : ∀ d ∈ tables_1, d.before a0 Z = true) (ws : List Jvm.Cond) (r0 : Addr) (p1 : Int32) (kr0 : ClassId) (z0 : Int32) (vs0 : List Value) (b0 : Int32) (b1 : Int32) (w0 : Int32) (h0 : Heap) (n0 : Nat) (Z0 : n0 ≤ h0.size) (S7a : own_S7a Z h0) (S7b : own_S7b Z h0) (S7c : own_S7c Z h0) (V0 : Arv Z h0 r0 kr0 .byte z0 vs0 (.int 0)) (uA0 : ¬ (p1 <<< ((1 : Int32) &&& 31)) < 0 ∧ (p1 <<< ((1 : Int32) &&& 31)) < z0) (uA1 : vs0.getD (p1 <<< ((1 : Int32) &&& 31)).toNatClampNeg (.int 0) = .int b0) (uB0 : ¬ ((p1 <<< ((1 : Int32) &&& 31)) + (1 : Int32)) < 0 ∧ ((p1 <<< ((1 : Int32) &&& 31)) + (1 : Int32)) < z0) (uB1 : vs0.getD ((p1 <<< ((1 : Int32) &&& 31)) + (1 : Int32)).toNatClampNeg (.int 0) = .int b1) (hw0 : (((b0 &&& (255 : Int32)) <<< ((0 : Int32) &&& 31)) ||| ((b1 &&& (255 : Int32)) <<< ((8 : Int32) &&& 31))).toUInt32.toUInt16.toUInt32.toInt32 = w0) :
    MetFree l (⟨"java/lang/StringUTF16", "getChar", "([BI)C"⟩ : MethodName) (head1 (Jvm.Cond.code (⟨"java/lang/StringUTF16", "getChar", "([BI)C"⟩ : MethodName) jdk_52_method_5_code 2 (some .char) :: ws) ({ frames := 0, cells := 0, slots := 0, locals := 0 } : Room)) (fun a U => a = #[(.ref r0), (.int p1)] ∧ Z.Warmed39 U.vm ∧ U.heap = h0) (fun _ _ _ _ _ => True) (fun _ U o U' => ∃ v L, o = .returned v ∧ Q13 Z r0 p1 kr0 z0 vs0 b0 b1 w0 h0 n0 v U'.heap L ∧ FrameEnd U o U' L ({ frames := 0, cells := 0, slots := 0, locals := 0 } : Room).cells ({ frames := 0, cells := 0, slots := 0, locals := 0 } : Room).slots) := by
  refine MetFree.of_bodySF (plainFor_of_name pn_13) hisR ?_
  intro p e s m args below meth c s₁ Bd hml0 hP hK
  obtain ⟨rfl, hZ, hh⟩ := hP
  have hx := Bd.exec
  have hby := Bd.bytes
  have hml : c.maxLocals = 2 := hml0
  have hown : s.vm.findClass "java/lang/StringUTF16" = some m.cls := findClass_of_methodNamed Bd.named
  have hnm := (name_of_methodNamed Bd.named Bd.method).1
  have hlk : meth.locks = false := by first | exact BodyLoose.notSynchronized Bd | exact Body.notSynchronized Bd
  have X0 : Stand p l e ({ frames := 0, cells := 0, slots := 0, locals := 0 } : Room) s m #[(.ref r0), (.int p1)] below meth c s₁ [] 0 0 := Stand.of_body Bd
  have e0 : s₁.heap = h0 := by rw [← hh, Bd.state]; rfl
  have N0 := Fr.nil n0
  have k0 : own_R p e below (s₁.setTop (entryFrame m #[(.ref r0), (.int p1)] 2)) (s₁.setTop (mkF m 0 #[vR r0, vI p1] [])) := fun t k => castTop (ef_13 m r0 p1) k
  obtain ⟨A0, hA0⟩ : ∃ z, z = s₁.setTop (entryFrame m #[(.ref r0), (.int p1)] 2) := ⟨_, rfl⟩
  rw [← hA0] at k0
  have kz : ∀ t, Steps p.tables e below A0 t → Steps p.tables e below (s₁.setTop (entryFrame m #[(.ref r0), (.int p1)] 2)) t := fun t q => hA0 ▸ q
  obtain ⟨T1, X1, e1, st1⟩ := getS2 X0 hx hZ hown (host := "") (Or.inl (own_w hw 58 rfl)) Via.refl e0 S7a (g := (mkF m 0 #[vR r0, vI p1] [])) rfl (hb hby d13_0)
  have ks2 := own_c k0 st1
  have ks3 : own_R p e below (A0) (T1.setTop (mkF m 37 #[vR r0, vI ((p1 <<< ((1 : Int32) &&& 31)) + (1 : Int32))] [(.int (p1 <<< ((1 : Int32) &&& 31))), (.ref r0)])) := fun t k => ks2 t (by
    refine XS.ifYes X1.here hx rfl (pc0 := 3) (pc' := 28) rfl (hb hby d13_3) rfl ((if0 _ _).trans (feq (by decide)).2) (by decide) (by decide) ?_
    refine XS.iloadN X1.here hx rfl (hb hby d13_28) rfl ?_
    refine XS.iconst X1.here hx rfl (hb hby d13_29) ?_
    show Steps p.tables e below (T1.setTop (mkF m 30 #[vR r0, vI p1] [(.int 1), (.int p1)])) _
    refine XS.ishl X1.here hx rfl (hb hby d13_30) rfl ?_
    refine XS.istoreN X1.here hx rfl (hb hby d13_31) rfl (l' := #[vR r0, vI (p1 <<< ((1 : Int32) &&& 31))]) rfl ?_
    refine XS.aloadN X1.here hx rfl (hb hby d13_32) rfl rfl ?_
    refine XS.iloadN X1.here hx rfl (hb hby d13_33) rfl ?_
    show Steps p.tables e below (T1.setTop (mkF m 34 #[vR r0, vI (p1 <<< ((1 : Int32) &&& 31))] [(.int (p1 <<< ((1 : Int32) &&& 31))), (.ref r0)])) _
    refine XS.iinc X1.here hx rfl (hb hby d13_34) rfl (l' := #[vR r0, vI ((p1 <<< ((1 : Int32) &&& 31)) + (1 : Int32))]) rfl ?_
    exact k)
  obtain ⟨cl4, Ar4, qa4, S4, Na4, Ha4, Ga4⟩ := id V0
  have ks5 : own_R p e below (A0) (T1.setTop (mkF m 42 #[vR r0, vI ((p1 <<< ((1 : Int32) &&& 31)) + (1 : Int32))] [(.int (b0 &&& (255 : Int32)))])) := fun t k => ks3 t (by
    refine X1.baloadBytes hx (j := (p1 <<< ((1 : Int32) &&& 31))) (v := (.int b0)) (by rw [e1]; exact Ar4.1) (State.isArrayOf_alike hZ.alike Ar4.2.1) Ar4.2.2 (inb_of S4 uA0) (Has.at Ha4 (inb_of S4 uA0) uA1) (g := (mkF m 37 #[vR r0, vI ((p1 <<< ((1 : Int32) &&& 31)) + (1 : Int32))] [(.int (p1 <<< ((1 : Int32) &&& 31))), (.ref r0)])) rfl rfl (hb hby d13_37) _ ?_
    refine XS.sipush X1.here hx rfl (hb hby d13_38) ?_
    refine XS.iand X1.here hx rfl (hb hby d13_41) rfl ?_
    exact k)
  obtain ⟨T6, X6, e6, st6⟩ := getS2 X1 hx hZ hown (host := "") (Or.inl (own_w hw 59 rfl)) Via.refl e1 S7b (g := (mkF m 42 #[vR r0, vI ((p1 <<< ((1 : Int32) &&& 31)) + (1 : Int32))] [(.int (b0 &&& (255 : Int32)))])) rfl (hb hby d13_42)
  have ks7 := own_c ks5 st6
  have ks8 : own_R p e below (A0) (T6.setTop (mkF m 53 #[vR r0, vI ((p1 <<< ((1 : Int32) &&& 31)) + (1 : Int32))] [(.int (b1 &&& (255 : Int32))), (.int ((b0 &&& (255 : Int32)) <<< ((0 : Int32) &&& 31)))])) := fun t k => ks7 t (by
    refine XS.ishl X6.here hx rfl (hb hby d13_45) rfl ?_
    refine XS.aloadN X6.here hx rfl (hb hby d13_46) rfl rfl ?_
    refine XS.iloadN X6.here hx rfl (hb hby d13_47) rfl ?_
    refine X6.baloadBytes hx (j := ((p1 <<< ((1 : Int32) &&& 31)) + (1 : Int32))) (v := (.int b1)) (by rw [e6]; exact Ar4.1) (State.isArrayOf_alike hZ.alike Ar4.2.1) Ar4.2.2 (inb_of S4 uB0) (Has.at Ha4 (inb_of S4 uB0) uB1) (g := (mkF m 48 #[vR r0, vI ((p1 <<< ((1 : Int32) &&& 31)) + (1 : Int32))] [(.int ((p1 <<< ((1 : Int32) &&& 31)) + (1 : Int32))), (.ref r0), (.int ((b0 &&& (255 : Int32)) <<< ((0 : Int32) &&& 31)))])) rfl rfl (hb hby d13_48) _ ?_
    refine XS.sipush X6.here hx rfl (hb hby d13_49) ?_
    refine XS.iand X6.here hx rfl (hb hby d13_52) rfl ?_
    exact k)
  obtain ⟨T9, X9, e9, st9⟩ := getS2 X6 hx hZ hown (host := "") (Or.inl (own_w hw 60 rfl)) Via.refl e6 S7c (g := (mkF m 53 #[vR r0, vI ((p1 <<< ((1 : Int32) &&& 31)) + (1 : Int32))] [(.int (b1 &&& (255 : Int32))), (.int ((b0 &&& (255 : Int32)) <<< ((0 : Int32) &&& 31)))])) rfl (hb hby d13_53)
  have ks10 := own_c ks8 st9
  have ks11 : own_R p e below (A0) (T9.setTop (mkF m 59 #[vR r0, vI ((p1 <<< ((1 : Int32) &&& 31)) + (1 : Int32))] [(.int ((((b0 &&& (255 : Int32)) <<< ((0 : Int32) &&& 31)) ||| ((b1 &&& (255 : Int32)) <<< ((8 : Int32) &&& 31))).toUInt32.toUInt16.toUInt32.toInt32))])) := fun t k => ks10 t (by
    refine XS.ishl X9.here hx rfl (hb hby d13_56) rfl ?_
    refine XS.ior X9.here hx rfl (hb hby d13_57) rfl ?_
    refine XS.i2c X9.here hx rfl (hb hby d13_58) rfl ?_
    exact k)
  obtain ⟨fs, hr, hrun, hended, hW, hsame⟩ := X9.leave (v := some (.int ((((b0 &&& (255 : Int32)) <<< ((0 : Int32) &&& 31)) ||| ((b1 &&& (255 : Int32)) <<< ((8 : Int32) &&& 31))).toUInt32.toUInt16.toUInt32.toInt32))) (fun h => by rw [Bd.returns] at h; cases h) hlk
  refine ⟨_, _, kz _ (ks11 _ ?_), hrun, hended, _, _, rfl, ?_, ⟨_, rfl⟩, hW, hsame.mono (by decide) (by decide)⟩
  · exact retOut X9 hx Bd.returns (own_nc _) (Or.inl ⟨rfl, by simp, _, rfl⟩) (hb hby d13_59) hr
  · show Q13 Z r0 p1 kr0 z0 vs0 b0 b1 w0 h0 n0 _ T9.heap _
    rw [e9]
    exact ⟨by rw [hw0], N0, rfl⟩
theorem d21_0 : decode jdk_52_method_83_code 0 = .ok (.iload_n 1, 1) := by decide +kernel
theorem d21_1 : decode jdk_52_method_83_code 1 = .ok (.aload_n 0, 1) := by decide +kernel
theorem d21_2 : decode jdk_52_method_83_code 2 = .ok (.invokestatic 67, 3) := by decide +kernel
theorem d21_5 : decode jdk_52_method_83_code 5 = .ok (.aload_n 0, 1) := by decide +kernel
theorem d21_6 : decode jdk_52_method_83_code 6 = .ok (.iload_n 1, 1) := by decide +kernel
theorem d21_7 : decode jdk_52_method_83_code 7 = .ok (.invokestatic 71, 3) := by decide +kernel
theorem d21_10 : decode jdk_52_method_83_code 10 = .ok (.ireturn, 1) := by decide +kernel
theorem pn_21 : plainName "java/lang/StringUTF16" = true := by first | (simp [plainName, overriddenIn]; done) | decide +kernel
theorem pd_11 : parseMethodDescriptor "([BI)C" = some ⟨[(.array .byte), .int], some .char⟩ := by decide +kernel
theorem pd_17 : parseMethodDescriptor "(I[B)V" = some ⟨[.int, (.array .byte)], none⟩ := by decide +kernel
theorem ef_21 (m : MethodId) (x0 : Addr) (x1 : Int32) : entryFrame m #[(.ref x0), (.int x1)] 2 = mkF m 0 #[.val (.ref x0), .val (.int x1)] [] := by first | (simp [entryFrame, mkF, argsToLocals, Value.category]; done) | rfl
def Q21 (Z : State) (r0 : Addr) (p1 : Int32) (u8 : Value) (kr0 : ClassId) (z0 : Int32) (vs0 : List Value) (b0 : Int32) (b1 : Int32) (w0 : Int32) (zn : Int32) (h0 : Heap) (n0 : Nat) (v : Option Value) (h : Heap) (L : List Loc) : Prop := v = some (.int w0) ∧ Fr n0 L ∧ h = h0
set_option maxRecDepth 65536 in
set_option maxHeartbeats 40000000 in
theorem rm21 (l : Launch) (Z : State) (a0 : Array Value) (hw : ∀ d ∈ tables_1, d.before a0 Z = true) (ws : List Jvm.Cond) (r0 : Addr) (p1 : Int32) (u8 : Value) (kr0 : ClassId) (z0 : Int32) (vs0 : List Value) (b0 : Int32) (b1 : Int32) (w0 : Int32) (zn : Int32) (h0 : Heap) (n0 : Nat) (Z0 : n0 ≤ h0.size) (S7a : own_S7a Z h0) (S7b : own_S7b Z h0) (S7c : own_S7c Z h0) (S8 : own_S8 Z h0 u8) (I8 : u8.isRef = true) (V0 : Arv Z h0 r0 kr0 .byte z0 vs0 (.int 0)) (uA0 : ¬ (p1 <<< ((1 : Int32) &&& 31)) < 0 ∧ (p1 <<< ((1 : Int32) &&& 31)) < z0) (uA1 : vs0.getD (p1 <<< ((1 : Int32) &&& 31)).toNatClampNeg (.int 0) = .int b0) (uB0 : ¬ ((p1 <<< ((1 : Int32) &&& 31)) + (1 : Int32)) < 0 ∧ ((p1 <<< ((1 : Int32) &&& 31)) + (1 : Int32)) < z0) (uB1 : vs0.getD ((p1 <<< ((1 : Int32) &&& 31)) + (1 : Int32)).toNatClampNeg (.int 0) = .int b1) (hw0 : (((b0 &&& (255 : Int32)) <<< ((0 : Int32) &&& 31)) ||| ((b1 &&& (255 : Int32)) <<< ((8 : Int32) &&& 31))).toUInt32.toUInt16.toUInt32.toInt32 = w0) (hnw : w0.toUInt32.toUInt16.toUInt32.toInt32 = w0) (hn : (z0 >>> ((1 : Int32) &&& 31)) = zn) (hi0 : ¬ p1 < (0 : Int32)) (hi1 : p1 < zn) :
    MetFree l (⟨"java/lang/StringUTF16", "charAt", "([BI)C"⟩ : MethodName) (head1 (Jvm.Cond.code (⟨"java/lang/StringUTF16", "charAt", "([BI)C"⟩ : MethodName) jdk_52_method_83_code 2 (some .char) :: ws) ({ frames := 3, cells := 0, slots := 0, locals := 40 } : Room)) (fun a U => a = #[(.ref r0), (.int p1)] ∧ Z.Warmed39 U.vm ∧ U.heap = h0) (fun _ _ _ _ _ => True) (fun _ U o U' => ∃ v L, o = .returned v ∧ Q21 Z r0 p1 u8 kr0 z0 vs0 b0 b1 w0 zn h0 n0 v U'.heap L ∧ FrameEnd U o U' L ({ frames := 3, cells := 0, slots := 0, locals := 40 } : Room).cells ({ frames := 3, cells := 0, slots := 0, locals := 40 } : Room).slots) := by
  refine MetFree.of_bodySF (plainFor_of_name pn_21) hisR ?_
  intro p e s m args below meth c s₁ Bd hml0 hP hK
  obtain ⟨rfl, hZ, hh⟩ := hP
  have hx := Bd.exec
  have hby := Bd.bytes
  have hml : c.maxLocals = 2 := hml0
  have hown : s.vm.findClass "java/lang/StringUTF16" = some m.cls := findClass_of_methodNamed Bd.named
  have hnm := (name_of_methodNamed Bd.named Bd.method).1
  have hlk : meth.locks = false := by first | exact BodyLoose.notSynchronized Bd | exact Body.notSynchronized Bd
  have X0 : Stand p l e ({ frames := 3, cells := 0, slots := 0, locals := 40 } : Room) s m #[(.ref r0), (.int p1)] below meth c s₁ [] 0 0 := Stand.of_body Bd
  have e0 : s₁.heap = h0 := by rw [← hh, Bd.state]; rfl
  have N0 := Fr.nil n0
  have k0 : own_R p e below (s₁.setTop (entryFrame m #[(.ref r0), (.int p1)] 2)) (s₁.setTop (mkF m 0 #[vR r0, vI p1] [])) := fun t k => castTop (ef_21 m r0 p1) k
  obtain ⟨A0, hA0⟩ : ∃ z, z = s₁.setTop (entryFrame m #[(.ref r0), (.int p1)] 2) := ⟨_, rfl⟩
  rw [← hA0] at k0
  have kz : ∀ t, Steps p.tables e below A0 t → Steps p.tables e below (s₁.setTop (entryFrame m #[(.ref r0), (.int p1)] 2)) t := fun t q => hA0 ▸ q
  have ks1 : own_R p e below (A0) (s₁.setTop (mkF m 2 #[vR r0, vI p1] [(.ref r0), (.int p1)])) := fun t k => k0 t (by
    refine XS.iloadN X0.here hx rfl (hb hby d21_0) rfl ?_
    refine XS.aloadN X0.here hx rfl (hb hby d21_1) rfl rfl ?_
    exact k)
  obtain ⟨_, _, ⟨T2, L2, k2, n2⟩, -, X2, ⟨Lc2, hQ2, lq2, yq2, zq2⟩, st2⟩ := Jvm.LawKit.callS X0 hx (y := (⟨"java/lang/StringUTF16", "checkIndex", "(I[B)V"⟩ : MethodName)) hown (mvT hZ (own_w hw 101 rfl)) (mvT hZ (own_w hw 102 rfl)) (mvT hZ (own_w hw 40 rfl)) (mvT hZ (own_w hw 103 rfl)) (by decide) (backOf (W := 0) (rm22 l Z a0 hw [] p1 r0 u8 _ z0 _ zn h0 n0 Z0 S8 I8 V0 hn hi0 hi1) hZ (own_w hw 103 rfl) (own_w hw 40 rfl) (by decide) (by decide)) (g := (mkF m 2 #[vR r0, vI p1] [(.ref r0), (.int p1)])) rfl (by rw [hml]; rfl) (argsL := [(.int p1), (.ref r0)]) (rest := []) (lenOf pd_17 rfl) rfl (by show 2 * 0 + _ ≤ _; exact Nat.le_of_eq rfl) (hb hby d21_2) (fun _ _ => ⟨rfl, e0, (by decide : 0 + 0 ≤ _), (by decide : 0 + 0 ≤ _)⟩)
  dsimp only [Pt.U, Pt.locs, Pt.cells, Pt.slots] at X2 lq2 yq2 zq2 st2 hQ2
  subst lq2 yq2 zq2
  obtain ⟨rfl, Nq2, eq2⟩ := hQ2
  have N2 := Fr.app N0 Nq2
  have ks3 := own_c ks1 st2
  have ks4 : own_R p e below (A0) (T2.setTop (mkF m 7 #[vR r0, vI p1] [(.int p1), (.ref r0)])) := fun t k => ks3 t (by
    refine XS.aloadN X2.here hx rfl (hb hby d21_5) rfl rfl ?_
    refine XS.iloadN X2.here hx rfl (hb hby d21_6) rfl ?_
    exact k)
  obtain ⟨_, _, ⟨T5, L5, k5, n5⟩, -, X5, ⟨Lc5, hQ5, lq5, yq5, zq5⟩, st5⟩ := Jvm.LawKit.callS X2 hx (y := (⟨"java/lang/StringUTF16", "getChar", "([BI)C"⟩ : MethodName)) hown (mvT hZ (own_w hw 61 rfl)) (mvT hZ (own_w hw 62 rfl)) (mvT hZ (own_w hw 40 rfl)) (mvT hZ (own_w hw 63 rfl)) (by decide) (backOf (W := 0) (rm13 l Z a0 hw [] r0 p1 _ z0 _ b0 b1 w0 h0 n0 Z0 S7a S7b S7c V0 uA0 uA1 uB0 uB1 hw0) hZ (own_w hw 63 rfl) (own_w hw 40 rfl) (by decide) (by decide)) (g := (mkF m 7 #[vR r0, vI p1] [(.int p1), (.ref r0)])) rfl (by rw [hml]; rfl) (argsL := [(.ref r0), (.int p1)]) (rest := []) (lenOf pd_11 rfl) rfl (by show 2 * 0 + _ ≤ _; exact Nat.le_of_eq rfl) (hb hby d21_7) (fun _ _ => ⟨rfl, eq2, (by decide : 0 + 0 ≤ _), (by decide : 0 + 0 ≤ _)⟩)
  dsimp only [Pt.U, Pt.locs, Pt.cells, Pt.slots] at X5 lq5 yq5 zq5 st5 hQ5
  subst lq5 yq5 zq5
  obtain ⟨rfl, Nq5, eq5⟩ := hQ5
  have N5 := Fr.app N2 Nq5
  have ks6 := own_c ks4 st5
  obtain ⟨fs, hr, hrun, hended, hW, hsame⟩ := X5.leave (v := some (.int w0)) (fun h => by rw [Bd.returns] at h; cases h) hlk
  refine ⟨_, _, kz _ (ks6 _ ?_), hrun, hended, _, _, rfl, ?_, ⟨_, rfl⟩, hW, hsame.mono (by decide) (by decide)⟩
  · exact retOut X5 hx Bd.returns (own_ncR hnw) (Or.inl ⟨rfl, by simp, _, rfl⟩) (hb hby d21_10) hr
  · show Q21 Z r0 p1 u8 kr0 z0 vs0 b0 b1 w0 zn h0 n0 _ T5.heap _
    rw [eq5]
    exact ⟨rfl, N5, rfl⟩
theorem d19_0 : decode jdk_42_method_56_code 0 = .ok (.aload_n 0, 1) := by decide +kernel
theorem d19_1 : decode jdk_42_method_56_code 1 = .ok (.invokevirtual 492, 3) := by decide +kernel
theorem d19_4 : decode jdk_42_method_56_code 4 = .ok (.ifCond .eq 12, 3) := by decide +kernel
theorem d19_7 : decode jdk_42_method_56_code 7 = .ok (.aload_n 0, 1) := by decide +kernel
theorem d19_8 : decode jdk_42_method_56_code 8 = .ok (.getfield 9, 3) := by decide +kernel
theorem d19_11 : decode jdk_42_method_56_code 11 = .ok (.iload_n 1, 1) := by decide +kernel
theorem d19_12 : decode jdk_42_method_56_code 12 = .ok (.invokestatic 495, 3) := by decide +kernel
theorem d19_15 : decode jdk_42_method_56_code 15 = .ok (.ireturn, 1) := by decide +kernel
theorem d19_16 : decode jdk_42_method_56_code 16 = .ok (.aload_n 0, 1) := by decide +kernel
theorem d19_17 : decode jdk_42_method_56_code 17 = .ok (.getfield 9, 3) := by decide +kernel
theorem d19_20 : decode jdk_42_method_56_code 20 = .ok (.iload_n 1, 1) := by decide +kernel
theorem d19_21 : decode jdk_42_method_56_code 21 = .ok (.invokestatic 498, 3) := by decide +kernel
theorem d19_24 : decode jdk_42_method_56_code 24 = .ok (.ireturn, 1) := by decide +kernel
theorem pn_19 : plainName "java/lang/String" = true := by first | (simp [plainName, overriddenIn]; done) | decide +kernel
theorem pd_5 : parseMethodDescriptor "()Z" = some ⟨[], some .boolean⟩ := by decide +kernel
theorem ef_19 (m : MethodId) (x0 : Addr) (x1 : Int32) : entryFrame m #[(.ref x0), (.int x1)] 2 = mkF m 0 #[.val (.ref x0), .val (.int x1)] [] := by first | (simp [entryFrame, mkF, argsToLocals, Value.category]; done) | rfl
def Q19 (Z : State) (r0 : Addr) (p1 : Int32) (y9 : Int32) (u8 : Value) (t0 : Addr) (kt0 : ClassId) (kd0 : Int32) (z0 : Int32) (vs0 : List Value) (w0 : Int32) (zn : Int32) (h0 : Heap) (n0 : Nat) (v : Option Value) (h : Heap) (L : List Loc) : Prop := v = some (.int w0) ∧ Fr n0 L ∧ h = h0
set_option maxRecDepth 65536 in
set_option maxHeartbeats 40000000 in
theorem rm19 (l : Launch) (Z : State) (a0 : Array Value) (hw : ∀ d ∈ tables_1, d.before a0 Z = true) (ws : List Jvm.Cond) (r0 : Addr) (p1 : Int32) (y9 : Int32) (u8 : Value) (t0 : Addr) (kt0 : ClassId) (kd0 : Int32) (z0 : Int32) (vs0 : List Value) (w0 : Int32) (zn : Int32) (h0 : Heap) (n0 : Nat) (Z0 : n0 ≤ h0.size) (S9 : own_S9 Z h0 y9) (P9 : ¬ y9 = (0 : Int32)) (S8 : own_S8 Z h0 u8) (I8 : u8.isRef = true) (S7a : own_S7a Z h0) (S7b : own_S7b Z h0) (S7c : own_S7c Z h0) (E0 : Exa Z h0 r0 "java/lang/String") (Cd0 : own_Cd Z h0 r0 kd0) (F0 : own_Fv Z h0 r0 t0) (V0 : Arv Z h0 t0 kt0 .byte z0 vs0 (.int 0)) (hq : own_at kd0 z0 vs0 p1 w0 zn) (hnw : w0.toUInt32.toUInt16.toUInt32.toInt32 = w0) :
    MetFree l (⟨"java/lang/String", "charAt", "(I)C"⟩ : MethodName) (head1 (Jvm.Cond.code (⟨"java/lang/String", "charAt", "(I)C"⟩ : MethodName) jdk_42_method_56_code 2 (some .char) :: ws) ({ frames := 4, cells := 0, slots := 0, locals := 53 } : Room)) (fun a U => a = #[(.ref r0), (.int p1)] ∧ Z.Warmed39 U.vm ∧ U.heap = h0) (fun _ _ _ _ _ => True) (fun _ U o U' => ∃ v L, o = .returned v ∧ Q19 Z r0 p1 y9 u8 t0 kt0 kd0 z0 vs0 w0 zn h0 n0 v U'.heap L ∧ FrameEnd U o U' L ({ frames := 4, cells := 0, slots := 0, locals := 53 } : Room).cells ({ frames := 4, cells := 0, slots := 0, locals := 53 } : Room).slots) := by
  refine MetFree.of_bodySF (plainFor_of_name pn_19) hisR ?_
  intro p e s m args below meth c s₁ Bd hml0 hP hK
  obtain ⟨rfl, hZ, hh⟩ := hP
  have hx := Bd.exec
  have hby := Bd.bytes
  have hml : c.maxLocals = 2 := hml0
  have hown : s.vm.findClass "java/lang/String" = some m.cls := findClass_of_methodNamed Bd.named
  have hnm := (name_of_methodNamed Bd.named Bd.method).1
  have hlk : meth.locks = false := by first | exact BodyLoose.notSynchronized Bd | exact Body.notSynchronized Bd
  have X0 : Stand p l e ({ frames := 4, cells := 0, slots := 0, locals := 53 } : Room) s m #[(.ref r0), (.int p1)] below meth c s₁ [] 0 0 := Stand.of_body Bd
  have e0 : s₁.heap = h0 := by rw [← hh, Bd.state]; rfl
  have N0 := Fr.nil n0
  have k0 : own_R p e below (s₁.setTop (entryFrame m #[(.ref r0), (.int p1)] 2)) (s₁.setTop (mkF m 0 #[vR r0, vI p1] [])) := fun t k => castTop (ef_19 m r0 p1) k
  obtain ⟨A0, hA0⟩ : ∃ z, z = s₁.setTop (entryFrame m #[(.ref r0), (.int p1)] 2) := ⟨_, rfl⟩
  rw [← hA0] at k0
  have kz : ∀ t, Steps p.tables e below A0 t → Steps p.tables e below (s₁.setTop (entryFrame m #[(.ref r0), (.int p1)] 2)) t := fun t q => hA0 ▸ q
  rcases hq with ⟨hk, hi0, hi1, b0, hb0, hw0⟩ | ⟨hk, hi0, hi1, hn, uA0, uB0, b0, b1, uA1, uB1, hw0⟩
  · skip
    rw [hk] at Cd0
    have ks1 : own_R p e below (A0) (s₁.setTop (mkF m 1 #[vR r0, vI p1] [(.ref r0)])) := fun t k => k0 t (by
      refine XS.aloadN X0.here hx rfl (hb hby d19_0) rfl rfl ?_
      exact k)
    obtain ⟨cq2, kq2, q2a, q2b, q2c⟩ := isOf hZ e0 E0
    obtain ⟨_, _, ⟨T2, L2, k2, n2⟩, -, X2, ⟨Lc2, hQ2, lq2, yq2, zq2⟩, st2⟩ := X0.virtualBack hx (y := (⟨"java/lang/String", "isLatin1", "()Z"⟩ : MethodName)) (z := (⟨"java/lang/String", "isLatin1", "()Z"⟩ : MethodName)) hown (mvT hZ (own_w hw 93 rfl)) (mvT hZ (own_w hw 94 rfl)) (notFace_of_selects (args := #[]) (mvT hZ (own_w hw 96 rfl))) (mvT hZ (own_w hw 96 rfl)) (mvT hZ (own_w hw 95 rfl)) (by decide) (backOf (W := 0) (rm20_L l Z a0 hw [] r0 y9 h0 n0 Z0 S9 P9 Cd0) hZ (own_w hw 97 rfl) (own_w hw 7 rfl) (by decide) (by decide)) q2a q2c (g := (mkF m 1 #[vR r0, vI p1] [(.ref r0)])) rfl (by rw [hml]; rfl) (Steps.refl _) (argsL := []) (rest := []) (lenOf pd_5 rfl) rfl (by show 2 * 0 + _ ≤ _; exact Nat.le_of_eq rfl) (hb hby d19_1) (fun _ _ => ⟨rfl, e0, (by decide : 0 + 0 ≤ _), (by decide : 0 + 0 ≤ _)⟩)
    dsimp only [Pt.U, Pt.locs, Pt.cells, Pt.slots] at X2 lq2 yq2 zq2 st2 hQ2
    subst lq2 yq2 zq2
    obtain ⟨rfl, Nq2, eq2⟩ := hQ2
    have N2 := Fr.app N0 Nq2
    have ks3 := own_ct ks1 st2
    have ks4 : own_R p e below (A0) (T2.setTop (mkF m 8 #[vR r0, vI p1] [(.ref r0)])) := fun t k => ks3 t (by
      refine XS.ifNo X2.here hx rfl (hb hby d19_4) rfl ((if0 _ _).trans (feq (by decide)).1) ?_
      refine XS.aloadN X2.here hx rfl (hb hby d19_7) rfl rfl ?_
      exact k)
    obtain ⟨T5, X5, e5, st5⟩ := getF X2 hx hZ hown (host := "") (Or.inl (own_w hw 25 rfl)) Via.refl eq2 F0 (g := (mkF m 8 #[vR r0, vI p1] [(.ref r0)])) rfl rfl (hb hby d19_8)
    have ks6 := own_c ks4 st5
    have ks7 : own_R p e below (A0) (T5.setTop (mkF m 12 #[vR r0, vI p1] [(.int p1), (.ref t0)])) := fun t k => ks6 t (by
      refine XS.iloadN X5.here hx rfl (hb hby d19_11) rfl ?_
      exact k)
    obtain ⟨_, _, ⟨T8, L8, k8, n8⟩, -, X8, ⟨Lc8, hQ8, lq8, yq8, zq8⟩, st8⟩ := Jvm.LawKit.callS X5 hx (y := (⟨"java/lang/StringLatin1", "charAt", "([BI)C"⟩ : MethodName)) hown (mvT hZ (own_w hw 131 rfl)) (mvT hZ (own_w hw 132 rfl)) (mvT hZ (own_w hw 120 rfl)) (mvT hZ (own_w hw 133 rfl)) (by decide) (backOf (W := 0) (rm31 l Z a0 hw [] t0 p1 u8 _ z0 _ b0 w0 h0 n0 Z0 S8 I8 V0 hi0 hi1 hb0 hw0) hZ (own_w hw 133 rfl) (own_w hw 120 rfl) (by decide) (by decide)) (g := (mkF m 12 #[vR r0, vI p1] [(.int p1), (.ref t0)])) rfl (by rw [hml]; rfl) (argsL := [(.ref t0), (.int p1)]) (rest := []) (lenOf pd_11 rfl) rfl (by show 2 * 0 + _ ≤ _; exact Nat.le_of_eq rfl) (hb hby d19_12) (fun _ _ => ⟨rfl, e5, (by decide : 0 + 0 ≤ _), (by decide : 0 + 0 ≤ _)⟩)
    dsimp only [Pt.U, Pt.locs, Pt.cells, Pt.slots] at X8 lq8 yq8 zq8 st8 hQ8
    subst lq8 yq8 zq8
    obtain ⟨rfl, Nq8, eq8⟩ := hQ8
    have N8 := Fr.app N2 Nq8
    have ks9 := own_c ks7 st8
    obtain ⟨fs, hr, hrun, hended, hW, hsame⟩ := X8.leave (v := some (.int w0)) (fun h => by rw [Bd.returns] at h; cases h) hlk
    refine ⟨_, _, kz _ (ks9 _ ?_), hrun, hended, _, _, rfl, ?_, ⟨_, rfl⟩, hW, hsame.mono (by decide) (by decide)⟩
    · exact retOut X8 hx Bd.returns (own_ncR hnw) (Or.inl ⟨rfl, by simp, _, rfl⟩) (hb hby d19_15) hr
    · show Q19 Z r0 p1 y9 u8 t0 kt0 kd0 z0 vs0 w0 zn h0 n0 _ T8.heap _
      rw [eq8]
      exact ⟨rfl, N8, rfl⟩
  · skip
    rw [hk] at Cd0
    have ks10 : own_R p e below (A0) (s₁.setTop (mkF m 1 #[vR r0, vI p1] [(.ref r0)])) := fun t k => k0 t (by
      refine XS.aloadN X0.here hx rfl (hb hby d19_0) rfl rfl ?_
      exact k)
    obtain ⟨cq11, kq11, q11a, q11b, q11c⟩ := isOf hZ e0 E0
    obtain ⟨_, _, ⟨T11, L11, k11, n11⟩, -, X11, ⟨Lc11, hQ11, lq11, yq11, zq11⟩, st11⟩ := X0.virtualBack hx (y := (⟨"java/lang/String", "isLatin1", "()Z"⟩ : MethodName)) (z := (⟨"java/lang/String", "isLatin1", "()Z"⟩ : MethodName)) hown (mvT hZ (own_w hw 93 rfl)) (mvT hZ (own_w hw 94 rfl)) (notFace_of_selects (args := #[]) (mvT hZ (own_w hw 96 rfl))) (mvT hZ (own_w hw 96 rfl)) (mvT hZ (own_w hw 95 rfl)) (by decide) (backOf (W := 0) (rm20_U l Z a0 hw [] r0 y9 h0 n0 Z0 S9 P9 Cd0) hZ (own_w hw 97 rfl) (own_w hw 7 rfl) (by decide) (by decide)) q11a q11c (g := (mkF m 1 #[vR r0, vI p1] [(.ref r0)])) rfl (by rw [hml]; rfl) (Steps.refl _) (argsL := []) (rest := []) (lenOf pd_5 rfl) rfl (by show 2 * 0 + _ ≤ _; exact Nat.le_of_eq rfl) (hb hby d19_1) (fun _ _ => ⟨rfl, e0, (by decide : 0 + 0 ≤ _), (by decide : 0 + 0 ≤ _)⟩)
    dsimp only [Pt.U, Pt.locs, Pt.cells, Pt.slots] at X11 lq11 yq11 zq11 st11 hQ11
    subst lq11 yq11 zq11
    obtain ⟨rfl, Nq11, eq11⟩ := hQ11
    have N11 := Fr.app N0 Nq11
    have ks12 := own_ct ks10 st11
    have ks13 : own_R p e below (A0) (T11.setTop (mkF m 17 #[vR r0, vI p1] [(.ref r0)])) := fun t k => ks12 t (by
      refine XS.ifYes X11.here hx rfl (pc0 := 4) (pc' := 16) rfl (hb hby d19_4) rfl ((if0 _ _).trans (teq (by decide)).1) (by decide) (by decide) ?_
      refine XS.aloadN X11.here hx rfl (hb hby d19_16) rfl rfl ?_
      exact k)
    obtain ⟨T14, X14, e14, st14⟩ := getF X11 hx hZ hown (host := "") (Or.inl (own_w hw 25 rfl)) Via.refl eq11 F0 (g := (mkF m 17 #[vR r0, vI p1] [(.ref r0)])) rfl rfl (hb hby d19_17)
    have ks15 := own_c ks13 st14
    have ks16 : own_R p e below (A0) (T14.setTop (mkF m 21 #[vR r0, vI p1] [(.int p1), (.ref t0)])) := fun t k => ks15 t (by
      refine XS.iloadN X14.here hx rfl (hb hby d19_20) rfl ?_
      exact k)
    obtain ⟨_, _, ⟨T17, L17, k17, n17⟩, -, X17, ⟨Lc17, hQ17, lq17, yq17, zq17⟩, st17⟩ := Jvm.LawKit.callS X14 hx (y := (⟨"java/lang/StringUTF16", "charAt", "([BI)C"⟩ : MethodName)) hown (mvT hZ (own_w hw 98 rfl)) (mvT hZ (own_w hw 99 rfl)) (mvT hZ (own_w hw 40 rfl)) (mvT hZ (own_w hw 100 rfl)) (by decide) (backOf (W := 0) (rm21 l Z a0 hw [] t0 p1 u8 _ z0 _ b0 b1 w0 zn h0 n0 Z0 S7a S7b S7c S8 I8 V0 uA0 uA1 uB0 uB1 hw0 hnw hn hi0 hi1) hZ (own_w hw 100 rfl) (own_w hw 40 rfl) (by decide) (by decide)) (g := (mkF m 21 #[vR r0, vI p1] [(.int p1), (.ref t0)])) rfl (by rw [hml]; rfl) (argsL := [(.ref t0), (.int p1)]) (rest := []) (lenOf pd_11 rfl) rfl (by show 2 * 0 + _ ≤ _; exact Nat.le_of_eq rfl) (hb hby d19_21) (fun _ _ => ⟨rfl, e14, (by decide : 0 + 0 ≤ _), (by decide : 0 + 0 ≤ _)⟩)
    dsimp only [Pt.U, Pt.locs, Pt.cells, Pt.slots] at X17 lq17 yq17 zq17 st17 hQ17
    subst lq17 yq17 zq17
    obtain ⟨rfl, Nq17, eq17⟩ := hQ17
    have N17 := Fr.app N11 Nq17
    have ks18 := own_c ks16 st17
    obtain ⟨fs, hr, hrun, hended, hW, hsame⟩ := X17.leave (v := some (.int w0)) (fun h => by rw [Bd.returns] at h; cases h) hlk
    refine ⟨_, _, kz _ (ks18 _ ?_), hrun, hended, _, _, rfl, ?_, ⟨_, rfl⟩, hW, hsame.mono (by decide) (by decide)⟩
    · exact retOut X17 hx Bd.returns (own_ncR hnw) (Or.inl ⟨rfl, by simp, _, rfl⟩) (hb hby d19_24) hr
    · show Q19 Z r0 p1 y9 u8 t0 kt0 kd0 z0 vs0 w0 zn h0 n0 _ T17.heap _
      rw [eq17]
      exact ⟨rfl, N17, rfl⟩
theorem d30_0 : decode jdk_43_method_13_code 0 = .ok (.aload_n 0, 1) := by decide +kernel
theorem d30_1 : decode jdk_43_method_13_code 1 = .ok (.arraylength, 1) := by decide +kernel
theorem d30_2 : decode jdk_43_method_13_code 2 = .ok (.aload_n 1, 1) := by decide +kernel
theorem d30_3 : decode jdk_43_method_13_code 3 = .ok (.arraylength, 1) := by decide +kernel
theorem d30_4 : decode jdk_43_method_13_code 4 = .ok (.if_icmp .ne 30, 3) := by decide +kernel
theorem d30_34 : decode jdk_43_method_13_code 34 = .ok (.iconst 0, 1) := by decide +kernel
theorem d30_35 : decode jdk_43_method_13_code 35 = .ok (.ireturn, 1) := by decide +kernel
theorem pn_30 : plainName "java/lang/StringLatin1" = true := by first | (simp [plainName, overriddenIn]; done) | decide +kernel
theorem ef_30_D (m : MethodId) (x0 : Addr) (x1 : Addr) : entryFrame m #[(.ref x0), (.ref x1)] 3 = mkF m 0 #[.val (.ref x0), .val (.ref x1), .unset] [] := by first | (simp [entryFrame, mkF, argsToLocals, Value.category]; done) | rfl
def Q30_D (Z : State) (r0 : Addr) (r1 : Addr) (kr0 : ClassId) (kr1 : ClassId) (z0 : Int32) (z1 : Int32) (vs0 : List Value) (vs1 : List Value) (h0 : Heap) (n0 : Nat) (v : Option Value) (h : Heap) (L : List Loc) : Prop := v = some (.int 0) ∧ Fr n0 L ∧ h = h0
set_option maxRecDepth 65536 in
set_option maxHeartbeats 40000000 in
theorem rm30_D (l : Launch) (Z : State) (a0 : Array Value) (hw : ∀ d ∈ tables_1, d.before a0 Z = true) (ws : List Jvm.Cond) (r0 : Addr) (r1 : Addr) (kr0 : ClassId) (kr1 : ClassId) (z0 : Int32) (z1 : Int32) (vs0 : List Value) (vs1 : List Value) (h0 : Heap) (n0 : Nat) (Z0 : n0 ≤ h0.size) (V0 : Arv Z h0 r0 kr0 .byte z0 vs0 (.int 0)) (V1 : Arv Z h0 r1 kr1 .byte z1 vs1 (.int 0)) (hz : ¬ z0 = z1) :
    MetFree l (⟨"java/lang/StringLatin1", "equals", "([B[B)Z"⟩ : MethodName) (head1 (Jvm.Cond.code (⟨"java/lang/StringLatin1", "equals", "([B[B)Z"⟩ : MethodName) jdk_43_method_13_code 3 (some .boolean) :: ws) ({ frames := 0, cells := 0, slots := 0, locals := 0 } : Room)) (fun a U => a = #[(.ref r0), (.ref r1)] ∧ Z.Warmed39 U.vm ∧ U.heap = h0) (fun _ _ _ _ _ => True) (fun _ U o U' => ∃ v L, o = .returned v ∧ Q30_D Z r0 r1 kr0 kr1 z0 z1 vs0 vs1 h0 n0 v U'.heap L ∧ FrameEnd U o U' L ({ frames := 0, cells := 0, slots := 0, locals := 0 } : Room).cells ({ frames := 0, cells := 0, slots := 0, locals := 0 } : Room).slots) := by
  refine MetFree.of_bodySF (plainFor_of_name pn_30) hisR ?_
  intro p e s m args below meth c s₁ Bd hml0 hP hK
  obtain ⟨rfl, hZ, hh⟩ := hP
  have hx := Bd.exec
  have hby := Bd.bytes
  have hml : c.maxLocals = 3 := hml0
  have hown : s.vm.findClass "java/lang/StringLatin1" = some m.cls := findClass_of_methodNamed Bd.named
  have hnm := (name_of_methodNamed Bd.named Bd.method).1
  have hlk : meth.locks = false := by first | exact BodyLoose.notSynchronized Bd | exact Body.notSynchronized Bd
  have X0 : Stand p l e ({ frames := 0, cells := 0, slots := 0, locals := 0 } : Room) s m #[(.ref r0), (.ref r1)] below meth c s₁ [] 0 0 := Stand.of_body Bd
  have e0 : s₁.heap = h0 := by rw [← hh, Bd.state]; rfl
  have N0 := Fr.nil n0
  have k0 : own_R p e below (s₁.setTop (entryFrame m #[(.ref r0), (.ref r1)] 3)) (s₁.setTop (mkF m 0 #[vR r0, vR r1, .unset] [])) := fun t k => castTop (ef_30_D m r0 r1) k
  obtain ⟨A0, hA0⟩ : ∃ z, z = s₁.setTop (entryFrame m #[(.ref r0), (.ref r1)] 3) := ⟨_, rfl⟩
  rw [← hA0] at k0
  have kz : ∀ t, Steps p.tables e below A0 t → Steps p.tables e below (s₁.setTop (entryFrame m #[(.ref r0), (.ref r1)] 3)) t := fun t q => hA0 ▸ q
  have ks1 : own_R p e below (A0) (s₁.setTop (mkF m 1 #[vR r0, vR r1, .unset] [(.ref r0)])) := fun t k => k0 t (by
    refine XS.aloadN X0.here hx rfl (hb hby d30_0) rfl rfl ?_
    exact k)
  obtain ⟨cl2, Ar2, qa2, S2, Na2, Ha2, Ga2⟩ := id V0
  have ks3 : own_R p e below (A0) (s₁.setTop (mkF m 3 #[vR r0, vR r1, .unset] [(.ref r1), (.int z0)])) := fun t k => ks1 t (by
    refine X0.arraylength hx (by rw [e0]; exact Ar2.1) (State.isArrayOf_alike hZ.alike Ar2.2.1) (g := (mkF m 1 #[vR r0, vR r1, .unset] [(.ref r0)])) rfl rfl (hb hby d30_1) _ ?_
    rw [len_of S2 Na2]
    refine XS.aloadN X0.here hx rfl (hb hby d30_2) rfl rfl ?_
    exact k)
  obtain ⟨cl4, Ar4, qa4, S4, Na4, Ha4, Ga4⟩ := id V1
  have ks5 : own_R p e below (A0) (s₁.setTop (mkF m 35 #[vR r0, vR r1, .unset] [(.int 0)])) := fun t k => ks3 t (by
    refine X0.arraylength hx (by rw [e0]; exact Ar4.1) (State.isArrayOf_alike hZ.alike Ar4.2.1) (g := (mkF m 3 #[vR r0, vR r1, .unset] [(.ref r1), (.int z0)])) rfl rfl (hb hby d30_3) _ ?_
    rw [len_of S4 Na4]
    refine XS.icmpYes X0.here hx rfl (pc0 := 4) (pc' := 34) rfl (hb hby d30_4) rfl (feq hz).2 (by decide) (by decide) ?_
    refine XS.iconst X0.here hx rfl (hb hby d30_34) ?_
    exact k)
  obtain ⟨fs, hr, hrun, hended, hW, hsame⟩ := X0.leave (v := some (.int 0)) (fun h => by rw [Bd.returns] at h; cases h) hlk
  refine ⟨_, _, kz _ (ks5 _ ?_), hrun, hended, _, _, rfl, ?_, ⟨_, rfl⟩, hW, hsame.mono (by decide) (by decide)⟩
  · exact retN X0 hx (t := .boolean) Bd.returns (by simp) (hb hby d30_35) hr
  · show Q30_D Z r0 r1 kr0 kr1 z0 z1 vs0 vs1 h0 n0 _ s₁.heap _
    rw [e0]
    exact ⟨rfl, N0, rfl⟩
theorem d16_0 : decode jdk_42_method_66_code 0 = .ok (.aload_n 0, 1) := by decide +kernel
theorem d16_1 : decode jdk_42_method_66_code 1 = .ok (.aload_n 1, 1) := by decide +kernel
theorem d16_2 : decode jdk_42_method_66_code 2 = .ok (.if_acmp .ne 5, 3) := by decide +kernel
theorem d16_7 : decode jdk_42_method_66_code 7 = .ok (.aload_n 1, 1) := by decide +kernel
theorem d16_8 : decode jdk_42_method_66_code 8 = .ok (.instanceof 10, 3) := by decide +kernel
theorem d16_11 : decode jdk_42_method_66_code 11 = .ok (.ifCond .eq 43, 3) := by decide +kernel
theorem d16_14 : decode jdk_42_method_66_code 14 = .ok (.aload_n 1, 1) := by decide +kernel
theorem d16_15 : decode jdk_42_method_66_code 15 = .ok (.checkcast 10, 3) := by decide +kernel
theorem d16_18 : decode jdk_42_method_66_code 18 = .ok (.astore_n 2, 1) := by decide +kernel
theorem d16_19 : decode jdk_42_method_66_code 19 = .ok (.getstatic 38, 3) := by decide +kernel
theorem d16_22 : decode jdk_42_method_66_code 22 = .ok (.ifCond .eq 14, 3) := by decide +kernel
theorem d16_25 : decode jdk_42_method_66_code 25 = .ok (.aload_n 0, 1) := by decide +kernel
theorem d16_26 : decode jdk_42_method_66_code 26 = .ok (.getfield 15, 3) := by decide +kernel
theorem d16_29 : decode jdk_42_method_66_code 29 = .ok (.aload_n 2, 1) := by decide +kernel
theorem d16_30 : decode jdk_42_method_66_code 30 = .ok (.getfield 15, 3) := by decide +kernel
theorem d16_33 : decode jdk_42_method_66_code 33 = .ok (.if_icmp .ne 21, 3) := by decide +kernel
theorem d16_36 : decode jdk_42_method_66_code 36 = .ok (.aload_n 0, 1) := by decide +kernel
theorem d16_37 : decode jdk_42_method_66_code 37 = .ok (.getfield 9, 3) := by decide +kernel
theorem d16_40 : decode jdk_42_method_66_code 40 = .ok (.aload_n 2, 1) := by decide +kernel
theorem d16_41 : decode jdk_42_method_66_code 41 = .ok (.getfield 9, 3) := by decide +kernel
theorem d16_44 : decode jdk_42_method_66_code 44 = .ok (.invokestatic 541, 3) := by decide +kernel
theorem d16_47 : decode jdk_42_method_66_code 47 = .ok (.ifCond .eq 7, 3) := by decide +kernel
theorem d16_54 : decode jdk_42_method_66_code 54 = .ok (.iconst 0, 1) := by decide +kernel
theorem d16_55 : decode jdk_42_method_66_code 55 = .ok (.ireturn, 1) := by decide +kernel
theorem pn_16 : plainName "java/lang/String" = true := by first | (simp [plainName, overriddenIn]; done) | decide +kernel
theorem pd_24 : parseMethodDescriptor "([B[B)Z" = some ⟨[(.array .byte), (.array .byte)], some .boolean⟩ := by decide +kernel
theorem ef_16_D (m : MethodId) (x0 : Addr) (x1 : Addr) : entryFrame m #[(.ref x0), (.ref x1)] 3 = mkF m 0 #[.val (.ref x0), .val (.ref x1), .unset] [] := by first | (simp [entryFrame, mkF, argsToLocals, Value.category]; done) | rfl
def Q16_D (Z : State) (r0 : Addr) (r1 : Addr) (y9 : Int32) (t0 : Addr) (t1 : Addr) (kt0 : ClassId) (kt1 : ClassId) (z0 : Int32) (z1 : Int32) (vs0 : List Value) (vs1 : List Value) (kd0 : Int32) (h0 : Heap) (n0 : Nat) (v : Option Value) (h : Heap) (L : List Loc) : Prop := v = some (.int 0) ∧ Fr n0 L ∧ h = h0
set_option maxRecDepth 65536 in
set_option maxHeartbeats 40000000 in
theorem rm16_D (l : Launch) (Z : State) (a0 : Array Value) (hw : ∀ d ∈ tables_1, d.before a0 Z = true) (ws : List Jvm.Cond) (r0 : Addr) (r1 : Addr) (y9 : Int32) (t0 : Addr) (t1 : Addr) (kt0 : ClassId) (kt1 : ClassId) (z0 : Int32) (z1 : Int32) (vs0 : List Value) (vs1 : List Value) (kd0 : Int32) (h0 : Heap) (n0 : Nat) (Z0 : n0 ≤ h0.size) (S9 : own_S9 Z h0 y9) (P9 : ¬ y9 = (0 : Int32)) (E0 : Exa Z h0 r0 "java/lang/String") (Cd0 : own_Cd Z h0 r0 kd0) (F0 : own_Fv Z h0 r0 t0) (V0 : Arv Z h0 t0 kt0 .byte z0 vs0 (.int 0)) (E1 : Exa Z h0 r1 "java/lang/String") (Cd1 : own_Cd Z h0 r1 0) (F1 : own_Fv Z h0 r1 t1) (V1 : Arv Z h0 t1 kt1 .byte z1 vs1 (.int 0)) (hd : (kd0 = 0 ∧ ¬ z0 = z1 ∧ z0.toNatClampNeg ≠ z1.toNatClampNeg) ∨ kd0 = 1) :
    MetFree l (⟨"java/lang/String", "equals", "(Ljava/lang/Object;)Z"⟩ : MethodName) (head1 (Jvm.Cond.code (⟨"java/lang/String", "equals", "(Ljava/lang/Object;)Z"⟩ : MethodName) jdk_42_method_66_code 3 (some .boolean) :: ws) ({ frames := 1, cells := 0, slots := 0, locals := 14 } : Room)) (fun a U => a = #[(.ref r0), (.ref r1)] ∧ Z.Warmed39 U.vm ∧ U.heap = h0) (fun _ _ _ _ _ => True) (fun _ U o U' => ∃ v L, o = .returned v ∧ Q16_D Z r0 r1 y9 t0 t1 kt0 kt1 z0 z1 vs0 vs1 kd0 h0 n0 v U'.heap L ∧ FrameEnd U o U' L ({ frames := 1, cells := 0, slots := 0, locals := 14 } : Room).cells ({ frames := 1, cells := 0, slots := 0, locals := 14 } : Room).slots) := by
  refine MetFree.of_bodySF (plainFor_of_name pn_16) hisR ?_
  intro p e s m args below meth c s₁ Bd hml0 hP hK
  obtain ⟨rfl, hZ, hh⟩ := hP
  have hx := Bd.exec
  have hby := Bd.bytes
  have hml : c.maxLocals = 3 := hml0
  have hown : s.vm.findClass "java/lang/String" = some m.cls := findClass_of_methodNamed Bd.named
  have hnm := (name_of_methodNamed Bd.named Bd.method).1
  have hlk : meth.locks = false := by first | exact BodyLoose.notSynchronized Bd | exact Body.notSynchronized Bd
  have X0 : Stand p l e ({ frames := 1, cells := 0, slots := 0, locals := 14 } : Room) s m #[(.ref r0), (.ref r1)] below meth c s₁ [] 0 0 := Stand.of_body Bd
  have e0 : s₁.heap = h0 := by rw [← hh, Bd.state]; rfl
  have N0 := Fr.nil n0
  have k0 : own_R p e below (s₁.setTop (entryFrame m #[(.ref r0), (.ref r1)] 3)) (s₁.setTop (mkF m 0 #[vR r0, vR r1, .unset] [])) := fun t k => castTop (ef_16_D m r0 r1) k
  obtain ⟨A0, hA0⟩ : ∃ z, z = s₁.setTop (entryFrame m #[(.ref r0), (.ref r1)] 3) := ⟨_, rfl⟩
  rw [← hA0] at k0
  have kz : ∀ t, Steps p.tables e below A0 t → Steps p.tables e below (s₁.setTop (entryFrame m #[(.ref r0), (.ref r1)] 3)) t := fun t q => hA0 ▸ q
  rcases hd with ⟨hk, hz, hzN⟩ | hk
  · skip
    rw [hk] at Cd0
    have n01 : r0 ≠ r1 := Fld.ne F0 F1 (fun q => arv_ne V0 V1 (Or.inl hzN) (Value.ref.inj q))
    have ks1 : own_R p e below (A0) (s₁.setTop (mkF m 8 #[vR r0, vR r1, .unset] [(.ref r1)])) := fun t k => k0 t (by
      refine XS.aloadN X0.here hx rfl (hb hby d16_0) rfl rfl ?_
      refine XS.aloadN X0.here hx rfl (hb hby d16_1) rfl rfl ?_
      refine Jvm.RoadKit.acmp (g := (mkF m 2 #[vR r0, vR r1, .unset] [(.ref r1), (.ref r0)])) X0 hx rfl rfl rfl (pc0 := 2) (pc' := 7) (same := false) rfl (hb hby d16_2) rfl (decide_eq_false fun q => n01 (Value.ref.inj q)) (by decide) (by decide) ?_
      show Steps p.tables e below (s₁.setTop (mkF m 7 #[vR r0, vR r1, .unset] [])) _
      refine XS.aloadN X0.here hx rfl (hb hby d16_7) rfl rfl ?_
      exact k)
    obtain ⟨T2, X2, e2, st2⟩ := instY X0 hx hZ hown (own_w hw 76 rfl) e0 (Ins.self E1) (g := (mkF m 8 #[vR r0, vR r1, .unset] [(.ref r1)])) rfl rfl (hb hby d16_8)
    have ks3 := own_c ks1 st2
    have ks4 : own_R p e below (A0) (T2.setTop (mkF m 15 #[vR r0, vR r1, .unset] [(.ref r1)])) := fun t k => ks3 t (by
      refine XS.ifNo X2.here hx rfl (hb hby d16_11) rfl ((if0 _ _).trans (feq (by decide)).1) ?_
      refine XS.aloadN X2.here hx rfl (hb hby d16_14) rfl rfl ?_
      exact k)
    obtain ⟨T5, X5, e5, st5⟩ := castY X2 hx hZ hown (own_w hw 76 rfl) e2 (Ins.self E1) (g := (mkF m 15 #[vR r0, vR r1, .unset] [(.ref r1)])) rfl rfl (hb hby d16_15)
    have ks6 := own_c ks4 st5
    have ks7 : own_R p e below (A0) (T5.setTop (mkF m 19 #[vR r0, vR r1, vR r1] [])) := fun t k => ks6 t (by
      refine XS.astoreN X5.here hx rfl (hb hby d16_18) rfl rfl (l' := #[vR r0, vR r1, vR r1]) rfl ?_
      exact k)
    obtain ⟨T8, X8, e8, st8⟩ := getS2 X5 hx hZ hown (host := "") (Or.inl (own_w hw 37 rfl)) Via.refl e5 S9 (g := (mkF m 19 #[vR r0, vR r1, vR r1] [])) rfl (hb hby d16_19)
    have ks9 := own_c ks7 st8
    have ks10 : own_R p e below (A0) (T8.setTop (mkF m 26 #[vR r0, vR r1, vR r1] [(.ref r0)])) := fun t k => ks9 t (by
      refine XS.ifNo X8.here hx rfl (hb hby d16_22) rfl ((if0 _ _).trans (feq P9).1) ?_
      refine XS.aloadN X8.here hx rfl (hb hby d16_25) rfl rfl ?_
      exact k)
    obtain ⟨T11, X11, e11, st11⟩ := getF X8 hx hZ hown (host := "") (Or.inl (own_w hw 26 rfl)) Via.refl e8 Cd0 (g := (mkF m 26 #[vR r0, vR r1, vR r1] [(.ref r0)])) rfl rfl (hb hby d16_26)
    have ks12 := own_c ks10 st11
    have ks13 : own_R p e below (A0) (T11.setTop (mkF m 30 #[vR r0, vR r1, vR r1] [(.ref r1), (.int 0)])) := fun t k => ks12 t (by
      refine XS.aloadN X11.here hx rfl (hb hby d16_29) rfl rfl ?_
      exact k)
    obtain ⟨T14, X14, e14, st14⟩ := getF X11 hx hZ hown (host := "") (Or.inl (own_w hw 26 rfl)) Via.refl e11 Cd1 (g := (mkF m 30 #[vR r0, vR r1, vR r1] [(.ref r1), (.int 0)])) rfl rfl (hb hby d16_30)
    have ks15 := own_c ks13 st14
    have ks16 : own_R p e below (A0) (T14.setTop (mkF m 37 #[vR r0, vR r1, vR r1] [(.ref r0)])) := fun t k => ks15 t (by
      refine XS.icmpNo X14.here hx rfl (hb hby d16_33) rfl (teq (by decide)).2 ?_
      refine XS.aloadN X14.here hx rfl (hb hby d16_36) rfl rfl ?_
      exact k)
    obtain ⟨T17, X17, e17, st17⟩ := getF X14 hx hZ hown (host := "") (Or.inl (own_w hw 25 rfl)) Via.refl e14 F0 (g := (mkF m 37 #[vR r0, vR r1, vR r1] [(.ref r0)])) rfl rfl (hb hby d16_37)
    have ks18 := own_c ks16 st17
    have ks19 : own_R p e below (A0) (T17.setTop (mkF m 41 #[vR r0, vR r1, vR r1] [(.ref r1), (.ref t0)])) := fun t k => ks18 t (by
      refine XS.aloadN X17.here hx rfl (hb hby d16_40) rfl rfl ?_
      exact k)
    obtain ⟨T20, X20, e20, st20⟩ := getF X17 hx hZ hown (host := "") (Or.inl (own_w hw 25 rfl)) Via.refl e17 F1 (g := (mkF m 41 #[vR r0, vR r1, vR r1] [(.ref r1), (.ref t0)])) rfl rfl (hb hby d16_41)
    have ks21 := own_c ks19 st20
    obtain ⟨_, _, ⟨T22, L22, k22, n22⟩, -, X22, ⟨Lc22, hQ22, lq22, yq22, zq22⟩, st22⟩ := Jvm.LawKit.callS X20 hx (y := (⟨"java/lang/StringLatin1", "equals", "([B[B)Z"⟩ : MethodName)) hown (mvT hZ (own_w hw 128 rfl)) (mvT hZ (own_w hw 129 rfl)) (mvT hZ (own_w hw 120 rfl)) (mvT hZ (own_w hw 130 rfl)) (by decide) (backOf (W := 0) (rm30_D l Z a0 hw [] t0 t1 _ _ z0 z1 _ _ h0 n0 Z0 V0 V1 hz) hZ (own_w hw 130 rfl) (own_w hw 120 rfl) (by decide) (by decide)) (g := (mkF m 44 #[vR r0, vR r1, vR r1] [(.ref t1), (.ref t0)])) rfl (by rw [hml]; rfl) (argsL := [(.ref t0), (.ref t1)]) (rest := []) (lenOf pd_24 rfl) rfl (by show 2 * 0 + _ ≤ _; exact Nat.le_of_eq rfl) (hb hby d16_44) (fun _ _ => ⟨rfl, e20, (by decide : 0 + 0 ≤ _), (by decide : 0 + 0 ≤ _)⟩)
    dsimp only [Pt.U, Pt.locs, Pt.cells, Pt.slots] at X22 lq22 yq22 zq22 st22 hQ22
    subst lq22 yq22 zq22
    obtain ⟨rfl, Nq22, eq22⟩ := hQ22
    have N22 := Fr.app N0 Nq22
    have ks23 := own_c ks21 st22
    have ks24 : own_R p e below (A0) (T22.setTop (mkF m 55 #[vR r0, vR r1, vR r1] [(.int 0)])) := fun t k => ks23 t (by
      refine XS.ifYes X22.here hx rfl (pc0 := 47) (pc' := 54) rfl (hb hby d16_47) rfl ((if0 _ _).trans (teq (by decide)).1) (by decide) (by decide) ?_
      refine XS.iconst X22.here hx rfl (hb hby d16_54) ?_
      exact k)
    obtain ⟨fs, hr, hrun, hended, hW, hsame⟩ := X22.leave (v := some (.int 0)) (fun h => by rw [Bd.returns] at h; cases h) hlk
    refine ⟨_, _, kz _ (ks24 _ ?_), hrun, hended, _, _, rfl, ?_, ⟨_, rfl⟩, hW, hsame.mono (by decide) (by decide)⟩
    · exact retN X22 hx (t := .boolean) Bd.returns (by simp) (hb hby d16_55) hr
    · show Q16_D Z r0 r1 y9 t0 t1 kt0 kt1 z0 z1 vs0 vs1 kd0 h0 n0 _ T22.heap _
      rw [eq22]
      exact ⟨rfl, N22, rfl⟩
  · skip
    rw [hk] at Cd0
    have n01 : r0 ≠ r1 := Fld.ne Cd0 Cd1 (fun q => absurd (Value.int.inj q) (by decide))
    have ks25 : own_R p e below (A0) (s₁.setTop (mkF m 8 #[vR r0, vR r1, .unset] [(.ref r1)])) := fun t k => k0 t (by
      refine XS.aloadN X0.here hx rfl (hb hby d16_0) rfl rfl ?_
      refine XS.aloadN X0.here hx rfl (hb hby d16_1) rfl rfl ?_
      refine Jvm.RoadKit.acmp (g := (mkF m 2 #[vR r0, vR r1, .unset] [(.ref r1), (.ref r0)])) X0 hx rfl rfl rfl (pc0 := 2) (pc' := 7) (same := false) rfl (hb hby d16_2) rfl (decide_eq_false fun q => n01 (Value.ref.inj q)) (by decide) (by decide) ?_
      show Steps p.tables e below (s₁.setTop (mkF m 7 #[vR r0, vR r1, .unset] [])) _
      refine XS.aloadN X0.here hx rfl (hb hby d16_7) rfl rfl ?_
      exact k)
    obtain ⟨T26, X26, e26, st26⟩ := instY X0 hx hZ hown (own_w hw 76 rfl) e0 (Ins.self E1) (g := (mkF m 8 #[vR r0, vR r1, .unset] [(.ref r1)])) rfl rfl (hb hby d16_8)
    have ks27 := own_c ks25 st26
    have ks28 : own_R p e below (A0) (T26.setTop (mkF m 15 #[vR r0, vR r1, .unset] [(.ref r1)])) := fun t k => ks27 t (by
      refine XS.ifNo X26.here hx rfl (hb hby d16_11) rfl ((if0 _ _).trans (feq (by decide)).1) ?_
      refine XS.aloadN X26.here hx rfl (hb hby d16_14) rfl rfl ?_
      exact k)
    obtain ⟨T29, X29, e29, st29⟩ := castY X26 hx hZ hown (own_w hw 76 rfl) e26 (Ins.self E1) (g := (mkF m 15 #[vR r0, vR r1, .unset] [(.ref r1)])) rfl rfl (hb hby d16_15)
    have ks30 := own_c ks28 st29
    have ks31 : own_R p e below (A0) (T29.setTop (mkF m 19 #[vR r0, vR r1, vR r1] [])) := fun t k => ks30 t (by
      refine XS.astoreN X29.here hx rfl (hb hby d16_18) rfl rfl (l' := #[vR r0, vR r1, vR r1]) rfl ?_
      exact k)
    obtain ⟨T32, X32, e32, st32⟩ := getS2 X29 hx hZ hown (host := "") (Or.inl (own_w hw 37 rfl)) Via.refl e29 S9 (g := (mkF m 19 #[vR r0, vR r1, vR r1] [])) rfl (hb hby d16_19)
    have ks33 := own_c ks31 st32
    have ks34 : own_R p e below (A0) (T32.setTop (mkF m 26 #[vR r0, vR r1, vR r1] [(.ref r0)])) := fun t k => ks33 t (by
      refine XS.ifNo X32.here hx rfl (hb hby d16_22) rfl ((if0 _ _).trans (feq P9).1) ?_
      refine XS.aloadN X32.here hx rfl (hb hby d16_25) rfl rfl ?_
      exact k)
    obtain ⟨T35, X35, e35, st35⟩ := getF X32 hx hZ hown (host := "") (Or.inl (own_w hw 26 rfl)) Via.refl e32 Cd0 (g := (mkF m 26 #[vR r0, vR r1, vR r1] [(.ref r0)])) rfl rfl (hb hby d16_26)
    have ks36 := own_c ks34 st35
    have ks37 : own_R p e below (A0) (T35.setTop (mkF m 30 #[vR r0, vR r1, vR r1] [(.ref r1), (.int 1)])) := fun t k => ks36 t (by
      refine XS.aloadN X35.here hx rfl (hb hby d16_29) rfl rfl ?_
      exact k)
    obtain ⟨T38, X38, e38, st38⟩ := getF X35 hx hZ hown (host := "") (Or.inl (own_w hw 26 rfl)) Via.refl e35 Cd1 (g := (mkF m 30 #[vR r0, vR r1, vR r1] [(.ref r1), (.int 1)])) rfl rfl (hb hby d16_30)
    have ks39 := own_c ks37 st38
    have ks40 : own_R p e below (A0) (T38.setTop (mkF m 55 #[vR r0, vR r1, vR r1] [(.int 0)])) := fun t k => ks39 t (by
      refine XS.icmpYes X38.here hx rfl (pc0 := 33) (pc' := 54) rfl (hb hby d16_33) rfl (feq (by decide)).2 (by decide) (by decide) ?_
      refine XS.iconst X38.here hx rfl (hb hby d16_54) ?_
      exact k)
    obtain ⟨fs, hr, hrun, hended, hW, hsame⟩ := X38.leave (v := some (.int 0)) (fun h => by rw [Bd.returns] at h; cases h) hlk
    refine ⟨_, _, kz _ (ks40 _ ?_), hrun, hended, _, _, rfl, ?_, ⟨_, rfl⟩, hW, hsame.mono (by decide) (by decide)⟩
    · exact retN X38 hx (t := .boolean) Bd.returns (by simp) (hb hby d16_55) hr
    · show Q16_D Z r0 r1 y9 t0 t1 kt0 kt1 z0 z1 vs0 vs1 kd0 h0 n0 _ T38.heap _
      rw [e38]
      exact ⟨rfl, N0, rfl⟩
def own_eqA_G1 (y0 : Int32) : Int32 := (if (y0.toInt8.toInt32) = (46 : Int32) then (1 : Int32) else (0 : Int32))
theorem d30_7 : decode jdk_43_method_13_code 7 = .ok (.iconst 0, 1) := by decide +kernel
theorem d30_8 : decode jdk_43_method_13_code 8 = .ok (.istore_n 2, 1) := by decide +kernel
theorem d30_9 : decode jdk_43_method_13_code 9 = .ok (.iload_n 2, 1) := by decide +kernel
theorem d30_10 : decode jdk_43_method_13_code 10 = .ok (.aload_n 0, 1) := by decide +kernel
theorem d30_11 : decode jdk_43_method_13_code 11 = .ok (.arraylength, 1) := by decide +kernel
theorem d30_12 : decode jdk_43_method_13_code 12 = .ok (.if_icmp .ge 20, 3) := by decide +kernel
theorem d30_15 : decode jdk_43_method_13_code 15 = .ok (.aload_n 0, 1) := by decide +kernel
theorem d30_16 : decode jdk_43_method_13_code 16 = .ok (.iload_n 2, 1) := by decide +kernel
theorem d30_17 : decode jdk_43_method_13_code 17 = .ok (.baload, 1) := by decide +kernel
theorem d30_18 : decode jdk_43_method_13_code 18 = .ok (.aload_n 1, 1) := by decide +kernel
theorem d30_19 : decode jdk_43_method_13_code 19 = .ok (.iload_n 2, 1) := by decide +kernel
theorem d30_20 : decode jdk_43_method_13_code 20 = .ok (.baload, 1) := by decide +kernel
theorem d30_21 : decode jdk_43_method_13_code 21 = .ok (.if_icmp .eq 5, 3) := by decide +kernel
theorem d30_24 : decode jdk_43_method_13_code 24 = .ok (.iconst 0, 1) := by decide +kernel
theorem d30_25 : decode jdk_43_method_13_code 25 = .ok (.ireturn, 1) := by decide +kernel
theorem d30_26 : decode jdk_43_method_13_code 26 = .ok (.iinc 2 1, 3) := by decide +kernel
theorem d30_29 : decode jdk_43_method_13_code 29 = .ok (.goto (-20), 3) := by decide +kernel
theorem d30_32 : decode jdk_43_method_13_code 32 = .ok (.iconst 1, 1) := by decide +kernel
theorem d30_33 : decode jdk_43_method_13_code 33 = .ok (.ireturn, 1) := by decide +kernel
theorem ef_30_G1 (m : MethodId) (x0 : Addr) (x1 : Addr) : entryFrame m #[(.ref x0), (.ref x1)] 3 = mkF m 0 #[.val (.ref x0), .val (.ref x1), .unset] [] := by first | (simp [entryFrame, mkF, argsToLocals, Value.category]; done) | rfl
def Q30_G1 (Z : State) (r0 : Addr) (r1 : Addr) (kr0 : ClassId) (kr1 : ClassId) (y0 : Int32) (h0 : Heap) (n0 : Nat) (v : Option Value) (h : Heap) (L : List Loc) : Prop := v = some (.int (own_eqA_G1 y0)) ∧ Fr n0 L ∧ h = h0
set_option maxRecDepth 65536 in
set_option maxHeartbeats 40000000 in
theorem rm30_G1 (l : Launch) (Z : State) (a0 : Array Value) (hw : ∀ d ∈ tables_1, d.before a0 Z = true) (ws : List Jvm.Cond) (r0 : Addr) (r1 : Addr) (kr0 : ClassId) (kr1 : ClassId) (y0 : Int32) (h0 : Heap) (n0 : Nat) (Z0 : n0 ≤ h0.size) (V0 : Arv Z h0 r0 kr0 .byte (1 : Int32) [(.int (y0.toInt8.toInt32))] (.int 0)) (V1 : Arv Z h0 r1 kr1 .byte (1 : Int32) [(.int 46)] (.int 0)) :
    MetFree l (⟨"java/lang/StringLatin1", "equals", "([B[B)Z"⟩ : MethodName) (head1 (Jvm.Cond.code (⟨"java/lang/StringLatin1", "equals", "([B[B)Z"⟩ : MethodName) jdk_43_method_13_code 3 (some .boolean) :: ws) ({ frames := 0, cells := 0, slots := 0, locals := 0 } : Room)) (fun a U => a = #[(.ref r0), (.ref r1)] ∧ Z.Warmed39 U.vm ∧ U.heap = h0) (fun _ _ _ _ _ => True) (fun _ U o U' => ∃ v L, o = .returned v ∧ Q30_G1 Z r0 r1 kr0 kr1 y0 h0 n0 v U'.heap L ∧ FrameEnd U o U' L ({ frames := 0, cells := 0, slots := 0, locals := 0 } : Room).cells ({ frames := 0, cells := 0, slots := 0, locals := 0 } : Room).slots) := by
  refine MetFree.of_bodySF (plainFor_of_name pn_30) hisR ?_
  intro p e s m args below meth c s₁ Bd hml0 hP hK
  obtain ⟨rfl, hZ, hh⟩ := hP
  have hx := Bd.exec
  have hby := Bd.bytes
  have hml : c.maxLocals = 3 := hml0
  have hown : s.vm.findClass "java/lang/StringLatin1" = some m.cls := findClass_of_methodNamed Bd.named
  have hnm := (name_of_methodNamed Bd.named Bd.method).1
  have hlk : meth.locks = false := by first | exact BodyLoose.notSynchronized Bd | exact Body.notSynchronized Bd
  have X0 : Stand p l e ({ frames := 0, cells := 0, slots := 0, locals := 0 } : Room) s m #[(.ref r0), (.ref r1)] below meth c s₁ [] 0 0 := Stand.of_body Bd
  have e0 : s₁.heap = h0 := by rw [← hh, Bd.state]; rfl
  have N0 := Fr.nil n0
  have k0 : own_R p e below (s₁.setTop (entryFrame m #[(.ref r0), (.ref r1)] 3)) (s₁.setTop (mkF m 0 #[vR r0, vR r1, .unset] [])) := fun t k => castTop (ef_30_G1 m r0 r1) k
  obtain ⟨A0, hA0⟩ : ∃ z, z = s₁.setTop (entryFrame m #[(.ref r0), (.ref r1)] 3) := ⟨_, rfl⟩
  rw [← hA0] at k0
  have kz : ∀ t, Steps p.tables e below A0 t → Steps p.tables e below (s₁.setTop (entryFrame m #[(.ref r0), (.ref r1)] 3)) t := fun t q => hA0 ▸ q
  have ks1 : own_R p e below (A0) (s₁.setTop (mkF m 1 #[vR r0, vR r1, .unset] [(.ref r0)])) := fun t k => k0 t (by
    refine XS.aloadN X0.here hx rfl (hb hby d30_0) rfl rfl ?_
    exact k)
  obtain ⟨cl2, Ar2, qa2, S2, Na2, Ha2, Ga2⟩ := id V0
  have ks3 : own_R p e below (A0) (s₁.setTop (mkF m 3 #[vR r0, vR r1, .unset] [(.ref r1), (.int 1)])) := fun t k => ks1 t (by
    refine X0.arraylength hx (by rw [e0]; exact Ar2.1) (State.isArrayOf_alike hZ.alike Ar2.2.1) (g := (mkF m 1 #[vR r0, vR r1, .unset] [(.ref r0)])) rfl rfl (hb hby d30_1) _ ?_
    rw [len_of S2 Na2]
    refine XS.aloadN X0.here hx rfl (hb hby d30_2) rfl rfl ?_
    exact k)
  obtain ⟨cl4, Ar4, qa4, S4, Na4, Ha4, Ga4⟩ := id V1
  have ks5 : own_R p e below (A0) (s₁.setTop (mkF m 21 #[vR r0, vR r1, vI 0] [(.int 46), (.int (y0.toInt8.toInt32))])) := fun t k => ks3 t (by
    refine X0.arraylength hx (by rw [e0]; exact Ar4.1) (State.isArrayOf_alike hZ.alike Ar4.2.1) (g := (mkF m 3 #[vR r0, vR r1, .unset] [(.ref r1), (.int 1)])) rfl rfl (hb hby d30_3) _ ?_
    rw [len_of S4 Na4]
    refine XS.icmpNo X0.here hx rfl (hb hby d30_4) rfl (teq (by decide)).2 ?_
    refine XS.iconst X0.here hx rfl (hb hby d30_7) ?_
    show Steps p.tables e below (s₁.setTop (mkF m 8 #[vR r0, vR r1, .unset] [(.int 0)])) _
    refine XS.istoreN X0.here hx rfl (hb hby d30_8) rfl (l' := #[vR r0, vR r1, vI 0]) rfl ?_
    refine XS.iloadN X0.here hx rfl (hb hby d30_9) rfl ?_
    refine XS.aloadN X0.here hx rfl (hb hby d30_10) rfl rfl ?_
    refine X0.arraylength hx (by rw [e0]; exact Ar2.1) (State.isArrayOf_alike hZ.alike Ar2.2.1) (g := (mkF m 11 #[vR r0, vR r1, vI 0] [(.ref r0), (.int 0)])) rfl rfl (hb hby d30_11) _ ?_
    rw [len_of S2 Na2]
    show Steps p.tables e below (s₁.setTop (mkF m 12 #[vR r0, vR r1, vI 0] [(.int 1), (.int 0)])) _
    refine XS.icmpNo X0.here hx rfl (hb hby d30_12) rfl (tlt (by decide)).2.1 ?_
    refine XS.aloadN X0.here hx rfl (hb hby d30_15) rfl rfl ?_
    refine XS.iloadN X0.here hx rfl (hb hby d30_16) rfl ?_
    refine X0.baloadBytes hx (j := (0 : Int32)) (v := (.int (y0.toInt8.toInt32))) (by rw [e0]; exact Ar2.1) (State.isArrayOf_alike hZ.alike Ar2.2.1) Ar2.2.2 (inb_of S2 ⟨by decide, by decide⟩) (Has.at Ha2 (inb_of S2 ⟨by decide, by decide⟩) rfl) (g := (mkF m 17 #[vR r0, vR r1, vI 0] [(.int 0), (.ref r0)])) rfl rfl (hb hby d30_17) _ ?_
    show Steps p.tables e below (s₁.setTop (mkF m 18 #[vR r0, vR r1, vI 0] [(.int (y0.toInt8.toInt32))])) _
    refine XS.aloadN X0.here hx rfl (hb hby d30_18) rfl rfl ?_
    refine XS.iloadN X0.here hx rfl (hb hby d30_19) rfl ?_
    refine X0.baloadBytes hx (j := (0 : Int32)) (v := (.int 46)) (by rw [e0]; exact Ar4.1) (State.isArrayOf_alike hZ.alike Ar4.2.1) Ar4.2.2 (inb_of S4 ⟨by decide, by decide⟩) (Has.at Ha4 (inb_of S4 ⟨by decide, by decide⟩) rfl) (g := (mkF m 20 #[vR r0, vR r1, vI 0] [(.int 0), (.ref r1), (.int (y0.toInt8.toInt32))])) rfl rfl (hb hby d30_20) _ ?_
    exact k)
  by_cases hc6 : (y0.toInt8.toInt32) = (46 : Int32)
  · skip
    have ks7 : own_R p e below (A0) (s₁.setTop (mkF m 33 #[vR r0, vR r1, vI 1] [(.int 1)])) := fun t k => ks5 t (by
      refine XS.icmpYes X0.here hx rfl (pc0 := 21) (pc' := 26) rfl (hb hby d30_21) rfl (teq hc6).1 (by decide) (by decide) ?_
      refine XS.iinc X0.here hx rfl (hb hby d30_26) rfl (l' := #[vR r0, vR r1, vI 1]) rfl ?_
      refine XS.goto X0.here hx rfl (pc0 := 29) (pc' := 9) rfl (hb hby d30_29) (by decide) (by decide) ?_
      show Steps p.tables e below (s₁.setTop (mkF m 9 #[vR r0, vR r1, vI 1] [])) _
      refine XS.iloadN X0.here hx rfl (hb hby d30_9) rfl ?_
      refine XS.aloadN X0.here hx rfl (hb hby d30_10) rfl rfl ?_
      refine X0.arraylength hx (by rw [e0]; exact Ar2.1) (State.isArrayOf_alike hZ.alike Ar2.2.1) (g := (mkF m 11 #[vR r0, vR r1, vI 1] [(.ref r0), (.int 1)])) rfl rfl (hb hby d30_11) _ ?_
      rw [len_of S2 Na2]
      refine XS.icmpYes X0.here hx rfl (pc0 := 12) (pc' := 32) rfl (hb hby d30_12) rfl (flt (by decide)).2.1 (by decide) (by decide) ?_
      show Steps p.tables e below (s₁.setTop (mkF m 32 #[vR r0, vR r1, vI 1] [])) _
      refine XS.iconst X0.here hx rfl (hb hby d30_32) ?_
      exact k)
    obtain ⟨fs, hr, hrun, hended, hW, hsame⟩ := X0.leave (v := some (.int 1)) (fun h => by rw [Bd.returns] at h; cases h) hlk
    refine ⟨_, _, kz _ (ks7 _ ?_), hrun, hended, _, _, rfl, ?_, ⟨_, rfl⟩, hW, hsame.mono (by decide) (by decide)⟩
    · exact retN X0 hx (t := .boolean) Bd.returns (by simp) (hb hby d30_33) hr
    · show Q30_G1 Z r0 r1 kr0 kr1 y0 h0 n0 _ s₁.heap _
      rw [e0]
      refine ⟨?_, N0, rfl⟩
      rw [own_eqA_G1, if_pos hc6]
  · skip
    have ks8 : own_R p e below (A0) (s₁.setTop (mkF m 25 #[vR r0, vR r1, vI 0] [(.int 0)])) := fun t k => ks5 t (by
      refine XS.icmpNo X0.here hx rfl (hb hby d30_21) rfl (feq hc6).1 ?_
      refine XS.iconst X0.here hx rfl (hb hby d30_24) ?_
      exact k)
    obtain ⟨fs, hr, hrun, hended, hW, hsame⟩ := X0.leave (v := some (.int 0)) (fun h => by rw [Bd.returns] at h; cases h) hlk
    refine ⟨_, _, kz _ (ks8 _ ?_), hrun, hended, _, _, rfl, ?_, ⟨_, rfl⟩, hW, hsame.mono (by decide) (by decide)⟩
    · exact retN X0 hx (t := .boolean) Bd.returns (by simp) (hb hby d30_25) hr
    · show Q30_G1 Z r0 r1 kr0 kr1 y0 h0 n0 _ s₁.heap _
      rw [e0]
      refine ⟨?_, N0, rfl⟩
      rw [own_eqA_G1, if_neg hc6]
def own_eq_G1 (kd0 : Int32) (y0 : Int32) : Int32 := (if kd0 = (0 : Int32) then (if (own_eqA_G1 y0) = (0 : Int32) then (0 : Int32) else (1 : Int32)) else (0 : Int32))
theorem d16_5 : decode jdk_42_method_66_code 5 = .ok (.iconst 1, 1) := by decide +kernel
theorem d16_6 : decode jdk_42_method_66_code 6 = .ok (.ireturn, 1) := by decide +kernel
theorem d16_50 : decode jdk_42_method_66_code 50 = .ok (.iconst 1, 1) := by decide +kernel
theorem d16_51 : decode jdk_42_method_66_code 51 = .ok (.goto 4, 3) := by decide +kernel
theorem ef_16_G1 (m : MethodId) (x0 : Addr) (x1 : Addr) : entryFrame m #[(.ref x0), (.ref x1)] 3 = mkF m 0 #[.val (.ref x0), .val (.ref x1), .unset] [] := by first | (simp [entryFrame, mkF, argsToLocals, Value.category]; done) | rfl
def Q16_G1 (Z : State) (r0 : Addr) (r1 : Addr) (y9 : Int32) (t0 : Addr) (t1 : Addr) (kt0 : ClassId) (kt1 : ClassId) (kd0 : Int32) (z0 : Int32) (vs0 : List Value) (y0 : Int32) (h0 : Heap) (n0 : Nat) (v : Option Value) (h : Heap) (L : List Loc) : Prop := v = some (.int (own_eq_G1 kd0 y0)) ∧ Fr n0 L ∧ h = h0
set_option maxRecDepth 65536 in
set_option maxHeartbeats 40000000 in
theorem rm16_G1 (l : Launch) (Z : State) (a0 : Array Value) (hw : ∀ d ∈ tables_1, d.before a0 Z = true) (ws : List Jvm.Cond) (r0 : Addr) (r1 : Addr) (y9 : Int32) (t0 : Addr) (t1 : Addr) (kt0 : ClassId) (kt1 : ClassId) (kd0 : Int32) (z0 : Int32) (vs0 : List Value) (y0 : Int32) (h0 : Heap) (n0 : Nat) (Z0 : n0 ≤ h0.size) (S9 : own_S9 Z h0 y9) (P9 : ¬ y9 = (0 : Int32)) (E0 : Exa Z h0 r0 "java/lang/String") (Cd0 : own_Cd Z h0 r0 kd0) (F0 : own_Fv Z h0 r0 t0) (V0 : Arv Z h0 t0 kt0 .byte z0 vs0 (.int 0)) (E1 : Exa Z h0 r1 "java/lang/String") (Cd1 : own_Cd Z h0 r1 0) (F1 : own_Fv Z h0 r1 t1) (V1 : Arv Z h0 t1 kt1 .byte (1 : Int32) [(.int 46)] (.int 0)) (hs : own_sh 1 kd0 z0 vs0 [y0]) :
    MetFree l (⟨"java/lang/String", "equals", "(Ljava/lang/Object;)Z"⟩ : MethodName) (head1 (Jvm.Cond.code (⟨"java/lang/String", "equals", "(Ljava/lang/Object;)Z"⟩ : MethodName) jdk_42_method_66_code 3 (some .boolean) :: ws) ({ frames := 1, cells := 0, slots := 0, locals := 14 } : Room)) (fun a U => a = #[(.ref r0), (.ref r1)] ∧ Z.Warmed39 U.vm ∧ U.heap = h0) (fun _ _ _ _ _ => True) (fun _ U o U' => ∃ v L, o = .returned v ∧ Q16_G1 Z r0 r1 y9 t0 t1 kt0 kt1 kd0 z0 vs0 y0 h0 n0 v U'.heap L ∧ FrameEnd U o U' L ({ frames := 1, cells := 0, slots := 0, locals := 14 } : Room).cells ({ frames := 1, cells := 0, slots := 0, locals := 14 } : Room).slots) := by
  refine MetFree.of_bodySF (plainFor_of_name pn_16) hisR ?_
  intro p e s m args below meth c s₁ Bd hml0 hP hK
  obtain ⟨rfl, hZ, hh⟩ := hP
  have hx := Bd.exec
  have hby := Bd.bytes
  have hml : c.maxLocals = 3 := hml0
  have hown : s.vm.findClass "java/lang/String" = some m.cls := findClass_of_methodNamed Bd.named
  have hnm := (name_of_methodNamed Bd.named Bd.method).1
  have hlk : meth.locks = false := by first | exact BodyLoose.notSynchronized Bd | exact Body.notSynchronized Bd
  have X0 : Stand p l e ({ frames := 1, cells := 0, slots := 0, locals := 14 } : Room) s m #[(.ref r0), (.ref r1)] below meth c s₁ [] 0 0 := Stand.of_body Bd
  have e0 : s₁.heap = h0 := by rw [← hh, Bd.state]; rfl
  have N0 := Fr.nil n0
  have k0 : own_R p e below (s₁.setTop (entryFrame m #[(.ref r0), (.ref r1)] 3)) (s₁.setTop (mkF m 0 #[vR r0, vR r1, .unset] [])) := fun t k => castTop (ef_16_G1 m r0 r1) k
  obtain ⟨A0, hA0⟩ : ∃ z, z = s₁.setTop (entryFrame m #[(.ref r0), (.ref r1)] 3) := ⟨_, rfl⟩
  rw [← hA0] at k0
  have kz : ∀ t, Steps p.tables e below A0 t → Steps p.tables e below (s₁.setTop (entryFrame m #[(.ref r0), (.ref r1)] 3)) t := fun t q => hA0 ▸ q
  rcases hs with ⟨hk, hz, hv, -⟩ | ⟨hk, -⟩
  · skip
    rw [hk] at Cd0
    have V0 : Arv Z h0 t0 kt0 .byte 1 [(.int (y0.toInt8.toInt32))] (.int 0) := by rw [hz, hv] at V0; exact V0
    have ks1 : own_R p e below (A0) (s₁.setTop (mkF m 2 #[vR r0, vR r1, .unset] [(.ref r1), (.ref r0)])) := fun t k => k0 t (by
      refine XS.aloadN X0.here hx rfl (hb hby d16_0) rfl rfl ?_
      refine XS.aloadN X0.here hx rfl (hb hby d16_1) rfl rfl ?_
      exact k)
    by_cases e01 : r0 = r1
    · skip
      have ks2 : own_R p e below (A0) (s₁.setTop (mkF m 6 #[vR r0, vR r1, .unset] [(.int 1)])) := fun t k => ks1 t (by
        refine Jvm.RoadKit.acmp (g := (mkF m 2 #[vR r0, vR r1, .unset] [(.ref r1), (.ref r0)])) X0 hx rfl rfl rfl (pc0 := 2) (pc' := 5) (same := true) rfl (hb hby d16_2) rfl (decide_eq_true (congrArg Value.ref e01)) (by decide) (by decide) ?_
        refine XS.iconst X0.here hx rfl (hb hby d16_5) ?_
        exact k)
      obtain ⟨fs, hr, hrun, hended, hW, hsame⟩ := X0.leave (v := some (.int 1)) (fun h => by rw [Bd.returns] at h; cases h) hlk
      refine ⟨_, _, kz _ (ks2 _ ?_), hrun, hended, _, _, rfl, ?_, ⟨_, rfl⟩, hW, hsame.mono (by decide) (by decide)⟩
      · exact retN X0 hx (t := .boolean) Bd.returns (by simp) (hb hby d16_6) hr
      · show Q16_G1 Z r0 r1 y9 t0 t1 kt0 kt1 kd0 z0 vs0 y0 h0 n0 _ s₁.heap _
        rw [e0]
        have et : t0 = t1 := Classical.byContradiction fun q => Fld.ne F0 F1 (fun z => q (Value.ref.inj z)) e01
        have qe0 : (y0.toInt8.toInt32) = (46 : Int32) := Classical.byContradiction fun q => arv_ne V0 V1 (Or.inr ⟨0, by decide, fun z => q (Value.int.inj z)⟩) et
        refine ⟨?_, N0, rfl⟩
        rw [own_eq_G1, if_pos hk, own_eqA_G1, if_pos qe0, if_neg (by decide)]
    · skip
      have ks3 : own_R p e below (A0) (s₁.setTop (mkF m 8 #[vR r0, vR r1, .unset] [(.ref r1)])) := fun t k => ks1 t (by
        refine Jvm.RoadKit.acmp (g := (mkF m 2 #[vR r0, vR r1, .unset] [(.ref r1), (.ref r0)])) X0 hx rfl rfl rfl (pc0 := 2) (pc' := 7) (same := false) rfl (hb hby d16_2) rfl (decide_eq_false fun q => e01 (Value.ref.inj q)) (by decide) (by decide) ?_
        refine XS.aloadN X0.here hx rfl (hb hby d16_7) rfl rfl ?_
        exact k)
      obtain ⟨T4, X4, e4, st4⟩ := instY X0 hx hZ hown (own_w hw 76 rfl) e0 (Ins.self E1) (g := (mkF m 8 #[vR r0, vR r1, .unset] [(.ref r1)])) rfl rfl (hb hby d16_8)
      have ks5 := own_c ks3 st4
      have ks6 : own_R p e below (A0) (T4.setTop (mkF m 15 #[vR r0, vR r1, .unset] [(.ref r1)])) := fun t k => ks5 t (by
        refine XS.ifNo X4.here hx rfl (hb hby d16_11) rfl ((if0 _ _).trans (feq (by decide)).1) ?_
        refine XS.aloadN X4.here hx rfl (hb hby d16_14) rfl rfl ?_
        exact k)
      obtain ⟨T7, X7, e7, st7⟩ := castY X4 hx hZ hown (own_w hw 76 rfl) e4 (Ins.self E1) (g := (mkF m 15 #[vR r0, vR r1, .unset] [(.ref r1)])) rfl rfl (hb hby d16_15)
      have ks8 := own_c ks6 st7
      have ks9 : own_R p e below (A0) (T7.setTop (mkF m 19 #[vR r0, vR r1, vR r1] [])) := fun t k => ks8 t (by
        refine XS.astoreN X7.here hx rfl (hb hby d16_18) rfl rfl (l' := #[vR r0, vR r1, vR r1]) rfl ?_
        exact k)
      obtain ⟨T10, X10, e10, st10⟩ := getS2 X7 hx hZ hown (host := "") (Or.inl (own_w hw 37 rfl)) Via.refl e7 S9 (g := (mkF m 19 #[vR r0, vR r1, vR r1] [])) rfl (hb hby d16_19)
      have ks11 := own_c ks9 st10
      have ks12 : own_R p e below (A0) (T10.setTop (mkF m 26 #[vR r0, vR r1, vR r1] [(.ref r0)])) := fun t k => ks11 t (by
        refine XS.ifNo X10.here hx rfl (hb hby d16_22) rfl ((if0 _ _).trans (feq P9).1) ?_
        refine XS.aloadN X10.here hx rfl (hb hby d16_25) rfl rfl ?_
        exact k)
      obtain ⟨T13, X13, e13, st13⟩ := getF X10 hx hZ hown (host := "") (Or.inl (own_w hw 26 rfl)) Via.refl e10 Cd0 (g := (mkF m 26 #[vR r0, vR r1, vR r1] [(.ref r0)])) rfl rfl (hb hby d16_26)
      have ks14 := own_c ks12 st13
      have ks15 : own_R p e below (A0) (T13.setTop (mkF m 30 #[vR r0, vR r1, vR r1] [(.ref r1), (.int 0)])) := fun t k => ks14 t (by
        refine XS.aloadN X13.here hx rfl (hb hby d16_29) rfl rfl ?_
        exact k)
      obtain ⟨T16, X16, e16, st16⟩ := getF X13 hx hZ hown (host := "") (Or.inl (own_w hw 26 rfl)) Via.refl e13 Cd1 (g := (mkF m 30 #[vR r0, vR r1, vR r1] [(.ref r1), (.int 0)])) rfl rfl (hb hby d16_30)
      have ks17 := own_c ks15 st16
      have ks18 : own_R p e below (A0) (T16.setTop (mkF m 37 #[vR r0, vR r1, vR r1] [(.ref r0)])) := fun t k => ks17 t (by
        refine XS.icmpNo X16.here hx rfl (hb hby d16_33) rfl (teq (by decide)).2 ?_
        refine XS.aloadN X16.here hx rfl (hb hby d16_36) rfl rfl ?_
        exact k)
      obtain ⟨T19, X19, e19, st19⟩ := getF X16 hx hZ hown (host := "") (Or.inl (own_w hw 25 rfl)) Via.refl e16 F0 (g := (mkF m 37 #[vR r0, vR r1, vR r1] [(.ref r0)])) rfl rfl (hb hby d16_37)
      have ks20 := own_c ks18 st19
      have ks21 : own_R p e below (A0) (T19.setTop (mkF m 41 #[vR r0, vR r1, vR r1] [(.ref r1), (.ref t0)])) := fun t k => ks20 t (by
        refine XS.aloadN X19.here hx rfl (hb hby d16_40) rfl rfl ?_
        exact k)
      obtain ⟨T22, X22, e22, st22⟩ := getF X19 hx hZ hown (host := "") (Or.inl (own_w hw 25 rfl)) Via.refl e19 F1 (g := (mkF m 41 #[vR r0, vR r1, vR r1] [(.ref r1), (.ref t0)])) rfl rfl (hb hby d16_41)
      have ks23 := own_c ks21 st22
      obtain ⟨_, _, ⟨T24, L24, k24, n24⟩, -, X24, ⟨Lc24, hQ24, lq24, yq24, zq24⟩, st24⟩ := Jvm.LawKit.callS X22 hx (y := (⟨"java/lang/StringLatin1", "equals", "([B[B)Z"⟩ : MethodName)) hown (mvT hZ (own_w hw 128 rfl)) (mvT hZ (own_w hw 129 rfl)) (mvT hZ (own_w hw 120 rfl)) (mvT hZ (own_w hw 130 rfl)) (by decide) (backOf (W := 0) (rm30_G1 l Z a0 hw [] t0 t1 _ _ y0 h0 n0 Z0 V0 V1) hZ (own_w hw 130 rfl) (own_w hw 120 rfl) (by decide) (by decide)) (g := (mkF m 44 #[vR r0, vR r1, vR r1] [(.ref t1), (.ref t0)])) rfl (by rw [hml]; rfl) (argsL := [(.ref t0), (.ref t1)]) (rest := []) (lenOf pd_24 rfl) rfl (by show 2 * 0 + _ ≤ _; exact Nat.le_of_eq rfl) (hb hby d16_44) (fun _ _ => ⟨rfl, e22, (by decide : 0 + 0 ≤ _), (by decide : 0 + 0 ≤ _)⟩)
      dsimp only [Pt.U, Pt.locs, Pt.cells, Pt.slots] at X24 lq24 yq24 zq24 st24 hQ24
      subst lq24 yq24 zq24
      obtain ⟨rfl, Nq24, eq24⟩ := hQ24
      have N24 := Fr.app N0 Nq24
      have ks25 := own_c ks23 st24
      by_cases hc26 : (own_eqA_G1 y0) = (0 : Int32)
      · skip
        have ks27 : own_R p e below (A0) (T24.setTop (mkF m 55 #[vR r0, vR r1, vR r1] [(.int 0)])) := fun t k => ks25 t (by
          refine XS.ifYes X24.here hx rfl (pc0 := 47) (pc' := 54) rfl (hb hby d16_47) rfl ((if0 _ _).trans (teq hc26).1) (by decide) (by decide) ?_
          refine XS.iconst X24.here hx rfl (hb hby d16_54) ?_
          exact k)
        obtain ⟨fs, hr, hrun, hended, hW, hsame⟩ := X24.leave (v := some (.int 0)) (fun h => by rw [Bd.returns] at h; cases h) hlk
        refine ⟨_, _, kz _ (ks27 _ ?_), hrun, hended, _, _, rfl, ?_, ⟨_, rfl⟩, hW, hsame.mono (by decide) (by decide)⟩
        · exact retN X24 hx (t := .boolean) Bd.returns (by simp) (hb hby d16_55) hr
        · show Q16_G1 Z r0 r1 y9 t0 t1 kt0 kt1 kd0 z0 vs0 y0 h0 n0 _ T24.heap _
          rw [eq24]
          refine ⟨?_, N24, rfl⟩
          rw [own_eq_G1, if_pos hk, if_pos hc26]
      · skip
        have ks28 : own_R p e below (A0) (T24.setTop (mkF m 55 #[vR r0, vR r1, vR r1] [(.int 1)])) := fun t k => ks25 t (by
          refine XS.ifNo X24.here hx rfl (hb hby d16_47) rfl ((if0 _ _).trans (feq hc26).1) ?_
          refine XS.iconst X24.here hx rfl (hb hby d16_50) ?_
          refine XS.goto X24.here hx rfl (pc0 := 51) (pc' := 55) rfl (hb hby d16_51) (by decide) (by decide) ?_
          exact k)
        obtain ⟨fs, hr, hrun, hended, hW, hsame⟩ := X24.leave (v := some (.int 1)) (fun h => by rw [Bd.returns] at h; cases h) hlk
        refine ⟨_, _, kz _ (ks28 _ ?_), hrun, hended, _, _, rfl, ?_, ⟨_, rfl⟩, hW, hsame.mono (by decide) (by decide)⟩
        · exact retN X24 hx (t := .boolean) Bd.returns (by simp) (hb hby d16_55) hr
        · show Q16_G1 Z r0 r1 y9 t0 t1 kt0 kt1 kd0 z0 vs0 y0 h0 n0 _ T24.heap _
          rw [eq24]
          refine ⟨?_, N24, rfl⟩
          rw [own_eq_G1, if_pos hk, if_neg hc26]
  · skip
    rw [hk] at Cd0
    have hk1 : ¬ kd0 = (0 : Int32) := by rw [hk]; decide
    have n01 : r0 ≠ r1 := Fld.ne Cd0 Cd1 (fun q => absurd (Value.int.inj q) (by decide))
    have ks29 : own_R p e below (A0) (s₁.setTop (mkF m 8 #[vR r0, vR r1, .unset] [(.ref r1)])) := fun t k => k0 t (by
      refine XS.aloadN X0.here hx rfl (hb hby d16_0) rfl rfl ?_
      refine XS.aloadN X0.here hx rfl (hb hby d16_1) rfl rfl ?_
      refine Jvm.RoadKit.acmp (g := (mkF m 2 #[vR r0, vR r1, .unset] [(.ref r1), (.ref r0)])) X0 hx rfl rfl rfl (pc0 := 2) (pc' := 7) (same := false) rfl (hb hby d16_2) rfl (decide_eq_false fun q => n01 (Value.ref.inj q)) (by decide) (by decide) ?_
      show Steps p.tables e below (s₁.setTop (mkF m 7 #[vR r0, vR r1, .unset] [])) _
      refine XS.aloadN X0.here hx rfl (hb hby d16_7) rfl rfl ?_
      exact k)
    obtain ⟨T30, X30, e30, st30⟩ := instY X0 hx hZ hown (own_w hw 76 rfl) e0 (Ins.self E1) (g := (mkF m 8 #[vR r0, vR r1, .unset] [(.ref r1)])) rfl rfl (hb hby d16_8)
    have ks31 := own_c ks29 st30
    have ks32 : own_R p e below (A0) (T30.setTop (mkF m 15 #[vR r0, vR r1, .unset] [(.ref r1)])) := fun t k => ks31 t (by
      refine XS.ifNo X30.here hx rfl (hb hby d16_11) rfl ((if0 _ _).trans (feq (by decide)).1) ?_
      refine XS.aloadN X30.here hx rfl (hb hby d16_14) rfl rfl ?_
      exact k)
    obtain ⟨T33, X33, e33, st33⟩ := castY X30 hx hZ hown (own_w hw 76 rfl) e30 (Ins.self E1) (g := (mkF m 15 #[vR r0, vR r1, .unset] [(.ref r1)])) rfl rfl (hb hby d16_15)
    have ks34 := own_c ks32 st33
    have ks35 : own_R p e below (A0) (T33.setTop (mkF m 19 #[vR r0, vR r1, vR r1] [])) := fun t k => ks34 t (by
      refine XS.astoreN X33.here hx rfl (hb hby d16_18) rfl rfl (l' := #[vR r0, vR r1, vR r1]) rfl ?_
      exact k)
    obtain ⟨T36, X36, e36, st36⟩ := getS2 X33 hx hZ hown (host := "") (Or.inl (own_w hw 37 rfl)) Via.refl e33 S9 (g := (mkF m 19 #[vR r0, vR r1, vR r1] [])) rfl (hb hby d16_19)
    have ks37 := own_c ks35 st36
    have ks38 : own_R p e below (A0) (T36.setTop (mkF m 26 #[vR r0, vR r1, vR r1] [(.ref r0)])) := fun t k => ks37 t (by
      refine XS.ifNo X36.here hx rfl (hb hby d16_22) rfl ((if0 _ _).trans (feq P9).1) ?_
      refine XS.aloadN X36.here hx rfl (hb hby d16_25) rfl rfl ?_
      exact k)
    obtain ⟨T39, X39, e39, st39⟩ := getF X36 hx hZ hown (host := "") (Or.inl (own_w hw 26 rfl)) Via.refl e36 Cd0 (g := (mkF m 26 #[vR r0, vR r1, vR r1] [(.ref r0)])) rfl rfl (hb hby d16_26)
    have ks40 := own_c ks38 st39
    have ks41 : own_R p e below (A0) (T39.setTop (mkF m 30 #[vR r0, vR r1, vR r1] [(.ref r1), (.int 1)])) := fun t k => ks40 t (by
      refine XS.aloadN X39.here hx rfl (hb hby d16_29) rfl rfl ?_
      exact k)
    obtain ⟨T42, X42, e42, st42⟩ := getF X39 hx hZ hown (host := "") (Or.inl (own_w hw 26 rfl)) Via.refl e39 Cd1 (g := (mkF m 30 #[vR r0, vR r1, vR r1] [(.ref r1), (.int 1)])) rfl rfl (hb hby d16_30)
    have ks43 := own_c ks41 st42
    have ks44 : own_R p e below (A0) (T42.setTop (mkF m 55 #[vR r0, vR r1, vR r1] [(.int 0)])) := fun t k => ks43 t (by
      refine XS.icmpYes X42.here hx rfl (pc0 := 33) (pc' := 54) rfl (hb hby d16_33) rfl (feq (by decide)).2 (by decide) (by decide) ?_
      refine XS.iconst X42.here hx rfl (hb hby d16_54) ?_
      exact k)
    obtain ⟨fs, hr, hrun, hended, hW, hsame⟩ := X42.leave (v := some (.int 0)) (fun h => by rw [Bd.returns] at h; cases h) hlk
    refine ⟨_, _, kz _ (ks44 _ ?_), hrun, hended, _, _, rfl, ?_, ⟨_, rfl⟩, hW, hsame.mono (by decide) (by decide)⟩
    · exact retN X42 hx (t := .boolean) Bd.returns (by simp) (hb hby d16_55) hr
    · show Q16_G1 Z r0 r1 y9 t0 t1 kt0 kt1 kd0 z0 vs0 y0 h0 n0 _ T42.heap _
      rw [e42]
      refine ⟨?_, N0, rfl⟩
      rw [own_eq_G1, if_neg hk1]
def own_eqA_G2 (y0 : Int32) (y1 : Int32) : Int32 := (if (y0.toInt8.toInt32) = (46 : Int32) then (if (y1.toInt8.toInt32) = (46 : Int32) then (1 : Int32) else (0 : Int32)) else (0 : Int32))
theorem ef_30_G2 (m : MethodId) (x0 : Addr) (x1 : Addr) : entryFrame m #[(.ref x0), (.ref x1)] 3 = mkF m 0 #[.val (.ref x0), .val (.ref x1), .unset] [] := by first | (simp [entryFrame, mkF, argsToLocals, Value.category]; done) | rfl
def Q30_G2 (Z : State) (r0 : Addr) (r1 : Addr) (kr0 : ClassId) (kr1 : ClassId) (y0 : Int32) (y1 : Int32) (h0 : Heap) (n0 : Nat) (v : Option Value) (h : Heap) (L : List Loc) : Prop := v = some (.int (own_eqA_G2 y0 y1)) ∧ Fr n0 L ∧ h = h0
set_option maxRecDepth 65536 in
set_option maxHeartbeats 40000000 in
theorem rm30_G2 (l : Launch) (Z : State) (a0 : Array Value) (hw : ∀ d ∈ tables_1, d.before a0 Z = true) (ws : List Jvm.Cond) (r0 : Addr) (r1 : Addr) (kr0 : ClassId) (kr1 : ClassId) (y0 : Int32) (y1 : Int32) (h0 : Heap) (n0 : Nat) (Z0 : n0 ≤ h0.size) (V0 : Arv Z h0 r0 kr0 .byte (2 : Int32) [(.int (y0.toInt8.toInt32)), (.int (y1.toInt8.toInt32))] (.int 0)) (V1 : Arv Z h0 r1 kr1 .byte (2 : Int32) [(.int 46), (.int 46)] (.int 0)) :
    MetFree l (⟨"java/lang/StringLatin1", "equals", "([B[B)Z"⟩ : MethodName) (head1 (Jvm.Cond.code (⟨"java/lang/StringLatin1", "equals", "([B[B)Z"⟩ : MethodName) jdk_43_method_13_code 3 (some .boolean) :: ws) ({ frames := 0, cells := 0, slots := 0, locals := 0 } : Room)) (fun a U => a = #[(.ref r0), (.ref r1)] ∧ Z.Warmed39 U.vm ∧ U.heap = h0) (fun _ _ _ _ _ => True) (fun _ U o U' => ∃ v L, o = .returned v ∧ Q30_G2 Z r0 r1 kr0 kr1 y0 y1 h0 n0 v U'.heap L ∧ FrameEnd U o U' L ({ frames := 0, cells := 0, slots := 0, locals := 0 } : Room).cells ({ frames := 0, cells := 0, slots := 0, locals := 0 } : Room).slots) := by
  refine MetFree.of_bodySF (plainFor_of_name pn_30) hisR ?_
  intro p e s m args below meth c s₁ Bd hml0 hP hK
  obtain ⟨rfl, hZ, hh⟩ := hP
  have hx := Bd.exec
  have hby := Bd.bytes
  have hml : c.maxLocals = 3 := hml0
  have hown : s.vm.findClass "java/lang/StringLatin1" = some m.cls := findClass_of_methodNamed Bd.named
  have hnm := (name_of_methodNamed Bd.named Bd.method).1
  have hlk : meth.locks = false := by first | exact BodyLoose.notSynchronized Bd | exact Body.notSynchronized Bd
  have X0 : Stand p l e ({ frames := 0, cells := 0, slots := 0, locals := 0 } : Room) s m #[(.ref r0), (.ref r1)] below meth c s₁ [] 0 0 := Stand.of_body Bd
  have e0 : s₁.heap = h0 := by rw [← hh, Bd.state]; rfl
  have N0 := Fr.nil n0
  have k0 : own_R p e below (s₁.setTop (entryFrame m #[(.ref r0), (.ref r1)] 3)) (s₁.setTop (mkF m 0 #[vR r0, vR r1, .unset] [])) := fun t k => castTop (ef_30_G2 m r0 r1) k
  obtain ⟨A0, hA0⟩ : ∃ z, z = s₁.setTop (entryFrame m #[(.ref r0), (.ref r1)] 3) := ⟨_, rfl⟩
  rw [← hA0] at k0
  have kz : ∀ t, Steps p.tables e below A0 t → Steps p.tables e below (s₁.setTop (entryFrame m #[(.ref r0), (.ref r1)] 3)) t := fun t q => hA0 ▸ q
  have ks1 : own_R p e below (A0) (s₁.setTop (mkF m 1 #[vR r0, vR r1, .unset] [(.ref r0)])) := fun t k => k0 t (by
    refine XS.aloadN X0.here hx rfl (hb hby d30_0) rfl rfl ?_
    exact k)
  obtain ⟨cl2, Ar2, qa2, S2, Na2, Ha2, Ga2⟩ := id V0
  have ks3 : own_R p e below (A0) (s₁.setTop (mkF m 3 #[vR r0, vR r1, .unset] [(.ref r1), (.int 2)])) := fun t k => ks1 t (by
    refine X0.arraylength hx (by rw [e0]; exact Ar2.1) (State.isArrayOf_alike hZ.alike Ar2.2.1) (g := (mkF m 1 #[vR r0, vR r1, .unset] [(.ref r0)])) rfl rfl (hb hby d30_1) _ ?_
    rw [len_of S2 Na2]
    refine XS.aloadN X0.here hx rfl (hb hby d30_2) rfl rfl ?_
    exact k)
  obtain ⟨cl4, Ar4, qa4, S4, Na4, Ha4, Ga4⟩ := id V1
  have ks5 : own_R p e below (A0) (s₁.setTop (mkF m 21 #[vR r0, vR r1, vI 0] [(.int 46), (.int (y0.toInt8.toInt32))])) := fun t k => ks3 t (by
    refine X0.arraylength hx (by rw [e0]; exact Ar4.1) (State.isArrayOf_alike hZ.alike Ar4.2.1) (g := (mkF m 3 #[vR r0, vR r1, .unset] [(.ref r1), (.int 2)])) rfl rfl (hb hby d30_3) _ ?_
    rw [len_of S4 Na4]
    refine XS.icmpNo X0.here hx rfl (hb hby d30_4) rfl (teq (by decide)).2 ?_
    refine XS.iconst X0.here hx rfl (hb hby d30_7) ?_
    show Steps p.tables e below (s₁.setTop (mkF m 8 #[vR r0, vR r1, .unset] [(.int 0)])) _
    refine XS.istoreN X0.here hx rfl (hb hby d30_8) rfl (l' := #[vR r0, vR r1, vI 0]) rfl ?_
    refine XS.iloadN X0.here hx rfl (hb hby d30_9) rfl ?_
    refine XS.aloadN X0.here hx rfl (hb hby d30_10) rfl rfl ?_
    refine X0.arraylength hx (by rw [e0]; exact Ar2.1) (State.isArrayOf_alike hZ.alike Ar2.2.1) (g := (mkF m 11 #[vR r0, vR r1, vI 0] [(.ref r0), (.int 0)])) rfl rfl (hb hby d30_11) _ ?_
    rw [len_of S2 Na2]
    show Steps p.tables e below (s₁.setTop (mkF m 12 #[vR r0, vR r1, vI 0] [(.int 2), (.int 0)])) _
    refine XS.icmpNo X0.here hx rfl (hb hby d30_12) rfl (tlt (by decide)).2.1 ?_
    refine XS.aloadN X0.here hx rfl (hb hby d30_15) rfl rfl ?_
    refine XS.iloadN X0.here hx rfl (hb hby d30_16) rfl ?_
    refine X0.baloadBytes hx (j := (0 : Int32)) (v := (.int (y0.toInt8.toInt32))) (by rw [e0]; exact Ar2.1) (State.isArrayOf_alike hZ.alike Ar2.2.1) Ar2.2.2 (inb_of S2 ⟨by decide, by decide⟩) (Has.at Ha2 (inb_of S2 ⟨by decide, by decide⟩) rfl) (g := (mkF m 17 #[vR r0, vR r1, vI 0] [(.int 0), (.ref r0)])) rfl rfl (hb hby d30_17) _ ?_
    show Steps p.tables e below (s₁.setTop (mkF m 18 #[vR r0, vR r1, vI 0] [(.int (y0.toInt8.toInt32))])) _
    refine XS.aloadN X0.here hx rfl (hb hby d30_18) rfl rfl ?_
    refine XS.iloadN X0.here hx rfl (hb hby d30_19) rfl ?_
    refine X0.baloadBytes hx (j := (0 : Int32)) (v := (.int 46)) (by rw [e0]; exact Ar4.1) (State.isArrayOf_alike hZ.alike Ar4.2.1) Ar4.2.2 (inb_of S4 ⟨by decide, by decide⟩) (Has.at Ha4 (inb_of S4 ⟨by decide, by decide⟩) rfl) (g := (mkF m 20 #[vR r0, vR r1, vI 0] [(.int 0), (.ref r1), (.int (y0.toInt8.toInt32))])) rfl rfl (hb hby d30_20) _ ?_
    exact k)
  by_cases hc6 : (y0.toInt8.toInt32) = (46 : Int32)
  · skip
    have ks7 : own_R p e below (A0) (s₁.setTop (mkF m 21 #[vR r0, vR r1, vI 1] [(.int 46), (.int (y1.toInt8.toInt32))])) := fun t k => ks5 t (by
      refine XS.icmpYes X0.here hx rfl (pc0 := 21) (pc' := 26) rfl (hb hby d30_21) rfl (teq hc6).1 (by decide) (by decide) ?_
      refine XS.iinc X0.here hx rfl (hb hby d30_26) rfl (l' := #[vR r0, vR r1, vI 1]) rfl ?_
      refine XS.goto X0.here hx rfl (pc0 := 29) (pc' := 9) rfl (hb hby d30_29) (by decide) (by decide) ?_
      show Steps p.tables e below (s₁.setTop (mkF m 9 #[vR r0, vR r1, vI 1] [])) _
      refine XS.iloadN X0.here hx rfl (hb hby d30_9) rfl ?_
      refine XS.aloadN X0.here hx rfl (hb hby d30_10) rfl rfl ?_
      refine X0.arraylength hx (by rw [e0]; exact Ar2.1) (State.isArrayOf_alike hZ.alike Ar2.2.1) (g := (mkF m 11 #[vR r0, vR r1, vI 1] [(.ref r0), (.int 1)])) rfl rfl (hb hby d30_11) _ ?_
      rw [len_of S2 Na2]
      refine XS.icmpNo X0.here hx rfl (hb hby d30_12) rfl (tlt (by decide)).2.1 ?_
      show Steps p.tables e below (s₁.setTop (mkF m 15 #[vR r0, vR r1, vI 1] [])) _
      refine XS.aloadN X0.here hx rfl (hb hby d30_15) rfl rfl ?_
      refine XS.iloadN X0.here hx rfl (hb hby d30_16) rfl ?_
      refine X0.baloadBytes hx (j := (1 : Int32)) (v := (.int (y1.toInt8.toInt32))) (by rw [e0]; exact Ar2.1) (State.isArrayOf_alike hZ.alike Ar2.2.1) Ar2.2.2 (inb_of S2 ⟨by decide, by decide⟩) (Has.at Ha2 (inb_of S2 ⟨by decide, by decide⟩) rfl) (g := (mkF m 17 #[vR r0, vR r1, vI 1] [(.int 1), (.ref r0)])) rfl rfl (hb hby d30_17) _ ?_
      refine XS.aloadN X0.here hx rfl (hb hby d30_18) rfl rfl ?_
      show Steps p.tables e below (s₁.setTop (mkF m 19 #[vR r0, vR r1, vI 1] [(.ref r1), (.int (y1.toInt8.toInt32))])) _
      refine XS.iloadN X0.here hx rfl (hb hby d30_19) rfl ?_
      refine X0.baloadBytes hx (j := (1 : Int32)) (v := (.int 46)) (by rw [e0]; exact Ar4.1) (State.isArrayOf_alike hZ.alike Ar4.2.1) Ar4.2.2 (inb_of S4 ⟨by decide, by decide⟩) (Has.at Ha4 (inb_of S4 ⟨by decide, by decide⟩) rfl) (g := (mkF m 20 #[vR r0, vR r1, vI 1] [(.int 1), (.ref r1), (.int (y1.toInt8.toInt32))])) rfl rfl (hb hby d30_20) _ ?_
      exact k)
    by_cases hc8 : (y1.toInt8.toInt32) = (46 : Int32)
    · skip
      have ks9 : own_R p e below (A0) (s₁.setTop (mkF m 33 #[vR r0, vR r1, vI 2] [(.int 1)])) := fun t k => ks7 t (by
        refine XS.icmpYes X0.here hx rfl (pc0 := 21) (pc' := 26) rfl (hb hby d30_21) rfl (teq hc8).1 (by decide) (by decide) ?_
        refine XS.iinc X0.here hx rfl (hb hby d30_26) rfl (l' := #[vR r0, vR r1, vI 2]) rfl ?_
        refine XS.goto X0.here hx rfl (pc0 := 29) (pc' := 9) rfl (hb hby d30_29) (by decide) (by decide) ?_
        show Steps p.tables e below (s₁.setTop (mkF m 9 #[vR r0, vR r1, vI 2] [])) _
        refine XS.iloadN X0.here hx rfl (hb hby d30_9) rfl ?_
        refine XS.aloadN X0.here hx rfl (hb hby d30_10) rfl rfl ?_
        refine X0.arraylength hx (by rw [e0]; exact Ar2.1) (State.isArrayOf_alike hZ.alike Ar2.2.1) (g := (mkF m 11 #[vR r0, vR r1, vI 2] [(.ref r0), (.int 2)])) rfl rfl (hb hby d30_11) _ ?_
        rw [len_of S2 Na2]
        refine XS.icmpYes X0.here hx rfl (pc0 := 12) (pc' := 32) rfl (hb hby d30_12) rfl (flt (by decide)).2.1 (by decide) (by decide) ?_
        show Steps p.tables e below (s₁.setTop (mkF m 32 #[vR r0, vR r1, vI 2] [])) _
        refine XS.iconst X0.here hx rfl (hb hby d30_32) ?_
        exact k)
      obtain ⟨fs, hr, hrun, hended, hW, hsame⟩ := X0.leave (v := some (.int 1)) (fun h => by rw [Bd.returns] at h; cases h) hlk
      refine ⟨_, _, kz _ (ks9 _ ?_), hrun, hended, _, _, rfl, ?_, ⟨_, rfl⟩, hW, hsame.mono (by decide) (by decide)⟩
      · exact retN X0 hx (t := .boolean) Bd.returns (by simp) (hb hby d30_33) hr
      · show Q30_G2 Z r0 r1 kr0 kr1 y0 y1 h0 n0 _ s₁.heap _
        rw [e0]
        refine ⟨?_, N0, rfl⟩
        rw [own_eqA_G2, if_pos hc6, if_pos hc8]
    · skip
      have ks10 : own_R p e below (A0) (s₁.setTop (mkF m 25 #[vR r0, vR r1, vI 1] [(.int 0)])) := fun t k => ks7 t (by
        refine XS.icmpNo X0.here hx rfl (hb hby d30_21) rfl (feq hc8).1 ?_
        refine XS.iconst X0.here hx rfl (hb hby d30_24) ?_
        exact k)
      obtain ⟨fs, hr, hrun, hended, hW, hsame⟩ := X0.leave (v := some (.int 0)) (fun h => by rw [Bd.returns] at h; cases h) hlk
      refine ⟨_, _, kz _ (ks10 _ ?_), hrun, hended, _, _, rfl, ?_, ⟨_, rfl⟩, hW, hsame.mono (by decide) (by decide)⟩
      · exact retN X0 hx (t := .boolean) Bd.returns (by simp) (hb hby d30_25) hr
      · show Q30_G2 Z r0 r1 kr0 kr1 y0 y1 h0 n0 _ s₁.heap _
        rw [e0]
        refine ⟨?_, N0, rfl⟩
        rw [own_eqA_G2, if_pos hc6, if_neg hc8]
  · skip
    have ks11 : own_R p e below (A0) (s₁.setTop (mkF m 25 #[vR r0, vR r1, vI 0] [(.int 0)])) := fun t k => ks5 t (by
      refine XS.icmpNo X0.here hx rfl (hb hby d30_21) rfl (feq hc6).1 ?_
      refine XS.iconst X0.here hx rfl (hb hby d30_24) ?_
      exact k)
    obtain ⟨fs, hr, hrun, hended, hW, hsame⟩ := X0.leave (v := some (.int 0)) (fun h => by rw [Bd.returns] at h; cases h) hlk
    refine ⟨_, _, kz _ (ks11 _ ?_), hrun, hended, _, _, rfl, ?_, ⟨_, rfl⟩, hW, hsame.mono (by decide) (by decide)⟩
    · exact retN X0 hx (t := .boolean) Bd.returns (by simp) (hb hby d30_25) hr
    · show Q30_G2 Z r0 r1 kr0 kr1 y0 y1 h0 n0 _ s₁.heap _
      rw [e0]
      refine ⟨?_, N0, rfl⟩
      rw [own_eqA_G2, if_neg hc6]
def own_eq_G2 (kd0 : Int32) (y0 : Int32) (y1 : Int32) : Int32 := (if kd0 = (0 : Int32) then (if (own_eqA_G2 y0 y1) = (0 : Int32) then (0 : Int32) else (1 : Int32)) else (0 : Int32))
theorem ef_16_G2 (m : MethodId) (x0 : Addr) (x1 : Addr) : entryFrame m #[(.ref x0), (.ref x1)] 3 = mkF m 0 #[.val (.ref x0), .val (.ref x1), .unset] [] := by first | (simp [entryFrame, mkF, argsToLocals, Value.category]; done) | rfl
def Q16_G2 (Z : State) (r0 : Addr) (r1 : Addr) (y9 : Int32) (t0 : Addr) (t1 : Addr) (kt0 : ClassId) (kt1 : ClassId) (kd0 : Int32) (z0 : Int32) (vs0 : List Value) (y0 : Int32) (y1 : Int32) (h0 : Heap) (n0 : Nat) (v : Option Value) (h : Heap) (L : List Loc) : Prop := v = some (.int (own_eq_G2 kd0 y0 y1)) ∧ Fr n0 L ∧ h = h0
set_option maxRecDepth 65536 in
set_option maxHeartbeats 40000000 in
theorem rm16_G2 (l : Launch) (Z : State) (a0 : Array Value) (hw : ∀ d ∈ tables_1, d.before a0 Z = true) (ws : List Jvm.Cond) (r0 : Addr) (r1 : Addr) (y9 : Int32) (t0 : Addr) (t1 : Addr) (kt0 : ClassId) (kt1 : ClassId) (kd0 : Int32) (z0 : Int32) (vs0 : List Value) (y0 : Int32) (y1 : Int32) (h0 : Heap) (n0 : Nat) (Z0 : n0 ≤ h0.size) (S9 : own_S9 Z h0 y9) (P9 : ¬ y9 = (0 : Int32)) (E0 : Exa Z h0 r0 "java/lang/String") (Cd0 : own_Cd Z h0 r0 kd0) (F0 : own_Fv Z h0 r0 t0) (V0 : Arv Z h0 t0 kt0 .byte z0 vs0 (.int 0)) (E1 : Exa Z h0 r1 "java/lang/String") (Cd1 : own_Cd Z h0 r1 0) (F1 : own_Fv Z h0 r1 t1) (V1 : Arv Z h0 t1 kt1 .byte (2 : Int32) [(.int 46), (.int 46)] (.int 0)) (hs : own_sh 2 kd0 z0 vs0 [y0, y1]) :
    MetFree l (⟨"java/lang/String", "equals", "(Ljava/lang/Object;)Z"⟩ : MethodName) (head1 (Jvm.Cond.code (⟨"java/lang/String", "equals", "(Ljava/lang/Object;)Z"⟩ : MethodName) jdk_42_method_66_code 3 (some .boolean) :: ws) ({ frames := 1, cells := 0, slots := 0, locals := 14 } : Room)) (fun a U => a = #[(.ref r0), (.ref r1)] ∧ Z.Warmed39 U.vm ∧ U.heap = h0) (fun _ _ _ _ _ => True) (fun _ U o U' => ∃ v L, o = .returned v ∧ Q16_G2 Z r0 r1 y9 t0 t1 kt0 kt1 kd0 z0 vs0 y0 y1 h0 n0 v U'.heap L ∧ FrameEnd U o U' L ({ frames := 1, cells := 0, slots := 0, locals := 14 } : Room).cells ({ frames := 1, cells := 0, slots := 0, locals := 14 } : Room).slots) := by
  refine MetFree.of_bodySF (plainFor_of_name pn_16) hisR ?_
  intro p e s m args below meth c s₁ Bd hml0 hP hK
  obtain ⟨rfl, hZ, hh⟩ := hP
  have hx := Bd.exec
  have hby := Bd.bytes
  have hml : c.maxLocals = 3 := hml0
  have hown : s.vm.findClass "java/lang/String" = some m.cls := findClass_of_methodNamed Bd.named
  have hnm := (name_of_methodNamed Bd.named Bd.method).1
  have hlk : meth.locks = false := by first | exact BodyLoose.notSynchronized Bd | exact Body.notSynchronized Bd
  have X0 : Stand p l e ({ frames := 1, cells := 0, slots := 0, locals := 14 } : Room) s m #[(.ref r0), (.ref r1)] below meth c s₁ [] 0 0 := Stand.of_body Bd
  have e0 : s₁.heap = h0 := by rw [← hh, Bd.state]; rfl
  have N0 := Fr.nil n0
  have k0 : own_R p e below (s₁.setTop (entryFrame m #[(.ref r0), (.ref r1)] 3)) (s₁.setTop (mkF m 0 #[vR r0, vR r1, .unset] [])) := fun t k => castTop (ef_16_G2 m r0 r1) k
  obtain ⟨A0, hA0⟩ : ∃ z, z = s₁.setTop (entryFrame m #[(.ref r0), (.ref r1)] 3) := ⟨_, rfl⟩
  rw [← hA0] at k0
  have kz : ∀ t, Steps p.tables e below A0 t → Steps p.tables e below (s₁.setTop (entryFrame m #[(.ref r0), (.ref r1)] 3)) t := fun t q => hA0 ▸ q
  rcases hs with ⟨hk, hz, hv, -⟩ | ⟨hk, -⟩
  · skip
    rw [hk] at Cd0
    have V0 : Arv Z h0 t0 kt0 .byte 2 [(.int (y0.toInt8.toInt32)), (.int (y1.toInt8.toInt32))] (.int 0) := by rw [hz, hv] at V0; exact V0
    have ks1 : own_R p e below (A0) (s₁.setTop (mkF m 2 #[vR r0, vR r1, .unset] [(.ref r1), (.ref r0)])) := fun t k => k0 t (by
      refine XS.aloadN X0.here hx rfl (hb hby d16_0) rfl rfl ?_
      refine XS.aloadN X0.here hx rfl (hb hby d16_1) rfl rfl ?_
      exact k)
    by_cases e01 : r0 = r1
    · skip
      have ks2 : own_R p e below (A0) (s₁.setTop (mkF m 6 #[vR r0, vR r1, .unset] [(.int 1)])) := fun t k => ks1 t (by
        refine Jvm.RoadKit.acmp (g := (mkF m 2 #[vR r0, vR r1, .unset] [(.ref r1), (.ref r0)])) X0 hx rfl rfl rfl (pc0 := 2) (pc' := 5) (same := true) rfl (hb hby d16_2) rfl (decide_eq_true (congrArg Value.ref e01)) (by decide) (by decide) ?_
        refine XS.iconst X0.here hx rfl (hb hby d16_5) ?_
        exact k)
      obtain ⟨fs, hr, hrun, hended, hW, hsame⟩ := X0.leave (v := some (.int 1)) (fun h => by rw [Bd.returns] at h; cases h) hlk
      refine ⟨_, _, kz _ (ks2 _ ?_), hrun, hended, _, _, rfl, ?_, ⟨_, rfl⟩, hW, hsame.mono (by decide) (by decide)⟩
      · exact retN X0 hx (t := .boolean) Bd.returns (by simp) (hb hby d16_6) hr
      · show Q16_G2 Z r0 r1 y9 t0 t1 kt0 kt1 kd0 z0 vs0 y0 y1 h0 n0 _ s₁.heap _
        rw [e0]
        have et : t0 = t1 := Classical.byContradiction fun q => Fld.ne F0 F1 (fun z => q (Value.ref.inj z)) e01
        have qe0 : (y0.toInt8.toInt32) = (46 : Int32) := Classical.byContradiction fun q => arv_ne V0 V1 (Or.inr ⟨0, by decide, fun z => q (Value.int.inj z)⟩) et
        have qe1 : (y1.toInt8.toInt32) = (46 : Int32) := Classical.byContradiction fun q => arv_ne V0 V1 (Or.inr ⟨1, by decide, fun z => q (Value.int.inj z)⟩) et
        refine ⟨?_, N0, rfl⟩
        rw [own_eq_G2, if_pos hk, own_eqA_G2, if_pos qe0, if_pos qe1, if_neg (by decide)]
    · skip
      have ks3 : own_R p e below (A0) (s₁.setTop (mkF m 8 #[vR r0, vR r1, .unset] [(.ref r1)])) := fun t k => ks1 t (by
        refine Jvm.RoadKit.acmp (g := (mkF m 2 #[vR r0, vR r1, .unset] [(.ref r1), (.ref r0)])) X0 hx rfl rfl rfl (pc0 := 2) (pc' := 7) (same := false) rfl (hb hby d16_2) rfl (decide_eq_false fun q => e01 (Value.ref.inj q)) (by decide) (by decide) ?_
        refine XS.aloadN X0.here hx rfl (hb hby d16_7) rfl rfl ?_
        exact k)
      obtain ⟨T4, X4, e4, st4⟩ := instY X0 hx hZ hown (own_w hw 76 rfl) e0 (Ins.self E1) (g := (mkF m 8 #[vR r0, vR r1, .unset] [(.ref r1)])) rfl rfl (hb hby d16_8)
      have ks5 := own_c ks3 st4
      have ks6 : own_R p e below (A0) (T4.setTop (mkF m 15 #[vR r0, vR r1, .unset] [(.ref r1)])) := fun t k => ks5 t (by
        refine XS.ifNo X4.here hx rfl (hb hby d16_11) rfl ((if0 _ _).trans (feq (by decide)).1) ?_
        refine XS.aloadN X4.here hx rfl (hb hby d16_14) rfl rfl ?_
        exact k)
      obtain ⟨T7, X7, e7, st7⟩ := castY X4 hx hZ hown (own_w hw 76 rfl) e4 (Ins.self E1) (g := (mkF m 15 #[vR r0, vR r1, .unset] [(.ref r1)])) rfl rfl (hb hby d16_15)
      have ks8 := own_c ks6 st7
      have ks9 : own_R p e below (A0) (T7.setTop (mkF m 19 #[vR r0, vR r1, vR r1] [])) := fun t k => ks8 t (by
        refine XS.astoreN X7.here hx rfl (hb hby d16_18) rfl rfl (l' := #[vR r0, vR r1, vR r1]) rfl ?_
        exact k)
      obtain ⟨T10, X10, e10, st10⟩ := getS2 X7 hx hZ hown (host := "") (Or.inl (own_w hw 37 rfl)) Via.refl e7 S9 (g := (mkF m 19 #[vR r0, vR r1, vR r1] [])) rfl (hb hby d16_19)
      have ks11 := own_c ks9 st10
      have ks12 : own_R p e below (A0) (T10.setTop (mkF m 26 #[vR r0, vR r1, vR r1] [(.ref r0)])) := fun t k => ks11 t (by
        refine XS.ifNo X10.here hx rfl (hb hby d16_22) rfl ((if0 _ _).trans (feq P9).1) ?_
        refine XS.aloadN X10.here hx rfl (hb hby d16_25) rfl rfl ?_
        exact k)
      obtain ⟨T13, X13, e13, st13⟩ := getF X10 hx hZ hown (host := "") (Or.inl (own_w hw 26 rfl)) Via.refl e10 Cd0 (g := (mkF m 26 #[vR r0, vR r1, vR r1] [(.ref r0)])) rfl rfl (hb hby d16_26)
      have ks14 := own_c ks12 st13
      have ks15 : own_R p e below (A0) (T13.setTop (mkF m 30 #[vR r0, vR r1, vR r1] [(.ref r1), (.int 0)])) := fun t k => ks14 t (by
        refine XS.aloadN X13.here hx rfl (hb hby d16_29) rfl rfl ?_
        exact k)
      obtain ⟨T16, X16, e16, st16⟩ := getF X13 hx hZ hown (host := "") (Or.inl (own_w hw 26 rfl)) Via.refl e13 Cd1 (g := (mkF m 30 #[vR r0, vR r1, vR r1] [(.ref r1), (.int 0)])) rfl rfl (hb hby d16_30)
      have ks17 := own_c ks15 st16
      have ks18 : own_R p e below (A0) (T16.setTop (mkF m 37 #[vR r0, vR r1, vR r1] [(.ref r0)])) := fun t k => ks17 t (by
        refine XS.icmpNo X16.here hx rfl (hb hby d16_33) rfl (teq (by decide)).2 ?_
        refine XS.aloadN X16.here hx rfl (hb hby d16_36) rfl rfl ?_
        exact k)
      obtain ⟨T19, X19, e19, st19⟩ := getF X16 hx hZ hown (host := "") (Or.inl (own_w hw 25 rfl)) Via.refl e16 F0 (g := (mkF m 37 #[vR r0, vR r1, vR r1] [(.ref r0)])) rfl rfl (hb hby d16_37)
      have ks20 := own_c ks18 st19
      have ks21 : own_R p e below (A0) (T19.setTop (mkF m 41 #[vR r0, vR r1, vR r1] [(.ref r1), (.ref t0)])) := fun t k => ks20 t (by
        refine XS.aloadN X19.here hx rfl (hb hby d16_40) rfl rfl ?_
        exact k)
      obtain ⟨T22, X22, e22, st22⟩ := getF X19 hx hZ hown (host := "") (Or.inl (own_w hw 25 rfl)) Via.refl e19 F1 (g := (mkF m 41 #[vR r0, vR r1, vR r1] [(.ref r1), (.ref t0)])) rfl rfl (hb hby d16_41)
      have ks23 := own_c ks21 st22
      obtain ⟨_, _, ⟨T24, L24, k24, n24⟩, -, X24, ⟨Lc24, hQ24, lq24, yq24, zq24⟩, st24⟩ := Jvm.LawKit.callS X22 hx (y := (⟨"java/lang/StringLatin1", "equals", "([B[B)Z"⟩ : MethodName)) hown (mvT hZ (own_w hw 128 rfl)) (mvT hZ (own_w hw 129 rfl)) (mvT hZ (own_w hw 120 rfl)) (mvT hZ (own_w hw 130 rfl)) (by decide) (backOf (W := 0) (rm30_G2 l Z a0 hw [] t0 t1 _ _ y0 y1 h0 n0 Z0 V0 V1) hZ (own_w hw 130 rfl) (own_w hw 120 rfl) (by decide) (by decide)) (g := (mkF m 44 #[vR r0, vR r1, vR r1] [(.ref t1), (.ref t0)])) rfl (by rw [hml]; rfl) (argsL := [(.ref t0), (.ref t1)]) (rest := []) (lenOf pd_24 rfl) rfl (by show 2 * 0 + _ ≤ _; exact Nat.le_of_eq rfl) (hb hby d16_44) (fun _ _ => ⟨rfl, e22, (by decide : 0 + 0 ≤ _), (by decide : 0 + 0 ≤ _)⟩)
      dsimp only [Pt.U, Pt.locs, Pt.cells, Pt.slots] at X24 lq24 yq24 zq24 st24 hQ24
      subst lq24 yq24 zq24
      obtain ⟨rfl, Nq24, eq24⟩ := hQ24
      have N24 := Fr.app N0 Nq24
      have ks25 := own_c ks23 st24
      by_cases hc26 : (own_eqA_G2 y0 y1) = (0 : Int32)
      · skip
        have ks27 : own_R p e below (A0) (T24.setTop (mkF m 55 #[vR r0, vR r1, vR r1] [(.int 0)])) := fun t k => ks25 t (by
          refine XS.ifYes X24.here hx rfl (pc0 := 47) (pc' := 54) rfl (hb hby d16_47) rfl ((if0 _ _).trans (teq hc26).1) (by decide) (by decide) ?_
          refine XS.iconst X24.here hx rfl (hb hby d16_54) ?_
          exact k)
        obtain ⟨fs, hr, hrun, hended, hW, hsame⟩ := X24.leave (v := some (.int 0)) (fun h => by rw [Bd.returns] at h; cases h) hlk
        refine ⟨_, _, kz _ (ks27 _ ?_), hrun, hended, _, _, rfl, ?_, ⟨_, rfl⟩, hW, hsame.mono (by decide) (by decide)⟩
        · exact retN X24 hx (t := .boolean) Bd.returns (by simp) (hb hby d16_55) hr
        · show Q16_G2 Z r0 r1 y9 t0 t1 kt0 kt1 kd0 z0 vs0 y0 y1 h0 n0 _ T24.heap _
          rw [eq24]
          refine ⟨?_, N24, rfl⟩
          rw [own_eq_G2, if_pos hk, if_pos hc26]
      · skip
        have ks28 : own_R p e below (A0) (T24.setTop (mkF m 55 #[vR r0, vR r1, vR r1] [(.int 1)])) := fun t k => ks25 t (by
          refine XS.ifNo X24.here hx rfl (hb hby d16_47) rfl ((if0 _ _).trans (feq hc26).1) ?_
          refine XS.iconst X24.here hx rfl (hb hby d16_50) ?_
          refine XS.goto X24.here hx rfl (pc0 := 51) (pc' := 55) rfl (hb hby d16_51) (by decide) (by decide) ?_
          exact k)
        obtain ⟨fs, hr, hrun, hended, hW, hsame⟩ := X24.leave (v := some (.int 1)) (fun h => by rw [Bd.returns] at h; cases h) hlk
        refine ⟨_, _, kz _ (ks28 _ ?_), hrun, hended, _, _, rfl, ?_, ⟨_, rfl⟩, hW, hsame.mono (by decide) (by decide)⟩
        · exact retN X24 hx (t := .boolean) Bd.returns (by simp) (hb hby d16_55) hr
        · show Q16_G2 Z r0 r1 y9 t0 t1 kt0 kt1 kd0 z0 vs0 y0 y1 h0 n0 _ T24.heap _
          rw [eq24]
          refine ⟨?_, N24, rfl⟩
          rw [own_eq_G2, if_pos hk, if_neg hc26]
  · skip
    rw [hk] at Cd0
    have hk1 : ¬ kd0 = (0 : Int32) := by rw [hk]; decide
    have n01 : r0 ≠ r1 := Fld.ne Cd0 Cd1 (fun q => absurd (Value.int.inj q) (by decide))
    have ks29 : own_R p e below (A0) (s₁.setTop (mkF m 8 #[vR r0, vR r1, .unset] [(.ref r1)])) := fun t k => k0 t (by
      refine XS.aloadN X0.here hx rfl (hb hby d16_0) rfl rfl ?_
      refine XS.aloadN X0.here hx rfl (hb hby d16_1) rfl rfl ?_
      refine Jvm.RoadKit.acmp (g := (mkF m 2 #[vR r0, vR r1, .unset] [(.ref r1), (.ref r0)])) X0 hx rfl rfl rfl (pc0 := 2) (pc' := 7) (same := false) rfl (hb hby d16_2) rfl (decide_eq_false fun q => n01 (Value.ref.inj q)) (by decide) (by decide) ?_
      show Steps p.tables e below (s₁.setTop (mkF m 7 #[vR r0, vR r1, .unset] [])) _
      refine XS.aloadN X0.here hx rfl (hb hby d16_7) rfl rfl ?_
      exact k)
    obtain ⟨T30, X30, e30, st30⟩ := instY X0 hx hZ hown (own_w hw 76 rfl) e0 (Ins.self E1) (g := (mkF m 8 #[vR r0, vR r1, .unset] [(.ref r1)])) rfl rfl (hb hby d16_8)
    have ks31 := own_c ks29 st30
    have ks32 : own_R p e below (A0) (T30.setTop (mkF m 15 #[vR r0, vR r1, .unset] [(.ref r1)])) := fun t k => ks31 t (by
      refine XS.ifNo X30.here hx rfl (hb hby d16_11) rfl ((if0 _ _).trans (feq (by decide)).1) ?_
      refine XS.aloadN X30.here hx rfl (hb hby d16_14) rfl rfl ?_
      exact k)
    obtain ⟨T33, X33, e33, st33⟩ := castY X30 hx hZ hown (own_w hw 76 rfl) e30 (Ins.self E1) (g := (mkF m 15 #[vR r0, vR r1, .unset] [(.ref r1)])) rfl rfl (hb hby d16_15)
    have ks34 := own_c ks32 st33
    have ks35 : own_R p e below (A0) (T33.setTop (mkF m 19 #[vR r0, vR r1, vR r1] [])) := fun t k => ks34 t (by
      refine XS.astoreN X33.here hx rfl (hb hby d16_18) rfl rfl (l' := #[vR r0, vR r1, vR r1]) rfl ?_
      exact k)
    obtain ⟨T36, X36, e36, st36⟩ := getS2 X33 hx hZ hown (host := "") (Or.inl (own_w hw 37 rfl)) Via.refl e33 S9 (g := (mkF m 19 #[vR r0, vR r1, vR r1] [])) rfl (hb hby d16_19)
    have ks37 := own_c ks35 st36
    have ks38 : own_R p e below (A0) (T36.setTop (mkF m 26 #[vR r0, vR r1, vR r1] [(.ref r0)])) := fun t k => ks37 t (by
      refine XS.ifNo X36.here hx rfl (hb hby d16_22) rfl ((if0 _ _).trans (feq P9).1) ?_
      refine XS.aloadN X36.here hx rfl (hb hby d16_25) rfl rfl ?_
      exact k)
    obtain ⟨T39, X39, e39, st39⟩ := getF X36 hx hZ hown (host := "") (Or.inl (own_w hw 26 rfl)) Via.refl e36 Cd0 (g := (mkF m 26 #[vR r0, vR r1, vR r1] [(.ref r0)])) rfl rfl (hb hby d16_26)
    have ks40 := own_c ks38 st39
    have ks41 : own_R p e below (A0) (T39.setTop (mkF m 30 #[vR r0, vR r1, vR r1] [(.ref r1), (.int 1)])) := fun t k => ks40 t (by
      refine XS.aloadN X39.here hx rfl (hb hby d16_29) rfl rfl ?_
      exact k)
    obtain ⟨T42, X42, e42, st42⟩ := getF X39 hx hZ hown (host := "") (Or.inl (own_w hw 26 rfl)) Via.refl e39 Cd1 (g := (mkF m 30 #[vR r0, vR r1, vR r1] [(.ref r1), (.int 1)])) rfl rfl (hb hby d16_30)
    have ks43 := own_c ks41 st42
    have ks44 : own_R p e below (A0) (T42.setTop (mkF m 55 #[vR r0, vR r1, vR r1] [(.int 0)])) := fun t k => ks43 t (by
      refine XS.icmpYes X42.here hx rfl (pc0 := 33) (pc' := 54) rfl (hb hby d16_33) rfl (feq (by decide)).2 (by decide) (by decide) ?_
      refine XS.iconst X42.here hx rfl (hb hby d16_54) ?_
      exact k)
    obtain ⟨fs, hr, hrun, hended, hW, hsame⟩ := X42.leave (v := some (.int 0)) (fun h => by rw [Bd.returns] at h; cases h) hlk
    refine ⟨_, _, kz _ (ks44 _ ?_), hrun, hended, _, _, rfl, ?_, ⟨_, rfl⟩, hW, hsame.mono (by decide) (by decide)⟩
    · exact retN X42 hx (t := .boolean) Bd.returns (by simp) (hb hby d16_55) hr
    · show Q16_G2 Z r0 r1 y9 t0 t1 kt0 kt1 kd0 z0 vs0 y0 y1 h0 n0 _ T42.heap _
      rw [e42]
      refine ⟨?_, N0, rfl⟩
      rw [own_eq_G2, if_neg hk1]
def own_ce (p0 : Int32) : Int32 := (if p0 < (0 : Int32) then (0 : Int32) else (if (255 : Int32) < p0 then (0 : Int32) else (1 : Int32)))
theorem d35_0 : decode jdk_43_method_4_code 0 = .ok (.iload_n 0, 1) := by decide +kernel
theorem d35_1 : decode jdk_43_method_4_code 1 = .ok (.ifCond .lt 14, 3) := by decide +kernel
theorem d35_4 : decode jdk_43_method_4_code 4 = .ok (.iload_n 0, 1) := by decide +kernel
theorem d35_5 : decode jdk_43_method_4_code 5 = .ok (.sipush 255, 3) := by decide +kernel
theorem d35_8 : decode jdk_43_method_4_code 8 = .ok (.if_icmp .gt 7, 3) := by decide +kernel
theorem d35_11 : decode jdk_43_method_4_code 11 = .ok (.iconst 1, 1) := by decide +kernel
theorem d35_12 : decode jdk_43_method_4_code 12 = .ok (.goto 4, 3) := by decide +kernel
theorem d35_15 : decode jdk_43_method_4_code 15 = .ok (.iconst 0, 1) := by decide +kernel
theorem d35_16 : decode jdk_43_method_4_code 16 = .ok (.ireturn, 1) := by decide +kernel
theorem pn_35 : plainName "java/lang/StringLatin1" = true := by first | (simp [plainName, overriddenIn]; done) | decide +kernel
theorem ef_35 (m : MethodId) (x0 : Int32) : entryFrame m #[(.int x0)] 1 = mkF m 0 #[.val (.int x0)] [] := by first | (simp [entryFrame, mkF, argsToLocals, Value.category]; done) | rfl
def Q35 (Z : State) (p0 : Int32) (h0 : Heap) (n0 : Nat) (v : Option Value) (h : Heap) (L : List Loc) : Prop := v = some (.int (own_ce p0)) ∧ Fr n0 L ∧ h = h0
set_option maxRecDepth 65536 in
set_option maxHeartbeats 40000000 in
theorem rm35 (l : Launch) (Z : State) (a0 : Array Value) (hw : ∀ d ∈ tables_1, d.before a0 Z = true) (ws : List Jvm.Cond) (p0 : Int32) (h0 : Heap) (n0 : Nat) (Z0 : n0 ≤ h0.size) :
    MetFree l (⟨"java/lang/StringLatin1", "canEncode", "(I)Z"⟩ : MethodName) (head1 (Jvm.Cond.code (⟨"java/lang/StringLatin1", "canEncode", "(I)Z"⟩ : MethodName) jdk_43_method_4_code 1 (some .boolean) :: ws) ({ frames := 0, cells := 0, slots := 0, locals := 0 } : Room)) (fun a U => a = #[(.int p0)] ∧ Z.Warmed39 U.vm ∧ U.heap = h0) (fun _ _ _ _ _ => True) (fun _ U o U' => ∃ v L, o = .returned v ∧ Q35 Z p0 h0 n0 v U'.heap L ∧ FrameEnd U o U' L ({ frames := 0, cells := 0, slots := 0, locals := 0 } : Room).cells ({ frames := 0, cells := 0, slots := 0, locals := 0 } : Room).slots) := by
  refine MetFree.of_bodySF (plainFor_of_name pn_35) hisR ?_
  intro p e s m args below meth c s₁ Bd hml0 hP hK
  obtain ⟨rfl, hZ, hh⟩ := hP
  have hx := Bd.exec
  have hby := Bd.bytes
  have hml : c.maxLocals = 1 := hml0
  have hown : s.vm.findClass "java/lang/StringLatin1" = some m.cls := findClass_of_methodNamed Bd.named
  have hnm := (name_of_methodNamed Bd.named Bd.method).1
  have hlk : meth.locks = false := by first | exact BodyLoose.notSynchronized Bd | exact Body.notSynchronized Bd
  have X0 : Stand p l e ({ frames := 0, cells := 0, slots := 0, locals := 0 } : Room) s m #[(.int p0)] below meth c s₁ [] 0 0 := Stand.of_body Bd
  have e0 : s₁.heap = h0 := by rw [← hh, Bd.state]; rfl
  have N0 := Fr.nil n0
  have k0 : own_R p e below (s₁.setTop (entryFrame m #[(.int p0)] 1)) (s₁.setTop (mkF m 0 #[vI p0] [])) := fun t k => castTop (ef_35 m p0) k
  obtain ⟨A0, hA0⟩ : ∃ z, z = s₁.setTop (entryFrame m #[(.int p0)] 1) := ⟨_, rfl⟩
  rw [← hA0] at k0
  have kz : ∀ t, Steps p.tables e below A0 t → Steps p.tables e below (s₁.setTop (entryFrame m #[(.int p0)] 1)) t := fun t q => hA0 ▸ q
  have ks1 : own_R p e below (A0) (s₁.setTop (mkF m 1 #[vI p0] [(.int p0)])) := fun t k => k0 t (by
    refine XS.iloadN X0.here hx rfl (hb hby d35_0) rfl ?_
    exact k)
  by_cases hc2 : p0 < (0 : Int32)
  · skip
    have ks3 : own_R p e below (A0) (s₁.setTop (mkF m 16 #[vI p0] [(.int 0)])) := fun t k => ks1 t (by
      refine XS.ifYes X0.here hx rfl (pc0 := 1) (pc' := 15) rfl (hb hby d35_1) rfl ((if0 _ _).trans (tlt hc2).1) (by decide) (by decide) ?_
      refine XS.iconst X0.here hx rfl (hb hby d35_15) ?_
      exact k)
    obtain ⟨fs, hr, hrun, hended, hW, hsame⟩ := X0.leave (v := some (.int 0)) (fun h => by rw [Bd.returns] at h; cases h) hlk
    refine ⟨_, _, kz _ (ks3 _ ?_), hrun, hended, _, _, rfl, ?_, ⟨_, rfl⟩, hW, hsame.mono (by decide) (by decide)⟩
    · exact retN X0 hx (t := .boolean) Bd.returns (by simp) (hb hby d35_16) hr
    · show Q35 Z p0 h0 n0 _ s₁.heap _
      rw [e0]
      refine ⟨?_, N0, rfl⟩
      rw [own_ce, if_pos hc2]
  · skip
    have ks4 : own_R p e below (A0) (s₁.setTop (mkF m 8 #[vI p0] [(.int 255), (.int p0)])) := fun t k => ks1 t (by
      refine XS.ifNo X0.here hx rfl (hb hby d35_1) rfl ((if0 _ _).trans (flt hc2).1) ?_
      refine XS.iloadN X0.here hx rfl (hb hby d35_4) rfl ?_
      refine XS.sipush X0.here hx rfl (hb hby d35_5) ?_
      exact k)
    by_cases hc5 : (255 : Int32) < p0
    · skip
      have ks6 : own_R p e below (A0) (s₁.setTop (mkF m 16 #[vI p0] [(.int 0)])) := fun t k => ks4 t (by
        refine XS.icmpYes X0.here hx rfl (pc0 := 8) (pc' := 15) rfl (hb hby d35_8) rfl (tlt hc5).2.2.1 (by decide) (by decide) ?_
        refine XS.iconst X0.here hx rfl (hb hby d35_15) ?_
        exact k)
      obtain ⟨fs, hr, hrun, hended, hW, hsame⟩ := X0.leave (v := some (.int 0)) (fun h => by rw [Bd.returns] at h; cases h) hlk
      refine ⟨_, _, kz _ (ks6 _ ?_), hrun, hended, _, _, rfl, ?_, ⟨_, rfl⟩, hW, hsame.mono (by decide) (by decide)⟩
      · exact retN X0 hx (t := .boolean) Bd.returns (by simp) (hb hby d35_16) hr
      · show Q35 Z p0 h0 n0 _ s₁.heap _
        rw [e0]
        refine ⟨?_, N0, rfl⟩
        rw [own_ce, if_neg hc2, if_pos hc5]
    · skip
      have ks7 : own_R p e below (A0) (s₁.setTop (mkF m 16 #[vI p0] [(.int 1)])) := fun t k => ks4 t (by
        refine XS.icmpNo X0.here hx rfl (hb hby d35_8) rfl (flt hc5).2.2.1 ?_
        refine XS.iconst X0.here hx rfl (hb hby d35_11) ?_
        refine XS.goto X0.here hx rfl (pc0 := 12) (pc' := 16) rfl (hb hby d35_12) (by decide) (by decide) ?_
        exact k)
      obtain ⟨fs, hr, hrun, hended, hW, hsame⟩ := X0.leave (v := some (.int 1)) (fun h => by rw [Bd.returns] at h; cases h) hlk
      refine ⟨_, _, kz _ (ks7 _ ?_), hrun, hended, _, _, rfl, ?_, ⟨_, rfl⟩, hW, hsame.mono (by decide) (by decide)⟩
      · exact retN X0 hx (t := .boolean) Bd.returns (by simp) (hb hby d35_16) hr
      · show Q35 Z p0 h0 n0 _ s₁.heap _
        rw [e0]
        refine ⟨?_, N0, rfl⟩
        rw [own_ce, if_neg hc2, if_neg hc5]
theorem d36_0 : decode jdk_29_method_65_code 0 = .ok (.iload_n 0, 1) := by decide +kernel
theorem d36_1 : decode jdk_29_method_65_code 1 = .ok (.iload_n 1, 1) := by decide +kernel
theorem d36_2 : decode jdk_29_method_65_code 2 = .ok (.if_icmp .lt 7, 3) := by decide +kernel
theorem d36_5 : decode jdk_29_method_65_code 5 = .ok (.iload_n 0, 1) := by decide +kernel
theorem d36_6 : decode jdk_29_method_65_code 6 = .ok (.goto 4, 3) := by decide +kernel
theorem d36_10 : decode jdk_29_method_65_code 10 = .ok (.ireturn, 1) := by decide +kernel
theorem ef_36 (m : MethodId) (x0 : Int32) (x1 : Int32) : entryFrame m #[(.int x0), (.int x1)] 2 = mkF m 0 #[.val (.int x0), .val (.int x1)] [] := by first | (simp [entryFrame, mkF, argsToLocals, Value.category]; done) | rfl
def Q36 (Z : State)  (h0 : Heap) (n0 : Nat) (v : Option Value) (h : Heap) (L : List Loc) : Prop := v = some (.int (0 : Int32)) ∧ Fr n0 L ∧ h = h0
set_option maxRecDepth 65536 in
set_option maxHeartbeats 40000000 in
theorem rm36 (l : Launch) (Z : State) (a0 : Array Value) (hw : ∀ d ∈ tables_1, d.before a0 Z = true) (ws : List Jvm.Cond)  (h0 : Heap) (n0 : Nat) (Z0 : n0 ≤ h0.size) :
    MetFree l (⟨"java/lang/Math", "max", "(II)I"⟩ : MethodName) (head1 (Jvm.Cond.code (⟨"java/lang/Math", "max", "(II)I"⟩ : MethodName) jdk_29_method_65_code 2 (some .int) :: ws) ({ frames := 0, cells := 0, slots := 0, locals := 0 } : Room)) (fun a U => a = #[(.int 0), (.int 0)] ∧ Z.Warmed39 U.vm ∧ U.heap = h0) (fun _ _ _ _ _ => True) (fun _ U o U' => ∃ v L, o = .returned v ∧ Q36 Z  h0 n0 v U'.heap L ∧ FrameEnd U o U' L ({ frames := 0, cells := 0, slots := 0, locals := 0 } : Room).cells ({ frames := 0, cells := 0, slots := 0, locals := 0 } : Room).slots) := by
  refine MetFree.of_bodySF (Jvm.Free.JP.mathPlain rfl (by decide +kernel)) hisR ?_
  intro p e s m args below meth c s₁ Bd hml0 hP hK
  obtain ⟨rfl, hZ, hh⟩ := hP
  have hx := Bd.exec
  have hby := Bd.bytes
  have hml : c.maxLocals = 2 := hml0
  have hown : s.vm.findClass "java/lang/Math" = some m.cls := findClass_of_methodNamed Bd.named
  have hnm := (name_of_methodNamed Bd.named Bd.method).1
  have hlk : meth.locks = false := by first | exact BodyLoose.notSynchronized Bd | exact Body.notSynchronized Bd
  have X0 : Stand p l e ({ frames := 0, cells := 0, slots := 0, locals := 0 } : Room) s m #[(.int 0), (.int 0)] below meth c s₁ [] 0 0 := Stand.of_body Bd
  have e0 : s₁.heap = h0 := by rw [← hh, Bd.state]; rfl
  have N0 := Fr.nil n0
  have k0 : own_R p e below (s₁.setTop (entryFrame m #[(.int 0), (.int 0)] 2)) (s₁.setTop (mkF m 0 #[vI 0, vI 0] [])) := fun t k => castTop (ef_36 m (0 : Int32) (0 : Int32)) k
  obtain ⟨A0, hA0⟩ : ∃ z, z = s₁.setTop (entryFrame m #[(.int 0), (.int 0)] 2) := ⟨_, rfl⟩
  rw [← hA0] at k0
  have kz : ∀ t, Steps p.tables e below A0 t → Steps p.tables e below (s₁.setTop (entryFrame m #[(.int 0), (.int 0)] 2)) t := fun t q => hA0 ▸ q
  have ks1 : own_R p e below (A0) (s₁.setTop (mkF m 10 #[vI 0, vI 0] [(.int 0)])) := fun t k => k0 t (by
    refine XS.iloadN X0.here hx rfl (hb hby d36_0) rfl ?_
    refine XS.iloadN X0.here hx rfl (hb hby d36_1) rfl ?_
    refine XS.icmpNo X0.here hx rfl (hb hby d36_2) rfl (flt (by decide)).1 ?_
    show Steps p.tables e below (s₁.setTop (mkF m 5 #[vI 0, vI 0] [])) _
    refine XS.iloadN X0.here hx rfl (hb hby d36_5) rfl ?_
    refine XS.goto X0.here hx rfl (pc0 := 6) (pc' := 10) rfl (hb hby d36_6) (by decide) (by decide) ?_
    exact k)
  obtain ⟨fs, hr, hrun, hended, hW, hsame⟩ := X0.leave (v := some (.int 0)) (fun h => by rw [Bd.returns] at h; cases h) hlk
  refine ⟨_, _, kz _ (ks1 _ ?_), hrun, hended, _, _, rfl, ?_, ⟨_, rfl⟩, hW, hsame.mono (by decide) (by decide)⟩
  · exact retI X0 hx Bd.returns (hb hby d36_10) hr
  · show Q36 Z  h0 n0 _ s₁.heap _
    rw [e0]
    exact ⟨rfl, N0, rfl⟩
theorem d37_0 : decode jdk_29_method_69_code 0 = .ok (.iload_n 0, 1) := by decide +kernel
theorem d37_1 : decode jdk_29_method_69_code 1 = .ok (.iload_n 1, 1) := by decide +kernel
theorem d37_2 : decode jdk_29_method_69_code 2 = .ok (.if_icmp .gt 7, 3) := by decide +kernel
theorem d37_5 : decode jdk_29_method_69_code 5 = .ok (.iload_n 0, 1) := by decide +kernel
theorem d37_6 : decode jdk_29_method_69_code 6 = .ok (.goto 4, 3) := by decide +kernel
theorem d37_10 : decode jdk_29_method_69_code 10 = .ok (.ireturn, 1) := by decide +kernel
theorem ef_37 (m : MethodId) (x0 : Int32) (x1 : Int32) : entryFrame m #[(.int x0), (.int x1)] 2 = mkF m 0 #[.val (.int x0), .val (.int x1)] [] := by first | (simp [entryFrame, mkF, argsToLocals, Value.category]; done) | rfl
def Q37 (Z : State)  (h0 : Heap) (n0 : Nat) (v : Option Value) (h : Heap) (L : List Loc) : Prop := v = some (.int (11 : Int32)) ∧ Fr n0 L ∧ h = h0
set_option maxRecDepth 65536 in
set_option maxHeartbeats 40000000 in
theorem rm37 (l : Launch) (Z : State) (a0 : Array Value) (hw : ∀ d ∈ tables_1, d.before a0 Z = true) (ws : List Jvm.Cond)  (h0 : Heap) (n0 : Nat) (Z0 : n0 ≤ h0.size) :
    MetFree l (⟨"java/lang/Math", "min", "(II)I"⟩ : MethodName) (head1 (Jvm.Cond.code (⟨"java/lang/Math", "min", "(II)I"⟩ : MethodName) jdk_29_method_69_code 2 (some .int) :: ws) ({ frames := 0, cells := 0, slots := 0, locals := 0 } : Room)) (fun a U => a = #[(.int 11), (.int 11)] ∧ Z.Warmed39 U.vm ∧ U.heap = h0) (fun _ _ _ _ _ => True) (fun _ U o U' => ∃ v L, o = .returned v ∧ Q37 Z  h0 n0 v U'.heap L ∧ FrameEnd U o U' L ({ frames := 0, cells := 0, slots := 0, locals := 0 } : Room).cells ({ frames := 0, cells := 0, slots := 0, locals := 0 } : Room).slots) := by
  refine MetFree.of_bodySF (Jvm.Free.JP.mathPlain rfl (by decide +kernel)) hisR ?_
  intro p e s m args below meth c s₁ Bd hml0 hP hK
  obtain ⟨rfl, hZ, hh⟩ := hP
  have hx := Bd.exec
  have hby := Bd.bytes
  have hml : c.maxLocals = 2 := hml0
  have hown : s.vm.findClass "java/lang/Math" = some m.cls := findClass_of_methodNamed Bd.named
  have hnm := (name_of_methodNamed Bd.named Bd.method).1
  have hlk : meth.locks = false := by first | exact BodyLoose.notSynchronized Bd | exact Body.notSynchronized Bd
  have X0 : Stand p l e ({ frames := 0, cells := 0, slots := 0, locals := 0 } : Room) s m #[(.int 11), (.int 11)] below meth c s₁ [] 0 0 := Stand.of_body Bd
  have e0 : s₁.heap = h0 := by rw [← hh, Bd.state]; rfl
  have N0 := Fr.nil n0
  have k0 : own_R p e below (s₁.setTop (entryFrame m #[(.int 11), (.int 11)] 2)) (s₁.setTop (mkF m 0 #[vI 11, vI 11] [])) := fun t k => castTop (ef_37 m (11 : Int32) (11 : Int32)) k
  obtain ⟨A0, hA0⟩ : ∃ z, z = s₁.setTop (entryFrame m #[(.int 11), (.int 11)] 2) := ⟨_, rfl⟩
  rw [← hA0] at k0
  have kz : ∀ t, Steps p.tables e below A0 t → Steps p.tables e below (s₁.setTop (entryFrame m #[(.int 11), (.int 11)] 2)) t := fun t q => hA0 ▸ q
  have ks1 : own_R p e below (A0) (s₁.setTop (mkF m 10 #[vI 11, vI 11] [(.int 11)])) := fun t k => k0 t (by
    refine XS.iloadN X0.here hx rfl (hb hby d37_0) rfl ?_
    refine XS.iloadN X0.here hx rfl (hb hby d37_1) rfl ?_
    refine XS.icmpNo X0.here hx rfl (hb hby d37_2) rfl (flt (by decide)).2.2.1 ?_
    show Steps p.tables e below (s₁.setTop (mkF m 5 #[vI 11, vI 11] [])) _
    refine XS.iloadN X0.here hx rfl (hb hby d37_5) rfl ?_
    refine XS.goto X0.here hx rfl (pc0 := 6) (pc' := 10) rfl (hb hby d37_6) (by decide) (by decide) ?_
    exact k)
  obtain ⟨fs, hr, hrun, hended, hW, hsame⟩ := X0.leave (v := some (.int 11)) (fun h => by rw [Bd.returns] at h; cases h) hlk
  refine ⟨_, _, kz _ (ks1 _ ?_), hrun, hended, _, _, rfl, ?_, ⟨_, rfl⟩, hW, hsame.mono (by decide) (by decide)⟩
  · exact retI X0 hx Bd.returns (hb hby d37_10) hr
  · show Q37 Z  h0 n0 _ s₁.heap _
    rw [e0]
    exact ⟨rfl, N0, rfl⟩
def own_ixc (p1 : Int32) : Int32 := (if (34 : Int32) = (p1.toInt8.toInt32) then (0 : Int32) else (if (35 : Int32) = (p1.toInt8.toInt32) then (1 : Int32) else (if (42 : Int32) = (p1.toInt8.toInt32) then (2 : Int32) else (if (44 : Int32) = (p1.toInt8.toInt32) then (3 : Int32) else (if (47 : Int32) = (p1.toInt8.toInt32) then (4 : Int32) else (if (58 : Int32) = (p1.toInt8.toInt32) then (5 : Int32) else (if (63 : Int32) = (p1.toInt8.toInt32) then (6 : Int32) else (if (91 : Int32) = (p1.toInt8.toInt32) then (7 : Int32) else (if (93 : Int32) = (p1.toInt8.toInt32) then (8 : Int32) else (if (123 : Int32) = (p1.toInt8.toInt32) then (9 : Int32) else (if (125 : Int32) = (p1.toInt8.toInt32) then (10 : Int32) else (-1 : Int32))))))))))))
theorem d38_0 : decode jdk_43_method_23_code 0 = .ok (.iload_n 1, 1) := by decide +kernel
theorem d38_1 : decode jdk_43_method_23_code 1 = .ok (.i2b, 1) := by decide +kernel
theorem d38_2 : decode jdk_43_method_23_code 2 = .ok (.istore 4, 2) := by decide +kernel
theorem d38_4 : decode jdk_43_method_23_code 4 = .ok (.iload_n 2, 1) := by decide +kernel
theorem d38_5 : decode jdk_43_method_23_code 5 = .ok (.istore 5, 2) := by decide +kernel
theorem d38_7 : decode jdk_43_method_23_code 7 = .ok (.iload 5, 2) := by decide +kernel
theorem d38_9 : decode jdk_43_method_23_code 9 = .ok (.iload_n 3, 1) := by decide +kernel
theorem d38_10 : decode jdk_43_method_23_code 10 = .ok (.if_icmp .ge 21, 3) := by decide +kernel
theorem d38_13 : decode jdk_43_method_23_code 13 = .ok (.aload_n 0, 1) := by decide +kernel
theorem d38_14 : decode jdk_43_method_23_code 14 = .ok (.iload 5, 2) := by decide +kernel
theorem d38_16 : decode jdk_43_method_23_code 16 = .ok (.baload, 1) := by decide +kernel
theorem d38_17 : decode jdk_43_method_23_code 17 = .ok (.iload 4, 2) := by decide +kernel
theorem d38_19 : decode jdk_43_method_23_code 19 = .ok (.if_icmp .ne 6, 3) := by decide +kernel
theorem d38_22 : decode jdk_43_method_23_code 22 = .ok (.iload 5, 2) := by decide +kernel
theorem d38_24 : decode jdk_43_method_23_code 24 = .ok (.ireturn, 1) := by decide +kernel
theorem d38_25 : decode jdk_43_method_23_code 25 = .ok (.iinc 5 1, 3) := by decide +kernel
theorem d38_28 : decode jdk_43_method_23_code 28 = .ok (.goto (-21), 3) := by decide +kernel
theorem d38_31 : decode jdk_43_method_23_code 31 = .ok (.iconst (-1), 1) := by decide +kernel
theorem d38_32 : decode jdk_43_method_23_code 32 = .ok (.ireturn, 1) := by decide +kernel
theorem pn_38 : plainName "java/lang/StringLatin1" = true := by first | (simp [plainName, overriddenIn]; done) | decide +kernel
theorem ef_38 (m : MethodId) (x0 : Addr) (x1 : Int32) (x2 : Int32) (x3 : Int32) : entryFrame m #[(.ref x0), (.int x1), (.int x2), (.int x3)] 6 = mkF m 0 #[.val (.ref x0), .val (.int x1), .val (.int x2), .val (.int x3), .unset, .unset] [] := by first | (simp [entryFrame, mkF, argsToLocals, Value.category]; done) | rfl
def Q38 (Z : State) (r0 : Addr) (p1 : Int32) (kr0 : ClassId) (h0 : Heap) (n0 : Nat) (v : Option Value) (h : Heap) (L : List Loc) : Prop := v = some (.int (own_ixc p1)) ∧ Fr n0 L ∧ h = h0
set_option maxRecDepth 65536 in
set_option maxHeartbeats 40000000 in
theorem rm38 (l : Launch) (Z : State) (a0 : Array Value) (hw : ∀ d ∈ tables_1, d.before a0 Z = true) (ws : List Jvm.Cond) (r0 : Addr) (p1 : Int32) (kr0 : ClassId) (h0 : Heap) (n0 : Nat) (Z0 : n0 ≤ h0.size) (V0 : Arv Z h0 r0 kr0 .byte (11 : Int32) [(.int 34), (.int 35), (.int 42), (.int 44), (.int 47), (.int 58), (.int 63), (.int 91), (.int 93), (.int 123), (.int 125)] (.int 0)) :
    MetFree l (⟨"java/lang/StringLatin1", "indexOfChar", "([BIII)I"⟩ : MethodName) (head1 (Jvm.Cond.code (⟨"java/lang/StringLatin1", "indexOfChar", "([BIII)I"⟩ : MethodName) jdk_43_method_23_code 6 (some .int) :: ws) ({ frames := 0, cells := 0, slots := 0, locals := 0 } : Room)) (fun a U => a = #[(.ref r0), (.int p1), (.int 0), (.int 11)] ∧ Z.Warmed39 U.vm ∧ U.heap = h0) (fun _ _ _ _ _ => True) (fun _ U o U' => ∃ v L, o = .returned v ∧ Q38 Z r0 p1 kr0 h0 n0 v U'.heap L ∧ FrameEnd U o U' L ({ frames := 0, cells := 0, slots := 0, locals := 0 } : Room).cells ({ frames := 0, cells := 0, slots := 0, locals := 0 } : Room).slots) := by
  refine MetFree.of_bodySF (plainFor_of_name pn_38) hisR ?_
  intro p e s m args below meth c s₁ Bd hml0 hP hK
  obtain ⟨rfl, hZ, hh⟩ := hP
  have hx := Bd.exec
  have hby := Bd.bytes
  have hml : c.maxLocals = 6 := hml0
  have hown : s.vm.findClass "java/lang/StringLatin1" = some m.cls := findClass_of_methodNamed Bd.named
  have hnm := (name_of_methodNamed Bd.named Bd.method).1
  have hlk : meth.locks = false := by first | exact BodyLoose.notSynchronized Bd | exact Body.notSynchronized Bd
  have X0 : Stand p l e ({ frames := 0, cells := 0, slots := 0, locals := 0 } : Room) s m #[(.ref r0), (.int p1), (.int 0), (.int 11)] below meth c s₁ [] 0 0 := Stand.of_body Bd
  have e0 : s₁.heap = h0 := by rw [← hh, Bd.state]; rfl
  have N0 := Fr.nil n0
  have k0 : own_R p e below (s₁.setTop (entryFrame m #[(.ref r0), (.int p1), (.int 0), (.int 11)] 6)) (s₁.setTop (mkF m 0 #[vR r0, vI p1, vI 0, vI 11, .unset, .unset] [])) := fun t k => castTop (ef_38 m r0 p1 (0 : Int32) (11 : Int32)) k
  obtain ⟨A0, hA0⟩ : ∃ z, z = s₁.setTop (entryFrame m #[(.ref r0), (.int p1), (.int 0), (.int 11)] 6) := ⟨_, rfl⟩
  rw [← hA0] at k0
  have kz : ∀ t, Steps p.tables e below A0 t → Steps p.tables e below (s₁.setTop (entryFrame m #[(.ref r0), (.int p1), (.int 0), (.int 11)] 6)) t := fun t q => hA0 ▸ q
  have ks1 : own_R p e below (A0) (s₁.setTop (mkF m 16 #[vR r0, vI p1, vI 0, vI 11, vI (p1.toInt8.toInt32), vI 0] [(.int 0), (.ref r0)])) := fun t k => k0 t (by
    refine XS.iloadN X0.here hx rfl (hb hby d38_0) rfl ?_
    refine XS.i2b X0.here hx rfl (hb hby d38_1) rfl ?_
    refine XS.istore X0.here hx rfl (hb hby d38_2) rfl (l' := #[vR r0, vI p1, vI 0, vI 11, vI (p1.toInt8.toInt32), .unset]) rfl ?_
    show Steps p.tables e below (s₁.setTop (mkF m 4 #[vR r0, vI p1, vI 0, vI 11, vI (p1.toInt8.toInt32), .unset] [])) _
    refine XS.iloadN X0.here hx rfl (hb hby d38_4) rfl ?_
    refine XS.istore X0.here hx rfl (hb hby d38_5) rfl (l' := #[vR r0, vI p1, vI 0, vI 11, vI (p1.toInt8.toInt32), vI 0]) rfl ?_
    refine XS.iload X0.here hx rfl (hb hby d38_7) rfl ?_
    refine XS.iloadN X0.here hx rfl (hb hby d38_9) rfl ?_
    show Steps p.tables e below (s₁.setTop (mkF m 10 #[vR r0, vI p1, vI 0, vI 11, vI (p1.toInt8.toInt32), vI 0] [(.int 11), (.int 0)])) _
    refine XS.icmpNo X0.here hx rfl (hb hby d38_10) rfl (tlt (by decide)).2.1 ?_
    refine XS.aloadN X0.here hx rfl (hb hby d38_13) rfl rfl ?_
    refine XS.iload X0.here hx rfl (hb hby d38_14) rfl ?_
    exact k)
  obtain ⟨cl2, Ar2, qa2, S2, Na2, Ha2, Ga2⟩ := id V0
  have ks3 : own_R p e below (A0) (s₁.setTop (mkF m 19 #[vR r0, vI p1, vI 0, vI 11, vI (p1.toInt8.toInt32), vI 0] [(.int (p1.toInt8.toInt32)), (.int 34)])) := fun t k => ks1 t (by
    refine X0.baloadBytes hx (j := (0 : Int32)) (v := (.int 34)) (by rw [e0]; exact Ar2.1) (State.isArrayOf_alike hZ.alike Ar2.2.1) Ar2.2.2 (inb_of S2 ⟨by decide, by decide⟩) (Has.at Ha2 (inb_of S2 ⟨by decide, by decide⟩) rfl) (g := (mkF m 16 #[vR r0, vI p1, vI 0, vI 11, vI (p1.toInt8.toInt32), vI 0] [(.int 0), (.ref r0)])) rfl rfl (hb hby d38_16) _ ?_
    refine XS.iload X0.here hx rfl (hb hby d38_17) rfl ?_
    exact k)
  by_cases hc4 : (34 : Int32) = (p1.toInt8.toInt32)
  · skip
    have ks5 : own_R p e below (A0) (s₁.setTop (mkF m 24 #[vR r0, vI p1, vI 0, vI 11, vI (p1.toInt8.toInt32), vI 0] [(.int 0)])) := fun t k => ks3 t (by
      refine XS.icmpNo X0.here hx rfl (hb hby d38_19) rfl (teq hc4).2 ?_
      refine XS.iload X0.here hx rfl (hb hby d38_22) rfl ?_
      exact k)
    obtain ⟨fs, hr, hrun, hended, hW, hsame⟩ := X0.leave (v := some (.int 0)) (fun h => by rw [Bd.returns] at h; cases h) hlk
    refine ⟨_, _, kz _ (ks5 _ ?_), hrun, hended, _, _, rfl, ?_, ⟨_, rfl⟩, hW, hsame.mono (by decide) (by decide)⟩
    · exact retI X0 hx Bd.returns (hb hby d38_24) hr
    · show Q38 Z r0 p1 kr0 h0 n0 _ s₁.heap _
      rw [e0]
      refine ⟨?_, N0, rfl⟩
      rw [own_ixc, if_pos hc4]
  · skip
    have ks6 : own_R p e below (A0) (s₁.setTop (mkF m 19 #[vR r0, vI p1, vI 0, vI 11, vI (p1.toInt8.toInt32), vI 1] [(.int (p1.toInt8.toInt32)), (.int 35)])) := fun t k => ks3 t (by
      refine XS.icmpYes X0.here hx rfl (pc0 := 19) (pc' := 25) rfl (hb hby d38_19) rfl (feq hc4).2 (by decide) (by decide) ?_
      refine XS.iinc X0.here hx rfl (hb hby d38_25) rfl (l' := #[vR r0, vI p1, vI 0, vI 11, vI (p1.toInt8.toInt32), vI 1]) rfl ?_
      refine XS.goto X0.here hx rfl (pc0 := 28) (pc' := 7) rfl (hb hby d38_28) (by decide) (by decide) ?_
      show Steps p.tables e below (s₁.setTop (mkF m 7 #[vR r0, vI p1, vI 0, vI 11, vI (p1.toInt8.toInt32), vI 1] [])) _
      refine XS.iload X0.here hx rfl (hb hby d38_7) rfl ?_
      refine XS.iloadN X0.here hx rfl (hb hby d38_9) rfl ?_
      refine XS.icmpNo X0.here hx rfl (hb hby d38_10) rfl (tlt (by decide)).2.1 ?_
      refine XS.aloadN X0.here hx rfl (hb hby d38_13) rfl rfl ?_
      show Steps p.tables e below (s₁.setTop (mkF m 14 #[vR r0, vI p1, vI 0, vI 11, vI (p1.toInt8.toInt32), vI 1] [(.ref r0)])) _
      refine XS.iload X0.here hx rfl (hb hby d38_14) rfl ?_
      refine X0.baloadBytes hx (j := (1 : Int32)) (v := (.int 35)) (by rw [e0]; exact Ar2.1) (State.isArrayOf_alike hZ.alike Ar2.2.1) Ar2.2.2 (inb_of S2 ⟨by decide, by decide⟩) (Has.at Ha2 (inb_of S2 ⟨by decide, by decide⟩) rfl) (g := (mkF m 16 #[vR r0, vI p1, vI 0, vI 11, vI (p1.toInt8.toInt32), vI 1] [(.int 1), (.ref r0)])) rfl rfl (hb hby d38_16) _ ?_
      refine XS.iload X0.here hx rfl (hb hby d38_17) rfl ?_
      exact k)
    by_cases hc7 : (35 : Int32) = (p1.toInt8.toInt32)
    · skip
      have ks8 : own_R p e below (A0) (s₁.setTop (mkF m 24 #[vR r0, vI p1, vI 0, vI 11, vI (p1.toInt8.toInt32), vI 1] [(.int 1)])) := fun t k => ks6 t (by
        refine XS.icmpNo X0.here hx rfl (hb hby d38_19) rfl (teq hc7).2 ?_
        refine XS.iload X0.here hx rfl (hb hby d38_22) rfl ?_
        exact k)
      obtain ⟨fs, hr, hrun, hended, hW, hsame⟩ := X0.leave (v := some (.int 1)) (fun h => by rw [Bd.returns] at h; cases h) hlk
      refine ⟨_, _, kz _ (ks8 _ ?_), hrun, hended, _, _, rfl, ?_, ⟨_, rfl⟩, hW, hsame.mono (by decide) (by decide)⟩
      · exact retI X0 hx Bd.returns (hb hby d38_24) hr
      · show Q38 Z r0 p1 kr0 h0 n0 _ s₁.heap _
        rw [e0]
        refine ⟨?_, N0, rfl⟩
        rw [own_ixc, if_neg hc4, if_pos hc7]
    · skip
      have ks9 : own_R p e below (A0) (s₁.setTop (mkF m 19 #[vR r0, vI p1, vI 0, vI 11, vI (p1.toInt8.toInt32), vI 2] [(.int (p1.toInt8.toInt32)), (.int 42)])) := fun t k => ks6 t (by
        refine XS.icmpYes X0.here hx rfl (pc0 := 19) (pc' := 25) rfl (hb hby d38_19) rfl (feq hc7).2 (by decide) (by decide) ?_
        refine XS.iinc X0.here hx rfl (hb hby d38_25) rfl (l' := #[vR r0, vI p1, vI 0, vI 11, vI (p1.toInt8.toInt32), vI 2]) rfl ?_
        refine XS.goto X0.here hx rfl (pc0 := 28) (pc' := 7) rfl (hb hby d38_28) (by decide) (by decide) ?_
        show Steps p.tables e below (s₁.setTop (mkF m 7 #[vR r0, vI p1, vI 0, vI 11, vI (p1.toInt8.toInt32), vI 2] [])) _
        refine XS.iload X0.here hx rfl (hb hby d38_7) rfl ?_
        refine XS.iloadN X0.here hx rfl (hb hby d38_9) rfl ?_
        refine XS.icmpNo X0.here hx rfl (hb hby d38_10) rfl (tlt (by decide)).2.1 ?_
        refine XS.aloadN X0.here hx rfl (hb hby d38_13) rfl rfl ?_
        show Steps p.tables e below (s₁.setTop (mkF m 14 #[vR r0, vI p1, vI 0, vI 11, vI (p1.toInt8.toInt32), vI 2] [(.ref r0)])) _
        refine XS.iload X0.here hx rfl (hb hby d38_14) rfl ?_
        refine X0.baloadBytes hx (j := (2 : Int32)) (v := (.int 42)) (by rw [e0]; exact Ar2.1) (State.isArrayOf_alike hZ.alike Ar2.2.1) Ar2.2.2 (inb_of S2 ⟨by decide, by decide⟩) (Has.at Ha2 (inb_of S2 ⟨by decide, by decide⟩) rfl) (g := (mkF m 16 #[vR r0, vI p1, vI 0, vI 11, vI (p1.toInt8.toInt32), vI 2] [(.int 2), (.ref r0)])) rfl rfl (hb hby d38_16) _ ?_
        refine XS.iload X0.here hx rfl (hb hby d38_17) rfl ?_
        exact k)
      by_cases hc10 : (42 : Int32) = (p1.toInt8.toInt32)
      · skip
        have ks11 : own_R p e below (A0) (s₁.setTop (mkF m 24 #[vR r0, vI p1, vI 0, vI 11, vI (p1.toInt8.toInt32), vI 2] [(.int 2)])) := fun t k => ks9 t (by
          refine XS.icmpNo X0.here hx rfl (hb hby d38_19) rfl (teq hc10).2 ?_
          refine XS.iload X0.here hx rfl (hb hby d38_22) rfl ?_
          exact k)
        obtain ⟨fs, hr, hrun, hended, hW, hsame⟩ := X0.leave (v := some (.int 2)) (fun h => by rw [Bd.returns] at h; cases h) hlk
        refine ⟨_, _, kz _ (ks11 _ ?_), hrun, hended, _, _, rfl, ?_, ⟨_, rfl⟩, hW, hsame.mono (by decide) (by decide)⟩
        · exact retI X0 hx Bd.returns (hb hby d38_24) hr
        · show Q38 Z r0 p1 kr0 h0 n0 _ s₁.heap _
          rw [e0]
          refine ⟨?_, N0, rfl⟩
          rw [own_ixc, if_neg hc4, if_neg hc7, if_pos hc10]
      · skip
        have ks12 : own_R p e below (A0) (s₁.setTop (mkF m 19 #[vR r0, vI p1, vI 0, vI 11, vI (p1.toInt8.toInt32), vI 3] [(.int (p1.toInt8.toInt32)), (.int 44)])) := fun t k => ks9 t (by
          refine XS.icmpYes X0.here hx rfl (pc0 := 19) (pc' := 25) rfl (hb hby d38_19) rfl (feq hc10).2 (by decide) (by decide) ?_
          refine XS.iinc X0.here hx rfl (hb hby d38_25) rfl (l' := #[vR r0, vI p1, vI 0, vI 11, vI (p1.toInt8.toInt32), vI 3]) rfl ?_
          refine XS.goto X0.here hx rfl (pc0 := 28) (pc' := 7) rfl (hb hby d38_28) (by decide) (by decide) ?_
          show Steps p.tables e below (s₁.setTop (mkF m 7 #[vR r0, vI p1, vI 0, vI 11, vI (p1.toInt8.toInt32), vI 3] [])) _
          refine XS.iload X0.here hx rfl (hb hby d38_7) rfl ?_
          refine XS.iloadN X0.here hx rfl (hb hby d38_9) rfl ?_
          refine XS.icmpNo X0.here hx rfl (hb hby d38_10) rfl (tlt (by decide)).2.1 ?_
          refine XS.aloadN X0.here hx rfl (hb hby d38_13) rfl rfl ?_
          show Steps p.tables e below (s₁.setTop (mkF m 14 #[vR r0, vI p1, vI 0, vI 11, vI (p1.toInt8.toInt32), vI 3] [(.ref r0)])) _
          refine XS.iload X0.here hx rfl (hb hby d38_14) rfl ?_
          refine X0.baloadBytes hx (j := (3 : Int32)) (v := (.int 44)) (by rw [e0]; exact Ar2.1) (State.isArrayOf_alike hZ.alike Ar2.2.1) Ar2.2.2 (inb_of S2 ⟨by decide, by decide⟩) (Has.at Ha2 (inb_of S2 ⟨by decide, by decide⟩) rfl) (g := (mkF m 16 #[vR r0, vI p1, vI 0, vI 11, vI (p1.toInt8.toInt32), vI 3] [(.int 3), (.ref r0)])) rfl rfl (hb hby d38_16) _ ?_
          refine XS.iload X0.here hx rfl (hb hby d38_17) rfl ?_
          exact k)
        by_cases hc13 : (44 : Int32) = (p1.toInt8.toInt32)
        · skip
          have ks14 : own_R p e below (A0) (s₁.setTop (mkF m 24 #[vR r0, vI p1, vI 0, vI 11, vI (p1.toInt8.toInt32), vI 3] [(.int 3)])) := fun t k => ks12 t (by
            refine XS.icmpNo X0.here hx rfl (hb hby d38_19) rfl (teq hc13).2 ?_
            refine XS.iload X0.here hx rfl (hb hby d38_22) rfl ?_
            exact k)
          obtain ⟨fs, hr, hrun, hended, hW, hsame⟩ := X0.leave (v := some (.int 3)) (fun h => by rw [Bd.returns] at h; cases h) hlk
          refine ⟨_, _, kz _ (ks14 _ ?_), hrun, hended, _, _, rfl, ?_, ⟨_, rfl⟩, hW, hsame.mono (by decide) (by decide)⟩
          · exact retI X0 hx Bd.returns (hb hby d38_24) hr
          · show Q38 Z r0 p1 kr0 h0 n0 _ s₁.heap _
            rw [e0]
            refine ⟨?_, N0, rfl⟩
            rw [own_ixc, if_neg hc4, if_neg hc7, if_neg hc10, if_pos hc13]
        · skip
          have ks15 : own_R p e below (A0) (s₁.setTop (mkF m 19 #[vR r0, vI p1, vI 0, vI 11, vI (p1.toInt8.toInt32), vI 4] [(.int (p1.toInt8.toInt32)), (.int 47)])) := fun t k => ks12 t (by
            refine XS.icmpYes X0.here hx rfl (pc0 := 19) (pc' := 25) rfl (hb hby d38_19) rfl (feq hc13).2 (by decide) (by decide) ?_
            refine XS.iinc X0.here hx rfl (hb hby d38_25) rfl (l' := #[vR r0, vI p1, vI 0, vI 11, vI (p1.toInt8.toInt32), vI 4]) rfl ?_
            refine XS.goto X0.here hx rfl (pc0 := 28) (pc' := 7) rfl (hb hby d38_28) (by decide) (by decide) ?_
            show Steps p.tables e below (s₁.setTop (mkF m 7 #[vR r0, vI p1, vI 0, vI 11, vI (p1.toInt8.toInt32), vI 4] [])) _
            refine XS.iload X0.here hx rfl (hb hby d38_7) rfl ?_
            refine XS.iloadN X0.here hx rfl (hb hby d38_9) rfl ?_
            refine XS.icmpNo X0.here hx rfl (hb hby d38_10) rfl (tlt (by decide)).2.1 ?_
            refine XS.aloadN X0.here hx rfl (hb hby d38_13) rfl rfl ?_
            show Steps p.tables e below (s₁.setTop (mkF m 14 #[vR r0, vI p1, vI 0, vI 11, vI (p1.toInt8.toInt32), vI 4] [(.ref r0)])) _
            refine XS.iload X0.here hx rfl (hb hby d38_14) rfl ?_
            refine X0.baloadBytes hx (j := (4 : Int32)) (v := (.int 47)) (by rw [e0]; exact Ar2.1) (State.isArrayOf_alike hZ.alike Ar2.2.1) Ar2.2.2 (inb_of S2 ⟨by decide, by decide⟩) (Has.at Ha2 (inb_of S2 ⟨by decide, by decide⟩) rfl) (g := (mkF m 16 #[vR r0, vI p1, vI 0, vI 11, vI (p1.toInt8.toInt32), vI 4] [(.int 4), (.ref r0)])) rfl rfl (hb hby d38_16) _ ?_
            refine XS.iload X0.here hx rfl (hb hby d38_17) rfl ?_
            exact k)
          by_cases hc16 : (47 : Int32) = (p1.toInt8.toInt32)
          · skip
            have ks17 : own_R p e below (A0) (s₁.setTop (mkF m 24 #[vR r0, vI p1, vI 0, vI 11, vI (p1.toInt8.toInt32), vI 4] [(.int 4)])) := fun t k => ks15 t (by
              refine XS.icmpNo X0.here hx rfl (hb hby d38_19) rfl (teq hc16).2 ?_
              refine XS.iload X0.here hx rfl (hb hby d38_22) rfl ?_
              exact k)
            obtain ⟨fs, hr, hrun, hended, hW, hsame⟩ := X0.leave (v := some (.int 4)) (fun h => by rw [Bd.returns] at h; cases h) hlk
            refine ⟨_, _, kz _ (ks17 _ ?_), hrun, hended, _, _, rfl, ?_, ⟨_, rfl⟩, hW, hsame.mono (by decide) (by decide)⟩
            · exact retI X0 hx Bd.returns (hb hby d38_24) hr
            · show Q38 Z r0 p1 kr0 h0 n0 _ s₁.heap _
              rw [e0]
              refine ⟨?_, N0, rfl⟩
              rw [own_ixc, if_neg hc4, if_neg hc7, if_neg hc10, if_neg hc13, if_pos hc16]
          · skip
            have ks18 : own_R p e below (A0) (s₁.setTop (mkF m 19 #[vR r0, vI p1, vI 0, vI 11, vI (p1.toInt8.toInt32), vI 5] [(.int (p1.toInt8.toInt32)), (.int 58)])) := fun t k => ks15 t (by
              refine XS.icmpYes X0.here hx rfl (pc0 := 19) (pc' := 25) rfl (hb hby d38_19) rfl (feq hc16).2 (by decide) (by decide) ?_
              refine XS.iinc X0.here hx rfl (hb hby d38_25) rfl (l' := #[vR r0, vI p1, vI 0, vI 11, vI (p1.toInt8.toInt32), vI 5]) rfl ?_
              refine XS.goto X0.here hx rfl (pc0 := 28) (pc' := 7) rfl (hb hby d38_28) (by decide) (by decide) ?_
              show Steps p.tables e below (s₁.setTop (mkF m 7 #[vR r0, vI p1, vI 0, vI 11, vI (p1.toInt8.toInt32), vI 5] [])) _
              refine XS.iload X0.here hx rfl (hb hby d38_7) rfl ?_
              refine XS.iloadN X0.here hx rfl (hb hby d38_9) rfl ?_
              refine XS.icmpNo X0.here hx rfl (hb hby d38_10) rfl (tlt (by decide)).2.1 ?_
              refine XS.aloadN X0.here hx rfl (hb hby d38_13) rfl rfl ?_
              show Steps p.tables e below (s₁.setTop (mkF m 14 #[vR r0, vI p1, vI 0, vI 11, vI (p1.toInt8.toInt32), vI 5] [(.ref r0)])) _
              refine XS.iload X0.here hx rfl (hb hby d38_14) rfl ?_
              refine X0.baloadBytes hx (j := (5 : Int32)) (v := (.int 58)) (by rw [e0]; exact Ar2.1) (State.isArrayOf_alike hZ.alike Ar2.2.1) Ar2.2.2 (inb_of S2 ⟨by decide, by decide⟩) (Has.at Ha2 (inb_of S2 ⟨by decide, by decide⟩) rfl) (g := (mkF m 16 #[vR r0, vI p1, vI 0, vI 11, vI (p1.toInt8.toInt32), vI 5] [(.int 5), (.ref r0)])) rfl rfl (hb hby d38_16) _ ?_
              refine XS.iload X0.here hx rfl (hb hby d38_17) rfl ?_
              exact k)
            by_cases hc19 : (58 : Int32) = (p1.toInt8.toInt32)
            · skip
              have ks20 : own_R p e below (A0) (s₁.setTop (mkF m 24 #[vR r0, vI p1, vI 0, vI 11, vI (p1.toInt8.toInt32), vI 5] [(.int 5)])) := fun t k => ks18 t (by
                refine XS.icmpNo X0.here hx rfl (hb hby d38_19) rfl (teq hc19).2 ?_
                refine XS.iload X0.here hx rfl (hb hby d38_22) rfl ?_
                exact k)
              obtain ⟨fs, hr, hrun, hended, hW, hsame⟩ := X0.leave (v := some (.int 5)) (fun h => by rw [Bd.returns] at h; cases h) hlk
              refine ⟨_, _, kz _ (ks20 _ ?_), hrun, hended, _, _, rfl, ?_, ⟨_, rfl⟩, hW, hsame.mono (by decide) (by decide)⟩
              · exact retI X0 hx Bd.returns (hb hby d38_24) hr
              · show Q38 Z r0 p1 kr0 h0 n0 _ s₁.heap _
                rw [e0]
                refine ⟨?_, N0, rfl⟩
                rw [own_ixc, if_neg hc4, if_neg hc7, if_neg hc10, if_neg hc13, if_neg hc16, if_pos hc19]
            · skip
              have ks21 : own_R p e below (A0) (s₁.setTop (mkF m 19 #[vR r0, vI p1, vI 0, vI 11, vI (p1.toInt8.toInt32), vI 6] [(.int (p1.toInt8.toInt32)), (.int 63)])) := fun t k => ks18 t (by
                refine XS.icmpYes X0.here hx rfl (pc0 := 19) (pc' := 25) rfl (hb hby d38_19) rfl (feq hc19).2 (by decide) (by decide) ?_
                refine XS.iinc X0.here hx rfl (hb hby d38_25) rfl (l' := #[vR r0, vI p1, vI 0, vI 11, vI (p1.toInt8.toInt32), vI 6]) rfl ?_
                refine XS.goto X0.here hx rfl (pc0 := 28) (pc' := 7) rfl (hb hby d38_28) (by decide) (by decide) ?_
                show Steps p.tables e below (s₁.setTop (mkF m 7 #[vR r0, vI p1, vI 0, vI 11, vI (p1.toInt8.toInt32), vI 6] [])) _
                refine XS.iload X0.here hx rfl (hb hby d38_7) rfl ?_
                refine XS.iloadN X0.here hx rfl (hb hby d38_9) rfl ?_
                refine XS.icmpNo X0.here hx rfl (hb hby d38_10) rfl (tlt (by decide)).2.1 ?_
                refine XS.aloadN X0.here hx rfl (hb hby d38_13) rfl rfl ?_
                show Steps p.tables e below (s₁.setTop (mkF m 14 #[vR r0, vI p1, vI 0, vI 11, vI (p1.toInt8.toInt32), vI 6] [(.ref r0)])) _
                refine XS.iload X0.here hx rfl (hb hby d38_14) rfl ?_
                refine X0.baloadBytes hx (j := (6 : Int32)) (v := (.int 63)) (by rw [e0]; exact Ar2.1) (State.isArrayOf_alike hZ.alike Ar2.2.1) Ar2.2.2 (inb_of S2 ⟨by decide, by decide⟩) (Has.at Ha2 (inb_of S2 ⟨by decide, by decide⟩) rfl) (g := (mkF m 16 #[vR r0, vI p1, vI 0, vI 11, vI (p1.toInt8.toInt32), vI 6] [(.int 6), (.ref r0)])) rfl rfl (hb hby d38_16) _ ?_
                refine XS.iload X0.here hx rfl (hb hby d38_17) rfl ?_
                exact k)
              by_cases hc22 : (63 : Int32) = (p1.toInt8.toInt32)
              · skip
                have ks23 : own_R p e below (A0) (s₁.setTop (mkF m 24 #[vR r0, vI p1, vI 0, vI 11, vI (p1.toInt8.toInt32), vI 6] [(.int 6)])) := fun t k => ks21 t (by
                  refine XS.icmpNo X0.here hx rfl (hb hby d38_19) rfl (teq hc22).2 ?_
                  refine XS.iload X0.here hx rfl (hb hby d38_22) rfl ?_
                  exact k)
                obtain ⟨fs, hr, hrun, hended, hW, hsame⟩ := X0.leave (v := some (.int 6)) (fun h => by rw [Bd.returns] at h; cases h) hlk
                refine ⟨_, _, kz _ (ks23 _ ?_), hrun, hended, _, _, rfl, ?_, ⟨_, rfl⟩, hW, hsame.mono (by decide) (by decide)⟩
                · exact retI X0 hx Bd.returns (hb hby d38_24) hr
                · show Q38 Z r0 p1 kr0 h0 n0 _ s₁.heap _
                  rw [e0]
                  refine ⟨?_, N0, rfl⟩
                  rw [own_ixc, if_neg hc4, if_neg hc7, if_neg hc10, if_neg hc13, if_neg hc16, if_neg hc19, if_pos hc22]
              · skip
                have ks24 : own_R p e below (A0) (s₁.setTop (mkF m 19 #[vR r0, vI p1, vI 0, vI 11, vI (p1.toInt8.toInt32), vI 7] [(.int (p1.toInt8.toInt32)), (.int 91)])) := fun t k => ks21 t (by
                  refine XS.icmpYes X0.here hx rfl (pc0 := 19) (pc' := 25) rfl (hb hby d38_19) rfl (feq hc22).2 (by decide) (by decide) ?_
                  refine XS.iinc X0.here hx rfl (hb hby d38_25) rfl (l' := #[vR r0, vI p1, vI 0, vI 11, vI (p1.toInt8.toInt32), vI 7]) rfl ?_
                  refine XS.goto X0.here hx rfl (pc0 := 28) (pc' := 7) rfl (hb hby d38_28) (by decide) (by decide) ?_
                  show Steps p.tables e below (s₁.setTop (mkF m 7 #[vR r0, vI p1, vI 0, vI 11, vI (p1.toInt8.toInt32), vI 7] [])) _
                  refine XS.iload X0.here hx rfl (hb hby d38_7) rfl ?_
                  refine XS.iloadN X0.here hx rfl (hb hby d38_9) rfl ?_
                  refine XS.icmpNo X0.here hx rfl (hb hby d38_10) rfl (tlt (by decide)).2.1 ?_
                  refine XS.aloadN X0.here hx rfl (hb hby d38_13) rfl rfl ?_
                  show Steps p.tables e below (s₁.setTop (mkF m 14 #[vR r0, vI p1, vI 0, vI 11, vI (p1.toInt8.toInt32), vI 7] [(.ref r0)])) _
                  refine XS.iload X0.here hx rfl (hb hby d38_14) rfl ?_
                  refine X0.baloadBytes hx (j := (7 : Int32)) (v := (.int 91)) (by rw [e0]; exact Ar2.1) (State.isArrayOf_alike hZ.alike Ar2.2.1) Ar2.2.2 (inb_of S2 ⟨by decide, by decide⟩) (Has.at Ha2 (inb_of S2 ⟨by decide, by decide⟩) rfl) (g := (mkF m 16 #[vR r0, vI p1, vI 0, vI 11, vI (p1.toInt8.toInt32), vI 7] [(.int 7), (.ref r0)])) rfl rfl (hb hby d38_16) _ ?_
                  refine XS.iload X0.here hx rfl (hb hby d38_17) rfl ?_
                  exact k)
                by_cases hc25 : (91 : Int32) = (p1.toInt8.toInt32)
                · skip
                  have ks26 : own_R p e below (A0) (s₁.setTop (mkF m 24 #[vR r0, vI p1, vI 0, vI 11, vI (p1.toInt8.toInt32), vI 7] [(.int 7)])) := fun t k => ks24 t (by
                    refine XS.icmpNo X0.here hx rfl (hb hby d38_19) rfl (teq hc25).2 ?_
                    refine XS.iload X0.here hx rfl (hb hby d38_22) rfl ?_
                    exact k)
                  obtain ⟨fs, hr, hrun, hended, hW, hsame⟩ := X0.leave (v := some (.int 7)) (fun h => by rw [Bd.returns] at h; cases h) hlk
                  refine ⟨_, _, kz _ (ks26 _ ?_), hrun, hended, _, _, rfl, ?_, ⟨_, rfl⟩, hW, hsame.mono (by decide) (by decide)⟩
                  · exact retI X0 hx Bd.returns (hb hby d38_24) hr
                  · show Q38 Z r0 p1 kr0 h0 n0 _ s₁.heap _
                    rw [e0]
                    refine ⟨?_, N0, rfl⟩
                    rw [own_ixc, if_neg hc4, if_neg hc7, if_neg hc10, if_neg hc13, if_neg hc16, if_neg hc19, if_neg hc22, if_pos hc25]
                · skip
                  have ks27 : own_R p e below (A0) (s₁.setTop (mkF m 19 #[vR r0, vI p1, vI 0, vI 11, vI (p1.toInt8.toInt32), vI 8] [(.int (p1.toInt8.toInt32)), (.int 93)])) := fun t k => ks24 t (by
                    refine XS.icmpYes X0.here hx rfl (pc0 := 19) (pc' := 25) rfl (hb hby d38_19) rfl (feq hc25).2 (by decide) (by decide) ?_
                    refine XS.iinc X0.here hx rfl (hb hby d38_25) rfl (l' := #[vR r0, vI p1, vI 0, vI 11, vI (p1.toInt8.toInt32), vI 8]) rfl ?_
                    refine XS.goto X0.here hx rfl (pc0 := 28) (pc' := 7) rfl (hb hby d38_28) (by decide) (by decide) ?_
                    show Steps p.tables e below (s₁.setTop (mkF m 7 #[vR r0, vI p1, vI 0, vI 11, vI (p1.toInt8.toInt32), vI 8] [])) _
                    refine XS.iload X0.here hx rfl (hb hby d38_7) rfl ?_
                    refine XS.iloadN X0.here hx rfl (hb hby d38_9) rfl ?_
                    refine XS.icmpNo X0.here hx rfl (hb hby d38_10) rfl (tlt (by decide)).2.1 ?_
                    refine XS.aloadN X0.here hx rfl (hb hby d38_13) rfl rfl ?_
                    show Steps p.tables e below (s₁.setTop (mkF m 14 #[vR r0, vI p1, vI 0, vI 11, vI (p1.toInt8.toInt32), vI 8] [(.ref r0)])) _
                    refine XS.iload X0.here hx rfl (hb hby d38_14) rfl ?_
                    refine X0.baloadBytes hx (j := (8 : Int32)) (v := (.int 93)) (by rw [e0]; exact Ar2.1) (State.isArrayOf_alike hZ.alike Ar2.2.1) Ar2.2.2 (inb_of S2 ⟨by decide, by decide⟩) (Has.at Ha2 (inb_of S2 ⟨by decide, by decide⟩) rfl) (g := (mkF m 16 #[vR r0, vI p1, vI 0, vI 11, vI (p1.toInt8.toInt32), vI 8] [(.int 8), (.ref r0)])) rfl rfl (hb hby d38_16) _ ?_
                    refine XS.iload X0.here hx rfl (hb hby d38_17) rfl ?_
                    exact k)
                  by_cases hc28 : (93 : Int32) = (p1.toInt8.toInt32)
                  · skip
                    have ks29 : own_R p e below (A0) (s₁.setTop (mkF m 24 #[vR r0, vI p1, vI 0, vI 11, vI (p1.toInt8.toInt32), vI 8] [(.int 8)])) := fun t k => ks27 t (by
                      refine XS.icmpNo X0.here hx rfl (hb hby d38_19) rfl (teq hc28).2 ?_
                      refine XS.iload X0.here hx rfl (hb hby d38_22) rfl ?_
                      exact k)
                    obtain ⟨fs, hr, hrun, hended, hW, hsame⟩ := X0.leave (v := some (.int 8)) (fun h => by rw [Bd.returns] at h; cases h) hlk
                    refine ⟨_, _, kz _ (ks29 _ ?_), hrun, hended, _, _, rfl, ?_, ⟨_, rfl⟩, hW, hsame.mono (by decide) (by decide)⟩
                    · exact retI X0 hx Bd.returns (hb hby d38_24) hr
                    · show Q38 Z r0 p1 kr0 h0 n0 _ s₁.heap _
                      rw [e0]
                      refine ⟨?_, N0, rfl⟩
                      rw [own_ixc, if_neg hc4, if_neg hc7, if_neg hc10, if_neg hc13, if_neg hc16, if_neg hc19, if_neg hc22, if_neg hc25, if_pos hc28]
                  · skip
                    have ks30 : own_R p e below (A0) (s₁.setTop (mkF m 19 #[vR r0, vI p1, vI 0, vI 11, vI (p1.toInt8.toInt32), vI 9] [(.int (p1.toInt8.toInt32)), (.int 123)])) := fun t k => ks27 t (by
                      refine XS.icmpYes X0.here hx rfl (pc0 := 19) (pc' := 25) rfl (hb hby d38_19) rfl (feq hc28).2 (by decide) (by decide) ?_
                      refine XS.iinc X0.here hx rfl (hb hby d38_25) rfl (l' := #[vR r0, vI p1, vI 0, vI 11, vI (p1.toInt8.toInt32), vI 9]) rfl ?_
                      refine XS.goto X0.here hx rfl (pc0 := 28) (pc' := 7) rfl (hb hby d38_28) (by decide) (by decide) ?_
                      show Steps p.tables e below (s₁.setTop (mkF m 7 #[vR r0, vI p1, vI 0, vI 11, vI (p1.toInt8.toInt32), vI 9] [])) _
                      refine XS.iload X0.here hx rfl (hb hby d38_7) rfl ?_
                      refine XS.iloadN X0.here hx rfl (hb hby d38_9) rfl ?_
                      refine XS.icmpNo X0.here hx rfl (hb hby d38_10) rfl (tlt (by decide)).2.1 ?_
                      refine XS.aloadN X0.here hx rfl (hb hby d38_13) rfl rfl ?_
                      show Steps p.tables e below (s₁.setTop (mkF m 14 #[vR r0, vI p1, vI 0, vI 11, vI (p1.toInt8.toInt32), vI 9] [(.ref r0)])) _
                      refine XS.iload X0.here hx rfl (hb hby d38_14) rfl ?_
                      refine X0.baloadBytes hx (j := (9 : Int32)) (v := (.int 123)) (by rw [e0]; exact Ar2.1) (State.isArrayOf_alike hZ.alike Ar2.2.1) Ar2.2.2 (inb_of S2 ⟨by decide, by decide⟩) (Has.at Ha2 (inb_of S2 ⟨by decide, by decide⟩) rfl) (g := (mkF m 16 #[vR r0, vI p1, vI 0, vI 11, vI (p1.toInt8.toInt32), vI 9] [(.int 9), (.ref r0)])) rfl rfl (hb hby d38_16) _ ?_
                      refine XS.iload X0.here hx rfl (hb hby d38_17) rfl ?_
                      exact k)
                    by_cases hc31 : (123 : Int32) = (p1.toInt8.toInt32)
                    · skip
                      have ks32 : own_R p e below (A0) (s₁.setTop (mkF m 24 #[vR r0, vI p1, vI 0, vI 11, vI (p1.toInt8.toInt32), vI 9] [(.int 9)])) := fun t k => ks30 t (by
                        refine XS.icmpNo X0.here hx rfl (hb hby d38_19) rfl (teq hc31).2 ?_
                        refine XS.iload X0.here hx rfl (hb hby d38_22) rfl ?_
                        exact k)
                      obtain ⟨fs, hr, hrun, hended, hW, hsame⟩ := X0.leave (v := some (.int 9)) (fun h => by rw [Bd.returns] at h; cases h) hlk
                      refine ⟨_, _, kz _ (ks32 _ ?_), hrun, hended, _, _, rfl, ?_, ⟨_, rfl⟩, hW, hsame.mono (by decide) (by decide)⟩
                      · exact retI X0 hx Bd.returns (hb hby d38_24) hr
                      · show Q38 Z r0 p1 kr0 h0 n0 _ s₁.heap _
                        rw [e0]
                        refine ⟨?_, N0, rfl⟩
                        rw [own_ixc, if_neg hc4, if_neg hc7, if_neg hc10, if_neg hc13, if_neg hc16, if_neg hc19, if_neg hc22, if_neg hc25, if_neg hc28, if_pos hc31]
                    · skip
                      have ks33 : own_R p e below (A0) (s₁.setTop (mkF m 19 #[vR r0, vI p1, vI 0, vI 11, vI (p1.toInt8.toInt32), vI 10] [(.int (p1.toInt8.toInt32)), (.int 125)])) := fun t k => ks30 t (by
                        refine XS.icmpYes X0.here hx rfl (pc0 := 19) (pc' := 25) rfl (hb hby d38_19) rfl (feq hc31).2 (by decide) (by decide) ?_
                        refine XS.iinc X0.here hx rfl (hb hby d38_25) rfl (l' := #[vR r0, vI p1, vI 0, vI 11, vI (p1.toInt8.toInt32), vI 10]) rfl ?_
                        refine XS.goto X0.here hx rfl (pc0 := 28) (pc' := 7) rfl (hb hby d38_28) (by decide) (by decide) ?_
                        show Steps p.tables e below (s₁.setTop (mkF m 7 #[vR r0, vI p1, vI 0, vI 11, vI (p1.toInt8.toInt32), vI 10] [])) _
                        refine XS.iload X0.here hx rfl (hb hby d38_7) rfl ?_
                        refine XS.iloadN X0.here hx rfl (hb hby d38_9) rfl ?_
                        refine XS.icmpNo X0.here hx rfl (hb hby d38_10) rfl (tlt (by decide)).2.1 ?_
                        refine XS.aloadN X0.here hx rfl (hb hby d38_13) rfl rfl ?_
                        show Steps p.tables e below (s₁.setTop (mkF m 14 #[vR r0, vI p1, vI 0, vI 11, vI (p1.toInt8.toInt32), vI 10] [(.ref r0)])) _
                        refine XS.iload X0.here hx rfl (hb hby d38_14) rfl ?_
                        refine X0.baloadBytes hx (j := (10 : Int32)) (v := (.int 125)) (by rw [e0]; exact Ar2.1) (State.isArrayOf_alike hZ.alike Ar2.2.1) Ar2.2.2 (inb_of S2 ⟨by decide, by decide⟩) (Has.at Ha2 (inb_of S2 ⟨by decide, by decide⟩) rfl) (g := (mkF m 16 #[vR r0, vI p1, vI 0, vI 11, vI (p1.toInt8.toInt32), vI 10] [(.int 10), (.ref r0)])) rfl rfl (hb hby d38_16) _ ?_
                        refine XS.iload X0.here hx rfl (hb hby d38_17) rfl ?_
                        exact k)
                      by_cases hc34 : (125 : Int32) = (p1.toInt8.toInt32)
                      · skip
                        have ks35 : own_R p e below (A0) (s₁.setTop (mkF m 24 #[vR r0, vI p1, vI 0, vI 11, vI (p1.toInt8.toInt32), vI 10] [(.int 10)])) := fun t k => ks33 t (by
                          refine XS.icmpNo X0.here hx rfl (hb hby d38_19) rfl (teq hc34).2 ?_
                          refine XS.iload X0.here hx rfl (hb hby d38_22) rfl ?_
                          exact k)
                        obtain ⟨fs, hr, hrun, hended, hW, hsame⟩ := X0.leave (v := some (.int 10)) (fun h => by rw [Bd.returns] at h; cases h) hlk
                        refine ⟨_, _, kz _ (ks35 _ ?_), hrun, hended, _, _, rfl, ?_, ⟨_, rfl⟩, hW, hsame.mono (by decide) (by decide)⟩
                        · exact retI X0 hx Bd.returns (hb hby d38_24) hr
                        · show Q38 Z r0 p1 kr0 h0 n0 _ s₁.heap _
                          rw [e0]
                          refine ⟨?_, N0, rfl⟩
                          rw [own_ixc, if_neg hc4, if_neg hc7, if_neg hc10, if_neg hc13, if_neg hc16, if_neg hc19, if_neg hc22, if_neg hc25, if_neg hc28, if_neg hc31, if_pos hc34]
                      · skip
                        have ks36 : own_R p e below (A0) (s₁.setTop (mkF m 32 #[vR r0, vI p1, vI 0, vI 11, vI (p1.toInt8.toInt32), vI 11] [(.int (-1))])) := fun t k => ks33 t (by
                          refine XS.icmpYes X0.here hx rfl (pc0 := 19) (pc' := 25) rfl (hb hby d38_19) rfl (feq hc34).2 (by decide) (by decide) ?_
                          refine XS.iinc X0.here hx rfl (hb hby d38_25) rfl (l' := #[vR r0, vI p1, vI 0, vI 11, vI (p1.toInt8.toInt32), vI 11]) rfl ?_
                          refine XS.goto X0.here hx rfl (pc0 := 28) (pc' := 7) rfl (hb hby d38_28) (by decide) (by decide) ?_
                          show Steps p.tables e below (s₁.setTop (mkF m 7 #[vR r0, vI p1, vI 0, vI 11, vI (p1.toInt8.toInt32), vI 11] [])) _
                          refine XS.iload X0.here hx rfl (hb hby d38_7) rfl ?_
                          refine XS.iloadN X0.here hx rfl (hb hby d38_9) rfl ?_
                          refine XS.icmpYes X0.here hx rfl (pc0 := 10) (pc' := 31) rfl (hb hby d38_10) rfl (flt (by decide)).2.1 (by decide) (by decide) ?_
                          refine XS.iconst X0.here hx rfl (hb hby d38_31) ?_
                          exact k)
                        obtain ⟨fs, hr, hrun, hended, hW, hsame⟩ := X0.leave (v := some (.int (-1))) (fun h => by rw [Bd.returns] at h; cases h) hlk
                        refine ⟨_, _, kz _ (ks36 _ ?_), hrun, hended, _, _, rfl, ?_, ⟨_, rfl⟩, hW, hsame.mono (by decide) (by decide)⟩
                        · exact retI X0 hx Bd.returns (hb hby d38_32) hr
                        · show Q38 Z r0 p1 kr0 h0 n0 _ s₁.heap _
                          rw [e0]
                          refine ⟨?_, N0, rfl⟩
                          rw [own_ixc, if_neg hc4, if_neg hc7, if_neg hc10, if_neg hc13, if_neg hc16, if_neg hc19, if_neg hc22, if_neg hc25, if_neg hc28, if_neg hc31, if_neg hc34]
def own_ixl (p1 : Int32) : Int32 := (if (own_ce p1) = (0 : Int32) then (-1 : Int32) else (own_ixc p1))
theorem d34_0 : decode jdk_43_method_22_code 0 = .ok (.iload_n 1, 1) := by decide +kernel
theorem d34_1 : decode jdk_43_method_22_code 1 = .ok (.invokestatic 88, 3) := by decide +kernel
theorem d34_4 : decode jdk_43_method_22_code 4 = .ok (.ifCond .ne 5, 3) := by decide +kernel
theorem d34_7 : decode jdk_43_method_22_code 7 = .ok (.iconst (-1), 1) := by decide +kernel
theorem d34_8 : decode jdk_43_method_22_code 8 = .ok (.ireturn, 1) := by decide +kernel
theorem d34_9 : decode jdk_43_method_22_code 9 = .ok (.iload_n 2, 1) := by decide +kernel
theorem d34_10 : decode jdk_43_method_22_code 10 = .ok (.iconst 0, 1) := by decide +kernel
theorem d34_11 : decode jdk_43_method_22_code 11 = .ok (.invokestatic 92, 3) := by decide +kernel
theorem d34_14 : decode jdk_43_method_22_code 14 = .ok (.istore_n 2, 1) := by decide +kernel
theorem d34_15 : decode jdk_43_method_22_code 15 = .ok (.iload_n 3, 1) := by decide +kernel
theorem d34_16 : decode jdk_43_method_22_code 16 = .ok (.aload_n 0, 1) := by decide +kernel
theorem d34_17 : decode jdk_43_method_22_code 17 = .ok (.arraylength, 1) := by decide +kernel
theorem d34_18 : decode jdk_43_method_22_code 18 = .ok (.invokestatic 38, 3) := by decide +kernel
theorem d34_21 : decode jdk_43_method_22_code 21 = .ok (.istore_n 3, 1) := by decide +kernel
theorem d34_22 : decode jdk_43_method_22_code 22 = .ok (.iload_n 2, 1) := by decide +kernel
theorem d34_23 : decode jdk_43_method_22_code 23 = .ok (.iload_n 3, 1) := by decide +kernel
theorem d34_24 : decode jdk_43_method_22_code 24 = .ok (.if_icmp .lt 5, 3) := by decide +kernel
theorem d34_29 : decode jdk_43_method_22_code 29 = .ok (.aload_n 0, 1) := by decide +kernel
theorem d34_30 : decode jdk_43_method_22_code 30 = .ok (.iload_n 1, 1) := by decide +kernel
theorem d34_31 : decode jdk_43_method_22_code 31 = .ok (.iload_n 2, 1) := by decide +kernel
theorem d34_32 : decode jdk_43_method_22_code 32 = .ok (.iload_n 3, 1) := by decide +kernel
theorem d34_33 : decode jdk_43_method_22_code 33 = .ok (.invokestatic 95, 3) := by decide +kernel
theorem d34_36 : decode jdk_43_method_22_code 36 = .ok (.ireturn, 1) := by decide +kernel
theorem pn_34 : plainName "java/lang/StringLatin1" = true := by first | (simp [plainName, overriddenIn]; done) | decide +kernel
theorem pd_25 : parseMethodDescriptor "(II)I" = some ⟨[.int, .int], some .int⟩ := by decide +kernel
theorem pd_26 : parseMethodDescriptor "([BIII)I" = some ⟨[(.array .byte), .int, .int, .int], some .int⟩ := by decide +kernel
theorem pd_27 : parseMethodDescriptor "(I)Z" = some ⟨[.int], some .boolean⟩ := by decide +kernel
theorem ef_34 (m : MethodId) (x0 : Addr) (x1 : Int32) (x2 : Int32) (x3 : Int32) : entryFrame m #[(.ref x0), (.int x1), (.int x2), (.int x3)] 4 = mkF m 0 #[.val (.ref x0), .val (.int x1), .val (.int x2), .val (.int x3)] [] := by first | (simp [entryFrame, mkF, argsToLocals, Value.category]; done) | rfl
def Q34 (Z : State) (r0 : Addr) (p1 : Int32) (kr0 : ClassId) (h0 : Heap) (n0 : Nat) (v : Option Value) (h : Heap) (L : List Loc) : Prop := v = some (.int (own_ixl p1)) ∧ Fr n0 L ∧ h = h0
set_option maxRecDepth 65536 in
set_option maxHeartbeats 40000000 in
theorem rm34 (l : Launch) (Z : State) (a0 : Array Value) (hw : ∀ d ∈ tables_1, d.before a0 Z = true) (ws : List Jvm.Cond) (r0 : Addr) (p1 : Int32) (kr0 : ClassId) (h0 : Heap) (n0 : Nat) (Z0 : n0 ≤ h0.size) (V0 : Arv Z h0 r0 kr0 .byte (11 : Int32) [(.int 34), (.int 35), (.int 42), (.int 44), (.int 47), (.int 58), (.int 63), (.int 91), (.int 93), (.int 123), (.int 125)] (.int 0)) :
    MetFree l (⟨"java/lang/StringLatin1", "indexOf", "([BIII)I"⟩ : MethodName) (head1 (Jvm.Cond.code (⟨"java/lang/StringLatin1", "indexOf", "([BIII)I"⟩ : MethodName) jdk_43_method_22_code 4 (some .int) :: ws) ({ frames := 1, cells := 0, slots := 0, locals := 17 } : Room)) (fun a U => a = #[(.ref r0), (.int p1), (.int 0), (.int 11)] ∧ Z.Warmed39 U.vm ∧ U.heap = h0) (fun _ _ _ _ _ => True) (fun _ U o U' => ∃ v L, o = .returned v ∧ Q34 Z r0 p1 kr0 h0 n0 v U'.heap L ∧ FrameEnd U o U' L ({ frames := 1, cells := 0, slots := 0, locals := 17 } : Room).cells ({ frames := 1, cells := 0, slots := 0, locals := 17 } : Room).slots) := by
  refine MetFree.of_bodySF (plainFor_of_name pn_34) hisR ?_
  intro p e s m args below meth c s₁ Bd hml0 hP hK
  obtain ⟨rfl, hZ, hh⟩ := hP
  have hx := Bd.exec
  have hby := Bd.bytes
  have hml : c.maxLocals = 4 := hml0
  have hown : s.vm.findClass "java/lang/StringLatin1" = some m.cls := findClass_of_methodNamed Bd.named
  have hnm := (name_of_methodNamed Bd.named Bd.method).1
  have hlk : meth.locks = false := by first | exact BodyLoose.notSynchronized Bd | exact Body.notSynchronized Bd
  have X0 : Stand p l e ({ frames := 1, cells := 0, slots := 0, locals := 17 } : Room) s m #[(.ref r0), (.int p1), (.int 0), (.int 11)] below meth c s₁ [] 0 0 := Stand.of_body Bd
  have e0 : s₁.heap = h0 := by rw [← hh, Bd.state]; rfl
  have N0 := Fr.nil n0
  have k0 : own_R p e below (s₁.setTop (entryFrame m #[(.ref r0), (.int p1), (.int 0), (.int 11)] 4)) (s₁.setTop (mkF m 0 #[vR r0, vI p1, vI 0, vI 11] [])) := fun t k => castTop (ef_34 m r0 p1 (0 : Int32) (11 : Int32)) k
  obtain ⟨A0, hA0⟩ : ∃ z, z = s₁.setTop (entryFrame m #[(.ref r0), (.int p1), (.int 0), (.int 11)] 4) := ⟨_, rfl⟩
  rw [← hA0] at k0
  have kz : ∀ t, Steps p.tables e below A0 t → Steps p.tables e below (s₁.setTop (entryFrame m #[(.ref r0), (.int p1), (.int 0), (.int 11)] 4)) t := fun t q => hA0 ▸ q
  have ks1 : own_R p e below (A0) (s₁.setTop (mkF m 1 #[vR r0, vI p1, vI 0, vI 11] [(.int p1)])) := fun t k => k0 t (by
    refine XS.iloadN X0.here hx rfl (hb hby d34_0) rfl ?_
    exact k)
  obtain ⟨_, _, ⟨T2, L2, k2, n2⟩, -, X2, ⟨Lc2, hQ2, lq2, yq2, zq2⟩, st2⟩ := Jvm.LawKit.callS X0 hx (y := (⟨"java/lang/StringLatin1", "canEncode", "(I)Z"⟩ : MethodName)) hown (mvT hZ (own_w hw 150 rfl)) (mvT hZ (own_w hw 151 rfl)) (mvT hZ (own_w hw 120 rfl)) (mvT hZ (own_w hw 152 rfl)) (by decide) (backOf (W := 0) (rm35 l Z a0 hw [] p1 h0 n0 Z0 ) hZ (own_w hw 152 rfl) (own_w hw 120 rfl) (by decide) (by decide)) (g := (mkF m 1 #[vR r0, vI p1, vI 0, vI 11] [(.int p1)])) rfl (by rw [hml]; rfl) (argsL := [(.int p1)]) (rest := []) (lenOf pd_27 rfl) rfl (by show 2 * 0 + _ ≤ _; exact Nat.le_of_eq rfl) (hb hby d34_1) (fun _ _ => ⟨rfl, e0, (by decide : 0 + 0 ≤ _), (by decide : 0 + 0 ≤ _)⟩)
  dsimp only [Pt.U, Pt.locs, Pt.cells, Pt.slots] at X2 lq2 yq2 zq2 st2 hQ2
  subst lq2 yq2 zq2
  obtain ⟨rfl, Nq2, eq2⟩ := hQ2
  have N2 := Fr.app N0 Nq2
  have ks3 := own_c ks1 st2
  by_cases hc4 : (own_ce p1) = (0 : Int32)
  · skip
    have ks5 : own_R p e below (A0) (T2.setTop (mkF m 8 #[vR r0, vI p1, vI 0, vI 11] [(.int (-1))])) := fun t k => ks3 t (by
      refine XS.ifNo X2.here hx rfl (hb hby d34_4) rfl ((if0 _ _).trans (teq hc4).2) ?_
      refine XS.iconst X2.here hx rfl (hb hby d34_7) ?_
      exact k)
    obtain ⟨fs, hr, hrun, hended, hW, hsame⟩ := X2.leave (v := some (.int (-1))) (fun h => by rw [Bd.returns] at h; cases h) hlk
    refine ⟨_, _, kz _ (ks5 _ ?_), hrun, hended, _, _, rfl, ?_, ⟨_, rfl⟩, hW, hsame.mono (by decide) (by decide)⟩
    · exact retI X2 hx Bd.returns (hb hby d34_8) hr
    · show Q34 Z r0 p1 kr0 h0 n0 _ T2.heap _
      rw [eq2]
      refine ⟨?_, N2, rfl⟩
      rw [own_ixl, if_pos hc4]
  · skip
    have ks6 : own_R p e below (A0) (T2.setTop (mkF m 11 #[vR r0, vI p1, vI 0, vI 11] [(.int 0), (.int 0)])) := fun t k => ks3 t (by
      refine XS.ifYes X2.here hx rfl (pc0 := 4) (pc' := 9) rfl (hb hby d34_4) rfl ((if0 _ _).trans (feq hc4).2) (by decide) (by decide) ?_
      refine XS.iloadN X2.here hx rfl (hb hby d34_9) rfl ?_
      refine XS.iconst X2.here hx rfl (hb hby d34_10) ?_
      exact k)
    obtain ⟨_, _, ⟨T7, L7, k7, n7⟩, -, X7, ⟨Lc7, hQ7, lq7, yq7, zq7⟩, st7⟩ := Jvm.LawKit.callS X2 hx (y := (⟨"java/lang/Math", "max", "(II)I"⟩ : MethodName)) hown (mvT hZ (own_w hw 153 rfl)) (mvT hZ (own_w hw 154 rfl)) (mvT hZ (own_w hw 155 rfl)) (mvT hZ (own_w hw 156 rfl)) (by decide) (backOf (W := 0) (rm36 l Z a0 hw []  h0 n0 Z0 ) hZ (own_w hw 156 rfl) (own_w hw 155 rfl) (by decide) (by decide)) (g := (mkF m 11 #[vR r0, vI p1, vI 0, vI 11] [(.int 0), (.int 0)])) rfl (by rw [hml]; rfl) (argsL := [(.int 0), (.int 0)]) (rest := []) (lenOf pd_25 rfl) rfl (by show 2 * 0 + _ ≤ _; exact Nat.le_of_eq rfl) (hb hby d34_11) (fun _ _ => ⟨rfl, eq2, (by decide : 0 + 0 ≤ _), (by decide : 0 + 0 ≤ _)⟩)
    dsimp only [Pt.U, Pt.locs, Pt.cells, Pt.slots] at X7 lq7 yq7 zq7 st7 hQ7
    subst lq7 yq7 zq7
    obtain ⟨rfl, Nq7, eq7⟩ := hQ7
    have N7 := Fr.app N2 Nq7
    have ks8 := own_c ks6 st7
    have ks9 : own_R p e below (A0) (T7.setTop (mkF m 17 #[vR r0, vI p1, vI 0, vI 11] [(.ref r0), (.int 11)])) := fun t k => ks8 t (by
      refine XS.istoreN X7.here hx rfl (hb hby d34_14) rfl (l' := #[vR r0, vI p1, vI 0, vI 11]) rfl ?_
      refine XS.iloadN X7.here hx rfl (hb hby d34_15) rfl ?_
      refine XS.aloadN X7.here hx rfl (hb hby d34_16) rfl rfl ?_
      exact k)
    obtain ⟨cl10, Ar10, qa10, S10, Na10, Ha10, Ga10⟩ := id V0
    have ks11 : own_R p e below (A0) (T7.setTop (mkF m 18 #[vR r0, vI p1, vI 0, vI 11] [(.int 11), (.int 11)])) := fun t k => ks9 t (by
      refine X7.arraylength hx (by rw [eq7]; exact Ar10.1) (State.isArrayOf_alike hZ.alike Ar10.2.1) (g := (mkF m 17 #[vR r0, vI p1, vI 0, vI 11] [(.ref r0), (.int 11)])) rfl rfl (hb hby d34_17) _ ?_
      rw [len_of S10 Na10]
      exact k)
    obtain ⟨_, _, ⟨T12, L12, k12, n12⟩, -, X12, ⟨Lc12, hQ12, lq12, yq12, zq12⟩, st12⟩ := Jvm.LawKit.callS X7 hx (y := (⟨"java/lang/Math", "min", "(II)I"⟩ : MethodName)) hown (mvT hZ (own_w hw 157 rfl)) (mvT hZ (own_w hw 158 rfl)) (mvT hZ (own_w hw 155 rfl)) (mvT hZ (own_w hw 159 rfl)) (by decide) (backOf (W := 0) (rm37 l Z a0 hw []  h0 n0 Z0 ) hZ (own_w hw 159 rfl) (own_w hw 155 rfl) (by decide) (by decide)) (g := (mkF m 18 #[vR r0, vI p1, vI 0, vI 11] [(.int 11), (.int 11)])) rfl (by rw [hml]; rfl) (argsL := [(.int 11), (.int 11)]) (rest := []) (lenOf pd_25 rfl) rfl (by show 2 * 0 + _ ≤ _; exact Nat.le_of_eq rfl) (hb hby d34_18) (fun _ _ => ⟨rfl, eq7, (by decide : 0 + 0 ≤ _), (by decide : 0 + 0 ≤ _)⟩)
    dsimp only [Pt.U, Pt.locs, Pt.cells, Pt.slots] at X12 lq12 yq12 zq12 st12 hQ12
    subst lq12 yq12 zq12
    obtain ⟨rfl, Nq12, eq12⟩ := hQ12
    have N12 := Fr.app N7 Nq12
    have ks13 := own_c ks11 st12
    have ks14 : own_R p e below (A0) (T12.setTop (mkF m 33 #[vR r0, vI p1, vI 0, vI 11] [(.int 11), (.int 0), (.int p1), (.ref r0)])) := fun t k => ks13 t (by
      refine XS.istoreN X12.here hx rfl (hb hby d34_21) rfl (l' := #[vR r0, vI p1, vI 0, vI 11]) rfl ?_
      refine XS.iloadN X12.here hx rfl (hb hby d34_22) rfl ?_
      refine XS.iloadN X12.here hx rfl (hb hby d34_23) rfl ?_
      show Steps p.tables e below (T12.setTop (mkF m 24 #[vR r0, vI p1, vI 0, vI 11] [(.int 11), (.int 0)])) _
      refine XS.icmpYes X12.here hx rfl (pc0 := 24) (pc' := 29) rfl (hb hby d34_24) rfl (tlt (by decide)).1 (by decide) (by decide) ?_
      refine XS.aloadN X12.here hx rfl (hb hby d34_29) rfl rfl ?_
      refine XS.iloadN X12.here hx rfl (hb hby d34_30) rfl ?_
      refine XS.iloadN X12.here hx rfl (hb hby d34_31) rfl ?_
      show Steps p.tables e below (T12.setTop (mkF m 32 #[vR r0, vI p1, vI 0, vI 11] [(.int 0), (.int p1), (.ref r0)])) _
      refine XS.iloadN X12.here hx rfl (hb hby d34_32) rfl ?_
      exact k)
    obtain ⟨_, _, ⟨T15, L15, k15, n15⟩, -, X15, ⟨Lc15, hQ15, lq15, yq15, zq15⟩, st15⟩ := Jvm.LawKit.callS X12 hx (y := (⟨"java/lang/StringLatin1", "indexOfChar", "([BIII)I"⟩ : MethodName)) hown (mvT hZ (own_w hw 160 rfl)) (mvT hZ (own_w hw 161 rfl)) (mvT hZ (own_w hw 120 rfl)) (mvT hZ (own_w hw 162 rfl)) (by decide) (backOf (W := 0) (rm38 l Z a0 hw [] r0 p1 _ h0 n0 Z0 V0) hZ (own_w hw 162 rfl) (own_w hw 120 rfl) (by decide) (by decide)) (g := (mkF m 33 #[vR r0, vI p1, vI 0, vI 11] [(.int 11), (.int 0), (.int p1), (.ref r0)])) rfl (by rw [hml]; rfl) (argsL := [(.ref r0), (.int p1), (.int 0), (.int 11)]) (rest := []) (lenOf pd_26 rfl) rfl (by show 2 * 0 + _ ≤ _; exact Nat.le_of_eq rfl) (hb hby d34_33) (fun _ _ => ⟨rfl, eq12, (by decide : 0 + 0 ≤ _), (by decide : 0 + 0 ≤ _)⟩)
    dsimp only [Pt.U, Pt.locs, Pt.cells, Pt.slots] at X15 lq15 yq15 zq15 st15 hQ15
    subst lq15 yq15 zq15
    obtain ⟨rfl, Nq15, eq15⟩ := hQ15
    have N15 := Fr.app N12 Nq15
    have ks16 := own_c ks14 st15
    obtain ⟨fs, hr, hrun, hended, hW, hsame⟩ := X15.leave (v := some (.int (own_ixc p1))) (fun h => by rw [Bd.returns] at h; cases h) hlk
    refine ⟨_, _, kz _ (ks16 _ ?_), hrun, hended, _, _, rfl, ?_, ⟨_, rfl⟩, hW, hsame.mono (by decide) (by decide)⟩
    · exact retI X15 hx Bd.returns (hb hby d34_36) hr
    · show Q34 Z r0 p1 kr0 h0 n0 _ T15.heap _
      rw [eq15]
      refine ⟨?_, N15, rfl⟩
      rw [own_ixl, if_neg hc4]
def own_ix2 (p1 : Int32) : Int32 := (own_ixl p1)
theorem d33_0 : decode jdk_42_method_80_code 0 = .ok (.aload_n 0, 1) := by decide +kernel
theorem d33_1 : decode jdk_42_method_80_code 1 = .ok (.invokevirtual 492, 3) := by decide +kernel
theorem d33_4 : decode jdk_42_method_80_code 4 = .ok (.ifCond .eq 19, 3) := by decide +kernel
theorem d33_7 : decode jdk_42_method_80_code 7 = .ok (.aload_n 0, 1) := by decide +kernel
theorem d33_8 : decode jdk_42_method_80_code 8 = .ok (.getfield 9, 3) := by decide +kernel
theorem d33_11 : decode jdk_42_method_80_code 11 = .ok (.iload_n 1, 1) := by decide +kernel
theorem d33_12 : decode jdk_42_method_80_code 12 = .ok (.iload_n 2, 1) := by decide +kernel
theorem d33_13 : decode jdk_42_method_80_code 13 = .ok (.aload_n 0, 1) := by decide +kernel
theorem d33_14 : decode jdk_42_method_80_code 14 = .ok (.invokevirtual 505, 3) := by decide +kernel
theorem d33_17 : decode jdk_42_method_80_code 17 = .ok (.invokestatic 637, 3) := by decide +kernel
theorem d33_20 : decode jdk_42_method_80_code 20 = .ok (.goto 16, 3) := by decide +kernel
theorem d33_36 : decode jdk_42_method_80_code 36 = .ok (.ireturn, 1) := by decide +kernel
theorem pn_33 : plainName "java/lang/String" = true := by first | (simp [plainName, overriddenIn]; done) | decide +kernel
theorem pd_15 : parseMethodDescriptor "()I" = some ⟨[], some .int⟩ := by decide +kernel
theorem ef_33 (m : MethodId) (x0 : Addr) (x1 : Int32) (x2 : Int32) : entryFrame m #[(.ref x0), (.int x1), (.int x2)] 3 = mkF m 0 #[.val (.ref x0), .val (.int x1), .val (.int x2)] [] := by first | (simp [entryFrame, mkF, argsToLocals, Value.category]; done) | rfl
def Q33 (Z : State) (r0 : Addr) (p1 : Int32) (y9 : Int32) (t0 : Addr) (kt0 : ClassId) (h0 : Heap) (n0 : Nat) (v : Option Value) (h : Heap) (L : List Loc) : Prop := v = some (.int (own_ix2 p1)) ∧ Fr n0 L ∧ h = h0
set_option maxRecDepth 65536 in
set_option maxHeartbeats 40000000 in
theorem rm33 (l : Launch) (Z : State) (a0 : Array Value) (hw : ∀ d ∈ tables_1, d.before a0 Z = true) (ws : List Jvm.Cond) (r0 : Addr) (p1 : Int32) (y9 : Int32) (t0 : Addr) (kt0 : ClassId) (h0 : Heap) (n0 : Nat) (Z0 : n0 ≤ h0.size) (S9 : own_S9 Z h0 y9) (P9 : ¬ y9 = (0 : Int32)) (E0 : Exa Z h0 r0 "java/lang/String") (Cd0 : own_Cd Z h0 r0 0) (F0 : own_Fv Z h0 r0 t0) (V0 : Arv Z h0 t0 kt0 .byte (11 : Int32) [(.int 34), (.int 35), (.int 42), (.int 44), (.int 47), (.int 58), (.int 63), (.int 91), (.int 93), (.int 123), (.int 125)] (.int 0)) :
    MetFree l (⟨"java/lang/String", "indexOf", "(II)I"⟩ : MethodName) (head1 (Jvm.Cond.code (⟨"java/lang/String", "indexOf", "(II)I"⟩ : MethodName) jdk_42_method_80_code 3 (some .int) :: ws) ({ frames := 2, cells := 0, slots := 0, locals := 32 } : Room)) (fun a U => a = #[(.ref r0), (.int p1), (.int 0)] ∧ Z.Warmed39 U.vm ∧ U.heap = h0) (fun _ _ _ _ _ => True) (fun _ U o U' => ∃ v L, o = .returned v ∧ Q33 Z r0 p1 y9 t0 kt0 h0 n0 v U'.heap L ∧ FrameEnd U o U' L ({ frames := 2, cells := 0, slots := 0, locals := 32 } : Room).cells ({ frames := 2, cells := 0, slots := 0, locals := 32 } : Room).slots) := by
  refine MetFree.of_bodySF (plainFor_of_name pn_33) hisR ?_
  intro p e s m args below meth c s₁ Bd hml0 hP hK
  obtain ⟨rfl, hZ, hh⟩ := hP
  have hx := Bd.exec
  have hby := Bd.bytes
  have hml : c.maxLocals = 3 := hml0
  have hown : s.vm.findClass "java/lang/String" = some m.cls := findClass_of_methodNamed Bd.named
  have hnm := (name_of_methodNamed Bd.named Bd.method).1
  have hlk : meth.locks = false := by first | exact BodyLoose.notSynchronized Bd | exact Body.notSynchronized Bd
  have X0 : Stand p l e ({ frames := 2, cells := 0, slots := 0, locals := 32 } : Room) s m #[(.ref r0), (.int p1), (.int 0)] below meth c s₁ [] 0 0 := Stand.of_body Bd
  have e0 : s₁.heap = h0 := by rw [← hh, Bd.state]; rfl
  have N0 := Fr.nil n0
  have k0 : own_R p e below (s₁.setTop (entryFrame m #[(.ref r0), (.int p1), (.int 0)] 3)) (s₁.setTop (mkF m 0 #[vR r0, vI p1, vI 0] [])) := fun t k => castTop (ef_33 m r0 p1 (0 : Int32)) k
  obtain ⟨A0, hA0⟩ : ∃ z, z = s₁.setTop (entryFrame m #[(.ref r0), (.int p1), (.int 0)] 3) := ⟨_, rfl⟩
  rw [← hA0] at k0
  have kz : ∀ t, Steps p.tables e below A0 t → Steps p.tables e below (s₁.setTop (entryFrame m #[(.ref r0), (.int p1), (.int 0)] 3)) t := fun t q => hA0 ▸ q
  have ks1 : own_R p e below (A0) (s₁.setTop (mkF m 1 #[vR r0, vI p1, vI 0] [(.ref r0)])) := fun t k => k0 t (by
    refine XS.aloadN X0.here hx rfl (hb hby d33_0) rfl rfl ?_
    exact k)
  obtain ⟨cq2, kq2, q2a, q2b, q2c⟩ := isOf hZ e0 E0
  obtain ⟨_, _, ⟨T2, L2, k2, n2⟩, -, X2, ⟨Lc2, hQ2, lq2, yq2, zq2⟩, st2⟩ := X0.virtualBack hx (y := (⟨"java/lang/String", "isLatin1", "()Z"⟩ : MethodName)) (z := (⟨"java/lang/String", "isLatin1", "()Z"⟩ : MethodName)) hown (mvT hZ (own_w hw 93 rfl)) (mvT hZ (own_w hw 94 rfl)) (notFace_of_selects (args := #[]) (mvT hZ (own_w hw 96 rfl))) (mvT hZ (own_w hw 96 rfl)) (mvT hZ (own_w hw 95 rfl)) (by decide) (backOf (W := 0) (rm20_L l Z a0 hw [] r0 y9 h0 n0 Z0 S9 P9 Cd0) hZ (own_w hw 97 rfl) (own_w hw 7 rfl) (by decide) (by decide)) q2a q2c (g := (mkF m 1 #[vR r0, vI p1, vI 0] [(.ref r0)])) rfl (by rw [hml]; rfl) (Steps.refl _) (argsL := []) (rest := []) (lenOf pd_5 rfl) rfl (by show 2 * 0 + _ ≤ _; exact Nat.le_of_eq rfl) (hb hby d33_1) (fun _ _ => ⟨rfl, e0, (by decide : 0 + 0 ≤ _), (by decide : 0 + 0 ≤ _)⟩)
  dsimp only [Pt.U, Pt.locs, Pt.cells, Pt.slots] at X2 lq2 yq2 zq2 st2 hQ2
  subst lq2 yq2 zq2
  obtain ⟨rfl, Nq2, eq2⟩ := hQ2
  have N2 := Fr.app N0 Nq2
  have ks3 := own_ct ks1 st2
  have ks4 : own_R p e below (A0) (T2.setTop (mkF m 8 #[vR r0, vI p1, vI 0] [(.ref r0)])) := fun t k => ks3 t (by
    refine XS.ifNo X2.here hx rfl (hb hby d33_4) rfl ((if0 _ _).trans (feq (by decide)).1) ?_
    refine XS.aloadN X2.here hx rfl (hb hby d33_7) rfl rfl ?_
    exact k)
  obtain ⟨T5, X5, e5, st5⟩ := getF X2 hx hZ hown (host := "") (Or.inl (own_w hw 25 rfl)) Via.refl eq2 F0 (g := (mkF m 8 #[vR r0, vI p1, vI 0] [(.ref r0)])) rfl rfl (hb hby d33_8)
  have ks6 := own_c ks4 st5
  have ks7 : own_R p e below (A0) (T5.setTop (mkF m 14 #[vR r0, vI p1, vI 0] [(.ref r0), (.int 0), (.int p1), (.ref t0)])) := fun t k => ks6 t (by
    refine XS.iloadN X5.here hx rfl (hb hby d33_11) rfl ?_
    refine XS.iloadN X5.here hx rfl (hb hby d33_12) rfl ?_
    refine XS.aloadN X5.here hx rfl (hb hby d33_13) rfl rfl ?_
    exact k)
  obtain ⟨cq8, kq8, q8a, q8b, q8c⟩ := isOf hZ e5 E0
  obtain ⟨_, _, ⟨T8, L8, k8, n8⟩, -, X8, ⟨Lc8, hQ8, lq8, yq8, zq8⟩, st8⟩ := X5.virtualBack hx (y := (⟨"java/lang/String", "length", "()I"⟩ : MethodName)) (z := (⟨"java/lang/String", "length", "()I"⟩ : MethodName)) hown (mvT hZ (own_w hw 146 rfl)) (mvT hZ (own_w hw 79 rfl)) (notFace_of_selects (args := #[]) (mvT hZ (own_w hw 81 rfl))) (mvT hZ (own_w hw 81 rfl)) (mvT hZ (own_w hw 80 rfl)) (by decide) (backOf (W := 3) (rm17 l Z a0 hw [] r0 y9 t0 _ (0 : Int32) (11 : Int32) _ (11 : Int32) h0 n0 Z0 S9 P9 E0 Cd0 F0 V0 (by decide) (by decide)) hZ (own_w hw 82 rfl) (own_w hw 7 rfl) (by decide) (by decide)) q8a q8c (g := (mkF m 14 #[vR r0, vI p1, vI 0] [(.ref r0), (.int 0), (.int p1), (.ref t0)])) rfl (by rw [hml]; rfl) (Steps.refl _) (argsL := []) (rest := [(.int 0), (.int p1), (.ref t0)]) (lenOf pd_15 rfl) rfl (by show 2 * 0 + _ ≤ _; exact Nat.le_of_eq rfl) (hb hby d33_14) (fun _ _ => ⟨rfl, e5, (by decide : 0 + 0 ≤ _), (by decide : 0 + 0 ≤ _)⟩)
  dsimp only [Pt.U, Pt.locs, Pt.cells, Pt.slots] at X8 lq8 yq8 zq8 st8 hQ8
  subst lq8 yq8 zq8
  obtain ⟨rfl, Nq8, eq8⟩ := hQ8
  have N8 := Fr.app N2 Nq8
  have ks9 := own_ct ks7 st8
  obtain ⟨_, _, ⟨T10, L10, k10, n10⟩, -, X10, ⟨Lc10, hQ10, lq10, yq10, zq10⟩, st10⟩ := Jvm.LawKit.callS X8 hx (y := (⟨"java/lang/StringLatin1", "indexOf", "([BIII)I"⟩ : MethodName)) hown (mvT hZ (own_w hw 147 rfl)) (mvT hZ (own_w hw 148 rfl)) (mvT hZ (own_w hw 120 rfl)) (mvT hZ (own_w hw 149 rfl)) (by decide) (backOf (W := 0) (rm34 l Z a0 hw [] t0 p1 _ h0 n0 Z0 V0) hZ (own_w hw 149 rfl) (own_w hw 120 rfl) (by decide) (by decide)) (g := (mkF m 17 #[vR r0, vI p1, vI 0] [(.int 11), (.int 0), (.int p1), (.ref t0)])) rfl (by rw [hml]; rfl) (argsL := [(.ref t0), (.int p1), (.int 0), (.int 11)]) (rest := []) (lenOf pd_26 rfl) rfl (by show 2 * 0 + _ ≤ _; exact Nat.le_of_eq rfl) (hb hby d33_17) (fun _ _ => ⟨rfl, eq8, (by decide : 0 + 0 ≤ _), (by decide : 0 + 0 ≤ _)⟩)
  dsimp only [Pt.U, Pt.locs, Pt.cells, Pt.slots] at X10 lq10 yq10 zq10 st10 hQ10
  subst lq10 yq10 zq10
  obtain ⟨rfl, Nq10, eq10⟩ := hQ10
  have N10 := Fr.app N8 Nq10
  have ks11 := own_c ks9 st10
  have ks12 : own_R p e below (A0) (T10.setTop (mkF m 36 #[vR r0, vI p1, vI 0] [(.int (own_ixl p1))])) := fun t k => ks11 t (by
    refine XS.goto X10.here hx rfl (pc0 := 20) (pc' := 36) rfl (hb hby d33_20) (by decide) (by decide) ?_
    exact k)
  obtain ⟨fs, hr, hrun, hended, hW, hsame⟩ := X10.leave (v := some (.int (own_ixl p1))) (fun h => by rw [Bd.returns] at h; cases h) hlk
  refine ⟨_, _, kz _ (ks12 _ ?_), hrun, hended, _, _, rfl, ?_, ⟨_, rfl⟩, hW, hsame.mono (by decide) (by decide)⟩
  · exact retI X10 hx Bd.returns (hb hby d33_36) hr
  · show Q33 Z r0 p1 y9 t0 kt0 h0 n0 _ T10.heap _
    rw [eq10]
    refine ⟨?_, N10, rfl⟩
    rw [own_ix2]
def own_ix (p1 : Int32) : Int32 := (own_ix2 p1)
theorem d32_0 : decode jdk_42_method_79_code 0 = .ok (.aload_n 0, 1) := by decide +kernel
theorem d32_1 : decode jdk_42_method_79_code 1 = .ok (.iload_n 1, 1) := by decide +kernel
theorem d32_2 : decode jdk_42_method_79_code 2 = .ok (.iconst 0, 1) := by decide +kernel
theorem d32_3 : decode jdk_42_method_79_code 3 = .ok (.invokevirtual 633, 3) := by decide +kernel
theorem d32_6 : decode jdk_42_method_79_code 6 = .ok (.ireturn, 1) := by decide +kernel
theorem pn_32 : plainName "java/lang/String" = true := by first | (simp [plainName, overriddenIn]; done) | decide +kernel
theorem ef_32 (m : MethodId) (x0 : Addr) (x1 : Int32) : entryFrame m #[(.ref x0), (.int x1)] 2 = mkF m 0 #[.val (.ref x0), .val (.int x1)] [] := by first | (simp [entryFrame, mkF, argsToLocals, Value.category]; done) | rfl
def Q32 (Z : State) (r0 : Addr) (p1 : Int32) (y9 : Int32) (t0 : Addr) (kt0 : ClassId) (h0 : Heap) (n0 : Nat) (v : Option Value) (h : Heap) (L : List Loc) : Prop := v = some (.int (own_ix p1)) ∧ Fr n0 L ∧ h = h0
set_option maxRecDepth 65536 in
set_option maxHeartbeats 40000000 in
theorem rm32 (l : Launch) (Z : State) (a0 : Array Value) (hw : ∀ d ∈ tables_1, d.before a0 Z = true) (ws : List Jvm.Cond) (r0 : Addr) (p1 : Int32) (y9 : Int32) (t0 : Addr) (kt0 : ClassId) (h0 : Heap) (n0 : Nat) (Z0 : n0 ≤ h0.size) (S9 : own_S9 Z h0 y9) (P9 : ¬ y9 = (0 : Int32)) (E0 : Exa Z h0 r0 "java/lang/String") (Cd0 : own_Cd Z h0 r0 0) (F0 : own_Fv Z h0 r0 t0) (V0 : Arv Z h0 t0 kt0 .byte (11 : Int32) [(.int 34), (.int 35), (.int 42), (.int 44), (.int 47), (.int 58), (.int 63), (.int 91), (.int 93), (.int 123), (.int 125)] (.int 0)) :
    MetFree l (⟨"java/lang/String", "indexOf", "(I)I"⟩ : MethodName) (head1 (Jvm.Cond.code (⟨"java/lang/String", "indexOf", "(I)I"⟩ : MethodName) jdk_42_method_79_code 2 (some .int) :: ws) ({ frames := 3, cells := 0, slots := 0, locals := 46 } : Room)) (fun a U => a = #[(.ref r0), (.int p1)] ∧ Z.Warmed39 U.vm ∧ U.heap = h0) (fun _ _ _ _ _ => True) (fun _ U o U' => ∃ v L, o = .returned v ∧ Q32 Z r0 p1 y9 t0 kt0 h0 n0 v U'.heap L ∧ FrameEnd U o U' L ({ frames := 3, cells := 0, slots := 0, locals := 46 } : Room).cells ({ frames := 3, cells := 0, slots := 0, locals := 46 } : Room).slots) := by
  refine MetFree.of_bodySF (plainFor_of_name pn_32) hisR ?_
  intro p e s m args below meth c s₁ Bd hml0 hP hK
  obtain ⟨rfl, hZ, hh⟩ := hP
  have hx := Bd.exec
  have hby := Bd.bytes
  have hml : c.maxLocals = 2 := hml0
  have hown : s.vm.findClass "java/lang/String" = some m.cls := findClass_of_methodNamed Bd.named
  have hnm := (name_of_methodNamed Bd.named Bd.method).1
  have hlk : meth.locks = false := by first | exact BodyLoose.notSynchronized Bd | exact Body.notSynchronized Bd
  have X0 : Stand p l e ({ frames := 3, cells := 0, slots := 0, locals := 46 } : Room) s m #[(.ref r0), (.int p1)] below meth c s₁ [] 0 0 := Stand.of_body Bd
  have e0 : s₁.heap = h0 := by rw [← hh, Bd.state]; rfl
  have N0 := Fr.nil n0
  have k0 : own_R p e below (s₁.setTop (entryFrame m #[(.ref r0), (.int p1)] 2)) (s₁.setTop (mkF m 0 #[vR r0, vI p1] [])) := fun t k => castTop (ef_32 m r0 p1) k
  obtain ⟨A0, hA0⟩ : ∃ z, z = s₁.setTop (entryFrame m #[(.ref r0), (.int p1)] 2) := ⟨_, rfl⟩
  rw [← hA0] at k0
  have kz : ∀ t, Steps p.tables e below A0 t → Steps p.tables e below (s₁.setTop (entryFrame m #[(.ref r0), (.int p1)] 2)) t := fun t q => hA0 ▸ q
  have ks1 : own_R p e below (A0) (s₁.setTop (mkF m 3 #[vR r0, vI p1] [(.int 0), (.int p1), (.ref r0)])) := fun t k => k0 t (by
    refine XS.aloadN X0.here hx rfl (hb hby d32_0) rfl rfl ?_
    refine XS.iloadN X0.here hx rfl (hb hby d32_1) rfl ?_
    refine XS.iconst X0.here hx rfl (hb hby d32_2) ?_
    exact k)
  obtain ⟨cq2, kq2, q2a, q2b, q2c⟩ := isOf hZ e0 E0
  obtain ⟨_, _, ⟨T2, L2, k2, n2⟩, -, X2, ⟨Lc2, hQ2, lq2, yq2, zq2⟩, st2⟩ := X0.virtualBack hx (y := (⟨"java/lang/String", "indexOf", "(II)I"⟩ : MethodName)) (z := (⟨"java/lang/String", "indexOf", "(II)I"⟩ : MethodName)) hown (mvT hZ (own_w hw 141 rfl)) (mvT hZ (own_w hw 142 rfl)) (notFace_of_selects (args := #[]) (mvT hZ (own_w hw 144 rfl))) (mvT hZ (own_w hw 144 rfl)) (mvT hZ (own_w hw 143 rfl)) (by decide) (backOf (W := 0) (rm33 l Z a0 hw [] r0 p1 y9 t0 _ h0 n0 Z0 S9 P9 E0 Cd0 F0 V0) hZ (own_w hw 145 rfl) (own_w hw 7 rfl) (by decide) (by decide)) q2a q2c (g := (mkF m 3 #[vR r0, vI p1] [(.int 0), (.int p1), (.ref r0)])) rfl (by rw [hml]; rfl) (Steps.refl _) (argsL := [(.int p1), (.int 0)]) (rest := []) (lenOf pd_25 rfl) rfl (by show 2 * 0 + _ ≤ _; exact Nat.le_of_eq rfl) (hb hby d32_3) (fun _ _ => ⟨rfl, e0, (by decide : 0 + 0 ≤ _), (by decide : 0 + 0 ≤ _)⟩)
  dsimp only [Pt.U, Pt.locs, Pt.cells, Pt.slots] at X2 lq2 yq2 zq2 st2 hQ2
  subst lq2 yq2 zq2
  obtain ⟨rfl, Nq2, eq2⟩ := hQ2
  have N2 := Fr.app N0 Nq2
  have ks3 := own_ct ks1 st2
  obtain ⟨fs, hr, hrun, hended, hW, hsame⟩ := X2.leave (v := some (.int (own_ix2 p1))) (fun h => by rw [Bd.returns] at h; cases h) hlk
  refine ⟨_, _, kz _ (ks3 _ ?_), hrun, hended, _, _, rfl, ?_, ⟨_, rfl⟩, hW, hsame.mono (by decide) (by decide)⟩
  · exact retI X2 hx Bd.returns (hb hby d32_6) hr
  · show Q32 Z r0 p1 y9 t0 kt0 h0 n0 _ T2.heap _
    rw [eq2]
    refine ⟨?_, N2, rfl⟩
    rw [own_ix]
theorem d11_0 : decode jdk_52_method_3_code 0 = .ok (.iload_n 0, 1) := by decide +kernel
theorem d11_1 : decode jdk_52_method_3_code 1 = .ok (.ifCond .ge 11, 3) := by decide +kernel
theorem d11_12 : decode jdk_52_method_3_code 12 = .ok (.iload_n 0, 1) := by decide +kernel
theorem d11_13 : decode jdk_52_method_3_code 13 = .ok (.ldc 20, 2) := by decide +kernel
theorem d11_15 : decode jdk_52_method_3_code 15 = .ok (.if_icmp .lt 40, 3) := by decide +kernel
theorem d11_55 : decode jdk_52_method_3_code 55 = .ok (.iload_n 0, 1) := by decide +kernel
theorem d11_56 : decode jdk_52_method_3_code 56 = .ok (.iconst 1, 1) := by decide +kernel
theorem d11_57 : decode jdk_52_method_3_code 57 = .ok (.ishl, 1) := by decide +kernel
theorem d11_58 : decode jdk_52_method_3_code 58 = .ok (.ireturn, 1) := by decide +kernel
theorem pn_11 : plainName "java/lang/StringUTF16" = true := by first | (simp [plainName, overriddenIn]; done) | decide +kernel
theorem ef_11_1 (m : MethodId) (x0 : Int32) : entryFrame m #[(.int x0)] 1 = mkF m 0 #[.val (.int x0)] [] := by first | (simp [entryFrame, mkF, argsToLocals, Value.category]; done) | rfl
def Q11_1 (Z : State)  (h0 : Heap) (n0 : Nat) (v : Option Value) (h : Heap) (L : List Loc) : Prop := v = some (.int (2 : Int32)) ∧ Fr n0 L ∧ h = h0
set_option maxRecDepth 65536 in
set_option maxHeartbeats 40000000 in
theorem rm11_1 (l : Launch) (Z : State) (a0 : Array Value) (hw : ∀ d ∈ tables_1, d.before a0 Z = true) (ws : List Jvm.Cond)  (h0 : Heap) (n0 : Nat) (Z0 : n0 ≤ h0.size) :
    MetFree l (⟨"java/lang/StringUTF16", "newBytesLength", "(I)I"⟩ : MethodName) (head1 (Jvm.Cond.code (⟨"java/lang/StringUTF16", "newBytesLength", "(I)I"⟩ : MethodName) jdk_52_method_3_code 1 (some .int) :: ws) ({ frames := 0, cells := 0, slots := 0, locals := 0 } : Room)) (fun a U => a = #[(.int 1)] ∧ Z.Warmed39 U.vm ∧ U.heap = h0) (fun _ _ _ _ _ => True) (fun _ U o U' => ∃ v L, o = .returned v ∧ Q11_1 Z  h0 n0 v U'.heap L ∧ FrameEnd U o U' L ({ frames := 0, cells := 0, slots := 0, locals := 0 } : Room).cells ({ frames := 0, cells := 0, slots := 0, locals := 0 } : Room).slots) := by
  refine MetFree.of_bodySF (plainFor_of_name pn_11) hisR ?_
  intro p e s m args below meth c s₁ Bd hml0 hP hK
  obtain ⟨rfl, hZ, hh⟩ := hP
  have hx := Bd.exec
  have hby := Bd.bytes
  have hml : c.maxLocals = 1 := hml0
  have hown : s.vm.findClass "java/lang/StringUTF16" = some m.cls := findClass_of_methodNamed Bd.named
  have hnm := (name_of_methodNamed Bd.named Bd.method).1
  have hlk : meth.locks = false := by first | exact BodyLoose.notSynchronized Bd | exact Body.notSynchronized Bd
  have X0 : Stand p l e ({ frames := 0, cells := 0, slots := 0, locals := 0 } : Room) s m #[(.int 1)] below meth c s₁ [] 0 0 := Stand.of_body Bd
  have e0 : s₁.heap = h0 := by rw [← hh, Bd.state]; rfl
  have N0 := Fr.nil n0
  have k0 : own_R p e below (s₁.setTop (entryFrame m #[(.int 1)] 1)) (s₁.setTop (mkF m 0 #[vI 1] [])) := fun t k => castTop (ef_11_1 m (1 : Int32)) k
  obtain ⟨A0, hA0⟩ : ∃ z, z = s₁.setTop (entryFrame m #[(.int 1)] 1) := ⟨_, rfl⟩
  rw [← hA0] at k0
  have kz : ∀ t, Steps p.tables e below A0 t → Steps p.tables e below (s₁.setTop (entryFrame m #[(.int 1)] 1)) t := fun t q => hA0 ▸ q
  have ks1 : own_R p e below (A0) (s₁.setTop (mkF m 58 #[vI 1] [(.int 2)])) := fun t k => k0 t (by
    refine XS.iloadN X0.here hx rfl (hb hby d11_0) rfl ?_
    refine XS.ifYes X0.here hx rfl (pc0 := 1) (pc' := 12) rfl (hb hby d11_1) rfl ((if0 _ _).trans (flt (by decide)).2.1) (by decide) (by decide) ?_
    refine XS.iloadN X0.here hx rfl (hb hby d11_12) rfl ?_
    refine X0.ldcInt hx hown (mvT hZ (own_w hw 54 rfl)) (g := (mkF m 13 #[vI 1] [(.int 1)])) rfl (hb hby d11_13) _ ?_
    refine XS.icmpYes X0.here hx rfl (pc0 := 15) (pc' := 55) rfl (hb hby d11_15) rfl (tlt (by decide)).1 (by decide) (by decide) ?_
    refine XS.iloadN X0.here hx rfl (hb hby d11_55) rfl ?_
    refine XS.iconst X0.here hx rfl (hb hby d11_56) ?_
    show Steps p.tables e below (s₁.setTop (mkF m 57 #[vI 1] [(.int 1), (.int 1)])) _
    refine XS.ishl X0.here hx rfl (hb hby d11_57) rfl ?_
    show Steps p.tables e below (s₁.setTop (mkF m 58 #[vI 1] [(.int ((1 : Int32) <<< ((1 : Int32) &&& 31)))])) _
    rw [show ((1 : Int32) <<< ((1 : Int32) &&& 31)) = (2 : Int32) from by decide]
    exact k)
  obtain ⟨fs, hr, hrun, hended, hW, hsame⟩ := X0.leave (v := some (.int 2)) (fun h => by rw [Bd.returns] at h; cases h) hlk
  refine ⟨_, _, kz _ (ks1 _ ?_), hrun, hended, _, _, rfl, ?_, ⟨_, rfl⟩, hW, hsame.mono (by decide) (by decide)⟩
  · exact retI X0 hx Bd.returns (hb hby d11_58) hr
  · show Q11_1 Z  h0 n0 _ s₁.heap _
    rw [e0]
    exact ⟨rfl, N0, rfl⟩
theorem d10_0 : decode jdk_52_method_2_code 0 = .ok (.iload_n 0, 1) := by decide +kernel
theorem d10_1 : decode jdk_52_method_2_code 1 = .ok (.invokestatic 11, 3) := by decide +kernel
theorem d10_4 : decode jdk_52_method_2_code 4 = .ok (.newarray .byte, 2) := by decide +kernel
theorem d10_6 : decode jdk_52_method_2_code 6 = .ok (.areturn, 1) := by decide +kernel
theorem pn_10 : plainName "java/lang/StringUTF16" = true := by first | (simp [plainName, overriddenIn]; done) | decide +kernel
theorem pd_9 : parseMethodDescriptor "(I)I" = some ⟨[.int], some .int⟩ := by decide +kernel
theorem ef_10_1 (m : MethodId) (x0 : Int32) : entryFrame m #[(.int x0)] 1 = mkF m 0 #[.val (.int x0)] [] := by first | (simp [entryFrame, mkF, argsToLocals, Value.category]; done) | rfl
def Q10_1 (Z : State)  (h0 : Heap) (n0 : Nat) (v : Option Value) (h : Heap) (L : List Loc) : Prop := ∃ (b : Addr) (k : ClassId), v = some (.ref b) ∧ Fr n0 L ∧ Keep h0 h [] ∧ n0 ≤ b ∧ h0.size ≤ b ∧ Arv Z h b k .byte (2 : Int32) [(.int 0), (.int 0)] (.int 0)
set_option maxRecDepth 65536 in
set_option maxHeartbeats 40000000 in
theorem rm10_1 (l : Launch) (Z : State) (a0 : Array Value) (hw : ∀ d ∈ tables_1, d.before a0 Z = true) (ws : List Jvm.Cond)  (h0 : Heap) (n0 : Nat) (Z0 : n0 ≤ h0.size) :
    MetFree l (⟨"java/lang/StringUTF16", "newBytesFor", "(I)[B"⟩ : MethodName) (head1 (Jvm.Cond.code (⟨"java/lang/StringUTF16", "newBytesFor", "(I)[B"⟩ : MethodName) jdk_52_method_2_code 1 (some (.array .byte)) :: ws) ({ frames := 1, cells := 1, slots := 2, locals := 12 } : Room)) (fun a U => a = #[(.int 1)] ∧ Z.Warmed39 U.vm ∧ U.heap = h0) (fun _ _ _ _ _ => True) (fun _ U o U' => ∃ v L, o = .returned v ∧ Q10_1 Z  h0 n0 v U'.heap L ∧ FrameEnd U o U' L ({ frames := 1, cells := 1, slots := 2, locals := 12 } : Room).cells ({ frames := 1, cells := 1, slots := 2, locals := 12 } : Room).slots) := by
  refine MetFree.of_bodySF (plainFor_of_name pn_10) hisR ?_
  intro p e s m args below meth c s₁ Bd hml0 hP hK
  obtain ⟨rfl, hZ, hh⟩ := hP
  have hx := Bd.exec
  have hby := Bd.bytes
  have hml : c.maxLocals = 1 := hml0
  have hown : s.vm.findClass "java/lang/StringUTF16" = some m.cls := findClass_of_methodNamed Bd.named
  have hnm := (name_of_methodNamed Bd.named Bd.method).1
  have hlk : meth.locks = false := by first | exact BodyLoose.notSynchronized Bd | exact Body.notSynchronized Bd
  have X0 : Stand p l e ({ frames := 1, cells := 1, slots := 2, locals := 12 } : Room) s m #[(.int 1)] below meth c s₁ [] 0 0 := Stand.of_body Bd
  have e0 : s₁.heap = h0 := by rw [← hh, Bd.state]; rfl
  have N0 := Fr.nil n0
  have k0 : own_R p e below (s₁.setTop (entryFrame m #[(.int 1)] 1)) (s₁.setTop (mkF m 0 #[vI 1] [])) := fun t k => castTop (ef_10_1 m (1 : Int32)) k
  obtain ⟨A0, hA0⟩ : ∃ z, z = s₁.setTop (entryFrame m #[(.int 1)] 1) := ⟨_, rfl⟩
  rw [← hA0] at k0
  have kz : ∀ t, Steps p.tables e below A0 t → Steps p.tables e below (s₁.setTop (entryFrame m #[(.int 1)] 1)) t := fun t q => hA0 ▸ q
  have ks1 : own_R p e below (A0) (s₁.setTop (mkF m 1 #[vI 1] [(.int 1)])) := fun t k => k0 t (by
    refine XS.iloadN X0.here hx rfl (hb hby d10_0) rfl ?_
    exact k)
  obtain ⟨_, _, ⟨T2, L2, k2, n2⟩, -, X2, ⟨Lc2, hQ2, lq2, yq2, zq2⟩, st2⟩ := Jvm.LawKit.callS X0 hx (y := (⟨"java/lang/StringUTF16", "newBytesLength", "(I)I"⟩ : MethodName)) hown (mvT hZ (own_w hw 51 rfl)) (mvT hZ (own_w hw 52 rfl)) (mvT hZ (own_w hw 40 rfl)) (mvT hZ (own_w hw 53 rfl)) (by decide) (backOf (W := 0) (rm11_1 l Z a0 hw []  h0 n0 Z0 ) hZ (own_w hw 53 rfl) (own_w hw 40 rfl) (by decide) (by decide)) (g := (mkF m 1 #[vI 1] [(.int 1)])) rfl (by rw [hml]; rfl) (argsL := [(.int 1)]) (rest := []) (lenOf pd_9 rfl) rfl (by show 2 * 0 + _ ≤ _; exact Nat.le_of_eq rfl) (hb hby d10_1) (fun _ _ => ⟨rfl, e0, (by decide : 0 + 0 ≤ _), (by decide : 0 + 0 ≤ _)⟩)
  dsimp only [Pt.U, Pt.locs, Pt.cells, Pt.slots] at X2 lq2 yq2 zq2 st2 hQ2
  subst lq2 yq2 zq2
  obtain ⟨rfl, Nq2, eq2⟩ := hQ2
  have N2 := Fr.app N0 Nq2
  have ks3 := own_c ks1 st2
  obtain ⟨T4, h4, c4, X4, e4, E4, A4, st4⟩ := newP X2 hx hZ (own_w hw 20 rfl) eq2 (g := (mkF m 4 #[vI 1] [(.int 2)])) rfl (hb hby d10_4) rfl (by decide) (cap := 2) (by decide) (by decide) (by decide) (by decide)
  obtain ⟨b4, g4⟩ : ∃ z, z = h0.size := ⟨_, rfl⟩
  rw [← g4] at A4 st4
  have g_b4 : n0 ≤ b4 := Nat.le_trans Z0 (Nat.le_of_eq g4.symm)
  have sz_b4 : h0.size ≤ b4 := Nat.le_trans (Keep.refl h0 []).1 (Nat.le_of_eq g4.symm)
  have KH4 : Keep h0 h4 [] := (Keep.refl h0 []).ext E4
  have Zn4 : n0 ≤ h4.size := Nat.le_trans Z0 E4.1
  have V4 : Arv Z h4 b4 c4 .byte (2 : Int32) [(.int (0 : Int32)), (.int (0 : Int32))] (.int (0 : Int32)) := (Arv.new A4 (by decide)).pad (pad_rep [] (.int (0 : Int32)) 2)
  have ks5 := own_c ks3 st4
  obtain ⟨fs, hr, hrun, hended, hW, hsame⟩ := X4.leave (v := some (.ref b4)) (fun h => by rw [Bd.returns] at h; cases h) hlk
  refine ⟨_, _, kz _ (ks5 _ ?_), hrun, hended, _, _, rfl, ?_, ⟨_, rfl⟩, hW, hsame.mono (by decide) (by decide)⟩
  · exact retOut X4 hx Bd.returns rfl (Or.inr (Or.inr (Or.inr (Or.inr ⟨rfl, rfl, rfl⟩)))) (hb hby d10_6) hr
  · show Q10_1 Z  h0 n0 _ T4.heap _
    rw [e4]
    exact ⟨_, _, rfl, N2, KH4, g_b4, sz_b4, V4⟩
theorem d12_0 : decode jdk_52_method_4_code 0 = .ok (.getstatic 44, 3) := by decide +kernel
theorem d12_3 : decode jdk_52_method_4_code 3 = .ok (.ifCond .ne 25, 3) := by decide +kernel
theorem d12_28 : decode jdk_52_method_4_code 28 = .ok (.iload_n 1, 1) := by decide +kernel
theorem d12_29 : decode jdk_52_method_4_code 29 = .ok (.iconst 1, 1) := by decide +kernel
theorem d12_30 : decode jdk_52_method_4_code 30 = .ok (.ishl, 1) := by decide +kernel
theorem d12_31 : decode jdk_52_method_4_code 31 = .ok (.istore_n 1, 1) := by decide +kernel
theorem d12_32 : decode jdk_52_method_4_code 32 = .ok (.aload_n 0, 1) := by decide +kernel
theorem d12_33 : decode jdk_52_method_4_code 33 = .ok (.iload_n 1, 1) := by decide +kernel
theorem d12_34 : decode jdk_52_method_4_code 34 = .ok (.iinc 1 1, 3) := by decide +kernel
theorem d12_37 : decode jdk_52_method_4_code 37 = .ok (.iload_n 2, 1) := by decide +kernel
theorem d12_38 : decode jdk_52_method_4_code 38 = .ok (.getstatic 59, 3) := by decide +kernel
theorem d12_41 : decode jdk_52_method_4_code 41 = .ok (.ishr, 1) := by decide +kernel
theorem d12_42 : decode jdk_52_method_4_code 42 = .ok (.i2b, 1) := by decide +kernel
theorem d12_43 : decode jdk_52_method_4_code 43 = .ok (.bastore, 1) := by decide +kernel
theorem d12_44 : decode jdk_52_method_4_code 44 = .ok (.aload_n 0, 1) := by decide +kernel
theorem d12_45 : decode jdk_52_method_4_code 45 = .ok (.iload_n 1, 1) := by decide +kernel
theorem d12_46 : decode jdk_52_method_4_code 46 = .ok (.iload_n 2, 1) := by decide +kernel
theorem d12_47 : decode jdk_52_method_4_code 47 = .ok (.getstatic 63, 3) := by decide +kernel
theorem d12_50 : decode jdk_52_method_4_code 50 = .ok (.ishr, 1) := by decide +kernel
theorem d12_51 : decode jdk_52_method_4_code 51 = .ok (.i2b, 1) := by decide +kernel
theorem d12_52 : decode jdk_52_method_4_code 52 = .ok (.bastore, 1) := by decide +kernel
theorem d12_53 : decode jdk_52_method_4_code 53 = .ok (.return_, 1) := by decide +kernel
theorem pn_12 : plainName "java/lang/StringUTF16" = true := by first | (simp [plainName, overriddenIn]; done) | decide +kernel
theorem ef_12_1_0 (m : MethodId) (x0 : Addr) (x1 : Int32) (x2 : Int32) : entryFrame m #[(.ref x0), (.int x1), (.int x2)] 3 = mkF m 0 #[.val (.ref x0), .val (.int x1), .val (.int x2)] [] := by first | (simp [entryFrame, mkF, argsToLocals, Value.category]; done) | rfl
def Q12_1_0 (Z : State) (r0 : Addr) (p2 : Int32) (kr0 : ClassId) (h0 : Heap) (n0 : Nat) (v : Option Value) (h : Heap) (L : List Loc) : Prop := v = none ∧ Fr n0 L ∧ Keep h0 h [r0] ∧ Arv Z h r0 kr0 .byte (2 : Int32) [(.int ((p2 >>> ((0 : Int32) &&& 31)).toInt8.toInt32)), (.int ((p2 >>> ((8 : Int32) &&& 31)).toInt8.toInt32))] (.int 0)
set_option maxRecDepth 65536 in
set_option maxHeartbeats 40000000 in
theorem rm12_1_0 (l : Launch) (Z : State) (a0 : Array Value) (hw : ∀ d ∈ tables_1, d.before a0 Z = true) (ws : List Jvm.Cond) (r0 : Addr) (p2 : Int32) (kr0 : ClassId) (h0 : Heap) (n0 : Nat) (Z0 : n0 ≤ h0.size) (S7a : own_S7a Z h0) (S7b : own_S7b Z h0) (S7c : own_S7c Z h0) (V0 : Arv Z h0 r0 kr0 .byte (2 : Int32) [(.int 0), (.int 0)] (.int 0)) (g_r0 : n0 ≤ r0) :
    MetFree l (⟨"java/lang/StringUTF16", "putChar", "([BII)V"⟩ : MethodName) (head1 (Jvm.Cond.code (⟨"java/lang/StringUTF16", "putChar", "([BII)V"⟩ : MethodName) jdk_52_method_4_code 3 none :: ws) ({ frames := 0, cells := 0, slots := 0, locals := 0 } : Room)) (fun a U => a = #[(.ref r0), (.int 0), (.int p2)] ∧ Z.Warmed39 U.vm ∧ U.heap = h0) (fun _ _ _ _ _ => True) (fun _ U o U' => ∃ v L, o = .returned v ∧ Q12_1_0 Z r0 p2 kr0 h0 n0 v U'.heap L ∧ FrameEnd U o U' L ({ frames := 0, cells := 0, slots := 0, locals := 0 } : Room).cells ({ frames := 0, cells := 0, slots := 0, locals := 0 } : Room).slots) := by
  refine MetFree.of_bodySF (plainFor_of_name pn_12) hisR ?_
  intro p e s m args below meth c s₁ Bd hml0 hP hK
  obtain ⟨rfl, hZ, hh⟩ := hP
  have hx := Bd.exec
  have hby := Bd.bytes
  have hml : c.maxLocals = 3 := hml0
  have hown : s.vm.findClass "java/lang/StringUTF16" = some m.cls := findClass_of_methodNamed Bd.named
  have hnm := (name_of_methodNamed Bd.named Bd.method).1
  have hlk : meth.locks = false := by first | exact BodyLoose.notSynchronized Bd | exact Body.notSynchronized Bd
  have X0 : Stand p l e ({ frames := 0, cells := 0, slots := 0, locals := 0 } : Room) s m #[(.ref r0), (.int 0), (.int p2)] below meth c s₁ [] 0 0 := Stand.of_body Bd
  have e0 : s₁.heap = h0 := by rw [← hh, Bd.state]; rfl
  have N0 := Fr.nil n0
  have k0 : own_R p e below (s₁.setTop (entryFrame m #[(.ref r0), (.int 0), (.int p2)] 3)) (s₁.setTop (mkF m 0 #[vR r0, vI 0, vI p2] [])) := fun t k => castTop (ef_12_1_0 m r0 (0 : Int32) p2) k
  obtain ⟨A0, hA0⟩ : ∃ z, z = s₁.setTop (entryFrame m #[(.ref r0), (.int 0), (.int p2)] 3) := ⟨_, rfl⟩
  rw [← hA0] at k0
  have kz : ∀ t, Steps p.tables e below A0 t → Steps p.tables e below (s₁.setTop (entryFrame m #[(.ref r0), (.int 0), (.int p2)] 3)) t := fun t q => hA0 ▸ q
  obtain ⟨T1, X1, e1, st1⟩ := getS2 X0 hx hZ hown (host := "") (Or.inl (own_w hw 58 rfl)) Via.refl e0 S7a (g := (mkF m 0 #[vR r0, vI 0, vI p2] [])) rfl (hb hby d12_0)
  have ks2 := own_c k0 st1
  have ks3 : own_R p e below (A0) (T1.setTop (mkF m 38 #[vR r0, vI 1, vI p2] [(.int p2), (.int 0), (.ref r0)])) := fun t k => ks2 t (by
    refine XS.ifYes X1.here hx rfl (pc0 := 3) (pc' := 28) rfl (hb hby d12_3) rfl ((if0 _ _).trans (feq (by decide)).2) (by decide) (by decide) ?_
    refine XS.iloadN X1.here hx rfl (hb hby d12_28) rfl ?_
    refine XS.iconst X1.here hx rfl (hb hby d12_29) ?_
    show Steps p.tables e below (T1.setTop (mkF m 30 #[vR r0, vI 0, vI p2] [(.int 1), (.int 0)])) _
    refine XS.ishl X1.here hx rfl (hb hby d12_30) rfl ?_
    show Steps p.tables e below (T1.setTop (mkF m 31 #[vR r0, vI 0, vI p2] [(.int ((0 : Int32) <<< ((1 : Int32) &&& 31)))])) _
    rw [show ((0 : Int32) <<< ((1 : Int32) &&& 31)) = (0 : Int32) from by decide]
    refine XS.istoreN X1.here hx rfl (hb hby d12_31) rfl (l' := #[vR r0, vI 0, vI p2]) rfl ?_
    refine XS.aloadN X1.here hx rfl (hb hby d12_32) rfl rfl ?_
    refine XS.iloadN X1.here hx rfl (hb hby d12_33) rfl ?_
    show Steps p.tables e below (T1.setTop (mkF m 34 #[vR r0, vI 0, vI p2] [(.int 0), (.ref r0)])) _
    refine XS.iinc X1.here hx rfl (hb hby d12_34) rfl (l' := #[vR r0, vI 1, vI p2]) rfl ?_
    refine XS.iloadN X1.here hx rfl (hb hby d12_37) rfl ?_
    exact k)
  obtain ⟨T4, X4, e4, st4⟩ := getS2 X1 hx hZ hown (host := "") (Or.inl (own_w hw 59 rfl)) Via.refl e1 S7b (g := (mkF m 38 #[vR r0, vI 1, vI p2] [(.int p2), (.int 0), (.ref r0)])) rfl (hb hby d12_38)
  have ks5 := own_c ks3 st4
  have ks6 : own_R p e below (A0) (T4.setTop (mkF m 43 #[vR r0, vI 1, vI p2] [(.int ((p2 >>> ((0 : Int32) &&& 31)).toInt8.toInt32)), (.int 0), (.ref r0)])) := fun t k => ks5 t (by
    refine XS.ishr X4.here hx rfl (hb hby d12_41) rfl ?_
    refine XS.i2b X4.here hx rfl (hb hby d12_42) rfl ?_
    exact k)
  obtain ⟨cl7, Ar7, qa7, S7, Na7, Ha7, Ga7⟩ := id V0
  have hin7 : ¬ ((0 : Int32) < 0 ∨ cl7.slots.size ≤ ((0 : Int32)).toNatClampNeg) := inb_of S7 ⟨by decide, by decide⟩
  obtain ⟨T8, h8, X8, e8, W8, st8⟩ := stB X4 hx hZ e4 Ar7 (j := (0 : Int32)) hin7 (g := (mkF m 43 #[vR r0, vI 1, vI p2] [(.int ((p2 >>> ((0 : Int32) &&& 31)).toInt8.toInt32)), (.int 0), (.ref r0)])) rfl rfl (hb hby d12_43)
  have V8 : Arv Z h8 r0 kr0 .byte (2 : Int32) [(.int (((p2 >>> ((0 : Int32) &&& 31)).toInt8.toInt32).toInt8.toInt32)), (.int 0)] (.int 0) := Arv.set Ar7 qa7 S7 Na7 Ha7 Ga7 (fits_nar_byte _) W8 0 rfl (Nat.le_of_ble_eq_true rfl)
  rw [Int8.toInt8_toInt32] at V8
  have KH8 : Keep h0 h8 [r0] := (Keep.refl h0 [r0]).wr W8 (Or.inl (List.mem_of_getElem? (i := 0) rfl))
  have Zn8 : n0 ≤ h8.size := Nat.le_trans Z0 (Keep.of_wr W8).1
  have N8 := Fr.snoc X8 N0 g_r0
  have ks9 := own_c ks6 st8
  have ks10 : own_R p e below (A0) (T8.setTop (mkF m 47 #[vR r0, vI 1, vI p2] [(.int p2), (.int 1), (.ref r0)])) := fun t k => ks9 t (by
    refine XS.aloadN X8.here hx rfl (hb hby d12_44) rfl rfl ?_
    refine XS.iloadN X8.here hx rfl (hb hby d12_45) rfl ?_
    refine XS.iloadN X8.here hx rfl (hb hby d12_46) rfl ?_
    exact k)
  have f11 := (S7c.wr W8)
  obtain ⟨T12, X12, e12, st12⟩ := getS2 X8 hx hZ hown (host := "") (Or.inl (own_w hw 60 rfl)) Via.refl e8 f11 (g := (mkF m 47 #[vR r0, vI 1, vI p2] [(.int p2), (.int 1), (.ref r0)])) rfl (hb hby d12_47)
  have ks13 := own_c ks10 st12
  have ks14 : own_R p e below (A0) (T12.setTop (mkF m 52 #[vR r0, vI 1, vI p2] [(.int ((p2 >>> ((8 : Int32) &&& 31)).toInt8.toInt32)), (.int 1), (.ref r0)])) := fun t k => ks13 t (by
    refine XS.ishr X12.here hx rfl (hb hby d12_50) rfl ?_
    refine XS.i2b X12.here hx rfl (hb hby d12_51) rfl ?_
    exact k)
  obtain ⟨cl15, Ar15, qa15, S15, Na15, Ha15, Ga15⟩ := id V8
  have hin15 : ¬ ((1 : Int32) < 0 ∨ cl15.slots.size ≤ ((1 : Int32)).toNatClampNeg) := inb_of S15 ⟨by decide, by decide⟩
  obtain ⟨T16, h16, X16, e16, W16, st16⟩ := stB X12 hx hZ e12 Ar15 (j := (1 : Int32)) hin15 (g := (mkF m 52 #[vR r0, vI 1, vI p2] [(.int ((p2 >>> ((8 : Int32) &&& 31)).toInt8.toInt32)), (.int 1), (.ref r0)])) rfl rfl (hb hby d12_52)
  have V16 : Arv Z h16 r0 kr0 .byte (2 : Int32) [(.int ((p2 >>> ((0 : Int32) &&& 31)).toInt8.toInt32)), (.int (((p2 >>> ((8 : Int32) &&& 31)).toInt8.toInt32).toInt8.toInt32))] (.int 0) := Arv.set Ar15 qa15 S15 Na15 Ha15 Ga15 (fits_nar_byte _) W16 1 rfl (Nat.le_of_ble_eq_true rfl)
  rw [Int8.toInt8_toInt32] at V16
  have KH16 : Keep h0 h16 [r0] := KH8.wr W16 (Or.inl (List.mem_of_getElem? (i := 0) rfl))
  have Zn16 : n0 ≤ h16.size := Nat.le_trans Zn8 (Keep.of_wr W16).1
  have N16 := Fr.snoc X16 N8 g_r0
  have ks17 := own_c ks14 st16
  obtain ⟨fs, hr, hrun, hended, hW, hsame⟩ := X16.leave (v := none) (fun _ => rfl) hlk
  refine ⟨_, _, kz _ (ks17 _ ?_), hrun, hended, _, _, rfl, ?_, ⟨_, rfl⟩, hW, hsame.mono (by decide) (by decide)⟩
  · exact X16.returnOut hx Bd.returns (hb hby d12_53) hr
  · show Q12_1_0 Z r0 p2 kr0 h0 n0 _ T16.heap _
    rw [e16]
    exact ⟨rfl, N16, KH16, V16⟩
theorem d27_0 : decode jdk_43_method_3_code 0 = .ok (.iload_n 0, 1) := by decide +kernel
theorem d27_1 : decode jdk_43_method_3_code 1 = .ok (.sipush 255, 3) := by decide +kernel
theorem d27_4 : decode jdk_43_method_3_code 4 = .ok (.if_icmp .gt 7, 3) := by decide +kernel
theorem d27_7 : decode jdk_43_method_3_code 7 = .ok (.iconst 1, 1) := by decide +kernel
theorem d27_8 : decode jdk_43_method_3_code 8 = .ok (.goto 4, 3) := by decide +kernel
theorem d27_12 : decode jdk_43_method_3_code 12 = .ok (.ireturn, 1) := by decide +kernel
theorem pn_27 : plainName "java/lang/StringLatin1" = true := by first | (simp [plainName, overriddenIn]; done) | decide +kernel
theorem ef_27_L (m : MethodId) (x0 : Int32) : entryFrame m #[(.int x0)] 1 = mkF m 0 #[.val (.int x0)] [] := by first | (simp [entryFrame, mkF, argsToLocals, Value.category]; done) | rfl
def Q27_L (Z : State) (p0 : Int32) (h0 : Heap) (n0 : Nat) (v : Option Value) (h : Heap) (L : List Loc) : Prop := v = some (.int (1 : Int32)) ∧ Fr n0 L ∧ h = h0
set_option maxRecDepth 65536 in
set_option maxHeartbeats 40000000 in
theorem rm27_L (l : Launch) (Z : State) (a0 : Array Value) (hw : ∀ d ∈ tables_1, d.before a0 Z = true) (ws : List Jvm.Cond) (p0 : Int32) (h0 : Heap) (n0 : Nat) (Z0 : n0 ≤ h0.size) (P0 : ¬ (255 : Int32) < p0) :
    MetFree l (⟨"java/lang/StringLatin1", "canEncode", "(C)Z"⟩ : MethodName) (head1 (Jvm.Cond.code (⟨"java/lang/StringLatin1", "canEncode", "(C)Z"⟩ : MethodName) jdk_43_method_3_code 1 (some .boolean) :: ws) ({ frames := 0, cells := 0, slots := 0, locals := 0 } : Room)) (fun a U => a = #[(.int p0)] ∧ Z.Warmed39 U.vm ∧ U.heap = h0) (fun _ _ _ _ _ => True) (fun _ U o U' => ∃ v L, o = .returned v ∧ Q27_L Z p0 h0 n0 v U'.heap L ∧ FrameEnd U o U' L ({ frames := 0, cells := 0, slots := 0, locals := 0 } : Room).cells ({ frames := 0, cells := 0, slots := 0, locals := 0 } : Room).slots) := by
  refine MetFree.of_bodySF (plainFor_of_name pn_27) hisR ?_
  intro p e s m args below meth c s₁ Bd hml0 hP hK
  obtain ⟨rfl, hZ, hh⟩ := hP
  have hx := Bd.exec
  have hby := Bd.bytes
  have hml : c.maxLocals = 1 := hml0
  have hown : s.vm.findClass "java/lang/StringLatin1" = some m.cls := findClass_of_methodNamed Bd.named
  have hnm := (name_of_methodNamed Bd.named Bd.method).1
  have hlk : meth.locks = false := by first | exact BodyLoose.notSynchronized Bd | exact Body.notSynchronized Bd
  have X0 : Stand p l e ({ frames := 0, cells := 0, slots := 0, locals := 0 } : Room) s m #[(.int p0)] below meth c s₁ [] 0 0 := Stand.of_body Bd
  have e0 : s₁.heap = h0 := by rw [← hh, Bd.state]; rfl
  have N0 := Fr.nil n0
  have k0 : own_R p e below (s₁.setTop (entryFrame m #[(.int p0)] 1)) (s₁.setTop (mkF m 0 #[vI p0] [])) := fun t k => castTop (ef_27_L m p0) k
  obtain ⟨A0, hA0⟩ : ∃ z, z = s₁.setTop (entryFrame m #[(.int p0)] 1) := ⟨_, rfl⟩
  rw [← hA0] at k0
  have kz : ∀ t, Steps p.tables e below A0 t → Steps p.tables e below (s₁.setTop (entryFrame m #[(.int p0)] 1)) t := fun t q => hA0 ▸ q
  have ks1 : own_R p e below (A0) (s₁.setTop (mkF m 12 #[vI p0] [(.int 1)])) := fun t k => k0 t (by
    refine XS.iloadN X0.here hx rfl (hb hby d27_0) rfl ?_
    refine XS.sipush X0.here hx rfl (hb hby d27_1) ?_
    refine XS.icmpNo X0.here hx rfl (hb hby d27_4) rfl (flt P0).2.2.1 ?_
    show Steps p.tables e below (s₁.setTop (mkF m 7 #[vI p0] [])) _
    refine XS.iconst X0.here hx rfl (hb hby d27_7) ?_
    refine XS.goto X0.here hx rfl (pc0 := 8) (pc' := 12) rfl (hb hby d27_8) (by decide) (by decide) ?_
    exact k)
  obtain ⟨fs, hr, hrun, hended, hW, hsame⟩ := X0.leave (v := some (.int 1)) (fun h => by rw [Bd.returns] at h; cases h) hlk
  refine ⟨_, _, kz _ (ks1 _ ?_), hrun, hended, _, _, rfl, ?_, ⟨_, rfl⟩, hW, hsame.mono (by decide) (by decide)⟩
  · exact retN X0 hx (t := .boolean) Bd.returns (by simp) (hb hby d27_12) hr
  · show Q27_L Z p0 h0 n0 _ s₁.heap _
    rw [e0]
    exact ⟨rfl, N0, rfl⟩
theorem d27_11 : decode jdk_43_method_3_code 11 = .ok (.iconst 0, 1) := by decide +kernel
theorem ef_27_U (m : MethodId) (x0 : Int32) : entryFrame m #[(.int x0)] 1 = mkF m 0 #[.val (.int x0)] [] := by first | (simp [entryFrame, mkF, argsToLocals, Value.category]; done) | rfl
def Q27_U (Z : State) (p0 : Int32) (h0 : Heap) (n0 : Nat) (v : Option Value) (h : Heap) (L : List Loc) : Prop := v = some (.int (0 : Int32)) ∧ Fr n0 L ∧ h = h0
set_option maxRecDepth 65536 in
set_option maxHeartbeats 40000000 in
theorem rm27_U (l : Launch) (Z : State) (a0 : Array Value) (hw : ∀ d ∈ tables_1, d.before a0 Z = true) (ws : List Jvm.Cond) (p0 : Int32) (h0 : Heap) (n0 : Nat) (Z0 : n0 ≤ h0.size) (P0 : (255 : Int32) < p0) :
    MetFree l (⟨"java/lang/StringLatin1", "canEncode", "(C)Z"⟩ : MethodName) (head1 (Jvm.Cond.code (⟨"java/lang/StringLatin1", "canEncode", "(C)Z"⟩ : MethodName) jdk_43_method_3_code 1 (some .boolean) :: ws) ({ frames := 0, cells := 0, slots := 0, locals := 0 } : Room)) (fun a U => a = #[(.int p0)] ∧ Z.Warmed39 U.vm ∧ U.heap = h0) (fun _ _ _ _ _ => True) (fun _ U o U' => ∃ v L, o = .returned v ∧ Q27_U Z p0 h0 n0 v U'.heap L ∧ FrameEnd U o U' L ({ frames := 0, cells := 0, slots := 0, locals := 0 } : Room).cells ({ frames := 0, cells := 0, slots := 0, locals := 0 } : Room).slots) := by
  refine MetFree.of_bodySF (plainFor_of_name pn_27) hisR ?_
  intro p e s m args below meth c s₁ Bd hml0 hP hK
  obtain ⟨rfl, hZ, hh⟩ := hP
  have hx := Bd.exec
  have hby := Bd.bytes
  have hml : c.maxLocals = 1 := hml0
  have hown : s.vm.findClass "java/lang/StringLatin1" = some m.cls := findClass_of_methodNamed Bd.named
  have hnm := (name_of_methodNamed Bd.named Bd.method).1
  have hlk : meth.locks = false := by first | exact BodyLoose.notSynchronized Bd | exact Body.notSynchronized Bd
  have X0 : Stand p l e ({ frames := 0, cells := 0, slots := 0, locals := 0 } : Room) s m #[(.int p0)] below meth c s₁ [] 0 0 := Stand.of_body Bd
  have e0 : s₁.heap = h0 := by rw [← hh, Bd.state]; rfl
  have N0 := Fr.nil n0
  have k0 : own_R p e below (s₁.setTop (entryFrame m #[(.int p0)] 1)) (s₁.setTop (mkF m 0 #[vI p0] [])) := fun t k => castTop (ef_27_U m p0) k
  obtain ⟨A0, hA0⟩ : ∃ z, z = s₁.setTop (entryFrame m #[(.int p0)] 1) := ⟨_, rfl⟩
  rw [← hA0] at k0
  have kz : ∀ t, Steps p.tables e below A0 t → Steps p.tables e below (s₁.setTop (entryFrame m #[(.int p0)] 1)) t := fun t q => hA0 ▸ q
  have ks1 : own_R p e below (A0) (s₁.setTop (mkF m 12 #[vI p0] [(.int 0)])) := fun t k => k0 t (by
    refine XS.iloadN X0.here hx rfl (hb hby d27_0) rfl ?_
    refine XS.sipush X0.here hx rfl (hb hby d27_1) ?_
    refine XS.icmpYes X0.here hx rfl (pc0 := 4) (pc' := 11) rfl (hb hby d27_4) rfl (tlt P0).2.2.1 (by decide) (by decide) ?_
    show Steps p.tables e below (s₁.setTop (mkF m 11 #[vI p0] [])) _
    refine XS.iconst X0.here hx rfl (hb hby d27_11) ?_
    exact k)
  obtain ⟨fs, hr, hrun, hended, hW, hsame⟩ := X0.leave (v := some (.int 0)) (fun h => by rw [Bd.returns] at h; cases h) hlk
  refine ⟨_, _, kz _ (ks1 _ ?_), hrun, hended, _, _, rfl, ?_, ⟨_, rfl⟩, hW, hsame.mono (by decide) (by decide)⟩
  · exact retN X0 hx (t := .boolean) Bd.returns (by simp) (hb hby d27_12) hr
  · show Q27_U Z p0 h0 n0 _ s₁.heap _
    rw [e0]
    exact ⟨rfl, N0, rfl⟩
theorem d28_0 : decode jdk_43_method_46_code 0 = .ok (.iconst 1, 1) := by decide +kernel
theorem d28_1 : decode jdk_43_method_46_code 1 = .ok (.newarray .byte, 2) := by decide +kernel
theorem d28_3 : decode jdk_43_method_46_code 3 = .ok (.dup, 1) := by decide +kernel
theorem d28_4 : decode jdk_43_method_46_code 4 = .ok (.iconst 0, 1) := by decide +kernel
theorem d28_5 : decode jdk_43_method_46_code 5 = .ok (.iload_n 0, 1) := by decide +kernel
theorem d28_6 : decode jdk_43_method_46_code 6 = .ok (.i2b, 1) := by decide +kernel
theorem d28_7 : decode jdk_43_method_46_code 7 = .ok (.bastore, 1) := by decide +kernel
theorem d28_8 : decode jdk_43_method_46_code 8 = .ok (.areturn, 1) := by decide +kernel
theorem pn_28 : plainName "java/lang/StringLatin1" = true := by first | (simp [plainName, overriddenIn]; done) | decide +kernel
theorem ef_28 (m : MethodId) (x0 : Int32) : entryFrame m #[(.int x0)] 1 = mkF m 0 #[.val (.int x0)] [] := by first | (simp [entryFrame, mkF, argsToLocals, Value.category]; done) | rfl
def Q28 (Z : State) (y0 : Int32) (h0 : Heap) (n0 : Nat) (v : Option Value) (h : Heap) (L : List Loc) : Prop := ∃ (b : Addr) (k : ClassId), v = some (.ref b) ∧ Fr n0 L ∧ Keep h0 h [] ∧ n0 ≤ b ∧ h0.size ≤ b ∧ Arv Z h b k .byte (1 : Int32) [(.int (y0.toInt8.toInt32))] (.int 0)
set_option maxRecDepth 65536 in
set_option maxHeartbeats 40000000 in
theorem rm28 (l : Launch) (Z : State) (a0 : Array Value) (hw : ∀ d ∈ tables_1, d.before a0 Z = true) (ws : List Jvm.Cond) (y0 : Int32) (h0 : Heap) (n0 : Nat) (Z0 : n0 ≤ h0.size) :
    MetFree l (⟨"java/lang/StringLatin1", "toBytes", "(C)[B"⟩ : MethodName) (head1 (Jvm.Cond.code (⟨"java/lang/StringLatin1", "toBytes", "(C)[B"⟩ : MethodName) jdk_43_method_46_code 1 (some (.array .byte)) :: ws) ({ frames := 0, cells := 1, slots := 1, locals := 0 } : Room)) (fun a U => a = #[(.int y0)] ∧ Z.Warmed39 U.vm ∧ U.heap = h0) (fun _ _ _ _ _ => True) (fun _ U o U' => ∃ v L, o = .returned v ∧ Q28 Z y0 h0 n0 v U'.heap L ∧ FrameEnd U o U' L ({ frames := 0, cells := 1, slots := 1, locals := 0 } : Room).cells ({ frames := 0, cells := 1, slots := 1, locals := 0 } : Room).slots) := by
  refine MetFree.of_bodySF (plainFor_of_name pn_28) hisR ?_
  intro p e s m args below meth c s₁ Bd hml0 hP hK
  obtain ⟨rfl, hZ, hh⟩ := hP
  have hx := Bd.exec
  have hby := Bd.bytes
  have hml : c.maxLocals = 1 := hml0
  have hown : s.vm.findClass "java/lang/StringLatin1" = some m.cls := findClass_of_methodNamed Bd.named
  have hnm := (name_of_methodNamed Bd.named Bd.method).1
  have hlk : meth.locks = false := by first | exact BodyLoose.notSynchronized Bd | exact Body.notSynchronized Bd
  have X0 : Stand p l e ({ frames := 0, cells := 1, slots := 1, locals := 0 } : Room) s m #[(.int y0)] below meth c s₁ [] 0 0 := Stand.of_body Bd
  have e0 : s₁.heap = h0 := by rw [← hh, Bd.state]; rfl
  have N0 := Fr.nil n0
  have k0 : own_R p e below (s₁.setTop (entryFrame m #[(.int y0)] 1)) (s₁.setTop (mkF m 0 #[vI y0] [])) := fun t k => castTop (ef_28 m y0) k
  obtain ⟨A0, hA0⟩ : ∃ z, z = s₁.setTop (entryFrame m #[(.int y0)] 1) := ⟨_, rfl⟩
  rw [← hA0] at k0
  have kz : ∀ t, Steps p.tables e below A0 t → Steps p.tables e below (s₁.setTop (entryFrame m #[(.int y0)] 1)) t := fun t q => hA0 ▸ q
  have ks1 : own_R p e below (A0) (s₁.setTop (mkF m 1 #[vI y0] [(.int 1)])) := fun t k => k0 t (by
    refine XS.iconst X0.here hx rfl (hb hby d28_0) ?_
    exact k)
  obtain ⟨T2, h2, c2, X2, e2, E2, A2, st2⟩ := newP X0 hx hZ (own_w hw 20 rfl) e0 (g := (mkF m 1 #[vI y0] [(.int 1)])) rfl (hb hby d28_1) rfl (by decide) (cap := 1) (by decide) (by decide) (by decide) (by decide)
  obtain ⟨b2, g2⟩ : ∃ z, z = h0.size := ⟨_, rfl⟩
  rw [← g2] at A2 st2
  have g_b2 : n0 ≤ b2 := Nat.le_trans Z0 (Nat.le_of_eq g2.symm)
  have sz_b2 : h0.size ≤ b2 := Nat.le_trans (Keep.refl h0 []).1 (Nat.le_of_eq g2.symm)
  have KH2 : Keep h0 h2 [] := (Keep.refl h0 []).ext E2
  have Zn2 : n0 ≤ h2.size := Nat.le_trans Z0 E2.1
  have V2 : Arv Z h2 b2 c2 .byte (1 : Int32) [(.int (0 : Int32))] (.int (0 : Int32)) := (Arv.new A2 (by decide)).pad (pad_rep [] (.int (0 : Int32)) 1)
  have ks3 := own_c ks1 st2
  have ks4 : own_R p e below (A0) (T2.setTop (mkF m 7 #[vI y0] [(.int (y0.toInt8.toInt32)), (.int 0), (.ref b2), (.ref b2)])) := fun t k => ks3 t (by
    refine XS.dup X2.here hx rfl (hb hby d28_3) rfl rfl ?_
    refine XS.iconst X2.here hx rfl (hb hby d28_4) ?_
    refine XS.iloadN X2.here hx rfl (hb hby d28_5) rfl ?_
    show Steps p.tables e below (T2.setTop (mkF m 6 #[vI y0] [(.int y0), (.int 0), (.ref b2), (.ref b2)])) _
    refine XS.i2b X2.here hx rfl (hb hby d28_6) rfl ?_
    exact k)
  obtain ⟨cl5, Ar5, qa5, S5, Na5, Ha5, Ga5⟩ := id V2
  have hin5 : ¬ ((0 : Int32) < 0 ∨ cl5.slots.size ≤ ((0 : Int32)).toNatClampNeg) := inb_of S5 ⟨by decide, by decide⟩
  obtain ⟨T6, h6, X6, e6, W6, st6⟩ := stB X2 hx hZ e2 Ar5 (j := (0 : Int32)) hin5 (g := (mkF m 7 #[vI y0] [(.int (y0.toInt8.toInt32)), (.int 0), (.ref b2), (.ref b2)])) rfl rfl (hb hby d28_7)
  have V6 : Arv Z h6 b2 c2 .byte (1 : Int32) [(.int ((y0.toInt8.toInt32).toInt8.toInt32))] (.int (0 : Int32)) := Arv.set Ar5 qa5 S5 Na5 Ha5 Ga5 (fits_nar_byte _) W6 0 rfl (Nat.le_of_ble_eq_true rfl)
  rw [Int8.toInt8_toInt32] at V6
  have KH6 : Keep h0 h6 [] := KH2.wr W6 (Or.inr sz_b2)
  have Zn6 : n0 ≤ h6.size := Nat.le_trans Zn2 (Keep.of_wr W6).1
  have N6 := Fr.snoc X6 N0 g_b2
  have ks7 := own_c ks4 st6
  obtain ⟨fs, hr, hrun, hended, hW, hsame⟩ := X6.leave (v := some (.ref b2)) (fun h => by rw [Bd.returns] at h; cases h) hlk
  refine ⟨_, _, kz _ (ks7 _ ?_), hrun, hended, _, _, rfl, ?_, ⟨_, rfl⟩, hW, hsame.mono (by decide) (by decide)⟩
  · exact retOut X6 hx Bd.returns rfl (Or.inr (Or.inr (Or.inr (Or.inr ⟨rfl, rfl, rfl⟩)))) (hb hby d28_8) hr
  · show Q28 Z y0 h0 n0 _ T6.heap _
    rw [e6]
    exact ⟨_, _, rfl, N6, KH6, g_b2, sz_b2, V6⟩
theorem d39_0 : decode jdk_52_method_24_code 0 = .ok (.iconst 2, 1) := by decide +kernel
theorem d39_1 : decode jdk_52_method_24_code 1 = .ok (.newarray .byte, 2) := by decide +kernel
theorem d39_3 : decode jdk_52_method_24_code 3 = .ok (.astore_n 1, 1) := by decide +kernel
theorem d39_4 : decode jdk_52_method_24_code 4 = .ok (.aload_n 1, 1) := by decide +kernel
theorem d39_5 : decode jdk_52_method_24_code 5 = .ok (.iconst 0, 1) := by decide +kernel
theorem d39_6 : decode jdk_52_method_24_code 6 = .ok (.iload_n 0, 1) := by decide +kernel
theorem d39_7 : decode jdk_52_method_24_code 7 = .ok (.invokestatic 111, 3) := by decide +kernel
theorem d39_10 : decode jdk_52_method_24_code 10 = .ok (.aload_n 1, 1) := by decide +kernel
theorem d39_11 : decode jdk_52_method_24_code 11 = .ok (.areturn, 1) := by decide +kernel
theorem pn_39 : plainName "java/lang/StringUTF16" = true := by first | (simp [plainName, overriddenIn]; done) | decide +kernel
theorem pd_10 : parseMethodDescriptor "([BII)V" = some ⟨[(.array .byte), .int, .int], none⟩ := by decide +kernel
theorem ef_39 (m : MethodId) (x0 : Int32) : entryFrame m #[(.int x0)] 2 = mkF m 0 #[.val (.int x0), .unset] [] := by first | (simp [entryFrame, mkF, argsToLocals, Value.category]; done) | rfl
def Q39 (Z : State) (y0 : Int32) (h0 : Heap) (n0 : Nat) (v : Option Value) (h : Heap) (L : List Loc) : Prop := ∃ (b : Addr) (k : ClassId), v = some (.ref b) ∧ Fr n0 L ∧ Keep h0 h [] ∧ n0 ≤ b ∧ h0.size ≤ b ∧ Arv Z h b k .byte (2 : Int32) [(.int ((y0 >>> ((0 : Int32) &&& 31)).toInt8.toInt32)), (.int ((y0 >>> ((8 : Int32) &&& 31)).toInt8.toInt32))] (.int 0)
set_option maxRecDepth 65536 in
set_option maxHeartbeats 40000000 in
theorem rm39 (l : Launch) (Z : State) (a0 : Array Value) (hw : ∀ d ∈ tables_1, d.before a0 Z = true) (ws : List Jvm.Cond) (y0 : Int32) (h0 : Heap) (n0 : Nat) (Z0 : n0 ≤ h0.size) (S7a : own_S7a Z h0) (S7b : own_S7b Z h0) (S7c : own_S7c Z h0) :
    MetFree l (⟨"java/lang/StringUTF16", "toBytes", "(C)[B"⟩ : MethodName) (head1 (Jvm.Cond.code (⟨"java/lang/StringUTF16", "toBytes", "(C)[B"⟩ : MethodName) jdk_52_method_24_code 2 (some (.array .byte)) :: ws) ({ frames := 1, cells := 1, slots := 2, locals := 14 } : Room)) (fun a U => a = #[(.int y0)] ∧ Z.Warmed39 U.vm ∧ U.heap = h0) (fun _ _ _ _ _ => True) (fun _ U o U' => ∃ v L, o = .returned v ∧ Q39 Z y0 h0 n0 v U'.heap L ∧ FrameEnd U o U' L ({ frames := 1, cells := 1, slots := 2, locals := 14 } : Room).cells ({ frames := 1, cells := 1, slots := 2, locals := 14 } : Room).slots) := by
  refine MetFree.of_bodySF (plainFor_of_name pn_39) hisR ?_
  intro p e s m args below meth c s₁ Bd hml0 hP hK
  obtain ⟨rfl, hZ, hh⟩ := hP
  have hx := Bd.exec
  have hby := Bd.bytes
  have hml : c.maxLocals = 2 := hml0
  have hown : s.vm.findClass "java/lang/StringUTF16" = some m.cls := findClass_of_methodNamed Bd.named
  have hnm := (name_of_methodNamed Bd.named Bd.method).1
  have hlk : meth.locks = false := by first | exact BodyLoose.notSynchronized Bd | exact Body.notSynchronized Bd
  have X0 : Stand p l e ({ frames := 1, cells := 1, slots := 2, locals := 14 } : Room) s m #[(.int y0)] below meth c s₁ [] 0 0 := Stand.of_body Bd
  have e0 : s₁.heap = h0 := by rw [← hh, Bd.state]; rfl
  have N0 := Fr.nil n0
  have k0 : own_R p e below (s₁.setTop (entryFrame m #[(.int y0)] 2)) (s₁.setTop (mkF m 0 #[vI y0, .unset] [])) := fun t k => castTop (ef_39 m y0) k
  obtain ⟨A0, hA0⟩ : ∃ z, z = s₁.setTop (entryFrame m #[(.int y0)] 2) := ⟨_, rfl⟩
  rw [← hA0] at k0
  have kz : ∀ t, Steps p.tables e below A0 t → Steps p.tables e below (s₁.setTop (entryFrame m #[(.int y0)] 2)) t := fun t q => hA0 ▸ q
  have ks1 : own_R p e below (A0) (s₁.setTop (mkF m 1 #[vI y0, .unset] [(.int 2)])) := fun t k => k0 t (by
    refine XS.iconst X0.here hx rfl (hb hby d39_0) ?_
    exact k)
  obtain ⟨T2, h2, c2, X2, e2, E2, A2, st2⟩ := newP X0 hx hZ (own_w hw 20 rfl) e0 (g := (mkF m 1 #[vI y0, .unset] [(.int 2)])) rfl (hb hby d39_1) rfl (by decide) (cap := 2) (by decide) (by decide) (by decide) (by decide)
  obtain ⟨b2, g2⟩ : ∃ z, z = h0.size := ⟨_, rfl⟩
  rw [← g2] at A2 st2
  have g_b2 : n0 ≤ b2 := Nat.le_trans Z0 (Nat.le_of_eq g2.symm)
  have sz_b2 : h0.size ≤ b2 := Nat.le_trans (Keep.refl h0 []).1 (Nat.le_of_eq g2.symm)
  have KH2 : Keep h0 h2 [] := (Keep.refl h0 []).ext E2
  have Zn2 : n0 ≤ h2.size := Nat.le_trans Z0 E2.1
  have V2 : Arv Z h2 b2 c2 .byte (2 : Int32) [(.int (0 : Int32)), (.int (0 : Int32))] (.int (0 : Int32)) := (Arv.new A2 (by decide)).pad (pad_rep [] (.int (0 : Int32)) 2)
  have ks3 := own_c ks1 st2
  have ks4 : own_R p e below (A0) (T2.setTop (mkF m 7 #[vI y0, vR b2] [(.int y0), (.int 0), (.ref b2)])) := fun t k => ks3 t (by
    refine XS.astoreN X2.here hx rfl (hb hby d39_3) rfl rfl (l' := #[vI y0, vR b2]) rfl ?_
    refine XS.aloadN X2.here hx rfl (hb hby d39_4) rfl rfl ?_
    refine XS.iconst X2.here hx rfl (hb hby d39_5) ?_
    show Steps p.tables e below (T2.setTop (mkF m 6 #[vI y0, vR b2] [(.int 0), (.ref b2)])) _
    refine XS.iloadN X2.here hx rfl (hb hby d39_6) rfl ?_
    exact k)
  have f6 := own_sta_keep S7a KH2
  have f7 := own_sta_keep S7b KH2
  have f8 := own_sta_keep S7c KH2
  obtain ⟨_, _, ⟨T5, L5, k5, n5⟩, -, X5, ⟨Lc5, hQ5, lq5, yq5, zq5⟩, st5⟩ := Jvm.LawKit.callS X2 hx (y := (⟨"java/lang/StringUTF16", "putChar", "([BII)V"⟩ : MethodName)) hown (mvT hZ (own_w hw 55 rfl)) (mvT hZ (own_w hw 56 rfl)) (mvT hZ (own_w hw 40 rfl)) (mvT hZ (own_w hw 57 rfl)) (by decide) (backOf (W := 0) (rm12_1_0 l Z a0 hw [] b2 y0 _ h2 n0 Zn2 f6 f7 f8 V2 g_b2) hZ (own_w hw 57 rfl) (own_w hw 40 rfl) (by decide) (by decide)) (g := (mkF m 7 #[vI y0, vR b2] [(.int y0), (.int 0), (.ref b2)])) rfl (by rw [hml]; rfl) (argsL := [(.ref b2), (.int 0), (.int y0)]) (rest := []) (lenOf pd_10 rfl) rfl (by show 2 * 0 + _ ≤ _; exact Nat.le_of_eq rfl) (hb hby d39_7) (fun _ _ => ⟨rfl, e2, (by decide : 1 + 0 ≤ _), (by decide : 2 + 0 ≤ _)⟩)
  dsimp only [Pt.U, Pt.locs, Pt.cells, Pt.slots] at X5 lq5 yq5 zq5 st5 hQ5
  subst lq5 yq5 zq5
  obtain ⟨rfl, Nq5, Kq5, Vq5⟩ := hQ5
  have N5 := Fr.app N0 Nq5
  have KH5 : Keep h0 T5.heap [] := KH2.trans Kq5 (allS (Or.inr sz_b2) all0)
  have Zn5 : n0 ≤ T5.heap.size := Nat.le_trans Zn2 Kq5.1
  have ks9 := own_c ks4 st5
  have ks10 : own_R p e below (A0) (T5.setTop (mkF m 11 #[vI y0, vR b2] [(.ref b2)])) := fun t k => ks9 t (by
    refine XS.aloadN X5.here hx rfl (hb hby d39_10) rfl rfl ?_
    exact k)
  obtain ⟨fs, hr, hrun, hended, hW, hsame⟩ := X5.leave (v := some (.ref b2)) (fun h => by rw [Bd.returns] at h; cases h) hlk
  refine ⟨_, _, kz _ (ks10 _ ?_), hrun, hended, _, _, rfl, ?_, ⟨_, rfl⟩, hW, hsame.mono (by decide) (by decide)⟩
  · exact retOut X5 hx Bd.returns rfl (Or.inr (Or.inr (Or.inr (Or.inr ⟨rfl, rfl, rfl⟩)))) (hb hby d39_11) hr
  · show Q39 Z y0 h0 n0 _ T5.heap _
    exact ⟨_, _, rfl, N5, KH5, g_b2, sz_b2, Vq5⟩
theorem d29_0 : decode jdk_42_method_151_code 0 = .ok (.aload_n 0, 1) := by decide +kernel
theorem d29_1 : decode jdk_42_method_151_code 1 = .ok (.invokespecial 1, 3) := by decide +kernel
theorem d29_4 : decode jdk_42_method_151_code 4 = .ok (.aload_n 0, 1) := by decide +kernel
theorem d29_5 : decode jdk_42_method_151_code 5 = .ok (.aload_n 1, 1) := by decide +kernel
theorem d29_6 : decode jdk_42_method_151_code 6 = .ok (.putfield 9, 3) := by decide +kernel
theorem d29_9 : decode jdk_42_method_151_code 9 = .ok (.aload_n 0, 1) := by decide +kernel
theorem d29_10 : decode jdk_42_method_151_code 10 = .ok (.iload_n 2, 1) := by decide +kernel
theorem d29_11 : decode jdk_42_method_151_code 11 = .ok (.putfield 15, 3) := by decide +kernel
theorem d29_14 : decode jdk_42_method_151_code 14 = .ok (.return_, 1) := by decide +kernel
theorem pn_29 : plainName "java/lang/String" = true := by first | (simp [plainName, overriddenIn]; done) | decide +kernel
theorem ef_29_L (m : MethodId) (x0 : Addr) (x1 : Addr) (x2 : Int32) : entryFrame m #[(.ref x0), (.ref x1), (.int x2)] 3 = mkF m 0 #[.val (.ref x0), .val (.ref x1), .val (.int x2)] [] := by first | (simp [entryFrame, mkF, argsToLocals, Value.category]; done) | rfl
def Q29_L (Z : State) (r0 : Addr) (r1 : Addr) (kr1 : ClassId) (y0 : Int32) (h0 : Heap) (n0 : Nat) (v : Option Value) (h : Heap) (L : List Loc) : Prop := v = none ∧ Fr n0 L ∧ Keep h0 h [r0] ∧ ∃ (t : Addr) (k : ClassId), own_Cd Z h r0 (0 : Int32) ∧ own_Fv Z h r0 t ∧ Arv Z h t k .byte (1 : Int32) [(.int (y0.toInt8.toInt32))] (.int 0)
set_option maxRecDepth 65536 in
set_option maxHeartbeats 40000000 in
theorem rm29_L (l : Launch) (Z : State) (a0 : Array Value) (hw : ∀ d ∈ tables_1, d.before a0 Z = true) (ws : List Jvm.Cond) (r0 : Addr) (r1 : Addr) (kr1 : ClassId) (y0 : Int32) (h0 : Heap) (n0 : Nat) (Z0 : n0 ≤ h0.size) (E0 : Exa Z h0 r0 "java/lang/String") (Cd0 : own_Cd Z h0 r0 0) (F0 : Fld Z h0 r0 "java/lang/String" "value" "[B" .null) (g_r0 : n0 ≤ r0) (n01 : r0 ≠ r1) (V1 : Arv Z h0 r1 kr1 .byte (1 : Int32) [(.int (y0.toInt8.toInt32))] (.int 0)) :
    MetFree l (⟨"java/lang/String", "<init>", "([BB)V"⟩ : MethodName) (head1 (Jvm.Cond.code (⟨"java/lang/String", "<init>", "([BB)V"⟩ : MethodName) jdk_42_method_151_code 3 none :: ws) ({ frames := 1, cells := 0, slots := 0, locals := 12 } : Room)) (fun a U => a = #[(.ref r0), (.ref r1), (.int 0)] ∧ Z.Warmed39 U.vm ∧ U.heap = h0) (fun _ _ _ _ _ => True) (fun _ U o U' => ∃ v L, o = .returned v ∧ Q29_L Z r0 r1 kr1 y0 h0 n0 v U'.heap L ∧ FrameEnd U o U' L ({ frames := 1, cells := 0, slots := 0, locals := 12 } : Room).cells ({ frames := 1, cells := 0, slots := 0, locals := 12 } : Room).slots) := by
  refine MetFree.of_bodySF (plainFor_of_name pn_29) hisR ?_
  intro p e s m args below meth c s₁ Bd hml0 hP hK
  obtain ⟨rfl, hZ, hh⟩ := hP
  have hx := Bd.exec
  have hby := Bd.bytes
  have hml : c.maxLocals = 3 := hml0
  have hown : s.vm.findClass "java/lang/String" = some m.cls := findClass_of_methodNamed Bd.named
  have hnm := (name_of_methodNamed Bd.named Bd.method).1
  have hlk : meth.locks = false := by first | exact BodyLoose.notSynchronized Bd | exact Body.notSynchronized Bd
  have X0 : Stand p l e ({ frames := 1, cells := 0, slots := 0, locals := 12 } : Room) s m #[(.ref r0), (.ref r1), (.int 0)] below meth c s₁ [] 0 0 := Stand.of_body Bd
  have e0 : s₁.heap = h0 := by rw [← hh, Bd.state]; rfl
  have N0 := Fr.nil n0
  have k0 : own_R p e below (s₁.setTop (entryFrame m #[(.ref r0), (.ref r1), (.int 0)] 3)) (s₁.setTop (mkF m 0 #[vR r0, vR r1, vI 0] [])) := fun t k => castTop (ef_29_L m r0 r1 (0 : Int32)) k
  obtain ⟨A0, hA0⟩ : ∃ z, z = s₁.setTop (entryFrame m #[(.ref r0), (.ref r1), (.int 0)] 3) := ⟨_, rfl⟩
  rw [← hA0] at k0
  have kz : ∀ t, Steps p.tables e below A0 t → Steps p.tables e below (s₁.setTop (entryFrame m #[(.ref r0), (.ref r1), (.int 0)] 3)) t := fun t q => hA0 ▸ q
  have ks1 : own_R p e below (A0) (s₁.setTop (mkF m 1 #[vR r0, vR r1, vI 0] [(.ref r0)])) := fun t k => k0 t (by
    refine XS.aloadN X0.here hx rfl (hb hby d29_0) rfl rfl ?_
    exact k)
  obtain ⟨T2, X2, e2, st2⟩ := initO X0 hx hZ hown (own_w hw 16 rfl) (own_w hw 17 rfl) (own_w hw 18 rfl) e0 (g := (mkF m 1 #[vR r0, vR r1, vI 0] [(.ref r0)])) rfl (by rw [hml]; rfl) rfl (hb hby d29_1) (by decide) (W := 0) (by show 2 * 0 + _ ≤ _; exact Nat.le_of_eq rfl) (by decide)
  have ks3 := own_c ks1 st2
  have ks4 : own_R p e below (A0) (T2.setTop (mkF m 6 #[vR r0, vR r1, vI 0] [(.ref r1), (.ref r0)])) := fun t k => ks3 t (by
    refine XS.aloadN X2.here hx rfl (hb hby d29_4) rfl rfl ?_
    refine XS.aloadN X2.here hx rfl (hb hby d29_5) rfl rfl ?_
    exact k)
  obtain ⟨T5, h5, X5, e5, W5, st5⟩ := putF X2 hx hZ hown (host := "") (Or.inl (own_w hw 25 rfl)) Via.refl e2 F0 E0 (Or.inr ⟨(own_w hw 21 rfl), rfl, hnm⟩) (own_w hw 6 rfl) (ty := (.array .byte)) (by decide) rfl rfl (g := (mkF m 6 #[vR r0, vR r1, vI 0] [(.ref r1), (.ref r0)])) rfl rfl (hb hby d29_6)
  have Fw5 := F0.same W5
  have KH5 : Keep h0 h5 [r0] := (Keep.refl h0 [r0]).wr W5 (Or.inl (List.mem_of_getElem? (i := 0) rfl))
  have Zn5 : n0 ≤ h5.size := Nat.le_trans Z0 (Keep.of_wr W5).1
  have N5 := Fr.snoc X5 N0 g_r0
  have ks6 := own_c ks4 st5
  have ks7 : own_R p e below (A0) (T5.setTop (mkF m 11 #[vR r0, vR r1, vI 0] [(.int 0), (.ref r0)])) := fun t k => ks6 t (by
    refine XS.aloadN X5.here hx rfl (hb hby d29_9) rfl rfl ?_
    refine XS.iloadN X5.here hx rfl (hb hby d29_10) rfl ?_
    exact k)
  have f8 := E0.keep KH5
  have f9 := (Cd0.other W5 (Or.inr (slot_ne (Or.inr (own_w hw 22 rfl)) (Or.inr (own_w hw 21 rfl)) (by decide) (t := .byte) (t' := (.array .byte)) (by decide) (by decide))))
  obtain ⟨T10, h10, X10, e10, W10, st10⟩ := putFN X5 hx hZ hown (own_w hw 26 rfl) Via.refl e5 f9 f8 (Or.inr ⟨(own_w hw 22 rfl), rfl, hnm⟩) (own_w hw 6 rfl) (ty := .byte) (v' := (.int 0)) (by decide) rfl (by decide) (g := (mkF m 11 #[vR r0, vR r1, vI 0] [(.int 0), (.ref r0)])) rfl rfl (hb hby d29_11)
  have Fw10 := f9.same W10
  have KH10 : Keep h0 h10 [r0] := KH5.wr W10 (Or.inl (List.mem_of_getElem? (i := 0) rfl))
  have Zn10 : n0 ≤ h10.size := Nat.le_trans Zn5 (Keep.of_wr W10).1
  have N10 := Fr.snoc X10 N5 g_r0
  have ks11 := own_c ks7 st10
  obtain ⟨fs, hr, hrun, hended, hW, hsame⟩ := X10.leave (v := none) (fun _ => rfl) hlk
  refine ⟨_, _, kz _ (ks11 _ ?_), hrun, hended, _, _, rfl, ?_, ⟨_, rfl⟩, hW, hsame.mono (by decide) (by decide)⟩
  · exact X10.returnOut hx Bd.returns (hb hby d29_14) hr
  · show Q29_L Z r0 r1 kr1 y0 h0 n0 _ T10.heap _
    rw [e10]
    have f12 := (Fw5.other W10 (Or.inr (slot_ne (Or.inr (own_w hw 21 rfl)) (Or.inr (own_w hw 22 rfl)) (by decide) (t := (.array .byte)) (t' := .byte) (by decide) (by decide))))
    have f13 := V1.keep KH10 (ninS (Ne.symm n01) nin0)
    exact ⟨rfl, N10, KH10, _, _, Fw10, f12, f13⟩
theorem ef_29_U (m : MethodId) (x0 : Addr) (x1 : Addr) (x2 : Int32) : entryFrame m #[(.ref x0), (.ref x1), (.int x2)] 3 = mkF m 0 #[.val (.ref x0), .val (.ref x1), .val (.int x2)] [] := by first | (simp [entryFrame, mkF, argsToLocals, Value.category]; done) | rfl
def Q29_U (Z : State) (r0 : Addr) (r1 : Addr) (kr1 : ClassId) (y0 : Int32) (h0 : Heap) (n0 : Nat) (v : Option Value) (h : Heap) (L : List Loc) : Prop := v = none ∧ Fr n0 L ∧ Keep h0 h [r0] ∧ ∃ (t : Addr) (k : ClassId), own_Cd Z h r0 (1 : Int32) ∧ own_Fv Z h r0 t ∧ Arv Z h t k .byte (2 : Int32) [(.int ((y0 >>> ((0 : Int32) &&& 31)).toInt8.toInt32)), (.int ((y0 >>> ((8 : Int32) &&& 31)).toInt8.toInt32))] (.int 0)
set_option maxRecDepth 65536 in
set_option maxHeartbeats 40000000 in
theorem rm29_U (l : Launch) (Z : State) (a0 : Array Value) (hw : ∀ d ∈ tables_1, d.before a0 Z = true) (ws : List Jvm.Cond) (r0 : Addr) (r1 : Addr) (kr1 : ClassId) (y0 : Int32) (h0 : Heap) (n0 : Nat) (Z0 : n0 ≤ h0.size) (E0 : Exa Z h0 r0 "java/lang/String") (Cd0 : own_Cd Z h0 r0 0) (F0 : Fld Z h0 r0 "java/lang/String" "value" "[B" .null) (g_r0 : n0 ≤ r0) (n01 : r0 ≠ r1) (V1 : Arv Z h0 r1 kr1 .byte (2 : Int32) [(.int ((y0 >>> ((0 : Int32) &&& 31)).toInt8.toInt32)), (.int ((y0 >>> ((8 : Int32) &&& 31)).toInt8.toInt32))] (.int 0)) :
    MetFree l (⟨"java/lang/String", "<init>", "([BB)V"⟩ : MethodName) (head1 (Jvm.Cond.code (⟨"java/lang/String", "<init>", "([BB)V"⟩ : MethodName) jdk_42_method_151_code 3 none :: ws) ({ frames := 1, cells := 0, slots := 0, locals := 12 } : Room)) (fun a U => a = #[(.ref r0), (.ref r1), (.int 1)] ∧ Z.Warmed39 U.vm ∧ U.heap = h0) (fun _ _ _ _ _ => True) (fun _ U o U' => ∃ v L, o = .returned v ∧ Q29_U Z r0 r1 kr1 y0 h0 n0 v U'.heap L ∧ FrameEnd U o U' L ({ frames := 1, cells := 0, slots := 0, locals := 12 } : Room).cells ({ frames := 1, cells := 0, slots := 0, locals := 12 } : Room).slots) := by
  refine MetFree.of_bodySF (plainFor_of_name pn_29) hisR ?_
  intro p e s m args below meth c s₁ Bd hml0 hP hK
  obtain ⟨rfl, hZ, hh⟩ := hP
  have hx := Bd.exec
  have hby := Bd.bytes
  have hml : c.maxLocals = 3 := hml0
  have hown : s.vm.findClass "java/lang/String" = some m.cls := findClass_of_methodNamed Bd.named
  have hnm := (name_of_methodNamed Bd.named Bd.method).1
  have hlk : meth.locks = false := by first | exact BodyLoose.notSynchronized Bd | exact Body.notSynchronized Bd
  have X0 : Stand p l e ({ frames := 1, cells := 0, slots := 0, locals := 12 } : Room) s m #[(.ref r0), (.ref r1), (.int 1)] below meth c s₁ [] 0 0 := Stand.of_body Bd
  have e0 : s₁.heap = h0 := by rw [← hh, Bd.state]; rfl
  have N0 := Fr.nil n0
  have k0 : own_R p e below (s₁.setTop (entryFrame m #[(.ref r0), (.ref r1), (.int 1)] 3)) (s₁.setTop (mkF m 0 #[vR r0, vR r1, vI 1] [])) := fun t k => castTop (ef_29_U m r0 r1 (1 : Int32)) k
  obtain ⟨A0, hA0⟩ : ∃ z, z = s₁.setTop (entryFrame m #[(.ref r0), (.ref r1), (.int 1)] 3) := ⟨_, rfl⟩
  rw [← hA0] at k0
  have kz : ∀ t, Steps p.tables e below A0 t → Steps p.tables e below (s₁.setTop (entryFrame m #[(.ref r0), (.ref r1), (.int 1)] 3)) t := fun t q => hA0 ▸ q
  have ks1 : own_R p e below (A0) (s₁.setTop (mkF m 1 #[vR r0, vR r1, vI 1] [(.ref r0)])) := fun t k => k0 t (by
    refine XS.aloadN X0.here hx rfl (hb hby d29_0) rfl rfl ?_
    exact k)
  obtain ⟨T2, X2, e2, st2⟩ := initO X0 hx hZ hown (own_w hw 16 rfl) (own_w hw 17 rfl) (own_w hw 18 rfl) e0 (g := (mkF m 1 #[vR r0, vR r1, vI 1] [(.ref r0)])) rfl (by rw [hml]; rfl) rfl (hb hby d29_1) (by decide) (W := 0) (by show 2 * 0 + _ ≤ _; exact Nat.le_of_eq rfl) (by decide)
  have ks3 := own_c ks1 st2
  have ks4 : own_R p e below (A0) (T2.setTop (mkF m 6 #[vR r0, vR r1, vI 1] [(.ref r1), (.ref r0)])) := fun t k => ks3 t (by
    refine XS.aloadN X2.here hx rfl (hb hby d29_4) rfl rfl ?_
    refine XS.aloadN X2.here hx rfl (hb hby d29_5) rfl rfl ?_
    exact k)
  obtain ⟨T5, h5, X5, e5, W5, st5⟩ := putF X2 hx hZ hown (host := "") (Or.inl (own_w hw 25 rfl)) Via.refl e2 F0 E0 (Or.inr ⟨(own_w hw 21 rfl), rfl, hnm⟩) (own_w hw 6 rfl) (ty := (.array .byte)) (by decide) rfl rfl (g := (mkF m 6 #[vR r0, vR r1, vI 1] [(.ref r1), (.ref r0)])) rfl rfl (hb hby d29_6)
  have Fw5 := F0.same W5
  have KH5 : Keep h0 h5 [r0] := (Keep.refl h0 [r0]).wr W5 (Or.inl (List.mem_of_getElem? (i := 0) rfl))
  have Zn5 : n0 ≤ h5.size := Nat.le_trans Z0 (Keep.of_wr W5).1
  have N5 := Fr.snoc X5 N0 g_r0
  have ks6 := own_c ks4 st5
  have ks7 : own_R p e below (A0) (T5.setTop (mkF m 11 #[vR r0, vR r1, vI 1] [(.int 1), (.ref r0)])) := fun t k => ks6 t (by
    refine XS.aloadN X5.here hx rfl (hb hby d29_9) rfl rfl ?_
    refine XS.iloadN X5.here hx rfl (hb hby d29_10) rfl ?_
    exact k)
  have f8 := E0.keep KH5
  have f9 := (Cd0.other W5 (Or.inr (slot_ne (Or.inr (own_w hw 22 rfl)) (Or.inr (own_w hw 21 rfl)) (by decide) (t := .byte) (t' := (.array .byte)) (by decide) (by decide))))
  obtain ⟨T10, h10, X10, e10, W10, st10⟩ := putFN X5 hx hZ hown (own_w hw 26 rfl) Via.refl e5 f9 f8 (Or.inr ⟨(own_w hw 22 rfl), rfl, hnm⟩) (own_w hw 6 rfl) (ty := .byte) (v' := (.int 1)) (by decide) rfl (by decide) (g := (mkF m 11 #[vR r0, vR r1, vI 1] [(.int 1), (.ref r0)])) rfl rfl (hb hby d29_11)
  have Fw10 := f9.same W10
  have KH10 : Keep h0 h10 [r0] := KH5.wr W10 (Or.inl (List.mem_of_getElem? (i := 0) rfl))
  have Zn10 : n0 ≤ h10.size := Nat.le_trans Zn5 (Keep.of_wr W10).1
  have N10 := Fr.snoc X10 N5 g_r0
  have ks11 := own_c ks7 st10
  obtain ⟨fs, hr, hrun, hended, hW, hsame⟩ := X10.leave (v := none) (fun _ => rfl) hlk
  refine ⟨_, _, kz _ (ks11 _ ?_), hrun, hended, _, _, rfl, ?_, ⟨_, rfl⟩, hW, hsame.mono (by decide) (by decide)⟩
  · exact X10.returnOut hx Bd.returns (hb hby d29_14) hr
  · show Q29_U Z r0 r1 kr1 y0 h0 n0 _ T10.heap _
    rw [e10]
    have f12 := (Fw5.other W10 (Or.inr (slot_ne (Or.inr (own_w hw 21 rfl)) (Or.inr (own_w hw 22 rfl)) (by decide) (t := (.array .byte)) (t' := .byte) (by decide) (by decide))))
    have f13 := V1.keep KH10 (ninS (Ne.symm n01) nin0)
    exact ⟨rfl, N10, KH10, _, _, Fw10, f12, f13⟩
theorem d26_0 : decode jdk_42_method_139_code 0 = .ok (.getstatic 38, 3) := by decide +kernel
theorem d26_3 : decode jdk_42_method_139_code 3 = .ok (.ifCond .eq 23, 3) := by decide +kernel
theorem d26_6 : decode jdk_42_method_139_code 6 = .ok (.iload_n 0, 1) := by decide +kernel
theorem d26_7 : decode jdk_42_method_139_code 7 = .ok (.invokestatic 1015, 3) := by decide +kernel
theorem d26_10 : decode jdk_42_method_139_code 10 = .ok (.ifCond .eq 16, 3) := by decide +kernel
theorem d26_13 : decode jdk_42_method_139_code 13 = .ok (.new 10, 3) := by decide +kernel
theorem d26_16 : decode jdk_42_method_139_code 16 = .ok (.dup, 1) := by decide +kernel
theorem d26_17 : decode jdk_42_method_139_code 17 = .ok (.iload_n 0, 1) := by decide +kernel
theorem d26_18 : decode jdk_42_method_139_code 18 = .ok (.invokestatic 1018, 3) := by decide +kernel
theorem d26_21 : decode jdk_42_method_139_code 21 = .ok (.iconst 0, 1) := by decide +kernel
theorem d26_22 : decode jdk_42_method_139_code 22 = .ok (.invokespecial 209, 3) := by decide +kernel
theorem d26_25 : decode jdk_42_method_139_code 25 = .ok (.areturn, 1) := by decide +kernel
theorem d26_26 : decode jdk_42_method_139_code 26 = .ok (.new 10, 3) := by decide +kernel
theorem d26_29 : decode jdk_42_method_139_code 29 = .ok (.dup, 1) := by decide +kernel
theorem d26_30 : decode jdk_42_method_139_code 30 = .ok (.iload_n 0, 1) := by decide +kernel
theorem d26_31 : decode jdk_42_method_139_code 31 = .ok (.invokestatic 1021, 3) := by decide +kernel
theorem d26_34 : decode jdk_42_method_139_code 34 = .ok (.iconst 1, 1) := by decide +kernel
theorem d26_35 : decode jdk_42_method_139_code 35 = .ok (.invokespecial 209, 3) := by decide +kernel
theorem d26_38 : decode jdk_42_method_139_code 38 = .ok (.areturn, 1) := by decide +kernel
theorem pn_26 : plainName "java/lang/String" = true := by first | (simp [plainName, overriddenIn]; done) | decide +kernel
theorem pd_13 : parseMethodDescriptor "(C)Z" = some ⟨[.char], some .boolean⟩ := by decide +kernel
theorem pd_22 : parseMethodDescriptor "(C)[B" = some ⟨[.char], some (.array .byte)⟩ := by decide +kernel
theorem pd_23 : parseMethodDescriptor "([BB)V" = some ⟨[(.array .byte), .byte], none⟩ := by decide +kernel
theorem ef_26_G (m : MethodId) (x0 : Int32) : entryFrame m #[(.int x0)] 1 = mkF m 0 #[.val (.int x0)] [] := by first | (simp [entryFrame, mkF, argsToLocals, Value.category]; done) | rfl
def Q26_G (Z : State) (y0 : Int32) (y9 : Int32) (h0 : Heap) (n0 : Nat) (v : Option Value) (h : Heap) (L : List Loc) : Prop := ∃ (b : Addr) (t : Addr) (kt : ClassId) (k z : Int32) (vs : List Value), v = some (.ref b) ∧ Fr n0 L ∧ Keep h0 h [] ∧ n0 ≤ b ∧ h0.size ≤ b ∧ Exa Z h b "java/lang/String" ∧ own_Cd Z h b k ∧ own_Fv Z h b t ∧ Arv Z h t kt .byte z vs (.int 0) ∧ own_sh 1 k z vs [y0]
set_option maxRecDepth 65536 in
set_option maxHeartbeats 40000000 in
theorem rm26_G (l : Launch) (Z : State) (a0 : Array Value) (hw : ∀ d ∈ tables_1, d.before a0 Z = true) (ws : List Jvm.Cond) (y0 : Int32) (y9 : Int32) (h0 : Heap) (n0 : Nat) (Z0 : n0 ≤ h0.size) (S9 : own_S9 Z h0 y9) (P9 : ¬ y9 = (0 : Int32)) (S7a : own_S7a Z h0) (S7b : own_S7b Z h0) (S7c : own_S7c Z h0) :
    MetFree l (⟨"java/lang/String", "valueOf", "(C)Ljava/lang/String;"⟩ : MethodName) (head1 (Jvm.Cond.code (⟨"java/lang/String", "valueOf", "(C)Ljava/lang/String;"⟩ : MethodName) jdk_42_method_139_code 1 (some (.object "java/lang/String")) :: ws) ({ frames := 2, cells := 2, slots := 6, locals := 29 } : Room)) (fun a U => a = #[(.int y0)] ∧ Z.Warmed39 U.vm ∧ U.heap = h0) (fun _ _ _ _ _ => True) (fun _ U o U' => ∃ v L, o = .returned v ∧ Q26_G Z y0 y9 h0 n0 v U'.heap L ∧ FrameEnd U o U' L ({ frames := 2, cells := 2, slots := 6, locals := 29 } : Room).cells ({ frames := 2, cells := 2, slots := 6, locals := 29 } : Room).slots) := by
  refine MetFree.of_bodySF (plainFor_of_name pn_26) hisR ?_
  intro p e s m args below meth c s₁ Bd hml0 hP hK
  obtain ⟨rfl, hZ, hh⟩ := hP
  have hx := Bd.exec
  have hby := Bd.bytes
  have hml : c.maxLocals = 1 := hml0
  have hown : s.vm.findClass "java/lang/String" = some m.cls := findClass_of_methodNamed Bd.named
  have hnm := (name_of_methodNamed Bd.named Bd.method).1
  have hlk : meth.locks = false := by first | exact BodyLoose.notSynchronized Bd | exact Body.notSynchronized Bd
  have X0 : Stand p l e ({ frames := 2, cells := 2, slots := 6, locals := 29 } : Room) s m #[(.int y0)] below meth c s₁ [] 0 0 := Stand.of_body Bd
  have e0 : s₁.heap = h0 := by rw [← hh, Bd.state]; rfl
  have N0 := Fr.nil n0
  have k0 : own_R p e below (s₁.setTop (entryFrame m #[(.int y0)] 1)) (s₁.setTop (mkF m 0 #[vI y0] [])) := fun t k => castTop (ef_26_G m y0) k
  obtain ⟨A0, hA0⟩ : ∃ z, z = s₁.setTop (entryFrame m #[(.int y0)] 1) := ⟨_, rfl⟩
  rw [← hA0] at k0
  have kz : ∀ t, Steps p.tables e below A0 t → Steps p.tables e below (s₁.setTop (entryFrame m #[(.int y0)] 1)) t := fun t q => hA0 ▸ q
  by_cases hc1 : (255 : Int32) < y0
  · skip
    obtain ⟨T2, X2, e2, st2⟩ := getS2 X0 hx hZ hown (host := "") (Or.inl (own_w hw 37 rfl)) Via.refl e0 S9 (g := (mkF m 0 #[vI y0] [])) rfl (hb hby d26_0)
    have ks3 := own_c k0 st2
    have ks4 : own_R p e below (A0) (T2.setTop (mkF m 7 #[vI y0] [(.int y0)])) := fun t k => ks3 t (by
      refine XS.ifNo X2.here hx rfl (hb hby d26_3) rfl ((if0 _ _).trans (feq P9).1) ?_
      refine XS.iloadN X2.here hx rfl (hb hby d26_6) rfl ?_
      exact k)
    obtain ⟨_, _, ⟨T5, L5, k5, n5⟩, -, X5, ⟨Lc5, hQ5, lq5, yq5, zq5⟩, st5⟩ := Jvm.LawKit.callS X2 hx (y := (⟨"java/lang/StringLatin1", "canEncode", "(C)Z"⟩ : MethodName)) hown (mvT hZ (own_w hw 118 rfl)) (mvT hZ (own_w hw 119 rfl)) (mvT hZ (own_w hw 120 rfl)) (mvT hZ (own_w hw 121 rfl)) (by decide) (backOf (W := 0) (rm27_U l Z a0 hw [] y0 h0 n0 Z0 hc1) hZ (own_w hw 121 rfl) (own_w hw 120 rfl) (by decide) (by decide)) (g := (mkF m 7 #[vI y0] [(.int y0)])) rfl (by rw [hml]; rfl) (argsL := [(.int y0)]) (rest := []) (lenOf pd_13 rfl) rfl (by show 2 * 0 + _ ≤ _; exact Nat.le_of_eq rfl) (hb hby d26_7) (fun _ _ => ⟨rfl, e2, (by decide : 0 + 0 ≤ _), (by decide : 0 + 0 ≤ _)⟩)
    dsimp only [Pt.U, Pt.locs, Pt.cells, Pt.slots] at X5 lq5 yq5 zq5 st5 hQ5
    subst lq5 yq5 zq5
    obtain ⟨rfl, Nq5, eq5⟩ := hQ5
    have N5 := Fr.app N0 Nq5
    have ks6 := own_c ks4 st5
    have ks7 : own_R p e below (A0) (T5.setTop (mkF m 26 #[vI y0] [])) := fun t k => ks6 t (by
      refine XS.ifYes X5.here hx rfl (pc0 := 10) (pc' := 26) rfl (hb hby d26_10) rfl ((if0 _ _).trans (teq (by decide)).1) (by decide) (by decide) ?_
      exact k)
    obtain ⟨T8, h8, X8, e8, E8, A8, D8, -, st8⟩ := newO X5 hx hZ hown (own_w hw 76 rfl) (own_w hw 6 rfl) (own_w hw 7 rfl) eq5 (g := (mkF m 26 #[vI y0] [])) rfl (hb hby d26_26) (by decide) (by decide)
    obtain ⟨b8, g8⟩ : ∃ z, z = h0.size := ⟨_, rfl⟩
    rw [← g8] at A8 D8 st8
    have g_b8 : n0 ≤ b8 := Nat.le_trans Z0 (Nat.le_of_eq g8.symm)
    have sz_b8 : h0.size ≤ b8 := Nat.le_trans (Keep.refl h0 []).1 (Nat.le_of_eq g8.symm)
    have KH8 : Keep h0 h8 [] := (Keep.refl h0 []).ext E8
    have Zn8 : n0 ≤ h8.size := Nat.le_trans Z0 E8.1
    have F_value_b8 : Fld Z h8 b8 "java/lang/String" "value" "[B" .null := D8 (Or.inr (own_w hw 21 rfl)) (ty := (.array .byte)) (by decide)
    have F_coder_b8 : Fld Z h8 b8 "java/lang/String" "coder" "B" (.int 0) := D8 (Or.inr (own_w hw 22 rfl)) (ty := .byte) (by decide)
    have ks9 := own_c ks7 st8
    have ks10 : own_R p e below (A0) (T8.setTop (mkF m 31 #[vI y0] [(.int y0), (.ref b8), (.ref b8)])) := fun t k => ks9 t (by
      refine XS.dup X8.here hx rfl (hb hby d26_29) rfl rfl ?_
      refine XS.iloadN X8.here hx rfl (hb hby d26_30) rfl ?_
      exact k)
    have f12 := own_sta_keep S7a KH8
    have f13 := own_sta_keep S7b KH8
    have f14 := own_sta_keep S7c KH8
    obtain ⟨_, _, ⟨T11, L11, k11, n11⟩, -, X11, ⟨Lc11, hQ11, lq11, yq11, zq11⟩, st11⟩ := Jvm.LawKit.callS X8 hx (y := (⟨"java/lang/StringUTF16", "toBytes", "(C)[B"⟩ : MethodName)) hown (mvT hZ (own_w hw 163 rfl)) (mvT hZ (own_w hw 164 rfl)) (mvT hZ (own_w hw 40 rfl)) (mvT hZ (own_w hw 165 rfl)) (by decide) (backOf (W := 2) (rm39 l Z a0 hw [] y0 h8 n0 Zn8 f12 f13 f14) hZ (own_w hw 165 rfl) (own_w hw 40 rfl) (by decide) (by decide)) (g := (mkF m 31 #[vI y0] [(.int y0), (.ref b8), (.ref b8)])) rfl (by rw [hml]; rfl) (argsL := [(.int y0)]) (rest := [(.ref b8), (.ref b8)]) (lenOf pd_22 rfl) rfl (by show 2 * 0 + _ ≤ _; exact Nat.le_of_eq rfl) (hb hby d26_31) (fun _ _ => ⟨rfl, e8, (by decide : 1 + 1 ≤ _), (by decide : 4 + 2 ≤ _)⟩)
    dsimp only [Pt.U, Pt.locs, Pt.cells, Pt.slots] at X11 lq11 yq11 zq11 st11 hQ11
    subst lq11 yq11 zq11
    obtain ⟨bq11, kq11, rfl, Nq11, Kq11, g_bq11, szq11, Vq11⟩ := hQ11
    have N11 := Fr.app N5 Nq11
    have KH11 : Keep h0 T11.heap [] := KH8.trans Kq11 all0
    have Zn11 : n0 ≤ T11.heap.size := Nat.le_trans Zn8 Kq11.1
    have ne_b8_bq11 : b8 ≠ bq11 := Nat.ne_of_lt (Nat.lt_of_lt_of_le A8.lt szq11)
    have sz_bq11 : h0.size ≤ bq11 := Nat.le_trans KH8.1 szq11
    have ks15 := own_c ks10 st11
    have ks16 : own_R p e below (A0) (T11.setTop (mkF m 35 #[vI y0] [(.int 1), (.ref bq11), (.ref b8), (.ref b8)])) := fun t k => ks15 t (by
      refine XS.iconst X11.here hx rfl (hb hby d26_34) ?_
      exact k)
    have f18 := (A8.keep Kq11)
    have f19 := (F_coder_b8.keep Kq11 nin0)
    have f20 := (F_value_b8.keep Kq11 nin0)
    obtain ⟨_, _, ⟨T17, L17, k17, n17⟩, -, X17, ⟨Lc17, hQ17, lq17, yq17, zq17⟩, st17⟩ := X11.specialBack hx (y := (⟨"java/lang/String", "<init>", "([BB)V"⟩ : MethodName)) rfl hown (mvT hZ (own_w hw 125 rfl)) (mvT hZ (own_w hw 126 rfl)) (mvT hZ (own_w hw 127 rfl)) (by decide) (backOf (W := 1) (rm29_U l Z a0 hw [] b8 bq11 _ y0 T11.heap n0 Zn11 f18 f19 f20 g_b8 ne_b8_bq11 Vq11) hZ (own_w hw 127 rfl) (own_w hw 7 rfl) (by decide) (by decide)) (g := (mkF m 35 #[vI y0] [(.int 1), (.ref bq11), (.ref b8), (.ref b8)])) rfl (by rw [hml]; rfl) (Steps.refl _) (a := b8) (argsL := [(.ref bq11), (.int 1)]) (rest := [(.ref b8)]) (lenOf pd_23 rfl) rfl (by show 2 * 0 + _ ≤ _; exact Nat.le_of_eq rfl) (hb hby d26_35) (fun _ _ => ⟨rfl, rfl, (by decide : 2 + 0 ≤ _), (by decide : 6 + 0 ≤ _)⟩)
    dsimp only [Pt.U, Pt.locs, Pt.cells, Pt.slots] at X17 lq17 yq17 zq17 st17 hQ17
    subst lq17 yq17 zq17
    obtain ⟨rfl, Nq17, Kq17, tq17, kq17, Fc17, Fv17, Vq17⟩ := hQ17
    have N17 := Fr.app N11 Nq17
    have KH17 : Keep h0 T17.heap [] := KH11.trans Kq17 (allS (Or.inr sz_b8) all0)
    have Zn17 : n0 ≤ T17.heap.size := Nat.le_trans Zn11 Kq17.1
    have ks21 := own_ct ks16 st17
    obtain ⟨fs, hr, hrun, hended, hW, hsame⟩ := X17.leave (v := some (.ref b8)) (fun h => by rw [Bd.returns] at h; cases h) hlk
    refine ⟨_, _, kz _ (ks21 _ ?_), hrun, hended, _, _, rfl, ?_, ⟨_, rfl⟩, hW, hsame.mono (by decide) (by decide)⟩
    · exact retOut X17 hx Bd.returns rfl (Or.inr (Or.inr (Or.inr (Or.inr ⟨rfl, rfl, rfl⟩)))) (hb hby d26_38) hr
    · show Q26_G Z y0 y9 h0 n0 _ T17.heap _
      have f22 := (f18.keep Kq17)
      exact ⟨_, _, _, _, _, _, rfl, N17, KH17, g_b8, sz_b8, f22, Fc17, Fv17, Vq17, (Or.inr ⟨rfl, by decide, rfl, y0, by simp, hc1⟩)⟩
  · skip
    obtain ⟨T23, X23, e23, st23⟩ := getS2 X0 hx hZ hown (host := "") (Or.inl (own_w hw 37 rfl)) Via.refl e0 S9 (g := (mkF m 0 #[vI y0] [])) rfl (hb hby d26_0)
    have ks24 := own_c k0 st23
    have ks25 : own_R p e below (A0) (T23.setTop (mkF m 7 #[vI y0] [(.int y0)])) := fun t k => ks24 t (by
      refine XS.ifNo X23.here hx rfl (hb hby d26_3) rfl ((if0 _ _).trans (feq P9).1) ?_
      refine XS.iloadN X23.here hx rfl (hb hby d26_6) rfl ?_
      exact k)
    obtain ⟨_, _, ⟨T26, L26, k26, n26⟩, -, X26, ⟨Lc26, hQ26, lq26, yq26, zq26⟩, st26⟩ := Jvm.LawKit.callS X23 hx (y := (⟨"java/lang/StringLatin1", "canEncode", "(C)Z"⟩ : MethodName)) hown (mvT hZ (own_w hw 118 rfl)) (mvT hZ (own_w hw 119 rfl)) (mvT hZ (own_w hw 120 rfl)) (mvT hZ (own_w hw 121 rfl)) (by decide) (backOf (W := 0) (rm27_L l Z a0 hw [] y0 h0 n0 Z0 hc1) hZ (own_w hw 121 rfl) (own_w hw 120 rfl) (by decide) (by decide)) (g := (mkF m 7 #[vI y0] [(.int y0)])) rfl (by rw [hml]; rfl) (argsL := [(.int y0)]) (rest := []) (lenOf pd_13 rfl) rfl (by show 2 * 0 + _ ≤ _; exact Nat.le_of_eq rfl) (hb hby d26_7) (fun _ _ => ⟨rfl, e23, (by decide : 0 + 0 ≤ _), (by decide : 0 + 0 ≤ _)⟩)
    dsimp only [Pt.U, Pt.locs, Pt.cells, Pt.slots] at X26 lq26 yq26 zq26 st26 hQ26
    subst lq26 yq26 zq26
    obtain ⟨rfl, Nq26, eq26⟩ := hQ26
    have N26 := Fr.app N0 Nq26
    have ks27 := own_c ks25 st26
    have ks28 : own_R p e below (A0) (T26.setTop (mkF m 13 #[vI y0] [])) := fun t k => ks27 t (by
      refine XS.ifNo X26.here hx rfl (hb hby d26_10) rfl ((if0 _ _).trans (feq (by decide)).1) ?_
      exact k)
    obtain ⟨T29, h29, X29, e29, E29, A29, D29, -, st29⟩ := newO X26 hx hZ hown (own_w hw 76 rfl) (own_w hw 6 rfl) (own_w hw 7 rfl) eq26 (g := (mkF m 13 #[vI y0] [])) rfl (hb hby d26_13) (by decide) (by decide)
    obtain ⟨b29, g29⟩ : ∃ z, z = h0.size := ⟨_, rfl⟩
    rw [← g29] at A29 D29 st29
    have g_b29 : n0 ≤ b29 := Nat.le_trans Z0 (Nat.le_of_eq g29.symm)
    have sz_b29 : h0.size ≤ b29 := Nat.le_trans (Keep.refl h0 []).1 (Nat.le_of_eq g29.symm)
    have KH29 : Keep h0 h29 [] := (Keep.refl h0 []).ext E29
    have Zn29 : n0 ≤ h29.size := Nat.le_trans Z0 E29.1
    have F_value_b29 : Fld Z h29 b29 "java/lang/String" "value" "[B" .null := D29 (Or.inr (own_w hw 21 rfl)) (ty := (.array .byte)) (by decide)
    have F_coder_b29 : Fld Z h29 b29 "java/lang/String" "coder" "B" (.int 0) := D29 (Or.inr (own_w hw 22 rfl)) (ty := .byte) (by decide)
    have ks30 := own_c ks28 st29
    have ks31 : own_R p e below (A0) (T29.setTop (mkF m 18 #[vI y0] [(.int y0), (.ref b29), (.ref b29)])) := fun t k => ks30 t (by
      refine XS.dup X29.here hx rfl (hb hby d26_16) rfl rfl ?_
      refine XS.iloadN X29.here hx rfl (hb hby d26_17) rfl ?_
      exact k)
    obtain ⟨_, _, ⟨T32, L32, k32, n32⟩, -, X32, ⟨Lc32, hQ32, lq32, yq32, zq32⟩, st32⟩ := Jvm.LawKit.callS X29 hx (y := (⟨"java/lang/StringLatin1", "toBytes", "(C)[B"⟩ : MethodName)) hown (mvT hZ (own_w hw 122 rfl)) (mvT hZ (own_w hw 123 rfl)) (mvT hZ (own_w hw 120 rfl)) (mvT hZ (own_w hw 124 rfl)) (by decide) (backOf (W := 2) (rm28 l Z a0 hw [] y0 h29 n0 Zn29 ) hZ (own_w hw 124 rfl) (own_w hw 120 rfl) (by decide) (by decide)) (g := (mkF m 18 #[vI y0] [(.int y0), (.ref b29), (.ref b29)])) rfl (by rw [hml]; rfl) (argsL := [(.int y0)]) (rest := [(.ref b29), (.ref b29)]) (lenOf pd_22 rfl) rfl (by show 2 * 0 + _ ≤ _; exact Nat.le_of_eq rfl) (hb hby d26_18) (fun _ _ => ⟨rfl, e29, (by decide : 1 + 1 ≤ _), (by decide : 4 + 1 ≤ _)⟩)
    dsimp only [Pt.U, Pt.locs, Pt.cells, Pt.slots] at X32 lq32 yq32 zq32 st32 hQ32
    subst lq32 yq32 zq32
    obtain ⟨bq32, kq32, rfl, Nq32, Kq32, g_bq32, szq32, Vq32⟩ := hQ32
    have N32 := Fr.app N26 Nq32
    have KH32 : Keep h0 T32.heap [] := KH29.trans Kq32 all0
    have Zn32 : n0 ≤ T32.heap.size := Nat.le_trans Zn29 Kq32.1
    have ne_b29_bq32 : b29 ≠ bq32 := Nat.ne_of_lt (Nat.lt_of_lt_of_le A29.lt szq32)
    have sz_bq32 : h0.size ≤ bq32 := Nat.le_trans KH29.1 szq32
    have ks33 := own_c ks31 st32
    have ks34 : own_R p e below (A0) (T32.setTop (mkF m 22 #[vI y0] [(.int 0), (.ref bq32), (.ref b29), (.ref b29)])) := fun t k => ks33 t (by
      refine XS.iconst X32.here hx rfl (hb hby d26_21) ?_
      exact k)
    have f36 := (A29.keep Kq32)
    have f37 := (F_coder_b29.keep Kq32 nin0)
    have f38 := (F_value_b29.keep Kq32 nin0)
    obtain ⟨_, _, ⟨T35, L35, k35, n35⟩, -, X35, ⟨Lc35, hQ35, lq35, yq35, zq35⟩, st35⟩ := X32.specialBack hx (y := (⟨"java/lang/String", "<init>", "([BB)V"⟩ : MethodName)) rfl hown (mvT hZ (own_w hw 125 rfl)) (mvT hZ (own_w hw 126 rfl)) (mvT hZ (own_w hw 127 rfl)) (by decide) (backOf (W := 1) (rm29_L l Z a0 hw [] b29 bq32 _ y0 T32.heap n0 Zn32 f36 f37 f38 g_b29 ne_b29_bq32 Vq32) hZ (own_w hw 127 rfl) (own_w hw 7 rfl) (by decide) (by decide)) (g := (mkF m 22 #[vI y0] [(.int 0), (.ref bq32), (.ref b29), (.ref b29)])) rfl (by rw [hml]; rfl) (Steps.refl _) (a := b29) (argsL := [(.ref bq32), (.int 0)]) (rest := [(.ref b29)]) (lenOf pd_23 rfl) rfl (by show 2 * 0 + _ ≤ _; exact Nat.le_of_eq rfl) (hb hby d26_22) (fun _ _ => ⟨rfl, rfl, (by decide : 2 + 0 ≤ _), (by decide : 5 + 0 ≤ _)⟩)
    dsimp only [Pt.U, Pt.locs, Pt.cells, Pt.slots] at X35 lq35 yq35 zq35 st35 hQ35
    subst lq35 yq35 zq35
    obtain ⟨rfl, Nq35, Kq35, tq35, kq35, Fc35, Fv35, Vq35⟩ := hQ35
    have N35 := Fr.app N32 Nq35
    have KH35 : Keep h0 T35.heap [] := KH32.trans Kq35 (allS (Or.inr sz_b29) all0)
    have Zn35 : n0 ≤ T35.heap.size := Nat.le_trans Zn32 Kq35.1
    have ks39 := own_ct ks34 st35
    obtain ⟨fs, hr, hrun, hended, hW, hsame⟩ := X35.leave (v := some (.ref b29)) (fun h => by rw [Bd.returns] at h; cases h) hlk
    refine ⟨_, _, kz _ (ks39 _ ?_), hrun, hended, _, _, rfl, ?_, ⟨_, rfl⟩, hW, hsame.mono (by decide) (by decide)⟩
    · exact retOut X35 hx Bd.returns rfl (Or.inr (Or.inr (Or.inr (Or.inr ⟨rfl, rfl, rfl⟩)))) (hb hby d26_25) hr
    · show Q26_G Z y0 y9 h0 n0 _ T35.heap _
      have f40 := (f36.keep Kq35)
      exact ⟨_, _, _, _, _, _, rfl, N35, KH35, g_b29, sz_b29, f40, Fc35, Fv35, Vq35, (Or.inl ⟨rfl, by decide, rfl, (own_ac hc1 own_an)⟩)⟩
theorem d14_0 : decode jdk_52_method_15_code 0 = .ok (.iload_n 1, 1) := by decide +kernel
theorem d14_1 : decode jdk_52_method_15_code 1 = .ok (.aload_n 0, 1) := by decide +kernel
theorem d14_2 : decode jdk_52_method_15_code 2 = .ok (.arraylength, 1) := by decide +kernel
theorem d14_3 : decode jdk_52_method_15_code 3 = .ok (.isub, 1) := by decide +kernel
theorem d14_4 : decode jdk_52_method_15_code 4 = .ok (.bipush 31, 2) := by decide +kernel
theorem d14_6 : decode jdk_52_method_15_code 6 = .ok (.iushr, 1) := by decide +kernel
theorem d14_7 : decode jdk_52_method_15_code 7 = .ok (.i2b, 1) := by decide +kernel
theorem d14_8 : decode jdk_52_method_15_code 8 = .ok (.ireturn, 1) := by decide +kernel
theorem pn_14 : plainName "java/lang/StringUTF16" = true := by first | (simp [plainName, overriddenIn]; done) | decide +kernel
theorem ef_14 (m : MethodId) (x0 : Addr) (x1 : Int32) : entryFrame m #[(.ref x0), (.int x1)] 2 = mkF m 0 #[.val (.ref x0), .val (.int x1)] [] := by first | (simp [entryFrame, mkF, argsToLocals, Value.category]; done) | rfl
def Q14 (Z : State) (r0 : Addr) (p1 : Int32) (kr0 : ClassId) (z0 : Int32) (vs0 : List Value) (kc0 : Int32) (h0 : Heap) (n0 : Nat) (v : Option Value) (h : Heap) (L : List Loc) : Prop := v = some (.int kc0) ∧ Fr n0 L ∧ h = h0
set_option maxRecDepth 65536 in
set_option maxHeartbeats 40000000 in
theorem rm14 (l : Launch) (Z : State) (a0 : Array Value) (hw : ∀ d ∈ tables_1, d.before a0 Z = true) (ws : List Jvm.Cond) (r0 : Addr) (p1 : Int32) (kr0 : ClassId) (z0 : Int32) (vs0 : List Value) (kc0 : Int32) (h0 : Heap) (n0 : Nat) (Z0 : n0 ≤ h0.size) (V0 : Arv Z h0 r0 kr0 .byte z0 vs0 (.int 0)) (hck : ((((p1 - z0).toUInt32 >>> ((31 : Int32) &&& 31).toUInt32).toInt32).toInt8.toInt32) = kc0) :
    MetFree l (⟨"java/lang/StringUTF16", "coderFromArrayLen", "([BI)B"⟩ : MethodName) (head1 (Jvm.Cond.code (⟨"java/lang/StringUTF16", "coderFromArrayLen", "([BI)B"⟩ : MethodName) jdk_52_method_15_code 2 (some .byte) :: ws) ({ frames := 0, cells := 0, slots := 0, locals := 0 } : Room)) (fun a U => a = #[(.ref r0), (.int p1)] ∧ Z.Warmed39 U.vm ∧ U.heap = h0) (fun _ _ _ _ _ => True) (fun _ U o U' => ∃ v L, o = .returned v ∧ Q14 Z r0 p1 kr0 z0 vs0 kc0 h0 n0 v U'.heap L ∧ FrameEnd U o U' L ({ frames := 0, cells := 0, slots := 0, locals := 0 } : Room).cells ({ frames := 0, cells := 0, slots := 0, locals := 0 } : Room).slots) := by
  refine MetFree.of_bodySF (plainFor_of_name pn_14) hisR ?_
  intro p e s m args below meth c s₁ Bd hml0 hP hK
  obtain ⟨rfl, hZ, hh⟩ := hP
  have hx := Bd.exec
  have hby := Bd.bytes
  have hml : c.maxLocals = 2 := hml0
  have hown : s.vm.findClass "java/lang/StringUTF16" = some m.cls := findClass_of_methodNamed Bd.named
  have hnm := (name_of_methodNamed Bd.named Bd.method).1
  have hlk : meth.locks = false := by first | exact BodyLoose.notSynchronized Bd | exact Body.notSynchronized Bd
  have X0 : Stand p l e ({ frames := 0, cells := 0, slots := 0, locals := 0 } : Room) s m #[(.ref r0), (.int p1)] below meth c s₁ [] 0 0 := Stand.of_body Bd
  have e0 : s₁.heap = h0 := by rw [← hh, Bd.state]; rfl
  have N0 := Fr.nil n0
  have k0 : own_R p e below (s₁.setTop (entryFrame m #[(.ref r0), (.int p1)] 2)) (s₁.setTop (mkF m 0 #[vR r0, vI p1] [])) := fun t k => castTop (ef_14 m r0 p1) k
  obtain ⟨A0, hA0⟩ : ∃ z, z = s₁.setTop (entryFrame m #[(.ref r0), (.int p1)] 2) := ⟨_, rfl⟩
  rw [← hA0] at k0
  have kz : ∀ t, Steps p.tables e below A0 t → Steps p.tables e below (s₁.setTop (entryFrame m #[(.ref r0), (.int p1)] 2)) t := fun t q => hA0 ▸ q
  have ks1 : own_R p e below (A0) (s₁.setTop (mkF m 2 #[vR r0, vI p1] [(.ref r0), (.int p1)])) := fun t k => k0 t (by
    refine XS.iloadN X0.here hx rfl (hb hby d14_0) rfl ?_
    refine XS.aloadN X0.here hx rfl (hb hby d14_1) rfl rfl ?_
    exact k)
  obtain ⟨cl2, Ar2, qa2, S2, Na2, Ha2, Ga2⟩ := id V0
  have ks3 : own_R p e below (A0) (s₁.setTop (mkF m 8 #[vR r0, vI p1] [(.int ((((p1 - z0).toUInt32 >>> ((31 : Int32) &&& 31).toUInt32).toInt32).toInt8.toInt32))])) := fun t k => ks1 t (by
    refine X0.arraylength hx (by rw [e0]; exact Ar2.1) (State.isArrayOf_alike hZ.alike Ar2.2.1) (g := (mkF m 2 #[vR r0, vI p1] [(.ref r0), (.int p1)])) rfl rfl (hb hby d14_2) _ ?_
    rw [len_of S2 Na2]
    refine XS.isub X0.here hx rfl (hb hby d14_3) rfl ?_
    refine XS.bipush X0.here hx rfl (hb hby d14_4) ?_
    show Steps p.tables e below (s₁.setTop (mkF m 6 #[vR r0, vI p1] [(.int 31), (.int (p1 - z0))])) _
    refine XS.iushr X0.here hx rfl (hb hby d14_6) rfl ?_
    refine XS.i2b X0.here hx rfl (hb hby d14_7) rfl ?_
    exact k)
  obtain ⟨fs, hr, hrun, hended, hW, hsame⟩ := X0.leave (v := some (.int ((((p1 - z0).toUInt32 >>> ((31 : Int32) &&& 31).toUInt32).toInt32).toInt8.toInt32))) (fun h => by rw [Bd.returns] at h; cases h) hlk
  refine ⟨_, _, kz _ (ks3 _ ?_), hrun, hended, _, _, rfl, ?_, ⟨_, rfl⟩, hW, hsame.mono (by decide) (by decide)⟩
  · exact retOut X0 hx Bd.returns (own_nbb _) (Or.inl ⟨rfl, by simp, _, rfl⟩) (hb hby d14_8) hr
  · show Q14 Z r0 p1 kr0 z0 vs0 kc0 h0 n0 _ s₁.heap _
    rw [e0]
    exact ⟨by rw [hck], N0, rfl⟩
theorem ef_11_2 (m : MethodId) (x0 : Int32) : entryFrame m #[(.int x0)] 1 = mkF m 0 #[.val (.int x0)] [] := by first | (simp [entryFrame, mkF, argsToLocals, Value.category]; done) | rfl
def Q11_2 (Z : State)  (h0 : Heap) (n0 : Nat) (v : Option Value) (h : Heap) (L : List Loc) : Prop := v = some (.int (4 : Int32)) ∧ Fr n0 L ∧ h = h0
set_option maxRecDepth 65536 in
set_option maxHeartbeats 40000000 in
theorem rm11_2 (l : Launch) (Z : State) (a0 : Array Value) (hw : ∀ d ∈ tables_1, d.before a0 Z = true) (ws : List Jvm.Cond)  (h0 : Heap) (n0 : Nat) (Z0 : n0 ≤ h0.size) :
    MetFree l (⟨"java/lang/StringUTF16", "newBytesLength", "(I)I"⟩ : MethodName) (head1 (Jvm.Cond.code (⟨"java/lang/StringUTF16", "newBytesLength", "(I)I"⟩ : MethodName) jdk_52_method_3_code 1 (some .int) :: ws) ({ frames := 0, cells := 0, slots := 0, locals := 0 } : Room)) (fun a U => a = #[(.int 2)] ∧ Z.Warmed39 U.vm ∧ U.heap = h0) (fun _ _ _ _ _ => True) (fun _ U o U' => ∃ v L, o = .returned v ∧ Q11_2 Z  h0 n0 v U'.heap L ∧ FrameEnd U o U' L ({ frames := 0, cells := 0, slots := 0, locals := 0 } : Room).cells ({ frames := 0, cells := 0, slots := 0, locals := 0 } : Room).slots) := by
  refine MetFree.of_bodySF (plainFor_of_name pn_11) hisR ?_
  intro p e s m args below meth c s₁ Bd hml0 hP hK
  obtain ⟨rfl, hZ, hh⟩ := hP
  have hx := Bd.exec
  have hby := Bd.bytes
  have hml : c.maxLocals = 1 := hml0
  have hown : s.vm.findClass "java/lang/StringUTF16" = some m.cls := findClass_of_methodNamed Bd.named
  have hnm := (name_of_methodNamed Bd.named Bd.method).1
  have hlk : meth.locks = false := by first | exact BodyLoose.notSynchronized Bd | exact Body.notSynchronized Bd
  have X0 : Stand p l e ({ frames := 0, cells := 0, slots := 0, locals := 0 } : Room) s m #[(.int 2)] below meth c s₁ [] 0 0 := Stand.of_body Bd
  have e0 : s₁.heap = h0 := by rw [← hh, Bd.state]; rfl
  have N0 := Fr.nil n0
  have k0 : own_R p e below (s₁.setTop (entryFrame m #[(.int 2)] 1)) (s₁.setTop (mkF m 0 #[vI 2] [])) := fun t k => castTop (ef_11_2 m (2 : Int32)) k
  obtain ⟨A0, hA0⟩ : ∃ z, z = s₁.setTop (entryFrame m #[(.int 2)] 1) := ⟨_, rfl⟩
  rw [← hA0] at k0
  have kz : ∀ t, Steps p.tables e below A0 t → Steps p.tables e below (s₁.setTop (entryFrame m #[(.int 2)] 1)) t := fun t q => hA0 ▸ q
  have ks1 : own_R p e below (A0) (s₁.setTop (mkF m 58 #[vI 2] [(.int 4)])) := fun t k => k0 t (by
    refine XS.iloadN X0.here hx rfl (hb hby d11_0) rfl ?_
    refine XS.ifYes X0.here hx rfl (pc0 := 1) (pc' := 12) rfl (hb hby d11_1) rfl ((if0 _ _).trans (flt (by decide)).2.1) (by decide) (by decide) ?_
    refine XS.iloadN X0.here hx rfl (hb hby d11_12) rfl ?_
    refine X0.ldcInt hx hown (mvT hZ (own_w hw 54 rfl)) (g := (mkF m 13 #[vI 2] [(.int 2)])) rfl (hb hby d11_13) _ ?_
    refine XS.icmpYes X0.here hx rfl (pc0 := 15) (pc' := 55) rfl (hb hby d11_15) rfl (tlt (by decide)).1 (by decide) (by decide) ?_
    refine XS.iloadN X0.here hx rfl (hb hby d11_55) rfl ?_
    refine XS.iconst X0.here hx rfl (hb hby d11_56) ?_
    show Steps p.tables e below (s₁.setTop (mkF m 57 #[vI 2] [(.int 1), (.int 2)])) _
    refine XS.ishl X0.here hx rfl (hb hby d11_57) rfl ?_
    show Steps p.tables e below (s₁.setTop (mkF m 58 #[vI 2] [(.int ((2 : Int32) <<< ((1 : Int32) &&& 31)))])) _
    rw [show ((2 : Int32) <<< ((1 : Int32) &&& 31)) = (4 : Int32) from by decide]
    exact k)
  obtain ⟨fs, hr, hrun, hended, hW, hsame⟩ := X0.leave (v := some (.int 4)) (fun h => by rw [Bd.returns] at h; cases h) hlk
  refine ⟨_, _, kz _ (ks1 _ ?_), hrun, hended, _, _, rfl, ?_, ⟨_, rfl⟩, hW, hsame.mono (by decide) (by decide)⟩
  · exact retI X0 hx Bd.returns (hb hby d11_58) hr
  · show Q11_2 Z  h0 n0 _ s₁.heap _
    rw [e0]
    exact ⟨rfl, N0, rfl⟩
theorem ef_10_2 (m : MethodId) (x0 : Int32) : entryFrame m #[(.int x0)] 1 = mkF m 0 #[.val (.int x0)] [] := by first | (simp [entryFrame, mkF, argsToLocals, Value.category]; done) | rfl
def Q10_2 (Z : State)  (h0 : Heap) (n0 : Nat) (v : Option Value) (h : Heap) (L : List Loc) : Prop := ∃ (b : Addr) (k : ClassId), v = some (.ref b) ∧ Fr n0 L ∧ Keep h0 h [] ∧ n0 ≤ b ∧ h0.size ≤ b ∧ Arv Z h b k .byte (4 : Int32) [(.int 0), (.int 0), (.int 0), (.int 0)] (.int 0)
set_option maxRecDepth 65536 in
set_option maxHeartbeats 40000000 in
theorem rm10_2 (l : Launch) (Z : State) (a0 : Array Value) (hw : ∀ d ∈ tables_1, d.before a0 Z = true) (ws : List Jvm.Cond)  (h0 : Heap) (n0 : Nat) (Z0 : n0 ≤ h0.size) :
    MetFree l (⟨"java/lang/StringUTF16", "newBytesFor", "(I)[B"⟩ : MethodName) (head1 (Jvm.Cond.code (⟨"java/lang/StringUTF16", "newBytesFor", "(I)[B"⟩ : MethodName) jdk_52_method_2_code 1 (some (.array .byte)) :: ws) ({ frames := 1, cells := 1, slots := 4, locals := 12 } : Room)) (fun a U => a = #[(.int 2)] ∧ Z.Warmed39 U.vm ∧ U.heap = h0) (fun _ _ _ _ _ => True) (fun _ U o U' => ∃ v L, o = .returned v ∧ Q10_2 Z  h0 n0 v U'.heap L ∧ FrameEnd U o U' L ({ frames := 1, cells := 1, slots := 4, locals := 12 } : Room).cells ({ frames := 1, cells := 1, slots := 4, locals := 12 } : Room).slots) := by
  refine MetFree.of_bodySF (plainFor_of_name pn_10) hisR ?_
  intro p e s m args below meth c s₁ Bd hml0 hP hK
  obtain ⟨rfl, hZ, hh⟩ := hP
  have hx := Bd.exec
  have hby := Bd.bytes
  have hml : c.maxLocals = 1 := hml0
  have hown : s.vm.findClass "java/lang/StringUTF16" = some m.cls := findClass_of_methodNamed Bd.named
  have hnm := (name_of_methodNamed Bd.named Bd.method).1
  have hlk : meth.locks = false := by first | exact BodyLoose.notSynchronized Bd | exact Body.notSynchronized Bd
  have X0 : Stand p l e ({ frames := 1, cells := 1, slots := 4, locals := 12 } : Room) s m #[(.int 2)] below meth c s₁ [] 0 0 := Stand.of_body Bd
  have e0 : s₁.heap = h0 := by rw [← hh, Bd.state]; rfl
  have N0 := Fr.nil n0
  have k0 : own_R p e below (s₁.setTop (entryFrame m #[(.int 2)] 1)) (s₁.setTop (mkF m 0 #[vI 2] [])) := fun t k => castTop (ef_10_2 m (2 : Int32)) k
  obtain ⟨A0, hA0⟩ : ∃ z, z = s₁.setTop (entryFrame m #[(.int 2)] 1) := ⟨_, rfl⟩
  rw [← hA0] at k0
  have kz : ∀ t, Steps p.tables e below A0 t → Steps p.tables e below (s₁.setTop (entryFrame m #[(.int 2)] 1)) t := fun t q => hA0 ▸ q
  have ks1 : own_R p e below (A0) (s₁.setTop (mkF m 1 #[vI 2] [(.int 2)])) := fun t k => k0 t (by
    refine XS.iloadN X0.here hx rfl (hb hby d10_0) rfl ?_
    exact k)
  obtain ⟨_, _, ⟨T2, L2, k2, n2⟩, -, X2, ⟨Lc2, hQ2, lq2, yq2, zq2⟩, st2⟩ := Jvm.LawKit.callS X0 hx (y := (⟨"java/lang/StringUTF16", "newBytesLength", "(I)I"⟩ : MethodName)) hown (mvT hZ (own_w hw 51 rfl)) (mvT hZ (own_w hw 52 rfl)) (mvT hZ (own_w hw 40 rfl)) (mvT hZ (own_w hw 53 rfl)) (by decide) (backOf (W := 0) (rm11_2 l Z a0 hw []  h0 n0 Z0 ) hZ (own_w hw 53 rfl) (own_w hw 40 rfl) (by decide) (by decide)) (g := (mkF m 1 #[vI 2] [(.int 2)])) rfl (by rw [hml]; rfl) (argsL := [(.int 2)]) (rest := []) (lenOf pd_9 rfl) rfl (by show 2 * 0 + _ ≤ _; exact Nat.le_of_eq rfl) (hb hby d10_1) (fun _ _ => ⟨rfl, e0, (by decide : 0 + 0 ≤ _), (by decide : 0 + 0 ≤ _)⟩)
  dsimp only [Pt.U, Pt.locs, Pt.cells, Pt.slots] at X2 lq2 yq2 zq2 st2 hQ2
  subst lq2 yq2 zq2
  obtain ⟨rfl, Nq2, eq2⟩ := hQ2
  have N2 := Fr.app N0 Nq2
  have ks3 := own_c ks1 st2
  obtain ⟨T4, h4, c4, X4, e4, E4, A4, st4⟩ := newP X2 hx hZ (own_w hw 20 rfl) eq2 (g := (mkF m 4 #[vI 2] [(.int 4)])) rfl (hb hby d10_4) rfl (by decide) (cap := 4) (by decide) (by decide) (by decide) (by decide)
  obtain ⟨b4, g4⟩ : ∃ z, z = h0.size := ⟨_, rfl⟩
  rw [← g4] at A4 st4
  have g_b4 : n0 ≤ b4 := Nat.le_trans Z0 (Nat.le_of_eq g4.symm)
  have sz_b4 : h0.size ≤ b4 := Nat.le_trans (Keep.refl h0 []).1 (Nat.le_of_eq g4.symm)
  have KH4 : Keep h0 h4 [] := (Keep.refl h0 []).ext E4
  have Zn4 : n0 ≤ h4.size := Nat.le_trans Z0 E4.1
  have V4 : Arv Z h4 b4 c4 .byte (4 : Int32) [(.int (0 : Int32)), (.int (0 : Int32)), (.int (0 : Int32)), (.int (0 : Int32))] (.int (0 : Int32)) := (Arv.new A4 (by decide)).pad (pad_rep [] (.int (0 : Int32)) 4)
  have ks5 := own_c ks3 st4
  obtain ⟨fs, hr, hrun, hended, hW, hsame⟩ := X4.leave (v := some (.ref b4)) (fun h => by rw [Bd.returns] at h; cases h) hlk
  refine ⟨_, _, kz _ (ks5 _ ?_), hrun, hended, _, _, rfl, ?_, ⟨_, rfl⟩, hW, hsame.mono (by decide) (by decide)⟩
  · exact retOut X4 hx Bd.returns rfl (Or.inr (Or.inr (Or.inr (Or.inr ⟨rfl, rfl, rfl⟩)))) (hb hby d10_6) hr
  · show Q10_2 Z  h0 n0 _ T4.heap _
    rw [e4]
    exact ⟨_, _, rfl, N2, KH4, g_b4, sz_b4, V4⟩
theorem ef_12_2_0 (m : MethodId) (x0 : Addr) (x1 : Int32) (x2 : Int32) : entryFrame m #[(.ref x0), (.int x1), (.int x2)] 3 = mkF m 0 #[.val (.ref x0), .val (.int x1), .val (.int x2)] [] := by first | (simp [entryFrame, mkF, argsToLocals, Value.category]; done) | rfl
def Q12_2_0 (Z : State) (r0 : Addr) (p2 : Int32) (kr0 : ClassId) (h0 : Heap) (n0 : Nat) (v : Option Value) (h : Heap) (L : List Loc) : Prop := v = none ∧ Fr n0 L ∧ Keep h0 h [r0] ∧ Arv Z h r0 kr0 .byte (4 : Int32) [(.int ((p2 >>> ((0 : Int32) &&& 31)).toInt8.toInt32)), (.int ((p2 >>> ((8 : Int32) &&& 31)).toInt8.toInt32)), (.int 0), (.int 0)] (.int 0)
set_option maxRecDepth 65536 in
set_option maxHeartbeats 40000000 in
theorem rm12_2_0 (l : Launch) (Z : State) (a0 : Array Value) (hw : ∀ d ∈ tables_1, d.before a0 Z = true) (ws : List Jvm.Cond) (r0 : Addr) (p2 : Int32) (kr0 : ClassId) (h0 : Heap) (n0 : Nat) (Z0 : n0 ≤ h0.size) (S7a : own_S7a Z h0) (S7b : own_S7b Z h0) (S7c : own_S7c Z h0) (V0 : Arv Z h0 r0 kr0 .byte (4 : Int32) [(.int 0), (.int 0), (.int 0), (.int 0)] (.int 0)) (g_r0 : n0 ≤ r0) :
    MetFree l (⟨"java/lang/StringUTF16", "putChar", "([BII)V"⟩ : MethodName) (head1 (Jvm.Cond.code (⟨"java/lang/StringUTF16", "putChar", "([BII)V"⟩ : MethodName) jdk_52_method_4_code 3 none :: ws) ({ frames := 0, cells := 0, slots := 0, locals := 0 } : Room)) (fun a U => a = #[(.ref r0), (.int 0), (.int p2)] ∧ Z.Warmed39 U.vm ∧ U.heap = h0) (fun _ _ _ _ _ => True) (fun _ U o U' => ∃ v L, o = .returned v ∧ Q12_2_0 Z r0 p2 kr0 h0 n0 v U'.heap L ∧ FrameEnd U o U' L ({ frames := 0, cells := 0, slots := 0, locals := 0 } : Room).cells ({ frames := 0, cells := 0, slots := 0, locals := 0 } : Room).slots) := by
  refine MetFree.of_bodySF (plainFor_of_name pn_12) hisR ?_
  intro p e s m args below meth c s₁ Bd hml0 hP hK
  obtain ⟨rfl, hZ, hh⟩ := hP
  have hx := Bd.exec
  have hby := Bd.bytes
  have hml : c.maxLocals = 3 := hml0
  have hown : s.vm.findClass "java/lang/StringUTF16" = some m.cls := findClass_of_methodNamed Bd.named
  have hnm := (name_of_methodNamed Bd.named Bd.method).1
  have hlk : meth.locks = false := by first | exact BodyLoose.notSynchronized Bd | exact Body.notSynchronized Bd
  have X0 : Stand p l e ({ frames := 0, cells := 0, slots := 0, locals := 0 } : Room) s m #[(.ref r0), (.int 0), (.int p2)] below meth c s₁ [] 0 0 := Stand.of_body Bd
  have e0 : s₁.heap = h0 := by rw [← hh, Bd.state]; rfl
  have N0 := Fr.nil n0
  have k0 : own_R p e below (s₁.setTop (entryFrame m #[(.ref r0), (.int 0), (.int p2)] 3)) (s₁.setTop (mkF m 0 #[vR r0, vI 0, vI p2] [])) := fun t k => castTop (ef_12_2_0 m r0 (0 : Int32) p2) k
  obtain ⟨A0, hA0⟩ : ∃ z, z = s₁.setTop (entryFrame m #[(.ref r0), (.int 0), (.int p2)] 3) := ⟨_, rfl⟩
  rw [← hA0] at k0
  have kz : ∀ t, Steps p.tables e below A0 t → Steps p.tables e below (s₁.setTop (entryFrame m #[(.ref r0), (.int 0), (.int p2)] 3)) t := fun t q => hA0 ▸ q
  obtain ⟨T1, X1, e1, st1⟩ := getS2 X0 hx hZ hown (host := "") (Or.inl (own_w hw 58 rfl)) Via.refl e0 S7a (g := (mkF m 0 #[vR r0, vI 0, vI p2] [])) rfl (hb hby d12_0)
  have ks2 := own_c k0 st1
  have ks3 : own_R p e below (A0) (T1.setTop (mkF m 38 #[vR r0, vI 1, vI p2] [(.int p2), (.int 0), (.ref r0)])) := fun t k => ks2 t (by
    refine XS.ifYes X1.here hx rfl (pc0 := 3) (pc' := 28) rfl (hb hby d12_3) rfl ((if0 _ _).trans (feq (by decide)).2) (by decide) (by decide) ?_
    refine XS.iloadN X1.here hx rfl (hb hby d12_28) rfl ?_
    refine XS.iconst X1.here hx rfl (hb hby d12_29) ?_
    show Steps p.tables e below (T1.setTop (mkF m 30 #[vR r0, vI 0, vI p2] [(.int 1), (.int 0)])) _
    refine XS.ishl X1.here hx rfl (hb hby d12_30) rfl ?_
    show Steps p.tables e below (T1.setTop (mkF m 31 #[vR r0, vI 0, vI p2] [(.int ((0 : Int32) <<< ((1 : Int32) &&& 31)))])) _
    rw [show ((0 : Int32) <<< ((1 : Int32) &&& 31)) = (0 : Int32) from by decide]
    refine XS.istoreN X1.here hx rfl (hb hby d12_31) rfl (l' := #[vR r0, vI 0, vI p2]) rfl ?_
    refine XS.aloadN X1.here hx rfl (hb hby d12_32) rfl rfl ?_
    refine XS.iloadN X1.here hx rfl (hb hby d12_33) rfl ?_
    show Steps p.tables e below (T1.setTop (mkF m 34 #[vR r0, vI 0, vI p2] [(.int 0), (.ref r0)])) _
    refine XS.iinc X1.here hx rfl (hb hby d12_34) rfl (l' := #[vR r0, vI 1, vI p2]) rfl ?_
    refine XS.iloadN X1.here hx rfl (hb hby d12_37) rfl ?_
    exact k)
  obtain ⟨T4, X4, e4, st4⟩ := getS2 X1 hx hZ hown (host := "") (Or.inl (own_w hw 59 rfl)) Via.refl e1 S7b (g := (mkF m 38 #[vR r0, vI 1, vI p2] [(.int p2), (.int 0), (.ref r0)])) rfl (hb hby d12_38)
  have ks5 := own_c ks3 st4
  have ks6 : own_R p e below (A0) (T4.setTop (mkF m 43 #[vR r0, vI 1, vI p2] [(.int ((p2 >>> ((0 : Int32) &&& 31)).toInt8.toInt32)), (.int 0), (.ref r0)])) := fun t k => ks5 t (by
    refine XS.ishr X4.here hx rfl (hb hby d12_41) rfl ?_
    refine XS.i2b X4.here hx rfl (hb hby d12_42) rfl ?_
    exact k)
  obtain ⟨cl7, Ar7, qa7, S7, Na7, Ha7, Ga7⟩ := id V0
  have hin7 : ¬ ((0 : Int32) < 0 ∨ cl7.slots.size ≤ ((0 : Int32)).toNatClampNeg) := inb_of S7 ⟨by decide, by decide⟩
  obtain ⟨T8, h8, X8, e8, W8, st8⟩ := stB X4 hx hZ e4 Ar7 (j := (0 : Int32)) hin7 (g := (mkF m 43 #[vR r0, vI 1, vI p2] [(.int ((p2 >>> ((0 : Int32) &&& 31)).toInt8.toInt32)), (.int 0), (.ref r0)])) rfl rfl (hb hby d12_43)
  have V8 : Arv Z h8 r0 kr0 .byte (4 : Int32) [(.int (((p2 >>> ((0 : Int32) &&& 31)).toInt8.toInt32).toInt8.toInt32)), (.int 0), (.int 0), (.int 0)] (.int 0) := Arv.set Ar7 qa7 S7 Na7 Ha7 Ga7 (fits_nar_byte _) W8 0 rfl (Nat.le_of_ble_eq_true rfl)
  rw [Int8.toInt8_toInt32] at V8
  have KH8 : Keep h0 h8 [r0] := (Keep.refl h0 [r0]).wr W8 (Or.inl (List.mem_of_getElem? (i := 0) rfl))
  have Zn8 : n0 ≤ h8.size := Nat.le_trans Z0 (Keep.of_wr W8).1
  have N8 := Fr.snoc X8 N0 g_r0
  have ks9 := own_c ks6 st8
  have ks10 : own_R p e below (A0) (T8.setTop (mkF m 47 #[vR r0, vI 1, vI p2] [(.int p2), (.int 1), (.ref r0)])) := fun t k => ks9 t (by
    refine XS.aloadN X8.here hx rfl (hb hby d12_44) rfl rfl ?_
    refine XS.iloadN X8.here hx rfl (hb hby d12_45) rfl ?_
    refine XS.iloadN X8.here hx rfl (hb hby d12_46) rfl ?_
    exact k)
  have f11 := (S7c.wr W8)
  obtain ⟨T12, X12, e12, st12⟩ := getS2 X8 hx hZ hown (host := "") (Or.inl (own_w hw 60 rfl)) Via.refl e8 f11 (g := (mkF m 47 #[vR r0, vI 1, vI p2] [(.int p2), (.int 1), (.ref r0)])) rfl (hb hby d12_47)
  have ks13 := own_c ks10 st12
  have ks14 : own_R p e below (A0) (T12.setTop (mkF m 52 #[vR r0, vI 1, vI p2] [(.int ((p2 >>> ((8 : Int32) &&& 31)).toInt8.toInt32)), (.int 1), (.ref r0)])) := fun t k => ks13 t (by
    refine XS.ishr X12.here hx rfl (hb hby d12_50) rfl ?_
    refine XS.i2b X12.here hx rfl (hb hby d12_51) rfl ?_
    exact k)
  obtain ⟨cl15, Ar15, qa15, S15, Na15, Ha15, Ga15⟩ := id V8
  have hin15 : ¬ ((1 : Int32) < 0 ∨ cl15.slots.size ≤ ((1 : Int32)).toNatClampNeg) := inb_of S15 ⟨by decide, by decide⟩
  obtain ⟨T16, h16, X16, e16, W16, st16⟩ := stB X12 hx hZ e12 Ar15 (j := (1 : Int32)) hin15 (g := (mkF m 52 #[vR r0, vI 1, vI p2] [(.int ((p2 >>> ((8 : Int32) &&& 31)).toInt8.toInt32)), (.int 1), (.ref r0)])) rfl rfl (hb hby d12_52)
  have V16 : Arv Z h16 r0 kr0 .byte (4 : Int32) [(.int ((p2 >>> ((0 : Int32) &&& 31)).toInt8.toInt32)), (.int (((p2 >>> ((8 : Int32) &&& 31)).toInt8.toInt32).toInt8.toInt32)), (.int 0), (.int 0)] (.int 0) := Arv.set Ar15 qa15 S15 Na15 Ha15 Ga15 (fits_nar_byte _) W16 1 rfl (Nat.le_of_ble_eq_true rfl)
  rw [Int8.toInt8_toInt32] at V16
  have KH16 : Keep h0 h16 [r0] := KH8.wr W16 (Or.inl (List.mem_of_getElem? (i := 0) rfl))
  have Zn16 : n0 ≤ h16.size := Nat.le_trans Zn8 (Keep.of_wr W16).1
  have N16 := Fr.snoc X16 N8 g_r0
  have ks17 := own_c ks14 st16
  obtain ⟨fs, hr, hrun, hended, hW, hsame⟩ := X16.leave (v := none) (fun _ => rfl) hlk
  refine ⟨_, _, kz _ (ks17 _ ?_), hrun, hended, _, _, rfl, ?_, ⟨_, rfl⟩, hW, hsame.mono (by decide) (by decide)⟩
  · exact X16.returnOut hx Bd.returns (hb hby d12_53) hr
  · show Q12_2_0 Z r0 p2 kr0 h0 n0 _ T16.heap _
    rw [e16]
    exact ⟨rfl, N16, KH16, V16⟩
theorem ef_12_2_1 (m : MethodId) (x0 : Addr) (x1 : Int32) (x2 : Int32) : entryFrame m #[(.ref x0), (.int x1), (.int x2)] 3 = mkF m 0 #[.val (.ref x0), .val (.int x1), .val (.int x2)] [] := by first | (simp [entryFrame, mkF, argsToLocals, Value.category]; done) | rfl
def Q12_2_1 (Z : State) (r0 : Addr) (p2 : Int32) (kr0 : ClassId) (y0 : Int32) (h0 : Heap) (n0 : Nat) (v : Option Value) (h : Heap) (L : List Loc) : Prop := v = none ∧ Fr n0 L ∧ Keep h0 h [r0] ∧ Arv Z h r0 kr0 .byte (4 : Int32) [(.int ((y0 >>> ((0 : Int32) &&& 31)).toInt8.toInt32)), (.int ((y0 >>> ((8 : Int32) &&& 31)).toInt8.toInt32)), (.int ((p2 >>> ((0 : Int32) &&& 31)).toInt8.toInt32)), (.int ((p2 >>> ((8 : Int32) &&& 31)).toInt8.toInt32))] (.int 0)
set_option maxRecDepth 65536 in
set_option maxHeartbeats 40000000 in
theorem rm12_2_1 (l : Launch) (Z : State) (a0 : Array Value) (hw : ∀ d ∈ tables_1, d.before a0 Z = true) (ws : List Jvm.Cond) (r0 : Addr) (p2 : Int32) (kr0 : ClassId) (y0 : Int32) (h0 : Heap) (n0 : Nat) (Z0 : n0 ≤ h0.size) (S7a : own_S7a Z h0) (S7b : own_S7b Z h0) (S7c : own_S7c Z h0) (V0 : Arv Z h0 r0 kr0 .byte (4 : Int32) [(.int ((y0 >>> ((0 : Int32) &&& 31)).toInt8.toInt32)), (.int ((y0 >>> ((8 : Int32) &&& 31)).toInt8.toInt32)), (.int 0), (.int 0)] (.int 0)) (g_r0 : n0 ≤ r0) :
    MetFree l (⟨"java/lang/StringUTF16", "putChar", "([BII)V"⟩ : MethodName) (head1 (Jvm.Cond.code (⟨"java/lang/StringUTF16", "putChar", "([BII)V"⟩ : MethodName) jdk_52_method_4_code 3 none :: ws) ({ frames := 0, cells := 0, slots := 0, locals := 0 } : Room)) (fun a U => a = #[(.ref r0), (.int 1), (.int p2)] ∧ Z.Warmed39 U.vm ∧ U.heap = h0) (fun _ _ _ _ _ => True) (fun _ U o U' => ∃ v L, o = .returned v ∧ Q12_2_1 Z r0 p2 kr0 y0 h0 n0 v U'.heap L ∧ FrameEnd U o U' L ({ frames := 0, cells := 0, slots := 0, locals := 0 } : Room).cells ({ frames := 0, cells := 0, slots := 0, locals := 0 } : Room).slots) := by
  refine MetFree.of_bodySF (plainFor_of_name pn_12) hisR ?_
  intro p e s m args below meth c s₁ Bd hml0 hP hK
  obtain ⟨rfl, hZ, hh⟩ := hP
  have hx := Bd.exec
  have hby := Bd.bytes
  have hml : c.maxLocals = 3 := hml0
  have hown : s.vm.findClass "java/lang/StringUTF16" = some m.cls := findClass_of_methodNamed Bd.named
  have hnm := (name_of_methodNamed Bd.named Bd.method).1
  have hlk : meth.locks = false := by first | exact BodyLoose.notSynchronized Bd | exact Body.notSynchronized Bd
  have X0 : Stand p l e ({ frames := 0, cells := 0, slots := 0, locals := 0 } : Room) s m #[(.ref r0), (.int 1), (.int p2)] below meth c s₁ [] 0 0 := Stand.of_body Bd
  have e0 : s₁.heap = h0 := by rw [← hh, Bd.state]; rfl
  have N0 := Fr.nil n0
  have k0 : own_R p e below (s₁.setTop (entryFrame m #[(.ref r0), (.int 1), (.int p2)] 3)) (s₁.setTop (mkF m 0 #[vR r0, vI 1, vI p2] [])) := fun t k => castTop (ef_12_2_1 m r0 (1 : Int32) p2) k
  obtain ⟨A0, hA0⟩ : ∃ z, z = s₁.setTop (entryFrame m #[(.ref r0), (.int 1), (.int p2)] 3) := ⟨_, rfl⟩
  rw [← hA0] at k0
  have kz : ∀ t, Steps p.tables e below A0 t → Steps p.tables e below (s₁.setTop (entryFrame m #[(.ref r0), (.int 1), (.int p2)] 3)) t := fun t q => hA0 ▸ q
  obtain ⟨T1, X1, e1, st1⟩ := getS2 X0 hx hZ hown (host := "") (Or.inl (own_w hw 58 rfl)) Via.refl e0 S7a (g := (mkF m 0 #[vR r0, vI 1, vI p2] [])) rfl (hb hby d12_0)
  have ks2 := own_c k0 st1
  have ks3 : own_R p e below (A0) (T1.setTop (mkF m 38 #[vR r0, vI 3, vI p2] [(.int p2), (.int 2), (.ref r0)])) := fun t k => ks2 t (by
    refine XS.ifYes X1.here hx rfl (pc0 := 3) (pc' := 28) rfl (hb hby d12_3) rfl ((if0 _ _).trans (feq (by decide)).2) (by decide) (by decide) ?_
    refine XS.iloadN X1.here hx rfl (hb hby d12_28) rfl ?_
    refine XS.iconst X1.here hx rfl (hb hby d12_29) ?_
    show Steps p.tables e below (T1.setTop (mkF m 30 #[vR r0, vI 1, vI p2] [(.int 1), (.int 1)])) _
    refine XS.ishl X1.here hx rfl (hb hby d12_30) rfl ?_
    show Steps p.tables e below (T1.setTop (mkF m 31 #[vR r0, vI 1, vI p2] [(.int ((1 : Int32) <<< ((1 : Int32) &&& 31)))])) _
    rw [show ((1 : Int32) <<< ((1 : Int32) &&& 31)) = (2 : Int32) from by decide]
    refine XS.istoreN X1.here hx rfl (hb hby d12_31) rfl (l' := #[vR r0, vI 2, vI p2]) rfl ?_
    refine XS.aloadN X1.here hx rfl (hb hby d12_32) rfl rfl ?_
    refine XS.iloadN X1.here hx rfl (hb hby d12_33) rfl ?_
    show Steps p.tables e below (T1.setTop (mkF m 34 #[vR r0, vI 2, vI p2] [(.int 2), (.ref r0)])) _
    refine XS.iinc X1.here hx rfl (hb hby d12_34) rfl (l' := #[vR r0, vI 3, vI p2]) rfl ?_
    refine XS.iloadN X1.here hx rfl (hb hby d12_37) rfl ?_
    exact k)
  obtain ⟨T4, X4, e4, st4⟩ := getS2 X1 hx hZ hown (host := "") (Or.inl (own_w hw 59 rfl)) Via.refl e1 S7b (g := (mkF m 38 #[vR r0, vI 3, vI p2] [(.int p2), (.int 2), (.ref r0)])) rfl (hb hby d12_38)
  have ks5 := own_c ks3 st4
  have ks6 : own_R p e below (A0) (T4.setTop (mkF m 43 #[vR r0, vI 3, vI p2] [(.int ((p2 >>> ((0 : Int32) &&& 31)).toInt8.toInt32)), (.int 2), (.ref r0)])) := fun t k => ks5 t (by
    refine XS.ishr X4.here hx rfl (hb hby d12_41) rfl ?_
    refine XS.i2b X4.here hx rfl (hb hby d12_42) rfl ?_
    exact k)
  obtain ⟨cl7, Ar7, qa7, S7, Na7, Ha7, Ga7⟩ := id V0
  have hin7 : ¬ ((2 : Int32) < 0 ∨ cl7.slots.size ≤ ((2 : Int32)).toNatClampNeg) := inb_of S7 ⟨by decide, by decide⟩
  obtain ⟨T8, h8, X8, e8, W8, st8⟩ := stB X4 hx hZ e4 Ar7 (j := (2 : Int32)) hin7 (g := (mkF m 43 #[vR r0, vI 3, vI p2] [(.int ((p2 >>> ((0 : Int32) &&& 31)).toInt8.toInt32)), (.int 2), (.ref r0)])) rfl rfl (hb hby d12_43)
  have V8 : Arv Z h8 r0 kr0 .byte (4 : Int32) [(.int ((y0 >>> ((0 : Int32) &&& 31)).toInt8.toInt32)), (.int ((y0 >>> ((8 : Int32) &&& 31)).toInt8.toInt32)), (.int (((p2 >>> ((0 : Int32) &&& 31)).toInt8.toInt32).toInt8.toInt32)), (.int 0)] (.int 0) := Arv.set Ar7 qa7 S7 Na7 Ha7 Ga7 (fits_nar_byte _) W8 2 rfl (Nat.le_of_ble_eq_true rfl)
  rw [Int8.toInt8_toInt32] at V8
  have KH8 : Keep h0 h8 [r0] := (Keep.refl h0 [r0]).wr W8 (Or.inl (List.mem_of_getElem? (i := 0) rfl))
  have Zn8 : n0 ≤ h8.size := Nat.le_trans Z0 (Keep.of_wr W8).1
  have N8 := Fr.snoc X8 N0 g_r0
  have ks9 := own_c ks6 st8
  have ks10 : own_R p e below (A0) (T8.setTop (mkF m 47 #[vR r0, vI 3, vI p2] [(.int p2), (.int 3), (.ref r0)])) := fun t k => ks9 t (by
    refine XS.aloadN X8.here hx rfl (hb hby d12_44) rfl rfl ?_
    refine XS.iloadN X8.here hx rfl (hb hby d12_45) rfl ?_
    refine XS.iloadN X8.here hx rfl (hb hby d12_46) rfl ?_
    exact k)
  have f11 := (S7c.wr W8)
  obtain ⟨T12, X12, e12, st12⟩ := getS2 X8 hx hZ hown (host := "") (Or.inl (own_w hw 60 rfl)) Via.refl e8 f11 (g := (mkF m 47 #[vR r0, vI 3, vI p2] [(.int p2), (.int 3), (.ref r0)])) rfl (hb hby d12_47)
  have ks13 := own_c ks10 st12
  have ks14 : own_R p e below (A0) (T12.setTop (mkF m 52 #[vR r0, vI 3, vI p2] [(.int ((p2 >>> ((8 : Int32) &&& 31)).toInt8.toInt32)), (.int 3), (.ref r0)])) := fun t k => ks13 t (by
    refine XS.ishr X12.here hx rfl (hb hby d12_50) rfl ?_
    refine XS.i2b X12.here hx rfl (hb hby d12_51) rfl ?_
    exact k)
  obtain ⟨cl15, Ar15, qa15, S15, Na15, Ha15, Ga15⟩ := id V8
  have hin15 : ¬ ((3 : Int32) < 0 ∨ cl15.slots.size ≤ ((3 : Int32)).toNatClampNeg) := inb_of S15 ⟨by decide, by decide⟩
  obtain ⟨T16, h16, X16, e16, W16, st16⟩ := stB X12 hx hZ e12 Ar15 (j := (3 : Int32)) hin15 (g := (mkF m 52 #[vR r0, vI 3, vI p2] [(.int ((p2 >>> ((8 : Int32) &&& 31)).toInt8.toInt32)), (.int 3), (.ref r0)])) rfl rfl (hb hby d12_52)
  have V16 : Arv Z h16 r0 kr0 .byte (4 : Int32) [(.int ((y0 >>> ((0 : Int32) &&& 31)).toInt8.toInt32)), (.int ((y0 >>> ((8 : Int32) &&& 31)).toInt8.toInt32)), (.int ((p2 >>> ((0 : Int32) &&& 31)).toInt8.toInt32)), (.int (((p2 >>> ((8 : Int32) &&& 31)).toInt8.toInt32).toInt8.toInt32))] (.int 0) := Arv.set Ar15 qa15 S15 Na15 Ha15 Ga15 (fits_nar_byte _) W16 3 rfl (Nat.le_of_ble_eq_true rfl)
  rw [Int8.toInt8_toInt32] at V16
  have KH16 : Keep h0 h16 [r0] := KH8.wr W16 (Or.inl (List.mem_of_getElem? (i := 0) rfl))
  have Zn16 : n0 ≤ h16.size := Nat.le_trans Zn8 (Keep.of_wr W16).1
  have N16 := Fr.snoc X16 N8 g_r0
  have ks17 := own_c ks14 st16
  obtain ⟨fs, hr, hrun, hended, hW, hsame⟩ := X16.leave (v := none) (fun _ => rfl) hlk
  refine ⟨_, _, kz _ (ks17 _ ?_), hrun, hended, _, _, rfl, ?_, ⟨_, rfl⟩, hW, hsame.mono (by decide) (by decide)⟩
  · exact X16.returnOut hx Bd.returns (hb hby d12_53) hr
  · show Q12_2_1 Z r0 p2 kr0 y0 h0 n0 _ T16.heap _
    rw [e16]
    exact ⟨rfl, N16, KH16, V16⟩
theorem d9_0 : decode jdk_52_method_14_code 0 = .ok (.iload_n 2, 1) := by decide +kernel
theorem d9_1 : decode jdk_52_method_14_code 1 = .ok (.invokestatic 107, 3) := by decide +kernel
theorem d9_4 : decode jdk_52_method_14_code 4 = .ok (.astore_n 3, 1) := by decide +kernel
theorem d9_5 : decode jdk_52_method_14_code 5 = .ok (.iconst 0, 1) := by decide +kernel
theorem d9_6 : decode jdk_52_method_14_code 6 = .ok (.istore 4, 2) := by decide +kernel
theorem d9_8 : decode jdk_52_method_14_code 8 = .ok (.iload 4, 2) := by decide +kernel
theorem d9_10 : decode jdk_52_method_14_code 10 = .ok (.iload_n 2, 1) := by decide +kernel
theorem d9_11 : decode jdk_52_method_14_code 11 = .ok (.if_icmp .ge 21, 3) := by decide +kernel
theorem d9_14 : decode jdk_52_method_14_code 14 = .ok (.aload_n 3, 1) := by decide +kernel
theorem d9_15 : decode jdk_52_method_14_code 15 = .ok (.iload 4, 2) := by decide +kernel
theorem d9_17 : decode jdk_52_method_14_code 17 = .ok (.aload_n 0, 1) := by decide +kernel
theorem d9_18 : decode jdk_52_method_14_code 18 = .ok (.iload_n 1, 1) := by decide +kernel
theorem d9_19 : decode jdk_52_method_14_code 19 = .ok (.caload, 1) := by decide +kernel
theorem d9_20 : decode jdk_52_method_14_code 20 = .ok (.invokestatic 111, 3) := by decide +kernel
theorem d9_23 : decode jdk_52_method_14_code 23 = .ok (.iinc 1 1, 3) := by decide +kernel
theorem d9_26 : decode jdk_52_method_14_code 26 = .ok (.iinc 4 1, 3) := by decide +kernel
theorem d9_29 : decode jdk_52_method_14_code 29 = .ok (.goto (-21), 3) := by decide +kernel
theorem d9_32 : decode jdk_52_method_14_code 32 = .ok (.aload_n 3, 1) := by decide +kernel
theorem d9_33 : decode jdk_52_method_14_code 33 = .ok (.areturn, 1) := by decide +kernel
theorem pn_9 : plainName "java/lang/StringUTF16" = true := by first | (simp [plainName, overriddenIn]; done) | decide +kernel
theorem pd_8 : parseMethodDescriptor "(I)[B" = some ⟨[.int], some (.array .byte)⟩ := by decide +kernel
theorem ef_9_2 (m : MethodId) (x0 : Addr) (x1 : Int32) (x2 : Int32) : entryFrame m #[(.ref x0), (.int x1), (.int x2)] 5 = mkF m 0 #[.val (.ref x0), .val (.int x1), .val (.int x2), .unset, .unset] [] := by first | (simp [entryFrame, mkF, argsToLocals, Value.category]; done) | rfl
def Q9_2 (Z : State) (r0 : Addr) (kr0 : ClassId) (y0 : Int32) (y1 : Int32) (h0 : Heap) (n0 : Nat) (v : Option Value) (h : Heap) (L : List Loc) : Prop := ∃ (b : Addr) (k : ClassId), v = some (.ref b) ∧ Fr n0 L ∧ Keep h0 h [] ∧ n0 ≤ b ∧ h0.size ≤ b ∧ Arv Z h b k .byte (4 : Int32) [(.int ((y0 >>> ((0 : Int32) &&& 31)).toInt8.toInt32)), (.int ((y0 >>> ((8 : Int32) &&& 31)).toInt8.toInt32)), (.int ((y1 >>> ((0 : Int32) &&& 31)).toInt8.toInt32)), (.int ((y1 >>> ((8 : Int32) &&& 31)).toInt8.toInt32))] (.int 0)
set_option maxRecDepth 65536 in
set_option maxHeartbeats 40000000 in
theorem rm9_2 (l : Launch) (Z : State) (a0 : Array Value) (hw : ∀ d ∈ tables_1, d.before a0 Z = true) (ws : List Jvm.Cond) (r0 : Addr) (kr0 : ClassId) (y0 : Int32) (y1 : Int32) (h0 : Heap) (n0 : Nat) (Z0 : n0 ≤ h0.size) (S7a : own_S7a Z h0) (S7b : own_S7b Z h0) (S7c : own_S7c Z h0) (V0 : Arv Z h0 r0 kr0 .char (2 : Int32) [(.int y0), (.int y1)] (.int 0)) :
    MetFree l (⟨"java/lang/StringUTF16", "toBytes", "([CII)[B"⟩ : MethodName) (head1 (Jvm.Cond.code (⟨"java/lang/StringUTF16", "toBytes", "([CII)[B"⟩ : MethodName) jdk_52_method_14_code 5 (some (.array .byte)) :: ws) ({ frames := 2, cells := 1, slots := 4, locals := 24 } : Room)) (fun a U => a = #[(.ref r0), (.int 0), (.int 2)] ∧ Z.Warmed39 U.vm ∧ U.heap = h0) (fun _ _ _ _ _ => True) (fun _ U o U' => ∃ v L, o = .returned v ∧ Q9_2 Z r0 kr0 y0 y1 h0 n0 v U'.heap L ∧ FrameEnd U o U' L ({ frames := 2, cells := 1, slots := 4, locals := 24 } : Room).cells ({ frames := 2, cells := 1, slots := 4, locals := 24 } : Room).slots) := by
  refine MetFree.of_bodySF (plainFor_of_name pn_9) hisR ?_
  intro p e s m args below meth c s₁ Bd hml0 hP hK
  obtain ⟨rfl, hZ, hh⟩ := hP
  have hx := Bd.exec
  have hby := Bd.bytes
  have hml : c.maxLocals = 5 := hml0
  have hown : s.vm.findClass "java/lang/StringUTF16" = some m.cls := findClass_of_methodNamed Bd.named
  have hnm := (name_of_methodNamed Bd.named Bd.method).1
  have hlk : meth.locks = false := by first | exact BodyLoose.notSynchronized Bd | exact Body.notSynchronized Bd
  have X0 : Stand p l e ({ frames := 2, cells := 1, slots := 4, locals := 24 } : Room) s m #[(.ref r0), (.int 0), (.int 2)] below meth c s₁ [] 0 0 := Stand.of_body Bd
  have e0 : s₁.heap = h0 := by rw [← hh, Bd.state]; rfl
  have N0 := Fr.nil n0
  have k0 : own_R p e below (s₁.setTop (entryFrame m #[(.ref r0), (.int 0), (.int 2)] 5)) (s₁.setTop (mkF m 0 #[vR r0, vI 0, vI 2, .unset, .unset] [])) := fun t k => castTop (ef_9_2 m r0 (0 : Int32) (2 : Int32)) k
  obtain ⟨A0, hA0⟩ : ∃ z, z = s₁.setTop (entryFrame m #[(.ref r0), (.int 0), (.int 2)] 5) := ⟨_, rfl⟩
  rw [← hA0] at k0
  have kz : ∀ t, Steps p.tables e below A0 t → Steps p.tables e below (s₁.setTop (entryFrame m #[(.ref r0), (.int 0), (.int 2)] 5)) t := fun t q => hA0 ▸ q
  have ks1 : own_R p e below (A0) (s₁.setTop (mkF m 1 #[vR r0, vI 0, vI 2, .unset, .unset] [(.int 2)])) := fun t k => k0 t (by
    refine XS.iloadN X0.here hx rfl (hb hby d9_0) rfl ?_
    exact k)
  obtain ⟨_, _, ⟨T2, L2, k2, n2⟩, -, X2, ⟨Lc2, hQ2, lq2, yq2, zq2⟩, st2⟩ := Jvm.LawKit.callS X0 hx (y := (⟨"java/lang/StringUTF16", "newBytesFor", "(I)[B"⟩ : MethodName)) hown (mvT hZ (own_w hw 48 rfl)) (mvT hZ (own_w hw 49 rfl)) (mvT hZ (own_w hw 40 rfl)) (mvT hZ (own_w hw 50 rfl)) (by decide) (backOf (W := 0) (rm10_2 l Z a0 hw []  h0 n0 Z0 ) hZ (own_w hw 50 rfl) (own_w hw 40 rfl) (by decide) (by decide)) (g := (mkF m 1 #[vR r0, vI 0, vI 2, .unset, .unset] [(.int 2)])) rfl (by rw [hml]; rfl) (argsL := [(.int 2)]) (rest := []) (lenOf pd_8 rfl) rfl (by show 2 * 0 + _ ≤ _; exact Nat.le_of_eq rfl) (hb hby d9_1) (fun _ _ => ⟨rfl, e0, (by decide : 0 + 1 ≤ _), (by decide : 0 + 4 ≤ _)⟩)
  dsimp only [Pt.U, Pt.locs, Pt.cells, Pt.slots] at X2 lq2 yq2 zq2 st2 hQ2
  subst lq2 yq2 zq2
  obtain ⟨bq2, kq2, rfl, Nq2, Kq2, g_bq2, szq2, Vq2⟩ := hQ2
  have N2 := Fr.app N0 Nq2
  have KH2 : Keep h0 T2.heap [] := (Keep.refl h0 []).trans Kq2 all0
  have Zn2 : n0 ≤ T2.heap.size := Nat.le_trans Z0 Kq2.1
  have ne_r0_bq2 : r0 ≠ bq2 := Nat.ne_of_lt (Nat.lt_of_lt_of_le V0.lt szq2)
  have sz_bq2 : h0.size ≤ bq2 := Nat.le_trans (Keep.refl h0 []).1 szq2
  have ks3 := own_c ks1 st2
  have ks4 : own_R p e below (A0) (T2.setTop (mkF m 19 #[vR r0, vI 0, vI 2, vR bq2, vI 0] [(.int 0), (.ref r0), (.int 0), (.ref bq2)])) := fun t k => ks3 t (by
    refine XS.astoreN X2.here hx rfl (hb hby d9_4) rfl rfl (l' := #[vR r0, vI 0, vI 2, vR bq2, .unset]) rfl ?_
    refine XS.iconst X2.here hx rfl (hb hby d9_5) ?_
    refine XS.istore X2.here hx rfl (hb hby d9_6) rfl (l' := #[vR r0, vI 0, vI 2, vR bq2, vI 0]) rfl ?_
    show Steps p.tables e below (T2.setTop (mkF m 8 #[vR r0, vI 0, vI 2, vR bq2, vI 0] [])) _
    refine XS.iload X2.here hx rfl (hb hby d9_8) rfl ?_
    refine XS.iloadN X2.here hx rfl (hb hby d9_10) rfl ?_
    refine XS.icmpNo X2.here hx rfl (hb hby d9_11) rfl (tlt (by decide)).2.1 ?_
    refine XS.aloadN X2.here hx rfl (hb hby d9_14) rfl rfl ?_
    show Steps p.tables e below (T2.setTop (mkF m 15 #[vR r0, vI 0, vI 2, vR bq2, vI 0] [(.ref bq2)])) _
    refine XS.iload X2.here hx rfl (hb hby d9_15) rfl ?_
    refine XS.aloadN X2.here hx rfl (hb hby d9_17) rfl rfl ?_
    refine XS.iloadN X2.here hx rfl (hb hby d9_18) rfl ?_
    exact k)
  have f5 := V0.keep KH2 nin0
  obtain ⟨cl6, Ar6, qa6, S6, Na6, Ha6, Ga6⟩ := id f5
  have ks7 : own_R p e below (A0) (T2.setTop (mkF m 20 #[vR r0, vI 0, vI 2, vR bq2, vI 0] [(.int y0), (.int 0), (.ref bq2)])) := fun t k => ks4 t (by
    refine X2.caload hx (j := (0 : Int32)) (v := (.int y0)) Ar6.1 (State.isArrayOf_alike hZ.alike Ar6.2.1) Ar6.2.2 (inb_of S6 ⟨by decide, by decide⟩) (Has.at Ha6 (inb_of S6 ⟨by decide, by decide⟩) rfl) (g := (mkF m 19 #[vR r0, vI 0, vI 2, vR bq2, vI 0] [(.int 0), (.ref r0), (.int 0), (.ref bq2)])) rfl rfl (hb hby d9_19) _ ?_
    exact k)
  have f9 := own_sta_keep S7a KH2
  have f10 := own_sta_keep S7b KH2
  have f11 := own_sta_keep S7c KH2
  obtain ⟨_, _, ⟨T8, L8, k8, n8⟩, -, X8, ⟨Lc8, hQ8, lq8, yq8, zq8⟩, st8⟩ := Jvm.LawKit.callS X2 hx (y := (⟨"java/lang/StringUTF16", "putChar", "([BII)V"⟩ : MethodName)) hown (mvT hZ (own_w hw 55 rfl)) (mvT hZ (own_w hw 56 rfl)) (mvT hZ (own_w hw 40 rfl)) (mvT hZ (own_w hw 57 rfl)) (by decide) (backOf (W := 0) (rm12_2_0 l Z a0 hw [] bq2 y0 _ T2.heap n0 Zn2 f9 f10 f11 Vq2 g_bq2) hZ (own_w hw 57 rfl) (own_w hw 40 rfl) (by decide) (by decide)) (g := (mkF m 20 #[vR r0, vI 0, vI 2, vR bq2, vI 0] [(.int y0), (.int 0), (.ref bq2)])) rfl (by rw [hml]; rfl) (argsL := [(.ref bq2), (.int 0), (.int y0)]) (rest := []) (lenOf pd_10 rfl) rfl (by show 2 * 0 + _ ≤ _; exact Nat.le_of_eq rfl) (hb hby d9_20) (fun _ _ => ⟨rfl, rfl, (by decide : 1 + 0 ≤ _), (by decide : 4 + 0 ≤ _)⟩)
  dsimp only [Pt.U, Pt.locs, Pt.cells, Pt.slots] at X8 lq8 yq8 zq8 st8 hQ8
  subst lq8 yq8 zq8
  obtain ⟨rfl, Nq8, Kq8, Vq8⟩ := hQ8
  have N8 := Fr.app N2 Nq8
  have KH8 : Keep h0 T8.heap [] := KH2.trans Kq8 (allS (Or.inr sz_bq2) all0)
  have Zn8 : n0 ≤ T8.heap.size := Nat.le_trans Zn2 Kq8.1
  have ks12 := own_c ks7 st8
  have ks13 : own_R p e below (A0) (T8.setTop (mkF m 19 #[vR r0, vI 1, vI 2, vR bq2, vI 1] [(.int 1), (.ref r0), (.int 1), (.ref bq2)])) := fun t k => ks12 t (by
    refine XS.iinc X8.here hx rfl (hb hby d9_23) rfl (l' := #[vR r0, vI 1, vI 2, vR bq2, vI 0]) rfl ?_
    refine XS.iinc X8.here hx rfl (hb hby d9_26) rfl (l' := #[vR r0, vI 1, vI 2, vR bq2, vI 1]) rfl ?_
    refine XS.goto X8.here hx rfl (pc0 := 29) (pc' := 8) rfl (hb hby d9_29) (by decide) (by decide) ?_
    show Steps p.tables e below (T8.setTop (mkF m 8 #[vR r0, vI 1, vI 2, vR bq2, vI 1] [])) _
    refine XS.iload X8.here hx rfl (hb hby d9_8) rfl ?_
    refine XS.iloadN X8.here hx rfl (hb hby d9_10) rfl ?_
    refine XS.icmpNo X8.here hx rfl (hb hby d9_11) rfl (tlt (by decide)).2.1 ?_
    refine XS.aloadN X8.here hx rfl (hb hby d9_14) rfl rfl ?_
    show Steps p.tables e below (T8.setTop (mkF m 15 #[vR r0, vI 1, vI 2, vR bq2, vI 1] [(.ref bq2)])) _
    refine XS.iload X8.here hx rfl (hb hby d9_15) rfl ?_
    refine XS.aloadN X8.here hx rfl (hb hby d9_17) rfl rfl ?_
    refine XS.iloadN X8.here hx rfl (hb hby d9_18) rfl ?_
    exact k)
  have f14 := V0.keep KH8 nin0
  obtain ⟨cl15, Ar15, qa15, S15, Na15, Ha15, Ga15⟩ := id f14
  have ks16 : own_R p e below (A0) (T8.setTop (mkF m 20 #[vR r0, vI 1, vI 2, vR bq2, vI 1] [(.int y1), (.int 1), (.ref bq2)])) := fun t k => ks13 t (by
    refine X8.caload hx (j := (1 : Int32)) (v := (.int y1)) Ar15.1 (State.isArrayOf_alike hZ.alike Ar15.2.1) Ar15.2.2 (inb_of S15 ⟨by decide, by decide⟩) (Has.at Ha15 (inb_of S15 ⟨by decide, by decide⟩) rfl) (g := (mkF m 19 #[vR r0, vI 1, vI 2, vR bq2, vI 1] [(.int 1), (.ref r0), (.int 1), (.ref bq2)])) rfl rfl (hb hby d9_19) _ ?_
    exact k)
  have f18 := own_sta_keep S7a KH8
  have f19 := own_sta_keep S7b KH8
  have f20 := own_sta_keep S7c KH8
  obtain ⟨_, _, ⟨T17, L17, k17, n17⟩, -, X17, ⟨Lc17, hQ17, lq17, yq17, zq17⟩, st17⟩ := Jvm.LawKit.callS X8 hx (y := (⟨"java/lang/StringUTF16", "putChar", "([BII)V"⟩ : MethodName)) hown (mvT hZ (own_w hw 55 rfl)) (mvT hZ (own_w hw 56 rfl)) (mvT hZ (own_w hw 40 rfl)) (mvT hZ (own_w hw 57 rfl)) (by decide) (backOf (W := 0) (rm12_2_1 l Z a0 hw [] bq2 y1 _ y0 T8.heap n0 Zn8 f18 f19 f20 Vq8 g_bq2) hZ (own_w hw 57 rfl) (own_w hw 40 rfl) (by decide) (by decide)) (g := (mkF m 20 #[vR r0, vI 1, vI 2, vR bq2, vI 1] [(.int y1), (.int 1), (.ref bq2)])) rfl (by rw [hml]; rfl) (argsL := [(.ref bq2), (.int 1), (.int y1)]) (rest := []) (lenOf pd_10 rfl) rfl (by show 2 * 0 + _ ≤ _; exact Nat.le_of_eq rfl) (hb hby d9_20) (fun _ _ => ⟨rfl, rfl, (by decide : 1 + 0 ≤ _), (by decide : 4 + 0 ≤ _)⟩)
  dsimp only [Pt.U, Pt.locs, Pt.cells, Pt.slots] at X17 lq17 yq17 zq17 st17 hQ17
  subst lq17 yq17 zq17
  obtain ⟨rfl, Nq17, Kq17, Vq17⟩ := hQ17
  have N17 := Fr.app N8 Nq17
  have KH17 : Keep h0 T17.heap [] := KH8.trans Kq17 (allS (Or.inr sz_bq2) all0)
  have Zn17 : n0 ≤ T17.heap.size := Nat.le_trans Zn8 Kq17.1
  have ks21 := own_c ks16 st17
  have ks22 : own_R p e below (A0) (T17.setTop (mkF m 33 #[vR r0, vI 2, vI 2, vR bq2, vI 2] [(.ref bq2)])) := fun t k => ks21 t (by
    refine XS.iinc X17.here hx rfl (hb hby d9_23) rfl (l' := #[vR r0, vI 2, vI 2, vR bq2, vI 1]) rfl ?_
    refine XS.iinc X17.here hx rfl (hb hby d9_26) rfl (l' := #[vR r0, vI 2, vI 2, vR bq2, vI 2]) rfl ?_
    refine XS.goto X17.here hx rfl (pc0 := 29) (pc' := 8) rfl (hb hby d9_29) (by decide) (by decide) ?_
    show Steps p.tables e below (T17.setTop (mkF m 8 #[vR r0, vI 2, vI 2, vR bq2, vI 2] [])) _
    refine XS.iload X17.here hx rfl (hb hby d9_8) rfl ?_
    refine XS.iloadN X17.here hx rfl (hb hby d9_10) rfl ?_
    refine XS.icmpYes X17.here hx rfl (pc0 := 11) (pc' := 32) rfl (hb hby d9_11) rfl (flt (by decide)).2.1 (by decide) (by decide) ?_
    refine XS.aloadN X17.here hx rfl (hb hby d9_32) rfl rfl ?_
    exact k)
  obtain ⟨fs, hr, hrun, hended, hW, hsame⟩ := X17.leave (v := some (.ref bq2)) (fun h => by rw [Bd.returns] at h; cases h) hlk
  refine ⟨_, _, kz _ (ks22 _ ?_), hrun, hended, _, _, rfl, ?_, ⟨_, rfl⟩, hW, hsame.mono (by decide) (by decide)⟩
  · exact retOut X17 hx Bd.returns rfl (Or.inr (Or.inr (Or.inr (Or.inr ⟨rfl, rfl, rfl⟩)))) (hb hby d9_33) hr
  · show Q9_2 Z r0 kr0 y0 y1 h0 n0 _ T17.heap _
    exact ⟨_, _, rfl, N17, KH17, g_bq2, sz_bq2, Vq17⟩
theorem d8_0 : decode jdk_52_method_21_code 0 = .ok (.iconst 0, 1) := by decide +kernel
theorem d8_1 : decode jdk_52_method_21_code 1 = .ok (.istore 5, 2) := by decide +kernel
theorem d8_3 : decode jdk_52_method_21_code 3 = .ok (.iload 5, 2) := by decide +kernel
theorem d8_5 : decode jdk_52_method_21_code 5 = .ok (.iload 4, 2) := by decide +kernel
theorem d8_7 : decode jdk_52_method_21_code 7 = .ok (.if_icmp .ge 37, 3) := by decide +kernel
theorem d8_10 : decode jdk_52_method_21_code 10 = .ok (.aload_n 0, 1) := by decide +kernel
theorem d8_11 : decode jdk_52_method_21_code 11 = .ok (.iload_n 1, 1) := by decide +kernel
theorem d8_12 : decode jdk_52_method_21_code 12 = .ok (.caload, 1) := by decide +kernel
theorem d8_13 : decode jdk_52_method_21_code 13 = .ok (.istore 6, 2) := by decide +kernel
theorem d8_15 : decode jdk_52_method_21_code 15 = .ok (.iload 6, 2) := by decide +kernel
theorem d8_17 : decode jdk_52_method_21_code 17 = .ok (.sipush 255, 3) := by decide +kernel
theorem d8_20 : decode jdk_52_method_21_code 20 = .ok (.if_icmp .le 6, 3) := by decide +kernel
theorem d8_26 : decode jdk_52_method_21_code 26 = .ok (.aload_n 2, 1) := by decide +kernel
theorem d8_27 : decode jdk_52_method_21_code 27 = .ok (.iload_n 3, 1) := by decide +kernel
theorem d8_28 : decode jdk_52_method_21_code 28 = .ok (.iload 6, 2) := by decide +kernel
theorem d8_30 : decode jdk_52_method_21_code 30 = .ok (.i2b, 1) := by decide +kernel
theorem d8_31 : decode jdk_52_method_21_code 31 = .ok (.bastore, 1) := by decide +kernel
theorem d8_32 : decode jdk_52_method_21_code 32 = .ok (.iinc 1 1, 3) := by decide +kernel
theorem d8_35 : decode jdk_52_method_21_code 35 = .ok (.iinc 3 1, 3) := by decide +kernel
theorem d8_38 : decode jdk_52_method_21_code 38 = .ok (.iinc 5 1, 3) := by decide +kernel
theorem d8_41 : decode jdk_52_method_21_code 41 = .ok (.goto (-38), 3) := by decide +kernel
theorem d8_44 : decode jdk_52_method_21_code 44 = .ok (.iload 4, 2) := by decide +kernel
theorem d8_46 : decode jdk_52_method_21_code 46 = .ok (.ireturn, 1) := by decide +kernel
theorem pn_8 : plainName "java/lang/StringUTF16" = true := by first | (simp [plainName, overriddenIn]; done) | decide +kernel
theorem ef_8_2L (m : MethodId) (x0 : Addr) (x1 : Int32) (x2 : Addr) (x3 : Int32) (x4 : Int32) : entryFrame m #[(.ref x0), (.int x1), (.ref x2), (.int x3), (.int x4)] 7 = mkF m 0 #[.val (.ref x0), .val (.int x1), .val (.ref x2), .val (.int x3), .val (.int x4), .unset, .unset] [] := by first | (simp [entryFrame, mkF, argsToLocals, Value.category]; done) | rfl
def Q8_2L (Z : State) (r0 : Addr) (r2 : Addr) (kr0 : ClassId) (kr2 : ClassId) (y0 : Int32) (y1 : Int32) (h0 : Heap) (n0 : Nat) (v : Option Value) (h : Heap) (L : List Loc) : Prop := v = some (.int (2 : Int32)) ∧ Fr n0 L ∧ Keep h0 h [r2] ∧ Arv Z h r2 kr2 .byte (2 : Int32) [(.int (y0.toInt8.toInt32)), (.int (y1.toInt8.toInt32))] (.int 0)
set_option maxRecDepth 65536 in
set_option maxHeartbeats 40000000 in
theorem rm8_2L (l : Launch) (Z : State) (a0 : Array Value) (hw : ∀ d ∈ tables_1, d.before a0 Z = true) (ws : List Jvm.Cond) (r0 : Addr) (r2 : Addr) (kr0 : ClassId) (kr2 : ClassId) (y0 : Int32) (y1 : Int32) (h0 : Heap) (n0 : Nat) (Z0 : n0 ≤ h0.size) (V0 : Arv Z h0 r0 kr0 .char (2 : Int32) [(.int y0), (.int y1)] (.int 0)) (V2 : Arv Z h0 r2 kr2 .byte (2 : Int32) [(.int 0), (.int 0)] (.int 0)) (n02 : r0 ≠ r2) (g_r2 : n0 ≤ r2) (RY0 : y0.toUInt32.toUInt16.toUInt32.toInt32 = y0) (RY1 : y1.toUInt32.toUInt16.toUInt32.toInt32 = y1) (PY0 : ¬ (255 : Int32) < y0) (PY1 : ¬ (255 : Int32) < y1) :
    MetFree l (⟨"java/lang/StringUTF16", "compress", "([CI[BII)I"⟩ : MethodName) (head1 (Jvm.Cond.code (⟨"java/lang/StringUTF16", "compress", "([CI[BII)I"⟩ : MethodName) jdk_52_method_21_code 7 (some .int) :: ws) ({ frames := 0, cells := 0, slots := 0, locals := 0 } : Room)) (fun a U => a = #[(.ref r0), (.int 0), (.ref r2), (.int 0), (.int 2)] ∧ Z.Warmed39 U.vm ∧ U.heap = h0) (fun _ _ _ _ _ => True) (fun _ U o U' => ∃ v L, o = .returned v ∧ Q8_2L Z r0 r2 kr0 kr2 y0 y1 h0 n0 v U'.heap L ∧ FrameEnd U o U' L ({ frames := 0, cells := 0, slots := 0, locals := 0 } : Room).cells ({ frames := 0, cells := 0, slots := 0, locals := 0 } : Room).slots) := by
  refine MetFree.of_bodySF (plainFor_of_name pn_8) hisR ?_
  intro p e s m args below meth c s₁ Bd hml0 hP hK
  obtain ⟨rfl, hZ, hh⟩ := hP
  have hx := Bd.exec
  have hby := Bd.bytes
  have hml : c.maxLocals = 7 := hml0
  have hown : s.vm.findClass "java/lang/StringUTF16" = some m.cls := findClass_of_methodNamed Bd.named
  have hnm := (name_of_methodNamed Bd.named Bd.method).1
  have hlk : meth.locks = false := by first | exact BodyLoose.notSynchronized Bd | exact Body.notSynchronized Bd
  have X0 : Stand p l e ({ frames := 0, cells := 0, slots := 0, locals := 0 } : Room) s m #[(.ref r0), (.int 0), (.ref r2), (.int 0), (.int 2)] below meth c s₁ [] 0 0 := Stand.of_body Bd
  have e0 : s₁.heap = h0 := by rw [← hh, Bd.state]; rfl
  have N0 := Fr.nil n0
  have k0 : own_R p e below (s₁.setTop (entryFrame m #[(.ref r0), (.int 0), (.ref r2), (.int 0), (.int 2)] 7)) (s₁.setTop (mkF m 0 #[vR r0, vI 0, vR r2, vI 0, vI 2, .unset, .unset] [])) := fun t k => castTop (ef_8_2L m r0 (0 : Int32) r2 (0 : Int32) (2 : Int32)) k
  obtain ⟨A0, hA0⟩ : ∃ z, z = s₁.setTop (entryFrame m #[(.ref r0), (.int 0), (.ref r2), (.int 0), (.int 2)] 7) := ⟨_, rfl⟩
  rw [← hA0] at k0
  have kz : ∀ t, Steps p.tables e below A0 t → Steps p.tables e below (s₁.setTop (entryFrame m #[(.ref r0), (.int 0), (.ref r2), (.int 0), (.int 2)] 7)) t := fun t q => hA0 ▸ q
  have ks1 : own_R p e below (A0) (s₁.setTop (mkF m 12 #[vR r0, vI 0, vR r2, vI 0, vI 2, vI 0, .unset] [(.int 0), (.ref r0)])) := fun t k => k0 t (by
    refine XS.iconst X0.here hx rfl (hb hby d8_0) ?_
    refine XS.istore X0.here hx rfl (hb hby d8_1) rfl (l' := #[vR r0, vI 0, vR r2, vI 0, vI 2, vI 0, .unset]) rfl ?_
    refine XS.iload X0.here hx rfl (hb hby d8_3) rfl ?_
    show Steps p.tables e below (s₁.setTop (mkF m 5 #[vR r0, vI 0, vR r2, vI 0, vI 2, vI 0, .unset] [(.int 0)])) _
    refine XS.iload X0.here hx rfl (hb hby d8_5) rfl ?_
    refine XS.icmpNo X0.here hx rfl (hb hby d8_7) rfl (tlt (by decide)).2.1 ?_
    refine XS.aloadN X0.here hx rfl (hb hby d8_10) rfl rfl ?_
    refine XS.iloadN X0.here hx rfl (hb hby d8_11) rfl ?_
    exact k)
  obtain ⟨cl2, Ar2, qa2, S2, Na2, Ha2, Ga2⟩ := id V0
  have ks3 : own_R p e below (A0) (s₁.setTop (mkF m 31 #[vR r0, vI 0, vR r2, vI 0, vI 2, vI 0, vI y0] [(.int (y0.toInt8.toInt32)), (.int 0), (.ref r2)])) := fun t k => ks1 t (by
    refine X0.caload hx (j := (0 : Int32)) (v := (.int y0)) (by rw [e0]; exact Ar2.1) (State.isArrayOf_alike hZ.alike Ar2.2.1) Ar2.2.2 (inb_of S2 ⟨by decide, by decide⟩) (Has.at Ha2 (inb_of S2 ⟨by decide, by decide⟩) rfl) (g := (mkF m 12 #[vR r0, vI 0, vR r2, vI 0, vI 2, vI 0, .unset] [(.int 0), (.ref r0)])) rfl rfl (hb hby d8_12) _ ?_
    refine XS.istore X0.here hx rfl (hb hby d8_13) rfl (l' := #[vR r0, vI 0, vR r2, vI 0, vI 2, vI 0, vI y0]) rfl ?_
    refine XS.iload X0.here hx rfl (hb hby d8_15) rfl ?_
    show Steps p.tables e below (s₁.setTop (mkF m 17 #[vR r0, vI 0, vR r2, vI 0, vI 2, vI 0, vI y0] [(.int y0)])) _
    refine XS.sipush X0.here hx rfl (hb hby d8_17) ?_
    refine XS.icmpYes X0.here hx rfl (pc0 := 20) (pc' := 26) rfl (hb hby d8_20) rfl (flt PY0).2.2.2 (by decide) (by decide) ?_
    refine XS.aloadN X0.here hx rfl (hb hby d8_26) rfl rfl ?_
    refine XS.iloadN X0.here hx rfl (hb hby d8_27) rfl ?_
    show Steps p.tables e below (s₁.setTop (mkF m 28 #[vR r0, vI 0, vR r2, vI 0, vI 2, vI 0, vI y0] [(.int 0), (.ref r2)])) _
    refine XS.iload X0.here hx rfl (hb hby d8_28) rfl ?_
    refine XS.i2b X0.here hx rfl (hb hby d8_30) rfl ?_
    exact k)
  obtain ⟨cl4, Ar4, qa4, S4, Na4, Ha4, Ga4⟩ := id V2
  have hin4 : ¬ ((0 : Int32) < 0 ∨ cl4.slots.size ≤ ((0 : Int32)).toNatClampNeg) := inb_of S4 ⟨by decide, by decide⟩
  obtain ⟨T5, h5, X5, e5, W5, st5⟩ := stB X0 hx hZ e0 Ar4 (j := (0 : Int32)) hin4 (g := (mkF m 31 #[vR r0, vI 0, vR r2, vI 0, vI 2, vI 0, vI y0] [(.int (y0.toInt8.toInt32)), (.int 0), (.ref r2)])) rfl rfl (hb hby d8_31)
  have V5 : Arv Z h5 r2 kr2 .byte (2 : Int32) [(.int ((y0.toInt8.toInt32).toInt8.toInt32)), (.int 0)] (.int 0) := Arv.set Ar4 qa4 S4 Na4 Ha4 Ga4 (fits_nar_byte _) W5 0 rfl (Nat.le_of_ble_eq_true rfl)
  rw [Int8.toInt8_toInt32] at V5
  have KH5 : Keep h0 h5 [r2] := (Keep.refl h0 [r2]).wr W5 (Or.inl (List.mem_of_getElem? (i := 0) rfl))
  have Zn5 : n0 ≤ h5.size := Nat.le_trans Z0 (Keep.of_wr W5).1
  have N5 := Fr.snoc X5 N0 g_r2
  have ks6 := own_c ks3 st5
  have ks7 : own_R p e below (A0) (T5.setTop (mkF m 12 #[vR r0, vI 1, vR r2, vI 1, vI 2, vI 1, vI y0] [(.int 1), (.ref r0)])) := fun t k => ks6 t (by
    refine XS.iinc X5.here hx rfl (hb hby d8_32) rfl (l' := #[vR r0, vI 1, vR r2, vI 0, vI 2, vI 0, vI y0]) rfl ?_
    refine XS.iinc X5.here hx rfl (hb hby d8_35) rfl (l' := #[vR r0, vI 1, vR r2, vI 1, vI 2, vI 0, vI y0]) rfl ?_
    refine XS.iinc X5.here hx rfl (hb hby d8_38) rfl (l' := #[vR r0, vI 1, vR r2, vI 1, vI 2, vI 1, vI y0]) rfl ?_
    show Steps p.tables e below (T5.setTop (mkF m 41 #[vR r0, vI 1, vR r2, vI 1, vI 2, vI 1, vI y0] [])) _
    refine XS.goto X5.here hx rfl (pc0 := 41) (pc' := 3) rfl (hb hby d8_41) (by decide) (by decide) ?_
    refine XS.iload X5.here hx rfl (hb hby d8_3) rfl ?_
    refine XS.iload X5.here hx rfl (hb hby d8_5) rfl ?_
    refine XS.icmpNo X5.here hx rfl (hb hby d8_7) rfl (tlt (by decide)).2.1 ?_
    show Steps p.tables e below (T5.setTop (mkF m 10 #[vR r0, vI 1, vR r2, vI 1, vI 2, vI 1, vI y0] [])) _
    refine XS.aloadN X5.here hx rfl (hb hby d8_10) rfl rfl ?_
    refine XS.iloadN X5.here hx rfl (hb hby d8_11) rfl ?_
    exact k)
  have f8 := V0.keep KH5 (ninS n02 nin0)
  obtain ⟨cl9, Ar9, qa9, S9, Na9, Ha9, Ga9⟩ := id f8
  have ks10 : own_R p e below (A0) (T5.setTop (mkF m 31 #[vR r0, vI 1, vR r2, vI 1, vI 2, vI 1, vI y1] [(.int (y1.toInt8.toInt32)), (.int 1), (.ref r2)])) := fun t k => ks7 t (by
    refine X5.caload hx (j := (1 : Int32)) (v := (.int y1)) (by rw [e5]; exact Ar9.1) (State.isArrayOf_alike hZ.alike Ar9.2.1) Ar9.2.2 (inb_of S9 ⟨by decide, by decide⟩) (Has.at Ha9 (inb_of S9 ⟨by decide, by decide⟩) rfl) (g := (mkF m 12 #[vR r0, vI 1, vR r2, vI 1, vI 2, vI 1, vI y0] [(.int 1), (.ref r0)])) rfl rfl (hb hby d8_12) _ ?_
    refine XS.istore X5.here hx rfl (hb hby d8_13) rfl (l' := #[vR r0, vI 1, vR r2, vI 1, vI 2, vI 1, vI y1]) rfl ?_
    refine XS.iload X5.here hx rfl (hb hby d8_15) rfl ?_
    show Steps p.tables e below (T5.setTop (mkF m 17 #[vR r0, vI 1, vR r2, vI 1, vI 2, vI 1, vI y1] [(.int y1)])) _
    refine XS.sipush X5.here hx rfl (hb hby d8_17) ?_
    refine XS.icmpYes X5.here hx rfl (pc0 := 20) (pc' := 26) rfl (hb hby d8_20) rfl (flt PY1).2.2.2 (by decide) (by decide) ?_
    refine XS.aloadN X5.here hx rfl (hb hby d8_26) rfl rfl ?_
    refine XS.iloadN X5.here hx rfl (hb hby d8_27) rfl ?_
    show Steps p.tables e below (T5.setTop (mkF m 28 #[vR r0, vI 1, vR r2, vI 1, vI 2, vI 1, vI y1] [(.int 1), (.ref r2)])) _
    refine XS.iload X5.here hx rfl (hb hby d8_28) rfl ?_
    refine XS.i2b X5.here hx rfl (hb hby d8_30) rfl ?_
    exact k)
  obtain ⟨cl11, Ar11, qa11, S11, Na11, Ha11, Ga11⟩ := id V5
  have hin11 : ¬ ((1 : Int32) < 0 ∨ cl11.slots.size ≤ ((1 : Int32)).toNatClampNeg) := inb_of S11 ⟨by decide, by decide⟩
  obtain ⟨T12, h12, X12, e12, W12, st12⟩ := stB X5 hx hZ e5 Ar11 (j := (1 : Int32)) hin11 (g := (mkF m 31 #[vR r0, vI 1, vR r2, vI 1, vI 2, vI 1, vI y1] [(.int (y1.toInt8.toInt32)), (.int 1), (.ref r2)])) rfl rfl (hb hby d8_31)
  have V12 : Arv Z h12 r2 kr2 .byte (2 : Int32) [(.int (y0.toInt8.toInt32)), (.int ((y1.toInt8.toInt32).toInt8.toInt32))] (.int 0) := Arv.set Ar11 qa11 S11 Na11 Ha11 Ga11 (fits_nar_byte _) W12 1 rfl (Nat.le_of_ble_eq_true rfl)
  rw [Int8.toInt8_toInt32] at V12
  have KH12 : Keep h0 h12 [r2] := KH5.wr W12 (Or.inl (List.mem_of_getElem? (i := 0) rfl))
  have Zn12 : n0 ≤ h12.size := Nat.le_trans Zn5 (Keep.of_wr W12).1
  have N12 := Fr.snoc X12 N5 g_r2
  have ks13 := own_c ks10 st12
  have ks14 : own_R p e below (A0) (T12.setTop (mkF m 46 #[vR r0, vI 2, vR r2, vI 2, vI 2, vI 2, vI y1] [(.int 2)])) := fun t k => ks13 t (by
    refine XS.iinc X12.here hx rfl (hb hby d8_32) rfl (l' := #[vR r0, vI 2, vR r2, vI 1, vI 2, vI 1, vI y1]) rfl ?_
    refine XS.iinc X12.here hx rfl (hb hby d8_35) rfl (l' := #[vR r0, vI 2, vR r2, vI 2, vI 2, vI 1, vI y1]) rfl ?_
    refine XS.iinc X12.here hx rfl (hb hby d8_38) rfl (l' := #[vR r0, vI 2, vR r2, vI 2, vI 2, vI 2, vI y1]) rfl ?_
    show Steps p.tables e below (T12.setTop (mkF m 41 #[vR r0, vI 2, vR r2, vI 2, vI 2, vI 2, vI y1] [])) _
    refine XS.goto X12.here hx rfl (pc0 := 41) (pc' := 3) rfl (hb hby d8_41) (by decide) (by decide) ?_
    refine XS.iload X12.here hx rfl (hb hby d8_3) rfl ?_
    refine XS.iload X12.here hx rfl (hb hby d8_5) rfl ?_
    refine XS.icmpYes X12.here hx rfl (pc0 := 7) (pc' := 44) rfl (hb hby d8_7) rfl (flt (by decide)).2.1 (by decide) (by decide) ?_
    show Steps p.tables e below (T12.setTop (mkF m 44 #[vR r0, vI 2, vR r2, vI 2, vI 2, vI 2, vI y1] [])) _
    refine XS.iload X12.here hx rfl (hb hby d8_44) rfl ?_
    exact k)
  obtain ⟨fs, hr, hrun, hended, hW, hsame⟩ := X12.leave (v := some (.int 2)) (fun h => by rw [Bd.returns] at h; cases h) hlk
  refine ⟨_, _, kz _ (ks14 _ ?_), hrun, hended, _, _, rfl, ?_, ⟨_, rfl⟩, hW, hsame.mono (by decide) (by decide)⟩
  · exact retI X12 hx Bd.returns (hb hby d8_46) hr
  · show Q8_2L Z r0 r2 kr0 kr2 y0 y1 h0 n0 _ T12.heap _
    rw [e12]
    exact ⟨rfl, N12, KH12, V12⟩
theorem d8_23 : decode jdk_52_method_21_code 23 = .ok (.iload 5, 2) := by decide +kernel
theorem d8_25 : decode jdk_52_method_21_code 25 = .ok (.ireturn, 1) := by decide +kernel
theorem ef_8_2U0 (m : MethodId) (x0 : Addr) (x1 : Int32) (x2 : Addr) (x3 : Int32) (x4 : Int32) : entryFrame m #[(.ref x0), (.int x1), (.ref x2), (.int x3), (.int x4)] 7 = mkF m 0 #[.val (.ref x0), .val (.int x1), .val (.ref x2), .val (.int x3), .val (.int x4), .unset, .unset] [] := by first | (simp [entryFrame, mkF, argsToLocals, Value.category]; done) | rfl
def Q8_2U0 (Z : State) (r0 : Addr) (r2 : Addr) (kr0 : ClassId) (kr2 : ClassId) (y0 : Int32) (y1 : Int32) (h0 : Heap) (n0 : Nat) (v : Option Value) (h : Heap) (L : List Loc) : Prop := v = some (.int (0 : Int32)) ∧ Fr n0 L ∧ Keep h0 h [r2]
set_option maxRecDepth 65536 in
set_option maxHeartbeats 40000000 in
theorem rm8_2U0 (l : Launch) (Z : State) (a0 : Array Value) (hw : ∀ d ∈ tables_1, d.before a0 Z = true) (ws : List Jvm.Cond) (r0 : Addr) (r2 : Addr) (kr0 : ClassId) (kr2 : ClassId) (y0 : Int32) (y1 : Int32) (h0 : Heap) (n0 : Nat) (Z0 : n0 ≤ h0.size) (V0 : Arv Z h0 r0 kr0 .char (2 : Int32) [(.int y0), (.int y1)] (.int 0)) (V2 : Arv Z h0 r2 kr2 .byte (2 : Int32) [(.int 0), (.int 0)] (.int 0)) (n02 : r0 ≠ r2) (g_r2 : n0 ≤ r2) (RY0 : y0.toUInt32.toUInt16.toUInt32.toInt32 = y0) (RY1 : y1.toUInt32.toUInt16.toUInt32.toInt32 = y1) (XY0 : (255 : Int32) < y0) :
    MetFree l (⟨"java/lang/StringUTF16", "compress", "([CI[BII)I"⟩ : MethodName) (head1 (Jvm.Cond.code (⟨"java/lang/StringUTF16", "compress", "([CI[BII)I"⟩ : MethodName) jdk_52_method_21_code 7 (some .int) :: ws) ({ frames := 0, cells := 0, slots := 0, locals := 0 } : Room)) (fun a U => a = #[(.ref r0), (.int 0), (.ref r2), (.int 0), (.int 2)] ∧ Z.Warmed39 U.vm ∧ U.heap = h0) (fun _ _ _ _ _ => True) (fun _ U o U' => ∃ v L, o = .returned v ∧ Q8_2U0 Z r0 r2 kr0 kr2 y0 y1 h0 n0 v U'.heap L ∧ FrameEnd U o U' L ({ frames := 0, cells := 0, slots := 0, locals := 0 } : Room).cells ({ frames := 0, cells := 0, slots := 0, locals := 0 } : Room).slots) := by
  refine MetFree.of_bodySF (plainFor_of_name pn_8) hisR ?_
  intro p e s m args below meth c s₁ Bd hml0 hP hK
  obtain ⟨rfl, hZ, hh⟩ := hP
  have hx := Bd.exec
  have hby := Bd.bytes
  have hml : c.maxLocals = 7 := hml0
  have hown : s.vm.findClass "java/lang/StringUTF16" = some m.cls := findClass_of_methodNamed Bd.named
  have hnm := (name_of_methodNamed Bd.named Bd.method).1
  have hlk : meth.locks = false := by first | exact BodyLoose.notSynchronized Bd | exact Body.notSynchronized Bd
  have X0 : Stand p l e ({ frames := 0, cells := 0, slots := 0, locals := 0 } : Room) s m #[(.ref r0), (.int 0), (.ref r2), (.int 0), (.int 2)] below meth c s₁ [] 0 0 := Stand.of_body Bd
  have e0 : s₁.heap = h0 := by rw [← hh, Bd.state]; rfl
  have N0 := Fr.nil n0
  have k0 : own_R p e below (s₁.setTop (entryFrame m #[(.ref r0), (.int 0), (.ref r2), (.int 0), (.int 2)] 7)) (s₁.setTop (mkF m 0 #[vR r0, vI 0, vR r2, vI 0, vI 2, .unset, .unset] [])) := fun t k => castTop (ef_8_2U0 m r0 (0 : Int32) r2 (0 : Int32) (2 : Int32)) k
  obtain ⟨A0, hA0⟩ : ∃ z, z = s₁.setTop (entryFrame m #[(.ref r0), (.int 0), (.ref r2), (.int 0), (.int 2)] 7) := ⟨_, rfl⟩
  rw [← hA0] at k0
  have kz : ∀ t, Steps p.tables e below A0 t → Steps p.tables e below (s₁.setTop (entryFrame m #[(.ref r0), (.int 0), (.ref r2), (.int 0), (.int 2)] 7)) t := fun t q => hA0 ▸ q
  have ks1 : own_R p e below (A0) (s₁.setTop (mkF m 12 #[vR r0, vI 0, vR r2, vI 0, vI 2, vI 0, .unset] [(.int 0), (.ref r0)])) := fun t k => k0 t (by
    refine XS.iconst X0.here hx rfl (hb hby d8_0) ?_
    refine XS.istore X0.here hx rfl (hb hby d8_1) rfl (l' := #[vR r0, vI 0, vR r2, vI 0, vI 2, vI 0, .unset]) rfl ?_
    refine XS.iload X0.here hx rfl (hb hby d8_3) rfl ?_
    show Steps p.tables e below (s₁.setTop (mkF m 5 #[vR r0, vI 0, vR r2, vI 0, vI 2, vI 0, .unset] [(.int 0)])) _
    refine XS.iload X0.here hx rfl (hb hby d8_5) rfl ?_
    refine XS.icmpNo X0.here hx rfl (hb hby d8_7) rfl (tlt (by decide)).2.1 ?_
    refine XS.aloadN X0.here hx rfl (hb hby d8_10) rfl rfl ?_
    refine XS.iloadN X0.here hx rfl (hb hby d8_11) rfl ?_
    exact k)
  obtain ⟨cl2, Ar2, qa2, S2, Na2, Ha2, Ga2⟩ := id V0
  have ks3 : own_R p e below (A0) (s₁.setTop (mkF m 25 #[vR r0, vI 0, vR r2, vI 0, vI 2, vI 0, vI y0] [(.int 0)])) := fun t k => ks1 t (by
    refine X0.caload hx (j := (0 : Int32)) (v := (.int y0)) (by rw [e0]; exact Ar2.1) (State.isArrayOf_alike hZ.alike Ar2.2.1) Ar2.2.2 (inb_of S2 ⟨by decide, by decide⟩) (Has.at Ha2 (inb_of S2 ⟨by decide, by decide⟩) rfl) (g := (mkF m 12 #[vR r0, vI 0, vR r2, vI 0, vI 2, vI 0, .unset] [(.int 0), (.ref r0)])) rfl rfl (hb hby d8_12) _ ?_
    refine XS.istore X0.here hx rfl (hb hby d8_13) rfl (l' := #[vR r0, vI 0, vR r2, vI 0, vI 2, vI 0, vI y0]) rfl ?_
    refine XS.iload X0.here hx rfl (hb hby d8_15) rfl ?_
    show Steps p.tables e below (s₁.setTop (mkF m 17 #[vR r0, vI 0, vR r2, vI 0, vI 2, vI 0, vI y0] [(.int y0)])) _
    refine XS.sipush X0.here hx rfl (hb hby d8_17) ?_
    refine XS.icmpNo X0.here hx rfl (hb hby d8_20) rfl (tlt XY0).2.2.2 ?_
    refine XS.iload X0.here hx rfl (hb hby d8_23) rfl ?_
    exact k)
  obtain ⟨fs, hr, hrun, hended, hW, hsame⟩ := X0.leave (v := some (.int 0)) (fun h => by rw [Bd.returns] at h; cases h) hlk
  refine ⟨_, _, kz _ (ks3 _ ?_), hrun, hended, _, _, rfl, ?_, ⟨_, rfl⟩, hW, hsame.mono (by decide) (by decide)⟩
  · exact retI X0 hx Bd.returns (hb hby d8_25) hr
  · show Q8_2U0 Z r0 r2 kr0 kr2 y0 y1 h0 n0 _ s₁.heap _
    rw [e0]
    exact ⟨rfl, N0, (Keep.refl h0 [r2])⟩
theorem ef_8_2U1 (m : MethodId) (x0 : Addr) (x1 : Int32) (x2 : Addr) (x3 : Int32) (x4 : Int32) : entryFrame m #[(.ref x0), (.int x1), (.ref x2), (.int x3), (.int x4)] 7 = mkF m 0 #[.val (.ref x0), .val (.int x1), .val (.ref x2), .val (.int x3), .val (.int x4), .unset, .unset] [] := by first | (simp [entryFrame, mkF, argsToLocals, Value.category]; done) | rfl
def Q8_2U1 (Z : State) (r0 : Addr) (r2 : Addr) (kr0 : ClassId) (kr2 : ClassId) (y0 : Int32) (y1 : Int32) (h0 : Heap) (n0 : Nat) (v : Option Value) (h : Heap) (L : List Loc) : Prop := v = some (.int (1 : Int32)) ∧ Fr n0 L ∧ Keep h0 h [r2]
set_option maxRecDepth 65536 in
set_option maxHeartbeats 40000000 in
theorem rm8_2U1 (l : Launch) (Z : State) (a0 : Array Value) (hw : ∀ d ∈ tables_1, d.before a0 Z = true) (ws : List Jvm.Cond) (r0 : Addr) (r2 : Addr) (kr0 : ClassId) (kr2 : ClassId) (y0 : Int32) (y1 : Int32) (h0 : Heap) (n0 : Nat) (Z0 : n0 ≤ h0.size) (V0 : Arv Z h0 r0 kr0 .char (2 : Int32) [(.int y0), (.int y1)] (.int 0)) (V2 : Arv Z h0 r2 kr2 .byte (2 : Int32) [(.int 0), (.int 0)] (.int 0)) (n02 : r0 ≠ r2) (g_r2 : n0 ≤ r2) (RY0 : y0.toUInt32.toUInt16.toUInt32.toInt32 = y0) (RY1 : y1.toUInt32.toUInt16.toUInt32.toInt32 = y1) (PY0 : ¬ (255 : Int32) < y0) (XY1 : (255 : Int32) < y1) :
    MetFree l (⟨"java/lang/StringUTF16", "compress", "([CI[BII)I"⟩ : MethodName) (head1 (Jvm.Cond.code (⟨"java/lang/StringUTF16", "compress", "([CI[BII)I"⟩ : MethodName) jdk_52_method_21_code 7 (some .int) :: ws) ({ frames := 0, cells := 0, slots := 0, locals := 0 } : Room)) (fun a U => a = #[(.ref r0), (.int 0), (.ref r2), (.int 0), (.int 2)] ∧ Z.Warmed39 U.vm ∧ U.heap = h0) (fun _ _ _ _ _ => True) (fun _ U o U' => ∃ v L, o = .returned v ∧ Q8_2U1 Z r0 r2 kr0 kr2 y0 y1 h0 n0 v U'.heap L ∧ FrameEnd U o U' L ({ frames := 0, cells := 0, slots := 0, locals := 0 } : Room).cells ({ frames := 0, cells := 0, slots := 0, locals := 0 } : Room).slots) := by
  refine MetFree.of_bodySF (plainFor_of_name pn_8) hisR ?_
  intro p e s m args below meth c s₁ Bd hml0 hP hK
  obtain ⟨rfl, hZ, hh⟩ := hP
  have hx := Bd.exec
  have hby := Bd.bytes
  have hml : c.maxLocals = 7 := hml0
  have hown : s.vm.findClass "java/lang/StringUTF16" = some m.cls := findClass_of_methodNamed Bd.named
  have hnm := (name_of_methodNamed Bd.named Bd.method).1
  have hlk : meth.locks = false := by first | exact BodyLoose.notSynchronized Bd | exact Body.notSynchronized Bd
  have X0 : Stand p l e ({ frames := 0, cells := 0, slots := 0, locals := 0 } : Room) s m #[(.ref r0), (.int 0), (.ref r2), (.int 0), (.int 2)] below meth c s₁ [] 0 0 := Stand.of_body Bd
  have e0 : s₁.heap = h0 := by rw [← hh, Bd.state]; rfl
  have N0 := Fr.nil n0
  have k0 : own_R p e below (s₁.setTop (entryFrame m #[(.ref r0), (.int 0), (.ref r2), (.int 0), (.int 2)] 7)) (s₁.setTop (mkF m 0 #[vR r0, vI 0, vR r2, vI 0, vI 2, .unset, .unset] [])) := fun t k => castTop (ef_8_2U1 m r0 (0 : Int32) r2 (0 : Int32) (2 : Int32)) k
  obtain ⟨A0, hA0⟩ : ∃ z, z = s₁.setTop (entryFrame m #[(.ref r0), (.int 0), (.ref r2), (.int 0), (.int 2)] 7) := ⟨_, rfl⟩
  rw [← hA0] at k0
  have kz : ∀ t, Steps p.tables e below A0 t → Steps p.tables e below (s₁.setTop (entryFrame m #[(.ref r0), (.int 0), (.ref r2), (.int 0), (.int 2)] 7)) t := fun t q => hA0 ▸ q
  have ks1 : own_R p e below (A0) (s₁.setTop (mkF m 12 #[vR r0, vI 0, vR r2, vI 0, vI 2, vI 0, .unset] [(.int 0), (.ref r0)])) := fun t k => k0 t (by
    refine XS.iconst X0.here hx rfl (hb hby d8_0) ?_
    refine XS.istore X0.here hx rfl (hb hby d8_1) rfl (l' := #[vR r0, vI 0, vR r2, vI 0, vI 2, vI 0, .unset]) rfl ?_
    refine XS.iload X0.here hx rfl (hb hby d8_3) rfl ?_
    show Steps p.tables e below (s₁.setTop (mkF m 5 #[vR r0, vI 0, vR r2, vI 0, vI 2, vI 0, .unset] [(.int 0)])) _
    refine XS.iload X0.here hx rfl (hb hby d8_5) rfl ?_
    refine XS.icmpNo X0.here hx rfl (hb hby d8_7) rfl (tlt (by decide)).2.1 ?_
    refine XS.aloadN X0.here hx rfl (hb hby d8_10) rfl rfl ?_
    refine XS.iloadN X0.here hx rfl (hb hby d8_11) rfl ?_
    exact k)
  obtain ⟨cl2, Ar2, qa2, S2, Na2, Ha2, Ga2⟩ := id V0
  have ks3 : own_R p e below (A0) (s₁.setTop (mkF m 31 #[vR r0, vI 0, vR r2, vI 0, vI 2, vI 0, vI y0] [(.int (y0.toInt8.toInt32)), (.int 0), (.ref r2)])) := fun t k => ks1 t (by
    refine X0.caload hx (j := (0 : Int32)) (v := (.int y0)) (by rw [e0]; exact Ar2.1) (State.isArrayOf_alike hZ.alike Ar2.2.1) Ar2.2.2 (inb_of S2 ⟨by decide, by decide⟩) (Has.at Ha2 (inb_of S2 ⟨by decide, by decide⟩) rfl) (g := (mkF m 12 #[vR r0, vI 0, vR r2, vI 0, vI 2, vI 0, .unset] [(.int 0), (.ref r0)])) rfl rfl (hb hby d8_12) _ ?_
    refine XS.istore X0.here hx rfl (hb hby d8_13) rfl (l' := #[vR r0, vI 0, vR r2, vI 0, vI 2, vI 0, vI y0]) rfl ?_
    refine XS.iload X0.here hx rfl (hb hby d8_15) rfl ?_
    show Steps p.tables e below (s₁.setTop (mkF m 17 #[vR r0, vI 0, vR r2, vI 0, vI 2, vI 0, vI y0] [(.int y0)])) _
    refine XS.sipush X0.here hx rfl (hb hby d8_17) ?_
    refine XS.icmpYes X0.here hx rfl (pc0 := 20) (pc' := 26) rfl (hb hby d8_20) rfl (flt PY0).2.2.2 (by decide) (by decide) ?_
    refine XS.aloadN X0.here hx rfl (hb hby d8_26) rfl rfl ?_
    refine XS.iloadN X0.here hx rfl (hb hby d8_27) rfl ?_
    show Steps p.tables e below (s₁.setTop (mkF m 28 #[vR r0, vI 0, vR r2, vI 0, vI 2, vI 0, vI y0] [(.int 0), (.ref r2)])) _
    refine XS.iload X0.here hx rfl (hb hby d8_28) rfl ?_
    refine XS.i2b X0.here hx rfl (hb hby d8_30) rfl ?_
    exact k)
  obtain ⟨cl4, Ar4, qa4, S4, Na4, Ha4, Ga4⟩ := id V2
  have hin4 : ¬ ((0 : Int32) < 0 ∨ cl4.slots.size ≤ ((0 : Int32)).toNatClampNeg) := inb_of S4 ⟨by decide, by decide⟩
  obtain ⟨T5, h5, X5, e5, W5, st5⟩ := stB X0 hx hZ e0 Ar4 (j := (0 : Int32)) hin4 (g := (mkF m 31 #[vR r0, vI 0, vR r2, vI 0, vI 2, vI 0, vI y0] [(.int (y0.toInt8.toInt32)), (.int 0), (.ref r2)])) rfl rfl (hb hby d8_31)
  have V5 : Arv Z h5 r2 kr2 .byte (2 : Int32) [(.int ((y0.toInt8.toInt32).toInt8.toInt32)), (.int 0)] (.int 0) := Arv.set Ar4 qa4 S4 Na4 Ha4 Ga4 (fits_nar_byte _) W5 0 rfl (Nat.le_of_ble_eq_true rfl)
  rw [Int8.toInt8_toInt32] at V5
  have KH5 : Keep h0 h5 [r2] := (Keep.refl h0 [r2]).wr W5 (Or.inl (List.mem_of_getElem? (i := 0) rfl))
  have Zn5 : n0 ≤ h5.size := Nat.le_trans Z0 (Keep.of_wr W5).1
  have N5 := Fr.snoc X5 N0 g_r2
  have ks6 := own_c ks3 st5
  have ks7 : own_R p e below (A0) (T5.setTop (mkF m 12 #[vR r0, vI 1, vR r2, vI 1, vI 2, vI 1, vI y0] [(.int 1), (.ref r0)])) := fun t k => ks6 t (by
    refine XS.iinc X5.here hx rfl (hb hby d8_32) rfl (l' := #[vR r0, vI 1, vR r2, vI 0, vI 2, vI 0, vI y0]) rfl ?_
    refine XS.iinc X5.here hx rfl (hb hby d8_35) rfl (l' := #[vR r0, vI 1, vR r2, vI 1, vI 2, vI 0, vI y0]) rfl ?_
    refine XS.iinc X5.here hx rfl (hb hby d8_38) rfl (l' := #[vR r0, vI 1, vR r2, vI 1, vI 2, vI 1, vI y0]) rfl ?_
    show Steps p.tables e below (T5.setTop (mkF m 41 #[vR r0, vI 1, vR r2, vI 1, vI 2, vI 1, vI y0] [])) _
    refine XS.goto X5.here hx rfl (pc0 := 41) (pc' := 3) rfl (hb hby d8_41) (by decide) (by decide) ?_
    refine XS.iload X5.here hx rfl (hb hby d8_3) rfl ?_
    refine XS.iload X5.here hx rfl (hb hby d8_5) rfl ?_
    refine XS.icmpNo X5.here hx rfl (hb hby d8_7) rfl (tlt (by decide)).2.1 ?_
    show Steps p.tables e below (T5.setTop (mkF m 10 #[vR r0, vI 1, vR r2, vI 1, vI 2, vI 1, vI y0] [])) _
    refine XS.aloadN X5.here hx rfl (hb hby d8_10) rfl rfl ?_
    refine XS.iloadN X5.here hx rfl (hb hby d8_11) rfl ?_
    exact k)
  have f8 := V0.keep KH5 (ninS n02 nin0)
  obtain ⟨cl9, Ar9, qa9, S9, Na9, Ha9, Ga9⟩ := id f8
  have ks10 : own_R p e below (A0) (T5.setTop (mkF m 25 #[vR r0, vI 1, vR r2, vI 1, vI 2, vI 1, vI y1] [(.int 1)])) := fun t k => ks7 t (by
    refine X5.caload hx (j := (1 : Int32)) (v := (.int y1)) (by rw [e5]; exact Ar9.1) (State.isArrayOf_alike hZ.alike Ar9.2.1) Ar9.2.2 (inb_of S9 ⟨by decide, by decide⟩) (Has.at Ha9 (inb_of S9 ⟨by decide, by decide⟩) rfl) (g := (mkF m 12 #[vR r0, vI 1, vR r2, vI 1, vI 2, vI 1, vI y0] [(.int 1), (.ref r0)])) rfl rfl (hb hby d8_12) _ ?_
    refine XS.istore X5.here hx rfl (hb hby d8_13) rfl (l' := #[vR r0, vI 1, vR r2, vI 1, vI 2, vI 1, vI y1]) rfl ?_
    refine XS.iload X5.here hx rfl (hb hby d8_15) rfl ?_
    show Steps p.tables e below (T5.setTop (mkF m 17 #[vR r0, vI 1, vR r2, vI 1, vI 2, vI 1, vI y1] [(.int y1)])) _
    refine XS.sipush X5.here hx rfl (hb hby d8_17) ?_
    refine XS.icmpNo X5.here hx rfl (hb hby d8_20) rfl (tlt XY1).2.2.2 ?_
    refine XS.iload X5.here hx rfl (hb hby d8_23) rfl ?_
    exact k)
  obtain ⟨fs, hr, hrun, hended, hW, hsame⟩ := X5.leave (v := some (.int 1)) (fun h => by rw [Bd.returns] at h; cases h) hlk
  refine ⟨_, _, kz _ (ks10 _ ?_), hrun, hended, _, _, rfl, ?_, ⟨_, rfl⟩, hW, hsame.mono (by decide) (by decide)⟩
  · exact retI X5 hx Bd.returns (hb hby d8_25) hr
  · show Q8_2U1 Z r0 r2 kr0 kr2 y0 y1 h0 n0 _ T5.heap _
    rw [e5]
    exact ⟨rfl, N5, KH5⟩
theorem d7_0 : decode jdk_52_method_16_code 0 = .ok (.iload_n 2, 1) := by decide +kernel
theorem d7_1 : decode jdk_52_method_16_code 1 = .ok (.newarray .byte, 2) := by decide +kernel
theorem d7_3 : decode jdk_52_method_16_code 3 = .ok (.astore_n 3, 1) := by decide +kernel
theorem d7_4 : decode jdk_52_method_16_code 4 = .ok (.aload_n 0, 1) := by decide +kernel
theorem d7_5 : decode jdk_52_method_16_code 5 = .ok (.iload_n 1, 1) := by decide +kernel
theorem d7_6 : decode jdk_52_method_16_code 6 = .ok (.aload_n 3, 1) := by decide +kernel
theorem d7_7 : decode jdk_52_method_16_code 7 = .ok (.iconst 0, 1) := by decide +kernel
theorem d7_8 : decode jdk_52_method_16_code 8 = .ok (.iload_n 2, 1) := by decide +kernel
theorem d7_9 : decode jdk_52_method_16_code 9 = .ok (.invokestatic 115, 3) := by decide +kernel
theorem d7_12 : decode jdk_52_method_16_code 12 = .ok (.istore 4, 2) := by decide +kernel
theorem d7_14 : decode jdk_52_method_16_code 14 = .ok (.iload 4, 2) := by decide +kernel
theorem d7_16 : decode jdk_52_method_16_code 16 = .ok (.iload_n 2, 1) := by decide +kernel
theorem d7_17 : decode jdk_52_method_16_code 17 = .ok (.if_icmp .eq 40, 3) := by decide +kernel
theorem d7_20 : decode jdk_52_method_16_code 20 = .ok (.aload_n 0, 1) := by decide +kernel
theorem d7_21 : decode jdk_52_method_16_code 21 = .ok (.iload_n 1, 1) := by decide +kernel
theorem d7_22 : decode jdk_52_method_16_code 22 = .ok (.iload_n 2, 1) := by decide +kernel
theorem d7_23 : decode jdk_52_method_16_code 23 = .ok (.invokestatic 119, 3) := by decide +kernel
theorem d7_26 : decode jdk_52_method_16_code 26 = .ok (.astore 5, 2) := by decide +kernel
theorem d7_28 : decode jdk_52_method_16_code 28 = .ok (.aload 5, 2) := by decide +kernel
theorem d7_30 : decode jdk_52_method_16_code 30 = .ok (.iload 4, 2) := by decide +kernel
theorem d7_32 : decode jdk_52_method_16_code 32 = .ok (.invokestatic 71, 3) := by decide +kernel
theorem d7_35 : decode jdk_52_method_16_code 35 = .ok (.sipush 255, 3) := by decide +kernel
theorem d7_38 : decode jdk_52_method_16_code 38 = .ok (.if_icmp .gt 16, 3) := by decide +kernel
theorem d7_54 : decode jdk_52_method_16_code 54 = .ok (.aload 5, 2) := by decide +kernel
theorem d7_56 : decode jdk_52_method_16_code 56 = .ok (.areturn, 1) := by decide +kernel
theorem d7_57 : decode jdk_52_method_16_code 57 = .ok (.aload_n 3, 1) := by decide +kernel
theorem d7_58 : decode jdk_52_method_16_code 58 = .ok (.areturn, 1) := by decide +kernel
theorem pn_7 : plainName "java/lang/StringUTF16" = true := by first | (simp [plainName, overriddenIn]; done) | decide +kernel
theorem pd_6 : parseMethodDescriptor "([CII)[B" = some ⟨[(.array .char), .int, .int], some (.array .byte)⟩ := by decide +kernel
theorem pd_7 : parseMethodDescriptor "([CI[BII)I" = some ⟨[(.array .char), .int, (.array .byte), .int, .int], some .int⟩ := by decide +kernel
theorem ef_7_2G (m : MethodId) (x0 : Addr) (x1 : Int32) (x2 : Int32) : entryFrame m #[(.ref x0), (.int x1), (.int x2)] 6 = mkF m 0 #[.val (.ref x0), .val (.int x1), .val (.int x2), .unset, .unset, .unset] [] := by first | (simp [entryFrame, mkF, argsToLocals, Value.category]; done) | rfl
def Q7_2G (Z : State) (r0 : Addr) (kr0 : ClassId) (y0 : Int32) (y1 : Int32) (h0 : Heap) (n0 : Nat) (v : Option Value) (h : Heap) (L : List Loc) : Prop := ∃ (b : Addr) (kt : ClassId) (k z : Int32) (vs : List Value), v = some (.ref b) ∧ Fr n0 L ∧ Keep h0 h [] ∧ n0 ≤ b ∧ h0.size ≤ b ∧ Arv Z h b kt .byte z vs (.int 0) ∧ own_sh 2 k z vs [y0, y1]
set_option maxRecDepth 65536 in
set_option maxHeartbeats 40000000 in
theorem rm7_2G (l : Launch) (Z : State) (a0 : Array Value) (hw : ∀ d ∈ tables_1, d.before a0 Z = true) (ws : List Jvm.Cond) (r0 : Addr) (kr0 : ClassId) (y0 : Int32) (y1 : Int32) (h0 : Heap) (n0 : Nat) (Z0 : n0 ≤ h0.size) (S7a : own_S7a Z h0) (S7b : own_S7b Z h0) (S7c : own_S7c Z h0) (V0 : Arv Z h0 r0 kr0 .char (2 : Int32) [(.int y0), (.int y1)] (.int 0)) (RY0 : y0.toUInt32.toUInt16.toUInt32.toInt32 = y0) (RY1 : y1.toUInt32.toUInt16.toUInt32.toInt32 = y1) :
    MetFree l (⟨"java/lang/StringUTF16", "compress", "([CII)[B"⟩ : MethodName) (head1 (Jvm.Cond.code (⟨"java/lang/StringUTF16", "compress", "([CII)[B"⟩ : MethodName) jdk_52_method_16_code 6 (some (.array .byte)) :: ws) ({ frames := 3, cells := 2, slots := 6, locals := 40 } : Room)) (fun a U => a = #[(.ref r0), (.int 0), (.int 2)] ∧ Z.Warmed39 U.vm ∧ U.heap = h0) (fun _ _ _ _ _ => True) (fun _ U o U' => ∃ v L, o = .returned v ∧ Q7_2G Z r0 kr0 y0 y1 h0 n0 v U'.heap L ∧ FrameEnd U o U' L ({ frames := 3, cells := 2, slots := 6, locals := 40 } : Room).cells ({ frames := 3, cells := 2, slots := 6, locals := 40 } : Room).slots) := by
  refine MetFree.of_bodySF (plainFor_of_name pn_7) hisR ?_
  intro p e s m args below meth c s₁ Bd hml0 hP hK
  obtain ⟨rfl, hZ, hh⟩ := hP
  have hx := Bd.exec
  have hby := Bd.bytes
  have hml : c.maxLocals = 6 := hml0
  have hown : s.vm.findClass "java/lang/StringUTF16" = some m.cls := findClass_of_methodNamed Bd.named
  have hnm := (name_of_methodNamed Bd.named Bd.method).1
  have hlk : meth.locks = false := by first | exact BodyLoose.notSynchronized Bd | exact Body.notSynchronized Bd
  have X0 : Stand p l e ({ frames := 3, cells := 2, slots := 6, locals := 40 } : Room) s m #[(.ref r0), (.int 0), (.int 2)] below meth c s₁ [] 0 0 := Stand.of_body Bd
  have e0 : s₁.heap = h0 := by rw [← hh, Bd.state]; rfl
  have N0 := Fr.nil n0
  have k0 : own_R p e below (s₁.setTop (entryFrame m #[(.ref r0), (.int 0), (.int 2)] 6)) (s₁.setTop (mkF m 0 #[vR r0, vI 0, vI 2, .unset, .unset, .unset] [])) := fun t k => castTop (ef_7_2G m r0 (0 : Int32) (2 : Int32)) k
  obtain ⟨A0, hA0⟩ : ∃ z, z = s₁.setTop (entryFrame m #[(.ref r0), (.int 0), (.int 2)] 6) := ⟨_, rfl⟩
  rw [← hA0] at k0
  have kz : ∀ t, Steps p.tables e below A0 t → Steps p.tables e below (s₁.setTop (entryFrame m #[(.ref r0), (.int 0), (.int 2)] 6)) t := fun t q => hA0 ▸ q
  by_cases hc1 : (255 : Int32) < y0
  · skip
    have ks2 : own_R p e below (A0) (s₁.setTop (mkF m 1 #[vR r0, vI 0, vI 2, .unset, .unset, .unset] [(.int 2)])) := fun t k => k0 t (by
      refine XS.iloadN X0.here hx rfl (hb hby d7_0) rfl ?_
      exact k)
    obtain ⟨T3, h3, c3, X3, e3, E3, A3, st3⟩ := newP X0 hx hZ (own_w hw 20 rfl) e0 (g := (mkF m 1 #[vR r0, vI 0, vI 2, .unset, .unset, .unset] [(.int 2)])) rfl (hb hby d7_1) rfl (by decide) (cap := 2) (by decide) (by decide) (by decide) (by decide)
    obtain ⟨b3, g3⟩ : ∃ z, z = h0.size := ⟨_, rfl⟩
    rw [← g3] at A3 st3
    have ne_r0_b3 : r0 ≠ b3 := Nat.ne_of_lt (Nat.lt_of_lt_of_le V0.lt (Nat.le_of_eq g3.symm))
    have g_b3 : n0 ≤ b3 := Nat.le_trans Z0 (Nat.le_of_eq g3.symm)
    have sz_b3 : h0.size ≤ b3 := Nat.le_trans (Keep.refl h0 []).1 (Nat.le_of_eq g3.symm)
    have KH3 : Keep h0 h3 [] := (Keep.refl h0 []).ext E3
    have Zn3 : n0 ≤ h3.size := Nat.le_trans Z0 E3.1
    have V3 : Arv Z h3 b3 c3 .byte (2 : Int32) [(.int (0 : Int32)), (.int (0 : Int32))] (.int (0 : Int32)) := (Arv.new A3 (by decide)).pad (pad_rep [] (.int (0 : Int32)) 2)
    have ks4 := own_c ks2 st3
    have ks5 : own_R p e below (A0) (T3.setTop (mkF m 9 #[vR r0, vI 0, vI 2, vR b3, .unset, .unset] [(.int 2), (.int 0), (.ref b3), (.int 0), (.ref r0)])) := fun t k => ks4 t (by
      refine XS.astoreN X3.here hx rfl (hb hby d7_3) rfl rfl (l' := #[vR r0, vI 0, vI 2, vR b3, .unset, .unset]) rfl ?_
      refine XS.aloadN X3.here hx rfl (hb hby d7_4) rfl rfl ?_
      refine XS.iloadN X3.here hx rfl (hb hby d7_5) rfl ?_
      show Steps p.tables e below (T3.setTop (mkF m 6 #[vR r0, vI 0, vI 2, vR b3, .unset, .unset] [(.int 0), (.ref r0)])) _
      refine XS.aloadN X3.here hx rfl (hb hby d7_6) rfl rfl ?_
      refine XS.iconst X3.here hx rfl (hb hby d7_7) ?_
      refine XS.iloadN X3.here hx rfl (hb hby d7_8) rfl ?_
      exact k)
    have f7 := V0.keep KH3 nin0
    obtain ⟨_, _, ⟨T6, L6, k6, n6⟩, -, X6, ⟨Lc6, hQ6, lq6, yq6, zq6⟩, st6⟩ := Jvm.LawKit.callS X3 hx (y := (⟨"java/lang/StringUTF16", "compress", "([CI[BII)I"⟩ : MethodName)) hown (mvT hZ (own_w hw 42 rfl)) (mvT hZ (own_w hw 43 rfl)) (mvT hZ (own_w hw 40 rfl)) (mvT hZ (own_w hw 44 rfl)) (by decide) (backOf (W := 0) (rm8_2U0 l Z a0 hw [] r0 b3 _ _ y0 y1 h3 n0 Zn3 f7 V3 ne_r0_b3 g_b3 RY0 RY1 hc1) hZ (own_w hw 44 rfl) (own_w hw 40 rfl) (by decide) (by decide)) (g := (mkF m 9 #[vR r0, vI 0, vI 2, vR b3, .unset, .unset] [(.int 2), (.int 0), (.ref b3), (.int 0), (.ref r0)])) rfl (by rw [hml]; rfl) (argsL := [(.ref r0), (.int 0), (.ref b3), (.int 0), (.int 2)]) (rest := []) (lenOf pd_7 rfl) rfl (by show 2 * 0 + _ ≤ _; exact Nat.le_of_eq rfl) (hb hby d7_9) (fun _ _ => ⟨rfl, e3, (by decide : 1 + 0 ≤ _), (by decide : 2 + 0 ≤ _)⟩)
    dsimp only [Pt.U, Pt.locs, Pt.cells, Pt.slots] at X6 lq6 yq6 zq6 st6 hQ6
    subst lq6 yq6 zq6
    obtain ⟨rfl, Nq6, Kq6⟩ := hQ6
    have N6 := Fr.app N0 Nq6
    have KH6 : Keep h0 T6.heap [] := KH3.trans Kq6 (allS (Or.inr sz_b3) all0)
    have Zn6 : n0 ≤ T6.heap.size := Nat.le_trans Zn3 Kq6.1
    have ks8 := own_c ks5 st6
    have ks9 : own_R p e below (A0) (T6.setTop (mkF m 23 #[vR r0, vI 0, vI 2, vR b3, vI 0, .unset] [(.int 2), (.int 0), (.ref r0)])) := fun t k => ks8 t (by
      refine XS.istore X6.here hx rfl (hb hby d7_12) rfl (l' := #[vR r0, vI 0, vI 2, vR b3, vI 0, .unset]) rfl ?_
      refine XS.iload X6.here hx rfl (hb hby d7_14) rfl ?_
      refine XS.iloadN X6.here hx rfl (hb hby d7_16) rfl ?_
      show Steps p.tables e below (T6.setTop (mkF m 17 #[vR r0, vI 0, vI 2, vR b3, vI 0, .unset] [(.int 2), (.int 0)])) _
      refine XS.icmpNo X6.here hx rfl (hb hby d7_17) rfl (feq (by decide)).1 ?_
      refine XS.aloadN X6.here hx rfl (hb hby d7_20) rfl rfl ?_
      refine XS.iloadN X6.here hx rfl (hb hby d7_21) rfl ?_
      refine XS.iloadN X6.here hx rfl (hb hby d7_22) rfl ?_
      exact k)
    have f11 := own_sta_keep S7a KH6
    have f12 := own_sta_keep S7b KH6
    have f13 := own_sta_keep S7c KH6
    have f14 := V0.keep KH6 nin0
    obtain ⟨_, _, ⟨T10, L10, k10, n10⟩, -, X10, ⟨Lc10, hQ10, lq10, yq10, zq10⟩, st10⟩ := Jvm.LawKit.callS X6 hx (y := (⟨"java/lang/StringUTF16", "toBytes", "([CII)[B"⟩ : MethodName)) hown (mvT hZ (own_w hw 45 rfl)) (mvT hZ (own_w hw 46 rfl)) (mvT hZ (own_w hw 40 rfl)) (mvT hZ (own_w hw 47 rfl)) (by decide) (backOf (W := 0) (rm9_2 l Z a0 hw [] r0 _ y0 y1 T6.heap n0 Zn6 f11 f12 f13 f14) hZ (own_w hw 47 rfl) (own_w hw 40 rfl) (by decide) (by decide)) (g := (mkF m 23 #[vR r0, vI 0, vI 2, vR b3, vI 0, .unset] [(.int 2), (.int 0), (.ref r0)])) rfl (by rw [hml]; rfl) (argsL := [(.ref r0), (.int 0), (.int 2)]) (rest := []) (lenOf pd_6 rfl) rfl (by show 2 * 0 + _ ≤ _; exact Nat.le_of_eq rfl) (hb hby d7_23) (fun _ _ => ⟨rfl, rfl, (by decide : 1 + 1 ≤ _), (by decide : 2 + 4 ≤ _)⟩)
    dsimp only [Pt.U, Pt.locs, Pt.cells, Pt.slots] at X10 lq10 yq10 zq10 st10 hQ10
    subst lq10 yq10 zq10
    obtain ⟨bq10, kq10, rfl, Nq10, Kq10, g_bq10, szq10, Vq10⟩ := hQ10
    have N10 := Fr.app N6 Nq10
    have KH10 : Keep h0 T10.heap [] := KH6.trans Kq10 all0
    have Zn10 : n0 ≤ T10.heap.size := Nat.le_trans Zn6 Kq10.1
    have ne_r0_bq10 : r0 ≠ bq10 := Nat.ne_of_lt (Nat.lt_of_lt_of_le f14.lt szq10)
    have sz_bq10 : h0.size ≤ bq10 := Nat.le_trans KH6.1 szq10
    have ks15 := own_c ks9 st10
    have ks16 : own_R p e below (A0) (T10.setTop (mkF m 32 #[vR r0, vI 0, vI 2, vR b3, vI 0, vR bq10] [(.int 0), (.ref bq10)])) := fun t k => ks15 t (by
      refine XS.astore X10.here hx rfl (hb hby d7_26) rfl rfl (l' := #[vR r0, vI 0, vI 2, vR b3, vI 0, vR bq10]) rfl ?_
      refine XS.aload X10.here hx rfl (hb hby d7_28) rfl rfl ?_
      refine XS.iload X10.here hx rfl (hb hby d7_30) rfl ?_
      exact k)
    have f18 := own_sta_keep S7a KH10
    have f19 := own_sta_keep S7b KH10
    have f20 := own_sta_keep S7c KH10
    obtain ⟨_, _, ⟨T17, L17, k17, n17⟩, -, X17, ⟨Lc17, hQ17, lq17, yq17, zq17⟩, st17⟩ := Jvm.LawKit.callS X10 hx (y := (⟨"java/lang/StringUTF16", "getChar", "([BI)C"⟩ : MethodName)) hown (mvT hZ (own_w hw 61 rfl)) (mvT hZ (own_w hw 62 rfl)) (mvT hZ (own_w hw 40 rfl)) (mvT hZ (own_w hw 63 rfl)) (by decide) (backOf (W := 0) (rm13 l Z a0 hw [] bq10 (0 : Int32) _ (4 : Int32) _ ((y0 >>> ((0 : Int32) &&& 31)).toInt8.toInt32) ((y0 >>> ((8 : Int32) &&& 31)).toInt8.toInt32) y0 T10.heap n0 Zn10 f18 f19 f20 Vq10 ⟨by decide, by decide⟩ rfl ⟨by decide, by decide⟩ rfl (own_get _ RY0)) hZ (own_w hw 63 rfl) (own_w hw 40 rfl) (by decide) (by decide)) (g := (mkF m 32 #[vR r0, vI 0, vI 2, vR b3, vI 0, vR bq10] [(.int 0), (.ref bq10)])) rfl (by rw [hml]; rfl) (argsL := [(.ref bq10), (.int 0)]) (rest := []) (lenOf pd_11 rfl) rfl (by show 2 * 0 + _ ≤ _; exact Nat.le_of_eq rfl) (hb hby d7_32) (fun _ _ => ⟨rfl, rfl, (by decide : 2 + 0 ≤ _), (by decide : 6 + 0 ≤ _)⟩)
    dsimp only [Pt.U, Pt.locs, Pt.cells, Pt.slots] at X17 lq17 yq17 zq17 st17 hQ17
    subst lq17 yq17 zq17
    obtain ⟨rfl, Nq17, eq17⟩ := hQ17
    have N17 := Fr.app N10 Nq17
    have ks21 := own_c ks16 st17
    have ks22 : own_R p e below (A0) (T17.setTop (mkF m 56 #[vR r0, vI 0, vI 2, vR b3, vI 0, vR bq10] [(.ref bq10)])) := fun t k => ks21 t (by
      refine XS.sipush X17.here hx rfl (hb hby d7_35) ?_
      refine XS.icmpYes X17.here hx rfl (pc0 := 38) (pc' := 54) rfl (hb hby d7_38) rfl (tlt hc1).2.2.1 (by decide) (by decide) ?_
      refine XS.aload X17.here hx rfl (hb hby d7_54) rfl rfl ?_
      exact k)
    obtain ⟨fs, hr, hrun, hended, hW, hsame⟩ := X17.leave (v := some (.ref bq10)) (fun h => by rw [Bd.returns] at h; cases h) hlk
    refine ⟨_, _, kz _ (ks22 _ ?_), hrun, hended, _, _, rfl, ?_, ⟨_, rfl⟩, hW, hsame.mono (by decide) (by decide)⟩
    · exact retOut X17 hx Bd.returns rfl (Or.inr (Or.inr (Or.inr (Or.inr ⟨rfl, rfl, rfl⟩)))) (hb hby d7_56) hr
    · show Q7_2G Z r0 kr0 y0 y1 h0 n0 _ T17.heap _
      rw [eq17]
      exact ⟨_, _, _, _, _, rfl, N17, KH10, g_bq10, sz_bq10, Vq10, (Or.inr ⟨rfl, by decide, rfl, y0, by simp, hc1⟩)⟩
  · skip
    by_cases hc23 : (255 : Int32) < y1
    · skip
      have ks24 : own_R p e below (A0) (s₁.setTop (mkF m 1 #[vR r0, vI 0, vI 2, .unset, .unset, .unset] [(.int 2)])) := fun t k => k0 t (by
        refine XS.iloadN X0.here hx rfl (hb hby d7_0) rfl ?_
        exact k)
      obtain ⟨T25, h25, c25, X25, e25, E25, A25, st25⟩ := newP X0 hx hZ (own_w hw 20 rfl) e0 (g := (mkF m 1 #[vR r0, vI 0, vI 2, .unset, .unset, .unset] [(.int 2)])) rfl (hb hby d7_1) rfl (by decide) (cap := 2) (by decide) (by decide) (by decide) (by decide)
      obtain ⟨b25, g25⟩ : ∃ z, z = h0.size := ⟨_, rfl⟩
      rw [← g25] at A25 st25
      have ne_r0_b25 : r0 ≠ b25 := Nat.ne_of_lt (Nat.lt_of_lt_of_le V0.lt (Nat.le_of_eq g25.symm))
      have g_b25 : n0 ≤ b25 := Nat.le_trans Z0 (Nat.le_of_eq g25.symm)
      have sz_b25 : h0.size ≤ b25 := Nat.le_trans (Keep.refl h0 []).1 (Nat.le_of_eq g25.symm)
      have KH25 : Keep h0 h25 [] := (Keep.refl h0 []).ext E25
      have Zn25 : n0 ≤ h25.size := Nat.le_trans Z0 E25.1
      have V25 : Arv Z h25 b25 c25 .byte (2 : Int32) [(.int (0 : Int32)), (.int (0 : Int32))] (.int (0 : Int32)) := (Arv.new A25 (by decide)).pad (pad_rep [] (.int (0 : Int32)) 2)
      have ks26 := own_c ks24 st25
      have ks27 : own_R p e below (A0) (T25.setTop (mkF m 9 #[vR r0, vI 0, vI 2, vR b25, .unset, .unset] [(.int 2), (.int 0), (.ref b25), (.int 0), (.ref r0)])) := fun t k => ks26 t (by
        refine XS.astoreN X25.here hx rfl (hb hby d7_3) rfl rfl (l' := #[vR r0, vI 0, vI 2, vR b25, .unset, .unset]) rfl ?_
        refine XS.aloadN X25.here hx rfl (hb hby d7_4) rfl rfl ?_
        refine XS.iloadN X25.here hx rfl (hb hby d7_5) rfl ?_
        show Steps p.tables e below (T25.setTop (mkF m 6 #[vR r0, vI 0, vI 2, vR b25, .unset, .unset] [(.int 0), (.ref r0)])) _
        refine XS.aloadN X25.here hx rfl (hb hby d7_6) rfl rfl ?_
        refine XS.iconst X25.here hx rfl (hb hby d7_7) ?_
        refine XS.iloadN X25.here hx rfl (hb hby d7_8) rfl ?_
        exact k)
      have f29 := V0.keep KH25 nin0
      obtain ⟨_, _, ⟨T28, L28, k28, n28⟩, -, X28, ⟨Lc28, hQ28, lq28, yq28, zq28⟩, st28⟩ := Jvm.LawKit.callS X25 hx (y := (⟨"java/lang/StringUTF16", "compress", "([CI[BII)I"⟩ : MethodName)) hown (mvT hZ (own_w hw 42 rfl)) (mvT hZ (own_w hw 43 rfl)) (mvT hZ (own_w hw 40 rfl)) (mvT hZ (own_w hw 44 rfl)) (by decide) (backOf (W := 0) (rm8_2U1 l Z a0 hw [] r0 b25 _ _ y0 y1 h25 n0 Zn25 f29 V25 ne_r0_b25 g_b25 RY0 RY1 hc1 hc23) hZ (own_w hw 44 rfl) (own_w hw 40 rfl) (by decide) (by decide)) (g := (mkF m 9 #[vR r0, vI 0, vI 2, vR b25, .unset, .unset] [(.int 2), (.int 0), (.ref b25), (.int 0), (.ref r0)])) rfl (by rw [hml]; rfl) (argsL := [(.ref r0), (.int 0), (.ref b25), (.int 0), (.int 2)]) (rest := []) (lenOf pd_7 rfl) rfl (by show 2 * 0 + _ ≤ _; exact Nat.le_of_eq rfl) (hb hby d7_9) (fun _ _ => ⟨rfl, e25, (by decide : 1 + 0 ≤ _), (by decide : 2 + 0 ≤ _)⟩)
      dsimp only [Pt.U, Pt.locs, Pt.cells, Pt.slots] at X28 lq28 yq28 zq28 st28 hQ28
      subst lq28 yq28 zq28
      obtain ⟨rfl, Nq28, Kq28⟩ := hQ28
      have N28 := Fr.app N0 Nq28
      have KH28 : Keep h0 T28.heap [] := KH25.trans Kq28 (allS (Or.inr sz_b25) all0)
      have Zn28 : n0 ≤ T28.heap.size := Nat.le_trans Zn25 Kq28.1
      have ks30 := own_c ks27 st28
      have ks31 : own_R p e below (A0) (T28.setTop (mkF m 23 #[vR r0, vI 0, vI 2, vR b25, vI 1, .unset] [(.int 2), (.int 0), (.ref r0)])) := fun t k => ks30 t (by
        refine XS.istore X28.here hx rfl (hb hby d7_12) rfl (l' := #[vR r0, vI 0, vI 2, vR b25, vI 1, .unset]) rfl ?_
        refine XS.iload X28.here hx rfl (hb hby d7_14) rfl ?_
        refine XS.iloadN X28.here hx rfl (hb hby d7_16) rfl ?_
        show Steps p.tables e below (T28.setTop (mkF m 17 #[vR r0, vI 0, vI 2, vR b25, vI 1, .unset] [(.int 2), (.int 1)])) _
        refine XS.icmpNo X28.here hx rfl (hb hby d7_17) rfl (feq (by decide)).1 ?_
        refine XS.aloadN X28.here hx rfl (hb hby d7_20) rfl rfl ?_
        refine XS.iloadN X28.here hx rfl (hb hby d7_21) rfl ?_
        refine XS.iloadN X28.here hx rfl (hb hby d7_22) rfl ?_
        exact k)
      have f33 := own_sta_keep S7a KH28
      have f34 := own_sta_keep S7b KH28
      have f35 := own_sta_keep S7c KH28
      have f36 := V0.keep KH28 nin0
      obtain ⟨_, _, ⟨T32, L32, k32, n32⟩, -, X32, ⟨Lc32, hQ32, lq32, yq32, zq32⟩, st32⟩ := Jvm.LawKit.callS X28 hx (y := (⟨"java/lang/StringUTF16", "toBytes", "([CII)[B"⟩ : MethodName)) hown (mvT hZ (own_w hw 45 rfl)) (mvT hZ (own_w hw 46 rfl)) (mvT hZ (own_w hw 40 rfl)) (mvT hZ (own_w hw 47 rfl)) (by decide) (backOf (W := 0) (rm9_2 l Z a0 hw [] r0 _ y0 y1 T28.heap n0 Zn28 f33 f34 f35 f36) hZ (own_w hw 47 rfl) (own_w hw 40 rfl) (by decide) (by decide)) (g := (mkF m 23 #[vR r0, vI 0, vI 2, vR b25, vI 1, .unset] [(.int 2), (.int 0), (.ref r0)])) rfl (by rw [hml]; rfl) (argsL := [(.ref r0), (.int 0), (.int 2)]) (rest := []) (lenOf pd_6 rfl) rfl (by show 2 * 0 + _ ≤ _; exact Nat.le_of_eq rfl) (hb hby d7_23) (fun _ _ => ⟨rfl, rfl, (by decide : 1 + 1 ≤ _), (by decide : 2 + 4 ≤ _)⟩)
      dsimp only [Pt.U, Pt.locs, Pt.cells, Pt.slots] at X32 lq32 yq32 zq32 st32 hQ32
      subst lq32 yq32 zq32
      obtain ⟨bq32, kq32, rfl, Nq32, Kq32, g_bq32, szq32, Vq32⟩ := hQ32
      have N32 := Fr.app N28 Nq32
      have KH32 : Keep h0 T32.heap [] := KH28.trans Kq32 all0
      have Zn32 : n0 ≤ T32.heap.size := Nat.le_trans Zn28 Kq32.1
      have ne_r0_bq32 : r0 ≠ bq32 := Nat.ne_of_lt (Nat.lt_of_lt_of_le f36.lt szq32)
      have sz_bq32 : h0.size ≤ bq32 := Nat.le_trans KH28.1 szq32
      have ks37 := own_c ks31 st32
      have ks38 : own_R p e below (A0) (T32.setTop (mkF m 32 #[vR r0, vI 0, vI 2, vR b25, vI 1, vR bq32] [(.int 1), (.ref bq32)])) := fun t k => ks37 t (by
        refine XS.astore X32.here hx rfl (hb hby d7_26) rfl rfl (l' := #[vR r0, vI 0, vI 2, vR b25, vI 1, vR bq32]) rfl ?_
        refine XS.aload X32.here hx rfl (hb hby d7_28) rfl rfl ?_
        refine XS.iload X32.here hx rfl (hb hby d7_30) rfl ?_
        exact k)
      have f40 := own_sta_keep S7a KH32
      have f41 := own_sta_keep S7b KH32
      have f42 := own_sta_keep S7c KH32
      obtain ⟨_, _, ⟨T39, L39, k39, n39⟩, -, X39, ⟨Lc39, hQ39, lq39, yq39, zq39⟩, st39⟩ := Jvm.LawKit.callS X32 hx (y := (⟨"java/lang/StringUTF16", "getChar", "([BI)C"⟩ : MethodName)) hown (mvT hZ (own_w hw 61 rfl)) (mvT hZ (own_w hw 62 rfl)) (mvT hZ (own_w hw 40 rfl)) (mvT hZ (own_w hw 63 rfl)) (by decide) (backOf (W := 0) (rm13 l Z a0 hw [] bq32 (1 : Int32) _ (4 : Int32) _ ((y1 >>> ((0 : Int32) &&& 31)).toInt8.toInt32) ((y1 >>> ((8 : Int32) &&& 31)).toInt8.toInt32) y1 T32.heap n0 Zn32 f40 f41 f42 Vq32 ⟨by decide, by decide⟩ rfl ⟨by decide, by decide⟩ rfl (own_get _ RY1)) hZ (own_w hw 63 rfl) (own_w hw 40 rfl) (by decide) (by decide)) (g := (mkF m 32 #[vR r0, vI 0, vI 2, vR b25, vI 1, vR bq32] [(.int 1), (.ref bq32)])) rfl (by rw [hml]; rfl) (argsL := [(.ref bq32), (.int 1)]) (rest := []) (lenOf pd_11 rfl) rfl (by show 2 * 0 + _ ≤ _; exact Nat.le_of_eq rfl) (hb hby d7_32) (fun _ _ => ⟨rfl, rfl, (by decide : 2 + 0 ≤ _), (by decide : 6 + 0 ≤ _)⟩)
      dsimp only [Pt.U, Pt.locs, Pt.cells, Pt.slots] at X39 lq39 yq39 zq39 st39 hQ39
      subst lq39 yq39 zq39
      obtain ⟨rfl, Nq39, eq39⟩ := hQ39
      have N39 := Fr.app N32 Nq39
      have ks43 := own_c ks38 st39
      have ks44 : own_R p e below (A0) (T39.setTop (mkF m 56 #[vR r0, vI 0, vI 2, vR b25, vI 1, vR bq32] [(.ref bq32)])) := fun t k => ks43 t (by
        refine XS.sipush X39.here hx rfl (hb hby d7_35) ?_
        refine XS.icmpYes X39.here hx rfl (pc0 := 38) (pc' := 54) rfl (hb hby d7_38) rfl (tlt hc23).2.2.1 (by decide) (by decide) ?_
        refine XS.aload X39.here hx rfl (hb hby d7_54) rfl rfl ?_
        exact k)
      obtain ⟨fs, hr, hrun, hended, hW, hsame⟩ := X39.leave (v := some (.ref bq32)) (fun h => by rw [Bd.returns] at h; cases h) hlk
      refine ⟨_, _, kz _ (ks44 _ ?_), hrun, hended, _, _, rfl, ?_, ⟨_, rfl⟩, hW, hsame.mono (by decide) (by decide)⟩
      · exact retOut X39 hx Bd.returns rfl (Or.inr (Or.inr (Or.inr (Or.inr ⟨rfl, rfl, rfl⟩)))) (hb hby d7_56) hr
      · show Q7_2G Z r0 kr0 y0 y1 h0 n0 _ T39.heap _
        rw [eq39]
        exact ⟨_, _, _, _, _, rfl, N39, KH32, g_bq32, sz_bq32, Vq32, (Or.inr ⟨rfl, by decide, rfl, y1, by simp, hc23⟩)⟩
    · skip
      have ks45 : own_R p e below (A0) (s₁.setTop (mkF m 1 #[vR r0, vI 0, vI 2, .unset, .unset, .unset] [(.int 2)])) := fun t k => k0 t (by
        refine XS.iloadN X0.here hx rfl (hb hby d7_0) rfl ?_
        exact k)
      obtain ⟨T46, h46, c46, X46, e46, E46, A46, st46⟩ := newP X0 hx hZ (own_w hw 20 rfl) e0 (g := (mkF m 1 #[vR r0, vI 0, vI 2, .unset, .unset, .unset] [(.int 2)])) rfl (hb hby d7_1) rfl (by decide) (cap := 2) (by decide) (by decide) (by decide) (by decide)
      obtain ⟨b46, g46⟩ : ∃ z, z = h0.size := ⟨_, rfl⟩
      rw [← g46] at A46 st46
      have ne_r0_b46 : r0 ≠ b46 := Nat.ne_of_lt (Nat.lt_of_lt_of_le V0.lt (Nat.le_of_eq g46.symm))
      have g_b46 : n0 ≤ b46 := Nat.le_trans Z0 (Nat.le_of_eq g46.symm)
      have sz_b46 : h0.size ≤ b46 := Nat.le_trans (Keep.refl h0 []).1 (Nat.le_of_eq g46.symm)
      have KH46 : Keep h0 h46 [] := (Keep.refl h0 []).ext E46
      have Zn46 : n0 ≤ h46.size := Nat.le_trans Z0 E46.1
      have V46 : Arv Z h46 b46 c46 .byte (2 : Int32) [(.int (0 : Int32)), (.int (0 : Int32))] (.int (0 : Int32)) := (Arv.new A46 (by decide)).pad (pad_rep [] (.int (0 : Int32)) 2)
      have ks47 := own_c ks45 st46
      have ks48 : own_R p e below (A0) (T46.setTop (mkF m 9 #[vR r0, vI 0, vI 2, vR b46, .unset, .unset] [(.int 2), (.int 0), (.ref b46), (.int 0), (.ref r0)])) := fun t k => ks47 t (by
        refine XS.astoreN X46.here hx rfl (hb hby d7_3) rfl rfl (l' := #[vR r0, vI 0, vI 2, vR b46, .unset, .unset]) rfl ?_
        refine XS.aloadN X46.here hx rfl (hb hby d7_4) rfl rfl ?_
        refine XS.iloadN X46.here hx rfl (hb hby d7_5) rfl ?_
        show Steps p.tables e below (T46.setTop (mkF m 6 #[vR r0, vI 0, vI 2, vR b46, .unset, .unset] [(.int 0), (.ref r0)])) _
        refine XS.aloadN X46.here hx rfl (hb hby d7_6) rfl rfl ?_
        refine XS.iconst X46.here hx rfl (hb hby d7_7) ?_
        refine XS.iloadN X46.here hx rfl (hb hby d7_8) rfl ?_
        exact k)
      have f50 := V0.keep KH46 nin0
      obtain ⟨_, _, ⟨T49, L49, k49, n49⟩, -, X49, ⟨Lc49, hQ49, lq49, yq49, zq49⟩, st49⟩ := Jvm.LawKit.callS X46 hx (y := (⟨"java/lang/StringUTF16", "compress", "([CI[BII)I"⟩ : MethodName)) hown (mvT hZ (own_w hw 42 rfl)) (mvT hZ (own_w hw 43 rfl)) (mvT hZ (own_w hw 40 rfl)) (mvT hZ (own_w hw 44 rfl)) (by decide) (backOf (W := 0) (rm8_2L l Z a0 hw [] r0 b46 _ _ y0 y1 h46 n0 Zn46 f50 V46 ne_r0_b46 g_b46 RY0 RY1 hc1 hc23) hZ (own_w hw 44 rfl) (own_w hw 40 rfl) (by decide) (by decide)) (g := (mkF m 9 #[vR r0, vI 0, vI 2, vR b46, .unset, .unset] [(.int 2), (.int 0), (.ref b46), (.int 0), (.ref r0)])) rfl (by rw [hml]; rfl) (argsL := [(.ref r0), (.int 0), (.ref b46), (.int 0), (.int 2)]) (rest := []) (lenOf pd_7 rfl) rfl (by show 2 * 0 + _ ≤ _; exact Nat.le_of_eq rfl) (hb hby d7_9) (fun _ _ => ⟨rfl, e46, (by decide : 1 + 0 ≤ _), (by decide : 2 + 0 ≤ _)⟩)
      dsimp only [Pt.U, Pt.locs, Pt.cells, Pt.slots] at X49 lq49 yq49 zq49 st49 hQ49
      subst lq49 yq49 zq49
      obtain ⟨rfl, Nq49, Kq49, Vq49⟩ := hQ49
      have N49 := Fr.app N0 Nq49
      have KH49 : Keep h0 T49.heap [] := KH46.trans Kq49 (allS (Or.inr sz_b46) all0)
      have Zn49 : n0 ≤ T49.heap.size := Nat.le_trans Zn46 Kq49.1
      have ks51 := own_c ks48 st49
      have ks52 : own_R p e below (A0) (T49.setTop (mkF m 58 #[vR r0, vI 0, vI 2, vR b46, vI 2, .unset] [(.ref b46)])) := fun t k => ks51 t (by
        refine XS.istore X49.here hx rfl (hb hby d7_12) rfl (l' := #[vR r0, vI 0, vI 2, vR b46, vI 2, .unset]) rfl ?_
        refine XS.iload X49.here hx rfl (hb hby d7_14) rfl ?_
        refine XS.iloadN X49.here hx rfl (hb hby d7_16) rfl ?_
        show Steps p.tables e below (T49.setTop (mkF m 17 #[vR r0, vI 0, vI 2, vR b46, vI 2, .unset] [(.int 2), (.int 2)])) _
        refine XS.icmpYes X49.here hx rfl (pc0 := 17) (pc' := 57) rfl (hb hby d7_17) rfl (teq (by decide)).1 (by decide) (by decide) ?_
        refine XS.aloadN X49.here hx rfl (hb hby d7_57) rfl rfl ?_
        exact k)
      obtain ⟨fs, hr, hrun, hended, hW, hsame⟩ := X49.leave (v := some (.ref b46)) (fun h => by rw [Bd.returns] at h; cases h) hlk
      refine ⟨_, _, kz _ (ks52 _ ?_), hrun, hended, _, _, rfl, ?_, ⟨_, rfl⟩, hW, hsame.mono (by decide) (by decide)⟩
      · exact retOut X49 hx Bd.returns rfl (Or.inr (Or.inr (Or.inr (Or.inr ⟨rfl, rfl, rfl⟩)))) (hb hby d7_58) hr
      · show Q7_2G Z r0 kr0 y0 y1 h0 n0 _ T49.heap _
        exact ⟨_, _, _, _, _, rfl, N49, KH49, g_b46, sz_b46, Vq49, (Or.inl ⟨rfl, by decide, rfl, (own_ac hc1 (own_ac hc23 own_an))⟩)⟩
theorem d3_0 : decode jdk_42_method_149_code 0 = .ok (.aload_n 0, 1) := by decide +kernel
theorem d3_1 : decode jdk_42_method_149_code 1 = .ok (.invokespecial 1, 3) := by decide +kernel
theorem d3_4 : decode jdk_42_method_149_code 4 = .ok (.iload_n 3, 1) := by decide +kernel
theorem d3_5 : decode jdk_42_method_149_code 5 = .ok (.ifCond .ne 22, 3) := by decide +kernel
theorem d3_27 : decode jdk_42_method_149_code 27 = .ok (.getstatic 38, 3) := by decide +kernel
theorem d3_30 : decode jdk_42_method_149_code 30 = .ok (.ifCond .eq 28, 3) := by decide +kernel
theorem d3_33 : decode jdk_42_method_149_code 33 = .ok (.aload_n 1, 1) := by decide +kernel
theorem d3_34 : decode jdk_42_method_149_code 34 = .ok (.iload_n 2, 1) := by decide +kernel
theorem d3_35 : decode jdk_42_method_149_code 35 = .ok (.iload_n 3, 1) := by decide +kernel
theorem d3_36 : decode jdk_42_method_149_code 36 = .ok (.invokestatic 177, 3) := by decide +kernel
theorem d3_39 : decode jdk_42_method_149_code 39 = .ok (.astore 5, 2) := by decide +kernel
theorem d3_41 : decode jdk_42_method_149_code 41 = .ok (.aload_n 0, 1) := by decide +kernel
theorem d3_42 : decode jdk_42_method_149_code 42 = .ok (.aload 5, 2) := by decide +kernel
theorem d3_44 : decode jdk_42_method_149_code 44 = .ok (.iload_n 3, 1) := by decide +kernel
theorem d3_45 : decode jdk_42_method_149_code 45 = .ok (.invokestatic 47, 3) := by decide +kernel
theorem d3_48 : decode jdk_42_method_149_code 48 = .ok (.putfield 15, 3) := by decide +kernel
theorem d3_51 : decode jdk_42_method_149_code 51 = .ok (.aload_n 0, 1) := by decide +kernel
theorem d3_52 : decode jdk_42_method_149_code 52 = .ok (.aload 5, 2) := by decide +kernel
theorem d3_54 : decode jdk_42_method_149_code 54 = .ok (.putfield 9, 3) := by decide +kernel
theorem d3_57 : decode jdk_42_method_149_code 57 = .ok (.return_, 1) := by decide +kernel
theorem pn_3 : plainName "java/lang/String" = true := by first | (simp [plainName, overriddenIn]; done) | decide +kernel
theorem pd_12 : parseMethodDescriptor "([BI)B" = some ⟨[(.array .byte), .int], some .byte⟩ := by decide +kernel
theorem ef_3_2G (m : MethodId) (x0 : Addr) (x1 : Addr) (x2 : Int32) (x3 : Int32) : entryFrame m #[(.ref x0), (.ref x1), (.int x2), (.int x3), .null] 6 = mkF m 0 #[.val (.ref x0), .val (.ref x1), .val (.int x2), .val (.int x3), .val .null, .unset] [] := by first | (simp [entryFrame, mkF, argsToLocals, Value.category]; done) | rfl
def Q3_2G (Z : State) (r0 : Addr) (r1 : Addr) (y9 : Int32) (kr1 : ClassId) (y0 : Int32) (y1 : Int32) (h0 : Heap) (n0 : Nat) (v : Option Value) (h : Heap) (L : List Loc) : Prop := v = none ∧ Fr n0 L ∧ Keep h0 h [r0] ∧ ∃ (t : Addr) (kt : ClassId) (k z : Int32) (vs : List Value), own_Cd Z h r0 k ∧ own_Fv Z h r0 t ∧ Arv Z h t kt .byte z vs (.int 0) ∧ own_sh 2 k z vs [y0, y1]
set_option maxRecDepth 65536 in
set_option maxHeartbeats 40000000 in
theorem rm3_2G (l : Launch) (Z : State) (a0 : Array Value) (hw : ∀ d ∈ tables_1, d.before a0 Z = true) (ws : List Jvm.Cond) (r0 : Addr) (r1 : Addr) (y9 : Int32) (kr1 : ClassId) (y0 : Int32) (y1 : Int32) (h0 : Heap) (n0 : Nat) (Z0 : n0 ≤ h0.size) (S9 : own_S9 Z h0 y9) (P9 : ¬ y9 = (0 : Int32)) (S7a : own_S7a Z h0) (S7b : own_S7b Z h0) (S7c : own_S7c Z h0) (E0 : Exa Z h0 r0 "java/lang/String") (Cd0 : own_Cd Z h0 r0 0) (F0 : Fld Z h0 r0 "java/lang/String" "value" "[B" .null) (g_r0 : n0 ≤ r0) (n01 : r0 ≠ r1) (V1 : Arv Z h0 r1 kr1 .char (2 : Int32) [(.int y0), (.int y1)] (.int 0)) (RY0 : y0.toUInt32.toUInt16.toUInt32.toInt32 = y0) (RY1 : y1.toUInt32.toUInt16.toUInt32.toInt32 = y1) :
    MetFree l (⟨"java/lang/String", "<init>", "([CIILjava/lang/Void;)V"⟩ : MethodName) (head1 (Jvm.Cond.code (⟨"java/lang/String", "<init>", "([CIILjava/lang/Void;)V"⟩ : MethodName) jdk_42_method_149_code 6 none :: ws) ({ frames := 4, cells := 2, slots := 6, locals := 57 } : Room)) (fun a U => a = #[(.ref r0), (.ref r1), (.int 0), (.int 2), .null] ∧ Z.Warmed39 U.vm ∧ U.heap = h0) (fun _ _ _ _ _ => True) (fun _ U o U' => ∃ v L, o = .returned v ∧ Q3_2G Z r0 r1 y9 kr1 y0 y1 h0 n0 v U'.heap L ∧ FrameEnd U o U' L ({ frames := 4, cells := 2, slots := 6, locals := 57 } : Room).cells ({ frames := 4, cells := 2, slots := 6, locals := 57 } : Room).slots) := by
  refine MetFree.of_bodySF (plainFor_of_name pn_3) hisR ?_
  intro p e s m args below meth c s₁ Bd hml0 hP hK
  obtain ⟨rfl, hZ, hh⟩ := hP
  have hx := Bd.exec
  have hby := Bd.bytes
  have hml : c.maxLocals = 6 := hml0
  have hown : s.vm.findClass "java/lang/String" = some m.cls := findClass_of_methodNamed Bd.named
  have hnm := (name_of_methodNamed Bd.named Bd.method).1
  have hlk : meth.locks = false := by first | exact BodyLoose.notSynchronized Bd | exact Body.notSynchronized Bd
  have X0 : Stand p l e ({ frames := 4, cells := 2, slots := 6, locals := 57 } : Room) s m #[(.ref r0), (.ref r1), (.int 0), (.int 2), .null] below meth c s₁ [] 0 0 := Stand.of_body Bd
  have e0 : s₁.heap = h0 := by rw [← hh, Bd.state]; rfl
  have N0 := Fr.nil n0
  have k0 : own_R p e below (s₁.setTop (entryFrame m #[(.ref r0), (.ref r1), (.int 0), (.int 2), .null] 6)) (s₁.setTop (mkF m 0 #[vR r0, vR r1, vI 0, vI 2, .val .null, .unset] [])) := fun t k => castTop (ef_3_2G m r0 r1 (0 : Int32) (2 : Int32)) k
  obtain ⟨A0, hA0⟩ : ∃ z, z = s₁.setTop (entryFrame m #[(.ref r0), (.ref r1), (.int 0), (.int 2), .null] 6) := ⟨_, rfl⟩
  rw [← hA0] at k0
  have kz : ∀ t, Steps p.tables e below A0 t → Steps p.tables e below (s₁.setTop (entryFrame m #[(.ref r0), (.ref r1), (.int 0), (.int 2), .null] 6)) t := fun t q => hA0 ▸ q
  have ks1 : own_R p e below (A0) (s₁.setTop (mkF m 1 #[vR r0, vR r1, vI 0, vI 2, .val .null, .unset] [(.ref r0)])) := fun t k => k0 t (by
    refine XS.aloadN X0.here hx rfl (hb hby d3_0) rfl rfl ?_
    exact k)
  obtain ⟨T2, X2, e2, st2⟩ := initO X0 hx hZ hown (own_w hw 16 rfl) (own_w hw 17 rfl) (own_w hw 18 rfl) e0 (g := (mkF m 1 #[vR r0, vR r1, vI 0, vI 2, .val .null, .unset] [(.ref r0)])) rfl (by rw [hml]; rfl) rfl (hb hby d3_1) (by decide) (W := 0) (by show 2 * 0 + _ ≤ _; exact Nat.le_of_eq rfl) (by decide)
  have ks3 := own_c ks1 st2
  have ks4 : own_R p e below (A0) (T2.setTop (mkF m 27 #[vR r0, vR r1, vI 0, vI 2, .val .null, .unset] [])) := fun t k => ks3 t (by
    refine XS.iloadN X2.here hx rfl (hb hby d3_4) rfl ?_
    refine XS.ifYes X2.here hx rfl (pc0 := 5) (pc' := 27) rfl (hb hby d3_5) rfl ((if0 _ _).trans (feq (by decide)).2) (by decide) (by decide) ?_
    exact k)
  obtain ⟨T5, X5, e5, st5⟩ := getS2 X2 hx hZ hown (host := "") (Or.inl (own_w hw 37 rfl)) Via.refl e2 S9 (g := (mkF m 27 #[vR r0, vR r1, vI 0, vI 2, .val .null, .unset] [])) rfl (hb hby d3_27)
  have ks6 := own_c ks4 st5
  have ks7 : own_R p e below (A0) (T5.setTop (mkF m 36 #[vR r0, vR r1, vI 0, vI 2, .val .null, .unset] [(.int 2), (.int 0), (.ref r1)])) := fun t k => ks6 t (by
    refine XS.ifNo X5.here hx rfl (hb hby d3_30) rfl ((if0 _ _).trans (feq P9).1) ?_
    refine XS.aloadN X5.here hx rfl (hb hby d3_33) rfl rfl ?_
    refine XS.iloadN X5.here hx rfl (hb hby d3_34) rfl ?_
    show Steps p.tables e below (T5.setTop (mkF m 35 #[vR r0, vR r1, vI 0, vI 2, .val .null, .unset] [(.int 0), (.ref r1)])) _
    refine XS.iloadN X5.here hx rfl (hb hby d3_35) rfl ?_
    exact k)
  obtain ⟨_, _, ⟨T8, L8, k8, n8⟩, -, X8, ⟨Lc8, hQ8, lq8, yq8, zq8⟩, st8⟩ := Jvm.LawKit.callS X5 hx (y := (⟨"java/lang/StringUTF16", "compress", "([CII)[B"⟩ : MethodName)) hown (mvT hZ (own_w hw 38 rfl)) (mvT hZ (own_w hw 39 rfl)) (mvT hZ (own_w hw 40 rfl)) (mvT hZ (own_w hw 41 rfl)) (by decide) (backOf (W := 0) (rm7_2G l Z a0 hw [] r1 _ y0 y1 h0 n0 Z0 S7a S7b S7c V1 RY0 RY1) hZ (own_w hw 41 rfl) (own_w hw 40 rfl) (by decide) (by decide)) (g := (mkF m 36 #[vR r0, vR r1, vI 0, vI 2, .val .null, .unset] [(.int 2), (.int 0), (.ref r1)])) rfl (by rw [hml]; rfl) (argsL := [(.ref r1), (.int 0), (.int 2)]) (rest := []) (lenOf pd_6 rfl) rfl (by show 2 * 0 + _ ≤ _; exact Nat.le_of_eq rfl) (hb hby d3_36) (fun _ _ => ⟨rfl, e5, (by decide : 0 + 2 ≤ _), (by decide : 0 + 6 ≤ _)⟩)
  dsimp only [Pt.U, Pt.locs, Pt.cells, Pt.slots] at X8 lq8 yq8 zq8 st8 hQ8
  subst lq8 yq8 zq8
  obtain ⟨bq8, kq8, kd8, zz8, vv8, rfl, Nq8, Kq8, g_bq8, szq8, Vq8, hs8⟩ := hQ8
  have N8 := Fr.app N0 Nq8
  have KH8 : Keep h0 T8.heap [r0] := (Keep.refl h0 [r0]).trans Kq8 all0
  have Zn8 : n0 ≤ T8.heap.size := Nat.le_trans Z0 Kq8.1
  have ne_r1_bq8 : r1 ≠ bq8 := Nat.ne_of_lt (Nat.lt_of_lt_of_le V1.lt szq8)
  have ne_r0_bq8 : r0 ≠ bq8 := Nat.ne_of_lt (Nat.lt_of_lt_of_le E0.lt szq8)
  have sz_bq8 : h0.size ≤ bq8 := Nat.le_trans (Keep.refl h0 [r0]).1 szq8
  have ks9 := own_c ks7 st8
  have ks10 : own_R p e below (A0) (T8.setTop (mkF m 45 #[vR r0, vR r1, vI 0, vI 2, .val .null, vR bq8] [(.int 2), (.ref bq8), (.ref r0)])) := fun t k => ks9 t (by
    refine XS.astore X8.here hx rfl (hb hby d3_39) rfl rfl (l' := #[vR r0, vR r1, vI 0, vI 2, .val .null, vR bq8]) rfl ?_
    refine XS.aloadN X8.here hx rfl (hb hby d3_41) rfl rfl ?_
    refine XS.aload X8.here hx rfl (hb hby d3_42) rfl rfl ?_
    show Steps p.tables e below (T8.setTop (mkF m 44 #[vR r0, vR r1, vI 0, vI 2, .val .null, vR bq8] [(.ref bq8), (.ref r0)])) _
    refine XS.iloadN X8.here hx rfl (hb hby d3_44) rfl ?_
    exact k)
  obtain ⟨_, _, ⟨T11, L11, k11, n11⟩, -, X11, ⟨Lc11, hQ11, lq11, yq11, zq11⟩, st11⟩ := Jvm.LawKit.callS X8 hx (y := (⟨"java/lang/StringUTF16", "coderFromArrayLen", "([BI)B"⟩ : MethodName)) hown (mvT hZ (own_w hw 64 rfl)) (mvT hZ (own_w hw 65 rfl)) (mvT hZ (own_w hw 40 rfl)) (mvT hZ (own_w hw 66 rfl)) (by decide) (backOf (W := 1) (rm14 l Z a0 hw [] bq8 (2 : Int32) _ zz8 _ kd8 T8.heap n0 Zn8 Vq8 (own_sh_ck2 hs8)) hZ (own_w hw 66 rfl) (own_w hw 40 rfl) (by decide) (by decide)) (g := (mkF m 45 #[vR r0, vR r1, vI 0, vI 2, .val .null, vR bq8] [(.int 2), (.ref bq8), (.ref r0)])) rfl (by rw [hml]; rfl) (argsL := [(.ref bq8), (.int 2)]) (rest := [(.ref r0)]) (lenOf pd_12 rfl) rfl (by show 2 * 0 + _ ≤ _; exact Nat.le_of_eq rfl) (hb hby d3_45) (fun _ _ => ⟨rfl, rfl, (by decide : 2 + 0 ≤ _), (by decide : 6 + 0 ≤ _)⟩)
  dsimp only [Pt.U, Pt.locs, Pt.cells, Pt.slots] at X11 lq11 yq11 zq11 st11 hQ11
  subst lq11 yq11 zq11
  obtain ⟨rfl, Nq11, eq11⟩ := hQ11
  have N11 := Fr.app N8 Nq11
  have ks12 := own_c ks10 st11
  have f13 := E0.keep KH8
  have f14 := (Cd0.keep Kq8 nin0)
  obtain ⟨T15, h15, X15, e15, W15, st15⟩ := putFN X11 hx hZ hown (own_w hw 26 rfl) Via.refl eq11 f14 f13 (Or.inr ⟨(own_w hw 22 rfl), rfl, hnm⟩) (own_w hw 6 rfl) (ty := .byte) (v' := (.int (kd8.toInt8.toInt32))) (by decide) rfl (fits_nar_byte _) (g := (mkF m 48 #[vR r0, vR r1, vI 0, vI 2, .val .null, vR bq8] [(.int kd8), (.ref r0)])) rfl rfl (hb hby d3_48)
  have Fw15 := f14.same W15
  have KH15 : Keep h0 h15 [r0] := KH8.wr W15 (Or.inl (List.mem_of_getElem? (i := 0) rfl))
  have Zn15 : n0 ≤ h15.size := Nat.le_trans Zn8 (Keep.of_wr W15).1
  have N15 := Fr.snoc X15 N11 g_r0
  have ks16 := own_c ks12 st15
  have ks17 : own_R p e below (A0) (T15.setTop (mkF m 54 #[vR r0, vR r1, vI 0, vI 2, .val .null, vR bq8] [(.ref bq8), (.ref r0)])) := fun t k => ks16 t (by
    refine XS.aloadN X15.here hx rfl (hb hby d3_51) rfl rfl ?_
    refine XS.aload X15.here hx rfl (hb hby d3_52) rfl rfl ?_
    exact k)
  have f18 := E0.keep KH15
  have f19 := ((F0.keep Kq8 nin0).other W15 (Or.inr (slot_ne (Or.inr (own_w hw 21 rfl)) (Or.inr (own_w hw 22 rfl)) (by decide) (t := (.array .byte)) (t' := .byte) (by decide) (by decide))))
  obtain ⟨T20, h20, X20, e20, W20, st20⟩ := putF X15 hx hZ hown (host := "") (Or.inl (own_w hw 25 rfl)) Via.refl e15 f19 f18 (Or.inr ⟨(own_w hw 21 rfl), rfl, hnm⟩) (own_w hw 6 rfl) (ty := (.array .byte)) (by decide) rfl rfl (g := (mkF m 54 #[vR r0, vR r1, vI 0, vI 2, .val .null, vR bq8] [(.ref bq8), (.ref r0)])) rfl rfl (hb hby d3_54)
  have Fw20 := f19.same W20
  have KH20 : Keep h0 h20 [r0] := KH15.wr W20 (Or.inl (List.mem_of_getElem? (i := 0) rfl))
  have Zn20 : n0 ≤ h20.size := Nat.le_trans Zn15 (Keep.of_wr W20).1
  have N20 := Fr.snoc X20 N15 g_r0
  have ks21 := own_c ks17 st20
  obtain ⟨fs, hr, hrun, hended, hW, hsame⟩ := X20.leave (v := none) (fun _ => rfl) hlk
  refine ⟨_, _, kz _ (ks21 _ ?_), hrun, hended, _, _, rfl, ?_, ⟨_, rfl⟩, hW, hsame.mono (by decide) (by decide)⟩
  · exact X20.returnOut hx Bd.returns (hb hby d3_57) hr
  · show Q3_2G Z r0 r1 y9 kr1 y0 y1 h0 n0 _ T20.heap _
    rw [e20]
    have f22 := (Fw15.other W20 (Or.inr (slot_ne (Or.inr (own_w hw 22 rfl)) (Or.inr (own_w hw 21 rfl)) (by decide) (t := .byte) (t' := (.array .byte)) (by decide) (by decide))))
    rw [own_sh_k hs8] at f22
    have f23 := ((Vq8.other W15 (Ne.symm ne_r0_bq8)).other W20 (Ne.symm ne_r0_bq8))
    exact ⟨rfl, N20, KH20, _, _, _, _, _, f22, Fw20, f23, hs8⟩
theorem d2_0 : decode jdk_42_method_3_code 0 = .ok (.aload_n 0, 1) := by decide +kernel
theorem d2_1 : decode jdk_42_method_3_code 1 = .ok (.aload_n 1, 1) := by decide +kernel
theorem d2_2 : decode jdk_42_method_3_code 2 = .ok (.iconst 0, 1) := by decide +kernel
theorem d2_3 : decode jdk_42_method_3_code 3 = .ok (.aload_n 1, 1) := by decide +kernel
theorem d2_4 : decode jdk_42_method_3_code 4 = .ok (.arraylength, 1) := by decide +kernel
theorem d2_5 : decode jdk_42_method_3_code 5 = .ok (.aconst_null, 1) := by decide +kernel
theorem d2_6 : decode jdk_42_method_3_code 6 = .ok (.invokespecial 27, 3) := by decide +kernel
theorem d2_9 : decode jdk_42_method_3_code 9 = .ok (.return_, 1) := by decide +kernel
theorem pn_2 : plainName "java/lang/String" = true := by first | (simp [plainName, overriddenIn]; done) | decide +kernel
theorem pd_2 : parseMethodDescriptor "([CIILjava/lang/Void;)V" = some ⟨[(.array .char), .int, .int, (.object "java/lang/Void")], none⟩ := by decide +kernel
theorem ef_2_2G (m : MethodId) (x0 : Addr) (x1 : Addr) : entryFrame m #[(.ref x0), (.ref x1)] 2 = mkF m 0 #[.val (.ref x0), .val (.ref x1)] [] := by first | (simp [entryFrame, mkF, argsToLocals, Value.category]; done) | rfl
def Q2_2G (Z : State) (r0 : Addr) (r1 : Addr) (y9 : Int32) (kr1 : ClassId) (y0 : Int32) (y1 : Int32) (h0 : Heap) (n0 : Nat) (v : Option Value) (h : Heap) (L : List Loc) : Prop := v = none ∧ Fr n0 L ∧ Keep h0 h [r0] ∧ ∃ (t : Addr) (kt : ClassId) (k z : Int32) (vs : List Value), own_Cd Z h r0 k ∧ own_Fv Z h r0 t ∧ Arv Z h t kt .byte z vs (.int 0) ∧ own_sh 2 k z vs [y0, y1]
set_option maxRecDepth 65536 in
set_option maxHeartbeats 40000000 in
theorem rm2_2G (l : Launch) (Z : State) (a0 : Array Value) (hw : ∀ d ∈ tables_1, d.before a0 Z = true) (ws : List Jvm.Cond) (r0 : Addr) (r1 : Addr) (y9 : Int32) (kr1 : ClassId) (y0 : Int32) (y1 : Int32) (h0 : Heap) (n0 : Nat) (Z0 : n0 ≤ h0.size) (S9 : own_S9 Z h0 y9) (P9 : ¬ y9 = (0 : Int32)) (S7a : own_S7a Z h0) (S7b : own_S7b Z h0) (S7c : own_S7c Z h0) (E0 : Exa Z h0 r0 "java/lang/String") (Cd0 : own_Cd Z h0 r0 0) (F0 : Fld Z h0 r0 "java/lang/String" "value" "[B" .null) (g_r0 : n0 ≤ r0) (n01 : r0 ≠ r1) (V1 : Arv Z h0 r1 kr1 .char (2 : Int32) [(.int y0), (.int y1)] (.int 0)) (RY0 : y0.toUInt32.toUInt16.toUInt32.toInt32 = y0) (RY1 : y1.toUInt32.toUInt16.toUInt32.toInt32 = y1) :
    MetFree l (⟨"java/lang/String", "<init>", "([C)V"⟩ : MethodName) (head1 (Jvm.Cond.code (⟨"java/lang/String", "<init>", "([C)V"⟩ : MethodName) jdk_42_method_3_code 2 none :: ws) ({ frames := 5, cells := 2, slots := 6, locals := 74 } : Room)) (fun a U => a = #[(.ref r0), (.ref r1)] ∧ Z.Warmed39 U.vm ∧ U.heap = h0) (fun _ _ _ _ _ => True) (fun _ U o U' => ∃ v L, o = .returned v ∧ Q2_2G Z r0 r1 y9 kr1 y0 y1 h0 n0 v U'.heap L ∧ FrameEnd U o U' L ({ frames := 5, cells := 2, slots := 6, locals := 74 } : Room).cells ({ frames := 5, cells := 2, slots := 6, locals := 74 } : Room).slots) := by
  refine MetFree.of_bodySF (plainFor_of_name pn_2) hisR ?_
  intro p e s m args below meth c s₁ Bd hml0 hP hK
  obtain ⟨rfl, hZ, hh⟩ := hP
  have hx := Bd.exec
  have hby := Bd.bytes
  have hml : c.maxLocals = 2 := hml0
  have hown : s.vm.findClass "java/lang/String" = some m.cls := findClass_of_methodNamed Bd.named
  have hnm := (name_of_methodNamed Bd.named Bd.method).1
  have hlk : meth.locks = false := by first | exact BodyLoose.notSynchronized Bd | exact Body.notSynchronized Bd
  have X0 : Stand p l e ({ frames := 5, cells := 2, slots := 6, locals := 74 } : Room) s m #[(.ref r0), (.ref r1)] below meth c s₁ [] 0 0 := Stand.of_body Bd
  have e0 : s₁.heap = h0 := by rw [← hh, Bd.state]; rfl
  have N0 := Fr.nil n0
  have k0 : own_R p e below (s₁.setTop (entryFrame m #[(.ref r0), (.ref r1)] 2)) (s₁.setTop (mkF m 0 #[vR r0, vR r1] [])) := fun t k => castTop (ef_2_2G m r0 r1) k
  obtain ⟨A0, hA0⟩ : ∃ z, z = s₁.setTop (entryFrame m #[(.ref r0), (.ref r1)] 2) := ⟨_, rfl⟩
  rw [← hA0] at k0
  have kz : ∀ t, Steps p.tables e below A0 t → Steps p.tables e below (s₁.setTop (entryFrame m #[(.ref r0), (.ref r1)] 2)) t := fun t q => hA0 ▸ q
  have ks1 : own_R p e below (A0) (s₁.setTop (mkF m 4 #[vR r0, vR r1] [(.ref r1), (.int 0), (.ref r1), (.ref r0)])) := fun t k => k0 t (by
    refine XS.aloadN X0.here hx rfl (hb hby d2_0) rfl rfl ?_
    refine XS.aloadN X0.here hx rfl (hb hby d2_1) rfl rfl ?_
    refine XS.iconst X0.here hx rfl (hb hby d2_2) ?_
    show Steps p.tables e below (s₁.setTop (mkF m 3 #[vR r0, vR r1] [(.int 0), (.ref r1), (.ref r0)])) _
    refine XS.aloadN X0.here hx rfl (hb hby d2_3) rfl rfl ?_
    exact k)
  obtain ⟨cl2, Ar2, qa2, S2, Na2, Ha2, Ga2⟩ := id V1
  have ks3 : own_R p e below (A0) (s₁.setTop (mkF m 6 #[vR r0, vR r1] [.null, (.int 2), (.int 0), (.ref r1), (.ref r0)])) := fun t k => ks1 t (by
    refine X0.arraylength hx (by rw [e0]; exact Ar2.1) (State.isArrayOf_alike hZ.alike Ar2.2.1) (g := (mkF m 4 #[vR r0, vR r1] [(.ref r1), (.int 0), (.ref r1), (.ref r0)])) rfl rfl (hb hby d2_4) _ ?_
    rw [len_of S2 Na2]
    refine XS.aconstNull X0.here hx rfl (hb hby d2_5) ?_
    exact k)
  obtain ⟨_, _, ⟨T4, L4, k4, n4⟩, -, X4, ⟨Lc4, hQ4, lq4, yq4, zq4⟩, st4⟩ := X0.specialBack hx (y := (⟨"java/lang/String", "<init>", "([CIILjava/lang/Void;)V"⟩ : MethodName)) rfl hown (mvT hZ (own_w hw 12 rfl)) (mvT hZ (own_w hw 13 rfl)) (mvT hZ (own_w hw 15 rfl)) (by decide) (backOf (W := 0) (rm3_2G l Z a0 hw [] r0 r1 y9 _ y0 y1 h0 n0 Z0 S9 P9 S7a S7b S7c E0 Cd0 F0 g_r0 n01 V1 RY0 RY1) hZ (own_w hw 15 rfl) (own_w hw 7 rfl) (by decide) (by decide)) (g := (mkF m 6 #[vR r0, vR r1] [.null, (.int 2), (.int 0), (.ref r1), (.ref r0)])) rfl (by rw [hml]; rfl) (Steps.refl _) (a := r0) (argsL := [(.ref r1), (.int 0), (.int 2), .null]) (rest := []) (lenOf pd_2 rfl) rfl (by show 2 * 0 + _ ≤ _; exact Nat.le_of_eq rfl) (hb hby d2_6) (fun _ _ => ⟨rfl, e0, (by decide : 0 + 2 ≤ _), (by decide : 0 + 6 ≤ _)⟩)
  dsimp only [Pt.U, Pt.locs, Pt.cells, Pt.slots] at X4 lq4 yq4 zq4 st4 hQ4
  subst lq4 yq4 zq4
  obtain ⟨rfl, Nq4, Kq4, tq4, kq4, kd4, zz4, vv4, Fc4, Fv4, Vq4, hs4⟩ := hQ4
  have N4 := Fr.app N0 Nq4
  have KH4 : Keep h0 T4.heap [r0] := (Keep.refl h0 [r0]).trans Kq4 (allS (Or.inl (List.mem_of_getElem? (i := 0) rfl)) all0)
  have Zn4 : n0 ≤ T4.heap.size := Nat.le_trans Z0 Kq4.1
  have ks5 := own_ct ks3 st4
  obtain ⟨fs, hr, hrun, hended, hW, hsame⟩ := X4.leave (v := none) (fun _ => rfl) hlk
  refine ⟨_, _, kz _ (ks5 _ ?_), hrun, hended, _, _, rfl, ?_, ⟨_, rfl⟩, hW, hsame.mono (by decide) (by decide)⟩
  · exact X4.returnOut hx Bd.returns (hb hby d2_9) hr
  · show Q2_2G Z r0 r1 y9 kr1 y0 y1 h0 n0 _ T4.heap _
    exact ⟨rfl, N4, KH4, _, _, _, _, _, Fc4, Fv4, Vq4, hs4⟩
theorem ef_11_3 (m : MethodId) (x0 : Int32) : entryFrame m #[(.int x0)] 1 = mkF m 0 #[.val (.int x0)] [] := by first | (simp [entryFrame, mkF, argsToLocals, Value.category]; done) | rfl
def Q11_3 (Z : State)  (h0 : Heap) (n0 : Nat) (v : Option Value) (h : Heap) (L : List Loc) : Prop := v = some (.int (6 : Int32)) ∧ Fr n0 L ∧ h = h0
set_option maxRecDepth 65536 in
set_option maxHeartbeats 40000000 in
theorem rm11_3 (l : Launch) (Z : State) (a0 : Array Value) (hw : ∀ d ∈ tables_1, d.before a0 Z = true) (ws : List Jvm.Cond)  (h0 : Heap) (n0 : Nat) (Z0 : n0 ≤ h0.size) :
    MetFree l (⟨"java/lang/StringUTF16", "newBytesLength", "(I)I"⟩ : MethodName) (head1 (Jvm.Cond.code (⟨"java/lang/StringUTF16", "newBytesLength", "(I)I"⟩ : MethodName) jdk_52_method_3_code 1 (some .int) :: ws) ({ frames := 0, cells := 0, slots := 0, locals := 0 } : Room)) (fun a U => a = #[(.int 3)] ∧ Z.Warmed39 U.vm ∧ U.heap = h0) (fun _ _ _ _ _ => True) (fun _ U o U' => ∃ v L, o = .returned v ∧ Q11_3 Z  h0 n0 v U'.heap L ∧ FrameEnd U o U' L ({ frames := 0, cells := 0, slots := 0, locals := 0 } : Room).cells ({ frames := 0, cells := 0, slots := 0, locals := 0 } : Room).slots) := by
  refine MetFree.of_bodySF (plainFor_of_name pn_11) hisR ?_
  intro p e s m args below meth c s₁ Bd hml0 hP hK
  obtain ⟨rfl, hZ, hh⟩ := hP
  have hx := Bd.exec
  have hby := Bd.bytes
  have hml : c.maxLocals = 1 := hml0
  have hown : s.vm.findClass "java/lang/StringUTF16" = some m.cls := findClass_of_methodNamed Bd.named
  have hnm := (name_of_methodNamed Bd.named Bd.method).1
  have hlk : meth.locks = false := by first | exact BodyLoose.notSynchronized Bd | exact Body.notSynchronized Bd
  have X0 : Stand p l e ({ frames := 0, cells := 0, slots := 0, locals := 0 } : Room) s m #[(.int 3)] below meth c s₁ [] 0 0 := Stand.of_body Bd
  have e0 : s₁.heap = h0 := by rw [← hh, Bd.state]; rfl
  have N0 := Fr.nil n0
  have k0 : own_R p e below (s₁.setTop (entryFrame m #[(.int 3)] 1)) (s₁.setTop (mkF m 0 #[vI 3] [])) := fun t k => castTop (ef_11_3 m (3 : Int32)) k
  obtain ⟨A0, hA0⟩ : ∃ z, z = s₁.setTop (entryFrame m #[(.int 3)] 1) := ⟨_, rfl⟩
  rw [← hA0] at k0
  have kz : ∀ t, Steps p.tables e below A0 t → Steps p.tables e below (s₁.setTop (entryFrame m #[(.int 3)] 1)) t := fun t q => hA0 ▸ q
  have ks1 : own_R p e below (A0) (s₁.setTop (mkF m 58 #[vI 3] [(.int 6)])) := fun t k => k0 t (by
    refine XS.iloadN X0.here hx rfl (hb hby d11_0) rfl ?_
    refine XS.ifYes X0.here hx rfl (pc0 := 1) (pc' := 12) rfl (hb hby d11_1) rfl ((if0 _ _).trans (flt (by decide)).2.1) (by decide) (by decide) ?_
    refine XS.iloadN X0.here hx rfl (hb hby d11_12) rfl ?_
    refine X0.ldcInt hx hown (mvT hZ (own_w hw 54 rfl)) (g := (mkF m 13 #[vI 3] [(.int 3)])) rfl (hb hby d11_13) _ ?_
    refine XS.icmpYes X0.here hx rfl (pc0 := 15) (pc' := 55) rfl (hb hby d11_15) rfl (tlt (by decide)).1 (by decide) (by decide) ?_
    refine XS.iloadN X0.here hx rfl (hb hby d11_55) rfl ?_
    refine XS.iconst X0.here hx rfl (hb hby d11_56) ?_
    show Steps p.tables e below (s₁.setTop (mkF m 57 #[vI 3] [(.int 1), (.int 3)])) _
    refine XS.ishl X0.here hx rfl (hb hby d11_57) rfl ?_
    show Steps p.tables e below (s₁.setTop (mkF m 58 #[vI 3] [(.int ((3 : Int32) <<< ((1 : Int32) &&& 31)))])) _
    rw [show ((3 : Int32) <<< ((1 : Int32) &&& 31)) = (6 : Int32) from by decide]
    exact k)
  obtain ⟨fs, hr, hrun, hended, hW, hsame⟩ := X0.leave (v := some (.int 6)) (fun h => by rw [Bd.returns] at h; cases h) hlk
  refine ⟨_, _, kz _ (ks1 _ ?_), hrun, hended, _, _, rfl, ?_, ⟨_, rfl⟩, hW, hsame.mono (by decide) (by decide)⟩
  · exact retI X0 hx Bd.returns (hb hby d11_58) hr
  · show Q11_3 Z  h0 n0 _ s₁.heap _
    rw [e0]
    exact ⟨rfl, N0, rfl⟩
theorem ef_10_3 (m : MethodId) (x0 : Int32) : entryFrame m #[(.int x0)] 1 = mkF m 0 #[.val (.int x0)] [] := by first | (simp [entryFrame, mkF, argsToLocals, Value.category]; done) | rfl
def Q10_3 (Z : State)  (h0 : Heap) (n0 : Nat) (v : Option Value) (h : Heap) (L : List Loc) : Prop := ∃ (b : Addr) (k : ClassId), v = some (.ref b) ∧ Fr n0 L ∧ Keep h0 h [] ∧ n0 ≤ b ∧ h0.size ≤ b ∧ Arv Z h b k .byte (6 : Int32) [(.int 0), (.int 0), (.int 0), (.int 0), (.int 0), (.int 0)] (.int 0)
set_option maxRecDepth 65536 in
set_option maxHeartbeats 40000000 in
theorem rm10_3 (l : Launch) (Z : State) (a0 : Array Value) (hw : ∀ d ∈ tables_1, d.before a0 Z = true) (ws : List Jvm.Cond)  (h0 : Heap) (n0 : Nat) (Z0 : n0 ≤ h0.size) :
    MetFree l (⟨"java/lang/StringUTF16", "newBytesFor", "(I)[B"⟩ : MethodName) (head1 (Jvm.Cond.code (⟨"java/lang/StringUTF16", "newBytesFor", "(I)[B"⟩ : MethodName) jdk_52_method_2_code 1 (some (.array .byte)) :: ws) ({ frames := 1, cells := 1, slots := 6, locals := 12 } : Room)) (fun a U => a = #[(.int 3)] ∧ Z.Warmed39 U.vm ∧ U.heap = h0) (fun _ _ _ _ _ => True) (fun _ U o U' => ∃ v L, o = .returned v ∧ Q10_3 Z  h0 n0 v U'.heap L ∧ FrameEnd U o U' L ({ frames := 1, cells := 1, slots := 6, locals := 12 } : Room).cells ({ frames := 1, cells := 1, slots := 6, locals := 12 } : Room).slots) := by
  refine MetFree.of_bodySF (plainFor_of_name pn_10) hisR ?_
  intro p e s m args below meth c s₁ Bd hml0 hP hK
  obtain ⟨rfl, hZ, hh⟩ := hP
  have hx := Bd.exec
  have hby := Bd.bytes
  have hml : c.maxLocals = 1 := hml0
  have hown : s.vm.findClass "java/lang/StringUTF16" = some m.cls := findClass_of_methodNamed Bd.named
  have hnm := (name_of_methodNamed Bd.named Bd.method).1
  have hlk : meth.locks = false := by first | exact BodyLoose.notSynchronized Bd | exact Body.notSynchronized Bd
  have X0 : Stand p l e ({ frames := 1, cells := 1, slots := 6, locals := 12 } : Room) s m #[(.int 3)] below meth c s₁ [] 0 0 := Stand.of_body Bd
  have e0 : s₁.heap = h0 := by rw [← hh, Bd.state]; rfl
  have N0 := Fr.nil n0
  have k0 : own_R p e below (s₁.setTop (entryFrame m #[(.int 3)] 1)) (s₁.setTop (mkF m 0 #[vI 3] [])) := fun t k => castTop (ef_10_3 m (3 : Int32)) k
  obtain ⟨A0, hA0⟩ : ∃ z, z = s₁.setTop (entryFrame m #[(.int 3)] 1) := ⟨_, rfl⟩
  rw [← hA0] at k0
  have kz : ∀ t, Steps p.tables e below A0 t → Steps p.tables e below (s₁.setTop (entryFrame m #[(.int 3)] 1)) t := fun t q => hA0 ▸ q
  have ks1 : own_R p e below (A0) (s₁.setTop (mkF m 1 #[vI 3] [(.int 3)])) := fun t k => k0 t (by
    refine XS.iloadN X0.here hx rfl (hb hby d10_0) rfl ?_
    exact k)
  obtain ⟨_, _, ⟨T2, L2, k2, n2⟩, -, X2, ⟨Lc2, hQ2, lq2, yq2, zq2⟩, st2⟩ := Jvm.LawKit.callS X0 hx (y := (⟨"java/lang/StringUTF16", "newBytesLength", "(I)I"⟩ : MethodName)) hown (mvT hZ (own_w hw 51 rfl)) (mvT hZ (own_w hw 52 rfl)) (mvT hZ (own_w hw 40 rfl)) (mvT hZ (own_w hw 53 rfl)) (by decide) (backOf (W := 0) (rm11_3 l Z a0 hw []  h0 n0 Z0 ) hZ (own_w hw 53 rfl) (own_w hw 40 rfl) (by decide) (by decide)) (g := (mkF m 1 #[vI 3] [(.int 3)])) rfl (by rw [hml]; rfl) (argsL := [(.int 3)]) (rest := []) (lenOf pd_9 rfl) rfl (by show 2 * 0 + _ ≤ _; exact Nat.le_of_eq rfl) (hb hby d10_1) (fun _ _ => ⟨rfl, e0, (by decide : 0 + 0 ≤ _), (by decide : 0 + 0 ≤ _)⟩)
  dsimp only [Pt.U, Pt.locs, Pt.cells, Pt.slots] at X2 lq2 yq2 zq2 st2 hQ2
  subst lq2 yq2 zq2
  obtain ⟨rfl, Nq2, eq2⟩ := hQ2
  have N2 := Fr.app N0 Nq2
  have ks3 := own_c ks1 st2
  obtain ⟨T4, h4, c4, X4, e4, E4, A4, st4⟩ := newP X2 hx hZ (own_w hw 20 rfl) eq2 (g := (mkF m 4 #[vI 3] [(.int 6)])) rfl (hb hby d10_4) rfl (by decide) (cap := 6) (by decide) (by decide) (by decide) (by decide)
  obtain ⟨b4, g4⟩ : ∃ z, z = h0.size := ⟨_, rfl⟩
  rw [← g4] at A4 st4
  have g_b4 : n0 ≤ b4 := Nat.le_trans Z0 (Nat.le_of_eq g4.symm)
  have sz_b4 : h0.size ≤ b4 := Nat.le_trans (Keep.refl h0 []).1 (Nat.le_of_eq g4.symm)
  have KH4 : Keep h0 h4 [] := (Keep.refl h0 []).ext E4
  have Zn4 : n0 ≤ h4.size := Nat.le_trans Z0 E4.1
  have V4 : Arv Z h4 b4 c4 .byte (6 : Int32) [(.int (0 : Int32)), (.int (0 : Int32)), (.int (0 : Int32)), (.int (0 : Int32)), (.int (0 : Int32)), (.int (0 : Int32))] (.int (0 : Int32)) := (Arv.new A4 (by decide)).pad (pad_rep [] (.int (0 : Int32)) 6)
  have ks5 := own_c ks3 st4
  obtain ⟨fs, hr, hrun, hended, hW, hsame⟩ := X4.leave (v := some (.ref b4)) (fun h => by rw [Bd.returns] at h; cases h) hlk
  refine ⟨_, _, kz _ (ks5 _ ?_), hrun, hended, _, _, rfl, ?_, ⟨_, rfl⟩, hW, hsame.mono (by decide) (by decide)⟩
  · exact retOut X4 hx Bd.returns rfl (Or.inr (Or.inr (Or.inr (Or.inr ⟨rfl, rfl, rfl⟩)))) (hb hby d10_6) hr
  · show Q10_3 Z  h0 n0 _ T4.heap _
    rw [e4]
    exact ⟨_, _, rfl, N2, KH4, g_b4, sz_b4, V4⟩
theorem ef_12_3_0 (m : MethodId) (x0 : Addr) (x1 : Int32) (x2 : Int32) : entryFrame m #[(.ref x0), (.int x1), (.int x2)] 3 = mkF m 0 #[.val (.ref x0), .val (.int x1), .val (.int x2)] [] := by first | (simp [entryFrame, mkF, argsToLocals, Value.category]; done) | rfl
def Q12_3_0 (Z : State) (r0 : Addr) (p2 : Int32) (kr0 : ClassId) (h0 : Heap) (n0 : Nat) (v : Option Value) (h : Heap) (L : List Loc) : Prop := v = none ∧ Fr n0 L ∧ Keep h0 h [r0] ∧ Arv Z h r0 kr0 .byte (6 : Int32) [(.int ((p2 >>> ((0 : Int32) &&& 31)).toInt8.toInt32)), (.int ((p2 >>> ((8 : Int32) &&& 31)).toInt8.toInt32)), (.int 0), (.int 0), (.int 0), (.int 0)] (.int 0)
set_option maxRecDepth 65536 in
set_option maxHeartbeats 40000000 in
theorem rm12_3_0 (l : Launch) (Z : State) (a0 : Array Value) (hw : ∀ d ∈ tables_1, d.before a0 Z = true) (ws : List Jvm.Cond) (r0 : Addr) (p2 : Int32) (kr0 : ClassId) (h0 : Heap) (n0 : Nat) (Z0 : n0 ≤ h0.size) (S7a : own_S7a Z h0) (S7b : own_S7b Z h0) (S7c : own_S7c Z h0) (V0 : Arv Z h0 r0 kr0 .byte (6 : Int32) [(.int 0), (.int 0), (.int 0), (.int 0), (.int 0), (.int 0)] (.int 0)) (g_r0 : n0 ≤ r0) :
    MetFree l (⟨"java/lang/StringUTF16", "putChar", "([BII)V"⟩ : MethodName) (head1 (Jvm.Cond.code (⟨"java/lang/StringUTF16", "putChar", "([BII)V"⟩ : MethodName) jdk_52_method_4_code 3 none :: ws) ({ frames := 0, cells := 0, slots := 0, locals := 0 } : Room)) (fun a U => a = #[(.ref r0), (.int 0), (.int p2)] ∧ Z.Warmed39 U.vm ∧ U.heap = h0) (fun _ _ _ _ _ => True) (fun _ U o U' => ∃ v L, o = .returned v ∧ Q12_3_0 Z r0 p2 kr0 h0 n0 v U'.heap L ∧ FrameEnd U o U' L ({ frames := 0, cells := 0, slots := 0, locals := 0 } : Room).cells ({ frames := 0, cells := 0, slots := 0, locals := 0 } : Room).slots) := by
  refine MetFree.of_bodySF (plainFor_of_name pn_12) hisR ?_
  intro p e s m args below meth c s₁ Bd hml0 hP hK
  obtain ⟨rfl, hZ, hh⟩ := hP
  have hx := Bd.exec
  have hby := Bd.bytes
  have hml : c.maxLocals = 3 := hml0
  have hown : s.vm.findClass "java/lang/StringUTF16" = some m.cls := findClass_of_methodNamed Bd.named
  have hnm := (name_of_methodNamed Bd.named Bd.method).1
  have hlk : meth.locks = false := by first | exact BodyLoose.notSynchronized Bd | exact Body.notSynchronized Bd
  have X0 : Stand p l e ({ frames := 0, cells := 0, slots := 0, locals := 0 } : Room) s m #[(.ref r0), (.int 0), (.int p2)] below meth c s₁ [] 0 0 := Stand.of_body Bd
  have e0 : s₁.heap = h0 := by rw [← hh, Bd.state]; rfl
  have N0 := Fr.nil n0
  have k0 : own_R p e below (s₁.setTop (entryFrame m #[(.ref r0), (.int 0), (.int p2)] 3)) (s₁.setTop (mkF m 0 #[vR r0, vI 0, vI p2] [])) := fun t k => castTop (ef_12_3_0 m r0 (0 : Int32) p2) k
  obtain ⟨A0, hA0⟩ : ∃ z, z = s₁.setTop (entryFrame m #[(.ref r0), (.int 0), (.int p2)] 3) := ⟨_, rfl⟩
  rw [← hA0] at k0
  have kz : ∀ t, Steps p.tables e below A0 t → Steps p.tables e below (s₁.setTop (entryFrame m #[(.ref r0), (.int 0), (.int p2)] 3)) t := fun t q => hA0 ▸ q
  obtain ⟨T1, X1, e1, st1⟩ := getS2 X0 hx hZ hown (host := "") (Or.inl (own_w hw 58 rfl)) Via.refl e0 S7a (g := (mkF m 0 #[vR r0, vI 0, vI p2] [])) rfl (hb hby d12_0)
  have ks2 := own_c k0 st1
  have ks3 : own_R p e below (A0) (T1.setTop (mkF m 38 #[vR r0, vI 1, vI p2] [(.int p2), (.int 0), (.ref r0)])) := fun t k => ks2 t (by
    refine XS.ifYes X1.here hx rfl (pc0 := 3) (pc' := 28) rfl (hb hby d12_3) rfl ((if0 _ _).trans (feq (by decide)).2) (by decide) (by decide) ?_
    refine XS.iloadN X1.here hx rfl (hb hby d12_28) rfl ?_
    refine XS.iconst X1.here hx rfl (hb hby d12_29) ?_
    show Steps p.tables e below (T1.setTop (mkF m 30 #[vR r0, vI 0, vI p2] [(.int 1), (.int 0)])) _
    refine XS.ishl X1.here hx rfl (hb hby d12_30) rfl ?_
    show Steps p.tables e below (T1.setTop (mkF m 31 #[vR r0, vI 0, vI p2] [(.int ((0 : Int32) <<< ((1 : Int32) &&& 31)))])) _
    rw [show ((0 : Int32) <<< ((1 : Int32) &&& 31)) = (0 : Int32) from by decide]
    refine XS.istoreN X1.here hx rfl (hb hby d12_31) rfl (l' := #[vR r0, vI 0, vI p2]) rfl ?_
    refine XS.aloadN X1.here hx rfl (hb hby d12_32) rfl rfl ?_
    refine XS.iloadN X1.here hx rfl (hb hby d12_33) rfl ?_
    show Steps p.tables e below (T1.setTop (mkF m 34 #[vR r0, vI 0, vI p2] [(.int 0), (.ref r0)])) _
    refine XS.iinc X1.here hx rfl (hb hby d12_34) rfl (l' := #[vR r0, vI 1, vI p2]) rfl ?_
    refine XS.iloadN X1.here hx rfl (hb hby d12_37) rfl ?_
    exact k)
  obtain ⟨T4, X4, e4, st4⟩ := getS2 X1 hx hZ hown (host := "") (Or.inl (own_w hw 59 rfl)) Via.refl e1 S7b (g := (mkF m 38 #[vR r0, vI 1, vI p2] [(.int p2), (.int 0), (.ref r0)])) rfl (hb hby d12_38)
  have ks5 := own_c ks3 st4
  have ks6 : own_R p e below (A0) (T4.setTop (mkF m 43 #[vR r0, vI 1, vI p2] [(.int ((p2 >>> ((0 : Int32) &&& 31)).toInt8.toInt32)), (.int 0), (.ref r0)])) := fun t k => ks5 t (by
    refine XS.ishr X4.here hx rfl (hb hby d12_41) rfl ?_
    refine XS.i2b X4.here hx rfl (hb hby d12_42) rfl ?_
    exact k)
  obtain ⟨cl7, Ar7, qa7, S7, Na7, Ha7, Ga7⟩ := id V0
  have hin7 : ¬ ((0 : Int32) < 0 ∨ cl7.slots.size ≤ ((0 : Int32)).toNatClampNeg) := inb_of S7 ⟨by decide, by decide⟩
  obtain ⟨T8, h8, X8, e8, W8, st8⟩ := stB X4 hx hZ e4 Ar7 (j := (0 : Int32)) hin7 (g := (mkF m 43 #[vR r0, vI 1, vI p2] [(.int ((p2 >>> ((0 : Int32) &&& 31)).toInt8.toInt32)), (.int 0), (.ref r0)])) rfl rfl (hb hby d12_43)
  have V8 : Arv Z h8 r0 kr0 .byte (6 : Int32) [(.int (((p2 >>> ((0 : Int32) &&& 31)).toInt8.toInt32).toInt8.toInt32)), (.int 0), (.int 0), (.int 0), (.int 0), (.int 0)] (.int 0) := Arv.set Ar7 qa7 S7 Na7 Ha7 Ga7 (fits_nar_byte _) W8 0 rfl (Nat.le_of_ble_eq_true rfl)
  rw [Int8.toInt8_toInt32] at V8
  have KH8 : Keep h0 h8 [r0] := (Keep.refl h0 [r0]).wr W8 (Or.inl (List.mem_of_getElem? (i := 0) rfl))
  have Zn8 : n0 ≤ h8.size := Nat.le_trans Z0 (Keep.of_wr W8).1
  have N8 := Fr.snoc X8 N0 g_r0
  have ks9 := own_c ks6 st8
  have ks10 : own_R p e below (A0) (T8.setTop (mkF m 47 #[vR r0, vI 1, vI p2] [(.int p2), (.int 1), (.ref r0)])) := fun t k => ks9 t (by
    refine XS.aloadN X8.here hx rfl (hb hby d12_44) rfl rfl ?_
    refine XS.iloadN X8.here hx rfl (hb hby d12_45) rfl ?_
    refine XS.iloadN X8.here hx rfl (hb hby d12_46) rfl ?_
    exact k)
  have f11 := (S7c.wr W8)
  obtain ⟨T12, X12, e12, st12⟩ := getS2 X8 hx hZ hown (host := "") (Or.inl (own_w hw 60 rfl)) Via.refl e8 f11 (g := (mkF m 47 #[vR r0, vI 1, vI p2] [(.int p2), (.int 1), (.ref r0)])) rfl (hb hby d12_47)
  have ks13 := own_c ks10 st12
  have ks14 : own_R p e below (A0) (T12.setTop (mkF m 52 #[vR r0, vI 1, vI p2] [(.int ((p2 >>> ((8 : Int32) &&& 31)).toInt8.toInt32)), (.int 1), (.ref r0)])) := fun t k => ks13 t (by
    refine XS.ishr X12.here hx rfl (hb hby d12_50) rfl ?_
    refine XS.i2b X12.here hx rfl (hb hby d12_51) rfl ?_
    exact k)
  obtain ⟨cl15, Ar15, qa15, S15, Na15, Ha15, Ga15⟩ := id V8
  have hin15 : ¬ ((1 : Int32) < 0 ∨ cl15.slots.size ≤ ((1 : Int32)).toNatClampNeg) := inb_of S15 ⟨by decide, by decide⟩
  obtain ⟨T16, h16, X16, e16, W16, st16⟩ := stB X12 hx hZ e12 Ar15 (j := (1 : Int32)) hin15 (g := (mkF m 52 #[vR r0, vI 1, vI p2] [(.int ((p2 >>> ((8 : Int32) &&& 31)).toInt8.toInt32)), (.int 1), (.ref r0)])) rfl rfl (hb hby d12_52)
  have V16 : Arv Z h16 r0 kr0 .byte (6 : Int32) [(.int ((p2 >>> ((0 : Int32) &&& 31)).toInt8.toInt32)), (.int (((p2 >>> ((8 : Int32) &&& 31)).toInt8.toInt32).toInt8.toInt32)), (.int 0), (.int 0), (.int 0), (.int 0)] (.int 0) := Arv.set Ar15 qa15 S15 Na15 Ha15 Ga15 (fits_nar_byte _) W16 1 rfl (Nat.le_of_ble_eq_true rfl)
  rw [Int8.toInt8_toInt32] at V16
  have KH16 : Keep h0 h16 [r0] := KH8.wr W16 (Or.inl (List.mem_of_getElem? (i := 0) rfl))
  have Zn16 : n0 ≤ h16.size := Nat.le_trans Zn8 (Keep.of_wr W16).1
  have N16 := Fr.snoc X16 N8 g_r0
  have ks17 := own_c ks14 st16
  obtain ⟨fs, hr, hrun, hended, hW, hsame⟩ := X16.leave (v := none) (fun _ => rfl) hlk
  refine ⟨_, _, kz _ (ks17 _ ?_), hrun, hended, _, _, rfl, ?_, ⟨_, rfl⟩, hW, hsame.mono (by decide) (by decide)⟩
  · exact X16.returnOut hx Bd.returns (hb hby d12_53) hr
  · show Q12_3_0 Z r0 p2 kr0 h0 n0 _ T16.heap _
    rw [e16]
    exact ⟨rfl, N16, KH16, V16⟩
theorem ef_12_3_1 (m : MethodId) (x0 : Addr) (x1 : Int32) (x2 : Int32) : entryFrame m #[(.ref x0), (.int x1), (.int x2)] 3 = mkF m 0 #[.val (.ref x0), .val (.int x1), .val (.int x2)] [] := by first | (simp [entryFrame, mkF, argsToLocals, Value.category]; done) | rfl
def Q12_3_1 (Z : State) (r0 : Addr) (p2 : Int32) (kr0 : ClassId) (y0 : Int32) (h0 : Heap) (n0 : Nat) (v : Option Value) (h : Heap) (L : List Loc) : Prop := v = none ∧ Fr n0 L ∧ Keep h0 h [r0] ∧ Arv Z h r0 kr0 .byte (6 : Int32) [(.int ((y0 >>> ((0 : Int32) &&& 31)).toInt8.toInt32)), (.int ((y0 >>> ((8 : Int32) &&& 31)).toInt8.toInt32)), (.int ((p2 >>> ((0 : Int32) &&& 31)).toInt8.toInt32)), (.int ((p2 >>> ((8 : Int32) &&& 31)).toInt8.toInt32)), (.int 0), (.int 0)] (.int 0)
set_option maxRecDepth 65536 in
set_option maxHeartbeats 40000000 in
theorem rm12_3_1 (l : Launch) (Z : State) (a0 : Array Value) (hw : ∀ d ∈ tables_1, d.before a0 Z = true) (ws : List Jvm.Cond) (r0 : Addr) (p2 : Int32) (kr0 : ClassId) (y0 : Int32) (h0 : Heap) (n0 : Nat) (Z0 : n0 ≤ h0.size) (S7a : own_S7a Z h0) (S7b : own_S7b Z h0) (S7c : own_S7c Z h0) (V0 : Arv Z h0 r0 kr0 .byte (6 : Int32) [(.int ((y0 >>> ((0 : Int32) &&& 31)).toInt8.toInt32)), (.int ((y0 >>> ((8 : Int32) &&& 31)).toInt8.toInt32)), (.int 0), (.int 0), (.int 0), (.int 0)] (.int 0)) (g_r0 : n0 ≤ r0) :
    MetFree l (⟨"java/lang/StringUTF16", "putChar", "([BII)V"⟩ : MethodName) (head1 (Jvm.Cond.code (⟨"java/lang/StringUTF16", "putChar", "([BII)V"⟩ : MethodName) jdk_52_method_4_code 3 none :: ws) ({ frames := 0, cells := 0, slots := 0, locals := 0 } : Room)) (fun a U => a = #[(.ref r0), (.int 1), (.int p2)] ∧ Z.Warmed39 U.vm ∧ U.heap = h0) (fun _ _ _ _ _ => True) (fun _ U o U' => ∃ v L, o = .returned v ∧ Q12_3_1 Z r0 p2 kr0 y0 h0 n0 v U'.heap L ∧ FrameEnd U o U' L ({ frames := 0, cells := 0, slots := 0, locals := 0 } : Room).cells ({ frames := 0, cells := 0, slots := 0, locals := 0 } : Room).slots) := by
  refine MetFree.of_bodySF (plainFor_of_name pn_12) hisR ?_
  intro p e s m args below meth c s₁ Bd hml0 hP hK
  obtain ⟨rfl, hZ, hh⟩ := hP
  have hx := Bd.exec
  have hby := Bd.bytes
  have hml : c.maxLocals = 3 := hml0
  have hown : s.vm.findClass "java/lang/StringUTF16" = some m.cls := findClass_of_methodNamed Bd.named
  have hnm := (name_of_methodNamed Bd.named Bd.method).1
  have hlk : meth.locks = false := by first | exact BodyLoose.notSynchronized Bd | exact Body.notSynchronized Bd
  have X0 : Stand p l e ({ frames := 0, cells := 0, slots := 0, locals := 0 } : Room) s m #[(.ref r0), (.int 1), (.int p2)] below meth c s₁ [] 0 0 := Stand.of_body Bd
  have e0 : s₁.heap = h0 := by rw [← hh, Bd.state]; rfl
  have N0 := Fr.nil n0
  have k0 : own_R p e below (s₁.setTop (entryFrame m #[(.ref r0), (.int 1), (.int p2)] 3)) (s₁.setTop (mkF m 0 #[vR r0, vI 1, vI p2] [])) := fun t k => castTop (ef_12_3_1 m r0 (1 : Int32) p2) k
  obtain ⟨A0, hA0⟩ : ∃ z, z = s₁.setTop (entryFrame m #[(.ref r0), (.int 1), (.int p2)] 3) := ⟨_, rfl⟩
  rw [← hA0] at k0
  have kz : ∀ t, Steps p.tables e below A0 t → Steps p.tables e below (s₁.setTop (entryFrame m #[(.ref r0), (.int 1), (.int p2)] 3)) t := fun t q => hA0 ▸ q
  obtain ⟨T1, X1, e1, st1⟩ := getS2 X0 hx hZ hown (host := "") (Or.inl (own_w hw 58 rfl)) Via.refl e0 S7a (g := (mkF m 0 #[vR r0, vI 1, vI p2] [])) rfl (hb hby d12_0)
  have ks2 := own_c k0 st1
  have ks3 : own_R p e below (A0) (T1.setTop (mkF m 38 #[vR r0, vI 3, vI p2] [(.int p2), (.int 2), (.ref r0)])) := fun t k => ks2 t (by
    refine XS.ifYes X1.here hx rfl (pc0 := 3) (pc' := 28) rfl (hb hby d12_3) rfl ((if0 _ _).trans (feq (by decide)).2) (by decide) (by decide) ?_
    refine XS.iloadN X1.here hx rfl (hb hby d12_28) rfl ?_
    refine XS.iconst X1.here hx rfl (hb hby d12_29) ?_
    show Steps p.tables e below (T1.setTop (mkF m 30 #[vR r0, vI 1, vI p2] [(.int 1), (.int 1)])) _
    refine XS.ishl X1.here hx rfl (hb hby d12_30) rfl ?_
    show Steps p.tables e below (T1.setTop (mkF m 31 #[vR r0, vI 1, vI p2] [(.int ((1 : Int32) <<< ((1 : Int32) &&& 31)))])) _
    rw [show ((1 : Int32) <<< ((1 : Int32) &&& 31)) = (2 : Int32) from by decide]
    refine XS.istoreN X1.here hx rfl (hb hby d12_31) rfl (l' := #[vR r0, vI 2, vI p2]) rfl ?_
    refine XS.aloadN X1.here hx rfl (hb hby d12_32) rfl rfl ?_
    refine XS.iloadN X1.here hx rfl (hb hby d12_33) rfl ?_
    show Steps p.tables e below (T1.setTop (mkF m 34 #[vR r0, vI 2, vI p2] [(.int 2), (.ref r0)])) _
    refine XS.iinc X1.here hx rfl (hb hby d12_34) rfl (l' := #[vR r0, vI 3, vI p2]) rfl ?_
    refine XS.iloadN X1.here hx rfl (hb hby d12_37) rfl ?_
    exact k)
  obtain ⟨T4, X4, e4, st4⟩ := getS2 X1 hx hZ hown (host := "") (Or.inl (own_w hw 59 rfl)) Via.refl e1 S7b (g := (mkF m 38 #[vR r0, vI 3, vI p2] [(.int p2), (.int 2), (.ref r0)])) rfl (hb hby d12_38)
  have ks5 := own_c ks3 st4
  have ks6 : own_R p e below (A0) (T4.setTop (mkF m 43 #[vR r0, vI 3, vI p2] [(.int ((p2 >>> ((0 : Int32) &&& 31)).toInt8.toInt32)), (.int 2), (.ref r0)])) := fun t k => ks5 t (by
    refine XS.ishr X4.here hx rfl (hb hby d12_41) rfl ?_
    refine XS.i2b X4.here hx rfl (hb hby d12_42) rfl ?_
    exact k)
  obtain ⟨cl7, Ar7, qa7, S7, Na7, Ha7, Ga7⟩ := id V0
  have hin7 : ¬ ((2 : Int32) < 0 ∨ cl7.slots.size ≤ ((2 : Int32)).toNatClampNeg) := inb_of S7 ⟨by decide, by decide⟩
  obtain ⟨T8, h8, X8, e8, W8, st8⟩ := stB X4 hx hZ e4 Ar7 (j := (2 : Int32)) hin7 (g := (mkF m 43 #[vR r0, vI 3, vI p2] [(.int ((p2 >>> ((0 : Int32) &&& 31)).toInt8.toInt32)), (.int 2), (.ref r0)])) rfl rfl (hb hby d12_43)
  have V8 : Arv Z h8 r0 kr0 .byte (6 : Int32) [(.int ((y0 >>> ((0 : Int32) &&& 31)).toInt8.toInt32)), (.int ((y0 >>> ((8 : Int32) &&& 31)).toInt8.toInt32)), (.int (((p2 >>> ((0 : Int32) &&& 31)).toInt8.toInt32).toInt8.toInt32)), (.int 0), (.int 0), (.int 0)] (.int 0) := Arv.set Ar7 qa7 S7 Na7 Ha7 Ga7 (fits_nar_byte _) W8 2 rfl (Nat.le_of_ble_eq_true rfl)
  rw [Int8.toInt8_toInt32] at V8
  have KH8 : Keep h0 h8 [r0] := (Keep.refl h0 [r0]).wr W8 (Or.inl (List.mem_of_getElem? (i := 0) rfl))
  have Zn8 : n0 ≤ h8.size := Nat.le_trans Z0 (Keep.of_wr W8).1
  have N8 := Fr.snoc X8 N0 g_r0
  have ks9 := own_c ks6 st8
  have ks10 : own_R p e below (A0) (T8.setTop (mkF m 47 #[vR r0, vI 3, vI p2] [(.int p2), (.int 3), (.ref r0)])) := fun t k => ks9 t (by
    refine XS.aloadN X8.here hx rfl (hb hby d12_44) rfl rfl ?_
    refine XS.iloadN X8.here hx rfl (hb hby d12_45) rfl ?_
    refine XS.iloadN X8.here hx rfl (hb hby d12_46) rfl ?_
    exact k)
  have f11 := (S7c.wr W8)
  obtain ⟨T12, X12, e12, st12⟩ := getS2 X8 hx hZ hown (host := "") (Or.inl (own_w hw 60 rfl)) Via.refl e8 f11 (g := (mkF m 47 #[vR r0, vI 3, vI p2] [(.int p2), (.int 3), (.ref r0)])) rfl (hb hby d12_47)
  have ks13 := own_c ks10 st12
  have ks14 : own_R p e below (A0) (T12.setTop (mkF m 52 #[vR r0, vI 3, vI p2] [(.int ((p2 >>> ((8 : Int32) &&& 31)).toInt8.toInt32)), (.int 3), (.ref r0)])) := fun t k => ks13 t (by
    refine XS.ishr X12.here hx rfl (hb hby d12_50) rfl ?_
    refine XS.i2b X12.here hx rfl (hb hby d12_51) rfl ?_
    exact k)
  obtain ⟨cl15, Ar15, qa15, S15, Na15, Ha15, Ga15⟩ := id V8
  have hin15 : ¬ ((3 : Int32) < 0 ∨ cl15.slots.size ≤ ((3 : Int32)).toNatClampNeg) := inb_of S15 ⟨by decide, by decide⟩
  obtain ⟨T16, h16, X16, e16, W16, st16⟩ := stB X12 hx hZ e12 Ar15 (j := (3 : Int32)) hin15 (g := (mkF m 52 #[vR r0, vI 3, vI p2] [(.int ((p2 >>> ((8 : Int32) &&& 31)).toInt8.toInt32)), (.int 3), (.ref r0)])) rfl rfl (hb hby d12_52)
  have V16 : Arv Z h16 r0 kr0 .byte (6 : Int32) [(.int ((y0 >>> ((0 : Int32) &&& 31)).toInt8.toInt32)), (.int ((y0 >>> ((8 : Int32) &&& 31)).toInt8.toInt32)), (.int ((p2 >>> ((0 : Int32) &&& 31)).toInt8.toInt32)), (.int (((p2 >>> ((8 : Int32) &&& 31)).toInt8.toInt32).toInt8.toInt32)), (.int 0), (.int 0)] (.int 0) := Arv.set Ar15 qa15 S15 Na15 Ha15 Ga15 (fits_nar_byte _) W16 3 rfl (Nat.le_of_ble_eq_true rfl)
  rw [Int8.toInt8_toInt32] at V16
  have KH16 : Keep h0 h16 [r0] := KH8.wr W16 (Or.inl (List.mem_of_getElem? (i := 0) rfl))
  have Zn16 : n0 ≤ h16.size := Nat.le_trans Zn8 (Keep.of_wr W16).1
  have N16 := Fr.snoc X16 N8 g_r0
  have ks17 := own_c ks14 st16
  obtain ⟨fs, hr, hrun, hended, hW, hsame⟩ := X16.leave (v := none) (fun _ => rfl) hlk
  refine ⟨_, _, kz _ (ks17 _ ?_), hrun, hended, _, _, rfl, ?_, ⟨_, rfl⟩, hW, hsame.mono (by decide) (by decide)⟩
  · exact X16.returnOut hx Bd.returns (hb hby d12_53) hr
  · show Q12_3_1 Z r0 p2 kr0 y0 h0 n0 _ T16.heap _
    rw [e16]
    exact ⟨rfl, N16, KH16, V16⟩
theorem ef_12_3_2 (m : MethodId) (x0 : Addr) (x1 : Int32) (x2 : Int32) : entryFrame m #[(.ref x0), (.int x1), (.int x2)] 3 = mkF m 0 #[.val (.ref x0), .val (.int x1), .val (.int x2)] [] := by first | (simp [entryFrame, mkF, argsToLocals, Value.category]; done) | rfl
def Q12_3_2 (Z : State) (r0 : Addr) (p2 : Int32) (kr0 : ClassId) (y0 : Int32) (y1 : Int32) (h0 : Heap) (n0 : Nat) (v : Option Value) (h : Heap) (L : List Loc) : Prop := v = none ∧ Fr n0 L ∧ Keep h0 h [r0] ∧ Arv Z h r0 kr0 .byte (6 : Int32) [(.int ((y0 >>> ((0 : Int32) &&& 31)).toInt8.toInt32)), (.int ((y0 >>> ((8 : Int32) &&& 31)).toInt8.toInt32)), (.int ((y1 >>> ((0 : Int32) &&& 31)).toInt8.toInt32)), (.int ((y1 >>> ((8 : Int32) &&& 31)).toInt8.toInt32)), (.int ((p2 >>> ((0 : Int32) &&& 31)).toInt8.toInt32)), (.int ((p2 >>> ((8 : Int32) &&& 31)).toInt8.toInt32))] (.int 0)
set_option maxRecDepth 65536 in
set_option maxHeartbeats 40000000 in
theorem rm12_3_2 (l : Launch) (Z : State) (a0 : Array Value) (hw : ∀ d ∈ tables_1, d.before a0 Z = true) (ws : List Jvm.Cond) (r0 : Addr) (p2 : Int32) (kr0 : ClassId) (y0 : Int32) (y1 : Int32) (h0 : Heap) (n0 : Nat) (Z0 : n0 ≤ h0.size) (S7a : own_S7a Z h0) (S7b : own_S7b Z h0) (S7c : own_S7c Z h0) (V0 : Arv Z h0 r0 kr0 .byte (6 : Int32) [(.int ((y0 >>> ((0 : Int32) &&& 31)).toInt8.toInt32)), (.int ((y0 >>> ((8 : Int32) &&& 31)).toInt8.toInt32)), (.int ((y1 >>> ((0 : Int32) &&& 31)).toInt8.toInt32)), (.int ((y1 >>> ((8 : Int32) &&& 31)).toInt8.toInt32)), (.int 0), (.int 0)] (.int 0)) (g_r0 : n0 ≤ r0) :
    MetFree l (⟨"java/lang/StringUTF16", "putChar", "([BII)V"⟩ : MethodName) (head1 (Jvm.Cond.code (⟨"java/lang/StringUTF16", "putChar", "([BII)V"⟩ : MethodName) jdk_52_method_4_code 3 none :: ws) ({ frames := 0, cells := 0, slots := 0, locals := 0 } : Room)) (fun a U => a = #[(.ref r0), (.int 2), (.int p2)] ∧ Z.Warmed39 U.vm ∧ U.heap = h0) (fun _ _ _ _ _ => True) (fun _ U o U' => ∃ v L, o = .returned v ∧ Q12_3_2 Z r0 p2 kr0 y0 y1 h0 n0 v U'.heap L ∧ FrameEnd U o U' L ({ frames := 0, cells := 0, slots := 0, locals := 0 } : Room).cells ({ frames := 0, cells := 0, slots := 0, locals := 0 } : Room).slots) := by
  refine MetFree.of_bodySF (plainFor_of_name pn_12) hisR ?_
  intro p e s m args below meth c s₁ Bd hml0 hP hK
  obtain ⟨rfl, hZ, hh⟩ := hP
  have hx := Bd.exec
  have hby := Bd.bytes
  have hml : c.maxLocals = 3 := hml0
  have hown : s.vm.findClass "java/lang/StringUTF16" = some m.cls := findClass_of_methodNamed Bd.named
  have hnm := (name_of_methodNamed Bd.named Bd.method).1
  have hlk : meth.locks = false := by first | exact BodyLoose.notSynchronized Bd | exact Body.notSynchronized Bd
  have X0 : Stand p l e ({ frames := 0, cells := 0, slots := 0, locals := 0 } : Room) s m #[(.ref r0), (.int 2), (.int p2)] below meth c s₁ [] 0 0 := Stand.of_body Bd
  have e0 : s₁.heap = h0 := by rw [← hh, Bd.state]; rfl
  have N0 := Fr.nil n0
  have k0 : own_R p e below (s₁.setTop (entryFrame m #[(.ref r0), (.int 2), (.int p2)] 3)) (s₁.setTop (mkF m 0 #[vR r0, vI 2, vI p2] [])) := fun t k => castTop (ef_12_3_2 m r0 (2 : Int32) p2) k
  obtain ⟨A0, hA0⟩ : ∃ z, z = s₁.setTop (entryFrame m #[(.ref r0), (.int 2), (.int p2)] 3) := ⟨_, rfl⟩
  rw [← hA0] at k0
  have kz : ∀ t, Steps p.tables e below A0 t → Steps p.tables e below (s₁.setTop (entryFrame m #[(.ref r0), (.int 2), (.int p2)] 3)) t := fun t q => hA0 ▸ q
  obtain ⟨T1, X1, e1, st1⟩ := getS2 X0 hx hZ hown (host := "") (Or.inl (own_w hw 58 rfl)) Via.refl e0 S7a (g := (mkF m 0 #[vR r0, vI 2, vI p2] [])) rfl (hb hby d12_0)
  have ks2 := own_c k0 st1
  have ks3 : own_R p e below (A0) (T1.setTop (mkF m 38 #[vR r0, vI 5, vI p2] [(.int p2), (.int 4), (.ref r0)])) := fun t k => ks2 t (by
    refine XS.ifYes X1.here hx rfl (pc0 := 3) (pc' := 28) rfl (hb hby d12_3) rfl ((if0 _ _).trans (feq (by decide)).2) (by decide) (by decide) ?_
    refine XS.iloadN X1.here hx rfl (hb hby d12_28) rfl ?_
    refine XS.iconst X1.here hx rfl (hb hby d12_29) ?_
    show Steps p.tables e below (T1.setTop (mkF m 30 #[vR r0, vI 2, vI p2] [(.int 1), (.int 2)])) _
    refine XS.ishl X1.here hx rfl (hb hby d12_30) rfl ?_
    show Steps p.tables e below (T1.setTop (mkF m 31 #[vR r0, vI 2, vI p2] [(.int ((2 : Int32) <<< ((1 : Int32) &&& 31)))])) _
    rw [show ((2 : Int32) <<< ((1 : Int32) &&& 31)) = (4 : Int32) from by decide]
    refine XS.istoreN X1.here hx rfl (hb hby d12_31) rfl (l' := #[vR r0, vI 4, vI p2]) rfl ?_
    refine XS.aloadN X1.here hx rfl (hb hby d12_32) rfl rfl ?_
    refine XS.iloadN X1.here hx rfl (hb hby d12_33) rfl ?_
    show Steps p.tables e below (T1.setTop (mkF m 34 #[vR r0, vI 4, vI p2] [(.int 4), (.ref r0)])) _
    refine XS.iinc X1.here hx rfl (hb hby d12_34) rfl (l' := #[vR r0, vI 5, vI p2]) rfl ?_
    refine XS.iloadN X1.here hx rfl (hb hby d12_37) rfl ?_
    exact k)
  obtain ⟨T4, X4, e4, st4⟩ := getS2 X1 hx hZ hown (host := "") (Or.inl (own_w hw 59 rfl)) Via.refl e1 S7b (g := (mkF m 38 #[vR r0, vI 5, vI p2] [(.int p2), (.int 4), (.ref r0)])) rfl (hb hby d12_38)
  have ks5 := own_c ks3 st4
  have ks6 : own_R p e below (A0) (T4.setTop (mkF m 43 #[vR r0, vI 5, vI p2] [(.int ((p2 >>> ((0 : Int32) &&& 31)).toInt8.toInt32)), (.int 4), (.ref r0)])) := fun t k => ks5 t (by
    refine XS.ishr X4.here hx rfl (hb hby d12_41) rfl ?_
    refine XS.i2b X4.here hx rfl (hb hby d12_42) rfl ?_
    exact k)
  obtain ⟨cl7, Ar7, qa7, S7, Na7, Ha7, Ga7⟩ := id V0
  have hin7 : ¬ ((4 : Int32) < 0 ∨ cl7.slots.size ≤ ((4 : Int32)).toNatClampNeg) := inb_of S7 ⟨by decide, by decide⟩
  obtain ⟨T8, h8, X8, e8, W8, st8⟩ := stB X4 hx hZ e4 Ar7 (j := (4 : Int32)) hin7 (g := (mkF m 43 #[vR r0, vI 5, vI p2] [(.int ((p2 >>> ((0 : Int32) &&& 31)).toInt8.toInt32)), (.int 4), (.ref r0)])) rfl rfl (hb hby d12_43)
  have V8 : Arv Z h8 r0 kr0 .byte (6 : Int32) [(.int ((y0 >>> ((0 : Int32) &&& 31)).toInt8.toInt32)), (.int ((y0 >>> ((8 : Int32) &&& 31)).toInt8.toInt32)), (.int ((y1 >>> ((0 : Int32) &&& 31)).toInt8.toInt32)), (.int ((y1 >>> ((8 : Int32) &&& 31)).toInt8.toInt32)), (.int (((p2 >>> ((0 : Int32) &&& 31)).toInt8.toInt32).toInt8.toInt32)), (.int 0)] (.int 0) := Arv.set Ar7 qa7 S7 Na7 Ha7 Ga7 (fits_nar_byte _) W8 4 rfl (Nat.le_of_ble_eq_true rfl)
  rw [Int8.toInt8_toInt32] at V8
  have KH8 : Keep h0 h8 [r0] := (Keep.refl h0 [r0]).wr W8 (Or.inl (List.mem_of_getElem? (i := 0) rfl))
  have Zn8 : n0 ≤ h8.size := Nat.le_trans Z0 (Keep.of_wr W8).1
  have N8 := Fr.snoc X8 N0 g_r0
  have ks9 := own_c ks6 st8
  have ks10 : own_R p e below (A0) (T8.setTop (mkF m 47 #[vR r0, vI 5, vI p2] [(.int p2), (.int 5), (.ref r0)])) := fun t k => ks9 t (by
    refine XS.aloadN X8.here hx rfl (hb hby d12_44) rfl rfl ?_
    refine XS.iloadN X8.here hx rfl (hb hby d12_45) rfl ?_
    refine XS.iloadN X8.here hx rfl (hb hby d12_46) rfl ?_
    exact k)
  have f11 := (S7c.wr W8)
  obtain ⟨T12, X12, e12, st12⟩ := getS2 X8 hx hZ hown (host := "") (Or.inl (own_w hw 60 rfl)) Via.refl e8 f11 (g := (mkF m 47 #[vR r0, vI 5, vI p2] [(.int p2), (.int 5), (.ref r0)])) rfl (hb hby d12_47)
  have ks13 := own_c ks10 st12
  have ks14 : own_R p e below (A0) (T12.setTop (mkF m 52 #[vR r0, vI 5, vI p2] [(.int ((p2 >>> ((8 : Int32) &&& 31)).toInt8.toInt32)), (.int 5), (.ref r0)])) := fun t k => ks13 t (by
    refine XS.ishr X12.here hx rfl (hb hby d12_50) rfl ?_
    refine XS.i2b X12.here hx rfl (hb hby d12_51) rfl ?_
    exact k)
  obtain ⟨cl15, Ar15, qa15, S15, Na15, Ha15, Ga15⟩ := id V8
  have hin15 : ¬ ((5 : Int32) < 0 ∨ cl15.slots.size ≤ ((5 : Int32)).toNatClampNeg) := inb_of S15 ⟨by decide, by decide⟩
  obtain ⟨T16, h16, X16, e16, W16, st16⟩ := stB X12 hx hZ e12 Ar15 (j := (5 : Int32)) hin15 (g := (mkF m 52 #[vR r0, vI 5, vI p2] [(.int ((p2 >>> ((8 : Int32) &&& 31)).toInt8.toInt32)), (.int 5), (.ref r0)])) rfl rfl (hb hby d12_52)
  have V16 : Arv Z h16 r0 kr0 .byte (6 : Int32) [(.int ((y0 >>> ((0 : Int32) &&& 31)).toInt8.toInt32)), (.int ((y0 >>> ((8 : Int32) &&& 31)).toInt8.toInt32)), (.int ((y1 >>> ((0 : Int32) &&& 31)).toInt8.toInt32)), (.int ((y1 >>> ((8 : Int32) &&& 31)).toInt8.toInt32)), (.int ((p2 >>> ((0 : Int32) &&& 31)).toInt8.toInt32)), (.int (((p2 >>> ((8 : Int32) &&& 31)).toInt8.toInt32).toInt8.toInt32))] (.int 0) := Arv.set Ar15 qa15 S15 Na15 Ha15 Ga15 (fits_nar_byte _) W16 5 rfl (Nat.le_of_ble_eq_true rfl)
  rw [Int8.toInt8_toInt32] at V16
  have KH16 : Keep h0 h16 [r0] := KH8.wr W16 (Or.inl (List.mem_of_getElem? (i := 0) rfl))
  have Zn16 : n0 ≤ h16.size := Nat.le_trans Zn8 (Keep.of_wr W16).1
  have N16 := Fr.snoc X16 N8 g_r0
  have ks17 := own_c ks14 st16
  obtain ⟨fs, hr, hrun, hended, hW, hsame⟩ := X16.leave (v := none) (fun _ => rfl) hlk
  refine ⟨_, _, kz _ (ks17 _ ?_), hrun, hended, _, _, rfl, ?_, ⟨_, rfl⟩, hW, hsame.mono (by decide) (by decide)⟩
  · exact X16.returnOut hx Bd.returns (hb hby d12_53) hr
  · show Q12_3_2 Z r0 p2 kr0 y0 y1 h0 n0 _ T16.heap _
    rw [e16]
    exact ⟨rfl, N16, KH16, V16⟩
theorem ef_9_3 (m : MethodId) (x0 : Addr) (x1 : Int32) (x2 : Int32) : entryFrame m #[(.ref x0), (.int x1), (.int x2)] 5 = mkF m 0 #[.val (.ref x0), .val (.int x1), .val (.int x2), .unset, .unset] [] := by first | (simp [entryFrame, mkF, argsToLocals, Value.category]; done) | rfl
def Q9_3 (Z : State) (r0 : Addr) (kr0 : ClassId) (y0 : Int32) (y1 : Int32) (y2 : Int32) (h0 : Heap) (n0 : Nat) (v : Option Value) (h : Heap) (L : List Loc) : Prop := ∃ (b : Addr) (k : ClassId), v = some (.ref b) ∧ Fr n0 L ∧ Keep h0 h [] ∧ n0 ≤ b ∧ h0.size ≤ b ∧ Arv Z h b k .byte (6 : Int32) [(.int ((y0 >>> ((0 : Int32) &&& 31)).toInt8.toInt32)), (.int ((y0 >>> ((8 : Int32) &&& 31)).toInt8.toInt32)), (.int ((y1 >>> ((0 : Int32) &&& 31)).toInt8.toInt32)), (.int ((y1 >>> ((8 : Int32) &&& 31)).toInt8.toInt32)), (.int ((y2 >>> ((0 : Int32) &&& 31)).toInt8.toInt32)), (.int ((y2 >>> ((8 : Int32) &&& 31)).toInt8.toInt32))] (.int 0)
set_option maxRecDepth 65536 in
set_option maxHeartbeats 40000000 in
theorem rm9_3 (l : Launch) (Z : State) (a0 : Array Value) (hw : ∀ d ∈ tables_1, d.before a0 Z = true) (ws : List Jvm.Cond) (r0 : Addr) (kr0 : ClassId) (y0 : Int32) (y1 : Int32) (y2 : Int32) (h0 : Heap) (n0 : Nat) (Z0 : n0 ≤ h0.size) (S7a : own_S7a Z h0) (S7b : own_S7b Z h0) (S7c : own_S7c Z h0) (V0 : Arv Z h0 r0 kr0 .char (3 : Int32) [(.int y0), (.int y1), (.int y2)] (.int 0)) :
    MetFree l (⟨"java/lang/StringUTF16", "toBytes", "([CII)[B"⟩ : MethodName) (head1 (Jvm.Cond.code (⟨"java/lang/StringUTF16", "toBytes", "([CII)[B"⟩ : MethodName) jdk_52_method_14_code 5 (some (.array .byte)) :: ws) ({ frames := 2, cells := 1, slots := 6, locals := 24 } : Room)) (fun a U => a = #[(.ref r0), (.int 0), (.int 3)] ∧ Z.Warmed39 U.vm ∧ U.heap = h0) (fun _ _ _ _ _ => True) (fun _ U o U' => ∃ v L, o = .returned v ∧ Q9_3 Z r0 kr0 y0 y1 y2 h0 n0 v U'.heap L ∧ FrameEnd U o U' L ({ frames := 2, cells := 1, slots := 6, locals := 24 } : Room).cells ({ frames := 2, cells := 1, slots := 6, locals := 24 } : Room).slots) := by
  refine MetFree.of_bodySF (plainFor_of_name pn_9) hisR ?_
  intro p e s m args below meth c s₁ Bd hml0 hP hK
  obtain ⟨rfl, hZ, hh⟩ := hP
  have hx := Bd.exec
  have hby := Bd.bytes
  have hml : c.maxLocals = 5 := hml0
  have hown : s.vm.findClass "java/lang/StringUTF16" = some m.cls := findClass_of_methodNamed Bd.named
  have hnm := (name_of_methodNamed Bd.named Bd.method).1
  have hlk : meth.locks = false := by first | exact BodyLoose.notSynchronized Bd | exact Body.notSynchronized Bd
  have X0 : Stand p l e ({ frames := 2, cells := 1, slots := 6, locals := 24 } : Room) s m #[(.ref r0), (.int 0), (.int 3)] below meth c s₁ [] 0 0 := Stand.of_body Bd
  have e0 : s₁.heap = h0 := by rw [← hh, Bd.state]; rfl
  have N0 := Fr.nil n0
  have k0 : own_R p e below (s₁.setTop (entryFrame m #[(.ref r0), (.int 0), (.int 3)] 5)) (s₁.setTop (mkF m 0 #[vR r0, vI 0, vI 3, .unset, .unset] [])) := fun t k => castTop (ef_9_3 m r0 (0 : Int32) (3 : Int32)) k
  obtain ⟨A0, hA0⟩ : ∃ z, z = s₁.setTop (entryFrame m #[(.ref r0), (.int 0), (.int 3)] 5) := ⟨_, rfl⟩
  rw [← hA0] at k0
  have kz : ∀ t, Steps p.tables e below A0 t → Steps p.tables e below (s₁.setTop (entryFrame m #[(.ref r0), (.int 0), (.int 3)] 5)) t := fun t q => hA0 ▸ q
  have ks1 : own_R p e below (A0) (s₁.setTop (mkF m 1 #[vR r0, vI 0, vI 3, .unset, .unset] [(.int 3)])) := fun t k => k0 t (by
    refine XS.iloadN X0.here hx rfl (hb hby d9_0) rfl ?_
    exact k)
  obtain ⟨_, _, ⟨T2, L2, k2, n2⟩, -, X2, ⟨Lc2, hQ2, lq2, yq2, zq2⟩, st2⟩ := Jvm.LawKit.callS X0 hx (y := (⟨"java/lang/StringUTF16", "newBytesFor", "(I)[B"⟩ : MethodName)) hown (mvT hZ (own_w hw 48 rfl)) (mvT hZ (own_w hw 49 rfl)) (mvT hZ (own_w hw 40 rfl)) (mvT hZ (own_w hw 50 rfl)) (by decide) (backOf (W := 0) (rm10_3 l Z a0 hw []  h0 n0 Z0 ) hZ (own_w hw 50 rfl) (own_w hw 40 rfl) (by decide) (by decide)) (g := (mkF m 1 #[vR r0, vI 0, vI 3, .unset, .unset] [(.int 3)])) rfl (by rw [hml]; rfl) (argsL := [(.int 3)]) (rest := []) (lenOf pd_8 rfl) rfl (by show 2 * 0 + _ ≤ _; exact Nat.le_of_eq rfl) (hb hby d9_1) (fun _ _ => ⟨rfl, e0, (by decide : 0 + 1 ≤ _), (by decide : 0 + 6 ≤ _)⟩)
  dsimp only [Pt.U, Pt.locs, Pt.cells, Pt.slots] at X2 lq2 yq2 zq2 st2 hQ2
  subst lq2 yq2 zq2
  obtain ⟨bq2, kq2, rfl, Nq2, Kq2, g_bq2, szq2, Vq2⟩ := hQ2
  have N2 := Fr.app N0 Nq2
  have KH2 : Keep h0 T2.heap [] := (Keep.refl h0 []).trans Kq2 all0
  have Zn2 : n0 ≤ T2.heap.size := Nat.le_trans Z0 Kq2.1
  have ne_r0_bq2 : r0 ≠ bq2 := Nat.ne_of_lt (Nat.lt_of_lt_of_le V0.lt szq2)
  have sz_bq2 : h0.size ≤ bq2 := Nat.le_trans (Keep.refl h0 []).1 szq2
  have ks3 := own_c ks1 st2
  have ks4 : own_R p e below (A0) (T2.setTop (mkF m 19 #[vR r0, vI 0, vI 3, vR bq2, vI 0] [(.int 0), (.ref r0), (.int 0), (.ref bq2)])) := fun t k => ks3 t (by
    refine XS.astoreN X2.here hx rfl (hb hby d9_4) rfl rfl (l' := #[vR r0, vI 0, vI 3, vR bq2, .unset]) rfl ?_
    refine XS.iconst X2.here hx rfl (hb hby d9_5) ?_
    refine XS.istore X2.here hx rfl (hb hby d9_6) rfl (l' := #[vR r0, vI 0, vI 3, vR bq2, vI 0]) rfl ?_
    show Steps p.tables e below (T2.setTop (mkF m 8 #[vR r0, vI 0, vI 3, vR bq2, vI 0] [])) _
    refine XS.iload X2.here hx rfl (hb hby d9_8) rfl ?_
    refine XS.iloadN X2.here hx rfl (hb hby d9_10) rfl ?_
    refine XS.icmpNo X2.here hx rfl (hb hby d9_11) rfl (tlt (by decide)).2.1 ?_
    refine XS.aloadN X2.here hx rfl (hb hby d9_14) rfl rfl ?_
    show Steps p.tables e below (T2.setTop (mkF m 15 #[vR r0, vI 0, vI 3, vR bq2, vI 0] [(.ref bq2)])) _
    refine XS.iload X2.here hx rfl (hb hby d9_15) rfl ?_
    refine XS.aloadN X2.here hx rfl (hb hby d9_17) rfl rfl ?_
    refine XS.iloadN X2.here hx rfl (hb hby d9_18) rfl ?_
    exact k)
  have f5 := V0.keep KH2 nin0
  obtain ⟨cl6, Ar6, qa6, S6, Na6, Ha6, Ga6⟩ := id f5
  have ks7 : own_R p e below (A0) (T2.setTop (mkF m 20 #[vR r0, vI 0, vI 3, vR bq2, vI 0] [(.int y0), (.int 0), (.ref bq2)])) := fun t k => ks4 t (by
    refine X2.caload hx (j := (0 : Int32)) (v := (.int y0)) Ar6.1 (State.isArrayOf_alike hZ.alike Ar6.2.1) Ar6.2.2 (inb_of S6 ⟨by decide, by decide⟩) (Has.at Ha6 (inb_of S6 ⟨by decide, by decide⟩) rfl) (g := (mkF m 19 #[vR r0, vI 0, vI 3, vR bq2, vI 0] [(.int 0), (.ref r0), (.int 0), (.ref bq2)])) rfl rfl (hb hby d9_19) _ ?_
    exact k)
  have f9 := own_sta_keep S7a KH2
  have f10 := own_sta_keep S7b KH2
  have f11 := own_sta_keep S7c KH2
  obtain ⟨_, _, ⟨T8, L8, k8, n8⟩, -, X8, ⟨Lc8, hQ8, lq8, yq8, zq8⟩, st8⟩ := Jvm.LawKit.callS X2 hx (y := (⟨"java/lang/StringUTF16", "putChar", "([BII)V"⟩ : MethodName)) hown (mvT hZ (own_w hw 55 rfl)) (mvT hZ (own_w hw 56 rfl)) (mvT hZ (own_w hw 40 rfl)) (mvT hZ (own_w hw 57 rfl)) (by decide) (backOf (W := 0) (rm12_3_0 l Z a0 hw [] bq2 y0 _ T2.heap n0 Zn2 f9 f10 f11 Vq2 g_bq2) hZ (own_w hw 57 rfl) (own_w hw 40 rfl) (by decide) (by decide)) (g := (mkF m 20 #[vR r0, vI 0, vI 3, vR bq2, vI 0] [(.int y0), (.int 0), (.ref bq2)])) rfl (by rw [hml]; rfl) (argsL := [(.ref bq2), (.int 0), (.int y0)]) (rest := []) (lenOf pd_10 rfl) rfl (by show 2 * 0 + _ ≤ _; exact Nat.le_of_eq rfl) (hb hby d9_20) (fun _ _ => ⟨rfl, rfl, (by decide : 1 + 0 ≤ _), (by decide : 6 + 0 ≤ _)⟩)
  dsimp only [Pt.U, Pt.locs, Pt.cells, Pt.slots] at X8 lq8 yq8 zq8 st8 hQ8
  subst lq8 yq8 zq8
  obtain ⟨rfl, Nq8, Kq8, Vq8⟩ := hQ8
  have N8 := Fr.app N2 Nq8
  have KH8 : Keep h0 T8.heap [] := KH2.trans Kq8 (allS (Or.inr sz_bq2) all0)
  have Zn8 : n0 ≤ T8.heap.size := Nat.le_trans Zn2 Kq8.1
  have ks12 := own_c ks7 st8
  have ks13 : own_R p e below (A0) (T8.setTop (mkF m 19 #[vR r0, vI 1, vI 3, vR bq2, vI 1] [(.int 1), (.ref r0), (.int 1), (.ref bq2)])) := fun t k => ks12 t (by
    refine XS.iinc X8.here hx rfl (hb hby d9_23) rfl (l' := #[vR r0, vI 1, vI 3, vR bq2, vI 0]) rfl ?_
    refine XS.iinc X8.here hx rfl (hb hby d9_26) rfl (l' := #[vR r0, vI 1, vI 3, vR bq2, vI 1]) rfl ?_
    refine XS.goto X8.here hx rfl (pc0 := 29) (pc' := 8) rfl (hb hby d9_29) (by decide) (by decide) ?_
    show Steps p.tables e below (T8.setTop (mkF m 8 #[vR r0, vI 1, vI 3, vR bq2, vI 1] [])) _
    refine XS.iload X8.here hx rfl (hb hby d9_8) rfl ?_
    refine XS.iloadN X8.here hx rfl (hb hby d9_10) rfl ?_
    refine XS.icmpNo X8.here hx rfl (hb hby d9_11) rfl (tlt (by decide)).2.1 ?_
    refine XS.aloadN X8.here hx rfl (hb hby d9_14) rfl rfl ?_
    show Steps p.tables e below (T8.setTop (mkF m 15 #[vR r0, vI 1, vI 3, vR bq2, vI 1] [(.ref bq2)])) _
    refine XS.iload X8.here hx rfl (hb hby d9_15) rfl ?_
    refine XS.aloadN X8.here hx rfl (hb hby d9_17) rfl rfl ?_
    refine XS.iloadN X8.here hx rfl (hb hby d9_18) rfl ?_
    exact k)
  have f14 := V0.keep KH8 nin0
  obtain ⟨cl15, Ar15, qa15, S15, Na15, Ha15, Ga15⟩ := id f14
  have ks16 : own_R p e below (A0) (T8.setTop (mkF m 20 #[vR r0, vI 1, vI 3, vR bq2, vI 1] [(.int y1), (.int 1), (.ref bq2)])) := fun t k => ks13 t (by
    refine X8.caload hx (j := (1 : Int32)) (v := (.int y1)) Ar15.1 (State.isArrayOf_alike hZ.alike Ar15.2.1) Ar15.2.2 (inb_of S15 ⟨by decide, by decide⟩) (Has.at Ha15 (inb_of S15 ⟨by decide, by decide⟩) rfl) (g := (mkF m 19 #[vR r0, vI 1, vI 3, vR bq2, vI 1] [(.int 1), (.ref r0), (.int 1), (.ref bq2)])) rfl rfl (hb hby d9_19) _ ?_
    exact k)
  have f18 := own_sta_keep S7a KH8
  have f19 := own_sta_keep S7b KH8
  have f20 := own_sta_keep S7c KH8
  obtain ⟨_, _, ⟨T17, L17, k17, n17⟩, -, X17, ⟨Lc17, hQ17, lq17, yq17, zq17⟩, st17⟩ := Jvm.LawKit.callS X8 hx (y := (⟨"java/lang/StringUTF16", "putChar", "([BII)V"⟩ : MethodName)) hown (mvT hZ (own_w hw 55 rfl)) (mvT hZ (own_w hw 56 rfl)) (mvT hZ (own_w hw 40 rfl)) (mvT hZ (own_w hw 57 rfl)) (by decide) (backOf (W := 0) (rm12_3_1 l Z a0 hw [] bq2 y1 _ y0 T8.heap n0 Zn8 f18 f19 f20 Vq8 g_bq2) hZ (own_w hw 57 rfl) (own_w hw 40 rfl) (by decide) (by decide)) (g := (mkF m 20 #[vR r0, vI 1, vI 3, vR bq2, vI 1] [(.int y1), (.int 1), (.ref bq2)])) rfl (by rw [hml]; rfl) (argsL := [(.ref bq2), (.int 1), (.int y1)]) (rest := []) (lenOf pd_10 rfl) rfl (by show 2 * 0 + _ ≤ _; exact Nat.le_of_eq rfl) (hb hby d9_20) (fun _ _ => ⟨rfl, rfl, (by decide : 1 + 0 ≤ _), (by decide : 6 + 0 ≤ _)⟩)
  dsimp only [Pt.U, Pt.locs, Pt.cells, Pt.slots] at X17 lq17 yq17 zq17 st17 hQ17
  subst lq17 yq17 zq17
  obtain ⟨rfl, Nq17, Kq17, Vq17⟩ := hQ17
  have N17 := Fr.app N8 Nq17
  have KH17 : Keep h0 T17.heap [] := KH8.trans Kq17 (allS (Or.inr sz_bq2) all0)
  have Zn17 : n0 ≤ T17.heap.size := Nat.le_trans Zn8 Kq17.1
  have ks21 := own_c ks16 st17
  have ks22 : own_R p e below (A0) (T17.setTop (mkF m 19 #[vR r0, vI 2, vI 3, vR bq2, vI 2] [(.int 2), (.ref r0), (.int 2), (.ref bq2)])) := fun t k => ks21 t (by
    refine XS.iinc X17.here hx rfl (hb hby d9_23) rfl (l' := #[vR r0, vI 2, vI 3, vR bq2, vI 1]) rfl ?_
    refine XS.iinc X17.here hx rfl (hb hby d9_26) rfl (l' := #[vR r0, vI 2, vI 3, vR bq2, vI 2]) rfl ?_
    refine XS.goto X17.here hx rfl (pc0 := 29) (pc' := 8) rfl (hb hby d9_29) (by decide) (by decide) ?_
    show Steps p.tables e below (T17.setTop (mkF m 8 #[vR r0, vI 2, vI 3, vR bq2, vI 2] [])) _
    refine XS.iload X17.here hx rfl (hb hby d9_8) rfl ?_
    refine XS.iloadN X17.here hx rfl (hb hby d9_10) rfl ?_
    refine XS.icmpNo X17.here hx rfl (hb hby d9_11) rfl (tlt (by decide)).2.1 ?_
    refine XS.aloadN X17.here hx rfl (hb hby d9_14) rfl rfl ?_
    show Steps p.tables e below (T17.setTop (mkF m 15 #[vR r0, vI 2, vI 3, vR bq2, vI 2] [(.ref bq2)])) _
    refine XS.iload X17.here hx rfl (hb hby d9_15) rfl ?_
    refine XS.aloadN X17.here hx rfl (hb hby d9_17) rfl rfl ?_
    refine XS.iloadN X17.here hx rfl (hb hby d9_18) rfl ?_
    exact k)
  have f23 := V0.keep KH17 nin0
  obtain ⟨cl24, Ar24, qa24, S24, Na24, Ha24, Ga24⟩ := id f23
  have ks25 : own_R p e below (A0) (T17.setTop (mkF m 20 #[vR r0, vI 2, vI 3, vR bq2, vI 2] [(.int y2), (.int 2), (.ref bq2)])) := fun t k => ks22 t (by
    refine X17.caload hx (j := (2 : Int32)) (v := (.int y2)) Ar24.1 (State.isArrayOf_alike hZ.alike Ar24.2.1) Ar24.2.2 (inb_of S24 ⟨by decide, by decide⟩) (Has.at Ha24 (inb_of S24 ⟨by decide, by decide⟩) rfl) (g := (mkF m 19 #[vR r0, vI 2, vI 3, vR bq2, vI 2] [(.int 2), (.ref r0), (.int 2), (.ref bq2)])) rfl rfl (hb hby d9_19) _ ?_
    exact k)
  have f27 := own_sta_keep S7a KH17
  have f28 := own_sta_keep S7b KH17
  have f29 := own_sta_keep S7c KH17
  obtain ⟨_, _, ⟨T26, L26, k26, n26⟩, -, X26, ⟨Lc26, hQ26, lq26, yq26, zq26⟩, st26⟩ := Jvm.LawKit.callS X17 hx (y := (⟨"java/lang/StringUTF16", "putChar", "([BII)V"⟩ : MethodName)) hown (mvT hZ (own_w hw 55 rfl)) (mvT hZ (own_w hw 56 rfl)) (mvT hZ (own_w hw 40 rfl)) (mvT hZ (own_w hw 57 rfl)) (by decide) (backOf (W := 0) (rm12_3_2 l Z a0 hw [] bq2 y2 _ y0 y1 T17.heap n0 Zn17 f27 f28 f29 Vq17 g_bq2) hZ (own_w hw 57 rfl) (own_w hw 40 rfl) (by decide) (by decide)) (g := (mkF m 20 #[vR r0, vI 2, vI 3, vR bq2, vI 2] [(.int y2), (.int 2), (.ref bq2)])) rfl (by rw [hml]; rfl) (argsL := [(.ref bq2), (.int 2), (.int y2)]) (rest := []) (lenOf pd_10 rfl) rfl (by show 2 * 0 + _ ≤ _; exact Nat.le_of_eq rfl) (hb hby d9_20) (fun _ _ => ⟨rfl, rfl, (by decide : 1 + 0 ≤ _), (by decide : 6 + 0 ≤ _)⟩)
  dsimp only [Pt.U, Pt.locs, Pt.cells, Pt.slots] at X26 lq26 yq26 zq26 st26 hQ26
  subst lq26 yq26 zq26
  obtain ⟨rfl, Nq26, Kq26, Vq26⟩ := hQ26
  have N26 := Fr.app N17 Nq26
  have KH26 : Keep h0 T26.heap [] := KH17.trans Kq26 (allS (Or.inr sz_bq2) all0)
  have Zn26 : n0 ≤ T26.heap.size := Nat.le_trans Zn17 Kq26.1
  have ks30 := own_c ks25 st26
  have ks31 : own_R p e below (A0) (T26.setTop (mkF m 33 #[vR r0, vI 3, vI 3, vR bq2, vI 3] [(.ref bq2)])) := fun t k => ks30 t (by
    refine XS.iinc X26.here hx rfl (hb hby d9_23) rfl (l' := #[vR r0, vI 3, vI 3, vR bq2, vI 2]) rfl ?_
    refine XS.iinc X26.here hx rfl (hb hby d9_26) rfl (l' := #[vR r0, vI 3, vI 3, vR bq2, vI 3]) rfl ?_
    refine XS.goto X26.here hx rfl (pc0 := 29) (pc' := 8) rfl (hb hby d9_29) (by decide) (by decide) ?_
    show Steps p.tables e below (T26.setTop (mkF m 8 #[vR r0, vI 3, vI 3, vR bq2, vI 3] [])) _
    refine XS.iload X26.here hx rfl (hb hby d9_8) rfl ?_
    refine XS.iloadN X26.here hx rfl (hb hby d9_10) rfl ?_
    refine XS.icmpYes X26.here hx rfl (pc0 := 11) (pc' := 32) rfl (hb hby d9_11) rfl (flt (by decide)).2.1 (by decide) (by decide) ?_
    refine XS.aloadN X26.here hx rfl (hb hby d9_32) rfl rfl ?_
    exact k)
  obtain ⟨fs, hr, hrun, hended, hW, hsame⟩ := X26.leave (v := some (.ref bq2)) (fun h => by rw [Bd.returns] at h; cases h) hlk
  refine ⟨_, _, kz _ (ks31 _ ?_), hrun, hended, _, _, rfl, ?_, ⟨_, rfl⟩, hW, hsame.mono (by decide) (by decide)⟩
  · exact retOut X26 hx Bd.returns rfl (Or.inr (Or.inr (Or.inr (Or.inr ⟨rfl, rfl, rfl⟩)))) (hb hby d9_33) hr
  · show Q9_3 Z r0 kr0 y0 y1 y2 h0 n0 _ T26.heap _
    exact ⟨_, _, rfl, N26, KH26, g_bq2, sz_bq2, Vq26⟩
theorem ef_8_3L (m : MethodId) (x0 : Addr) (x1 : Int32) (x2 : Addr) (x3 : Int32) (x4 : Int32) : entryFrame m #[(.ref x0), (.int x1), (.ref x2), (.int x3), (.int x4)] 7 = mkF m 0 #[.val (.ref x0), .val (.int x1), .val (.ref x2), .val (.int x3), .val (.int x4), .unset, .unset] [] := by first | (simp [entryFrame, mkF, argsToLocals, Value.category]; done) | rfl
def Q8_3L (Z : State) (r0 : Addr) (r2 : Addr) (kr0 : ClassId) (kr2 : ClassId) (y0 : Int32) (y1 : Int32) (y2 : Int32) (h0 : Heap) (n0 : Nat) (v : Option Value) (h : Heap) (L : List Loc) : Prop := v = some (.int (3 : Int32)) ∧ Fr n0 L ∧ Keep h0 h [r2] ∧ Arv Z h r2 kr2 .byte (3 : Int32) [(.int (y0.toInt8.toInt32)), (.int (y1.toInt8.toInt32)), (.int (y2.toInt8.toInt32))] (.int 0)
set_option maxRecDepth 65536 in
set_option maxHeartbeats 40000000 in
theorem rm8_3L (l : Launch) (Z : State) (a0 : Array Value) (hw : ∀ d ∈ tables_1, d.before a0 Z = true) (ws : List Jvm.Cond) (r0 : Addr) (r2 : Addr) (kr0 : ClassId) (kr2 : ClassId) (y0 : Int32) (y1 : Int32) (y2 : Int32) (h0 : Heap) (n0 : Nat) (Z0 : n0 ≤ h0.size) (V0 : Arv Z h0 r0 kr0 .char (3 : Int32) [(.int y0), (.int y1), (.int y2)] (.int 0)) (V2 : Arv Z h0 r2 kr2 .byte (3 : Int32) [(.int 0), (.int 0), (.int 0)] (.int 0)) (n02 : r0 ≠ r2) (g_r2 : n0 ≤ r2) (RY0 : y0.toUInt32.toUInt16.toUInt32.toInt32 = y0) (RY1 : y1.toUInt32.toUInt16.toUInt32.toInt32 = y1) (RY2 : y2.toUInt32.toUInt16.toUInt32.toInt32 = y2) (PY0 : ¬ (255 : Int32) < y0) (PY1 : ¬ (255 : Int32) < y1) (PY2 : ¬ (255 : Int32) < y2) :
    MetFree l (⟨"java/lang/StringUTF16", "compress", "([CI[BII)I"⟩ : MethodName) (head1 (Jvm.Cond.code (⟨"java/lang/StringUTF16", "compress", "([CI[BII)I"⟩ : MethodName) jdk_52_method_21_code 7 (some .int) :: ws) ({ frames := 0, cells := 0, slots := 0, locals := 0 } : Room)) (fun a U => a = #[(.ref r0), (.int 0), (.ref r2), (.int 0), (.int 3)] ∧ Z.Warmed39 U.vm ∧ U.heap = h0) (fun _ _ _ _ _ => True) (fun _ U o U' => ∃ v L, o = .returned v ∧ Q8_3L Z r0 r2 kr0 kr2 y0 y1 y2 h0 n0 v U'.heap L ∧ FrameEnd U o U' L ({ frames := 0, cells := 0, slots := 0, locals := 0 } : Room).cells ({ frames := 0, cells := 0, slots := 0, locals := 0 } : Room).slots) := by
  refine MetFree.of_bodySF (plainFor_of_name pn_8) hisR ?_
  intro p e s m args below meth c s₁ Bd hml0 hP hK
  obtain ⟨rfl, hZ, hh⟩ := hP
  have hx := Bd.exec
  have hby := Bd.bytes
  have hml : c.maxLocals = 7 := hml0
  have hown : s.vm.findClass "java/lang/StringUTF16" = some m.cls := findClass_of_methodNamed Bd.named
  have hnm := (name_of_methodNamed Bd.named Bd.method).1
  have hlk : meth.locks = false := by first | exact BodyLoose.notSynchronized Bd | exact Body.notSynchronized Bd
  have X0 : Stand p l e ({ frames := 0, cells := 0, slots := 0, locals := 0 } : Room) s m #[(.ref r0), (.int 0), (.ref r2), (.int 0), (.int 3)] below meth c s₁ [] 0 0 := Stand.of_body Bd
  have e0 : s₁.heap = h0 := by rw [← hh, Bd.state]; rfl
  have N0 := Fr.nil n0
  have k0 : own_R p e below (s₁.setTop (entryFrame m #[(.ref r0), (.int 0), (.ref r2), (.int 0), (.int 3)] 7)) (s₁.setTop (mkF m 0 #[vR r0, vI 0, vR r2, vI 0, vI 3, .unset, .unset] [])) := fun t k => castTop (ef_8_3L m r0 (0 : Int32) r2 (0 : Int32) (3 : Int32)) k
  obtain ⟨A0, hA0⟩ : ∃ z, z = s₁.setTop (entryFrame m #[(.ref r0), (.int 0), (.ref r2), (.int 0), (.int 3)] 7) := ⟨_, rfl⟩
  rw [← hA0] at k0
  have kz : ∀ t, Steps p.tables e below A0 t → Steps p.tables e below (s₁.setTop (entryFrame m #[(.ref r0), (.int 0), (.ref r2), (.int 0), (.int 3)] 7)) t := fun t q => hA0 ▸ q
  have ks1 : own_R p e below (A0) (s₁.setTop (mkF m 12 #[vR r0, vI 0, vR r2, vI 0, vI 3, vI 0, .unset] [(.int 0), (.ref r0)])) := fun t k => k0 t (by
    refine XS.iconst X0.here hx rfl (hb hby d8_0) ?_
    refine XS.istore X0.here hx rfl (hb hby d8_1) rfl (l' := #[vR r0, vI 0, vR r2, vI 0, vI 3, vI 0, .unset]) rfl ?_
    refine XS.iload X0.here hx rfl (hb hby d8_3) rfl ?_
    show Steps p.tables e below (s₁.setTop (mkF m 5 #[vR r0, vI 0, vR r2, vI 0, vI 3, vI 0, .unset] [(.int 0)])) _
    refine XS.iload X0.here hx rfl (hb hby d8_5) rfl ?_
    refine XS.icmpNo X0.here hx rfl (hb hby d8_7) rfl (tlt (by decide)).2.1 ?_
    refine XS.aloadN X0.here hx rfl (hb hby d8_10) rfl rfl ?_
    refine XS.iloadN X0.here hx rfl (hb hby d8_11) rfl ?_
    exact k)
  obtain ⟨cl2, Ar2, qa2, S2, Na2, Ha2, Ga2⟩ := id V0
  have ks3 : own_R p e below (A0) (s₁.setTop (mkF m 31 #[vR r0, vI 0, vR r2, vI 0, vI 3, vI 0, vI y0] [(.int (y0.toInt8.toInt32)), (.int 0), (.ref r2)])) := fun t k => ks1 t (by
    refine X0.caload hx (j := (0 : Int32)) (v := (.int y0)) (by rw [e0]; exact Ar2.1) (State.isArrayOf_alike hZ.alike Ar2.2.1) Ar2.2.2 (inb_of S2 ⟨by decide, by decide⟩) (Has.at Ha2 (inb_of S2 ⟨by decide, by decide⟩) rfl) (g := (mkF m 12 #[vR r0, vI 0, vR r2, vI 0, vI 3, vI 0, .unset] [(.int 0), (.ref r0)])) rfl rfl (hb hby d8_12) _ ?_
    refine XS.istore X0.here hx rfl (hb hby d8_13) rfl (l' := #[vR r0, vI 0, vR r2, vI 0, vI 3, vI 0, vI y0]) rfl ?_
    refine XS.iload X0.here hx rfl (hb hby d8_15) rfl ?_
    show Steps p.tables e below (s₁.setTop (mkF m 17 #[vR r0, vI 0, vR r2, vI 0, vI 3, vI 0, vI y0] [(.int y0)])) _
    refine XS.sipush X0.here hx rfl (hb hby d8_17) ?_
    refine XS.icmpYes X0.here hx rfl (pc0 := 20) (pc' := 26) rfl (hb hby d8_20) rfl (flt PY0).2.2.2 (by decide) (by decide) ?_
    refine XS.aloadN X0.here hx rfl (hb hby d8_26) rfl rfl ?_
    refine XS.iloadN X0.here hx rfl (hb hby d8_27) rfl ?_
    show Steps p.tables e below (s₁.setTop (mkF m 28 #[vR r0, vI 0, vR r2, vI 0, vI 3, vI 0, vI y0] [(.int 0), (.ref r2)])) _
    refine XS.iload X0.here hx rfl (hb hby d8_28) rfl ?_
    refine XS.i2b X0.here hx rfl (hb hby d8_30) rfl ?_
    exact k)
  obtain ⟨cl4, Ar4, qa4, S4, Na4, Ha4, Ga4⟩ := id V2
  have hin4 : ¬ ((0 : Int32) < 0 ∨ cl4.slots.size ≤ ((0 : Int32)).toNatClampNeg) := inb_of S4 ⟨by decide, by decide⟩
  obtain ⟨T5, h5, X5, e5, W5, st5⟩ := stB X0 hx hZ e0 Ar4 (j := (0 : Int32)) hin4 (g := (mkF m 31 #[vR r0, vI 0, vR r2, vI 0, vI 3, vI 0, vI y0] [(.int (y0.toInt8.toInt32)), (.int 0), (.ref r2)])) rfl rfl (hb hby d8_31)
  have V5 : Arv Z h5 r2 kr2 .byte (3 : Int32) [(.int ((y0.toInt8.toInt32).toInt8.toInt32)), (.int 0), (.int 0)] (.int 0) := Arv.set Ar4 qa4 S4 Na4 Ha4 Ga4 (fits_nar_byte _) W5 0 rfl (Nat.le_of_ble_eq_true rfl)
  rw [Int8.toInt8_toInt32] at V5
  have KH5 : Keep h0 h5 [r2] := (Keep.refl h0 [r2]).wr W5 (Or.inl (List.mem_of_getElem? (i := 0) rfl))
  have Zn5 : n0 ≤ h5.size := Nat.le_trans Z0 (Keep.of_wr W5).1
  have N5 := Fr.snoc X5 N0 g_r2
  have ks6 := own_c ks3 st5
  have ks7 : own_R p e below (A0) (T5.setTop (mkF m 12 #[vR r0, vI 1, vR r2, vI 1, vI 3, vI 1, vI y0] [(.int 1), (.ref r0)])) := fun t k => ks6 t (by
    refine XS.iinc X5.here hx rfl (hb hby d8_32) rfl (l' := #[vR r0, vI 1, vR r2, vI 0, vI 3, vI 0, vI y0]) rfl ?_
    refine XS.iinc X5.here hx rfl (hb hby d8_35) rfl (l' := #[vR r0, vI 1, vR r2, vI 1, vI 3, vI 0, vI y0]) rfl ?_
    refine XS.iinc X5.here hx rfl (hb hby d8_38) rfl (l' := #[vR r0, vI 1, vR r2, vI 1, vI 3, vI 1, vI y0]) rfl ?_
    show Steps p.tables e below (T5.setTop (mkF m 41 #[vR r0, vI 1, vR r2, vI 1, vI 3, vI 1, vI y0] [])) _
    refine XS.goto X5.here hx rfl (pc0 := 41) (pc' := 3) rfl (hb hby d8_41) (by decide) (by decide) ?_
    refine XS.iload X5.here hx rfl (hb hby d8_3) rfl ?_
    refine XS.iload X5.here hx rfl (hb hby d8_5) rfl ?_
    refine XS.icmpNo X5.here hx rfl (hb hby d8_7) rfl (tlt (by decide)).2.1 ?_
    show Steps p.tables e below (T5.setTop (mkF m 10 #[vR r0, vI 1, vR r2, vI 1, vI 3, vI 1, vI y0] [])) _
    refine XS.aloadN X5.here hx rfl (hb hby d8_10) rfl rfl ?_
    refine XS.iloadN X5.here hx rfl (hb hby d8_11) rfl ?_
    exact k)
  have f8 := V0.keep KH5 (ninS n02 nin0)
  obtain ⟨cl9, Ar9, qa9, S9, Na9, Ha9, Ga9⟩ := id f8
  have ks10 : own_R p e below (A0) (T5.setTop (mkF m 31 #[vR r0, vI 1, vR r2, vI 1, vI 3, vI 1, vI y1] [(.int (y1.toInt8.toInt32)), (.int 1), (.ref r2)])) := fun t k => ks7 t (by
    refine X5.caload hx (j := (1 : Int32)) (v := (.int y1)) (by rw [e5]; exact Ar9.1) (State.isArrayOf_alike hZ.alike Ar9.2.1) Ar9.2.2 (inb_of S9 ⟨by decide, by decide⟩) (Has.at Ha9 (inb_of S9 ⟨by decide, by decide⟩) rfl) (g := (mkF m 12 #[vR r0, vI 1, vR r2, vI 1, vI 3, vI 1, vI y0] [(.int 1), (.ref r0)])) rfl rfl (hb hby d8_12) _ ?_
    refine XS.istore X5.here hx rfl (hb hby d8_13) rfl (l' := #[vR r0, vI 1, vR r2, vI 1, vI 3, vI 1, vI y1]) rfl ?_
    refine XS.iload X5.here hx rfl (hb hby d8_15) rfl ?_
    show Steps p.tables e below (T5.setTop (mkF m 17 #[vR r0, vI 1, vR r2, vI 1, vI 3, vI 1, vI y1] [(.int y1)])) _
    refine XS.sipush X5.here hx rfl (hb hby d8_17) ?_
    refine XS.icmpYes X5.here hx rfl (pc0 := 20) (pc' := 26) rfl (hb hby d8_20) rfl (flt PY1).2.2.2 (by decide) (by decide) ?_
    refine XS.aloadN X5.here hx rfl (hb hby d8_26) rfl rfl ?_
    refine XS.iloadN X5.here hx rfl (hb hby d8_27) rfl ?_
    show Steps p.tables e below (T5.setTop (mkF m 28 #[vR r0, vI 1, vR r2, vI 1, vI 3, vI 1, vI y1] [(.int 1), (.ref r2)])) _
    refine XS.iload X5.here hx rfl (hb hby d8_28) rfl ?_
    refine XS.i2b X5.here hx rfl (hb hby d8_30) rfl ?_
    exact k)
  obtain ⟨cl11, Ar11, qa11, S11, Na11, Ha11, Ga11⟩ := id V5
  have hin11 : ¬ ((1 : Int32) < 0 ∨ cl11.slots.size ≤ ((1 : Int32)).toNatClampNeg) := inb_of S11 ⟨by decide, by decide⟩
  obtain ⟨T12, h12, X12, e12, W12, st12⟩ := stB X5 hx hZ e5 Ar11 (j := (1 : Int32)) hin11 (g := (mkF m 31 #[vR r0, vI 1, vR r2, vI 1, vI 3, vI 1, vI y1] [(.int (y1.toInt8.toInt32)), (.int 1), (.ref r2)])) rfl rfl (hb hby d8_31)
  have V12 : Arv Z h12 r2 kr2 .byte (3 : Int32) [(.int (y0.toInt8.toInt32)), (.int ((y1.toInt8.toInt32).toInt8.toInt32)), (.int 0)] (.int 0) := Arv.set Ar11 qa11 S11 Na11 Ha11 Ga11 (fits_nar_byte _) W12 1 rfl (Nat.le_of_ble_eq_true rfl)
  rw [Int8.toInt8_toInt32] at V12
  have KH12 : Keep h0 h12 [r2] := KH5.wr W12 (Or.inl (List.mem_of_getElem? (i := 0) rfl))
  have Zn12 : n0 ≤ h12.size := Nat.le_trans Zn5 (Keep.of_wr W12).1
  have N12 := Fr.snoc X12 N5 g_r2
  have ks13 := own_c ks10 st12
  have ks14 : own_R p e below (A0) (T12.setTop (mkF m 12 #[vR r0, vI 2, vR r2, vI 2, vI 3, vI 2, vI y1] [(.int 2), (.ref r0)])) := fun t k => ks13 t (by
    refine XS.iinc X12.here hx rfl (hb hby d8_32) rfl (l' := #[vR r0, vI 2, vR r2, vI 1, vI 3, vI 1, vI y1]) rfl ?_
    refine XS.iinc X12.here hx rfl (hb hby d8_35) rfl (l' := #[vR r0, vI 2, vR r2, vI 2, vI 3, vI 1, vI y1]) rfl ?_
    refine XS.iinc X12.here hx rfl (hb hby d8_38) rfl (l' := #[vR r0, vI 2, vR r2, vI 2, vI 3, vI 2, vI y1]) rfl ?_
    show Steps p.tables e below (T12.setTop (mkF m 41 #[vR r0, vI 2, vR r2, vI 2, vI 3, vI 2, vI y1] [])) _
    refine XS.goto X12.here hx rfl (pc0 := 41) (pc' := 3) rfl (hb hby d8_41) (by decide) (by decide) ?_
    refine XS.iload X12.here hx rfl (hb hby d8_3) rfl ?_
    refine XS.iload X12.here hx rfl (hb hby d8_5) rfl ?_
    refine XS.icmpNo X12.here hx rfl (hb hby d8_7) rfl (tlt (by decide)).2.1 ?_
    show Steps p.tables e below (T12.setTop (mkF m 10 #[vR r0, vI 2, vR r2, vI 2, vI 3, vI 2, vI y1] [])) _
    refine XS.aloadN X12.here hx rfl (hb hby d8_10) rfl rfl ?_
    refine XS.iloadN X12.here hx rfl (hb hby d8_11) rfl ?_
    exact k)
  have f15 := V0.keep KH12 (ninS n02 nin0)
  obtain ⟨cl16, Ar16, qa16, S16, Na16, Ha16, Ga16⟩ := id f15
  have ks17 : own_R p e below (A0) (T12.setTop (mkF m 31 #[vR r0, vI 2, vR r2, vI 2, vI 3, vI 2, vI y2] [(.int (y2.toInt8.toInt32)), (.int 2), (.ref r2)])) := fun t k => ks14 t (by
    refine X12.caload hx (j := (2 : Int32)) (v := (.int y2)) (by rw [e12]; exact Ar16.1) (State.isArrayOf_alike hZ.alike Ar16.2.1) Ar16.2.2 (inb_of S16 ⟨by decide, by decide⟩) (Has.at Ha16 (inb_of S16 ⟨by decide, by decide⟩) rfl) (g := (mkF m 12 #[vR r0, vI 2, vR r2, vI 2, vI 3, vI 2, vI y1] [(.int 2), (.ref r0)])) rfl rfl (hb hby d8_12) _ ?_
    refine XS.istore X12.here hx rfl (hb hby d8_13) rfl (l' := #[vR r0, vI 2, vR r2, vI 2, vI 3, vI 2, vI y2]) rfl ?_
    refine XS.iload X12.here hx rfl (hb hby d8_15) rfl ?_
    show Steps p.tables e below (T12.setTop (mkF m 17 #[vR r0, vI 2, vR r2, vI 2, vI 3, vI 2, vI y2] [(.int y2)])) _
    refine XS.sipush X12.here hx rfl (hb hby d8_17) ?_
    refine XS.icmpYes X12.here hx rfl (pc0 := 20) (pc' := 26) rfl (hb hby d8_20) rfl (flt PY2).2.2.2 (by decide) (by decide) ?_
    refine XS.aloadN X12.here hx rfl (hb hby d8_26) rfl rfl ?_
    refine XS.iloadN X12.here hx rfl (hb hby d8_27) rfl ?_
    show Steps p.tables e below (T12.setTop (mkF m 28 #[vR r0, vI 2, vR r2, vI 2, vI 3, vI 2, vI y2] [(.int 2), (.ref r2)])) _
    refine XS.iload X12.here hx rfl (hb hby d8_28) rfl ?_
    refine XS.i2b X12.here hx rfl (hb hby d8_30) rfl ?_
    exact k)
  obtain ⟨cl18, Ar18, qa18, S18, Na18, Ha18, Ga18⟩ := id V12
  have hin18 : ¬ ((2 : Int32) < 0 ∨ cl18.slots.size ≤ ((2 : Int32)).toNatClampNeg) := inb_of S18 ⟨by decide, by decide⟩
  obtain ⟨T19, h19, X19, e19, W19, st19⟩ := stB X12 hx hZ e12 Ar18 (j := (2 : Int32)) hin18 (g := (mkF m 31 #[vR r0, vI 2, vR r2, vI 2, vI 3, vI 2, vI y2] [(.int (y2.toInt8.toInt32)), (.int 2), (.ref r2)])) rfl rfl (hb hby d8_31)
  have V19 : Arv Z h19 r2 kr2 .byte (3 : Int32) [(.int (y0.toInt8.toInt32)), (.int (y1.toInt8.toInt32)), (.int ((y2.toInt8.toInt32).toInt8.toInt32))] (.int 0) := Arv.set Ar18 qa18 S18 Na18 Ha18 Ga18 (fits_nar_byte _) W19 2 rfl (Nat.le_of_ble_eq_true rfl)
  rw [Int8.toInt8_toInt32] at V19
  have KH19 : Keep h0 h19 [r2] := KH12.wr W19 (Or.inl (List.mem_of_getElem? (i := 0) rfl))
  have Zn19 : n0 ≤ h19.size := Nat.le_trans Zn12 (Keep.of_wr W19).1
  have N19 := Fr.snoc X19 N12 g_r2
  have ks20 := own_c ks17 st19
  have ks21 : own_R p e below (A0) (T19.setTop (mkF m 46 #[vR r0, vI 3, vR r2, vI 3, vI 3, vI 3, vI y2] [(.int 3)])) := fun t k => ks20 t (by
    refine XS.iinc X19.here hx rfl (hb hby d8_32) rfl (l' := #[vR r0, vI 3, vR r2, vI 2, vI 3, vI 2, vI y2]) rfl ?_
    refine XS.iinc X19.here hx rfl (hb hby d8_35) rfl (l' := #[vR r0, vI 3, vR r2, vI 3, vI 3, vI 2, vI y2]) rfl ?_
    refine XS.iinc X19.here hx rfl (hb hby d8_38) rfl (l' := #[vR r0, vI 3, vR r2, vI 3, vI 3, vI 3, vI y2]) rfl ?_
    show Steps p.tables e below (T19.setTop (mkF m 41 #[vR r0, vI 3, vR r2, vI 3, vI 3, vI 3, vI y2] [])) _
    refine XS.goto X19.here hx rfl (pc0 := 41) (pc' := 3) rfl (hb hby d8_41) (by decide) (by decide) ?_
    refine XS.iload X19.here hx rfl (hb hby d8_3) rfl ?_
    refine XS.iload X19.here hx rfl (hb hby d8_5) rfl ?_
    refine XS.icmpYes X19.here hx rfl (pc0 := 7) (pc' := 44) rfl (hb hby d8_7) rfl (flt (by decide)).2.1 (by decide) (by decide) ?_
    show Steps p.tables e below (T19.setTop (mkF m 44 #[vR r0, vI 3, vR r2, vI 3, vI 3, vI 3, vI y2] [])) _
    refine XS.iload X19.here hx rfl (hb hby d8_44) rfl ?_
    exact k)
  obtain ⟨fs, hr, hrun, hended, hW, hsame⟩ := X19.leave (v := some (.int 3)) (fun h => by rw [Bd.returns] at h; cases h) hlk
  refine ⟨_, _, kz _ (ks21 _ ?_), hrun, hended, _, _, rfl, ?_, ⟨_, rfl⟩, hW, hsame.mono (by decide) (by decide)⟩
  · exact retI X19 hx Bd.returns (hb hby d8_46) hr
  · show Q8_3L Z r0 r2 kr0 kr2 y0 y1 y2 h0 n0 _ T19.heap _
    rw [e19]
    exact ⟨rfl, N19, KH19, V19⟩
theorem ef_8_3U0 (m : MethodId) (x0 : Addr) (x1 : Int32) (x2 : Addr) (x3 : Int32) (x4 : Int32) : entryFrame m #[(.ref x0), (.int x1), (.ref x2), (.int x3), (.int x4)] 7 = mkF m 0 #[.val (.ref x0), .val (.int x1), .val (.ref x2), .val (.int x3), .val (.int x4), .unset, .unset] [] := by first | (simp [entryFrame, mkF, argsToLocals, Value.category]; done) | rfl
def Q8_3U0 (Z : State) (r0 : Addr) (r2 : Addr) (kr0 : ClassId) (kr2 : ClassId) (y0 : Int32) (y1 : Int32) (y2 : Int32) (h0 : Heap) (n0 : Nat) (v : Option Value) (h : Heap) (L : List Loc) : Prop := v = some (.int (0 : Int32)) ∧ Fr n0 L ∧ Keep h0 h [r2]
set_option maxRecDepth 65536 in
set_option maxHeartbeats 40000000 in
theorem rm8_3U0 (l : Launch) (Z : State) (a0 : Array Value) (hw : ∀ d ∈ tables_1, d.before a0 Z = true) (ws : List Jvm.Cond) (r0 : Addr) (r2 : Addr) (kr0 : ClassId) (kr2 : ClassId) (y0 : Int32) (y1 : Int32) (y2 : Int32) (h0 : Heap) (n0 : Nat) (Z0 : n0 ≤ h0.size) (V0 : Arv Z h0 r0 kr0 .char (3 : Int32) [(.int y0), (.int y1), (.int y2)] (.int 0)) (V2 : Arv Z h0 r2 kr2 .byte (3 : Int32) [(.int 0), (.int 0), (.int 0)] (.int 0)) (n02 : r0 ≠ r2) (g_r2 : n0 ≤ r2) (RY0 : y0.toUInt32.toUInt16.toUInt32.toInt32 = y0) (RY1 : y1.toUInt32.toUInt16.toUInt32.toInt32 = y1) (RY2 : y2.toUInt32.toUInt16.toUInt32.toInt32 = y2) (XY0 : (255 : Int32) < y0) :
    MetFree l (⟨"java/lang/StringUTF16", "compress", "([CI[BII)I"⟩ : MethodName) (head1 (Jvm.Cond.code (⟨"java/lang/StringUTF16", "compress", "([CI[BII)I"⟩ : MethodName) jdk_52_method_21_code 7 (some .int) :: ws) ({ frames := 0, cells := 0, slots := 0, locals := 0 } : Room)) (fun a U => a = #[(.ref r0), (.int 0), (.ref r2), (.int 0), (.int 3)] ∧ Z.Warmed39 U.vm ∧ U.heap = h0) (fun _ _ _ _ _ => True) (fun _ U o U' => ∃ v L, o = .returned v ∧ Q8_3U0 Z r0 r2 kr0 kr2 y0 y1 y2 h0 n0 v U'.heap L ∧ FrameEnd U o U' L ({ frames := 0, cells := 0, slots := 0, locals := 0 } : Room).cells ({ frames := 0, cells := 0, slots := 0, locals := 0 } : Room).slots) := by
  refine MetFree.of_bodySF (plainFor_of_name pn_8) hisR ?_
  intro p e s m args below meth c s₁ Bd hml0 hP hK
  obtain ⟨rfl, hZ, hh⟩ := hP
  have hx := Bd.exec
  have hby := Bd.bytes
  have hml : c.maxLocals = 7 := hml0
  have hown : s.vm.findClass "java/lang/StringUTF16" = some m.cls := findClass_of_methodNamed Bd.named
  have hnm := (name_of_methodNamed Bd.named Bd.method).1
  have hlk : meth.locks = false := by first | exact BodyLoose.notSynchronized Bd | exact Body.notSynchronized Bd
  have X0 : Stand p l e ({ frames := 0, cells := 0, slots := 0, locals := 0 } : Room) s m #[(.ref r0), (.int 0), (.ref r2), (.int 0), (.int 3)] below meth c s₁ [] 0 0 := Stand.of_body Bd
  have e0 : s₁.heap = h0 := by rw [← hh, Bd.state]; rfl
  have N0 := Fr.nil n0
  have k0 : own_R p e below (s₁.setTop (entryFrame m #[(.ref r0), (.int 0), (.ref r2), (.int 0), (.int 3)] 7)) (s₁.setTop (mkF m 0 #[vR r0, vI 0, vR r2, vI 0, vI 3, .unset, .unset] [])) := fun t k => castTop (ef_8_3U0 m r0 (0 : Int32) r2 (0 : Int32) (3 : Int32)) k
  obtain ⟨A0, hA0⟩ : ∃ z, z = s₁.setTop (entryFrame m #[(.ref r0), (.int 0), (.ref r2), (.int 0), (.int 3)] 7) := ⟨_, rfl⟩
  rw [← hA0] at k0
  have kz : ∀ t, Steps p.tables e below A0 t → Steps p.tables e below (s₁.setTop (entryFrame m #[(.ref r0), (.int 0), (.ref r2), (.int 0), (.int 3)] 7)) t := fun t q => hA0 ▸ q
  have ks1 : own_R p e below (A0) (s₁.setTop (mkF m 12 #[vR r0, vI 0, vR r2, vI 0, vI 3, vI 0, .unset] [(.int 0), (.ref r0)])) := fun t k => k0 t (by
    refine XS.iconst X0.here hx rfl (hb hby d8_0) ?_
    refine XS.istore X0.here hx rfl (hb hby d8_1) rfl (l' := #[vR r0, vI 0, vR r2, vI 0, vI 3, vI 0, .unset]) rfl ?_
    refine XS.iload X0.here hx rfl (hb hby d8_3) rfl ?_
    show Steps p.tables e below (s₁.setTop (mkF m 5 #[vR r0, vI 0, vR r2, vI 0, vI 3, vI 0, .unset] [(.int 0)])) _
    refine XS.iload X0.here hx rfl (hb hby d8_5) rfl ?_
    refine XS.icmpNo X0.here hx rfl (hb hby d8_7) rfl (tlt (by decide)).2.1 ?_
    refine XS.aloadN X0.here hx rfl (hb hby d8_10) rfl rfl ?_
    refine XS.iloadN X0.here hx rfl (hb hby d8_11) rfl ?_
    exact k)
  obtain ⟨cl2, Ar2, qa2, S2, Na2, Ha2, Ga2⟩ := id V0
  have ks3 : own_R p e below (A0) (s₁.setTop (mkF m 25 #[vR r0, vI 0, vR r2, vI 0, vI 3, vI 0, vI y0] [(.int 0)])) := fun t k => ks1 t (by
    refine X0.caload hx (j := (0 : Int32)) (v := (.int y0)) (by rw [e0]; exact Ar2.1) (State.isArrayOf_alike hZ.alike Ar2.2.1) Ar2.2.2 (inb_of S2 ⟨by decide, by decide⟩) (Has.at Ha2 (inb_of S2 ⟨by decide, by decide⟩) rfl) (g := (mkF m 12 #[vR r0, vI 0, vR r2, vI 0, vI 3, vI 0, .unset] [(.int 0), (.ref r0)])) rfl rfl (hb hby d8_12) _ ?_
    refine XS.istore X0.here hx rfl (hb hby d8_13) rfl (l' := #[vR r0, vI 0, vR r2, vI 0, vI 3, vI 0, vI y0]) rfl ?_
    refine XS.iload X0.here hx rfl (hb hby d8_15) rfl ?_
    show Steps p.tables e below (s₁.setTop (mkF m 17 #[vR r0, vI 0, vR r2, vI 0, vI 3, vI 0, vI y0] [(.int y0)])) _
    refine XS.sipush X0.here hx rfl (hb hby d8_17) ?_
    refine XS.icmpNo X0.here hx rfl (hb hby d8_20) rfl (tlt XY0).2.2.2 ?_
    refine XS.iload X0.here hx rfl (hb hby d8_23) rfl ?_
    exact k)
  obtain ⟨fs, hr, hrun, hended, hW, hsame⟩ := X0.leave (v := some (.int 0)) (fun h => by rw [Bd.returns] at h; cases h) hlk
  refine ⟨_, _, kz _ (ks3 _ ?_), hrun, hended, _, _, rfl, ?_, ⟨_, rfl⟩, hW, hsame.mono (by decide) (by decide)⟩
  · exact retI X0 hx Bd.returns (hb hby d8_25) hr
  · show Q8_3U0 Z r0 r2 kr0 kr2 y0 y1 y2 h0 n0 _ s₁.heap _
    rw [e0]
    exact ⟨rfl, N0, (Keep.refl h0 [r2])⟩
theorem ef_8_3U1 (m : MethodId) (x0 : Addr) (x1 : Int32) (x2 : Addr) (x3 : Int32) (x4 : Int32) : entryFrame m #[(.ref x0), (.int x1), (.ref x2), (.int x3), (.int x4)] 7 = mkF m 0 #[.val (.ref x0), .val (.int x1), .val (.ref x2), .val (.int x3), .val (.int x4), .unset, .unset] [] := by first | (simp [entryFrame, mkF, argsToLocals, Value.category]; done) | rfl
def Q8_3U1 (Z : State) (r0 : Addr) (r2 : Addr) (kr0 : ClassId) (kr2 : ClassId) (y0 : Int32) (y1 : Int32) (y2 : Int32) (h0 : Heap) (n0 : Nat) (v : Option Value) (h : Heap) (L : List Loc) : Prop := v = some (.int (1 : Int32)) ∧ Fr n0 L ∧ Keep h0 h [r2]
set_option maxRecDepth 65536 in
set_option maxHeartbeats 40000000 in
theorem rm8_3U1 (l : Launch) (Z : State) (a0 : Array Value) (hw : ∀ d ∈ tables_1, d.before a0 Z = true) (ws : List Jvm.Cond) (r0 : Addr) (r2 : Addr) (kr0 : ClassId) (kr2 : ClassId) (y0 : Int32) (y1 : Int32) (y2 : Int32) (h0 : Heap) (n0 : Nat) (Z0 : n0 ≤ h0.size) (V0 : Arv Z h0 r0 kr0 .char (3 : Int32) [(.int y0), (.int y1), (.int y2)] (.int 0)) (V2 : Arv Z h0 r2 kr2 .byte (3 : Int32) [(.int 0), (.int 0), (.int 0)] (.int 0)) (n02 : r0 ≠ r2) (g_r2 : n0 ≤ r2) (RY0 : y0.toUInt32.toUInt16.toUInt32.toInt32 = y0) (RY1 : y1.toUInt32.toUInt16.toUInt32.toInt32 = y1) (RY2 : y2.toUInt32.toUInt16.toUInt32.toInt32 = y2) (PY0 : ¬ (255 : Int32) < y0) (XY1 : (255 : Int32) < y1) :
    MetFree l (⟨"java/lang/StringUTF16", "compress", "([CI[BII)I"⟩ : MethodName) (head1 (Jvm.Cond.code (⟨"java/lang/StringUTF16", "compress", "([CI[BII)I"⟩ : MethodName) jdk_52_method_21_code 7 (some .int) :: ws) ({ frames := 0, cells := 0, slots := 0, locals := 0 } : Room)) (fun a U => a = #[(.ref r0), (.int 0), (.ref r2), (.int 0), (.int 3)] ∧ Z.Warmed39 U.vm ∧ U.heap = h0) (fun _ _ _ _ _ => True) (fun _ U o U' => ∃ v L, o = .returned v ∧ Q8_3U1 Z r0 r2 kr0 kr2 y0 y1 y2 h0 n0 v U'.heap L ∧ FrameEnd U o U' L ({ frames := 0, cells := 0, slots := 0, locals := 0 } : Room).cells ({ frames := 0, cells := 0, slots := 0, locals := 0 } : Room).slots) := by
  refine MetFree.of_bodySF (plainFor_of_name pn_8) hisR ?_
  intro p e s m args below meth c s₁ Bd hml0 hP hK
  obtain ⟨rfl, hZ, hh⟩ := hP
  have hx := Bd.exec
  have hby := Bd.bytes
  have hml : c.maxLocals = 7 := hml0
  have hown : s.vm.findClass "java/lang/StringUTF16" = some m.cls := findClass_of_methodNamed Bd.named
  have hnm := (name_of_methodNamed Bd.named Bd.method).1
  have hlk : meth.locks = false := by first | exact BodyLoose.notSynchronized Bd | exact Body.notSynchronized Bd
  have X0 : Stand p l e ({ frames := 0, cells := 0, slots := 0, locals := 0 } : Room) s m #[(.ref r0), (.int 0), (.ref r2), (.int 0), (.int 3)] below meth c s₁ [] 0 0 := Stand.of_body Bd
  have e0 : s₁.heap = h0 := by rw [← hh, Bd.state]; rfl
  have N0 := Fr.nil n0
  have k0 : own_R p e below (s₁.setTop (entryFrame m #[(.ref r0), (.int 0), (.ref r2), (.int 0), (.int 3)] 7)) (s₁.setTop (mkF m 0 #[vR r0, vI 0, vR r2, vI 0, vI 3, .unset, .unset] [])) := fun t k => castTop (ef_8_3U1 m r0 (0 : Int32) r2 (0 : Int32) (3 : Int32)) k
  obtain ⟨A0, hA0⟩ : ∃ z, z = s₁.setTop (entryFrame m #[(.ref r0), (.int 0), (.ref r2), (.int 0), (.int 3)] 7) := ⟨_, rfl⟩
  rw [← hA0] at k0
  have kz : ∀ t, Steps p.tables e below A0 t → Steps p.tables e below (s₁.setTop (entryFrame m #[(.ref r0), (.int 0), (.ref r2), (.int 0), (.int 3)] 7)) t := fun t q => hA0 ▸ q
  have ks1 : own_R p e below (A0) (s₁.setTop (mkF m 12 #[vR r0, vI 0, vR r2, vI 0, vI 3, vI 0, .unset] [(.int 0), (.ref r0)])) := fun t k => k0 t (by
    refine XS.iconst X0.here hx rfl (hb hby d8_0) ?_
    refine XS.istore X0.here hx rfl (hb hby d8_1) rfl (l' := #[vR r0, vI 0, vR r2, vI 0, vI 3, vI 0, .unset]) rfl ?_
    refine XS.iload X0.here hx rfl (hb hby d8_3) rfl ?_
    show Steps p.tables e below (s₁.setTop (mkF m 5 #[vR r0, vI 0, vR r2, vI 0, vI 3, vI 0, .unset] [(.int 0)])) _
    refine XS.iload X0.here hx rfl (hb hby d8_5) rfl ?_
    refine XS.icmpNo X0.here hx rfl (hb hby d8_7) rfl (tlt (by decide)).2.1 ?_
    refine XS.aloadN X0.here hx rfl (hb hby d8_10) rfl rfl ?_
    refine XS.iloadN X0.here hx rfl (hb hby d8_11) rfl ?_
    exact k)
  obtain ⟨cl2, Ar2, qa2, S2, Na2, Ha2, Ga2⟩ := id V0
  have ks3 : own_R p e below (A0) (s₁.setTop (mkF m 31 #[vR r0, vI 0, vR r2, vI 0, vI 3, vI 0, vI y0] [(.int (y0.toInt8.toInt32)), (.int 0), (.ref r2)])) := fun t k => ks1 t (by
    refine X0.caload hx (j := (0 : Int32)) (v := (.int y0)) (by rw [e0]; exact Ar2.1) (State.isArrayOf_alike hZ.alike Ar2.2.1) Ar2.2.2 (inb_of S2 ⟨by decide, by decide⟩) (Has.at Ha2 (inb_of S2 ⟨by decide, by decide⟩) rfl) (g := (mkF m 12 #[vR r0, vI 0, vR r2, vI 0, vI 3, vI 0, .unset] [(.int 0), (.ref r0)])) rfl rfl (hb hby d8_12) _ ?_
    refine XS.istore X0.here hx rfl (hb hby d8_13) rfl (l' := #[vR r0, vI 0, vR r2, vI 0, vI 3, vI 0, vI y0]) rfl ?_
    refine XS.iload X0.here hx rfl (hb hby d8_15) rfl ?_
    show Steps p.tables e below (s₁.setTop (mkF m 17 #[vR r0, vI 0, vR r2, vI 0, vI 3, vI 0, vI y0] [(.int y0)])) _
    refine XS.sipush X0.here hx rfl (hb hby d8_17) ?_
    refine XS.icmpYes X0.here hx rfl (pc0 := 20) (pc' := 26) rfl (hb hby d8_20) rfl (flt PY0).2.2.2 (by decide) (by decide) ?_
    refine XS.aloadN X0.here hx rfl (hb hby d8_26) rfl rfl ?_
    refine XS.iloadN X0.here hx rfl (hb hby d8_27) rfl ?_
    show Steps p.tables e below (s₁.setTop (mkF m 28 #[vR r0, vI 0, vR r2, vI 0, vI 3, vI 0, vI y0] [(.int 0), (.ref r2)])) _
    refine XS.iload X0.here hx rfl (hb hby d8_28) rfl ?_
    refine XS.i2b X0.here hx rfl (hb hby d8_30) rfl ?_
    exact k)
  obtain ⟨cl4, Ar4, qa4, S4, Na4, Ha4, Ga4⟩ := id V2
  have hin4 : ¬ ((0 : Int32) < 0 ∨ cl4.slots.size ≤ ((0 : Int32)).toNatClampNeg) := inb_of S4 ⟨by decide, by decide⟩
  obtain ⟨T5, h5, X5, e5, W5, st5⟩ := stB X0 hx hZ e0 Ar4 (j := (0 : Int32)) hin4 (g := (mkF m 31 #[vR r0, vI 0, vR r2, vI 0, vI 3, vI 0, vI y0] [(.int (y0.toInt8.toInt32)), (.int 0), (.ref r2)])) rfl rfl (hb hby d8_31)
  have V5 : Arv Z h5 r2 kr2 .byte (3 : Int32) [(.int ((y0.toInt8.toInt32).toInt8.toInt32)), (.int 0), (.int 0)] (.int 0) := Arv.set Ar4 qa4 S4 Na4 Ha4 Ga4 (fits_nar_byte _) W5 0 rfl (Nat.le_of_ble_eq_true rfl)
  rw [Int8.toInt8_toInt32] at V5
  have KH5 : Keep h0 h5 [r2] := (Keep.refl h0 [r2]).wr W5 (Or.inl (List.mem_of_getElem? (i := 0) rfl))
  have Zn5 : n0 ≤ h5.size := Nat.le_trans Z0 (Keep.of_wr W5).1
  have N5 := Fr.snoc X5 N0 g_r2
  have ks6 := own_c ks3 st5
  have ks7 : own_R p e below (A0) (T5.setTop (mkF m 12 #[vR r0, vI 1, vR r2, vI 1, vI 3, vI 1, vI y0] [(.int 1), (.ref r0)])) := fun t k => ks6 t (by
    refine XS.iinc X5.here hx rfl (hb hby d8_32) rfl (l' := #[vR r0, vI 1, vR r2, vI 0, vI 3, vI 0, vI y0]) rfl ?_
    refine XS.iinc X5.here hx rfl (hb hby d8_35) rfl (l' := #[vR r0, vI 1, vR r2, vI 1, vI 3, vI 0, vI y0]) rfl ?_
    refine XS.iinc X5.here hx rfl (hb hby d8_38) rfl (l' := #[vR r0, vI 1, vR r2, vI 1, vI 3, vI 1, vI y0]) rfl ?_
    show Steps p.tables e below (T5.setTop (mkF m 41 #[vR r0, vI 1, vR r2, vI 1, vI 3, vI 1, vI y0] [])) _
    refine XS.goto X5.here hx rfl (pc0 := 41) (pc' := 3) rfl (hb hby d8_41) (by decide) (by decide) ?_
    refine XS.iload X5.here hx rfl (hb hby d8_3) rfl ?_
    refine XS.iload X5.here hx rfl (hb hby d8_5) rfl ?_
    refine XS.icmpNo X5.here hx rfl (hb hby d8_7) rfl (tlt (by decide)).2.1 ?_
    show Steps p.tables e below (T5.setTop (mkF m 10 #[vR r0, vI 1, vR r2, vI 1, vI 3, vI 1, vI y0] [])) _
    refine XS.aloadN X5.here hx rfl (hb hby d8_10) rfl rfl ?_
    refine XS.iloadN X5.here hx rfl (hb hby d8_11) rfl ?_
    exact k)
  have f8 := V0.keep KH5 (ninS n02 nin0)
  obtain ⟨cl9, Ar9, qa9, S9, Na9, Ha9, Ga9⟩ := id f8
  have ks10 : own_R p e below (A0) (T5.setTop (mkF m 25 #[vR r0, vI 1, vR r2, vI 1, vI 3, vI 1, vI y1] [(.int 1)])) := fun t k => ks7 t (by
    refine X5.caload hx (j := (1 : Int32)) (v := (.int y1)) (by rw [e5]; exact Ar9.1) (State.isArrayOf_alike hZ.alike Ar9.2.1) Ar9.2.2 (inb_of S9 ⟨by decide, by decide⟩) (Has.at Ha9 (inb_of S9 ⟨by decide, by decide⟩) rfl) (g := (mkF m 12 #[vR r0, vI 1, vR r2, vI 1, vI 3, vI 1, vI y0] [(.int 1), (.ref r0)])) rfl rfl (hb hby d8_12) _ ?_
    refine XS.istore X5.here hx rfl (hb hby d8_13) rfl (l' := #[vR r0, vI 1, vR r2, vI 1, vI 3, vI 1, vI y1]) rfl ?_
    refine XS.iload X5.here hx rfl (hb hby d8_15) rfl ?_
    show Steps p.tables e below (T5.setTop (mkF m 17 #[vR r0, vI 1, vR r2, vI 1, vI 3, vI 1, vI y1] [(.int y1)])) _
    refine XS.sipush X5.here hx rfl (hb hby d8_17) ?_
    refine XS.icmpNo X5.here hx rfl (hb hby d8_20) rfl (tlt XY1).2.2.2 ?_
    refine XS.iload X5.here hx rfl (hb hby d8_23) rfl ?_
    exact k)
  obtain ⟨fs, hr, hrun, hended, hW, hsame⟩ := X5.leave (v := some (.int 1)) (fun h => by rw [Bd.returns] at h; cases h) hlk
  refine ⟨_, _, kz _ (ks10 _ ?_), hrun, hended, _, _, rfl, ?_, ⟨_, rfl⟩, hW, hsame.mono (by decide) (by decide)⟩
  · exact retI X5 hx Bd.returns (hb hby d8_25) hr
  · show Q8_3U1 Z r0 r2 kr0 kr2 y0 y1 y2 h0 n0 _ T5.heap _
    rw [e5]
    exact ⟨rfl, N5, KH5⟩
theorem ef_8_3U2 (m : MethodId) (x0 : Addr) (x1 : Int32) (x2 : Addr) (x3 : Int32) (x4 : Int32) : entryFrame m #[(.ref x0), (.int x1), (.ref x2), (.int x3), (.int x4)] 7 = mkF m 0 #[.val (.ref x0), .val (.int x1), .val (.ref x2), .val (.int x3), .val (.int x4), .unset, .unset] [] := by first | (simp [entryFrame, mkF, argsToLocals, Value.category]; done) | rfl
def Q8_3U2 (Z : State) (r0 : Addr) (r2 : Addr) (kr0 : ClassId) (kr2 : ClassId) (y0 : Int32) (y1 : Int32) (y2 : Int32) (h0 : Heap) (n0 : Nat) (v : Option Value) (h : Heap) (L : List Loc) : Prop := v = some (.int (2 : Int32)) ∧ Fr n0 L ∧ Keep h0 h [r2]
set_option maxRecDepth 65536 in
set_option maxHeartbeats 40000000 in
theorem rm8_3U2 (l : Launch) (Z : State) (a0 : Array Value) (hw : ∀ d ∈ tables_1, d.before a0 Z = true) (ws : List Jvm.Cond) (r0 : Addr) (r2 : Addr) (kr0 : ClassId) (kr2 : ClassId) (y0 : Int32) (y1 : Int32) (y2 : Int32) (h0 : Heap) (n0 : Nat) (Z0 : n0 ≤ h0.size) (V0 : Arv Z h0 r0 kr0 .char (3 : Int32) [(.int y0), (.int y1), (.int y2)] (.int 0)) (V2 : Arv Z h0 r2 kr2 .byte (3 : Int32) [(.int 0), (.int 0), (.int 0)] (.int 0)) (n02 : r0 ≠ r2) (g_r2 : n0 ≤ r2) (RY0 : y0.toUInt32.toUInt16.toUInt32.toInt32 = y0) (RY1 : y1.toUInt32.toUInt16.toUInt32.toInt32 = y1) (RY2 : y2.toUInt32.toUInt16.toUInt32.toInt32 = y2) (PY0 : ¬ (255 : Int32) < y0) (PY1 : ¬ (255 : Int32) < y1) (XY2 : (255 : Int32) < y2) :
    MetFree l (⟨"java/lang/StringUTF16", "compress", "([CI[BII)I"⟩ : MethodName) (head1 (Jvm.Cond.code (⟨"java/lang/StringUTF16", "compress", "([CI[BII)I"⟩ : MethodName) jdk_52_method_21_code 7 (some .int) :: ws) ({ frames := 0, cells := 0, slots := 0, locals := 0 } : Room)) (fun a U => a = #[(.ref r0), (.int 0), (.ref r2), (.int 0), (.int 3)] ∧ Z.Warmed39 U.vm ∧ U.heap = h0) (fun _ _ _ _ _ => True) (fun _ U o U' => ∃ v L, o = .returned v ∧ Q8_3U2 Z r0 r2 kr0 kr2 y0 y1 y2 h0 n0 v U'.heap L ∧ FrameEnd U o U' L ({ frames := 0, cells := 0, slots := 0, locals := 0 } : Room).cells ({ frames := 0, cells := 0, slots := 0, locals := 0 } : Room).slots) := by
  refine MetFree.of_bodySF (plainFor_of_name pn_8) hisR ?_
  intro p e s m args below meth c s₁ Bd hml0 hP hK
  obtain ⟨rfl, hZ, hh⟩ := hP
  have hx := Bd.exec
  have hby := Bd.bytes
  have hml : c.maxLocals = 7 := hml0
  have hown : s.vm.findClass "java/lang/StringUTF16" = some m.cls := findClass_of_methodNamed Bd.named
  have hnm := (name_of_methodNamed Bd.named Bd.method).1
  have hlk : meth.locks = false := by first | exact BodyLoose.notSynchronized Bd | exact Body.notSynchronized Bd
  have X0 : Stand p l e ({ frames := 0, cells := 0, slots := 0, locals := 0 } : Room) s m #[(.ref r0), (.int 0), (.ref r2), (.int 0), (.int 3)] below meth c s₁ [] 0 0 := Stand.of_body Bd
  have e0 : s₁.heap = h0 := by rw [← hh, Bd.state]; rfl
  have N0 := Fr.nil n0
  have k0 : own_R p e below (s₁.setTop (entryFrame m #[(.ref r0), (.int 0), (.ref r2), (.int 0), (.int 3)] 7)) (s₁.setTop (mkF m 0 #[vR r0, vI 0, vR r2, vI 0, vI 3, .unset, .unset] [])) := fun t k => castTop (ef_8_3U2 m r0 (0 : Int32) r2 (0 : Int32) (3 : Int32)) k
  obtain ⟨A0, hA0⟩ : ∃ z, z = s₁.setTop (entryFrame m #[(.ref r0), (.int 0), (.ref r2), (.int 0), (.int 3)] 7) := ⟨_, rfl⟩
  rw [← hA0] at k0
  have kz : ∀ t, Steps p.tables e below A0 t → Steps p.tables e below (s₁.setTop (entryFrame m #[(.ref r0), (.int 0), (.ref r2), (.int 0), (.int 3)] 7)) t := fun t q => hA0 ▸ q
  have ks1 : own_R p e below (A0) (s₁.setTop (mkF m 12 #[vR r0, vI 0, vR r2, vI 0, vI 3, vI 0, .unset] [(.int 0), (.ref r0)])) := fun t k => k0 t (by
    refine XS.iconst X0.here hx rfl (hb hby d8_0) ?_
    refine XS.istore X0.here hx rfl (hb hby d8_1) rfl (l' := #[vR r0, vI 0, vR r2, vI 0, vI 3, vI 0, .unset]) rfl ?_
    refine XS.iload X0.here hx rfl (hb hby d8_3) rfl ?_
    show Steps p.tables e below (s₁.setTop (mkF m 5 #[vR r0, vI 0, vR r2, vI 0, vI 3, vI 0, .unset] [(.int 0)])) _
    refine XS.iload X0.here hx rfl (hb hby d8_5) rfl ?_
    refine XS.icmpNo X0.here hx rfl (hb hby d8_7) rfl (tlt (by decide)).2.1 ?_
    refine XS.aloadN X0.here hx rfl (hb hby d8_10) rfl rfl ?_
    refine XS.iloadN X0.here hx rfl (hb hby d8_11) rfl ?_
    exact k)
  obtain ⟨cl2, Ar2, qa2, S2, Na2, Ha2, Ga2⟩ := id V0
  have ks3 : own_R p e below (A0) (s₁.setTop (mkF m 31 #[vR r0, vI 0, vR r2, vI 0, vI 3, vI 0, vI y0] [(.int (y0.toInt8.toInt32)), (.int 0), (.ref r2)])) := fun t k => ks1 t (by
    refine X0.caload hx (j := (0 : Int32)) (v := (.int y0)) (by rw [e0]; exact Ar2.1) (State.isArrayOf_alike hZ.alike Ar2.2.1) Ar2.2.2 (inb_of S2 ⟨by decide, by decide⟩) (Has.at Ha2 (inb_of S2 ⟨by decide, by decide⟩) rfl) (g := (mkF m 12 #[vR r0, vI 0, vR r2, vI 0, vI 3, vI 0, .unset] [(.int 0), (.ref r0)])) rfl rfl (hb hby d8_12) _ ?_
    refine XS.istore X0.here hx rfl (hb hby d8_13) rfl (l' := #[vR r0, vI 0, vR r2, vI 0, vI 3, vI 0, vI y0]) rfl ?_
    refine XS.iload X0.here hx rfl (hb hby d8_15) rfl ?_
    show Steps p.tables e below (s₁.setTop (mkF m 17 #[vR r0, vI 0, vR r2, vI 0, vI 3, vI 0, vI y0] [(.int y0)])) _
    refine XS.sipush X0.here hx rfl (hb hby d8_17) ?_
    refine XS.icmpYes X0.here hx rfl (pc0 := 20) (pc' := 26) rfl (hb hby d8_20) rfl (flt PY0).2.2.2 (by decide) (by decide) ?_
    refine XS.aloadN X0.here hx rfl (hb hby d8_26) rfl rfl ?_
    refine XS.iloadN X0.here hx rfl (hb hby d8_27) rfl ?_
    show Steps p.tables e below (s₁.setTop (mkF m 28 #[vR r0, vI 0, vR r2, vI 0, vI 3, vI 0, vI y0] [(.int 0), (.ref r2)])) _
    refine XS.iload X0.here hx rfl (hb hby d8_28) rfl ?_
    refine XS.i2b X0.here hx rfl (hb hby d8_30) rfl ?_
    exact k)
  obtain ⟨cl4, Ar4, qa4, S4, Na4, Ha4, Ga4⟩ := id V2
  have hin4 : ¬ ((0 : Int32) < 0 ∨ cl4.slots.size ≤ ((0 : Int32)).toNatClampNeg) := inb_of S4 ⟨by decide, by decide⟩
  obtain ⟨T5, h5, X5, e5, W5, st5⟩ := stB X0 hx hZ e0 Ar4 (j := (0 : Int32)) hin4 (g := (mkF m 31 #[vR r0, vI 0, vR r2, vI 0, vI 3, vI 0, vI y0] [(.int (y0.toInt8.toInt32)), (.int 0), (.ref r2)])) rfl rfl (hb hby d8_31)
  have V5 : Arv Z h5 r2 kr2 .byte (3 : Int32) [(.int ((y0.toInt8.toInt32).toInt8.toInt32)), (.int 0), (.int 0)] (.int 0) := Arv.set Ar4 qa4 S4 Na4 Ha4 Ga4 (fits_nar_byte _) W5 0 rfl (Nat.le_of_ble_eq_true rfl)
  rw [Int8.toInt8_toInt32] at V5
  have KH5 : Keep h0 h5 [r2] := (Keep.refl h0 [r2]).wr W5 (Or.inl (List.mem_of_getElem? (i := 0) rfl))
  have Zn5 : n0 ≤ h5.size := Nat.le_trans Z0 (Keep.of_wr W5).1
  have N5 := Fr.snoc X5 N0 g_r2
  have ks6 := own_c ks3 st5
  have ks7 : own_R p e below (A0) (T5.setTop (mkF m 12 #[vR r0, vI 1, vR r2, vI 1, vI 3, vI 1, vI y0] [(.int 1), (.ref r0)])) := fun t k => ks6 t (by
    refine XS.iinc X5.here hx rfl (hb hby d8_32) rfl (l' := #[vR r0, vI 1, vR r2, vI 0, vI 3, vI 0, vI y0]) rfl ?_
    refine XS.iinc X5.here hx rfl (hb hby d8_35) rfl (l' := #[vR r0, vI 1, vR r2, vI 1, vI 3, vI 0, vI y0]) rfl ?_
    refine XS.iinc X5.here hx rfl (hb hby d8_38) rfl (l' := #[vR r0, vI 1, vR r2, vI 1, vI 3, vI 1, vI y0]) rfl ?_
    show Steps p.tables e below (T5.setTop (mkF m 41 #[vR r0, vI 1, vR r2, vI 1, vI 3, vI 1, vI y0] [])) _
    refine XS.goto X5.here hx rfl (pc0 := 41) (pc' := 3) rfl (hb hby d8_41) (by decide) (by decide) ?_
    refine XS.iload X5.here hx rfl (hb hby d8_3) rfl ?_
    refine XS.iload X5.here hx rfl (hb hby d8_5) rfl ?_
    refine XS.icmpNo X5.here hx rfl (hb hby d8_7) rfl (tlt (by decide)).2.1 ?_
    show Steps p.tables e below (T5.setTop (mkF m 10 #[vR r0, vI 1, vR r2, vI 1, vI 3, vI 1, vI y0] [])) _
    refine XS.aloadN X5.here hx rfl (hb hby d8_10) rfl rfl ?_
    refine XS.iloadN X5.here hx rfl (hb hby d8_11) rfl ?_
    exact k)
  have f8 := V0.keep KH5 (ninS n02 nin0)
  obtain ⟨cl9, Ar9, qa9, S9, Na9, Ha9, Ga9⟩ := id f8
  have ks10 : own_R p e below (A0) (T5.setTop (mkF m 31 #[vR r0, vI 1, vR r2, vI 1, vI 3, vI 1, vI y1] [(.int (y1.toInt8.toInt32)), (.int 1), (.ref r2)])) := fun t k => ks7 t (by
    refine X5.caload hx (j := (1 : Int32)) (v := (.int y1)) (by rw [e5]; exact Ar9.1) (State.isArrayOf_alike hZ.alike Ar9.2.1) Ar9.2.2 (inb_of S9 ⟨by decide, by decide⟩) (Has.at Ha9 (inb_of S9 ⟨by decide, by decide⟩) rfl) (g := (mkF m 12 #[vR r0, vI 1, vR r2, vI 1, vI 3, vI 1, vI y0] [(.int 1), (.ref r0)])) rfl rfl (hb hby d8_12) _ ?_
    refine XS.istore X5.here hx rfl (hb hby d8_13) rfl (l' := #[vR r0, vI 1, vR r2, vI 1, vI 3, vI 1, vI y1]) rfl ?_
    refine XS.iload X5.here hx rfl (hb hby d8_15) rfl ?_
    show Steps p.tables e below (T5.setTop (mkF m 17 #[vR r0, vI 1, vR r2, vI 1, vI 3, vI 1, vI y1] [(.int y1)])) _
    refine XS.sipush X5.here hx rfl (hb hby d8_17) ?_
    refine XS.icmpYes X5.here hx rfl (pc0 := 20) (pc' := 26) rfl (hb hby d8_20) rfl (flt PY1).2.2.2 (by decide) (by decide) ?_
    refine XS.aloadN X5.here hx rfl (hb hby d8_26) rfl rfl ?_
    refine XS.iloadN X5.here hx rfl (hb hby d8_27) rfl ?_
    show Steps p.tables e below (T5.setTop (mkF m 28 #[vR r0, vI 1, vR r2, vI 1, vI 3, vI 1, vI y1] [(.int 1), (.ref r2)])) _
    refine XS.iload X5.here hx rfl (hb hby d8_28) rfl ?_
    refine XS.i2b X5.here hx rfl (hb hby d8_30) rfl ?_
    exact k)
  obtain ⟨cl11, Ar11, qa11, S11, Na11, Ha11, Ga11⟩ := id V5
  have hin11 : ¬ ((1 : Int32) < 0 ∨ cl11.slots.size ≤ ((1 : Int32)).toNatClampNeg) := inb_of S11 ⟨by decide, by decide⟩
  obtain ⟨T12, h12, X12, e12, W12, st12⟩ := stB X5 hx hZ e5 Ar11 (j := (1 : Int32)) hin11 (g := (mkF m 31 #[vR r0, vI 1, vR r2, vI 1, vI 3, vI 1, vI y1] [(.int (y1.toInt8.toInt32)), (.int 1), (.ref r2)])) rfl rfl (hb hby d8_31)
  have V12 : Arv Z h12 r2 kr2 .byte (3 : Int32) [(.int (y0.toInt8.toInt32)), (.int ((y1.toInt8.toInt32).toInt8.toInt32)), (.int 0)] (.int 0) := Arv.set Ar11 qa11 S11 Na11 Ha11 Ga11 (fits_nar_byte _) W12 1 rfl (Nat.le_of_ble_eq_true rfl)
  rw [Int8.toInt8_toInt32] at V12
  have KH12 : Keep h0 h12 [r2] := KH5.wr W12 (Or.inl (List.mem_of_getElem? (i := 0) rfl))
  have Zn12 : n0 ≤ h12.size := Nat.le_trans Zn5 (Keep.of_wr W12).1
  have N12 := Fr.snoc X12 N5 g_r2
  have ks13 := own_c ks10 st12
  have ks14 : own_R p e below (A0) (T12.setTop (mkF m 12 #[vR r0, vI 2, vR r2, vI 2, vI 3, vI 2, vI y1] [(.int 2), (.ref r0)])) := fun t k => ks13 t (by
    refine XS.iinc X12.here hx rfl (hb hby d8_32) rfl (l' := #[vR r0, vI 2, vR r2, vI 1, vI 3, vI 1, vI y1]) rfl ?_
    refine XS.iinc X12.here hx rfl (hb hby d8_35) rfl (l' := #[vR r0, vI 2, vR r2, vI 2, vI 3, vI 1, vI y1]) rfl ?_
    refine XS.iinc X12.here hx rfl (hb hby d8_38) rfl (l' := #[vR r0, vI 2, vR r2, vI 2, vI 3, vI 2, vI y1]) rfl ?_
    show Steps p.tables e below (T12.setTop (mkF m 41 #[vR r0, vI 2, vR r2, vI 2, vI 3, vI 2, vI y1] [])) _
    refine XS.goto X12.here hx rfl (pc0 := 41) (pc' := 3) rfl (hb hby d8_41) (by decide) (by decide) ?_
    refine XS.iload X12.here hx rfl (hb hby d8_3) rfl ?_
    refine XS.iload X12.here hx rfl (hb hby d8_5) rfl ?_
    refine XS.icmpNo X12.here hx rfl (hb hby d8_7) rfl (tlt (by decide)).2.1 ?_
    show Steps p.tables e below (T12.setTop (mkF m 10 #[vR r0, vI 2, vR r2, vI 2, vI 3, vI 2, vI y1] [])) _
    refine XS.aloadN X12.here hx rfl (hb hby d8_10) rfl rfl ?_
    refine XS.iloadN X12.here hx rfl (hb hby d8_11) rfl ?_
    exact k)
  have f15 := V0.keep KH12 (ninS n02 nin0)
  obtain ⟨cl16, Ar16, qa16, S16, Na16, Ha16, Ga16⟩ := id f15
  have ks17 : own_R p e below (A0) (T12.setTop (mkF m 25 #[vR r0, vI 2, vR r2, vI 2, vI 3, vI 2, vI y2] [(.int 2)])) := fun t k => ks14 t (by
    refine X12.caload hx (j := (2 : Int32)) (v := (.int y2)) (by rw [e12]; exact Ar16.1) (State.isArrayOf_alike hZ.alike Ar16.2.1) Ar16.2.2 (inb_of S16 ⟨by decide, by decide⟩) (Has.at Ha16 (inb_of S16 ⟨by decide, by decide⟩) rfl) (g := (mkF m 12 #[vR r0, vI 2, vR r2, vI 2, vI 3, vI 2, vI y1] [(.int 2), (.ref r0)])) rfl rfl (hb hby d8_12) _ ?_
    refine XS.istore X12.here hx rfl (hb hby d8_13) rfl (l' := #[vR r0, vI 2, vR r2, vI 2, vI 3, vI 2, vI y2]) rfl ?_
    refine XS.iload X12.here hx rfl (hb hby d8_15) rfl ?_
    show Steps p.tables e below (T12.setTop (mkF m 17 #[vR r0, vI 2, vR r2, vI 2, vI 3, vI 2, vI y2] [(.int y2)])) _
    refine XS.sipush X12.here hx rfl (hb hby d8_17) ?_
    refine XS.icmpNo X12.here hx rfl (hb hby d8_20) rfl (tlt XY2).2.2.2 ?_
    refine XS.iload X12.here hx rfl (hb hby d8_23) rfl ?_
    exact k)
  obtain ⟨fs, hr, hrun, hended, hW, hsame⟩ := X12.leave (v := some (.int 2)) (fun h => by rw [Bd.returns] at h; cases h) hlk
  refine ⟨_, _, kz _ (ks17 _ ?_), hrun, hended, _, _, rfl, ?_, ⟨_, rfl⟩, hW, hsame.mono (by decide) (by decide)⟩
  · exact retI X12 hx Bd.returns (hb hby d8_25) hr
  · show Q8_3U2 Z r0 r2 kr0 kr2 y0 y1 y2 h0 n0 _ T12.heap _
    rw [e12]
    exact ⟨rfl, N12, KH12⟩
theorem ef_7_3G (m : MethodId) (x0 : Addr) (x1 : Int32) (x2 : Int32) : entryFrame m #[(.ref x0), (.int x1), (.int x2)] 6 = mkF m 0 #[.val (.ref x0), .val (.int x1), .val (.int x2), .unset, .unset, .unset] [] := by first | (simp [entryFrame, mkF, argsToLocals, Value.category]; done) | rfl
def Q7_3G (Z : State) (r0 : Addr) (kr0 : ClassId) (y0 : Int32) (y1 : Int32) (y2 : Int32) (h0 : Heap) (n0 : Nat) (v : Option Value) (h : Heap) (L : List Loc) : Prop := ∃ (b : Addr) (kt : ClassId) (k z : Int32) (vs : List Value), v = some (.ref b) ∧ Fr n0 L ∧ Keep h0 h [] ∧ n0 ≤ b ∧ h0.size ≤ b ∧ Arv Z h b kt .byte z vs (.int 0) ∧ own_sh 3 k z vs [y0, y1, y2]
set_option maxRecDepth 65536 in
set_option maxHeartbeats 40000000 in
theorem rm7_3G (l : Launch) (Z : State) (a0 : Array Value) (hw : ∀ d ∈ tables_1, d.before a0 Z = true) (ws : List Jvm.Cond) (r0 : Addr) (kr0 : ClassId) (y0 : Int32) (y1 : Int32) (y2 : Int32) (h0 : Heap) (n0 : Nat) (Z0 : n0 ≤ h0.size) (S7a : own_S7a Z h0) (S7b : own_S7b Z h0) (S7c : own_S7c Z h0) (V0 : Arv Z h0 r0 kr0 .char (3 : Int32) [(.int y0), (.int y1), (.int y2)] (.int 0)) (RY0 : y0.toUInt32.toUInt16.toUInt32.toInt32 = y0) (RY1 : y1.toUInt32.toUInt16.toUInt32.toInt32 = y1) (RY2 : y2.toUInt32.toUInt16.toUInt32.toInt32 = y2) :
    MetFree l (⟨"java/lang/StringUTF16", "compress", "([CII)[B"⟩ : MethodName) (head1 (Jvm.Cond.code (⟨"java/lang/StringUTF16", "compress", "([CII)[B"⟩ : MethodName) jdk_52_method_16_code 6 (some (.array .byte)) :: ws) ({ frames := 3, cells := 2, slots := 9, locals := 40 } : Room)) (fun a U => a = #[(.ref r0), (.int 0), (.int 3)] ∧ Z.Warmed39 U.vm ∧ U.heap = h0) (fun _ _ _ _ _ => True) (fun _ U o U' => ∃ v L, o = .returned v ∧ Q7_3G Z r0 kr0 y0 y1 y2 h0 n0 v U'.heap L ∧ FrameEnd U o U' L ({ frames := 3, cells := 2, slots := 9, locals := 40 } : Room).cells ({ frames := 3, cells := 2, slots := 9, locals := 40 } : Room).slots) := by
  refine MetFree.of_bodySF (plainFor_of_name pn_7) hisR ?_
  intro p e s m args below meth c s₁ Bd hml0 hP hK
  obtain ⟨rfl, hZ, hh⟩ := hP
  have hx := Bd.exec
  have hby := Bd.bytes
  have hml : c.maxLocals = 6 := hml0
  have hown : s.vm.findClass "java/lang/StringUTF16" = some m.cls := findClass_of_methodNamed Bd.named
  have hnm := (name_of_methodNamed Bd.named Bd.method).1
  have hlk : meth.locks = false := by first | exact BodyLoose.notSynchronized Bd | exact Body.notSynchronized Bd
  have X0 : Stand p l e ({ frames := 3, cells := 2, slots := 9, locals := 40 } : Room) s m #[(.ref r0), (.int 0), (.int 3)] below meth c s₁ [] 0 0 := Stand.of_body Bd
  have e0 : s₁.heap = h0 := by rw [← hh, Bd.state]; rfl
  have N0 := Fr.nil n0
  have k0 : own_R p e below (s₁.setTop (entryFrame m #[(.ref r0), (.int 0), (.int 3)] 6)) (s₁.setTop (mkF m 0 #[vR r0, vI 0, vI 3, .unset, .unset, .unset] [])) := fun t k => castTop (ef_7_3G m r0 (0 : Int32) (3 : Int32)) k
  obtain ⟨A0, hA0⟩ : ∃ z, z = s₁.setTop (entryFrame m #[(.ref r0), (.int 0), (.int 3)] 6) := ⟨_, rfl⟩
  rw [← hA0] at k0
  have kz : ∀ t, Steps p.tables e below A0 t → Steps p.tables e below (s₁.setTop (entryFrame m #[(.ref r0), (.int 0), (.int 3)] 6)) t := fun t q => hA0 ▸ q
  by_cases hc1 : (255 : Int32) < y0
  · skip
    have ks2 : own_R p e below (A0) (s₁.setTop (mkF m 1 #[vR r0, vI 0, vI 3, .unset, .unset, .unset] [(.int 3)])) := fun t k => k0 t (by
      refine XS.iloadN X0.here hx rfl (hb hby d7_0) rfl ?_
      exact k)
    obtain ⟨T3, h3, c3, X3, e3, E3, A3, st3⟩ := newP X0 hx hZ (own_w hw 20 rfl) e0 (g := (mkF m 1 #[vR r0, vI 0, vI 3, .unset, .unset, .unset] [(.int 3)])) rfl (hb hby d7_1) rfl (by decide) (cap := 3) (by decide) (by decide) (by decide) (by decide)
    obtain ⟨b3, g3⟩ : ∃ z, z = h0.size := ⟨_, rfl⟩
    rw [← g3] at A3 st3
    have ne_r0_b3 : r0 ≠ b3 := Nat.ne_of_lt (Nat.lt_of_lt_of_le V0.lt (Nat.le_of_eq g3.symm))
    have g_b3 : n0 ≤ b3 := Nat.le_trans Z0 (Nat.le_of_eq g3.symm)
    have sz_b3 : h0.size ≤ b3 := Nat.le_trans (Keep.refl h0 []).1 (Nat.le_of_eq g3.symm)
    have KH3 : Keep h0 h3 [] := (Keep.refl h0 []).ext E3
    have Zn3 : n0 ≤ h3.size := Nat.le_trans Z0 E3.1
    have V3 : Arv Z h3 b3 c3 .byte (3 : Int32) [(.int (0 : Int32)), (.int (0 : Int32)), (.int (0 : Int32))] (.int (0 : Int32)) := (Arv.new A3 (by decide)).pad (pad_rep [] (.int (0 : Int32)) 3)
    have ks4 := own_c ks2 st3
    have ks5 : own_R p e below (A0) (T3.setTop (mkF m 9 #[vR r0, vI 0, vI 3, vR b3, .unset, .unset] [(.int 3), (.int 0), (.ref b3), (.int 0), (.ref r0)])) := fun t k => ks4 t (by
      refine XS.astoreN X3.here hx rfl (hb hby d7_3) rfl rfl (l' := #[vR r0, vI 0, vI 3, vR b3, .unset, .unset]) rfl ?_
      refine XS.aloadN X3.here hx rfl (hb hby d7_4) rfl rfl ?_
      refine XS.iloadN X3.here hx rfl (hb hby d7_5) rfl ?_
      show Steps p.tables e below (T3.setTop (mkF m 6 #[vR r0, vI 0, vI 3, vR b3, .unset, .unset] [(.int 0), (.ref r0)])) _
      refine XS.aloadN X3.here hx rfl (hb hby d7_6) rfl rfl ?_
      refine XS.iconst X3.here hx rfl (hb hby d7_7) ?_
      refine XS.iloadN X3.here hx rfl (hb hby d7_8) rfl ?_
      exact k)
    have f7 := V0.keep KH3 nin0
    obtain ⟨_, _, ⟨T6, L6, k6, n6⟩, -, X6, ⟨Lc6, hQ6, lq6, yq6, zq6⟩, st6⟩ := Jvm.LawKit.callS X3 hx (y := (⟨"java/lang/StringUTF16", "compress", "([CI[BII)I"⟩ : MethodName)) hown (mvT hZ (own_w hw 42 rfl)) (mvT hZ (own_w hw 43 rfl)) (mvT hZ (own_w hw 40 rfl)) (mvT hZ (own_w hw 44 rfl)) (by decide) (backOf (W := 0) (rm8_3U0 l Z a0 hw [] r0 b3 _ _ y0 y1 y2 h3 n0 Zn3 f7 V3 ne_r0_b3 g_b3 RY0 RY1 RY2 hc1) hZ (own_w hw 44 rfl) (own_w hw 40 rfl) (by decide) (by decide)) (g := (mkF m 9 #[vR r0, vI 0, vI 3, vR b3, .unset, .unset] [(.int 3), (.int 0), (.ref b3), (.int 0), (.ref r0)])) rfl (by rw [hml]; rfl) (argsL := [(.ref r0), (.int 0), (.ref b3), (.int 0), (.int 3)]) (rest := []) (lenOf pd_7 rfl) rfl (by show 2 * 0 + _ ≤ _; exact Nat.le_of_eq rfl) (hb hby d7_9) (fun _ _ => ⟨rfl, e3, (by decide : 1 + 0 ≤ _), (by decide : 3 + 0 ≤ _)⟩)
    dsimp only [Pt.U, Pt.locs, Pt.cells, Pt.slots] at X6 lq6 yq6 zq6 st6 hQ6
    subst lq6 yq6 zq6
    obtain ⟨rfl, Nq6, Kq6⟩ := hQ6
    have N6 := Fr.app N0 Nq6
    have KH6 : Keep h0 T6.heap [] := KH3.trans Kq6 (allS (Or.inr sz_b3) all0)
    have Zn6 : n0 ≤ T6.heap.size := Nat.le_trans Zn3 Kq6.1
    have ks8 := own_c ks5 st6
    have ks9 : own_R p e below (A0) (T6.setTop (mkF m 23 #[vR r0, vI 0, vI 3, vR b3, vI 0, .unset] [(.int 3), (.int 0), (.ref r0)])) := fun t k => ks8 t (by
      refine XS.istore X6.here hx rfl (hb hby d7_12) rfl (l' := #[vR r0, vI 0, vI 3, vR b3, vI 0, .unset]) rfl ?_
      refine XS.iload X6.here hx rfl (hb hby d7_14) rfl ?_
      refine XS.iloadN X6.here hx rfl (hb hby d7_16) rfl ?_
      show Steps p.tables e below (T6.setTop (mkF m 17 #[vR r0, vI 0, vI 3, vR b3, vI 0, .unset] [(.int 3), (.int 0)])) _
      refine XS.icmpNo X6.here hx rfl (hb hby d7_17) rfl (feq (by decide)).1 ?_
      refine XS.aloadN X6.here hx rfl (hb hby d7_20) rfl rfl ?_
      refine XS.iloadN X6.here hx rfl (hb hby d7_21) rfl ?_
      refine XS.iloadN X6.here hx rfl (hb hby d7_22) rfl ?_
      exact k)
    have f11 := own_sta_keep S7a KH6
    have f12 := own_sta_keep S7b KH6
    have f13 := own_sta_keep S7c KH6
    have f14 := V0.keep KH6 nin0
    obtain ⟨_, _, ⟨T10, L10, k10, n10⟩, -, X10, ⟨Lc10, hQ10, lq10, yq10, zq10⟩, st10⟩ := Jvm.LawKit.callS X6 hx (y := (⟨"java/lang/StringUTF16", "toBytes", "([CII)[B"⟩ : MethodName)) hown (mvT hZ (own_w hw 45 rfl)) (mvT hZ (own_w hw 46 rfl)) (mvT hZ (own_w hw 40 rfl)) (mvT hZ (own_w hw 47 rfl)) (by decide) (backOf (W := 0) (rm9_3 l Z a0 hw [] r0 _ y0 y1 y2 T6.heap n0 Zn6 f11 f12 f13 f14) hZ (own_w hw 47 rfl) (own_w hw 40 rfl) (by decide) (by decide)) (g := (mkF m 23 #[vR r0, vI 0, vI 3, vR b3, vI 0, .unset] [(.int 3), (.int 0), (.ref r0)])) rfl (by rw [hml]; rfl) (argsL := [(.ref r0), (.int 0), (.int 3)]) (rest := []) (lenOf pd_6 rfl) rfl (by show 2 * 0 + _ ≤ _; exact Nat.le_of_eq rfl) (hb hby d7_23) (fun _ _ => ⟨rfl, rfl, (by decide : 1 + 1 ≤ _), (by decide : 3 + 6 ≤ _)⟩)
    dsimp only [Pt.U, Pt.locs, Pt.cells, Pt.slots] at X10 lq10 yq10 zq10 st10 hQ10
    subst lq10 yq10 zq10
    obtain ⟨bq10, kq10, rfl, Nq10, Kq10, g_bq10, szq10, Vq10⟩ := hQ10
    have N10 := Fr.app N6 Nq10
    have KH10 : Keep h0 T10.heap [] := KH6.trans Kq10 all0
    have Zn10 : n0 ≤ T10.heap.size := Nat.le_trans Zn6 Kq10.1
    have ne_r0_bq10 : r0 ≠ bq10 := Nat.ne_of_lt (Nat.lt_of_lt_of_le f14.lt szq10)
    have sz_bq10 : h0.size ≤ bq10 := Nat.le_trans KH6.1 szq10
    have ks15 := own_c ks9 st10
    have ks16 : own_R p e below (A0) (T10.setTop (mkF m 32 #[vR r0, vI 0, vI 3, vR b3, vI 0, vR bq10] [(.int 0), (.ref bq10)])) := fun t k => ks15 t (by
      refine XS.astore X10.here hx rfl (hb hby d7_26) rfl rfl (l' := #[vR r0, vI 0, vI 3, vR b3, vI 0, vR bq10]) rfl ?_
      refine XS.aload X10.here hx rfl (hb hby d7_28) rfl rfl ?_
      refine XS.iload X10.here hx rfl (hb hby d7_30) rfl ?_
      exact k)
    have f18 := own_sta_keep S7a KH10
    have f19 := own_sta_keep S7b KH10
    have f20 := own_sta_keep S7c KH10
    obtain ⟨_, _, ⟨T17, L17, k17, n17⟩, -, X17, ⟨Lc17, hQ17, lq17, yq17, zq17⟩, st17⟩ := Jvm.LawKit.callS X10 hx (y := (⟨"java/lang/StringUTF16", "getChar", "([BI)C"⟩ : MethodName)) hown (mvT hZ (own_w hw 61 rfl)) (mvT hZ (own_w hw 62 rfl)) (mvT hZ (own_w hw 40 rfl)) (mvT hZ (own_w hw 63 rfl)) (by decide) (backOf (W := 0) (rm13 l Z a0 hw [] bq10 (0 : Int32) _ (6 : Int32) _ ((y0 >>> ((0 : Int32) &&& 31)).toInt8.toInt32) ((y0 >>> ((8 : Int32) &&& 31)).toInt8.toInt32) y0 T10.heap n0 Zn10 f18 f19 f20 Vq10 ⟨by decide, by decide⟩ rfl ⟨by decide, by decide⟩ rfl (own_get _ RY0)) hZ (own_w hw 63 rfl) (own_w hw 40 rfl) (by decide) (by decide)) (g := (mkF m 32 #[vR r0, vI 0, vI 3, vR b3, vI 0, vR bq10] [(.int 0), (.ref bq10)])) rfl (by rw [hml]; rfl) (argsL := [(.ref bq10), (.int 0)]) (rest := []) (lenOf pd_11 rfl) rfl (by show 2 * 0 + _ ≤ _; exact Nat.le_of_eq rfl) (hb hby d7_32) (fun _ _ => ⟨rfl, rfl, (by decide : 2 + 0 ≤ _), (by decide : 9 + 0 ≤ _)⟩)
    dsimp only [Pt.U, Pt.locs, Pt.cells, Pt.slots] at X17 lq17 yq17 zq17 st17 hQ17
    subst lq17 yq17 zq17
    obtain ⟨rfl, Nq17, eq17⟩ := hQ17
    have N17 := Fr.app N10 Nq17
    have ks21 := own_c ks16 st17
    have ks22 : own_R p e below (A0) (T17.setTop (mkF m 56 #[vR r0, vI 0, vI 3, vR b3, vI 0, vR bq10] [(.ref bq10)])) := fun t k => ks21 t (by
      refine XS.sipush X17.here hx rfl (hb hby d7_35) ?_
      refine XS.icmpYes X17.here hx rfl (pc0 := 38) (pc' := 54) rfl (hb hby d7_38) rfl (tlt hc1).2.2.1 (by decide) (by decide) ?_
      refine XS.aload X17.here hx rfl (hb hby d7_54) rfl rfl ?_
      exact k)
    obtain ⟨fs, hr, hrun, hended, hW, hsame⟩ := X17.leave (v := some (.ref bq10)) (fun h => by rw [Bd.returns] at h; cases h) hlk
    refine ⟨_, _, kz _ (ks22 _ ?_), hrun, hended, _, _, rfl, ?_, ⟨_, rfl⟩, hW, hsame.mono (by decide) (by decide)⟩
    · exact retOut X17 hx Bd.returns rfl (Or.inr (Or.inr (Or.inr (Or.inr ⟨rfl, rfl, rfl⟩)))) (hb hby d7_56) hr
    · show Q7_3G Z r0 kr0 y0 y1 y2 h0 n0 _ T17.heap _
      rw [eq17]
      exact ⟨_, _, _, _, _, rfl, N17, KH10, g_bq10, sz_bq10, Vq10, (Or.inr ⟨rfl, by decide, rfl, y0, by simp, hc1⟩)⟩
  · skip
    by_cases hc23 : (255 : Int32) < y1
    · skip
      have ks24 : own_R p e below (A0) (s₁.setTop (mkF m 1 #[vR r0, vI 0, vI 3, .unset, .unset, .unset] [(.int 3)])) := fun t k => k0 t (by
        refine XS.iloadN X0.here hx rfl (hb hby d7_0) rfl ?_
        exact k)
      obtain ⟨T25, h25, c25, X25, e25, E25, A25, st25⟩ := newP X0 hx hZ (own_w hw 20 rfl) e0 (g := (mkF m 1 #[vR r0, vI 0, vI 3, .unset, .unset, .unset] [(.int 3)])) rfl (hb hby d7_1) rfl (by decide) (cap := 3) (by decide) (by decide) (by decide) (by decide)
      obtain ⟨b25, g25⟩ : ∃ z, z = h0.size := ⟨_, rfl⟩
      rw [← g25] at A25 st25
      have ne_r0_b25 : r0 ≠ b25 := Nat.ne_of_lt (Nat.lt_of_lt_of_le V0.lt (Nat.le_of_eq g25.symm))
      have g_b25 : n0 ≤ b25 := Nat.le_trans Z0 (Nat.le_of_eq g25.symm)
      have sz_b25 : h0.size ≤ b25 := Nat.le_trans (Keep.refl h0 []).1 (Nat.le_of_eq g25.symm)
      have KH25 : Keep h0 h25 [] := (Keep.refl h0 []).ext E25
      have Zn25 : n0 ≤ h25.size := Nat.le_trans Z0 E25.1
      have V25 : Arv Z h25 b25 c25 .byte (3 : Int32) [(.int (0 : Int32)), (.int (0 : Int32)), (.int (0 : Int32))] (.int (0 : Int32)) := (Arv.new A25 (by decide)).pad (pad_rep [] (.int (0 : Int32)) 3)
      have ks26 := own_c ks24 st25
      have ks27 : own_R p e below (A0) (T25.setTop (mkF m 9 #[vR r0, vI 0, vI 3, vR b25, .unset, .unset] [(.int 3), (.int 0), (.ref b25), (.int 0), (.ref r0)])) := fun t k => ks26 t (by
        refine XS.astoreN X25.here hx rfl (hb hby d7_3) rfl rfl (l' := #[vR r0, vI 0, vI 3, vR b25, .unset, .unset]) rfl ?_
        refine XS.aloadN X25.here hx rfl (hb hby d7_4) rfl rfl ?_
        refine XS.iloadN X25.here hx rfl (hb hby d7_5) rfl ?_
        show Steps p.tables e below (T25.setTop (mkF m 6 #[vR r0, vI 0, vI 3, vR b25, .unset, .unset] [(.int 0), (.ref r0)])) _
        refine XS.aloadN X25.here hx rfl (hb hby d7_6) rfl rfl ?_
        refine XS.iconst X25.here hx rfl (hb hby d7_7) ?_
        refine XS.iloadN X25.here hx rfl (hb hby d7_8) rfl ?_
        exact k)
      have f29 := V0.keep KH25 nin0
      obtain ⟨_, _, ⟨T28, L28, k28, n28⟩, -, X28, ⟨Lc28, hQ28, lq28, yq28, zq28⟩, st28⟩ := Jvm.LawKit.callS X25 hx (y := (⟨"java/lang/StringUTF16", "compress", "([CI[BII)I"⟩ : MethodName)) hown (mvT hZ (own_w hw 42 rfl)) (mvT hZ (own_w hw 43 rfl)) (mvT hZ (own_w hw 40 rfl)) (mvT hZ (own_w hw 44 rfl)) (by decide) (backOf (W := 0) (rm8_3U1 l Z a0 hw [] r0 b25 _ _ y0 y1 y2 h25 n0 Zn25 f29 V25 ne_r0_b25 g_b25 RY0 RY1 RY2 hc1 hc23) hZ (own_w hw 44 rfl) (own_w hw 40 rfl) (by decide) (by decide)) (g := (mkF m 9 #[vR r0, vI 0, vI 3, vR b25, .unset, .unset] [(.int 3), (.int 0), (.ref b25), (.int 0), (.ref r0)])) rfl (by rw [hml]; rfl) (argsL := [(.ref r0), (.int 0), (.ref b25), (.int 0), (.int 3)]) (rest := []) (lenOf pd_7 rfl) rfl (by show 2 * 0 + _ ≤ _; exact Nat.le_of_eq rfl) (hb hby d7_9) (fun _ _ => ⟨rfl, e25, (by decide : 1 + 0 ≤ _), (by decide : 3 + 0 ≤ _)⟩)
      dsimp only [Pt.U, Pt.locs, Pt.cells, Pt.slots] at X28 lq28 yq28 zq28 st28 hQ28
      subst lq28 yq28 zq28
      obtain ⟨rfl, Nq28, Kq28⟩ := hQ28
      have N28 := Fr.app N0 Nq28
      have KH28 : Keep h0 T28.heap [] := KH25.trans Kq28 (allS (Or.inr sz_b25) all0)
      have Zn28 : n0 ≤ T28.heap.size := Nat.le_trans Zn25 Kq28.1
      have ks30 := own_c ks27 st28
      have ks31 : own_R p e below (A0) (T28.setTop (mkF m 23 #[vR r0, vI 0, vI 3, vR b25, vI 1, .unset] [(.int 3), (.int 0), (.ref r0)])) := fun t k => ks30 t (by
        refine XS.istore X28.here hx rfl (hb hby d7_12) rfl (l' := #[vR r0, vI 0, vI 3, vR b25, vI 1, .unset]) rfl ?_
        refine XS.iload X28.here hx rfl (hb hby d7_14) rfl ?_
        refine XS.iloadN X28.here hx rfl (hb hby d7_16) rfl ?_
        show Steps p.tables e below (T28.setTop (mkF m 17 #[vR r0, vI 0, vI 3, vR b25, vI 1, .unset] [(.int 3), (.int 1)])) _
        refine XS.icmpNo X28.here hx rfl (hb hby d7_17) rfl (feq (by decide)).1 ?_
        refine XS.aloadN X28.here hx rfl (hb hby d7_20) rfl rfl ?_
        refine XS.iloadN X28.here hx rfl (hb hby d7_21) rfl ?_
        refine XS.iloadN X28.here hx rfl (hb hby d7_22) rfl ?_
        exact k)
      have f33 := own_sta_keep S7a KH28
      have f34 := own_sta_keep S7b KH28
      have f35 := own_sta_keep S7c KH28
      have f36 := V0.keep KH28 nin0
      obtain ⟨_, _, ⟨T32, L32, k32, n32⟩, -, X32, ⟨Lc32, hQ32, lq32, yq32, zq32⟩, st32⟩ := Jvm.LawKit.callS X28 hx (y := (⟨"java/lang/StringUTF16", "toBytes", "([CII)[B"⟩ : MethodName)) hown (mvT hZ (own_w hw 45 rfl)) (mvT hZ (own_w hw 46 rfl)) (mvT hZ (own_w hw 40 rfl)) (mvT hZ (own_w hw 47 rfl)) (by decide) (backOf (W := 0) (rm9_3 l Z a0 hw [] r0 _ y0 y1 y2 T28.heap n0 Zn28 f33 f34 f35 f36) hZ (own_w hw 47 rfl) (own_w hw 40 rfl) (by decide) (by decide)) (g := (mkF m 23 #[vR r0, vI 0, vI 3, vR b25, vI 1, .unset] [(.int 3), (.int 0), (.ref r0)])) rfl (by rw [hml]; rfl) (argsL := [(.ref r0), (.int 0), (.int 3)]) (rest := []) (lenOf pd_6 rfl) rfl (by show 2 * 0 + _ ≤ _; exact Nat.le_of_eq rfl) (hb hby d7_23) (fun _ _ => ⟨rfl, rfl, (by decide : 1 + 1 ≤ _), (by decide : 3 + 6 ≤ _)⟩)
      dsimp only [Pt.U, Pt.locs, Pt.cells, Pt.slots] at X32 lq32 yq32 zq32 st32 hQ32
      subst lq32 yq32 zq32
      obtain ⟨bq32, kq32, rfl, Nq32, Kq32, g_bq32, szq32, Vq32⟩ := hQ32
      have N32 := Fr.app N28 Nq32
      have KH32 : Keep h0 T32.heap [] := KH28.trans Kq32 all0
      have Zn32 : n0 ≤ T32.heap.size := Nat.le_trans Zn28 Kq32.1
      have ne_r0_bq32 : r0 ≠ bq32 := Nat.ne_of_lt (Nat.lt_of_lt_of_le f36.lt szq32)
      have sz_bq32 : h0.size ≤ bq32 := Nat.le_trans KH28.1 szq32
      have ks37 := own_c ks31 st32
      have ks38 : own_R p e below (A0) (T32.setTop (mkF m 32 #[vR r0, vI 0, vI 3, vR b25, vI 1, vR bq32] [(.int 1), (.ref bq32)])) := fun t k => ks37 t (by
        refine XS.astore X32.here hx rfl (hb hby d7_26) rfl rfl (l' := #[vR r0, vI 0, vI 3, vR b25, vI 1, vR bq32]) rfl ?_
        refine XS.aload X32.here hx rfl (hb hby d7_28) rfl rfl ?_
        refine XS.iload X32.here hx rfl (hb hby d7_30) rfl ?_
        exact k)
      have f40 := own_sta_keep S7a KH32
      have f41 := own_sta_keep S7b KH32
      have f42 := own_sta_keep S7c KH32
      obtain ⟨_, _, ⟨T39, L39, k39, n39⟩, -, X39, ⟨Lc39, hQ39, lq39, yq39, zq39⟩, st39⟩ := Jvm.LawKit.callS X32 hx (y := (⟨"java/lang/StringUTF16", "getChar", "([BI)C"⟩ : MethodName)) hown (mvT hZ (own_w hw 61 rfl)) (mvT hZ (own_w hw 62 rfl)) (mvT hZ (own_w hw 40 rfl)) (mvT hZ (own_w hw 63 rfl)) (by decide) (backOf (W := 0) (rm13 l Z a0 hw [] bq32 (1 : Int32) _ (6 : Int32) _ ((y1 >>> ((0 : Int32) &&& 31)).toInt8.toInt32) ((y1 >>> ((8 : Int32) &&& 31)).toInt8.toInt32) y1 T32.heap n0 Zn32 f40 f41 f42 Vq32 ⟨by decide, by decide⟩ rfl ⟨by decide, by decide⟩ rfl (own_get _ RY1)) hZ (own_w hw 63 rfl) (own_w hw 40 rfl) (by decide) (by decide)) (g := (mkF m 32 #[vR r0, vI 0, vI 3, vR b25, vI 1, vR bq32] [(.int 1), (.ref bq32)])) rfl (by rw [hml]; rfl) (argsL := [(.ref bq32), (.int 1)]) (rest := []) (lenOf pd_11 rfl) rfl (by show 2 * 0 + _ ≤ _; exact Nat.le_of_eq rfl) (hb hby d7_32) (fun _ _ => ⟨rfl, rfl, (by decide : 2 + 0 ≤ _), (by decide : 9 + 0 ≤ _)⟩)
      dsimp only [Pt.U, Pt.locs, Pt.cells, Pt.slots] at X39 lq39 yq39 zq39 st39 hQ39
      subst lq39 yq39 zq39
      obtain ⟨rfl, Nq39, eq39⟩ := hQ39
      have N39 := Fr.app N32 Nq39
      have ks43 := own_c ks38 st39
      have ks44 : own_R p e below (A0) (T39.setTop (mkF m 56 #[vR r0, vI 0, vI 3, vR b25, vI 1, vR bq32] [(.ref bq32)])) := fun t k => ks43 t (by
        refine XS.sipush X39.here hx rfl (hb hby d7_35) ?_
        refine XS.icmpYes X39.here hx rfl (pc0 := 38) (pc' := 54) rfl (hb hby d7_38) rfl (tlt hc23).2.2.1 (by decide) (by decide) ?_
        refine XS.aload X39.here hx rfl (hb hby d7_54) rfl rfl ?_
        exact k)
      obtain ⟨fs, hr, hrun, hended, hW, hsame⟩ := X39.leave (v := some (.ref bq32)) (fun h => by rw [Bd.returns] at h; cases h) hlk
      refine ⟨_, _, kz _ (ks44 _ ?_), hrun, hended, _, _, rfl, ?_, ⟨_, rfl⟩, hW, hsame.mono (by decide) (by decide)⟩
      · exact retOut X39 hx Bd.returns rfl (Or.inr (Or.inr (Or.inr (Or.inr ⟨rfl, rfl, rfl⟩)))) (hb hby d7_56) hr
      · show Q7_3G Z r0 kr0 y0 y1 y2 h0 n0 _ T39.heap _
        rw [eq39]
        exact ⟨_, _, _, _, _, rfl, N39, KH32, g_bq32, sz_bq32, Vq32, (Or.inr ⟨rfl, by decide, rfl, y1, by simp, hc23⟩)⟩
    · skip
      by_cases hc45 : (255 : Int32) < y2
      · skip
        have ks46 : own_R p e below (A0) (s₁.setTop (mkF m 1 #[vR r0, vI 0, vI 3, .unset, .unset, .unset] [(.int 3)])) := fun t k => k0 t (by
          refine XS.iloadN X0.here hx rfl (hb hby d7_0) rfl ?_
          exact k)
        obtain ⟨T47, h47, c47, X47, e47, E47, A47, st47⟩ := newP X0 hx hZ (own_w hw 20 rfl) e0 (g := (mkF m 1 #[vR r0, vI 0, vI 3, .unset, .unset, .unset] [(.int 3)])) rfl (hb hby d7_1) rfl (by decide) (cap := 3) (by decide) (by decide) (by decide) (by decide)
        obtain ⟨b47, g47⟩ : ∃ z, z = h0.size := ⟨_, rfl⟩
        rw [← g47] at A47 st47
        have ne_r0_b47 : r0 ≠ b47 := Nat.ne_of_lt (Nat.lt_of_lt_of_le V0.lt (Nat.le_of_eq g47.symm))
        have g_b47 : n0 ≤ b47 := Nat.le_trans Z0 (Nat.le_of_eq g47.symm)
        have sz_b47 : h0.size ≤ b47 := Nat.le_trans (Keep.refl h0 []).1 (Nat.le_of_eq g47.symm)
        have KH47 : Keep h0 h47 [] := (Keep.refl h0 []).ext E47
        have Zn47 : n0 ≤ h47.size := Nat.le_trans Z0 E47.1
        have V47 : Arv Z h47 b47 c47 .byte (3 : Int32) [(.int (0 : Int32)), (.int (0 : Int32)), (.int (0 : Int32))] (.int (0 : Int32)) := (Arv.new A47 (by decide)).pad (pad_rep [] (.int (0 : Int32)) 3)
        have ks48 := own_c ks46 st47
        have ks49 : own_R p e below (A0) (T47.setTop (mkF m 9 #[vR r0, vI 0, vI 3, vR b47, .unset, .unset] [(.int 3), (.int 0), (.ref b47), (.int 0), (.ref r0)])) := fun t k => ks48 t (by
          refine XS.astoreN X47.here hx rfl (hb hby d7_3) rfl rfl (l' := #[vR r0, vI 0, vI 3, vR b47, .unset, .unset]) rfl ?_
          refine XS.aloadN X47.here hx rfl (hb hby d7_4) rfl rfl ?_
          refine XS.iloadN X47.here hx rfl (hb hby d7_5) rfl ?_
          show Steps p.tables e below (T47.setTop (mkF m 6 #[vR r0, vI 0, vI 3, vR b47, .unset, .unset] [(.int 0), (.ref r0)])) _
          refine XS.aloadN X47.here hx rfl (hb hby d7_6) rfl rfl ?_
          refine XS.iconst X47.here hx rfl (hb hby d7_7) ?_
          refine XS.iloadN X47.here hx rfl (hb hby d7_8) rfl ?_
          exact k)
        have f51 := V0.keep KH47 nin0
        obtain ⟨_, _, ⟨T50, L50, k50, n50⟩, -, X50, ⟨Lc50, hQ50, lq50, yq50, zq50⟩, st50⟩ := Jvm.LawKit.callS X47 hx (y := (⟨"java/lang/StringUTF16", "compress", "([CI[BII)I"⟩ : MethodName)) hown (mvT hZ (own_w hw 42 rfl)) (mvT hZ (own_w hw 43 rfl)) (mvT hZ (own_w hw 40 rfl)) (mvT hZ (own_w hw 44 rfl)) (by decide) (backOf (W := 0) (rm8_3U2 l Z a0 hw [] r0 b47 _ _ y0 y1 y2 h47 n0 Zn47 f51 V47 ne_r0_b47 g_b47 RY0 RY1 RY2 hc1 hc23 hc45) hZ (own_w hw 44 rfl) (own_w hw 40 rfl) (by decide) (by decide)) (g := (mkF m 9 #[vR r0, vI 0, vI 3, vR b47, .unset, .unset] [(.int 3), (.int 0), (.ref b47), (.int 0), (.ref r0)])) rfl (by rw [hml]; rfl) (argsL := [(.ref r0), (.int 0), (.ref b47), (.int 0), (.int 3)]) (rest := []) (lenOf pd_7 rfl) rfl (by show 2 * 0 + _ ≤ _; exact Nat.le_of_eq rfl) (hb hby d7_9) (fun _ _ => ⟨rfl, e47, (by decide : 1 + 0 ≤ _), (by decide : 3 + 0 ≤ _)⟩)
        dsimp only [Pt.U, Pt.locs, Pt.cells, Pt.slots] at X50 lq50 yq50 zq50 st50 hQ50
        subst lq50 yq50 zq50
        obtain ⟨rfl, Nq50, Kq50⟩ := hQ50
        have N50 := Fr.app N0 Nq50
        have KH50 : Keep h0 T50.heap [] := KH47.trans Kq50 (allS (Or.inr sz_b47) all0)
        have Zn50 : n0 ≤ T50.heap.size := Nat.le_trans Zn47 Kq50.1
        have ks52 := own_c ks49 st50
        have ks53 : own_R p e below (A0) (T50.setTop (mkF m 23 #[vR r0, vI 0, vI 3, vR b47, vI 2, .unset] [(.int 3), (.int 0), (.ref r0)])) := fun t k => ks52 t (by
          refine XS.istore X50.here hx rfl (hb hby d7_12) rfl (l' := #[vR r0, vI 0, vI 3, vR b47, vI 2, .unset]) rfl ?_
          refine XS.iload X50.here hx rfl (hb hby d7_14) rfl ?_
          refine XS.iloadN X50.here hx rfl (hb hby d7_16) rfl ?_
          show Steps p.tables e below (T50.setTop (mkF m 17 #[vR r0, vI 0, vI 3, vR b47, vI 2, .unset] [(.int 3), (.int 2)])) _
          refine XS.icmpNo X50.here hx rfl (hb hby d7_17) rfl (feq (by decide)).1 ?_
          refine XS.aloadN X50.here hx rfl (hb hby d7_20) rfl rfl ?_
          refine XS.iloadN X50.here hx rfl (hb hby d7_21) rfl ?_
          refine XS.iloadN X50.here hx rfl (hb hby d7_22) rfl ?_
          exact k)
        have f55 := own_sta_keep S7a KH50
        have f56 := own_sta_keep S7b KH50
        have f57 := own_sta_keep S7c KH50
        have f58 := V0.keep KH50 nin0
        obtain ⟨_, _, ⟨T54, L54, k54, n54⟩, -, X54, ⟨Lc54, hQ54, lq54, yq54, zq54⟩, st54⟩ := Jvm.LawKit.callS X50 hx (y := (⟨"java/lang/StringUTF16", "toBytes", "([CII)[B"⟩ : MethodName)) hown (mvT hZ (own_w hw 45 rfl)) (mvT hZ (own_w hw 46 rfl)) (mvT hZ (own_w hw 40 rfl)) (mvT hZ (own_w hw 47 rfl)) (by decide) (backOf (W := 0) (rm9_3 l Z a0 hw [] r0 _ y0 y1 y2 T50.heap n0 Zn50 f55 f56 f57 f58) hZ (own_w hw 47 rfl) (own_w hw 40 rfl) (by decide) (by decide)) (g := (mkF m 23 #[vR r0, vI 0, vI 3, vR b47, vI 2, .unset] [(.int 3), (.int 0), (.ref r0)])) rfl (by rw [hml]; rfl) (argsL := [(.ref r0), (.int 0), (.int 3)]) (rest := []) (lenOf pd_6 rfl) rfl (by show 2 * 0 + _ ≤ _; exact Nat.le_of_eq rfl) (hb hby d7_23) (fun _ _ => ⟨rfl, rfl, (by decide : 1 + 1 ≤ _), (by decide : 3 + 6 ≤ _)⟩)
        dsimp only [Pt.U, Pt.locs, Pt.cells, Pt.slots] at X54 lq54 yq54 zq54 st54 hQ54
        subst lq54 yq54 zq54
        obtain ⟨bq54, kq54, rfl, Nq54, Kq54, g_bq54, szq54, Vq54⟩ := hQ54
        have N54 := Fr.app N50 Nq54
        have KH54 : Keep h0 T54.heap [] := KH50.trans Kq54 all0
        have Zn54 : n0 ≤ T54.heap.size := Nat.le_trans Zn50 Kq54.1
        have ne_r0_bq54 : r0 ≠ bq54 := Nat.ne_of_lt (Nat.lt_of_lt_of_le f58.lt szq54)
        have sz_bq54 : h0.size ≤ bq54 := Nat.le_trans KH50.1 szq54
        have ks59 := own_c ks53 st54
        have ks60 : own_R p e below (A0) (T54.setTop (mkF m 32 #[vR r0, vI 0, vI 3, vR b47, vI 2, vR bq54] [(.int 2), (.ref bq54)])) := fun t k => ks59 t (by
          refine XS.astore X54.here hx rfl (hb hby d7_26) rfl rfl (l' := #[vR r0, vI 0, vI 3, vR b47, vI 2, vR bq54]) rfl ?_
          refine XS.aload X54.here hx rfl (hb hby d7_28) rfl rfl ?_
          refine XS.iload X54.here hx rfl (hb hby d7_30) rfl ?_
          exact k)
        have f62 := own_sta_keep S7a KH54
        have f63 := own_sta_keep S7b KH54
        have f64 := own_sta_keep S7c KH54
        obtain ⟨_, _, ⟨T61, L61, k61, n61⟩, -, X61, ⟨Lc61, hQ61, lq61, yq61, zq61⟩, st61⟩ := Jvm.LawKit.callS X54 hx (y := (⟨"java/lang/StringUTF16", "getChar", "([BI)C"⟩ : MethodName)) hown (mvT hZ (own_w hw 61 rfl)) (mvT hZ (own_w hw 62 rfl)) (mvT hZ (own_w hw 40 rfl)) (mvT hZ (own_w hw 63 rfl)) (by decide) (backOf (W := 0) (rm13 l Z a0 hw [] bq54 (2 : Int32) _ (6 : Int32) _ ((y2 >>> ((0 : Int32) &&& 31)).toInt8.toInt32) ((y2 >>> ((8 : Int32) &&& 31)).toInt8.toInt32) y2 T54.heap n0 Zn54 f62 f63 f64 Vq54 ⟨by decide, by decide⟩ rfl ⟨by decide, by decide⟩ rfl (own_get _ RY2)) hZ (own_w hw 63 rfl) (own_w hw 40 rfl) (by decide) (by decide)) (g := (mkF m 32 #[vR r0, vI 0, vI 3, vR b47, vI 2, vR bq54] [(.int 2), (.ref bq54)])) rfl (by rw [hml]; rfl) (argsL := [(.ref bq54), (.int 2)]) (rest := []) (lenOf pd_11 rfl) rfl (by show 2 * 0 + _ ≤ _; exact Nat.le_of_eq rfl) (hb hby d7_32) (fun _ _ => ⟨rfl, rfl, (by decide : 2 + 0 ≤ _), (by decide : 9 + 0 ≤ _)⟩)
        dsimp only [Pt.U, Pt.locs, Pt.cells, Pt.slots] at X61 lq61 yq61 zq61 st61 hQ61
        subst lq61 yq61 zq61
        obtain ⟨rfl, Nq61, eq61⟩ := hQ61
        have N61 := Fr.app N54 Nq61
        have ks65 := own_c ks60 st61
        have ks66 : own_R p e below (A0) (T61.setTop (mkF m 56 #[vR r0, vI 0, vI 3, vR b47, vI 2, vR bq54] [(.ref bq54)])) := fun t k => ks65 t (by
          refine XS.sipush X61.here hx rfl (hb hby d7_35) ?_
          refine XS.icmpYes X61.here hx rfl (pc0 := 38) (pc' := 54) rfl (hb hby d7_38) rfl (tlt hc45).2.2.1 (by decide) (by decide) ?_
          refine XS.aload X61.here hx rfl (hb hby d7_54) rfl rfl ?_
          exact k)
        obtain ⟨fs, hr, hrun, hended, hW, hsame⟩ := X61.leave (v := some (.ref bq54)) (fun h => by rw [Bd.returns] at h; cases h) hlk
        refine ⟨_, _, kz _ (ks66 _ ?_), hrun, hended, _, _, rfl, ?_, ⟨_, rfl⟩, hW, hsame.mono (by decide) (by decide)⟩
        · exact retOut X61 hx Bd.returns rfl (Or.inr (Or.inr (Or.inr (Or.inr ⟨rfl, rfl, rfl⟩)))) (hb hby d7_56) hr
        · show Q7_3G Z r0 kr0 y0 y1 y2 h0 n0 _ T61.heap _
          rw [eq61]
          exact ⟨_, _, _, _, _, rfl, N61, KH54, g_bq54, sz_bq54, Vq54, (Or.inr ⟨rfl, by decide, rfl, y2, by simp, hc45⟩)⟩
      · skip
        have ks67 : own_R p e below (A0) (s₁.setTop (mkF m 1 #[vR r0, vI 0, vI 3, .unset, .unset, .unset] [(.int 3)])) := fun t k => k0 t (by
          refine XS.iloadN X0.here hx rfl (hb hby d7_0) rfl ?_
          exact k)
        obtain ⟨T68, h68, c68, X68, e68, E68, A68, st68⟩ := newP X0 hx hZ (own_w hw 20 rfl) e0 (g := (mkF m 1 #[vR r0, vI 0, vI 3, .unset, .unset, .unset] [(.int 3)])) rfl (hb hby d7_1) rfl (by decide) (cap := 3) (by decide) (by decide) (by decide) (by decide)
        obtain ⟨b68, g68⟩ : ∃ z, z = h0.size := ⟨_, rfl⟩
        rw [← g68] at A68 st68
        have ne_r0_b68 : r0 ≠ b68 := Nat.ne_of_lt (Nat.lt_of_lt_of_le V0.lt (Nat.le_of_eq g68.symm))
        have g_b68 : n0 ≤ b68 := Nat.le_trans Z0 (Nat.le_of_eq g68.symm)
        have sz_b68 : h0.size ≤ b68 := Nat.le_trans (Keep.refl h0 []).1 (Nat.le_of_eq g68.symm)
        have KH68 : Keep h0 h68 [] := (Keep.refl h0 []).ext E68
        have Zn68 : n0 ≤ h68.size := Nat.le_trans Z0 E68.1
        have V68 : Arv Z h68 b68 c68 .byte (3 : Int32) [(.int (0 : Int32)), (.int (0 : Int32)), (.int (0 : Int32))] (.int (0 : Int32)) := (Arv.new A68 (by decide)).pad (pad_rep [] (.int (0 : Int32)) 3)
        have ks69 := own_c ks67 st68
        have ks70 : own_R p e below (A0) (T68.setTop (mkF m 9 #[vR r0, vI 0, vI 3, vR b68, .unset, .unset] [(.int 3), (.int 0), (.ref b68), (.int 0), (.ref r0)])) := fun t k => ks69 t (by
          refine XS.astoreN X68.here hx rfl (hb hby d7_3) rfl rfl (l' := #[vR r0, vI 0, vI 3, vR b68, .unset, .unset]) rfl ?_
          refine XS.aloadN X68.here hx rfl (hb hby d7_4) rfl rfl ?_
          refine XS.iloadN X68.here hx rfl (hb hby d7_5) rfl ?_
          show Steps p.tables e below (T68.setTop (mkF m 6 #[vR r0, vI 0, vI 3, vR b68, .unset, .unset] [(.int 0), (.ref r0)])) _
          refine XS.aloadN X68.here hx rfl (hb hby d7_6) rfl rfl ?_
          refine XS.iconst X68.here hx rfl (hb hby d7_7) ?_
          refine XS.iloadN X68.here hx rfl (hb hby d7_8) rfl ?_
          exact k)
        have f72 := V0.keep KH68 nin0
        obtain ⟨_, _, ⟨T71, L71, k71, n71⟩, -, X71, ⟨Lc71, hQ71, lq71, yq71, zq71⟩, st71⟩ := Jvm.LawKit.callS X68 hx (y := (⟨"java/lang/StringUTF16", "compress", "([CI[BII)I"⟩ : MethodName)) hown (mvT hZ (own_w hw 42 rfl)) (mvT hZ (own_w hw 43 rfl)) (mvT hZ (own_w hw 40 rfl)) (mvT hZ (own_w hw 44 rfl)) (by decide) (backOf (W := 0) (rm8_3L l Z a0 hw [] r0 b68 _ _ y0 y1 y2 h68 n0 Zn68 f72 V68 ne_r0_b68 g_b68 RY0 RY1 RY2 hc1 hc23 hc45) hZ (own_w hw 44 rfl) (own_w hw 40 rfl) (by decide) (by decide)) (g := (mkF m 9 #[vR r0, vI 0, vI 3, vR b68, .unset, .unset] [(.int 3), (.int 0), (.ref b68), (.int 0), (.ref r0)])) rfl (by rw [hml]; rfl) (argsL := [(.ref r0), (.int 0), (.ref b68), (.int 0), (.int 3)]) (rest := []) (lenOf pd_7 rfl) rfl (by show 2 * 0 + _ ≤ _; exact Nat.le_of_eq rfl) (hb hby d7_9) (fun _ _ => ⟨rfl, e68, (by decide : 1 + 0 ≤ _), (by decide : 3 + 0 ≤ _)⟩)
        dsimp only [Pt.U, Pt.locs, Pt.cells, Pt.slots] at X71 lq71 yq71 zq71 st71 hQ71
        subst lq71 yq71 zq71
        obtain ⟨rfl, Nq71, Kq71, Vq71⟩ := hQ71
        have N71 := Fr.app N0 Nq71
        have KH71 : Keep h0 T71.heap [] := KH68.trans Kq71 (allS (Or.inr sz_b68) all0)
        have Zn71 : n0 ≤ T71.heap.size := Nat.le_trans Zn68 Kq71.1
        have ks73 := own_c ks70 st71
        have ks74 : own_R p e below (A0) (T71.setTop (mkF m 58 #[vR r0, vI 0, vI 3, vR b68, vI 3, .unset] [(.ref b68)])) := fun t k => ks73 t (by
          refine XS.istore X71.here hx rfl (hb hby d7_12) rfl (l' := #[vR r0, vI 0, vI 3, vR b68, vI 3, .unset]) rfl ?_
          refine XS.iload X71.here hx rfl (hb hby d7_14) rfl ?_
          refine XS.iloadN X71.here hx rfl (hb hby d7_16) rfl ?_
          show Steps p.tables e below (T71.setTop (mkF m 17 #[vR r0, vI 0, vI 3, vR b68, vI 3, .unset] [(.int 3), (.int 3)])) _
          refine XS.icmpYes X71.here hx rfl (pc0 := 17) (pc' := 57) rfl (hb hby d7_17) rfl (teq (by decide)).1 (by decide) (by decide) ?_
          refine XS.aloadN X71.here hx rfl (hb hby d7_57) rfl rfl ?_
          exact k)
        obtain ⟨fs, hr, hrun, hended, hW, hsame⟩ := X71.leave (v := some (.ref b68)) (fun h => by rw [Bd.returns] at h; cases h) hlk
        refine ⟨_, _, kz _ (ks74 _ ?_), hrun, hended, _, _, rfl, ?_, ⟨_, rfl⟩, hW, hsame.mono (by decide) (by decide)⟩
        · exact retOut X71 hx Bd.returns rfl (Or.inr (Or.inr (Or.inr (Or.inr ⟨rfl, rfl, rfl⟩)))) (hb hby d7_58) hr
        · show Q7_3G Z r0 kr0 y0 y1 y2 h0 n0 _ T71.heap _
          exact ⟨_, _, _, _, _, rfl, N71, KH71, g_b68, sz_b68, Vq71, (Or.inl ⟨rfl, by decide, rfl, (own_ac hc1 (own_ac hc23 (own_ac hc45 own_an)))⟩)⟩
theorem ef_3_3G (m : MethodId) (x0 : Addr) (x1 : Addr) (x2 : Int32) (x3 : Int32) : entryFrame m #[(.ref x0), (.ref x1), (.int x2), (.int x3), .null] 6 = mkF m 0 #[.val (.ref x0), .val (.ref x1), .val (.int x2), .val (.int x3), .val .null, .unset] [] := by first | (simp [entryFrame, mkF, argsToLocals, Value.category]; done) | rfl
def Q3_3G (Z : State) (r0 : Addr) (r1 : Addr) (y9 : Int32) (kr1 : ClassId) (y0 : Int32) (y1 : Int32) (y2 : Int32) (h0 : Heap) (n0 : Nat) (v : Option Value) (h : Heap) (L : List Loc) : Prop := v = none ∧ Fr n0 L ∧ Keep h0 h [r0] ∧ ∃ (t : Addr) (kt : ClassId) (k z : Int32) (vs : List Value), own_Cd Z h r0 k ∧ own_Fv Z h r0 t ∧ Arv Z h t kt .byte z vs (.int 0) ∧ own_sh 3 k z vs [y0, y1, y2]
set_option maxRecDepth 65536 in
set_option maxHeartbeats 40000000 in
theorem rm3_3G (l : Launch) (Z : State) (a0 : Array Value) (hw : ∀ d ∈ tables_1, d.before a0 Z = true) (ws : List Jvm.Cond) (r0 : Addr) (r1 : Addr) (y9 : Int32) (kr1 : ClassId) (y0 : Int32) (y1 : Int32) (y2 : Int32) (h0 : Heap) (n0 : Nat) (Z0 : n0 ≤ h0.size) (S9 : own_S9 Z h0 y9) (P9 : ¬ y9 = (0 : Int32)) (S7a : own_S7a Z h0) (S7b : own_S7b Z h0) (S7c : own_S7c Z h0) (E0 : Exa Z h0 r0 "java/lang/String") (Cd0 : own_Cd Z h0 r0 0) (F0 : Fld Z h0 r0 "java/lang/String" "value" "[B" .null) (g_r0 : n0 ≤ r0) (n01 : r0 ≠ r1) (V1 : Arv Z h0 r1 kr1 .char (3 : Int32) [(.int y0), (.int y1), (.int y2)] (.int 0)) (RY0 : y0.toUInt32.toUInt16.toUInt32.toInt32 = y0) (RY1 : y1.toUInt32.toUInt16.toUInt32.toInt32 = y1) (RY2 : y2.toUInt32.toUInt16.toUInt32.toInt32 = y2) :
    MetFree l (⟨"java/lang/String", "<init>", "([CIILjava/lang/Void;)V"⟩ : MethodName) (head1 (Jvm.Cond.code (⟨"java/lang/String", "<init>", "([CIILjava/lang/Void;)V"⟩ : MethodName) jdk_42_method_149_code 6 none :: ws) ({ frames := 4, cells := 2, slots := 9, locals := 57 } : Room)) (fun a U => a = #[(.ref r0), (.ref r1), (.int 0), (.int 3), .null] ∧ Z.Warmed39 U.vm ∧ U.heap = h0) (fun _ _ _ _ _ => True) (fun _ U o U' => ∃ v L, o = .returned v ∧ Q3_3G Z r0 r1 y9 kr1 y0 y1 y2 h0 n0 v U'.heap L ∧ FrameEnd U o U' L ({ frames := 4, cells := 2, slots := 9, locals := 57 } : Room).cells ({ frames := 4, cells := 2, slots := 9, locals := 57 } : Room).slots) := by
  refine MetFree.of_bodySF (plainFor_of_name pn_3) hisR ?_
  intro p e s m args below meth c s₁ Bd hml0 hP hK
  obtain ⟨rfl, hZ, hh⟩ := hP
  have hx := Bd.exec
  have hby := Bd.bytes
  have hml : c.maxLocals = 6 := hml0
  have hown : s.vm.findClass "java/lang/String" = some m.cls := findClass_of_methodNamed Bd.named
  have hnm := (name_of_methodNamed Bd.named Bd.method).1
  have hlk : meth.locks = false := by first | exact BodyLoose.notSynchronized Bd | exact Body.notSynchronized Bd
  have X0 : Stand p l e ({ frames := 4, cells := 2, slots := 9, locals := 57 } : Room) s m #[(.ref r0), (.ref r1), (.int 0), (.int 3), .null] below meth c s₁ [] 0 0 := Stand.of_body Bd
  have e0 : s₁.heap = h0 := by rw [← hh, Bd.state]; rfl
  have N0 := Fr.nil n0
  have k0 : own_R p e below (s₁.setTop (entryFrame m #[(.ref r0), (.ref r1), (.int 0), (.int 3), .null] 6)) (s₁.setTop (mkF m 0 #[vR r0, vR r1, vI 0, vI 3, .val .null, .unset] [])) := fun t k => castTop (ef_3_3G m r0 r1 (0 : Int32) (3 : Int32)) k
  obtain ⟨A0, hA0⟩ : ∃ z, z = s₁.setTop (entryFrame m #[(.ref r0), (.ref r1), (.int 0), (.int 3), .null] 6) := ⟨_, rfl⟩
  rw [← hA0] at k0
  have kz : ∀ t, Steps p.tables e below A0 t → Steps p.tables e below (s₁.setTop (entryFrame m #[(.ref r0), (.ref r1), (.int 0), (.int 3), .null] 6)) t := fun t q => hA0 ▸ q
  have ks1 : own_R p e below (A0) (s₁.setTop (mkF m 1 #[vR r0, vR r1, vI 0, vI 3, .val .null, .unset] [(.ref r0)])) := fun t k => k0 t (by
    refine XS.aloadN X0.here hx rfl (hb hby d3_0) rfl rfl ?_
    exact k)
  obtain ⟨T2, X2, e2, st2⟩ := initO X0 hx hZ hown (own_w hw 16 rfl) (own_w hw 17 rfl) (own_w hw 18 rfl) e0 (g := (mkF m 1 #[vR r0, vR r1, vI 0, vI 3, .val .null, .unset] [(.ref r0)])) rfl (by rw [hml]; rfl) rfl (hb hby d3_1) (by decide) (W := 0) (by show 2 * 0 + _ ≤ _; exact Nat.le_of_eq rfl) (by decide)
  have ks3 := own_c ks1 st2
  have ks4 : own_R p e below (A0) (T2.setTop (mkF m 27 #[vR r0, vR r1, vI 0, vI 3, .val .null, .unset] [])) := fun t k => ks3 t (by
    refine XS.iloadN X2.here hx rfl (hb hby d3_4) rfl ?_
    refine XS.ifYes X2.here hx rfl (pc0 := 5) (pc' := 27) rfl (hb hby d3_5) rfl ((if0 _ _).trans (feq (by decide)).2) (by decide) (by decide) ?_
    exact k)
  obtain ⟨T5, X5, e5, st5⟩ := getS2 X2 hx hZ hown (host := "") (Or.inl (own_w hw 37 rfl)) Via.refl e2 S9 (g := (mkF m 27 #[vR r0, vR r1, vI 0, vI 3, .val .null, .unset] [])) rfl (hb hby d3_27)
  have ks6 := own_c ks4 st5
  have ks7 : own_R p e below (A0) (T5.setTop (mkF m 36 #[vR r0, vR r1, vI 0, vI 3, .val .null, .unset] [(.int 3), (.int 0), (.ref r1)])) := fun t k => ks6 t (by
    refine XS.ifNo X5.here hx rfl (hb hby d3_30) rfl ((if0 _ _).trans (feq P9).1) ?_
    refine XS.aloadN X5.here hx rfl (hb hby d3_33) rfl rfl ?_
    refine XS.iloadN X5.here hx rfl (hb hby d3_34) rfl ?_
    show Steps p.tables e below (T5.setTop (mkF m 35 #[vR r0, vR r1, vI 0, vI 3, .val .null, .unset] [(.int 0), (.ref r1)])) _
    refine XS.iloadN X5.here hx rfl (hb hby d3_35) rfl ?_
    exact k)
  obtain ⟨_, _, ⟨T8, L8, k8, n8⟩, -, X8, ⟨Lc8, hQ8, lq8, yq8, zq8⟩, st8⟩ := Jvm.LawKit.callS X5 hx (y := (⟨"java/lang/StringUTF16", "compress", "([CII)[B"⟩ : MethodName)) hown (mvT hZ (own_w hw 38 rfl)) (mvT hZ (own_w hw 39 rfl)) (mvT hZ (own_w hw 40 rfl)) (mvT hZ (own_w hw 41 rfl)) (by decide) (backOf (W := 0) (rm7_3G l Z a0 hw [] r1 _ y0 y1 y2 h0 n0 Z0 S7a S7b S7c V1 RY0 RY1 RY2) hZ (own_w hw 41 rfl) (own_w hw 40 rfl) (by decide) (by decide)) (g := (mkF m 36 #[vR r0, vR r1, vI 0, vI 3, .val .null, .unset] [(.int 3), (.int 0), (.ref r1)])) rfl (by rw [hml]; rfl) (argsL := [(.ref r1), (.int 0), (.int 3)]) (rest := []) (lenOf pd_6 rfl) rfl (by show 2 * 0 + _ ≤ _; exact Nat.le_of_eq rfl) (hb hby d3_36) (fun _ _ => ⟨rfl, e5, (by decide : 0 + 2 ≤ _), (by decide : 0 + 9 ≤ _)⟩)
  dsimp only [Pt.U, Pt.locs, Pt.cells, Pt.slots] at X8 lq8 yq8 zq8 st8 hQ8
  subst lq8 yq8 zq8
  obtain ⟨bq8, kq8, kd8, zz8, vv8, rfl, Nq8, Kq8, g_bq8, szq8, Vq8, hs8⟩ := hQ8
  have N8 := Fr.app N0 Nq8
  have KH8 : Keep h0 T8.heap [r0] := (Keep.refl h0 [r0]).trans Kq8 all0
  have Zn8 : n0 ≤ T8.heap.size := Nat.le_trans Z0 Kq8.1
  have ne_r1_bq8 : r1 ≠ bq8 := Nat.ne_of_lt (Nat.lt_of_lt_of_le V1.lt szq8)
  have ne_r0_bq8 : r0 ≠ bq8 := Nat.ne_of_lt (Nat.lt_of_lt_of_le E0.lt szq8)
  have sz_bq8 : h0.size ≤ bq8 := Nat.le_trans (Keep.refl h0 [r0]).1 szq8
  have ks9 := own_c ks7 st8
  have ks10 : own_R p e below (A0) (T8.setTop (mkF m 45 #[vR r0, vR r1, vI 0, vI 3, .val .null, vR bq8] [(.int 3), (.ref bq8), (.ref r0)])) := fun t k => ks9 t (by
    refine XS.astore X8.here hx rfl (hb hby d3_39) rfl rfl (l' := #[vR r0, vR r1, vI 0, vI 3, .val .null, vR bq8]) rfl ?_
    refine XS.aloadN X8.here hx rfl (hb hby d3_41) rfl rfl ?_
    refine XS.aload X8.here hx rfl (hb hby d3_42) rfl rfl ?_
    show Steps p.tables e below (T8.setTop (mkF m 44 #[vR r0, vR r1, vI 0, vI 3, .val .null, vR bq8] [(.ref bq8), (.ref r0)])) _
    refine XS.iloadN X8.here hx rfl (hb hby d3_44) rfl ?_
    exact k)
  obtain ⟨_, _, ⟨T11, L11, k11, n11⟩, -, X11, ⟨Lc11, hQ11, lq11, yq11, zq11⟩, st11⟩ := Jvm.LawKit.callS X8 hx (y := (⟨"java/lang/StringUTF16", "coderFromArrayLen", "([BI)B"⟩ : MethodName)) hown (mvT hZ (own_w hw 64 rfl)) (mvT hZ (own_w hw 65 rfl)) (mvT hZ (own_w hw 40 rfl)) (mvT hZ (own_w hw 66 rfl)) (by decide) (backOf (W := 1) (rm14 l Z a0 hw [] bq8 (3 : Int32) _ zz8 _ kd8 T8.heap n0 Zn8 Vq8 (own_sh_ck3 hs8)) hZ (own_w hw 66 rfl) (own_w hw 40 rfl) (by decide) (by decide)) (g := (mkF m 45 #[vR r0, vR r1, vI 0, vI 3, .val .null, vR bq8] [(.int 3), (.ref bq8), (.ref r0)])) rfl (by rw [hml]; rfl) (argsL := [(.ref bq8), (.int 3)]) (rest := [(.ref r0)]) (lenOf pd_12 rfl) rfl (by show 2 * 0 + _ ≤ _; exact Nat.le_of_eq rfl) (hb hby d3_45) (fun _ _ => ⟨rfl, rfl, (by decide : 2 + 0 ≤ _), (by decide : 9 + 0 ≤ _)⟩)
  dsimp only [Pt.U, Pt.locs, Pt.cells, Pt.slots] at X11 lq11 yq11 zq11 st11 hQ11
  subst lq11 yq11 zq11
  obtain ⟨rfl, Nq11, eq11⟩ := hQ11
  have N11 := Fr.app N8 Nq11
  have ks12 := own_c ks10 st11
  have f13 := E0.keep KH8
  have f14 := (Cd0.keep Kq8 nin0)
  obtain ⟨T15, h15, X15, e15, W15, st15⟩ := putFN X11 hx hZ hown (own_w hw 26 rfl) Via.refl eq11 f14 f13 (Or.inr ⟨(own_w hw 22 rfl), rfl, hnm⟩) (own_w hw 6 rfl) (ty := .byte) (v' := (.int (kd8.toInt8.toInt32))) (by decide) rfl (fits_nar_byte _) (g := (mkF m 48 #[vR r0, vR r1, vI 0, vI 3, .val .null, vR bq8] [(.int kd8), (.ref r0)])) rfl rfl (hb hby d3_48)
  have Fw15 := f14.same W15
  have KH15 : Keep h0 h15 [r0] := KH8.wr W15 (Or.inl (List.mem_of_getElem? (i := 0) rfl))
  have Zn15 : n0 ≤ h15.size := Nat.le_trans Zn8 (Keep.of_wr W15).1
  have N15 := Fr.snoc X15 N11 g_r0
  have ks16 := own_c ks12 st15
  have ks17 : own_R p e below (A0) (T15.setTop (mkF m 54 #[vR r0, vR r1, vI 0, vI 3, .val .null, vR bq8] [(.ref bq8), (.ref r0)])) := fun t k => ks16 t (by
    refine XS.aloadN X15.here hx rfl (hb hby d3_51) rfl rfl ?_
    refine XS.aload X15.here hx rfl (hb hby d3_52) rfl rfl ?_
    exact k)
  have f18 := E0.keep KH15
  have f19 := ((F0.keep Kq8 nin0).other W15 (Or.inr (slot_ne (Or.inr (own_w hw 21 rfl)) (Or.inr (own_w hw 22 rfl)) (by decide) (t := (.array .byte)) (t' := .byte) (by decide) (by decide))))
  obtain ⟨T20, h20, X20, e20, W20, st20⟩ := putF X15 hx hZ hown (host := "") (Or.inl (own_w hw 25 rfl)) Via.refl e15 f19 f18 (Or.inr ⟨(own_w hw 21 rfl), rfl, hnm⟩) (own_w hw 6 rfl) (ty := (.array .byte)) (by decide) rfl rfl (g := (mkF m 54 #[vR r0, vR r1, vI 0, vI 3, .val .null, vR bq8] [(.ref bq8), (.ref r0)])) rfl rfl (hb hby d3_54)
  have Fw20 := f19.same W20
  have KH20 : Keep h0 h20 [r0] := KH15.wr W20 (Or.inl (List.mem_of_getElem? (i := 0) rfl))
  have Zn20 : n0 ≤ h20.size := Nat.le_trans Zn15 (Keep.of_wr W20).1
  have N20 := Fr.snoc X20 N15 g_r0
  have ks21 := own_c ks17 st20
  obtain ⟨fs, hr, hrun, hended, hW, hsame⟩ := X20.leave (v := none) (fun _ => rfl) hlk
  refine ⟨_, _, kz _ (ks21 _ ?_), hrun, hended, _, _, rfl, ?_, ⟨_, rfl⟩, hW, hsame.mono (by decide) (by decide)⟩
  · exact X20.returnOut hx Bd.returns (hb hby d3_57) hr
  · show Q3_3G Z r0 r1 y9 kr1 y0 y1 y2 h0 n0 _ T20.heap _
    rw [e20]
    have f22 := (Fw15.other W20 (Or.inr (slot_ne (Or.inr (own_w hw 22 rfl)) (Or.inr (own_w hw 21 rfl)) (by decide) (t := .byte) (t' := (.array .byte)) (by decide) (by decide))))
    rw [own_sh_k hs8] at f22
    have f23 := ((Vq8.other W15 (Ne.symm ne_r0_bq8)).other W20 (Ne.symm ne_r0_bq8))
    exact ⟨rfl, N20, KH20, _, _, _, _, _, f22, Fw20, f23, hs8⟩
theorem ef_2_3G (m : MethodId) (x0 : Addr) (x1 : Addr) : entryFrame m #[(.ref x0), (.ref x1)] 2 = mkF m 0 #[.val (.ref x0), .val (.ref x1)] [] := by first | (simp [entryFrame, mkF, argsToLocals, Value.category]; done) | rfl
def Q2_3G (Z : State) (r0 : Addr) (r1 : Addr) (y9 : Int32) (kr1 : ClassId) (y0 : Int32) (y1 : Int32) (y2 : Int32) (h0 : Heap) (n0 : Nat) (v : Option Value) (h : Heap) (L : List Loc) : Prop := v = none ∧ Fr n0 L ∧ Keep h0 h [r0] ∧ ∃ (t : Addr) (kt : ClassId) (k z : Int32) (vs : List Value), own_Cd Z h r0 k ∧ own_Fv Z h r0 t ∧ Arv Z h t kt .byte z vs (.int 0) ∧ own_sh 3 k z vs [y0, y1, y2]
set_option maxRecDepth 65536 in
set_option maxHeartbeats 40000000 in
theorem rm2_3G (l : Launch) (Z : State) (a0 : Array Value) (hw : ∀ d ∈ tables_1, d.before a0 Z = true) (ws : List Jvm.Cond) (r0 : Addr) (r1 : Addr) (y9 : Int32) (kr1 : ClassId) (y0 : Int32) (y1 : Int32) (y2 : Int32) (h0 : Heap) (n0 : Nat) (Z0 : n0 ≤ h0.size) (S9 : own_S9 Z h0 y9) (P9 : ¬ y9 = (0 : Int32)) (S7a : own_S7a Z h0) (S7b : own_S7b Z h0) (S7c : own_S7c Z h0) (E0 : Exa Z h0 r0 "java/lang/String") (Cd0 : own_Cd Z h0 r0 0) (F0 : Fld Z h0 r0 "java/lang/String" "value" "[B" .null) (g_r0 : n0 ≤ r0) (n01 : r0 ≠ r1) (V1 : Arv Z h0 r1 kr1 .char (3 : Int32) [(.int y0), (.int y1), (.int y2)] (.int 0)) (RY0 : y0.toUInt32.toUInt16.toUInt32.toInt32 = y0) (RY1 : y1.toUInt32.toUInt16.toUInt32.toInt32 = y1) (RY2 : y2.toUInt32.toUInt16.toUInt32.toInt32 = y2) :
    MetFree l (⟨"java/lang/String", "<init>", "([C)V"⟩ : MethodName) (head1 (Jvm.Cond.code (⟨"java/lang/String", "<init>", "([C)V"⟩ : MethodName) jdk_42_method_3_code 2 none :: ws) ({ frames := 5, cells := 2, slots := 9, locals := 74 } : Room)) (fun a U => a = #[(.ref r0), (.ref r1)] ∧ Z.Warmed39 U.vm ∧ U.heap = h0) (fun _ _ _ _ _ => True) (fun _ U o U' => ∃ v L, o = .returned v ∧ Q2_3G Z r0 r1 y9 kr1 y0 y1 y2 h0 n0 v U'.heap L ∧ FrameEnd U o U' L ({ frames := 5, cells := 2, slots := 9, locals := 74 } : Room).cells ({ frames := 5, cells := 2, slots := 9, locals := 74 } : Room).slots) := by
  refine MetFree.of_bodySF (plainFor_of_name pn_2) hisR ?_
  intro p e s m args below meth c s₁ Bd hml0 hP hK
  obtain ⟨rfl, hZ, hh⟩ := hP
  have hx := Bd.exec
  have hby := Bd.bytes
  have hml : c.maxLocals = 2 := hml0
  have hown : s.vm.findClass "java/lang/String" = some m.cls := findClass_of_methodNamed Bd.named
  have hnm := (name_of_methodNamed Bd.named Bd.method).1
  have hlk : meth.locks = false := by first | exact BodyLoose.notSynchronized Bd | exact Body.notSynchronized Bd
  have X0 : Stand p l e ({ frames := 5, cells := 2, slots := 9, locals := 74 } : Room) s m #[(.ref r0), (.ref r1)] below meth c s₁ [] 0 0 := Stand.of_body Bd
  have e0 : s₁.heap = h0 := by rw [← hh, Bd.state]; rfl
  have N0 := Fr.nil n0
  have k0 : own_R p e below (s₁.setTop (entryFrame m #[(.ref r0), (.ref r1)] 2)) (s₁.setTop (mkF m 0 #[vR r0, vR r1] [])) := fun t k => castTop (ef_2_3G m r0 r1) k
  obtain ⟨A0, hA0⟩ : ∃ z, z = s₁.setTop (entryFrame m #[(.ref r0), (.ref r1)] 2) := ⟨_, rfl⟩
  rw [← hA0] at k0
  have kz : ∀ t, Steps p.tables e below A0 t → Steps p.tables e below (s₁.setTop (entryFrame m #[(.ref r0), (.ref r1)] 2)) t := fun t q => hA0 ▸ q
  have ks1 : own_R p e below (A0) (s₁.setTop (mkF m 4 #[vR r0, vR r1] [(.ref r1), (.int 0), (.ref r1), (.ref r0)])) := fun t k => k0 t (by
    refine XS.aloadN X0.here hx rfl (hb hby d2_0) rfl rfl ?_
    refine XS.aloadN X0.here hx rfl (hb hby d2_1) rfl rfl ?_
    refine XS.iconst X0.here hx rfl (hb hby d2_2) ?_
    show Steps p.tables e below (s₁.setTop (mkF m 3 #[vR r0, vR r1] [(.int 0), (.ref r1), (.ref r0)])) _
    refine XS.aloadN X0.here hx rfl (hb hby d2_3) rfl rfl ?_
    exact k)
  obtain ⟨cl2, Ar2, qa2, S2, Na2, Ha2, Ga2⟩ := id V1
  have ks3 : own_R p e below (A0) (s₁.setTop (mkF m 6 #[vR r0, vR r1] [.null, (.int 3), (.int 0), (.ref r1), (.ref r0)])) := fun t k => ks1 t (by
    refine X0.arraylength hx (by rw [e0]; exact Ar2.1) (State.isArrayOf_alike hZ.alike Ar2.2.1) (g := (mkF m 4 #[vR r0, vR r1] [(.ref r1), (.int 0), (.ref r1), (.ref r0)])) rfl rfl (hb hby d2_4) _ ?_
    rw [len_of S2 Na2]
    refine XS.aconstNull X0.here hx rfl (hb hby d2_5) ?_
    exact k)
  obtain ⟨_, _, ⟨T4, L4, k4, n4⟩, -, X4, ⟨Lc4, hQ4, lq4, yq4, zq4⟩, st4⟩ := X0.specialBack hx (y := (⟨"java/lang/String", "<init>", "([CIILjava/lang/Void;)V"⟩ : MethodName)) rfl hown (mvT hZ (own_w hw 12 rfl)) (mvT hZ (own_w hw 13 rfl)) (mvT hZ (own_w hw 15 rfl)) (by decide) (backOf (W := 0) (rm3_3G l Z a0 hw [] r0 r1 y9 _ y0 y1 y2 h0 n0 Z0 S9 P9 S7a S7b S7c E0 Cd0 F0 g_r0 n01 V1 RY0 RY1 RY2) hZ (own_w hw 15 rfl) (own_w hw 7 rfl) (by decide) (by decide)) (g := (mkF m 6 #[vR r0, vR r1] [.null, (.int 3), (.int 0), (.ref r1), (.ref r0)])) rfl (by rw [hml]; rfl) (Steps.refl _) (a := r0) (argsL := [(.ref r1), (.int 0), (.int 3), .null]) (rest := []) (lenOf pd_2 rfl) rfl (by show 2 * 0 + _ ≤ _; exact Nat.le_of_eq rfl) (hb hby d2_6) (fun _ _ => ⟨rfl, e0, (by decide : 0 + 2 ≤ _), (by decide : 0 + 9 ≤ _)⟩)
  dsimp only [Pt.U, Pt.locs, Pt.cells, Pt.slots] at X4 lq4 yq4 zq4 st4 hQ4
  subst lq4 yq4 zq4
  obtain ⟨rfl, Nq4, Kq4, tq4, kq4, kd4, zz4, vv4, Fc4, Fv4, Vq4, hs4⟩ := hQ4
  have N4 := Fr.app N0 Nq4
  have KH4 : Keep h0 T4.heap [r0] := (Keep.refl h0 [r0]).trans Kq4 (allS (Or.inl (List.mem_of_getElem? (i := 0) rfl)) all0)
  have Zn4 : n0 ≤ T4.heap.size := Nat.le_trans Z0 Kq4.1
  have ks5 := own_ct ks3 st4
  obtain ⟨fs, hr, hrun, hended, hW, hsame⟩ := X4.leave (v := none) (fun _ => rfl) hlk
  refine ⟨_, _, kz _ (ks5 _ ?_), hrun, hended, _, _, rfl, ?_, ⟨_, rfl⟩, hW, hsame.mono (by decide) (by decide)⟩
  · exact X4.returnOut hx Bd.returns (hb hby d2_9) hr
  · show Q2_3G Z r0 r1 y9 kr1 y0 y1 y2 h0 n0 _ T4.heap _
    exact ⟨rfl, N4, KH4, _, _, _, _, _, Fc4, Fv4, Vq4, hs4⟩
theorem d3_8 : decode jdk_42_method_149_code 8 = .ok (.aload_n 0, 1) := by decide +kernel
theorem d3_9 : decode jdk_42_method_149_code 9 = .ok (.ldc 7, 2) := by decide +kernel
theorem d3_11 : decode jdk_42_method_149_code 11 = .ok (.getfield 9, 3) := by decide +kernel
theorem d3_14 : decode jdk_42_method_149_code 14 = .ok (.putfield 9, 3) := by decide +kernel
theorem d3_17 : decode jdk_42_method_149_code 17 = .ok (.aload_n 0, 1) := by decide +kernel
theorem d3_18 : decode jdk_42_method_149_code 18 = .ok (.ldc 7, 2) := by decide +kernel
theorem d3_20 : decode jdk_42_method_149_code 20 = .ok (.getfield 15, 3) := by decide +kernel
theorem d3_23 : decode jdk_42_method_149_code 23 = .ok (.putfield 15, 3) := by decide +kernel
theorem d3_26 : decode jdk_42_method_149_code 26 = .ok (.return_, 1) := by decide +kernel
theorem ef_3_0 (m : MethodId) (x0 : Addr) (x1 : Addr) (x2 : Int32) (x3 : Int32) : entryFrame m #[(.ref x0), (.ref x1), (.int x2), (.int x3), .null] 6 = mkF m 0 #[.val (.ref x0), .val (.ref x1), .val (.int x2), .val (.int x3), .val .null, .unset] [] := by first | (simp [entryFrame, mkF, argsToLocals, Value.category]; done) | rfl
def Q3_0 (Z : State) (r0 : Addr) (r1 : Addr) (y9 : Int32) (kr1 : ClassId) (h0 : Heap) (n0 : Nat) (v : Option Value) (h : Heap) (L : List Loc) : Prop := v = none ∧ Fr n0 L ∧ Keep h0 h [r0] ∧ ∃ (t : Addr) (k : ClassId), own_Cd Z h r0 (0 : Int32) ∧ own_Fv Z h r0 t ∧ Arv Z h t k .byte (0 : Int32) [] (.int 0)
set_option maxRecDepth 65536 in
set_option maxHeartbeats 40000000 in
theorem rm3_0 (l : Launch) (Z : State) (a0 : Array Value) (hw : ∀ d ∈ tables_1, d.before a0 Z = true) (ws : List Jvm.Cond) (r0 : Addr) (r1 : Addr) (y9 : Int32) (kr1 : ClassId) (h0 : Heap) (n0 : Nat) (Z0 : n0 ≤ h0.size) (S9 : own_S9 Z h0 y9) (P9 : ¬ y9 = (0 : Int32)) (E0 : Exa Z h0 r0 "java/lang/String") (Cd0 : own_Cd Z h0 r0 0) (F0 : Fld Z h0 r0 "java/lang/String" "value" "[B" .null) (g_r0 : n0 ≤ r0) (n01 : r0 ≠ r1) (V1 : Arv Z h0 r1 kr1 .char (0 : Int32) [] (.int 0)) :
    MetFree l (⟨"java/lang/String", "<init>", "([CIILjava/lang/Void;)V"⟩ : MethodName) (head1 (Jvm.Cond.code (⟨"java/lang/String", "<init>", "([CIILjava/lang/Void;)V"⟩ : MethodName) jdk_42_method_149_code 6 none :: ws) ({ frames := 1, cells := 4, slots := 8, locals := 12 } : Room)) (fun a U => a = #[(.ref r0), (.ref r1), (.int 0), (.int 0), .null] ∧ Z.Warmed39 U.vm ∧ U.heap = h0 ∧ CHv Z consts_1 U.vm h0) (fun _ _ _ _ _ => True) (fun _ U o U' => ∃ v L, o = .returned v ∧ Q3_0 Z r0 r1 y9 kr1 h0 n0 v U'.heap L ∧ CHr Z consts_1 U.vm U.heap U'.vm U'.heap ∧ ReturnedEndW U o U' L ({ frames := 1, cells := 4, slots := 8, locals := 12 } : Room).cells ({ frames := 1, cells := 4, slots := 8, locals := 12 } : Room).slots) := by
  refine MetFree.of_bodySF (plainFor_of_name pn_3) hisR ?_
  intro p e s m args below meth c s₁ Bd hml0 hP hK
  obtain ⟨rfl, hZ, hh, C0⟩ := hP
  have hx := Bd.exec
  have hby := Bd.bytes
  have hml : c.maxLocals = 6 := hml0
  have hown : s.vm.findClass "java/lang/String" = some m.cls := findClass_of_methodNamed Bd.named
  have hnm := (name_of_methodNamed Bd.named Bd.method).1
  have hlk : meth.locks = false := by first | exact BodyLoose.notSynchronized Bd | exact Body.notSynchronized Bd
  have X0 : Stand p l e ({ frames := 1, cells := 4, slots := 8, locals := 12 } : Room) s m #[(.ref r0), (.ref r1), (.int 0), (.int 0), .null] below meth c s₁ [] 0 0 := Stand.of_body Bd
  have e0 : s₁.heap = h0 := by rw [← hh, Bd.state]; rfl
  have N0 := Fr.nil n0
  have hS0 : s.Since s.vm s.heap.size := (State.WarmedH.refl s).since _
  have hk0 : s.heap.size ≤ h0.size := by rw [hh]; exact Nat.le_refl _
  have X0 : Stand p l e ({ frames := 1, cells := 4, slots := 8, locals := 12 } : Room) (s.setVm s.vm) m #[(.ref r0), (.ref r1), (.int 0), (.int 0), .null] below meth c s₁ [] 0 0 := X0
  have hZ : Z.Warmed39 (s.setVm s.vm).vm := hZ
  have hown : (s.setVm s.vm).vm.findClass "java/lang/String" = some m.cls := hown
  have CR0 : CHr Z consts_1 s.vm h0 s.vm h0 := CHr.refl C0
  have k0 : own_R p e below (s₁.setTop (entryFrame m #[(.ref r0), (.ref r1), (.int 0), (.int 0), .null] 6)) (s₁.setTop (mkF m 0 #[vR r0, vR r1, vI 0, vI 0, .val .null, .unset] [])) := fun t k => castTop (ef_3_0 m r0 r1 (0 : Int32) (0 : Int32)) k
  obtain ⟨A0, hA0⟩ : ∃ z, z = s₁.setTop (entryFrame m #[(.ref r0), (.ref r1), (.int 0), (.int 0), .null] 6) := ⟨_, rfl⟩
  rw [← hA0] at k0
  have kz : ∀ t, Steps p.tables e below A0 t → Steps p.tables e below (s₁.setTop (entryFrame m #[(.ref r0), (.ref r1), (.int 0), (.int 0), .null] 6)) t := fun t q => hA0 ▸ q
  have Sf0_r0 : Safe Z consts_1 s.vm h0 r0 := own_safe_null hZ.alike E0 F0
  have ks1 : own_R p e below (A0) (s₁.setTop (mkF m 1 #[vR r0, vR r1, vI 0, vI 0, .val .null, .unset] [(.ref r0)])) := fun t k => k0 t (by
    refine XS.aloadN X0.here hx rfl (hb hby d3_0) rfl rfl ?_
    exact k)
  obtain ⟨T2, X2, e2, st2⟩ := initO X0 hx hZ hown (own_w hw 16 rfl) (own_w hw 17 rfl) (own_w hw 18 rfl) e0 (g := (mkF m 1 #[vR r0, vR r1, vI 0, vI 0, .val .null, .unset] [(.ref r0)])) rfl (by rw [hml]; rfl) rfl (hb hby d3_1) (by decide) (W := 0) (by show 2 * 0 + _ ≤ _; exact Nat.le_of_eq rfl) (by decide)
  have ks3 := own_c ks1 st2
  have ks4 : own_R p e below (A0) (T2.setTop (mkF m 9 #[vR r0, vR r1, vI 0, vI 0, .val .null, .unset] [(.ref r0)])) := fun t k => ks3 t (by
    refine XS.iloadN X2.here hx rfl (hb hby d3_4) rfl ?_
    refine XS.ifNo X2.here hx rfl (hb hby d3_5) rfl ((if0 _ _).trans (teq (by decide)).2) ?_
    refine XS.aloadN X2.here hx rfl (hb hby d3_8) rfl rfl ?_
    exact k)
  obtain ⟨a5, T5, h5, kk5, b5, c5, X5, e5, E5, hS5, hk5, hZ, hown, Ea5, Fc5, Fv5, V5, la5, lb5, ch5, -, hne5, st5⟩ := ldcCH X2 hx hZ hown (own_w hw 19 rfl) (own_strs hw) e2 hS0 hk0 (own_EW hw) (List.mem_of_getElem? (i := 3) rfl) CR0.1 (vs := []) (z := (0 : Int32)) ⟨by decide, rfl⟩ (by decide) rfl (g := (mkF m 9 #[vR r0, vR r1, vI 0, vI 0, .val .null, .unset] [(.ref r0)])) rfl (hb hby d3_9) (n := 0) (by decide) (by decide) (by decide) (by decide)
  have KH5 : Keep h0 h5 [r0] := (Keep.refl h0 [r0]).ext E5
  have Zn5 : n0 ≤ h5.size := Nat.le_trans Z0 E5.1
  have CR5 := CR0.trans (ch5)
  have Sf5_r0 := CHr.safe ch5 E0.lt Sf0_r0
  have ne_r0_a5 := (hne5 _ Sf5_r0).1
  have ne_r0_b5 := (hne5 _ Sf5_r0).2
  have ks6 := own_c ks4 st5
  obtain ⟨T7, X7, e7, st7⟩ := getF X5 hx hZ hown (host := "") (Or.inl (own_w hw 25 rfl)) Via.refl e5 Fv5 (g := (mkF m 11 #[vR r0, vR r1, vI 0, vI 0, .val .null, .unset] [(.ref a5), (.ref r0)])) rfl rfl (hb hby d3_11)
  have ks8 := own_c ks6 st7
  have f9 := E0.keep KH5
  have f10 := (F0.ext E5)
  obtain ⟨T11, h11, X11, e11, W11, st11⟩ := putF X7 hx hZ hown (host := "") (Or.inl (own_w hw 25 rfl)) Via.refl e7 f10 f9 (Or.inr ⟨(own_w hw 21 rfl), rfl, hnm⟩) (own_w hw 6 rfl) (ty := (.array .byte)) (by decide) rfl rfl (g := (mkF m 14 #[vR r0, vR r1, vI 0, vI 0, .val .null, .unset] [(.ref b5), (.ref r0)])) rfl rfl (hb hby d3_14)
  have Fw11 := f10.same W11
  have KH11 : Keep h0 h11 [r0] := KH5.wr W11 (Or.inl (List.mem_of_getElem? (i := 0) rfl))
  have Zn11 : n0 ≤ h11.size := Nat.le_trans Zn5 (Keep.of_wr W11).1
  have hk11 := Nat.le_trans hk5 (Keep.of_wr W11).1
  have CR11 := CR5.trans (CHr.wr W11 Sf5_r0 CR5.1)
  have Sf11_r0 := Safe.wr W11 Sf5_r0 CR5.1 Sf5_r0
  have N11 := Fr.snoc X11 N0 g_r0
  have ks12 := own_c ks8 st11
  have ks13 : own_R p e below (A0) (T11.setTop (mkF m 18 #[vR r0, vR r1, vI 0, vI 0, .val .null, .unset] [(.ref r0)])) := fun t k => ks12 t (by
    refine XS.aloadN X11.here hx rfl (hb hby d3_17) rfl rfl ?_
    exact k)
  have f14 := V1.keep KH11 (ninS (Ne.symm n01) nin0)
  have f15 := E0.keep KH11
  have f16 := (Ea5.wr W11)
  have f17 := (V5.other W11 (Ne.symm ne_r0_b5))
  obtain ⟨a18, T18, h18, kk18, b18, c18, X18, e18, E18, hS18, hk18, hZ, hown, Ea18, Fc18, Fv18, V18, la18, lb18, ch18, -, hne18, st18⟩ := ldcCH X11 hx hZ hown (own_w hw 19 rfl) (own_strs hw) e11 hS5 hk11 (own_EW hw) (List.mem_of_getElem? (i := 3) rfl) CR11.1 (vs := []) (z := (0 : Int32)) ⟨by decide, rfl⟩ (by decide) rfl (g := (mkF m 18 #[vR r0, vR r1, vI 0, vI 0, .val .null, .unset] [(.ref r0)])) rfl (hb hby d3_18) (n := 0) (by decide) (by decide) (by decide) (by decide)
  have KH18 : Keep h0 h18 [r0] := KH11.ext E18
  have Zn18 : n0 ≤ h18.size := Nat.le_trans Zn11 E18.1
  have CR18 := CR11.trans (ch18)
  have Sf18_r0 := CHr.safe ch18 f15.lt Sf11_r0
  have ne_r0_a18 := (hne18 _ Sf18_r0).1
  have ne_r0_b18 := (hne18 _ Sf18_r0).2
  have ks19 := own_c ks13 st18
  obtain ⟨T20, X20, e20, st20⟩ := getF X18 hx hZ hown (host := "") (Or.inl (own_w hw 26 rfl)) Via.refl e18 Fc18 (g := (mkF m 20 #[vR r0, vR r1, vI 0, vI 0, .val .null, .unset] [(.ref a18), (.ref r0)])) rfl rfl (hb hby d3_20)
  have ks21 := own_c ks19 st20
  have f22 := E0.keep KH18
  have f23 := (((Cd0.ext E5).other W11 (Or.inr (slot_ne (Or.inr (own_w hw 22 rfl)) (Or.inr (own_w hw 21 rfl)) (by decide) (t := .byte) (t' := (.array .byte)) (by decide) (by decide)))).ext E18)
  obtain ⟨T24, h24, X24, e24, W24, st24⟩ := putFN X20 hx hZ hown (own_w hw 26 rfl) Via.refl e20 f23 f22 (Or.inr ⟨(own_w hw 22 rfl), rfl, hnm⟩) (own_w hw 6 rfl) (ty := .byte) (v' := (.int 0)) (by decide) rfl (by decide) (g := (mkF m 23 #[vR r0, vR r1, vI 0, vI 0, .val .null, .unset] [(.int 0), (.ref r0)])) rfl rfl (hb hby d3_23)
  have Fw24 := f23.same W24
  have KH24 : Keep h0 h24 [r0] := KH18.wr W24 (Or.inl (List.mem_of_getElem? (i := 0) rfl))
  have Zn24 : n0 ≤ h24.size := Nat.le_trans Zn18 (Keep.of_wr W24).1
  have hk24 := Nat.le_trans hk18 (Keep.of_wr W24).1
  have CR24 := CR18.trans (CHr.wr W24 Sf18_r0 CR18.1)
  have Sf24_r0 := Safe.wr W24 Sf18_r0 CR18.1 Sf18_r0
  have N24 := Fr.snoc X24 N11 g_r0
  have ks25 := own_c ks21 st24
  obtain ⟨fs, hr, hrun, hended, hEnd⟩ := X24.leaveW hS18 (by rw [e24]; exact hk24) (v := none) (fun _ => rfl) hlk
  have CRf : CHr Z consts_1 s.vm s.heap T24.vm T24.heap := by rw [hh, e24]; exact CR24.trans (CHv.at X24 hZ (own_EW hw) CR24.1)
  refine ⟨_, _, kz _ (ks25 _ ?_), hrun, hended, _, _, rfl, ?_, CRf, hEnd.1, hEnd.2.1, hEnd.2.2.1, hEnd.2.2.2.mono (by decide) (by decide)⟩
  · exact X24.returnOut hx Bd.returns (hb hby d3_26) hr
  · show Q3_0 Z r0 r1 y9 kr1 h0 n0 _ T24.heap _
    rw [e24]
    have f26 := ((Fw11.ext E18).other W24 (Or.inr (slot_ne (Or.inr (own_w hw 21 rfl)) (Or.inr (own_w hw 22 rfl)) (by decide) (t := (.array .byte)) (t' := .byte) (by decide) (by decide))))
    have f27 := ((f17.ext E18).other W24 (Ne.symm ne_r0_b5))
    exact ⟨rfl, N24, KH24, _, _, Fw24, f26, f27⟩
theorem ef_2_0 (m : MethodId) (x0 : Addr) (x1 : Addr) : entryFrame m #[(.ref x0), (.ref x1)] 2 = mkF m 0 #[.val (.ref x0), .val (.ref x1)] [] := by first | (simp [entryFrame, mkF, argsToLocals, Value.category]; done) | rfl
def Q2_0 (Z : State) (r0 : Addr) (r1 : Addr) (y9 : Int32) (kr1 : ClassId) (h0 : Heap) (n0 : Nat) (v : Option Value) (h : Heap) (L : List Loc) : Prop := v = none ∧ Fr n0 L ∧ Keep h0 h [r0] ∧ ∃ (t : Addr) (k : ClassId), own_Cd Z h r0 (0 : Int32) ∧ own_Fv Z h r0 t ∧ Arv Z h t k .byte (0 : Int32) [] (.int 0)
set_option maxRecDepth 65536 in
set_option maxHeartbeats 40000000 in
theorem rm2_0 (l : Launch) (Z : State) (a0 : Array Value) (hw : ∀ d ∈ tables_1, d.before a0 Z = true) (ws : List Jvm.Cond) (r0 : Addr) (r1 : Addr) (y9 : Int32) (kr1 : ClassId) (h0 : Heap) (n0 : Nat) (Z0 : n0 ≤ h0.size) (S9 : own_S9 Z h0 y9) (P9 : ¬ y9 = (0 : Int32)) (E0 : Exa Z h0 r0 "java/lang/String") (Cd0 : own_Cd Z h0 r0 0) (F0 : Fld Z h0 r0 "java/lang/String" "value" "[B" .null) (g_r0 : n0 ≤ r0) (n01 : r0 ≠ r1) (V1 : Arv Z h0 r1 kr1 .char (0 : Int32) [] (.int 0)) :
    MetFree l (⟨"java/lang/String", "<init>", "([C)V"⟩ : MethodName) (head1 (Jvm.Cond.code (⟨"java/lang/String", "<init>", "([C)V"⟩ : MethodName) jdk_42_method_3_code 2 none :: ws) ({ frames := 2, cells := 4, slots := 8, locals := 29 } : Room)) (fun a U => a = #[(.ref r0), (.ref r1)] ∧ Z.Warmed39 U.vm ∧ U.heap = h0 ∧ CHv Z consts_1 U.vm h0) (fun _ _ _ _ _ => True) (fun _ U o U' => ∃ v L, o = .returned v ∧ Q2_0 Z r0 r1 y9 kr1 h0 n0 v U'.heap L ∧ CHr Z consts_1 U.vm U.heap U'.vm U'.heap ∧ ReturnedEndW U o U' L ({ frames := 2, cells := 4, slots := 8, locals := 29 } : Room).cells ({ frames := 2, cells := 4, slots := 8, locals := 29 } : Room).slots) := by
  refine MetFree.of_bodySF (plainFor_of_name pn_2) hisR ?_
  intro p e s m args below meth c s₁ Bd hml0 hP hK
  obtain ⟨rfl, hZ, hh, C0⟩ := hP
  have hx := Bd.exec
  have hby := Bd.bytes
  have hml : c.maxLocals = 2 := hml0
  have hown : s.vm.findClass "java/lang/String" = some m.cls := findClass_of_methodNamed Bd.named
  have hnm := (name_of_methodNamed Bd.named Bd.method).1
  have hlk : meth.locks = false := by first | exact BodyLoose.notSynchronized Bd | exact Body.notSynchronized Bd
  have X0 : Stand p l e ({ frames := 2, cells := 4, slots := 8, locals := 29 } : Room) s m #[(.ref r0), (.ref r1)] below meth c s₁ [] 0 0 := Stand.of_body Bd
  have e0 : s₁.heap = h0 := by rw [← hh, Bd.state]; rfl
  have N0 := Fr.nil n0
  have hS0 : s.Since s.vm s.heap.size := (State.WarmedH.refl s).since _
  have hk0 : s.heap.size ≤ h0.size := by rw [hh]; exact Nat.le_refl _
  have X0 : Stand p l e ({ frames := 2, cells := 4, slots := 8, locals := 29 } : Room) (s.setVm s.vm) m #[(.ref r0), (.ref r1)] below meth c s₁ [] 0 0 := X0
  have hZ : Z.Warmed39 (s.setVm s.vm).vm := hZ
  have hown : (s.setVm s.vm).vm.findClass "java/lang/String" = some m.cls := hown
  have CR0 : CHr Z consts_1 s.vm h0 s.vm h0 := CHr.refl C0
  have k0 : own_R p e below (s₁.setTop (entryFrame m #[(.ref r0), (.ref r1)] 2)) (s₁.setTop (mkF m 0 #[vR r0, vR r1] [])) := fun t k => castTop (ef_2_0 m r0 r1) k
  obtain ⟨A0, hA0⟩ : ∃ z, z = s₁.setTop (entryFrame m #[(.ref r0), (.ref r1)] 2) := ⟨_, rfl⟩
  rw [← hA0] at k0
  have kz : ∀ t, Steps p.tables e below A0 t → Steps p.tables e below (s₁.setTop (entryFrame m #[(.ref r0), (.ref r1)] 2)) t := fun t q => hA0 ▸ q
  have Sf0_r0 : Safe Z consts_1 s.vm h0 r0 := own_safe_null hZ.alike E0 F0
  have ks1 : own_R p e below (A0) (s₁.setTop (mkF m 4 #[vR r0, vR r1] [(.ref r1), (.int 0), (.ref r1), (.ref r0)])) := fun t k => k0 t (by
    refine XS.aloadN X0.here hx rfl (hb hby d2_0) rfl rfl ?_
    refine XS.aloadN X0.here hx rfl (hb hby d2_1) rfl rfl ?_
    refine XS.iconst X0.here hx rfl (hb hby d2_2) ?_
    show Steps p.tables e below (s₁.setTop (mkF m 3 #[vR r0, vR r1] [(.int 0), (.ref r1), (.ref r0)])) _
    refine XS.aloadN X0.here hx rfl (hb hby d2_3) rfl rfl ?_
    exact k)
  obtain ⟨cl2, Ar2, qa2, S2, Na2, Ha2, Ga2⟩ := id V1
  have ks3 : own_R p e below (A0) (s₁.setTop (mkF m 6 #[vR r0, vR r1] [.null, (.int 0), (.int 0), (.ref r1), (.ref r0)])) := fun t k => ks1 t (by
    refine X0.arraylength hx (by rw [e0]; exact Ar2.1) (State.isArrayOf_alike hZ.alike Ar2.2.1) (g := (mkF m 4 #[vR r0, vR r1] [(.ref r1), (.int 0), (.ref r1), (.ref r0)])) rfl rfl (hb hby d2_4) _ ?_
    rw [len_of S2 Na2]
    refine XS.aconstNull X0.here hx rfl (hb hby d2_5) ?_
    exact k)
  obtain ⟨_, _, ⟨T4, L4, k4, n4⟩, -, X4, hT4, hgr4, ⟨Lc4, hQ4, lq4, yq4, zq4, ch4⟩, st4⟩ := X0.specialBackS hx (y := (⟨"java/lang/String", "<init>", "([CIILjava/lang/Void;)V"⟩ : MethodName)) rfl hown (mvT hZ (own_w hw 12 rfl)) (mvT hZ (own_w hw 13 rfl)) (mvT hZ (own_w hw 15 rfl)) (by decide) (backOfSH (W := 0) (rm3_0 l Z a0 hw [] r0 r1 y9 _ h0 n0 Z0 S9 P9 E0 Cd0 F0 g_r0 n01 V1) hZ (own_w hw 15 rfl) (own_w hw 7 rfl) (by decide) (by decide) (own_EW hw) CR0.1) (g := (mkF m 6 #[vR r0, vR r1] [.null, (.int 0), (.int 0), (.ref r1), (.ref r0)])) rfl (by rw [hml]; rfl) (Steps.refl _) (a := r0) (argsL := [(.ref r1), (.int 0), (.int 0), .null]) (rest := []) (lenOf pd_2 rfl) rfl (by show 2 * 0 + _ ≤ _; exact Nat.le_of_eq rfl) (hb hby d2_6) (fun _ _ => ⟨rfl, e0, (by decide : 0 + 4 ≤ _), (by decide : 0 + 8 ≤ _)⟩)
  dsimp only [Pt.U, Pt.locs, Pt.cells, Pt.slots] at X4 lq4 yq4 zq4 st4 hQ4 hT4 hgr4 ch4
  subst lq4 yq4 zq4
  obtain ⟨X4, hS4, hZ, hown⟩ := rebS hS0 (by rw [e0]; exact hk0) X4 hT4 hgr4 hZ hown
  obtain ⟨rfl, Nq4, Kq4, tq4, kq4, Fc4, Fv4, Vq4⟩ := hQ4
  have N4 := Fr.app N0 Nq4
  have KH4 : Keep h0 T4.heap [r0] := (Keep.refl h0 [r0]).trans Kq4 (allS (Or.inl (List.mem_of_getElem? (i := 0) rfl)) all0)
  have Zn4 : n0 ≤ T4.heap.size := Nat.le_trans Z0 Kq4.1
  have CR4 := CR0.trans (ch4)
  have Sf4_r0 := CHr.safe ch4 E0.lt Sf0_r0
  have ks5 := own_ct ks3 st4
  obtain ⟨fs, hr, hrun, hended, hEnd⟩ := X4.leaveW hS4 (Nat.le_refl T4.heap.size) (v := none) (fun _ => rfl) hlk
  have CRf : CHr Z consts_1 s.vm s.heap T4.vm T4.heap := by rw [hh]; exact CR4.trans (CHv.at X4 hZ (own_EW hw) CR4.1)
  refine ⟨_, _, kz _ (ks5 _ ?_), hrun, hended, _, _, rfl, ?_, CRf, hEnd.1, hEnd.2.1, hEnd.2.2.1, hEnd.2.2.2.mono (by decide) (by decide)⟩
  · exact X4.returnOut hx Bd.returns (hb hby d2_9) hr
  · show Q2_0 Z r0 r1 y9 kr1 h0 n0 _ T4.heap _
    exact ⟨rfl, N4, KH4, _, _, Fc4, Fv4, Vq4⟩
theorem own_drawR (p : Int32) : (own_draw p).toUInt32.toUInt16.toUInt32.toInt32 = own_draw p := by
  have k : ∀ u : UInt16, u.toUInt32.toInt32.toUInt32.toUInt16 = u := fun u => by simp
  unfold own_draw; split <;> rw [k]
theorem own_step (c : Int32) (R : c.toUInt32.toUInt16.toUInt32.toInt32 = c) (K : Int32) : (if (32 : Int32) < c then (if (126 : Int32) < c then (0 : Int32) else (if (own_ix c) < (0 : Int32) then K else (0 : Int32))) else (0 : Int32)) = if own_ok c = 0 then 0 else K := by
  by_cases h : (255 : Int32) < c
  · have h1 : (126 : Int32) < c := by
      rw [Int32.lt_iff_toInt_lt] at h ⊢
      rw [show (255 : Int32).toInt = 255 from by decide] at h
      rw [show (126 : Int32).toInt = 126 from by decide]; omega
    have h2 : own_ok c = 0 := by
      unfold own_ok; simp [h1]
    rw [if_pos h1, h2, if_pos rfl]; split <;> rfl
  · have key : ∀ k : Fin 256, (((32 : Int32) < Int32.ofNat k.val) ∧ (¬ (126 : Int32) < Int32.ofNat k.val) ∧ (own_ix (Int32.ofNat k.val)) < (0 : Int32)) ↔ ¬ (own_ok (Int32.ofNat k.val) = 0) := by decide +kernel
    obtain ⟨k, hk⟩ := own_lat c R h
    have q := key k
    rw [← hk] at q
    by_cases a1 : (32 : Int32) < c
    · by_cases a2 : (126 : Int32) < c
      · have : own_ok c = 0 := Classical.byContradiction fun z => (q.mpr z).2.1 a2
        rw [if_pos a1, if_pos a2, this, if_pos rfl]
      · by_cases a3 : (own_ix c) < (0 : Int32)
        · rw [if_pos a1, if_neg a2, if_pos a3, if_neg (q.mp ⟨a1, a2, a3⟩)]
        · have : own_ok c = 0 := Classical.byContradiction fun z => a3 (q.mpr z).2.2
          rw [if_pos a1, if_neg a2, if_neg a3, this, if_pos rfl]
    · have : own_ok c = 0 := Classical.byContradiction fun z => a1 (q.mpr z).1
      rw [if_neg a1, this, if_pos rfl]
theorem d5_0 : decode prog_8_method_2_code 0 = .ok (.aload_n 0, 1) := by decide +kernel
theorem d5_1 : decode prog_8_method_2_code 1 = .ok (.ifnull 10, 3) := by decide +kernel
theorem d5_11 : decode prog_8_method_2_code 11 = .ok (.iconst 0, 1) := by decide +kernel
theorem d5_12 : decode prog_8_method_2_code 12 = .ok (.ireturn, 1) := by decide +kernel
theorem pn_5 : plainName "com/example/rackline/rackline/core/Names" = true := by first | (simp [plainName, overriddenIn]; done) | decide +kernel
theorem ef_5_n (m : MethodId)  : entryFrame m #[.null] 3 = mkF m 0 #[.val .null, .unset, .unset] [] := by first | (simp [entryFrame, mkF, argsToLocals, Value.category]; done) | rfl
def Q5_n (Z : State)  (h0 : Heap) (n0 : Nat) (v : Option Value) (h : Heap) (L : List Loc) : Prop := v = some (.int (0 : Int32)) ∧ Fr n0 L ∧ h = h0
set_option maxRecDepth 65536 in
set_option maxHeartbeats 40000000 in
theorem rm5_n (l : Launch) (Z : State) (a0 : Array Value) (hw : ∀ d ∈ tables_1, d.before a0 Z = true) (ws : List Jvm.Cond)  (h0 : Heap) (n0 : Nat) (Z0 : n0 ≤ h0.size) :
    MetFree l (⟨"com/example/rackline/rackline/core/Names", "isValid", "(Ljava/lang/String;)Z"⟩ : MethodName) (head1 (Jvm.Cond.code (⟨"com/example/rackline/rackline/core/Names", "isValid", "(Ljava/lang/String;)Z"⟩ : MethodName) prog_8_method_2_code 3 (some .boolean) :: ws) ({ frames := 0, cells := 0, slots := 0, locals := 0 } : Room)) (fun a U => a = #[.null] ∧ Z.Warmed39 U.vm ∧ U.heap = h0) (fun _ _ _ _ _ => True) (fun _ U o U' => ∃ v L, o = .returned v ∧ Q5_n Z  h0 n0 v U'.heap L ∧ FrameEnd U o U' L ({ frames := 0, cells := 0, slots := 0, locals := 0 } : Room).cells ({ frames := 0, cells := 0, slots := 0, locals := 0 } : Room).slots) := by
  refine MetFree.of_bodySF (plainFor_of_name pn_5) hisR ?_
  intro p e s m args below meth c s₁ Bd hml0 hP hK
  obtain ⟨rfl, hZ, hh⟩ := hP
  have hx := Bd.exec
  have hby := Bd.bytes
  have hml : c.maxLocals = 3 := hml0
  have hown : s.vm.findClass "com/example/rackline/rackline/core/Names" = some m.cls := findClass_of_methodNamed Bd.named
  have hnm := (name_of_methodNamed Bd.named Bd.method).1
  have hlk : meth.locks = false := by first | exact BodyLoose.notSynchronized Bd | exact Body.notSynchronized Bd
  have X0 : Stand p l e ({ frames := 0, cells := 0, slots := 0, locals := 0 } : Room) s m #[.null] below meth c s₁ [] 0 0 := Stand.of_body Bd
  have e0 : s₁.heap = h0 := by rw [← hh, Bd.state]; rfl
  have N0 := Fr.nil n0
  have k0 : own_R p e below (s₁.setTop (entryFrame m #[.null] 3)) (s₁.setTop (mkF m 0 #[.val .null, .unset, .unset] [])) := fun t k => castTop (ef_5_n m ) k
  obtain ⟨A0, hA0⟩ : ∃ z, z = s₁.setTop (entryFrame m #[.null] 3) := ⟨_, rfl⟩
  rw [← hA0] at k0
  have kz : ∀ t, Steps p.tables e below A0 t → Steps p.tables e below (s₁.setTop (entryFrame m #[.null] 3)) t := fun t q => hA0 ▸ q
  have ks1 : own_R p e below (A0) (s₁.setTop (mkF m 12 #[.val .null, .unset, .unset] [(.int 0)])) := fun t k => k0 t (by
    refine XS.aloadN X0.here hx rfl (hb hby d5_0) rfl rfl ?_
    refine XS.ifnullYes X0.here hx rfl (pc0 := 1) (pc' := 11) rfl (hb hby d5_1) rfl (by decide) (by decide) ?_
    refine XS.iconst X0.here hx rfl (hb hby d5_11) ?_
    exact k)
  obtain ⟨fs, hr, hrun, hended, hW, hsame⟩ := X0.leave (v := some (.int 0)) (fun h => by rw [Bd.returns] at h; cases h) hlk
  refine ⟨_, _, kz _ (ks1 _ ?_), hrun, hended, _, _, rfl, ?_, ⟨_, rfl⟩, hW, hsame.mono (by decide) (by decide)⟩
  · exact retN X0 hx (t := .boolean) Bd.returns (by simp) (hb hby d5_12) hr
  · show Q5_n Z  h0 n0 _ s₁.heap _
    rw [e0]
    exact ⟨rfl, N0, rfl⟩
theorem d5_4 : decode prog_8_method_2_code 4 = .ok (.aload_n 0, 1) := by decide +kernel
theorem d5_5 : decode prog_8_method_2_code 5 = .ok (.invokevirtual 7, 3) := by decide +kernel
theorem d5_8 : decode prog_8_method_2_code 8 = .ok (.ifCond .eq 5, 3) := by decide +kernel
theorem ef_5_L0 (m : MethodId) (x0 : Addr) : entryFrame m #[(.ref x0)] 3 = mkF m 0 #[.val (.ref x0), .unset, .unset] [] := by first | (simp [entryFrame, mkF, argsToLocals, Value.category]; done) | rfl
def Q5_L0 (Z : State) (r0 : Addr) (y9 : Int32) (t0 : Addr) (kt0 : ClassId) (h0 : Heap) (n0 : Nat) (v : Option Value) (h : Heap) (L : List Loc) : Prop := v = some (.int (0 : Int32)) ∧ Fr n0 L ∧ h = h0
set_option maxRecDepth 65536 in
set_option maxHeartbeats 40000000 in
theorem rm5_L0 (l : Launch) (Z : State) (a0 : Array Value) (hw : ∀ d ∈ tables_1, d.before a0 Z = true) (ws : List Jvm.Cond) (r0 : Addr) (y9 : Int32) (t0 : Addr) (kt0 : ClassId) (h0 : Heap) (n0 : Nat) (Z0 : n0 ≤ h0.size) (S9 : own_S9 Z h0 y9) (P9 : ¬ y9 = (0 : Int32)) (E0 : Exa Z h0 r0 "java/lang/String") (Cd0 : own_Cd Z h0 r0 0) (F0 : own_Fv Z h0 r0 t0) (V0 : Arv Z h0 t0 kt0 .byte (0 : Int32) [] (.int 0)) :
    MetFree l (⟨"com/example/rackline/rackline/core/Names", "isValid", "(Ljava/lang/String;)Z"⟩ : MethodName) (head1 (Jvm.Cond.code (⟨"com/example/rackline/rackline/core/Names", "isValid", "(Ljava/lang/String;)Z"⟩ : MethodName) prog_8_method_2_code 3 (some .boolean) :: ws) ({ frames := 1, cells := 0, slots := 0, locals := 12 } : Room)) (fun a U => a = #[(.ref r0)] ∧ Z.Warmed39 U.vm ∧ U.heap = h0) (fun _ _ _ _ _ => True) (fun _ U o U' => ∃ v L, o = .returned v ∧ Q5_L0 Z r0 y9 t0 kt0 h0 n0 v U'.heap L ∧ FrameEnd U o U' L ({ frames := 1, cells := 0, slots := 0, locals := 12 } : Room).cells ({ frames := 1, cells := 0, slots := 0, locals := 12 } : Room).slots) := by
  refine MetFree.of_bodySF (plainFor_of_name pn_5) hisR ?_
  intro p e s m args below meth c s₁ Bd hml0 hP hK
  obtain ⟨rfl, hZ, hh⟩ := hP
  have hx := Bd.exec
  have hby := Bd.bytes
  have hml : c.maxLocals = 3 := hml0
  have hown : s.vm.findClass "com/example/rackline/rackline/core/Names" = some m.cls := findClass_of_methodNamed Bd.named
  have hnm := (name_of_methodNamed Bd.named Bd.method).1
  have hlk : meth.locks = false := by first | exact BodyLoose.notSynchronized Bd | exact Body.notSynchronized Bd
  have X0 : Stand p l e ({ frames := 1, cells := 0, slots := 0, locals := 12 } : Room) s m #[(.ref r0)] below meth c s₁ [] 0 0 := Stand.of_body Bd
  have e0 : s₁.heap = h0 := by rw [← hh, Bd.state]; rfl
  have N0 := Fr.nil n0
  have k0 : own_R p e below (s₁.setTop (entryFrame m #[(.ref r0)] 3)) (s₁.setTop (mkF m 0 #[vR r0, .unset, .unset] [])) := fun t k => castTop (ef_5_L0 m r0) k
  obtain ⟨A0, hA0⟩ : ∃ z, z = s₁.setTop (entryFrame m #[(.ref r0)] 3) := ⟨_, rfl⟩
  rw [← hA0] at k0
  have kz : ∀ t, Steps p.tables e below A0 t → Steps p.tables e below (s₁.setTop (entryFrame m #[(.ref r0)] 3)) t := fun t q => hA0 ▸ q
  have ks1 : own_R p e below (A0) (s₁.setTop (mkF m 5 #[vR r0, .unset, .unset] [(.ref r0)])) := fun t k => k0 t (by
    refine XS.aloadN X0.here hx rfl (hb hby d5_0) rfl rfl ?_
    refine XS.ifnullNo X0.here hx rfl (hb hby d5_1) rfl ?_
    refine XS.aloadN X0.here hx rfl (hb hby d5_4) rfl rfl ?_
    exact k)
  obtain ⟨cq2, kq2, q2a, q2b, q2c⟩ := isOf hZ e0 E0
  obtain ⟨_, _, ⟨T2, L2, k2, n2⟩, -, X2, ⟨Lc2, hQ2, lq2, yq2, zq2⟩, st2⟩ := X0.virtualBack hx (y := (⟨"java/lang/String", "isEmpty", "()Z"⟩ : MethodName)) (z := (⟨"java/lang/String", "isEmpty", "()Z"⟩ : MethodName)) hown (mvT hZ (own_w hw 31 rfl)) (mvT hZ (own_w hw 32 rfl)) (notFace_of_selects (args := #[]) (mvT hZ (own_w hw 34 rfl))) (mvT hZ (own_w hw 34 rfl)) (mvT hZ (own_w hw 33 rfl)) (by decide) (backOf (W := 0) (rm6_e l Z a0 hw [] r0 t0 _ (0 : Int32) (0 : Int32) _ h0 n0 Z0 E0 Cd0 F0 V0 (by decide)) hZ (own_w hw 35 rfl) (own_w hw 7 rfl) (by decide) (by decide)) q2a q2c (g := (mkF m 5 #[vR r0, .unset, .unset] [(.ref r0)])) rfl (by rw [hml]; rfl) (Steps.refl _) (argsL := []) (rest := []) (lenOf pd_5 rfl) rfl (by show 2 * 0 + _ ≤ _; exact Nat.le_of_eq rfl) (hb hby d5_5) (fun _ _ => ⟨rfl, e0, (by decide : 0 + 0 ≤ _), (by decide : 0 + 0 ≤ _)⟩)
  dsimp only [Pt.U, Pt.locs, Pt.cells, Pt.slots] at X2 lq2 yq2 zq2 st2 hQ2
  subst lq2 yq2 zq2
  obtain ⟨rfl, Nq2, eq2⟩ := hQ2
  have N2 := Fr.app N0 Nq2
  have ks3 := own_ct ks1 st2
  have ks4 : own_R p e below (A0) (T2.setTop (mkF m 12 #[vR r0, .unset, .unset] [(.int 0)])) := fun t k => ks3 t (by
    refine XS.ifNo X2.here hx rfl (hb hby d5_8) rfl ((if0 _ _).trans (feq (by decide)).1) ?_
    refine XS.iconst X2.here hx rfl (hb hby d5_11) ?_
    exact k)
  obtain ⟨fs, hr, hrun, hended, hW, hsame⟩ := X2.leave (v := some (.int 0)) (fun h => by rw [Bd.returns] at h; cases h) hlk
  refine ⟨_, _, kz _ (ks4 _ ?_), hrun, hended, _, _, rfl, ?_, ⟨_, rfl⟩, hW, hsame.mono (by decide) (by decide)⟩
  · exact retN X2 hx (t := .boolean) Bd.returns (by simp) (hb hby d5_12) hr
  · show Q5_L0 Z r0 y9 t0 kt0 h0 n0 _ T2.heap _
    rw [eq2]
    exact ⟨rfl, N2, rfl⟩
def own_val_G1 (kd0 : Int32) (y0 : Int32) : Int32 := (if (own_eq_G1 kd0 y0) = (0 : Int32) then (if (32 : Int32) < y0 then (if (126 : Int32) < y0 then (0 : Int32) else (if (own_ix y0) < (0 : Int32) then (1 : Int32) else (0 : Int32))) else (0 : Int32)) else (0 : Int32))
theorem d5_13 : decode prog_8_method_2_code 13 = .ok (.aload_n 0, 1) := by decide +kernel
theorem d5_14 : decode prog_8_method_2_code 14 = .ok (.ldc 13, 2) := by decide +kernel
theorem d5_16 : decode prog_8_method_2_code 16 = .ok (.invokevirtual 15, 3) := by decide +kernel
theorem d5_19 : decode prog_8_method_2_code 19 = .ok (.ifCond .ne 12, 3) := by decide +kernel
theorem d5_22 : decode prog_8_method_2_code 22 = .ok (.aload_n 0, 1) := by decide +kernel
theorem d5_23 : decode prog_8_method_2_code 23 = .ok (.ldc 19, 2) := by decide +kernel
theorem d5_25 : decode prog_8_method_2_code 25 = .ok (.invokevirtual 15, 3) := by decide +kernel
theorem d5_28 : decode prog_8_method_2_code 28 = .ok (.ifCond .eq 5, 3) := by decide +kernel
theorem d5_31 : decode prog_8_method_2_code 31 = .ok (.iconst 0, 1) := by decide +kernel
theorem d5_32 : decode prog_8_method_2_code 32 = .ok (.ireturn, 1) := by decide +kernel
theorem d5_33 : decode prog_8_method_2_code 33 = .ok (.iconst 0, 1) := by decide +kernel
theorem d5_34 : decode prog_8_method_2_code 34 = .ok (.istore_n 1, 1) := by decide +kernel
theorem d5_35 : decode prog_8_method_2_code 35 = .ok (.iload_n 1, 1) := by decide +kernel
theorem d5_36 : decode prog_8_method_2_code 36 = .ok (.aload_n 0, 1) := by decide +kernel
theorem d5_37 : decode prog_8_method_2_code 37 = .ok (.invokevirtual 21, 3) := by decide +kernel
theorem d5_40 : decode prog_8_method_2_code 40 = .ok (.if_icmp .ge 38, 3) := by decide +kernel
theorem d5_43 : decode prog_8_method_2_code 43 = .ok (.aload_n 0, 1) := by decide +kernel
theorem d5_44 : decode prog_8_method_2_code 44 = .ok (.iload_n 1, 1) := by decide +kernel
theorem d5_45 : decode prog_8_method_2_code 45 = .ok (.invokevirtual 25, 3) := by decide +kernel
theorem d5_48 : decode prog_8_method_2_code 48 = .ok (.istore_n 2, 1) := by decide +kernel
theorem d5_49 : decode prog_8_method_2_code 49 = .ok (.iload_n 2, 1) := by decide +kernel
theorem d5_50 : decode prog_8_method_2_code 50 = .ok (.bipush 32, 2) := by decide +kernel
theorem d5_52 : decode prog_8_method_2_code 52 = .ok (.if_icmp .le 18, 3) := by decide +kernel
theorem d5_55 : decode prog_8_method_2_code 55 = .ok (.iload_n 2, 1) := by decide +kernel
theorem d5_56 : decode prog_8_method_2_code 56 = .ok (.bipush 126, 2) := by decide +kernel
theorem d5_58 : decode prog_8_method_2_code 58 = .ok (.if_icmp .gt 12, 3) := by decide +kernel
theorem d5_61 : decode prog_8_method_2_code 61 = .ok (.ldc 31, 2) := by decide +kernel
theorem d5_63 : decode prog_8_method_2_code 63 = .ok (.iload_n 2, 1) := by decide +kernel
theorem d5_64 : decode prog_8_method_2_code 64 = .ok (.invokevirtual 33, 3) := by decide +kernel
theorem d5_67 : decode prog_8_method_2_code 67 = .ok (.ifCond .lt 5, 3) := by decide +kernel
theorem d5_70 : decode prog_8_method_2_code 70 = .ok (.iconst 0, 1) := by decide +kernel
theorem d5_71 : decode prog_8_method_2_code 71 = .ok (.ireturn, 1) := by decide +kernel
theorem d5_72 : decode prog_8_method_2_code 72 = .ok (.iinc 1 1, 3) := by decide +kernel
theorem d5_75 : decode prog_8_method_2_code 75 = .ok (.goto (-40), 3) := by decide +kernel
theorem d5_78 : decode prog_8_method_2_code 78 = .ok (.iconst 1, 1) := by decide +kernel
theorem d5_79 : decode prog_8_method_2_code 79 = .ok (.ireturn, 1) := by decide +kernel
theorem pd_0 : parseMethodDescriptor "(I)C" = some ⟨[.int], some .char⟩ := by decide +kernel
theorem pd_14 : parseMethodDescriptor "(Ljava/lang/Object;)Z" = some ⟨[(.object "java/lang/Object")], some .boolean⟩ := by decide +kernel
theorem ef_5_G1 (m : MethodId) (x0 : Addr) : entryFrame m #[(.ref x0)] 3 = mkF m 0 #[.val (.ref x0), .unset, .unset] [] := by first | (simp [entryFrame, mkF, argsToLocals, Value.category]; done) | rfl
def Q5_G1 (Z : State) (r0 : Addr) (y9 : Int32) (u8 : Value) (t0 : Addr) (kt0 : ClassId) (kd0 : Int32) (z0 : Int32) (vs0 : List Value) (y0 : Int32) (h0 : Heap) (n0 : Nat) (v : Option Value) (h : Heap) (L : List Loc) : Prop := v = some (.int (own_val_G1 kd0 y0)) ∧ Fr n0 L ∧ Keep h0 h []
set_option maxRecDepth 65536 in
set_option maxHeartbeats 40000000 in
theorem rm5_G1 (l : Launch) (Z : State) (a0 : Array Value) (hw : ∀ d ∈ tables_1, d.before a0 Z = true) (ws : List Jvm.Cond) (r0 : Addr) (y9 : Int32) (u8 : Value) (t0 : Addr) (kt0 : ClassId) (kd0 : Int32) (z0 : Int32) (vs0 : List Value) (y0 : Int32) (h0 : Heap) (n0 : Nat) (Z0 : n0 ≤ h0.size) (S9 : own_S9 Z h0 y9) (P9 : ¬ y9 = (0 : Int32)) (S8 : own_S8 Z h0 u8) (I8 : u8.isRef = true) (S7a : own_S7a Z h0) (S7b : own_S7b Z h0) (S7c : own_S7c Z h0) (E0 : Exa Z h0 r0 "java/lang/String") (Cd0 : own_Cd Z h0 r0 kd0) (F0 : own_Fv Z h0 r0 t0) (V0 : Arv Z h0 t0 kt0 .byte z0 vs0 (.int 0)) (hs : own_sh 1 kd0 z0 vs0 [y0]) (RY0 : y0.toUInt32.toUInt16.toUInt32.toInt32 = y0) :
    MetFree l (⟨"com/example/rackline/rackline/core/Names", "isValid", "(Ljava/lang/String;)Z"⟩ : MethodName) (head1 (Jvm.Cond.code (⟨"com/example/rackline/rackline/core/Names", "isValid", "(Ljava/lang/String;)Z"⟩ : MethodName) prog_8_method_2_code 3 (some .boolean) :: ws) ({ frames := 5, cells := 6, slots := 68, locals := 66 } : Room)) (fun a U => a = #[(.ref r0)] ∧ Z.Warmed39 U.vm ∧ U.heap = h0 ∧ CHv Z consts_1 U.vm h0) (fun _ _ _ _ _ => True) (fun _ U o U' => ∃ v L, o = .returned v ∧ Q5_G1 Z r0 y9 u8 t0 kt0 kd0 z0 vs0 y0 h0 n0 v U'.heap L ∧ CHr Z consts_1 U.vm U.heap U'.vm U'.heap ∧ ReturnedEndW U o U' L ({ frames := 5, cells := 6, slots := 68, locals := 66 } : Room).cells ({ frames := 5, cells := 6, slots := 68, locals := 66 } : Room).slots) := by
  refine MetFree.of_bodySF (plainFor_of_name pn_5) hisR ?_
  intro p e s m args below meth c s₁ Bd hml0 hP hK
  obtain ⟨rfl, hZ, hh, C0⟩ := hP
  have hx := Bd.exec
  have hby := Bd.bytes
  have hml : c.maxLocals = 3 := hml0
  have hown : s.vm.findClass "com/example/rackline/rackline/core/Names" = some m.cls := findClass_of_methodNamed Bd.named
  have hnm := (name_of_methodNamed Bd.named Bd.method).1
  have hlk : meth.locks = false := by first | exact BodyLoose.notSynchronized Bd | exact Body.notSynchronized Bd
  have X0 : Stand p l e ({ frames := 5, cells := 6, slots := 68, locals := 66 } : Room) s m #[(.ref r0)] below meth c s₁ [] 0 0 := Stand.of_body Bd
  have e0 : s₁.heap = h0 := by rw [← hh, Bd.state]; rfl
  have N0 := Fr.nil n0
  have hS0 : s.Since s.vm s.heap.size := (State.WarmedH.refl s).since _
  have hk0 : s.heap.size ≤ h0.size := by rw [hh]; exact Nat.le_refl _
  have X0 : Stand p l e ({ frames := 5, cells := 6, slots := 68, locals := 66 } : Room) (s.setVm s.vm) m #[(.ref r0)] below meth c s₁ [] 0 0 := X0
  have hZ : Z.Warmed39 (s.setVm s.vm).vm := hZ
  have hown : (s.setVm s.vm).vm.findClass "com/example/rackline/rackline/core/Names" = some m.cls := hown
  have CR0 : CHr Z consts_1 s.vm h0 s.vm h0 := CHr.refl C0
  have k0 : own_R p e below (s₁.setTop (entryFrame m #[(.ref r0)] 3)) (s₁.setTop (mkF m 0 #[vR r0, .unset, .unset] [])) := fun t k => castTop (ef_5_G1 m r0) k
  obtain ⟨A0, hA0⟩ : ∃ z, z = s₁.setTop (entryFrame m #[(.ref r0)] 3) := ⟨_, rfl⟩
  rw [← hA0] at k0
  have kz : ∀ t, Steps p.tables e below A0 t → Steps p.tables e below (s₁.setTop (entryFrame m #[(.ref r0)] 3)) t := fun t q => hA0 ▸ q
  have ks1 : own_R p e below (A0) (s₁.setTop (mkF m 5 #[vR r0, .unset, .unset] [(.ref r0)])) := fun t k => k0 t (by
    refine XS.aloadN X0.here hx rfl (hb hby d5_0) rfl rfl ?_
    refine XS.ifnullNo X0.here hx rfl (hb hby d5_1) rfl ?_
    refine XS.aloadN X0.here hx rfl (hb hby d5_4) rfl rfl ?_
    exact k)
  obtain ⟨cq2, kq2, q2a, q2b, q2c⟩ := isOf hZ e0 E0
  obtain ⟨_, _, ⟨T2, L2, k2, n2⟩, -, X2, ⟨Lc2, hQ2, lq2, yq2, zq2⟩, st2⟩ := X0.virtualBack hx (y := (⟨"java/lang/String", "isEmpty", "()Z"⟩ : MethodName)) (z := (⟨"java/lang/String", "isEmpty", "()Z"⟩ : MethodName)) hown (mvT hZ (own_w hw 31 rfl)) (mvT hZ (own_w hw 32 rfl)) (notFace_of_selects (args := #[]) (mvT hZ (own_w hw 34 rfl))) (mvT hZ (own_w hw 34 rfl)) (mvT hZ (own_w hw 33 rfl)) (by decide) (backOf (W := 0) (rm6_n l Z a0 hw [] r0 t0 _ kd0 z0 _ h0 n0 Z0 E0 Cd0 F0 V0 (own_sh_ne1 hs)) hZ (own_w hw 35 rfl) (own_w hw 7 rfl) (by decide) (by decide)) q2a q2c (g := (mkF m 5 #[vR r0, .unset, .unset] [(.ref r0)])) rfl (by rw [hml]; rfl) (Steps.refl _) (argsL := []) (rest := []) (lenOf pd_5 rfl) rfl (by show 2 * 0 + _ ≤ _; exact Nat.le_of_eq rfl) (hb hby d5_5) (fun _ _ => ⟨rfl, e0, (by decide : 0 + 0 ≤ _), (by decide : 0 + 0 ≤ _)⟩)
  dsimp only [Pt.U, Pt.locs, Pt.cells, Pt.slots] at X2 lq2 yq2 zq2 st2 hQ2
  subst lq2 yq2 zq2
  obtain ⟨rfl, Nq2, eq2⟩ := hQ2
  have N2 := Fr.app N0 Nq2
  have ks3 := own_ct ks1 st2
  have ks4 : own_R p e below (A0) (T2.setTop (mkF m 14 #[vR r0, .unset, .unset] [(.ref r0)])) := fun t k => ks3 t (by
    refine XS.ifYes X2.here hx rfl (pc0 := 8) (pc' := 13) rfl (hb hby d5_8) rfl ((if0 _ _).trans (teq (by decide)).1) (by decide) (by decide) ?_
    refine XS.aloadN X2.here hx rfl (hb hby d5_13) rfl rfl ?_
    exact k)
  obtain ⟨a5, T5, h5, kk5, b5, c5, X5, e5, E5, hS5, hk5, hZ, hown, Ea5, Fc5, Fv5, V5, la5, lb5, ch5, -, hne5, st5⟩ := ldcCH X2 hx hZ hown (own_w hw 70 rfl) (own_strs hw) eq2 hS0 hk0 (own_EW hw) (List.mem_of_getElem? (i := 0) rfl) CR0.1 (vs := [.int (46 : Int32)]) (z := (1 : Int32)) ⟨by decide, rfl⟩ (by decide) rfl (g := (mkF m 14 #[vR r0, .unset, .unset] [(.ref r0)])) rfl (hb hby d5_14) (n := 4) (by decide) (by decide) (by decide) (by decide)
  have KH5 : Keep h0 h5 [] := (Keep.refl h0 []).ext E5
  have Zn5 : n0 ≤ h5.size := Nat.le_trans Z0 E5.1
  have CR5 := CR0.trans (ch5)
  have ks6 := own_c ks4 st5
  have f8 := E0.keep KH5
  have f9 := Cd0.keep KH5 nin0
  have f10 := F0.keep KH5 nin0
  have f11 := V0.keep KH5 nin0
  have f12 := own_sta_keep S9 KH5
  obtain ⟨cq7, kq7, q7a, q7b, q7c⟩ := isOf hZ e5 f8
  obtain ⟨_, _, ⟨T7, L7, k7, n7⟩, -, X7, ⟨Lc7, hQ7, lq7, yq7, zq7⟩, st7⟩ := X5.virtualBack hx (y := (⟨"java/lang/String", "equals", "(Ljava/lang/Object;)Z"⟩ : MethodName)) (z := (⟨"java/lang/String", "equals", "(Ljava/lang/Object;)Z"⟩ : MethodName)) hown (mvT hZ (own_w hw 71 rfl)) (mvT hZ (own_w hw 72 rfl)) (notFace_of_selects (args := #[]) (mvT hZ (own_w hw 74 rfl))) (mvT hZ (own_w hw 74 rfl)) (mvT hZ (own_w hw 73 rfl)) (by decide) (backOf (W := 0) (rm16_G1 l Z a0 hw [] r0 a5 y9 t0 b5 _ _ kd0 z0 _ y0 h5 n0 Zn5 f12 P9 f8 f9 f10 f11 Ea5 Fc5 Fv5 V5 hs) hZ (own_w hw 75 rfl) (own_w hw 7 rfl) (by decide) (by decide)) q7a q7c (g := (mkF m 16 #[vR r0, .unset, .unset] [(.ref a5), (.ref r0)])) rfl (by rw [hml]; rfl) (Steps.refl _) (argsL := [(.ref a5)]) (rest := []) (lenOf pd_14 rfl) rfl (by show 2 * 0 + _ ≤ _; exact Nat.le_of_eq rfl) (hb hby d5_16) (fun _ _ => ⟨rfl, e5, (by decide : 2 + 0 ≤ _), (by decide : 8 + 0 ≤ _)⟩)
  dsimp only [Pt.U, Pt.locs, Pt.cells, Pt.slots] at X7 lq7 yq7 zq7 st7 hQ7
  subst lq7 yq7 zq7
  obtain ⟨rfl, Nq7, eq7⟩ := hQ7
  have N7 := Fr.app N2 Nq7
  have ks13 := own_ct ks6 st7
  by_cases hc14 : (own_eq_G1 kd0 y0) = (0 : Int32)
  · skip
    have ks15 : own_R p e below (A0) (T7.setTop (mkF m 23 #[vR r0, .unset, .unset] [(.ref r0)])) := fun t k => ks13 t (by
      refine XS.ifNo X7.here hx rfl (hb hby d5_19) rfl ((if0 _ _).trans (teq hc14).2) ?_
      refine XS.aloadN X7.here hx rfl (hb hby d5_22) rfl rfl ?_
      exact k)
    obtain ⟨a16, T16, h16, kk16, b16, c16, X16, e16, E16, hS16, hk16, hZ, hown, Ea16, Fc16, Fv16, V16, la16, lb16, ch16, -, hne16, st16⟩ := ldcCH X7 hx hZ hown (own_w hw 77 rfl) (own_strs hw) eq7 hS5 hk5 (own_EW hw) (List.mem_of_getElem? (i := 1) rfl) CR5.1 (vs := [.int (46 : Int32), .int (46 : Int32)]) (z := (2 : Int32)) ⟨by decide, rfl⟩ (by decide) rfl (g := (mkF m 23 #[vR r0, .unset, .unset] [(.ref r0)])) rfl (hb hby d5_23) (n := 8) (by decide) (by decide) (by decide) (by decide)
    have KH16 : Keep h0 h16 [] := KH5.ext E16
    have Zn16 : n0 ≤ h16.size := Nat.le_trans Zn5 E16.1
    have CR16 := CR5.trans (ch16)
    have ks17 := own_c ks15 st16
    have f19 := E0.keep KH16
    have f20 := Cd0.keep KH16 nin0
    have f21 := F0.keep KH16 nin0
    have f22 := V0.keep KH16 nin0
    have f23 := own_sta_keep S9 KH16
    obtain ⟨cq18, kq18, q18a, q18b, q18c⟩ := isOf hZ e16 f19
    obtain ⟨_, _, ⟨T18, L18, k18, n18⟩, -, X18, ⟨Lc18, hQ18, lq18, yq18, zq18⟩, st18⟩ := X16.virtualBack hx (y := (⟨"java/lang/String", "equals", "(Ljava/lang/Object;)Z"⟩ : MethodName)) (z := (⟨"java/lang/String", "equals", "(Ljava/lang/Object;)Z"⟩ : MethodName)) hown (mvT hZ (own_w hw 71 rfl)) (mvT hZ (own_w hw 72 rfl)) (notFace_of_selects (args := #[]) (mvT hZ (own_w hw 74 rfl))) (mvT hZ (own_w hw 74 rfl)) (mvT hZ (own_w hw 73 rfl)) (by decide) (backOf (W := 0) (rm16_D l Z a0 hw [] r0 a16 y9 t0 b16 _ _ z0 (2 : Int32) _ _ kd0 h16 n0 Zn16 f23 P9 f19 f20 f21 f22 Ea16 Fc16 Fv16 V16 (own_sh_d1_2 hs)) hZ (own_w hw 75 rfl) (own_w hw 7 rfl) (by decide) (by decide)) q18a q18c (g := (mkF m 25 #[vR r0, .unset, .unset] [(.ref a16), (.ref r0)])) rfl (by rw [hml]; rfl) (Steps.refl _) (argsL := [(.ref a16)]) (rest := []) (lenOf pd_14 rfl) rfl (by show 2 * 0 + _ ≤ _; exact Nat.le_of_eq rfl) (hb hby d5_25) (fun _ _ => ⟨rfl, e16, (by decide : 4 + 0 ≤ _), (by decide : 20 + 0 ≤ _)⟩)
    dsimp only [Pt.U, Pt.locs, Pt.cells, Pt.slots] at X18 lq18 yq18 zq18 st18 hQ18
    subst lq18 yq18 zq18
    obtain ⟨rfl, Nq18, eq18⟩ := hQ18
    have N18 := Fr.app N7 Nq18
    have ks24 := own_ct ks17 st18
    have ks25 : own_R p e below (A0) (T18.setTop (mkF m 37 #[vR r0, vI 0, .unset] [(.ref r0), (.int 0)])) := fun t k => ks24 t (by
      refine XS.ifYes X18.here hx rfl (pc0 := 28) (pc' := 33) rfl (hb hby d5_28) rfl ((if0 _ _).trans (teq (by decide)).1) (by decide) (by decide) ?_
      refine XS.iconst X18.here hx rfl (hb hby d5_33) ?_
      refine XS.istoreN X18.here hx rfl (hb hby d5_34) rfl (l' := #[vR r0, vI 0, .unset]) rfl ?_
      show Steps p.tables e below (T18.setTop (mkF m 35 #[vR r0, vI 0, .unset] [])) _
      refine XS.iloadN X18.here hx rfl (hb hby d5_35) rfl ?_
      refine XS.aloadN X18.here hx rfl (hb hby d5_36) rfl rfl ?_
      exact k)
    obtain ⟨cq26, kq26, q26a, q26b, q26c⟩ := isOf hZ eq18 f19
    obtain ⟨_, _, ⟨T26, L26, k26, n26⟩, -, X26, ⟨Lc26, hQ26, lq26, yq26, zq26⟩, st26⟩ := X18.virtualBack hx (y := (⟨"java/lang/String", "length", "()I"⟩ : MethodName)) (z := (⟨"java/lang/String", "length", "()I"⟩ : MethodName)) hown (mvT hZ (own_w hw 78 rfl)) (mvT hZ (own_w hw 79 rfl)) (notFace_of_selects (args := #[]) (mvT hZ (own_w hw 81 rfl))) (mvT hZ (own_w hw 81 rfl)) (mvT hZ (own_w hw 80 rfl)) (by decide) (backOf (W := 1) (rm17 l Z a0 hw [] r0 y9 t0 _ kd0 z0 _ (1 : Int32) h16 n0 Zn16 f23 P9 f19 f20 f21 f22 (own_sh_k hs) (own_sh_len1 hs)) hZ (own_w hw 82 rfl) (own_w hw 7 rfl) (by decide) (by decide)) q26a q26c (g := (mkF m 37 #[vR r0, vI 0, .unset] [(.ref r0), (.int 0)])) rfl (by rw [hml]; rfl) (Steps.refl _) (argsL := []) (rest := [(.int 0)]) (lenOf pd_15 rfl) rfl (by show 2 * 0 + _ ≤ _; exact Nat.le_of_eq rfl) (hb hby d5_37) (fun _ _ => ⟨rfl, eq18, (by decide : 4 + 0 ≤ _), (by decide : 20 + 0 ≤ _)⟩)
    dsimp only [Pt.U, Pt.locs, Pt.cells, Pt.slots] at X26 lq26 yq26 zq26 st26 hQ26
    subst lq26 yq26 zq26
    obtain ⟨rfl, Nq26, eq26⟩ := hQ26
    have N26 := Fr.app N18 Nq26
    have ks27 := own_ct ks25 st26
    have ks28 : own_R p e below (A0) (T26.setTop (mkF m 45 #[vR r0, vI 0, .unset] [(.int 0), (.ref r0)])) := fun t k => ks27 t (by
      refine XS.icmpNo X26.here hx rfl (hb hby d5_40) rfl (tlt (by decide)).2.1 ?_
      refine XS.aloadN X26.here hx rfl (hb hby d5_43) rfl rfl ?_
      refine XS.iloadN X26.here hx rfl (hb hby d5_44) rfl ?_
      exact k)
    have f30 := own_sta_keep S8 KH16
    have f31 := own_sta_keep S7a KH16
    have f32 := own_sta_keep S7b KH16
    have f33 := own_sta_keep S7c KH16
    obtain ⟨cq29, kq29, q29a, q29b, q29c⟩ := isOf hZ eq26 f19
    obtain ⟨_, _, ⟨T29, L29, k29, n29⟩, -, X29, ⟨Lc29, hQ29, lq29, yq29, zq29⟩, st29⟩ := X26.virtualBack hx (y := (⟨"java/lang/String", "charAt", "(I)C"⟩ : MethodName)) (z := (⟨"java/lang/String", "charAt", "(I)C"⟩ : MethodName)) hown (mvT hZ (own_w hw 88 rfl)) (mvT hZ (own_w hw 89 rfl)) (notFace_of_selects (args := #[]) (mvT hZ (own_w hw 91 rfl))) (mvT hZ (own_w hw 91 rfl)) (mvT hZ (own_w hw 90 rfl)) (by decide) (backOf (W := 0) (rm19 l Z a0 hw [] r0 (0 : Int32) y9 u8 t0 _ kd0 z0 _ y0 (1 : Int32) h16 n0 Zn16 f23 P9 f30 I8 f31 f32 f33 f19 f20 f21 f22 (own_sh_at1_0 hs RY0) RY0) hZ (own_w hw 92 rfl) (own_w hw 7 rfl) (by decide) (by decide)) q29a q29c (g := (mkF m 45 #[vR r0, vI 0, .unset] [(.int 0), (.ref r0)])) rfl (by rw [hml]; rfl) (Steps.refl _) (argsL := [(.int 0)]) (rest := []) (lenOf pd_0 rfl) rfl (by show 2 * 0 + _ ≤ _; exact Nat.le_of_eq rfl) (hb hby d5_45) (fun _ _ => ⟨rfl, eq26, (by decide : 4 + 0 ≤ _), (by decide : 20 + 0 ≤ _)⟩)
    dsimp only [Pt.U, Pt.locs, Pt.cells, Pt.slots] at X29 lq29 yq29 zq29 st29 hQ29
    subst lq29 yq29 zq29
    obtain ⟨rfl, Nq29, eq29⟩ := hQ29
    have N29 := Fr.app N26 Nq29
    have ks34 := own_ct ks28 st29
    have ks35 : own_R p e below (A0) (T29.setTop (mkF m 52 #[vR r0, vI 0, vI y0] [(.int 32), (.int y0)])) := fun t k => ks34 t (by
      refine XS.istoreN X29.here hx rfl (hb hby d5_48) rfl (l' := #[vR r0, vI 0, vI y0]) rfl ?_
      refine XS.iloadN X29.here hx rfl (hb hby d5_49) rfl ?_
      refine XS.bipush X29.here hx rfl (hb hby d5_50) ?_
      exact k)
    by_cases hc36 : (32 : Int32) < y0
    · skip
      have ks37 : own_R p e below (A0) (T29.setTop (mkF m 58 #[vR r0, vI 0, vI y0] [(.int 126), (.int y0)])) := fun t k => ks35 t (by
        refine XS.icmpNo X29.here hx rfl (hb hby d5_52) rfl (tlt hc36).2.2.2 ?_
        refine XS.iloadN X29.here hx rfl (hb hby d5_55) rfl ?_
        refine XS.bipush X29.here hx rfl (hb hby d5_56) ?_
        exact k)
      by_cases hc38 : (126 : Int32) < y0
      · skip
        have ks39 : own_R p e below (A0) (T29.setTop (mkF m 71 #[vR r0, vI 0, vI y0] [(.int 0)])) := fun t k => ks37 t (by
          refine XS.icmpYes X29.here hx rfl (pc0 := 58) (pc' := 70) rfl (hb hby d5_58) rfl (tlt hc38).2.2.1 (by decide) (by decide) ?_
          refine XS.iconst X29.here hx rfl (hb hby d5_70) ?_
          exact k)
        obtain ⟨fs, hr, hrun, hended, hEnd⟩ := X29.leaveW hS16 (by rw [eq29]; exact hk16) (v := some (.int 0)) (fun h => by rw [Bd.returns] at h; cases h) hlk
        have CRf : CHr Z consts_1 s.vm s.heap T29.vm T29.heap := by rw [hh, eq29]; exact CR16.trans (CHv.at X29 hZ (own_EW hw) CR16.1)
        refine ⟨_, _, kz _ (ks39 _ ?_), hrun, hended, _, _, rfl, ?_, CRf, hEnd.1, hEnd.2.1, hEnd.2.2.1, hEnd.2.2.2.mono (by decide) (by decide)⟩
        · exact retN X29 hx (t := .boolean) Bd.returns (by simp) (hb hby d5_71) hr
        · show Q5_G1 Z r0 y9 u8 t0 kt0 kd0 z0 vs0 y0 h0 n0 _ T29.heap _
          rw [eq29]
          refine ⟨?_, N29, KH16⟩
          rw [own_val_G1, if_pos hc14, if_pos hc36, if_pos hc38]
      · skip
        have ks40 : own_R p e below (A0) (T29.setTop (mkF m 61 #[vR r0, vI 0, vI y0] [])) := fun t k => ks37 t (by
          refine XS.icmpNo X29.here hx rfl (hb hby d5_58) rfl (flt hc38).2.2.1 ?_
          exact k)
        have f41 := (Ea5.ext E16)
        have f42 := (V5.ext E16)
        obtain ⟨a43, T43, h43, kk43, b43, c43, X43, e43, E43, hS43, hk43, hZ, hown, Ea43, Fc43, Fv43, V43, la43, lb43, ch43, -, hne43, st43⟩ := ldcCH X29 hx hZ hown (own_w hw 135 rfl) (own_strs hw) eq29 hS16 hk16 (own_EW hw) (List.mem_of_getElem? (i := 2) rfl) CR16.1 (vs := [.int (34 : Int32), .int (35 : Int32), .int (42 : Int32), .int (44 : Int32), .int (47 : Int32), .int (58 : Int32), .int (63 : Int32), .int (91 : Int32), .int (93 : Int32), .int (123 : Int32), .int (125 : Int32)]) (z := (11 : Int32)) ⟨by decide, rfl⟩ (by decide) rfl (g := (mkF m 61 #[vR r0, vI 0, vI y0] [])) rfl (hb hby d5_61) (n := 44) (by decide) (by decide) (by decide) (by decide)
        have KH43 : Keep h0 h43 [] := KH16.ext E43
        have Zn43 : n0 ≤ h43.size := Nat.le_trans Zn16 E43.1
        have CR43 := CR16.trans (ch43)
        have ks44 := own_c ks40 st43
        have ks45 : own_R p e below (A0) (T43.setTop (mkF m 64 #[vR r0, vI 0, vI y0] [(.int y0), (.ref a43)])) := fun t k => ks44 t (by
          refine XS.iloadN X43.here hx rfl (hb hby d5_63) rfl ?_
          exact k)
        have f47 := own_sta_keep S9 KH43
        obtain ⟨cq46, kq46, q46a, q46b, q46c⟩ := isOf hZ e43 Ea43
        obtain ⟨_, _, ⟨T46, L46, k46, n46⟩, -, X46, ⟨Lc46, hQ46, lq46, yq46, zq46⟩, st46⟩ := X43.virtualBack hx (y := (⟨"java/lang/String", "indexOf", "(I)I"⟩ : MethodName)) (z := (⟨"java/lang/String", "indexOf", "(I)I"⟩ : MethodName)) hown (mvT hZ (own_w hw 136 rfl)) (mvT hZ (own_w hw 137 rfl)) (notFace_of_selects (args := #[]) (mvT hZ (own_w hw 139 rfl))) (mvT hZ (own_w hw 139 rfl)) (mvT hZ (own_w hw 138 rfl)) (by decide) (backOf (W := 0) (rm32 l Z a0 hw [] a43 y0 y9 b43 _ h43 n0 Zn43 f47 P9 Ea43 Fc43 Fv43 V43) hZ (own_w hw 140 rfl) (own_w hw 7 rfl) (by decide) (by decide)) q46a q46c (g := (mkF m 64 #[vR r0, vI 0, vI y0] [(.int y0), (.ref a43)])) rfl (by rw [hml]; rfl) (Steps.refl _) (argsL := [(.int y0)]) (rest := []) (lenOf pd_9 rfl) rfl (by show 2 * 0 + _ ≤ _; exact Nat.le_of_eq rfl) (hb hby d5_64) (fun _ _ => ⟨rfl, e43, (by decide : 6 + 0 ≤ _), (by decide : 68 + 0 ≤ _)⟩)
        dsimp only [Pt.U, Pt.locs, Pt.cells, Pt.slots] at X46 lq46 yq46 zq46 st46 hQ46
        subst lq46 yq46 zq46
        obtain ⟨rfl, Nq46, eq46⟩ := hQ46
        have N46 := Fr.app N29 Nq46
        have ks48 := own_ct ks45 st46
        by_cases hc49 : (own_ix y0) < (0 : Int32)
        · skip
          have ks50 : own_R p e below (A0) (T46.setTop (mkF m 37 #[vR r0, vI 1, vI y0] [(.ref r0), (.int 1)])) := fun t k => ks48 t (by
            refine XS.ifYes X46.here hx rfl (pc0 := 67) (pc' := 72) rfl (hb hby d5_67) rfl ((if0 _ _).trans (tlt hc49).1) (by decide) (by decide) ?_
            refine XS.iinc X46.here hx rfl (hb hby d5_72) rfl (l' := #[vR r0, vI 1, vI y0]) rfl ?_
            refine XS.goto X46.here hx rfl (pc0 := 75) (pc' := 35) rfl (hb hby d5_75) (by decide) (by decide) ?_
            show Steps p.tables e below (T46.setTop (mkF m 35 #[vR r0, vI 1, vI y0] [])) _
            refine XS.iloadN X46.here hx rfl (hb hby d5_35) rfl ?_
            refine XS.aloadN X46.here hx rfl (hb hby d5_36) rfl rfl ?_
            exact k)
          have f52 := E0.keep KH43
          have f53 := Cd0.keep KH43 nin0
          have f54 := F0.keep KH43 nin0
          have f55 := V0.keep KH43 nin0
          obtain ⟨cq51, kq51, q51a, q51b, q51c⟩ := isOf hZ eq46 f52
          obtain ⟨_, _, ⟨T51, L51, k51, n51⟩, -, X51, ⟨Lc51, hQ51, lq51, yq51, zq51⟩, st51⟩ := X46.virtualBack hx (y := (⟨"java/lang/String", "length", "()I"⟩ : MethodName)) (z := (⟨"java/lang/String", "length", "()I"⟩ : MethodName)) hown (mvT hZ (own_w hw 78 rfl)) (mvT hZ (own_w hw 79 rfl)) (notFace_of_selects (args := #[]) (mvT hZ (own_w hw 81 rfl))) (mvT hZ (own_w hw 81 rfl)) (mvT hZ (own_w hw 80 rfl)) (by decide) (backOf (W := 1) (rm17 l Z a0 hw [] r0 y9 t0 _ kd0 z0 _ (1 : Int32) h43 n0 Zn43 f47 P9 f52 f53 f54 f55 (own_sh_k hs) (own_sh_len1 hs)) hZ (own_w hw 82 rfl) (own_w hw 7 rfl) (by decide) (by decide)) q51a q51c (g := (mkF m 37 #[vR r0, vI 1, vI y0] [(.ref r0), (.int 1)])) rfl (by rw [hml]; rfl) (Steps.refl _) (argsL := []) (rest := [(.int 1)]) (lenOf pd_15 rfl) rfl (by show 2 * 0 + _ ≤ _; exact Nat.le_of_eq rfl) (hb hby d5_37) (fun _ _ => ⟨rfl, eq46, (by decide : 6 + 0 ≤ _), (by decide : 68 + 0 ≤ _)⟩)
          dsimp only [Pt.U, Pt.locs, Pt.cells, Pt.slots] at X51 lq51 yq51 zq51 st51 hQ51
          subst lq51 yq51 zq51
          obtain ⟨rfl, Nq51, eq51⟩ := hQ51
          have N51 := Fr.app N46 Nq51
          have ks56 := own_ct ks50 st51
          have ks57 : own_R p e below (A0) (T51.setTop (mkF m 79 #[vR r0, vI 1, vI y0] [(.int 1)])) := fun t k => ks56 t (by
            refine XS.icmpYes X51.here hx rfl (pc0 := 40) (pc' := 78) rfl (hb hby d5_40) rfl (flt (by decide)).2.1 (by decide) (by decide) ?_
            refine XS.iconst X51.here hx rfl (hb hby d5_78) ?_
            exact k)
          obtain ⟨fs, hr, hrun, hended, hEnd⟩ := X51.leaveW hS43 (by rw [eq51]; exact hk43) (v := some (.int 1)) (fun h => by rw [Bd.returns] at h; cases h) hlk
          have CRf : CHr Z consts_1 s.vm s.heap T51.vm T51.heap := by rw [hh, eq51]; exact CR43.trans (CHv.at X51 hZ (own_EW hw) CR43.1)
          refine ⟨_, _, kz _ (ks57 _ ?_), hrun, hended, _, _, rfl, ?_, CRf, hEnd.1, hEnd.2.1, hEnd.2.2.1, hEnd.2.2.2.mono (by decide) (by decide)⟩
          · exact retN X51 hx (t := .boolean) Bd.returns (by simp) (hb hby d5_79) hr
          · show Q5_G1 Z r0 y9 u8 t0 kt0 kd0 z0 vs0 y0 h0 n0 _ T51.heap _
            rw [eq51]
            refine ⟨?_, N51, KH43⟩
            rw [own_val_G1, if_pos hc14, if_pos hc36, if_neg hc38, if_pos hc49]
        · skip
          have ks58 : own_R p e below (A0) (T46.setTop (mkF m 71 #[vR r0, vI 0, vI y0] [(.int 0)])) := fun t k => ks48 t (by
            refine XS.ifNo X46.here hx rfl (hb hby d5_67) rfl ((if0 _ _).trans (flt hc49).1) ?_
            refine XS.iconst X46.here hx rfl (hb hby d5_70) ?_
            exact k)
          obtain ⟨fs, hr, hrun, hended, hEnd⟩ := X46.leaveW hS43 (by rw [eq46]; exact hk43) (v := some (.int 0)) (fun h => by rw [Bd.returns] at h; cases h) hlk
          have CRf : CHr Z consts_1 s.vm s.heap T46.vm T46.heap := by rw [hh, eq46]; exact CR43.trans (CHv.at X46 hZ (own_EW hw) CR43.1)
          refine ⟨_, _, kz _ (ks58 _ ?_), hrun, hended, _, _, rfl, ?_, CRf, hEnd.1, hEnd.2.1, hEnd.2.2.1, hEnd.2.2.2.mono (by decide) (by decide)⟩
          · exact retN X46 hx (t := .boolean) Bd.returns (by simp) (hb hby d5_71) hr
          · show Q5_G1 Z r0 y9 u8 t0 kt0 kd0 z0 vs0 y0 h0 n0 _ T46.heap _
            rw [eq46]
            refine ⟨?_, N46, KH43⟩
            rw [own_val_G1, if_pos hc14, if_pos hc36, if_neg hc38, if_neg hc49]
    · skip
      have ks59 : own_R p e below (A0) (T29.setTop (mkF m 71 #[vR r0, vI 0, vI y0] [(.int 0)])) := fun t k => ks35 t (by
        refine XS.icmpYes X29.here hx rfl (pc0 := 52) (pc' := 70) rfl (hb hby d5_52) rfl (flt hc36).2.2.2 (by decide) (by decide) ?_
        refine XS.iconst X29.here hx rfl (hb hby d5_70) ?_
        exact k)
      obtain ⟨fs, hr, hrun, hended, hEnd⟩ := X29.leaveW hS16 (by rw [eq29]; exact hk16) (v := some (.int 0)) (fun h => by rw [Bd.returns] at h; cases h) hlk
      have CRf : CHr Z consts_1 s.vm s.heap T29.vm T29.heap := by rw [hh, eq29]; exact CR16.trans (CHv.at X29 hZ (own_EW hw) CR16.1)
      refine ⟨_, _, kz _ (ks59 _ ?_), hrun, hended, _, _, rfl, ?_, CRf, hEnd.1, hEnd.2.1, hEnd.2.2.1, hEnd.2.2.2.mono (by decide) (by decide)⟩
      · exact retN X29 hx (t := .boolean) Bd.returns (by simp) (hb hby d5_71) hr
      · show Q5_G1 Z r0 y9 u8 t0 kt0 kd0 z0 vs0 y0 h0 n0 _ T29.heap _
        rw [eq29]
        refine ⟨?_, N29, KH16⟩
        rw [own_val_G1, if_pos hc14, if_neg hc36]
  · skip
    have ks60 : own_R p e below (A0) (T7.setTop (mkF m 32 #[vR r0, .unset, .unset] [(.int 0)])) := fun t k => ks13 t (by
      refine XS.ifYes X7.here hx rfl (pc0 := 19) (pc' := 31) rfl (hb hby d5_19) rfl ((if0 _ _).trans (feq hc14).2) (by decide) (by decide) ?_
      refine XS.iconst X7.here hx rfl (hb hby d5_31) ?_
      exact k)
    obtain ⟨fs, hr, hrun, hended, hEnd⟩ := X7.leaveW hS5 (by rw [eq7]; exact hk5) (v := some (.int 0)) (fun h => by rw [Bd.returns] at h; cases h) hlk
    have CRf : CHr Z consts_1 s.vm s.heap T7.vm T7.heap := by rw [hh, eq7]; exact CR5.trans (CHv.at X7 hZ (own_EW hw) CR5.1)
    refine ⟨_, _, kz _ (ks60 _ ?_), hrun, hended, _, _, rfl, ?_, CRf, hEnd.1, hEnd.2.1, hEnd.2.2.1, hEnd.2.2.2.mono (by decide) (by decide)⟩
    · exact retN X7 hx (t := .boolean) Bd.returns (by simp) (hb hby d5_32) hr
    · show Q5_G1 Z r0 y9 u8 t0 kt0 kd0 z0 vs0 y0 h0 n0 _ T7.heap _
      rw [eq7]
      refine ⟨?_, N7, KH5⟩
      rw [own_val_G1, if_neg hc14]
def own_val_G2 (kd0 : Int32) (y0 : Int32) (y1 : Int32) : Int32 := (if (own_eq_G2 kd0 y0 y1) = (0 : Int32) then (if (32 : Int32) < y0 then (if (126 : Int32) < y0 then (0 : Int32) else (if (own_ix y0) < (0 : Int32) then (if (32 : Int32) < y1 then (if (126 : Int32) < y1 then (0 : Int32) else (if (own_ix y1) < (0 : Int32) then (1 : Int32) else (0 : Int32))) else (0 : Int32)) else (0 : Int32))) else (0 : Int32)) else (0 : Int32))
theorem ef_5_G2 (m : MethodId) (x0 : Addr) : entryFrame m #[(.ref x0)] 3 = mkF m 0 #[.val (.ref x0), .unset, .unset] [] := by first | (simp [entryFrame, mkF, argsToLocals, Value.category]; done) | rfl
def Q5_G2 (Z : State) (r0 : Addr) (y9 : Int32) (u8 : Value) (t0 : Addr) (kt0 : ClassId) (kd0 : Int32) (z0 : Int32) (vs0 : List Value) (y0 : Int32) (y1 : Int32) (h0 : Heap) (n0 : Nat) (v : Option Value) (h : Heap) (L : List Loc) : Prop := v = some (.int (own_val_G2 kd0 y0 y1)) ∧ Fr n0 L ∧ Keep h0 h []
set_option maxRecDepth 65536 in
set_option maxHeartbeats 40000000 in
theorem rm5_G2 (l : Launch) (Z : State) (a0 : Array Value) (hw : ∀ d ∈ tables_1, d.before a0 Z = true) (ws : List Jvm.Cond) (r0 : Addr) (y9 : Int32) (u8 : Value) (t0 : Addr) (kt0 : ClassId) (kd0 : Int32) (z0 : Int32) (vs0 : List Value) (y0 : Int32) (y1 : Int32) (h0 : Heap) (n0 : Nat) (Z0 : n0 ≤ h0.size) (S9 : own_S9 Z h0 y9) (P9 : ¬ y9 = (0 : Int32)) (S8 : own_S8 Z h0 u8) (I8 : u8.isRef = true) (S7a : own_S7a Z h0) (S7b : own_S7b Z h0) (S7c : own_S7c Z h0) (E0 : Exa Z h0 r0 "java/lang/String") (Cd0 : own_Cd Z h0 r0 kd0) (F0 : own_Fv Z h0 r0 t0) (V0 : Arv Z h0 t0 kt0 .byte z0 vs0 (.int 0)) (hs : own_sh 2 kd0 z0 vs0 [y0, y1]) (RY0 : y0.toUInt32.toUInt16.toUInt32.toInt32 = y0) (RY1 : y1.toUInt32.toUInt16.toUInt32.toInt32 = y1) :
    MetFree l (⟨"com/example/rackline/rackline/core/Names", "isValid", "(Ljava/lang/String;)Z"⟩ : MethodName) (head1 (Jvm.Cond.code (⟨"com/example/rackline/rackline/core/Names", "isValid", "(Ljava/lang/String;)Z"⟩ : MethodName) prog_8_method_2_code 3 (some .boolean) :: ws) ({ frames := 5, cells := 8, slots := 116, locals := 66 } : Room)) (fun a U => a = #[(.ref r0)] ∧ Z.Warmed39 U.vm ∧ U.heap = h0 ∧ CHv Z consts_1 U.vm h0) (fun _ _ _ _ _ => True) (fun _ U o U' => ∃ v L, o = .returned v ∧ Q5_G2 Z r0 y9 u8 t0 kt0 kd0 z0 vs0 y0 y1 h0 n0 v U'.heap L ∧ CHr Z consts_1 U.vm U.heap U'.vm U'.heap ∧ ReturnedEndW U o U' L ({ frames := 5, cells := 8, slots := 116, locals := 66 } : Room).cells ({ frames := 5, cells := 8, slots := 116, locals := 66 } : Room).slots) := by
  refine MetFree.of_bodySF (plainFor_of_name pn_5) hisR ?_
  intro p e s m args below meth c s₁ Bd hml0 hP hK
  obtain ⟨rfl, hZ, hh, C0⟩ := hP
  have hx := Bd.exec
  have hby := Bd.bytes
  have hml : c.maxLocals = 3 := hml0
  have hown : s.vm.findClass "com/example/rackline/rackline/core/Names" = some m.cls := findClass_of_methodNamed Bd.named
  have hnm := (name_of_methodNamed Bd.named Bd.method).1
  have hlk : meth.locks = false := by first | exact BodyLoose.notSynchronized Bd | exact Body.notSynchronized Bd
  have X0 : Stand p l e ({ frames := 5, cells := 8, slots := 116, locals := 66 } : Room) s m #[(.ref r0)] below meth c s₁ [] 0 0 := Stand.of_body Bd
  have e0 : s₁.heap = h0 := by rw [← hh, Bd.state]; rfl
  have N0 := Fr.nil n0
  have hS0 : s.Since s.vm s.heap.size := (State.WarmedH.refl s).since _
  have hk0 : s.heap.size ≤ h0.size := by rw [hh]; exact Nat.le_refl _
  have X0 : Stand p l e ({ frames := 5, cells := 8, slots := 116, locals := 66 } : Room) (s.setVm s.vm) m #[(.ref r0)] below meth c s₁ [] 0 0 := X0
  have hZ : Z.Warmed39 (s.setVm s.vm).vm := hZ
  have hown : (s.setVm s.vm).vm.findClass "com/example/rackline/rackline/core/Names" = some m.cls := hown
  have CR0 : CHr Z consts_1 s.vm h0 s.vm h0 := CHr.refl C0
  have k0 : own_R p e below (s₁.setTop (entryFrame m #[(.ref r0)] 3)) (s₁.setTop (mkF m 0 #[vR r0, .unset, .unset] [])) := fun t k => castTop (ef_5_G2 m r0) k
  obtain ⟨A0, hA0⟩ : ∃ z, z = s₁.setTop (entryFrame m #[(.ref r0)] 3) := ⟨_, rfl⟩
  rw [← hA0] at k0
  have kz : ∀ t, Steps p.tables e below A0 t → Steps p.tables e below (s₁.setTop (entryFrame m #[(.ref r0)] 3)) t := fun t q => hA0 ▸ q
  have ks1 : own_R p e below (A0) (s₁.setTop (mkF m 5 #[vR r0, .unset, .unset] [(.ref r0)])) := fun t k => k0 t (by
    refine XS.aloadN X0.here hx rfl (hb hby d5_0) rfl rfl ?_
    refine XS.ifnullNo X0.here hx rfl (hb hby d5_1) rfl ?_
    refine XS.aloadN X0.here hx rfl (hb hby d5_4) rfl rfl ?_
    exact k)
  obtain ⟨cq2, kq2, q2a, q2b, q2c⟩ := isOf hZ e0 E0
  obtain ⟨_, _, ⟨T2, L2, k2, n2⟩, -, X2, ⟨Lc2, hQ2, lq2, yq2, zq2⟩, st2⟩ := X0.virtualBack hx (y := (⟨"java/lang/String", "isEmpty", "()Z"⟩ : MethodName)) (z := (⟨"java/lang/String", "isEmpty", "()Z"⟩ : MethodName)) hown (mvT hZ (own_w hw 31 rfl)) (mvT hZ (own_w hw 32 rfl)) (notFace_of_selects (args := #[]) (mvT hZ (own_w hw 34 rfl))) (mvT hZ (own_w hw 34 rfl)) (mvT hZ (own_w hw 33 rfl)) (by decide) (backOf (W := 0) (rm6_n l Z a0 hw [] r0 t0 _ kd0 z0 _ h0 n0 Z0 E0 Cd0 F0 V0 (own_sh_ne2 hs)) hZ (own_w hw 35 rfl) (own_w hw 7 rfl) (by decide) (by decide)) q2a q2c (g := (mkF m 5 #[vR r0, .unset, .unset] [(.ref r0)])) rfl (by rw [hml]; rfl) (Steps.refl _) (argsL := []) (rest := []) (lenOf pd_5 rfl) rfl (by show 2 * 0 + _ ≤ _; exact Nat.le_of_eq rfl) (hb hby d5_5) (fun _ _ => ⟨rfl, e0, (by decide : 0 + 0 ≤ _), (by decide : 0 + 0 ≤ _)⟩)
  dsimp only [Pt.U, Pt.locs, Pt.cells, Pt.slots] at X2 lq2 yq2 zq2 st2 hQ2
  subst lq2 yq2 zq2
  obtain ⟨rfl, Nq2, eq2⟩ := hQ2
  have N2 := Fr.app N0 Nq2
  have ks3 := own_ct ks1 st2
  have ks4 : own_R p e below (A0) (T2.setTop (mkF m 14 #[vR r0, .unset, .unset] [(.ref r0)])) := fun t k => ks3 t (by
    refine XS.ifYes X2.here hx rfl (pc0 := 8) (pc' := 13) rfl (hb hby d5_8) rfl ((if0 _ _).trans (teq (by decide)).1) (by decide) (by decide) ?_
    refine XS.aloadN X2.here hx rfl (hb hby d5_13) rfl rfl ?_
    exact k)
  obtain ⟨a5, T5, h5, kk5, b5, c5, X5, e5, E5, hS5, hk5, hZ, hown, Ea5, Fc5, Fv5, V5, la5, lb5, ch5, -, hne5, st5⟩ := ldcCH X2 hx hZ hown (own_w hw 70 rfl) (own_strs hw) eq2 hS0 hk0 (own_EW hw) (List.mem_of_getElem? (i := 0) rfl) CR0.1 (vs := [.int (46 : Int32)]) (z := (1 : Int32)) ⟨by decide, rfl⟩ (by decide) rfl (g := (mkF m 14 #[vR r0, .unset, .unset] [(.ref r0)])) rfl (hb hby d5_14) (n := 4) (by decide) (by decide) (by decide) (by decide)
  have KH5 : Keep h0 h5 [] := (Keep.refl h0 []).ext E5
  have Zn5 : n0 ≤ h5.size := Nat.le_trans Z0 E5.1
  have CR5 := CR0.trans (ch5)
  have ks6 := own_c ks4 st5
  have f8 := E0.keep KH5
  have f9 := Cd0.keep KH5 nin0
  have f10 := F0.keep KH5 nin0
  have f11 := V0.keep KH5 nin0
  have f12 := own_sta_keep S9 KH5
  obtain ⟨cq7, kq7, q7a, q7b, q7c⟩ := isOf hZ e5 f8
  obtain ⟨_, _, ⟨T7, L7, k7, n7⟩, -, X7, ⟨Lc7, hQ7, lq7, yq7, zq7⟩, st7⟩ := X5.virtualBack hx (y := (⟨"java/lang/String", "equals", "(Ljava/lang/Object;)Z"⟩ : MethodName)) (z := (⟨"java/lang/String", "equals", "(Ljava/lang/Object;)Z"⟩ : MethodName)) hown (mvT hZ (own_w hw 71 rfl)) (mvT hZ (own_w hw 72 rfl)) (notFace_of_selects (args := #[]) (mvT hZ (own_w hw 74 rfl))) (mvT hZ (own_w hw 74 rfl)) (mvT hZ (own_w hw 73 rfl)) (by decide) (backOf (W := 0) (rm16_D l Z a0 hw [] r0 a5 y9 t0 b5 _ _ z0 (1 : Int32) _ _ kd0 h5 n0 Zn5 f12 P9 f8 f9 f10 f11 Ea5 Fc5 Fv5 V5 (own_sh_d2_1 hs)) hZ (own_w hw 75 rfl) (own_w hw 7 rfl) (by decide) (by decide)) q7a q7c (g := (mkF m 16 #[vR r0, .unset, .unset] [(.ref a5), (.ref r0)])) rfl (by rw [hml]; rfl) (Steps.refl _) (argsL := [(.ref a5)]) (rest := []) (lenOf pd_14 rfl) rfl (by show 2 * 0 + _ ≤ _; exact Nat.le_of_eq rfl) (hb hby d5_16) (fun _ _ => ⟨rfl, e5, (by decide : 2 + 0 ≤ _), (by decide : 8 + 0 ≤ _)⟩)
  dsimp only [Pt.U, Pt.locs, Pt.cells, Pt.slots] at X7 lq7 yq7 zq7 st7 hQ7
  subst lq7 yq7 zq7
  obtain ⟨rfl, Nq7, eq7⟩ := hQ7
  have N7 := Fr.app N2 Nq7
  have ks13 := own_ct ks6 st7
  have ks14 : own_R p e below (A0) (T7.setTop (mkF m 23 #[vR r0, .unset, .unset] [(.ref r0)])) := fun t k => ks13 t (by
    refine XS.ifNo X7.here hx rfl (hb hby d5_19) rfl ((if0 _ _).trans (teq (by decide)).2) ?_
    refine XS.aloadN X7.here hx rfl (hb hby d5_22) rfl rfl ?_
    exact k)
  obtain ⟨a15, T15, h15, kk15, b15, c15, X15, e15, E15, hS15, hk15, hZ, hown, Ea15, Fc15, Fv15, V15, la15, lb15, ch15, -, hne15, st15⟩ := ldcCH X7 hx hZ hown (own_w hw 77 rfl) (own_strs hw) eq7 hS5 hk5 (own_EW hw) (List.mem_of_getElem? (i := 1) rfl) CR5.1 (vs := [.int (46 : Int32), .int (46 : Int32)]) (z := (2 : Int32)) ⟨by decide, rfl⟩ (by decide) rfl (g := (mkF m 23 #[vR r0, .unset, .unset] [(.ref r0)])) rfl (hb hby d5_23) (n := 8) (by decide) (by decide) (by decide) (by decide)
  have KH15 : Keep h0 h15 [] := KH5.ext E15
  have Zn15 : n0 ≤ h15.size := Nat.le_trans Zn5 E15.1
  have CR15 := CR5.trans (ch15)
  have ks16 := own_c ks14 st15
  have f18 := E0.keep KH15
  have f19 := Cd0.keep KH15 nin0
  have f20 := F0.keep KH15 nin0
  have f21 := V0.keep KH15 nin0
  have f22 := own_sta_keep S9 KH15
  obtain ⟨cq17, kq17, q17a, q17b, q17c⟩ := isOf hZ e15 f18
  obtain ⟨_, _, ⟨T17, L17, k17, n17⟩, -, X17, ⟨Lc17, hQ17, lq17, yq17, zq17⟩, st17⟩ := X15.virtualBack hx (y := (⟨"java/lang/String", "equals", "(Ljava/lang/Object;)Z"⟩ : MethodName)) (z := (⟨"java/lang/String", "equals", "(Ljava/lang/Object;)Z"⟩ : MethodName)) hown (mvT hZ (own_w hw 71 rfl)) (mvT hZ (own_w hw 72 rfl)) (notFace_of_selects (args := #[]) (mvT hZ (own_w hw 74 rfl))) (mvT hZ (own_w hw 74 rfl)) (mvT hZ (own_w hw 73 rfl)) (by decide) (backOf (W := 0) (rm16_G2 l Z a0 hw [] r0 a15 y9 t0 b15 _ _ kd0 z0 _ y0 y1 h15 n0 Zn15 f22 P9 f18 f19 f20 f21 Ea15 Fc15 Fv15 V15 hs) hZ (own_w hw 75 rfl) (own_w hw 7 rfl) (by decide) (by decide)) q17a q17c (g := (mkF m 25 #[vR r0, .unset, .unset] [(.ref a15), (.ref r0)])) rfl (by rw [hml]; rfl) (Steps.refl _) (argsL := [(.ref a15)]) (rest := []) (lenOf pd_14 rfl) rfl (by show 2 * 0 + _ ≤ _; exact Nat.le_of_eq rfl) (hb hby d5_25) (fun _ _ => ⟨rfl, e15, (by decide : 4 + 0 ≤ _), (by decide : 20 + 0 ≤ _)⟩)
  dsimp only [Pt.U, Pt.locs, Pt.cells, Pt.slots] at X17 lq17 yq17 zq17 st17 hQ17
  subst lq17 yq17 zq17
  obtain ⟨rfl, Nq17, eq17⟩ := hQ17
  have N17 := Fr.app N7 Nq17
  have ks23 := own_ct ks16 st17
  by_cases hc24 : (own_eq_G2 kd0 y0 y1) = (0 : Int32)
  · skip
    have ks25 : own_R p e below (A0) (T17.setTop (mkF m 37 #[vR r0, vI 0, .unset] [(.ref r0), (.int 0)])) := fun t k => ks23 t (by
      refine XS.ifYes X17.here hx rfl (pc0 := 28) (pc' := 33) rfl (hb hby d5_28) rfl ((if0 _ _).trans (teq hc24).1) (by decide) (by decide) ?_
      refine XS.iconst X17.here hx rfl (hb hby d5_33) ?_
      refine XS.istoreN X17.here hx rfl (hb hby d5_34) rfl (l' := #[vR r0, vI 0, .unset]) rfl ?_
      show Steps p.tables e below (T17.setTop (mkF m 35 #[vR r0, vI 0, .unset] [])) _
      refine XS.iloadN X17.here hx rfl (hb hby d5_35) rfl ?_
      refine XS.aloadN X17.here hx rfl (hb hby d5_36) rfl rfl ?_
      exact k)
    obtain ⟨cq26, kq26, q26a, q26b, q26c⟩ := isOf hZ eq17 f18
    obtain ⟨_, _, ⟨T26, L26, k26, n26⟩, -, X26, ⟨Lc26, hQ26, lq26, yq26, zq26⟩, st26⟩ := X17.virtualBack hx (y := (⟨"java/lang/String", "length", "()I"⟩ : MethodName)) (z := (⟨"java/lang/String", "length", "()I"⟩ : MethodName)) hown (mvT hZ (own_w hw 78 rfl)) (mvT hZ (own_w hw 79 rfl)) (notFace_of_selects (args := #[]) (mvT hZ (own_w hw 81 rfl))) (mvT hZ (own_w hw 81 rfl)) (mvT hZ (own_w hw 80 rfl)) (by decide) (backOf (W := 1) (rm17 l Z a0 hw [] r0 y9 t0 _ kd0 z0 _ (2 : Int32) h15 n0 Zn15 f22 P9 f18 f19 f20 f21 (own_sh_k hs) (own_sh_len2 hs)) hZ (own_w hw 82 rfl) (own_w hw 7 rfl) (by decide) (by decide)) q26a q26c (g := (mkF m 37 #[vR r0, vI 0, .unset] [(.ref r0), (.int 0)])) rfl (by rw [hml]; rfl) (Steps.refl _) (argsL := []) (rest := [(.int 0)]) (lenOf pd_15 rfl) rfl (by show 2 * 0 + _ ≤ _; exact Nat.le_of_eq rfl) (hb hby d5_37) (fun _ _ => ⟨rfl, eq17, (by decide : 4 + 0 ≤ _), (by decide : 20 + 0 ≤ _)⟩)
    dsimp only [Pt.U, Pt.locs, Pt.cells, Pt.slots] at X26 lq26 yq26 zq26 st26 hQ26
    subst lq26 yq26 zq26
    obtain ⟨rfl, Nq26, eq26⟩ := hQ26
    have N26 := Fr.app N17 Nq26
    have ks27 := own_ct ks25 st26
    have ks28 : own_R p e below (A0) (T26.setTop (mkF m 45 #[vR r0, vI 0, .unset] [(.int 0), (.ref r0)])) := fun t k => ks27 t (by
      refine XS.icmpNo X26.here hx rfl (hb hby d5_40) rfl (tlt (by decide)).2.1 ?_
      refine XS.aloadN X26.here hx rfl (hb hby d5_43) rfl rfl ?_
      refine XS.iloadN X26.here hx rfl (hb hby d5_44) rfl ?_
      exact k)
    have f30 := own_sta_keep S8 KH15
    have f31 := own_sta_keep S7a KH15
    have f32 := own_sta_keep S7b KH15
    have f33 := own_sta_keep S7c KH15
    obtain ⟨cq29, kq29, q29a, q29b, q29c⟩ := isOf hZ eq26 f18
    obtain ⟨_, _, ⟨T29, L29, k29, n29⟩, -, X29, ⟨Lc29, hQ29, lq29, yq29, zq29⟩, st29⟩ := X26.virtualBack hx (y := (⟨"java/lang/String", "charAt", "(I)C"⟩ : MethodName)) (z := (⟨"java/lang/String", "charAt", "(I)C"⟩ : MethodName)) hown (mvT hZ (own_w hw 88 rfl)) (mvT hZ (own_w hw 89 rfl)) (notFace_of_selects (args := #[]) (mvT hZ (own_w hw 91 rfl))) (mvT hZ (own_w hw 91 rfl)) (mvT hZ (own_w hw 90 rfl)) (by decide) (backOf (W := 0) (rm19 l Z a0 hw [] r0 (0 : Int32) y9 u8 t0 _ kd0 z0 _ y0 (2 : Int32) h15 n0 Zn15 f22 P9 f30 I8 f31 f32 f33 f18 f19 f20 f21 (own_sh_at2_0 hs RY0) RY0) hZ (own_w hw 92 rfl) (own_w hw 7 rfl) (by decide) (by decide)) q29a q29c (g := (mkF m 45 #[vR r0, vI 0, .unset] [(.int 0), (.ref r0)])) rfl (by rw [hml]; rfl) (Steps.refl _) (argsL := [(.int 0)]) (rest := []) (lenOf pd_0 rfl) rfl (by show 2 * 0 + _ ≤ _; exact Nat.le_of_eq rfl) (hb hby d5_45) (fun _ _ => ⟨rfl, eq26, (by decide : 4 + 0 ≤ _), (by decide : 20 + 0 ≤ _)⟩)
    dsimp only [Pt.U, Pt.locs, Pt.cells, Pt.slots] at X29 lq29 yq29 zq29 st29 hQ29
    subst lq29 yq29 zq29
    obtain ⟨rfl, Nq29, eq29⟩ := hQ29
    have N29 := Fr.app N26 Nq29
    have ks34 := own_ct ks28 st29
    have ks35 : own_R p e below (A0) (T29.setTop (mkF m 52 #[vR r0, vI 0, vI y0] [(.int 32), (.int y0)])) := fun t k => ks34 t (by
      refine XS.istoreN X29.here hx rfl (hb hby d5_48) rfl (l' := #[vR r0, vI 0, vI y0]) rfl ?_
      refine XS.iloadN X29.here hx rfl (hb hby d5_49) rfl ?_
      refine XS.bipush X29.here hx rfl (hb hby d5_50) ?_
      exact k)
    by_cases hc36 : (32 : Int32) < y0
    · skip
      have ks37 : own_R p e below (A0) (T29.setTop (mkF m 58 #[vR r0, vI 0, vI y0] [(.int 126), (.int y0)])) := fun t k => ks35 t (by
        refine XS.icmpNo X29.here hx rfl (hb hby d5_52) rfl (tlt hc36).2.2.2 ?_
        refine XS.iloadN X29.here hx rfl (hb hby d5_55) rfl ?_
        refine XS.bipush X29.here hx rfl (hb hby d5_56) ?_
        exact k)
      by_cases hc38 : (126 : Int32) < y0
      · skip
        have ks39 : own_R p e below (A0) (T29.setTop (mkF m 71 #[vR r0, vI 0, vI y0] [(.int 0)])) := fun t k => ks37 t (by
          refine XS.icmpYes X29.here hx rfl (pc0 := 58) (pc' := 70) rfl (hb hby d5_58) rfl (tlt hc38).2.2.1 (by decide) (by decide) ?_
          refine XS.iconst X29.here hx rfl (hb hby d5_70) ?_
          exact k)
        obtain ⟨fs, hr, hrun, hended, hEnd⟩ := X29.leaveW hS15 (by rw [eq29]; exact hk15) (v := some (.int 0)) (fun h => by rw [Bd.returns] at h; cases h) hlk
        have CRf : CHr Z consts_1 s.vm s.heap T29.vm T29.heap := by rw [hh, eq29]; exact CR15.trans (CHv.at X29 hZ (own_EW hw) CR15.1)
        refine ⟨_, _, kz _ (ks39 _ ?_), hrun, hended, _, _, rfl, ?_, CRf, hEnd.1, hEnd.2.1, hEnd.2.2.1, hEnd.2.2.2.mono (by decide) (by decide)⟩
        · exact retN X29 hx (t := .boolean) Bd.returns (by simp) (hb hby d5_71) hr
        · show Q5_G2 Z r0 y9 u8 t0 kt0 kd0 z0 vs0 y0 y1 h0 n0 _ T29.heap _
          rw [eq29]
          refine ⟨?_, N29, KH15⟩
          rw [own_val_G2, if_pos hc24, if_pos hc36, if_pos hc38]
      · skip
        have ks40 : own_R p e below (A0) (T29.setTop (mkF m 61 #[vR r0, vI 0, vI y0] [])) := fun t k => ks37 t (by
          refine XS.icmpNo X29.here hx rfl (hb hby d5_58) rfl (flt hc38).2.2.1 ?_
          exact k)
        have f41 := (Ea5.ext E15)
        have f42 := (V5.ext E15)
        obtain ⟨a43, T43, h43, kk43, b43, c43, X43, e43, E43, hS43, hk43, hZ, hown, Ea43, Fc43, Fv43, V43, la43, lb43, ch43, -, hne43, st43⟩ := ldcCH X29 hx hZ hown (own_w hw 135 rfl) (own_strs hw) eq29 hS15 hk15 (own_EW hw) (List.mem_of_getElem? (i := 2) rfl) CR15.1 (vs := [.int (34 : Int32), .int (35 : Int32), .int (42 : Int32), .int (44 : Int32), .int (47 : Int32), .int (58 : Int32), .int (63 : Int32), .int (91 : Int32), .int (93 : Int32), .int (123 : Int32), .int (125 : Int32)]) (z := (11 : Int32)) ⟨by decide, rfl⟩ (by decide) rfl (g := (mkF m 61 #[vR r0, vI 0, vI y0] [])) rfl (hb hby d5_61) (n := 44) (by decide) (by decide) (by decide) (by decide)
        have KH43 : Keep h0 h43 [] := KH15.ext E43
        have Zn43 : n0 ≤ h43.size := Nat.le_trans Zn15 E43.1
        have CR43 := CR15.trans (ch43)
        have ks44 := own_c ks40 st43
        have ks45 : own_R p e below (A0) (T43.setTop (mkF m 64 #[vR r0, vI 0, vI y0] [(.int y0), (.ref a43)])) := fun t k => ks44 t (by
          refine XS.iloadN X43.here hx rfl (hb hby d5_63) rfl ?_
          exact k)
        have f47 := own_sta_keep S9 KH43
        obtain ⟨cq46, kq46, q46a, q46b, q46c⟩ := isOf hZ e43 Ea43
        obtain ⟨_, _, ⟨T46, L46, k46, n46⟩, -, X46, ⟨Lc46, hQ46, lq46, yq46, zq46⟩, st46⟩ := X43.virtualBack hx (y := (⟨"java/lang/String", "indexOf", "(I)I"⟩ : MethodName)) (z := (⟨"java/lang/String", "indexOf", "(I)I"⟩ : MethodName)) hown (mvT hZ (own_w hw 136 rfl)) (mvT hZ (own_w hw 137 rfl)) (notFace_of_selects (args := #[]) (mvT hZ (own_w hw 139 rfl))) (mvT hZ (own_w hw 139 rfl)) (mvT hZ (own_w hw 138 rfl)) (by decide) (backOf (W := 0) (rm32 l Z a0 hw [] a43 y0 y9 b43 _ h43 n0 Zn43 f47 P9 Ea43 Fc43 Fv43 V43) hZ (own_w hw 140 rfl) (own_w hw 7 rfl) (by decide) (by decide)) q46a q46c (g := (mkF m 64 #[vR r0, vI 0, vI y0] [(.int y0), (.ref a43)])) rfl (by rw [hml]; rfl) (Steps.refl _) (argsL := [(.int y0)]) (rest := []) (lenOf pd_9 rfl) rfl (by show 2 * 0 + _ ≤ _; exact Nat.le_of_eq rfl) (hb hby d5_64) (fun _ _ => ⟨rfl, e43, (by decide : 6 + 0 ≤ _), (by decide : 68 + 0 ≤ _)⟩)
        dsimp only [Pt.U, Pt.locs, Pt.cells, Pt.slots] at X46 lq46 yq46 zq46 st46 hQ46
        subst lq46 yq46 zq46
        obtain ⟨rfl, Nq46, eq46⟩ := hQ46
        have N46 := Fr.app N29 Nq46
        have ks48 := own_ct ks45 st46
        by_cases hc49 : (own_ix y0) < (0 : Int32)
        · skip
          have ks50 : own_R p e below (A0) (T46.setTop (mkF m 37 #[vR r0, vI 1, vI y0] [(.ref r0), (.int 1)])) := fun t k => ks48 t (by
            refine XS.ifYes X46.here hx rfl (pc0 := 67) (pc' := 72) rfl (hb hby d5_67) rfl ((if0 _ _).trans (tlt hc49).1) (by decide) (by decide) ?_
            refine XS.iinc X46.here hx rfl (hb hby d5_72) rfl (l' := #[vR r0, vI 1, vI y0]) rfl ?_
            refine XS.goto X46.here hx rfl (pc0 := 75) (pc' := 35) rfl (hb hby d5_75) (by decide) (by decide) ?_
            show Steps p.tables e below (T46.setTop (mkF m 35 #[vR r0, vI 1, vI y0] [])) _
            refine XS.iloadN X46.here hx rfl (hb hby d5_35) rfl ?_
            refine XS.aloadN X46.here hx rfl (hb hby d5_36) rfl rfl ?_
            exact k)
          have f52 := E0.keep KH43
          have f53 := Cd0.keep KH43 nin0
          have f54 := F0.keep KH43 nin0
          have f55 := V0.keep KH43 nin0
          obtain ⟨cq51, kq51, q51a, q51b, q51c⟩ := isOf hZ eq46 f52
          obtain ⟨_, _, ⟨T51, L51, k51, n51⟩, -, X51, ⟨Lc51, hQ51, lq51, yq51, zq51⟩, st51⟩ := X46.virtualBack hx (y := (⟨"java/lang/String", "length", "()I"⟩ : MethodName)) (z := (⟨"java/lang/String", "length", "()I"⟩ : MethodName)) hown (mvT hZ (own_w hw 78 rfl)) (mvT hZ (own_w hw 79 rfl)) (notFace_of_selects (args := #[]) (mvT hZ (own_w hw 81 rfl))) (mvT hZ (own_w hw 81 rfl)) (mvT hZ (own_w hw 80 rfl)) (by decide) (backOf (W := 1) (rm17 l Z a0 hw [] r0 y9 t0 _ kd0 z0 _ (2 : Int32) h43 n0 Zn43 f47 P9 f52 f53 f54 f55 (own_sh_k hs) (own_sh_len2 hs)) hZ (own_w hw 82 rfl) (own_w hw 7 rfl) (by decide) (by decide)) q51a q51c (g := (mkF m 37 #[vR r0, vI 1, vI y0] [(.ref r0), (.int 1)])) rfl (by rw [hml]; rfl) (Steps.refl _) (argsL := []) (rest := [(.int 1)]) (lenOf pd_15 rfl) rfl (by show 2 * 0 + _ ≤ _; exact Nat.le_of_eq rfl) (hb hby d5_37) (fun _ _ => ⟨rfl, eq46, (by decide : 6 + 0 ≤ _), (by decide : 68 + 0 ≤ _)⟩)
          dsimp only [Pt.U, Pt.locs, Pt.cells, Pt.slots] at X51 lq51 yq51 zq51 st51 hQ51
          subst lq51 yq51 zq51
          obtain ⟨rfl, Nq51, eq51⟩ := hQ51
          have N51 := Fr.app N46 Nq51
          have ks56 := own_ct ks50 st51
          have ks57 : own_R p e below (A0) (T51.setTop (mkF m 45 #[vR r0, vI 1, vI y0] [(.int 1), (.ref r0)])) := fun t k => ks56 t (by
            refine XS.icmpNo X51.here hx rfl (hb hby d5_40) rfl (tlt (by decide)).2.1 ?_
            refine XS.aloadN X51.here hx rfl (hb hby d5_43) rfl rfl ?_
            refine XS.iloadN X51.here hx rfl (hb hby d5_44) rfl ?_
            exact k)
          have f59 := own_sta_keep S8 KH43
          have f60 := own_sta_keep S7a KH43
          have f61 := own_sta_keep S7b KH43
          have f62 := own_sta_keep S7c KH43
          obtain ⟨cq58, kq58, q58a, q58b, q58c⟩ := isOf hZ eq51 f52
          obtain ⟨_, _, ⟨T58, L58, k58, n58⟩, -, X58, ⟨Lc58, hQ58, lq58, yq58, zq58⟩, st58⟩ := X51.virtualBack hx (y := (⟨"java/lang/String", "charAt", "(I)C"⟩ : MethodName)) (z := (⟨"java/lang/String", "charAt", "(I)C"⟩ : MethodName)) hown (mvT hZ (own_w hw 88 rfl)) (mvT hZ (own_w hw 89 rfl)) (notFace_of_selects (args := #[]) (mvT hZ (own_w hw 91 rfl))) (mvT hZ (own_w hw 91 rfl)) (mvT hZ (own_w hw 90 rfl)) (by decide) (backOf (W := 0) (rm19 l Z a0 hw [] r0 (1 : Int32) y9 u8 t0 _ kd0 z0 _ y1 (2 : Int32) h43 n0 Zn43 f47 P9 f59 I8 f60 f61 f62 f52 f53 f54 f55 (own_sh_at2_1 hs RY1) RY1) hZ (own_w hw 92 rfl) (own_w hw 7 rfl) (by decide) (by decide)) q58a q58c (g := (mkF m 45 #[vR r0, vI 1, vI y0] [(.int 1), (.ref r0)])) rfl (by rw [hml]; rfl) (Steps.refl _) (argsL := [(.int 1)]) (rest := []) (lenOf pd_0 rfl) rfl (by show 2 * 0 + _ ≤ _; exact Nat.le_of_eq rfl) (hb hby d5_45) (fun _ _ => ⟨rfl, eq51, (by decide : 6 + 0 ≤ _), (by decide : 68 + 0 ≤ _)⟩)
          dsimp only [Pt.U, Pt.locs, Pt.cells, Pt.slots] at X58 lq58 yq58 zq58 st58 hQ58
          subst lq58 yq58 zq58
          obtain ⟨rfl, Nq58, eq58⟩ := hQ58
          have N58 := Fr.app N51 Nq58
          have ks63 := own_ct ks57 st58
          have ks64 : own_R p e below (A0) (T58.setTop (mkF m 52 #[vR r0, vI 1, vI y1] [(.int 32), (.int y1)])) := fun t k => ks63 t (by
            refine XS.istoreN X58.here hx rfl (hb hby d5_48) rfl (l' := #[vR r0, vI 1, vI y1]) rfl ?_
            refine XS.iloadN X58.here hx rfl (hb hby d5_49) rfl ?_
            refine XS.bipush X58.here hx rfl (hb hby d5_50) ?_
            exact k)
          by_cases hc65 : (32 : Int32) < y1
          · skip
            have ks66 : own_R p e below (A0) (T58.setTop (mkF m 58 #[vR r0, vI 1, vI y1] [(.int 126), (.int y1)])) := fun t k => ks64 t (by
              refine XS.icmpNo X58.here hx rfl (hb hby d5_52) rfl (tlt hc65).2.2.2 ?_
              refine XS.iloadN X58.here hx rfl (hb hby d5_55) rfl ?_
              refine XS.bipush X58.here hx rfl (hb hby d5_56) ?_
              exact k)
            by_cases hc67 : (126 : Int32) < y1
            · skip
              have ks68 : own_R p e below (A0) (T58.setTop (mkF m 71 #[vR r0, vI 1, vI y1] [(.int 0)])) := fun t k => ks66 t (by
                refine XS.icmpYes X58.here hx rfl (pc0 := 58) (pc' := 70) rfl (hb hby d5_58) rfl (tlt hc67).2.2.1 (by decide) (by decide) ?_
                refine XS.iconst X58.here hx rfl (hb hby d5_70) ?_
                exact k)
              obtain ⟨fs, hr, hrun, hended, hEnd⟩ := X58.leaveW hS43 (by rw [eq58]; exact hk43) (v := some (.int 0)) (fun h => by rw [Bd.returns] at h; cases h) hlk
              have CRf : CHr Z consts_1 s.vm s.heap T58.vm T58.heap := by rw [hh, eq58]; exact CR43.trans (CHv.at X58 hZ (own_EW hw) CR43.1)
              refine ⟨_, _, kz _ (ks68 _ ?_), hrun, hended, _, _, rfl, ?_, CRf, hEnd.1, hEnd.2.1, hEnd.2.2.1, hEnd.2.2.2.mono (by decide) (by decide)⟩
              · exact retN X58 hx (t := .boolean) Bd.returns (by simp) (hb hby d5_71) hr
              · show Q5_G2 Z r0 y9 u8 t0 kt0 kd0 z0 vs0 y0 y1 h0 n0 _ T58.heap _
                rw [eq58]
                refine ⟨?_, N58, KH43⟩
                rw [own_val_G2, if_pos hc24, if_pos hc36, if_neg hc38, if_pos hc49, if_pos hc65, if_pos hc67]
            · skip
              have ks69 : own_R p e below (A0) (T58.setTop (mkF m 61 #[vR r0, vI 1, vI y1] [])) := fun t k => ks66 t (by
                refine XS.icmpNo X58.here hx rfl (hb hby d5_58) rfl (flt hc67).2.2.1 ?_
                exact k)
              have f70 := (f41.ext E43)
              have f71 := (f42.ext E43)
              have f72 := (Ea15.ext E43)
              have f73 := (V15.ext E43)
              obtain ⟨a74, T74, h74, kk74, b74, c74, X74, e74, E74, hS74, hk74, hZ, hown, Ea74, Fc74, Fv74, V74, la74, lb74, ch74, -, hne74, st74⟩ := ldcCH X58 hx hZ hown (own_w hw 135 rfl) (own_strs hw) eq58 hS43 hk43 (own_EW hw) (List.mem_of_getElem? (i := 2) rfl) CR43.1 (vs := [.int (34 : Int32), .int (35 : Int32), .int (42 : Int32), .int (44 : Int32), .int (47 : Int32), .int (58 : Int32), .int (63 : Int32), .int (91 : Int32), .int (93 : Int32), .int (123 : Int32), .int (125 : Int32)]) (z := (11 : Int32)) ⟨by decide, rfl⟩ (by decide) rfl (g := (mkF m 61 #[vR r0, vI 1, vI y1] [])) rfl (hb hby d5_61) (n := 44) (by decide) (by decide) (by decide) (by decide)
              have KH74 : Keep h0 h74 [] := KH43.ext E74
              have Zn74 : n0 ≤ h74.size := Nat.le_trans Zn43 E74.1
              have CR74 := CR43.trans (ch74)
              have ks75 := own_c ks69 st74
              have ks76 : own_R p e below (A0) (T74.setTop (mkF m 64 #[vR r0, vI 1, vI y1] [(.int y1), (.ref a74)])) := fun t k => ks75 t (by
                refine XS.iloadN X74.here hx rfl (hb hby d5_63) rfl ?_
                exact k)
              have f78 := own_sta_keep S9 KH74
              obtain ⟨cq77, kq77, q77a, q77b, q77c⟩ := isOf hZ e74 Ea74
              obtain ⟨_, _, ⟨T77, L77, k77, n77⟩, -, X77, ⟨Lc77, hQ77, lq77, yq77, zq77⟩, st77⟩ := X74.virtualBack hx (y := (⟨"java/lang/String", "indexOf", "(I)I"⟩ : MethodName)) (z := (⟨"java/lang/String", "indexOf", "(I)I"⟩ : MethodName)) hown (mvT hZ (own_w hw 136 rfl)) (mvT hZ (own_w hw 137 rfl)) (notFace_of_selects (args := #[]) (mvT hZ (own_w hw 139 rfl))) (mvT hZ (own_w hw 139 rfl)) (mvT hZ (own_w hw 138 rfl)) (by decide) (backOf (W := 0) (rm32 l Z a0 hw [] a74 y1 y9 b74 _ h74 n0 Zn74 f78 P9 Ea74 Fc74 Fv74 V74) hZ (own_w hw 140 rfl) (own_w hw 7 rfl) (by decide) (by decide)) q77a q77c (g := (mkF m 64 #[vR r0, vI 1, vI y1] [(.int y1), (.ref a74)])) rfl (by rw [hml]; rfl) (Steps.refl _) (argsL := [(.int y1)]) (rest := []) (lenOf pd_9 rfl) rfl (by show 2 * 0 + _ ≤ _; exact Nat.le_of_eq rfl) (hb hby d5_64) (fun _ _ => ⟨rfl, e74, (by decide : 8 + 0 ≤ _), (by decide : 116 + 0 ≤ _)⟩)
              dsimp only [Pt.U, Pt.locs, Pt.cells, Pt.slots] at X77 lq77 yq77 zq77 st77 hQ77
              subst lq77 yq77 zq77
              obtain ⟨rfl, Nq77, eq77⟩ := hQ77
              have N77 := Fr.app N58 Nq77
              have ks79 := own_ct ks76 st77
              by_cases hc80 : (own_ix y1) < (0 : Int32)
              · skip
                have ks81 : own_R p e below (A0) (T77.setTop (mkF m 37 #[vR r0, vI 2, vI y1] [(.ref r0), (.int 2)])) := fun t k => ks79 t (by
                  refine XS.ifYes X77.here hx rfl (pc0 := 67) (pc' := 72) rfl (hb hby d5_67) rfl ((if0 _ _).trans (tlt hc80).1) (by decide) (by decide) ?_
                  refine XS.iinc X77.here hx rfl (hb hby d5_72) rfl (l' := #[vR r0, vI 2, vI y1]) rfl ?_
                  refine XS.goto X77.here hx rfl (pc0 := 75) (pc' := 35) rfl (hb hby d5_75) (by decide) (by decide) ?_
                  show Steps p.tables e below (T77.setTop (mkF m 35 #[vR r0, vI 2, vI y1] [])) _
                  refine XS.iloadN X77.here hx rfl (hb hby d5_35) rfl ?_
                  refine XS.aloadN X77.here hx rfl (hb hby d5_36) rfl rfl ?_
                  exact k)
                have f83 := E0.keep KH74
                have f84 := Cd0.keep KH74 nin0
                have f85 := F0.keep KH74 nin0
                have f86 := V0.keep KH74 nin0
                obtain ⟨cq82, kq82, q82a, q82b, q82c⟩ := isOf hZ eq77 f83
                obtain ⟨_, _, ⟨T82, L82, k82, n82⟩, -, X82, ⟨Lc82, hQ82, lq82, yq82, zq82⟩, st82⟩ := X77.virtualBack hx (y := (⟨"java/lang/String", "length", "()I"⟩ : MethodName)) (z := (⟨"java/lang/String", "length", "()I"⟩ : MethodName)) hown (mvT hZ (own_w hw 78 rfl)) (mvT hZ (own_w hw 79 rfl)) (notFace_of_selects (args := #[]) (mvT hZ (own_w hw 81 rfl))) (mvT hZ (own_w hw 81 rfl)) (mvT hZ (own_w hw 80 rfl)) (by decide) (backOf (W := 1) (rm17 l Z a0 hw [] r0 y9 t0 _ kd0 z0 _ (2 : Int32) h74 n0 Zn74 f78 P9 f83 f84 f85 f86 (own_sh_k hs) (own_sh_len2 hs)) hZ (own_w hw 82 rfl) (own_w hw 7 rfl) (by decide) (by decide)) q82a q82c (g := (mkF m 37 #[vR r0, vI 2, vI y1] [(.ref r0), (.int 2)])) rfl (by rw [hml]; rfl) (Steps.refl _) (argsL := []) (rest := [(.int 2)]) (lenOf pd_15 rfl) rfl (by show 2 * 0 + _ ≤ _; exact Nat.le_of_eq rfl) (hb hby d5_37) (fun _ _ => ⟨rfl, eq77, (by decide : 8 + 0 ≤ _), (by decide : 116 + 0 ≤ _)⟩)
                dsimp only [Pt.U, Pt.locs, Pt.cells, Pt.slots] at X82 lq82 yq82 zq82 st82 hQ82
                subst lq82 yq82 zq82
                obtain ⟨rfl, Nq82, eq82⟩ := hQ82
                have N82 := Fr.app N77 Nq82
                have ks87 := own_ct ks81 st82
                have ks88 : own_R p e below (A0) (T82.setTop (mkF m 79 #[vR r0, vI 2, vI y1] [(.int 1)])) := fun t k => ks87 t (by
                  refine XS.icmpYes X82.here hx rfl (pc0 := 40) (pc' := 78) rfl (hb hby d5_40) rfl (flt (by decide)).2.1 (by decide) (by decide) ?_
                  refine XS.iconst X82.here hx rfl (hb hby d5_78) ?_
                  exact k)
                obtain ⟨fs, hr, hrun, hended, hEnd⟩ := X82.leaveW hS74 (by rw [eq82]; exact hk74) (v := some (.int 1)) (fun h => by rw [Bd.returns] at h; cases h) hlk
                have CRf : CHr Z consts_1 s.vm s.heap T82.vm T82.heap := by rw [hh, eq82]; exact CR74.trans (CHv.at X82 hZ (own_EW hw) CR74.1)
                refine ⟨_, _, kz _ (ks88 _ ?_), hrun, hended, _, _, rfl, ?_, CRf, hEnd.1, hEnd.2.1, hEnd.2.2.1, hEnd.2.2.2.mono (by decide) (by decide)⟩
                · exact retN X82 hx (t := .boolean) Bd.returns (by simp) (hb hby d5_79) hr
                · show Q5_G2 Z r0 y9 u8 t0 kt0 kd0 z0 vs0 y0 y1 h0 n0 _ T82.heap _
                  rw [eq82]
                  refine ⟨?_, N82, KH74⟩
                  rw [own_val_G2, if_pos hc24, if_pos hc36, if_neg hc38, if_pos hc49, if_pos hc65, if_neg hc67, if_pos hc80]
              · skip
                have ks89 : own_R p e below (A0) (T77.setTop (mkF m 71 #[vR r0, vI 1, vI y1] [(.int 0)])) := fun t k => ks79 t (by
                  refine XS.ifNo X77.here hx rfl (hb hby d5_67) rfl ((if0 _ _).trans (flt hc80).1) ?_
                  refine XS.iconst X77.here hx rfl (hb hby d5_70) ?_
                  exact k)
                obtain ⟨fs, hr, hrun, hended, hEnd⟩ := X77.leaveW hS74 (by rw [eq77]; exact hk74) (v := some (.int 0)) (fun h => by rw [Bd.returns] at h; cases h) hlk
                have CRf : CHr Z consts_1 s.vm s.heap T77.vm T77.heap := by rw [hh, eq77]; exact CR74.trans (CHv.at X77 hZ (own_EW hw) CR74.1)
                refine ⟨_, _, kz _ (ks89 _ ?_), hrun, hended, _, _, rfl, ?_, CRf, hEnd.1, hEnd.2.1, hEnd.2.2.1, hEnd.2.2.2.mono (by decide) (by decide)⟩
                · exact retN X77 hx (t := .boolean) Bd.returns (by simp) (hb hby d5_71) hr
                · show Q5_G2 Z r0 y9 u8 t0 kt0 kd0 z0 vs0 y0 y1 h0 n0 _ T77.heap _
                  rw [eq77]
                  refine ⟨?_, N77, KH74⟩
                  rw [own_val_G2, if_pos hc24, if_pos hc36, if_neg hc38, if_pos hc49, if_pos hc65, if_neg hc67, if_neg hc80]
          · skip
            have ks90 : own_R p e below (A0) (T58.setTop (mkF m 71 #[vR r0, vI 1, vI y1] [(.int 0)])) := fun t k => ks64 t (by
              refine XS.icmpYes X58.here hx rfl (pc0 := 52) (pc' := 70) rfl (hb hby d5_52) rfl (flt hc65).2.2.2 (by decide) (by decide) ?_
              refine XS.iconst X58.here hx rfl (hb hby d5_70) ?_
              exact k)
            obtain ⟨fs, hr, hrun, hended, hEnd⟩ := X58.leaveW hS43 (by rw [eq58]; exact hk43) (v := some (.int 0)) (fun h => by rw [Bd.returns] at h; cases h) hlk
            have CRf : CHr Z consts_1 s.vm s.heap T58.vm T58.heap := by rw [hh, eq58]; exact CR43.trans (CHv.at X58 hZ (own_EW hw) CR43.1)
            refine ⟨_, _, kz _ (ks90 _ ?_), hrun, hended, _, _, rfl, ?_, CRf, hEnd.1, hEnd.2.1, hEnd.2.2.1, hEnd.2.2.2.mono (by decide) (by decide)⟩
            · exact retN X58 hx (t := .boolean) Bd.returns (by simp) (hb hby d5_71) hr
            · show Q5_G2 Z r0 y9 u8 t0 kt0 kd0 z0 vs0 y0 y1 h0 n0 _ T58.heap _
              rw [eq58]
              refine ⟨?_, N58, KH43⟩
              rw [own_val_G2, if_pos hc24, if_pos hc36, if_neg hc38, if_pos hc49, if_neg hc65]
        · skip
          have ks91 : own_R p e below (A0) (T46.setTop (mkF m 71 #[vR r0, vI 0, vI y0] [(.int 0)])) := fun t k => ks48 t (by
            refine XS.ifNo X46.here hx rfl (hb hby d5_67) rfl ((if0 _ _).trans (flt hc49).1) ?_
            refine XS.iconst X46.here hx rfl (hb hby d5_70) ?_
            exact k)
          obtain ⟨fs, hr, hrun, hended, hEnd⟩ := X46.leaveW hS43 (by rw [eq46]; exact hk43) (v := some (.int 0)) (fun h => by rw [Bd.returns] at h; cases h) hlk
          have CRf : CHr Z consts_1 s.vm s.heap T46.vm T46.heap := by rw [hh, eq46]; exact CR43.trans (CHv.at X46 hZ (own_EW hw) CR43.1)
          refine ⟨_, _, kz _ (ks91 _ ?_), hrun, hended, _, _, rfl, ?_, CRf, hEnd.1, hEnd.2.1, hEnd.2.2.1, hEnd.2.2.2.mono (by decide) (by decide)⟩
          · exact retN X46 hx (t := .boolean) Bd.returns (by simp) (hb hby d5_71) hr
          · show Q5_G2 Z r0 y9 u8 t0 kt0 kd0 z0 vs0 y0 y1 h0 n0 _ T46.heap _
            rw [eq46]
            refine ⟨?_, N46, KH43⟩
            rw [own_val_G2, if_pos hc24, if_pos hc36, if_neg hc38, if_neg hc49]
    · skip
      have ks92 : own_R p e below (A0) (T29.setTop (mkF m 71 #[vR r0, vI 0, vI y0] [(.int 0)])) := fun t k => ks35 t (by
        refine XS.icmpYes X29.here hx rfl (pc0 := 52) (pc' := 70) rfl (hb hby d5_52) rfl (flt hc36).2.2.2 (by decide) (by decide) ?_
        refine XS.iconst X29.here hx rfl (hb hby d5_70) ?_
        exact k)
      obtain ⟨fs, hr, hrun, hended, hEnd⟩ := X29.leaveW hS15 (by rw [eq29]; exact hk15) (v := some (.int 0)) (fun h => by rw [Bd.returns] at h; cases h) hlk
      have CRf : CHr Z consts_1 s.vm s.heap T29.vm T29.heap := by rw [hh, eq29]; exact CR15.trans (CHv.at X29 hZ (own_EW hw) CR15.1)
      refine ⟨_, _, kz _ (ks92 _ ?_), hrun, hended, _, _, rfl, ?_, CRf, hEnd.1, hEnd.2.1, hEnd.2.2.1, hEnd.2.2.2.mono (by decide) (by decide)⟩
      · exact retN X29 hx (t := .boolean) Bd.returns (by simp) (hb hby d5_71) hr
      · show Q5_G2 Z r0 y9 u8 t0 kt0 kd0 z0 vs0 y0 y1 h0 n0 _ T29.heap _
        rw [eq29]
        refine ⟨?_, N29, KH15⟩
        rw [own_val_G2, if_pos hc24, if_neg hc36]
  · skip
    have ks93 : own_R p e below (A0) (T17.setTop (mkF m 32 #[vR r0, .unset, .unset] [(.int 0)])) := fun t k => ks23 t (by
      refine XS.ifNo X17.here hx rfl (hb hby d5_28) rfl ((if0 _ _).trans (feq hc24).1) ?_
      refine XS.iconst X17.here hx rfl (hb hby d5_31) ?_
      exact k)
    obtain ⟨fs, hr, hrun, hended, hEnd⟩ := X17.leaveW hS15 (by rw [eq17]; exact hk15) (v := some (.int 0)) (fun h => by rw [Bd.returns] at h; cases h) hlk
    have CRf : CHr Z consts_1 s.vm s.heap T17.vm T17.heap := by rw [hh, eq17]; exact CR15.trans (CHv.at X17 hZ (own_EW hw) CR15.1)
    refine ⟨_, _, kz _ (ks93 _ ?_), hrun, hended, _, _, rfl, ?_, CRf, hEnd.1, hEnd.2.1, hEnd.2.2.1, hEnd.2.2.2.mono (by decide) (by decide)⟩
    · exact retN X17 hx (t := .boolean) Bd.returns (by simp) (hb hby d5_32) hr
    · show Q5_G2 Z r0 y9 u8 t0 kt0 kd0 z0 vs0 y0 y1 h0 n0 _ T17.heap _
      rw [eq17]
      refine ⟨?_, N17, KH15⟩
      rw [own_val_G2, if_neg hc24]
def own_val_G3 (kd0 : Int32) (y0 : Int32) (y1 : Int32) (y2 : Int32) : Int32 := (if (32 : Int32) < y0 then (if (126 : Int32) < y0 then (0 : Int32) else (if (own_ix y0) < (0 : Int32) then (if (32 : Int32) < y1 then (if (126 : Int32) < y1 then (0 : Int32) else (if (own_ix y1) < (0 : Int32) then (if (32 : Int32) < y2 then (if (126 : Int32) < y2 then (0 : Int32) else (if (own_ix y2) < (0 : Int32) then (1 : Int32) else (0 : Int32))) else (0 : Int32)) else (0 : Int32))) else (0 : Int32)) else (0 : Int32))) else (0 : Int32))
theorem ef_5_G3 (m : MethodId) (x0 : Addr) : entryFrame m #[(.ref x0)] 3 = mkF m 0 #[.val (.ref x0), .unset, .unset] [] := by first | (simp [entryFrame, mkF, argsToLocals, Value.category]; done) | rfl
def Q5_G3 (Z : State) (r0 : Addr) (y9 : Int32) (u8 : Value) (t0 : Addr) (kt0 : ClassId) (kd0 : Int32) (z0 : Int32) (vs0 : List Value) (y0 : Int32) (y1 : Int32) (y2 : Int32) (h0 : Heap) (n0 : Nat) (v : Option Value) (h : Heap) (L : List Loc) : Prop := v = some (.int (own_val_G3 kd0 y0 y1 y2)) ∧ Fr n0 L ∧ Keep h0 h []
set_option maxRecDepth 65536 in
set_option maxHeartbeats 40000000 in
theorem rm5_G3 (l : Launch) (Z : State) (a0 : Array Value) (hw : ∀ d ∈ tables_1, d.before a0 Z = true) (ws : List Jvm.Cond) (r0 : Addr) (y9 : Int32) (u8 : Value) (t0 : Addr) (kt0 : ClassId) (kd0 : Int32) (z0 : Int32) (vs0 : List Value) (y0 : Int32) (y1 : Int32) (y2 : Int32) (h0 : Heap) (n0 : Nat) (Z0 : n0 ≤ h0.size) (S9 : own_S9 Z h0 y9) (P9 : ¬ y9 = (0 : Int32)) (S8 : own_S8 Z h0 u8) (I8 : u8.isRef = true) (S7a : own_S7a Z h0) (S7b : own_S7b Z h0) (S7c : own_S7c Z h0) (E0 : Exa Z h0 r0 "java/lang/String") (Cd0 : own_Cd Z h0 r0 kd0) (F0 : own_Fv Z h0 r0 t0) (V0 : Arv Z h0 t0 kt0 .byte z0 vs0 (.int 0)) (hs : own_sh 3 kd0 z0 vs0 [y0, y1, y2]) (RY0 : y0.toUInt32.toUInt16.toUInt32.toInt32 = y0) (RY1 : y1.toUInt32.toUInt16.toUInt32.toInt32 = y1) (RY2 : y2.toUInt32.toUInt16.toUInt32.toInt32 = y2) :
    MetFree l (⟨"com/example/rackline/rackline/core/Names", "isValid", "(Ljava/lang/String;)Z"⟩ : MethodName) (head1 (Jvm.Cond.code (⟨"com/example/rackline/rackline/core/Names", "isValid", "(Ljava/lang/String;)Z"⟩ : MethodName) prog_8_method_2_code 3 (some .boolean) :: ws) ({ frames := 5, cells := 10, slots := 164, locals := 66 } : Room)) (fun a U => a = #[(.ref r0)] ∧ Z.Warmed39 U.vm ∧ U.heap = h0 ∧ CHv Z consts_1 U.vm h0) (fun _ _ _ _ _ => True) (fun _ U o U' => ∃ v L, o = .returned v ∧ Q5_G3 Z r0 y9 u8 t0 kt0 kd0 z0 vs0 y0 y1 y2 h0 n0 v U'.heap L ∧ CHr Z consts_1 U.vm U.heap U'.vm U'.heap ∧ ReturnedEndW U o U' L ({ frames := 5, cells := 10, slots := 164, locals := 66 } : Room).cells ({ frames := 5, cells := 10, slots := 164, locals := 66 } : Room).slots) := by
  refine MetFree.of_bodySF (plainFor_of_name pn_5) hisR ?_
  intro p e s m args below meth c s₁ Bd hml0 hP hK
  obtain ⟨rfl, hZ, hh, C0⟩ := hP
  have hx := Bd.exec
  have hby := Bd.bytes
  have hml : c.maxLocals = 3 := hml0
  have hown : s.vm.findClass "com/example/rackline/rackline/core/Names" = some m.cls := findClass_of_methodNamed Bd.named
  have hnm := (name_of_methodNamed Bd.named Bd.method).1
  have hlk : meth.locks = false := by first | exact BodyLoose.notSynchronized Bd | exact Body.notSynchronized Bd
  have X0 : Stand p l e ({ frames := 5, cells := 10, slots := 164, locals := 66 } : Room) s m #[(.ref r0)] below meth c s₁ [] 0 0 := Stand.of_body Bd
  have e0 : s₁.heap = h0 := by rw [← hh, Bd.state]; rfl
  have N0 := Fr.nil n0
  have hS0 : s.Since s.vm s.heap.size := (State.WarmedH.refl s).since _
  have hk0 : s.heap.size ≤ h0.size := by rw [hh]; exact Nat.le_refl _
  have X0 : Stand p l e ({ frames := 5, cells := 10, slots := 164, locals := 66 } : Room) (s.setVm s.vm) m #[(.ref r0)] below meth c s₁ [] 0 0 := X0
  have hZ : Z.Warmed39 (s.setVm s.vm).vm := hZ
  have hown : (s.setVm s.vm).vm.findClass "com/example/rackline/rackline/core/Names" = some m.cls := hown
  have CR0 : CHr Z consts_1 s.vm h0 s.vm h0 := CHr.refl C0
  have k0 : own_R p e below (s₁.setTop (entryFrame m #[(.ref r0)] 3)) (s₁.setTop (mkF m 0 #[vR r0, .unset, .unset] [])) := fun t k => castTop (ef_5_G3 m r0) k
  obtain ⟨A0, hA0⟩ : ∃ z, z = s₁.setTop (entryFrame m #[(.ref r0)] 3) := ⟨_, rfl⟩
  rw [← hA0] at k0
  have kz : ∀ t, Steps p.tables e below A0 t → Steps p.tables e below (s₁.setTop (entryFrame m #[(.ref r0)] 3)) t := fun t q => hA0 ▸ q
  have ks1 : own_R p e below (A0) (s₁.setTop (mkF m 5 #[vR r0, .unset, .unset] [(.ref r0)])) := fun t k => k0 t (by
    refine XS.aloadN X0.here hx rfl (hb hby d5_0) rfl rfl ?_
    refine XS.ifnullNo X0.here hx rfl (hb hby d5_1) rfl ?_
    refine XS.aloadN X0.here hx rfl (hb hby d5_4) rfl rfl ?_
    exact k)
  obtain ⟨cq2, kq2, q2a, q2b, q2c⟩ := isOf hZ e0 E0
  obtain ⟨_, _, ⟨T2, L2, k2, n2⟩, -, X2, ⟨Lc2, hQ2, lq2, yq2, zq2⟩, st2⟩ := X0.virtualBack hx (y := (⟨"java/lang/String", "isEmpty", "()Z"⟩ : MethodName)) (z := (⟨"java/lang/String", "isEmpty", "()Z"⟩ : MethodName)) hown (mvT hZ (own_w hw 31 rfl)) (mvT hZ (own_w hw 32 rfl)) (notFace_of_selects (args := #[]) (mvT hZ (own_w hw 34 rfl))) (mvT hZ (own_w hw 34 rfl)) (mvT hZ (own_w hw 33 rfl)) (by decide) (backOf (W := 0) (rm6_n l Z a0 hw [] r0 t0 _ kd0 z0 _ h0 n0 Z0 E0 Cd0 F0 V0 (own_sh_ne3 hs)) hZ (own_w hw 35 rfl) (own_w hw 7 rfl) (by decide) (by decide)) q2a q2c (g := (mkF m 5 #[vR r0, .unset, .unset] [(.ref r0)])) rfl (by rw [hml]; rfl) (Steps.refl _) (argsL := []) (rest := []) (lenOf pd_5 rfl) rfl (by show 2 * 0 + _ ≤ _; exact Nat.le_of_eq rfl) (hb hby d5_5) (fun _ _ => ⟨rfl, e0, (by decide : 0 + 0 ≤ _), (by decide : 0 + 0 ≤ _)⟩)
  dsimp only [Pt.U, Pt.locs, Pt.cells, Pt.slots] at X2 lq2 yq2 zq2 st2 hQ2
  subst lq2 yq2 zq2
  obtain ⟨rfl, Nq2, eq2⟩ := hQ2
  have N2 := Fr.app N0 Nq2
  have ks3 := own_ct ks1 st2
  have ks4 : own_R p e below (A0) (T2.setTop (mkF m 14 #[vR r0, .unset, .unset] [(.ref r0)])) := fun t k => ks3 t (by
    refine XS.ifYes X2.here hx rfl (pc0 := 8) (pc' := 13) rfl (hb hby d5_8) rfl ((if0 _ _).trans (teq (by decide)).1) (by decide) (by decide) ?_
    refine XS.aloadN X2.here hx rfl (hb hby d5_13) rfl rfl ?_
    exact k)
  obtain ⟨a5, T5, h5, kk5, b5, c5, X5, e5, E5, hS5, hk5, hZ, hown, Ea5, Fc5, Fv5, V5, la5, lb5, ch5, -, hne5, st5⟩ := ldcCH X2 hx hZ hown (own_w hw 70 rfl) (own_strs hw) eq2 hS0 hk0 (own_EW hw) (List.mem_of_getElem? (i := 0) rfl) CR0.1 (vs := [.int (46 : Int32)]) (z := (1 : Int32)) ⟨by decide, rfl⟩ (by decide) rfl (g := (mkF m 14 #[vR r0, .unset, .unset] [(.ref r0)])) rfl (hb hby d5_14) (n := 4) (by decide) (by decide) (by decide) (by decide)
  have KH5 : Keep h0 h5 [] := (Keep.refl h0 []).ext E5
  have Zn5 : n0 ≤ h5.size := Nat.le_trans Z0 E5.1
  have CR5 := CR0.trans (ch5)
  have ks6 := own_c ks4 st5
  have f8 := E0.keep KH5
  have f9 := Cd0.keep KH5 nin0
  have f10 := F0.keep KH5 nin0
  have f11 := V0.keep KH5 nin0
  have f12 := own_sta_keep S9 KH5
  obtain ⟨cq7, kq7, q7a, q7b, q7c⟩ := isOf hZ e5 f8
  obtain ⟨_, _, ⟨T7, L7, k7, n7⟩, -, X7, ⟨Lc7, hQ7, lq7, yq7, zq7⟩, st7⟩ := X5.virtualBack hx (y := (⟨"java/lang/String", "equals", "(Ljava/lang/Object;)Z"⟩ : MethodName)) (z := (⟨"java/lang/String", "equals", "(Ljava/lang/Object;)Z"⟩ : MethodName)) hown (mvT hZ (own_w hw 71 rfl)) (mvT hZ (own_w hw 72 rfl)) (notFace_of_selects (args := #[]) (mvT hZ (own_w hw 74 rfl))) (mvT hZ (own_w hw 74 rfl)) (mvT hZ (own_w hw 73 rfl)) (by decide) (backOf (W := 0) (rm16_D l Z a0 hw [] r0 a5 y9 t0 b5 _ _ z0 (1 : Int32) _ _ kd0 h5 n0 Zn5 f12 P9 f8 f9 f10 f11 Ea5 Fc5 Fv5 V5 (own_sh_d3_1 hs)) hZ (own_w hw 75 rfl) (own_w hw 7 rfl) (by decide) (by decide)) q7a q7c (g := (mkF m 16 #[vR r0, .unset, .unset] [(.ref a5), (.ref r0)])) rfl (by rw [hml]; rfl) (Steps.refl _) (argsL := [(.ref a5)]) (rest := []) (lenOf pd_14 rfl) rfl (by show 2 * 0 + _ ≤ _; exact Nat.le_of_eq rfl) (hb hby d5_16) (fun _ _ => ⟨rfl, e5, (by decide : 2 + 0 ≤ _), (by decide : 8 + 0 ≤ _)⟩)
  dsimp only [Pt.U, Pt.locs, Pt.cells, Pt.slots] at X7 lq7 yq7 zq7 st7 hQ7
  subst lq7 yq7 zq7
  obtain ⟨rfl, Nq7, eq7⟩ := hQ7
  have N7 := Fr.app N2 Nq7
  have ks13 := own_ct ks6 st7
  have ks14 : own_R p e below (A0) (T7.setTop (mkF m 23 #[vR r0, .unset, .unset] [(.ref r0)])) := fun t k => ks13 t (by
    refine XS.ifNo X7.here hx rfl (hb hby d5_19) rfl ((if0 _ _).trans (teq (by decide)).2) ?_
    refine XS.aloadN X7.here hx rfl (hb hby d5_22) rfl rfl ?_
    exact k)
  obtain ⟨a15, T15, h15, kk15, b15, c15, X15, e15, E15, hS15, hk15, hZ, hown, Ea15, Fc15, Fv15, V15, la15, lb15, ch15, -, hne15, st15⟩ := ldcCH X7 hx hZ hown (own_w hw 77 rfl) (own_strs hw) eq7 hS5 hk5 (own_EW hw) (List.mem_of_getElem? (i := 1) rfl) CR5.1 (vs := [.int (46 : Int32), .int (46 : Int32)]) (z := (2 : Int32)) ⟨by decide, rfl⟩ (by decide) rfl (g := (mkF m 23 #[vR r0, .unset, .unset] [(.ref r0)])) rfl (hb hby d5_23) (n := 8) (by decide) (by decide) (by decide) (by decide)
  have KH15 : Keep h0 h15 [] := KH5.ext E15
  have Zn15 : n0 ≤ h15.size := Nat.le_trans Zn5 E15.1
  have CR15 := CR5.trans (ch15)
  have ks16 := own_c ks14 st15
  have f18 := E0.keep KH15
  have f19 := Cd0.keep KH15 nin0
  have f20 := F0.keep KH15 nin0
  have f21 := V0.keep KH15 nin0
  have f22 := own_sta_keep S9 KH15
  obtain ⟨cq17, kq17, q17a, q17b, q17c⟩ := isOf hZ e15 f18
  obtain ⟨_, _, ⟨T17, L17, k17, n17⟩, -, X17, ⟨Lc17, hQ17, lq17, yq17, zq17⟩, st17⟩ := X15.virtualBack hx (y := (⟨"java/lang/String", "equals", "(Ljava/lang/Object;)Z"⟩ : MethodName)) (z := (⟨"java/lang/String", "equals", "(Ljava/lang/Object;)Z"⟩ : MethodName)) hown (mvT hZ (own_w hw 71 rfl)) (mvT hZ (own_w hw 72 rfl)) (notFace_of_selects (args := #[]) (mvT hZ (own_w hw 74 rfl))) (mvT hZ (own_w hw 74 rfl)) (mvT hZ (own_w hw 73 rfl)) (by decide) (backOf (W := 0) (rm16_D l Z a0 hw [] r0 a15 y9 t0 b15 _ _ z0 (2 : Int32) _ _ kd0 h15 n0 Zn15 f22 P9 f18 f19 f20 f21 Ea15 Fc15 Fv15 V15 (own_sh_d3_2 hs)) hZ (own_w hw 75 rfl) (own_w hw 7 rfl) (by decide) (by decide)) q17a q17c (g := (mkF m 25 #[vR r0, .unset, .unset] [(.ref a15), (.ref r0)])) rfl (by rw [hml]; rfl) (Steps.refl _) (argsL := [(.ref a15)]) (rest := []) (lenOf pd_14 rfl) rfl (by show 2 * 0 + _ ≤ _; exact Nat.le_of_eq rfl) (hb hby d5_25) (fun _ _ => ⟨rfl, e15, (by decide : 4 + 0 ≤ _), (by decide : 20 + 0 ≤ _)⟩)
  dsimp only [Pt.U, Pt.locs, Pt.cells, Pt.slots] at X17 lq17 yq17 zq17 st17 hQ17
  subst lq17 yq17 zq17
  obtain ⟨rfl, Nq17, eq17⟩ := hQ17
  have N17 := Fr.app N7 Nq17
  have ks23 := own_ct ks16 st17
  have ks24 : own_R p e below (A0) (T17.setTop (mkF m 37 #[vR r0, vI 0, .unset] [(.ref r0), (.int 0)])) := fun t k => ks23 t (by
    refine XS.ifYes X17.here hx rfl (pc0 := 28) (pc' := 33) rfl (hb hby d5_28) rfl ((if0 _ _).trans (teq (by decide)).1) (by decide) (by decide) ?_
    refine XS.iconst X17.here hx rfl (hb hby d5_33) ?_
    refine XS.istoreN X17.here hx rfl (hb hby d5_34) rfl (l' := #[vR r0, vI 0, .unset]) rfl ?_
    show Steps p.tables e below (T17.setTop (mkF m 35 #[vR r0, vI 0, .unset] [])) _
    refine XS.iloadN X17.here hx rfl (hb hby d5_35) rfl ?_
    refine XS.aloadN X17.here hx rfl (hb hby d5_36) rfl rfl ?_
    exact k)
  obtain ⟨cq25, kq25, q25a, q25b, q25c⟩ := isOf hZ eq17 f18
  obtain ⟨_, _, ⟨T25, L25, k25, n25⟩, -, X25, ⟨Lc25, hQ25, lq25, yq25, zq25⟩, st25⟩ := X17.virtualBack hx (y := (⟨"java/lang/String", "length", "()I"⟩ : MethodName)) (z := (⟨"java/lang/String", "length", "()I"⟩ : MethodName)) hown (mvT hZ (own_w hw 78 rfl)) (mvT hZ (own_w hw 79 rfl)) (notFace_of_selects (args := #[]) (mvT hZ (own_w hw 81 rfl))) (mvT hZ (own_w hw 81 rfl)) (mvT hZ (own_w hw 80 rfl)) (by decide) (backOf (W := 1) (rm17 l Z a0 hw [] r0 y9 t0 _ kd0 z0 _ (3 : Int32) h15 n0 Zn15 f22 P9 f18 f19 f20 f21 (own_sh_k hs) (own_sh_len3 hs)) hZ (own_w hw 82 rfl) (own_w hw 7 rfl) (by decide) (by decide)) q25a q25c (g := (mkF m 37 #[vR r0, vI 0, .unset] [(.ref r0), (.int 0)])) rfl (by rw [hml]; rfl) (Steps.refl _) (argsL := []) (rest := [(.int 0)]) (lenOf pd_15 rfl) rfl (by show 2 * 0 + _ ≤ _; exact Nat.le_of_eq rfl) (hb hby d5_37) (fun _ _ => ⟨rfl, eq17, (by decide : 4 + 0 ≤ _), (by decide : 20 + 0 ≤ _)⟩)
  dsimp only [Pt.U, Pt.locs, Pt.cells, Pt.slots] at X25 lq25 yq25 zq25 st25 hQ25
  subst lq25 yq25 zq25
  obtain ⟨rfl, Nq25, eq25⟩ := hQ25
  have N25 := Fr.app N17 Nq25
  have ks26 := own_ct ks24 st25
  have ks27 : own_R p e below (A0) (T25.setTop (mkF m 45 #[vR r0, vI 0, .unset] [(.int 0), (.ref r0)])) := fun t k => ks26 t (by
    refine XS.icmpNo X25.here hx rfl (hb hby d5_40) rfl (tlt (by decide)).2.1 ?_
    refine XS.aloadN X25.here hx rfl (hb hby d5_43) rfl rfl ?_
    refine XS.iloadN X25.here hx rfl (hb hby d5_44) rfl ?_
    exact k)
  have f29 := own_sta_keep S8 KH15
  have f30 := own_sta_keep S7a KH15
  have f31 := own_sta_keep S7b KH15
  have f32 := own_sta_keep S7c KH15
  obtain ⟨cq28, kq28, q28a, q28b, q28c⟩ := isOf hZ eq25 f18
  obtain ⟨_, _, ⟨T28, L28, k28, n28⟩, -, X28, ⟨Lc28, hQ28, lq28, yq28, zq28⟩, st28⟩ := X25.virtualBack hx (y := (⟨"java/lang/String", "charAt", "(I)C"⟩ : MethodName)) (z := (⟨"java/lang/String", "charAt", "(I)C"⟩ : MethodName)) hown (mvT hZ (own_w hw 88 rfl)) (mvT hZ (own_w hw 89 rfl)) (notFace_of_selects (args := #[]) (mvT hZ (own_w hw 91 rfl))) (mvT hZ (own_w hw 91 rfl)) (mvT hZ (own_w hw 90 rfl)) (by decide) (backOf (W := 0) (rm19 l Z a0 hw [] r0 (0 : Int32) y9 u8 t0 _ kd0 z0 _ y0 (3 : Int32) h15 n0 Zn15 f22 P9 f29 I8 f30 f31 f32 f18 f19 f20 f21 (own_sh_at3_0 hs RY0) RY0) hZ (own_w hw 92 rfl) (own_w hw 7 rfl) (by decide) (by decide)) q28a q28c (g := (mkF m 45 #[vR r0, vI 0, .unset] [(.int 0), (.ref r0)])) rfl (by rw [hml]; rfl) (Steps.refl _) (argsL := [(.int 0)]) (rest := []) (lenOf pd_0 rfl) rfl (by show 2 * 0 + _ ≤ _; exact Nat.le_of_eq rfl) (hb hby d5_45) (fun _ _ => ⟨rfl, eq25, (by decide : 4 + 0 ≤ _), (by decide : 20 + 0 ≤ _)⟩)
  dsimp only [Pt.U, Pt.locs, Pt.cells, Pt.slots] at X28 lq28 yq28 zq28 st28 hQ28
  subst lq28 yq28 zq28
  obtain ⟨rfl, Nq28, eq28⟩ := hQ28
  have N28 := Fr.app N25 Nq28
  have ks33 := own_ct ks27 st28
  have ks34 : own_R p e below (A0) (T28.setTop (mkF m 52 #[vR r0, vI 0, vI y0] [(.int 32), (.int y0)])) := fun t k => ks33 t (by
    refine XS.istoreN X28.here hx rfl (hb hby d5_48) rfl (l' := #[vR r0, vI 0, vI y0]) rfl ?_
    refine XS.iloadN X28.here hx rfl (hb hby d5_49) rfl ?_
    refine XS.bipush X28.here hx rfl (hb hby d5_50) ?_
    exact k)
  by_cases hc35 : (32 : Int32) < y0
  · skip
    have ks36 : own_R p e below (A0) (T28.setTop (mkF m 58 #[vR r0, vI 0, vI y0] [(.int 126), (.int y0)])) := fun t k => ks34 t (by
      refine XS.icmpNo X28.here hx rfl (hb hby d5_52) rfl (tlt hc35).2.2.2 ?_
      refine XS.iloadN X28.here hx rfl (hb hby d5_55) rfl ?_
      refine XS.bipush X28.here hx rfl (hb hby d5_56) ?_
      exact k)
    by_cases hc37 : (126 : Int32) < y0
    · skip
      have ks38 : own_R p e below (A0) (T28.setTop (mkF m 71 #[vR r0, vI 0, vI y0] [(.int 0)])) := fun t k => ks36 t (by
        refine XS.icmpYes X28.here hx rfl (pc0 := 58) (pc' := 70) rfl (hb hby d5_58) rfl (tlt hc37).2.2.1 (by decide) (by decide) ?_
        refine XS.iconst X28.here hx rfl (hb hby d5_70) ?_
        exact k)
      obtain ⟨fs, hr, hrun, hended, hEnd⟩ := X28.leaveW hS15 (by rw [eq28]; exact hk15) (v := some (.int 0)) (fun h => by rw [Bd.returns] at h; cases h) hlk
      have CRf : CHr Z consts_1 s.vm s.heap T28.vm T28.heap := by rw [hh, eq28]; exact CR15.trans (CHv.at X28 hZ (own_EW hw) CR15.1)
      refine ⟨_, _, kz _ (ks38 _ ?_), hrun, hended, _, _, rfl, ?_, CRf, hEnd.1, hEnd.2.1, hEnd.2.2.1, hEnd.2.2.2.mono (by decide) (by decide)⟩
      · exact retN X28 hx (t := .boolean) Bd.returns (by simp) (hb hby d5_71) hr
      · show Q5_G3 Z r0 y9 u8 t0 kt0 kd0 z0 vs0 y0 y1 y2 h0 n0 _ T28.heap _
        rw [eq28]
        refine ⟨?_, N28, KH15⟩
        rw [own_val_G3, if_pos hc35, if_pos hc37]
    · skip
      have ks39 : own_R p e below (A0) (T28.setTop (mkF m 61 #[vR r0, vI 0, vI y0] [])) := fun t k => ks36 t (by
        refine XS.icmpNo X28.here hx rfl (hb hby d5_58) rfl (flt hc37).2.2.1 ?_
        exact k)
      have f40 := (Ea5.ext E15)
      have f41 := (V5.ext E15)
      obtain ⟨a42, T42, h42, kk42, b42, c42, X42, e42, E42, hS42, hk42, hZ, hown, Ea42, Fc42, Fv42, V42, la42, lb42, ch42, -, hne42, st42⟩ := ldcCH X28 hx hZ hown (own_w hw 135 rfl) (own_strs hw) eq28 hS15 hk15 (own_EW hw) (List.mem_of_getElem? (i := 2) rfl) CR15.1 (vs := [.int (34 : Int32), .int (35 : Int32), .int (42 : Int32), .int (44 : Int32), .int (47 : Int32), .int (58 : Int32), .int (63 : Int32), .int (91 : Int32), .int (93 : Int32), .int (123 : Int32), .int (125 : Int32)]) (z := (11 : Int32)) ⟨by decide, rfl⟩ (by decide) rfl (g := (mkF m 61 #[vR r0, vI 0, vI y0] [])) rfl (hb hby d5_61) (n := 44) (by decide) (by decide) (by decide) (by decide)
      have KH42 : Keep h0 h42 [] := KH15.ext E42
      have Zn42 : n0 ≤ h42.size := Nat.le_trans Zn15 E42.1
      have CR42 := CR15.trans (ch42)
      have ks43 := own_c ks39 st42
      have ks44 : own_R p e below (A0) (T42.setTop (mkF m 64 #[vR r0, vI 0, vI y0] [(.int y0), (.ref a42)])) := fun t k => ks43 t (by
        refine XS.iloadN X42.here hx rfl (hb hby d5_63) rfl ?_
        exact k)
      have f46 := own_sta_keep S9 KH42
      obtain ⟨cq45, kq45, q45a, q45b, q45c⟩ := isOf hZ e42 Ea42
      obtain ⟨_, _, ⟨T45, L45, k45, n45⟩, -, X45, ⟨Lc45, hQ45, lq45, yq45, zq45⟩, st45⟩ := X42.virtualBack hx (y := (⟨"java/lang/String", "indexOf", "(I)I"⟩ : MethodName)) (z := (⟨"java/lang/String", "indexOf", "(I)I"⟩ : MethodName)) hown (mvT hZ (own_w hw 136 rfl)) (mvT hZ (own_w hw 137 rfl)) (notFace_of_selects (args := #[]) (mvT hZ (own_w hw 139 rfl))) (mvT hZ (own_w hw 139 rfl)) (mvT hZ (own_w hw 138 rfl)) (by decide) (backOf (W := 0) (rm32 l Z a0 hw [] a42 y0 y9 b42 _ h42 n0 Zn42 f46 P9 Ea42 Fc42 Fv42 V42) hZ (own_w hw 140 rfl) (own_w hw 7 rfl) (by decide) (by decide)) q45a q45c (g := (mkF m 64 #[vR r0, vI 0, vI y0] [(.int y0), (.ref a42)])) rfl (by rw [hml]; rfl) (Steps.refl _) (argsL := [(.int y0)]) (rest := []) (lenOf pd_9 rfl) rfl (by show 2 * 0 + _ ≤ _; exact Nat.le_of_eq rfl) (hb hby d5_64) (fun _ _ => ⟨rfl, e42, (by decide : 6 + 0 ≤ _), (by decide : 68 + 0 ≤ _)⟩)
      dsimp only [Pt.U, Pt.locs, Pt.cells, Pt.slots] at X45 lq45 yq45 zq45 st45 hQ45
      subst lq45 yq45 zq45
      obtain ⟨rfl, Nq45, eq45⟩ := hQ45
      have N45 := Fr.app N28 Nq45
      have ks47 := own_ct ks44 st45
      by_cases hc48 : (own_ix y0) < (0 : Int32)
      · skip
        have ks49 : own_R p e below (A0) (T45.setTop (mkF m 37 #[vR r0, vI 1, vI y0] [(.ref r0), (.int 1)])) := fun t k => ks47 t (by
          refine XS.ifYes X45.here hx rfl (pc0 := 67) (pc' := 72) rfl (hb hby d5_67) rfl ((if0 _ _).trans (tlt hc48).1) (by decide) (by decide) ?_
          refine XS.iinc X45.here hx rfl (hb hby d5_72) rfl (l' := #[vR r0, vI 1, vI y0]) rfl ?_
          refine XS.goto X45.here hx rfl (pc0 := 75) (pc' := 35) rfl (hb hby d5_75) (by decide) (by decide) ?_
          show Steps p.tables e below (T45.setTop (mkF m 35 #[vR r0, vI 1, vI y0] [])) _
          refine XS.iloadN X45.here hx rfl (hb hby d5_35) rfl ?_
          refine XS.aloadN X45.here hx rfl (hb hby d5_36) rfl rfl ?_
          exact k)
        have f51 := E0.keep KH42
        have f52 := Cd0.keep KH42 nin0
        have f53 := F0.keep KH42 nin0
        have f54 := V0.keep KH42 nin0
        obtain ⟨cq50, kq50, q50a, q50b, q50c⟩ := isOf hZ eq45 f51
        obtain ⟨_, _, ⟨T50, L50, k50, n50⟩, -, X50, ⟨Lc50, hQ50, lq50, yq50, zq50⟩, st50⟩ := X45.virtualBack hx (y := (⟨"java/lang/String", "length", "()I"⟩ : MethodName)) (z := (⟨"java/lang/String", "length", "()I"⟩ : MethodName)) hown (mvT hZ (own_w hw 78 rfl)) (mvT hZ (own_w hw 79 rfl)) (notFace_of_selects (args := #[]) (mvT hZ (own_w hw 81 rfl))) (mvT hZ (own_w hw 81 rfl)) (mvT hZ (own_w hw 80 rfl)) (by decide) (backOf (W := 1) (rm17 l Z a0 hw [] r0 y9 t0 _ kd0 z0 _ (3 : Int32) h42 n0 Zn42 f46 P9 f51 f52 f53 f54 (own_sh_k hs) (own_sh_len3 hs)) hZ (own_w hw 82 rfl) (own_w hw 7 rfl) (by decide) (by decide)) q50a q50c (g := (mkF m 37 #[vR r0, vI 1, vI y0] [(.ref r0), (.int 1)])) rfl (by rw [hml]; rfl) (Steps.refl _) (argsL := []) (rest := [(.int 1)]) (lenOf pd_15 rfl) rfl (by show 2 * 0 + _ ≤ _; exact Nat.le_of_eq rfl) (hb hby d5_37) (fun _ _ => ⟨rfl, eq45, (by decide : 6 + 0 ≤ _), (by decide : 68 + 0 ≤ _)⟩)
        dsimp only [Pt.U, Pt.locs, Pt.cells, Pt.slots] at X50 lq50 yq50 zq50 st50 hQ50
        subst lq50 yq50 zq50
        obtain ⟨rfl, Nq50, eq50⟩ := hQ50
        have N50 := Fr.app N45 Nq50
        have ks55 := own_ct ks49 st50
        have ks56 : own_R p e below (A0) (T50.setTop (mkF m 45 #[vR r0, vI 1, vI y0] [(.int 1), (.ref r0)])) := fun t k => ks55 t (by
          refine XS.icmpNo X50.here hx rfl (hb hby d5_40) rfl (tlt (by decide)).2.1 ?_
          refine XS.aloadN X50.here hx rfl (hb hby d5_43) rfl rfl ?_
          refine XS.iloadN X50.here hx rfl (hb hby d5_44) rfl ?_
          exact k)
        have f58 := own_sta_keep S8 KH42
        have f59 := own_sta_keep S7a KH42
        have f60 := own_sta_keep S7b KH42
        have f61 := own_sta_keep S7c KH42
        obtain ⟨cq57, kq57, q57a, q57b, q57c⟩ := isOf hZ eq50 f51
        obtain ⟨_, _, ⟨T57, L57, k57, n57⟩, -, X57, ⟨Lc57, hQ57, lq57, yq57, zq57⟩, st57⟩ := X50.virtualBack hx (y := (⟨"java/lang/String", "charAt", "(I)C"⟩ : MethodName)) (z := (⟨"java/lang/String", "charAt", "(I)C"⟩ : MethodName)) hown (mvT hZ (own_w hw 88 rfl)) (mvT hZ (own_w hw 89 rfl)) (notFace_of_selects (args := #[]) (mvT hZ (own_w hw 91 rfl))) (mvT hZ (own_w hw 91 rfl)) (mvT hZ (own_w hw 90 rfl)) (by decide) (backOf (W := 0) (rm19 l Z a0 hw [] r0 (1 : Int32) y9 u8 t0 _ kd0 z0 _ y1 (3 : Int32) h42 n0 Zn42 f46 P9 f58 I8 f59 f60 f61 f51 f52 f53 f54 (own_sh_at3_1 hs RY1) RY1) hZ (own_w hw 92 rfl) (own_w hw 7 rfl) (by decide) (by decide)) q57a q57c (g := (mkF m 45 #[vR r0, vI 1, vI y0] [(.int 1), (.ref r0)])) rfl (by rw [hml]; rfl) (Steps.refl _) (argsL := [(.int 1)]) (rest := []) (lenOf pd_0 rfl) rfl (by show 2 * 0 + _ ≤ _; exact Nat.le_of_eq rfl) (hb hby d5_45) (fun _ _ => ⟨rfl, eq50, (by decide : 6 + 0 ≤ _), (by decide : 68 + 0 ≤ _)⟩)
        dsimp only [Pt.U, Pt.locs, Pt.cells, Pt.slots] at X57 lq57 yq57 zq57 st57 hQ57
        subst lq57 yq57 zq57
        obtain ⟨rfl, Nq57, eq57⟩ := hQ57
        have N57 := Fr.app N50 Nq57
        have ks62 := own_ct ks56 st57
        have ks63 : own_R p e below (A0) (T57.setTop (mkF m 52 #[vR r0, vI 1, vI y1] [(.int 32), (.int y1)])) := fun t k => ks62 t (by
          refine XS.istoreN X57.here hx rfl (hb hby d5_48) rfl (l' := #[vR r0, vI 1, vI y1]) rfl ?_
          refine XS.iloadN X57.here hx rfl (hb hby d5_49) rfl ?_
          refine XS.bipush X57.here hx rfl (hb hby d5_50) ?_
          exact k)
        by_cases hc64 : (32 : Int32) < y1
        · skip
          have ks65 : own_R p e below (A0) (T57.setTop (mkF m 58 #[vR r0, vI 1, vI y1] [(.int 126), (.int y1)])) := fun t k => ks63 t (by
            refine XS.icmpNo X57.here hx rfl (hb hby d5_52) rfl (tlt hc64).2.2.2 ?_
            refine XS.iloadN X57.here hx rfl (hb hby d5_55) rfl ?_
            refine XS.bipush X57.here hx rfl (hb hby d5_56) ?_
            exact k)
          by_cases hc66 : (126 : Int32) < y1
          · skip
            have ks67 : own_R p e below (A0) (T57.setTop (mkF m 71 #[vR r0, vI 1, vI y1] [(.int 0)])) := fun t k => ks65 t (by
              refine XS.icmpYes X57.here hx rfl (pc0 := 58) (pc' := 70) rfl (hb hby d5_58) rfl (tlt hc66).2.2.1 (by decide) (by decide) ?_
              refine XS.iconst X57.here hx rfl (hb hby d5_70) ?_
              exact k)
            obtain ⟨fs, hr, hrun, hended, hEnd⟩ := X57.leaveW hS42 (by rw [eq57]; exact hk42) (v := some (.int 0)) (fun h => by rw [Bd.returns] at h; cases h) hlk
            have CRf : CHr Z consts_1 s.vm s.heap T57.vm T57.heap := by rw [hh, eq57]; exact CR42.trans (CHv.at X57 hZ (own_EW hw) CR42.1)
            refine ⟨_, _, kz _ (ks67 _ ?_), hrun, hended, _, _, rfl, ?_, CRf, hEnd.1, hEnd.2.1, hEnd.2.2.1, hEnd.2.2.2.mono (by decide) (by decide)⟩
            · exact retN X57 hx (t := .boolean) Bd.returns (by simp) (hb hby d5_71) hr
            · show Q5_G3 Z r0 y9 u8 t0 kt0 kd0 z0 vs0 y0 y1 y2 h0 n0 _ T57.heap _
              rw [eq57]
              refine ⟨?_, N57, KH42⟩
              rw [own_val_G3, if_pos hc35, if_neg hc37, if_pos hc48, if_pos hc64, if_pos hc66]
          · skip
            have ks68 : own_R p e below (A0) (T57.setTop (mkF m 61 #[vR r0, vI 1, vI y1] [])) := fun t k => ks65 t (by
              refine XS.icmpNo X57.here hx rfl (hb hby d5_58) rfl (flt hc66).2.2.1 ?_
              exact k)
            have f69 := (f40.ext E42)
            have f70 := (f41.ext E42)
            have f71 := (Ea15.ext E42)
            have f72 := (V15.ext E42)
            obtain ⟨a73, T73, h73, kk73, b73, c73, X73, e73, E73, hS73, hk73, hZ, hown, Ea73, Fc73, Fv73, V73, la73, lb73, ch73, -, hne73, st73⟩ := ldcCH X57 hx hZ hown (own_w hw 135 rfl) (own_strs hw) eq57 hS42 hk42 (own_EW hw) (List.mem_of_getElem? (i := 2) rfl) CR42.1 (vs := [.int (34 : Int32), .int (35 : Int32), .int (42 : Int32), .int (44 : Int32), .int (47 : Int32), .int (58 : Int32), .int (63 : Int32), .int (91 : Int32), .int (93 : Int32), .int (123 : Int32), .int (125 : Int32)]) (z := (11 : Int32)) ⟨by decide, rfl⟩ (by decide) rfl (g := (mkF m 61 #[vR r0, vI 1, vI y1] [])) rfl (hb hby d5_61) (n := 44) (by decide) (by decide) (by decide) (by decide)
            have KH73 : Keep h0 h73 [] := KH42.ext E73
            have Zn73 : n0 ≤ h73.size := Nat.le_trans Zn42 E73.1
            have CR73 := CR42.trans (ch73)
            have ks74 := own_c ks68 st73
            have ks75 : own_R p e below (A0) (T73.setTop (mkF m 64 #[vR r0, vI 1, vI y1] [(.int y1), (.ref a73)])) := fun t k => ks74 t (by
              refine XS.iloadN X73.here hx rfl (hb hby d5_63) rfl ?_
              exact k)
            have f77 := own_sta_keep S9 KH73
            obtain ⟨cq76, kq76, q76a, q76b, q76c⟩ := isOf hZ e73 Ea73
            obtain ⟨_, _, ⟨T76, L76, k76, n76⟩, -, X76, ⟨Lc76, hQ76, lq76, yq76, zq76⟩, st76⟩ := X73.virtualBack hx (y := (⟨"java/lang/String", "indexOf", "(I)I"⟩ : MethodName)) (z := (⟨"java/lang/String", "indexOf", "(I)I"⟩ : MethodName)) hown (mvT hZ (own_w hw 136 rfl)) (mvT hZ (own_w hw 137 rfl)) (notFace_of_selects (args := #[]) (mvT hZ (own_w hw 139 rfl))) (mvT hZ (own_w hw 139 rfl)) (mvT hZ (own_w hw 138 rfl)) (by decide) (backOf (W := 0) (rm32 l Z a0 hw [] a73 y1 y9 b73 _ h73 n0 Zn73 f77 P9 Ea73 Fc73 Fv73 V73) hZ (own_w hw 140 rfl) (own_w hw 7 rfl) (by decide) (by decide)) q76a q76c (g := (mkF m 64 #[vR r0, vI 1, vI y1] [(.int y1), (.ref a73)])) rfl (by rw [hml]; rfl) (Steps.refl _) (argsL := [(.int y1)]) (rest := []) (lenOf pd_9 rfl) rfl (by show 2 * 0 + _ ≤ _; exact Nat.le_of_eq rfl) (hb hby d5_64) (fun _ _ => ⟨rfl, e73, (by decide : 8 + 0 ≤ _), (by decide : 116 + 0 ≤ _)⟩)
            dsimp only [Pt.U, Pt.locs, Pt.cells, Pt.slots] at X76 lq76 yq76 zq76 st76 hQ76
            subst lq76 yq76 zq76
            obtain ⟨rfl, Nq76, eq76⟩ := hQ76
            have N76 := Fr.app N57 Nq76
            have ks78 := own_ct ks75 st76
            by_cases hc79 : (own_ix y1) < (0 : Int32)
            · skip
              have ks80 : own_R p e below (A0) (T76.setTop (mkF m 37 #[vR r0, vI 2, vI y1] [(.ref r0), (.int 2)])) := fun t k => ks78 t (by
                refine XS.ifYes X76.here hx rfl (pc0 := 67) (pc' := 72) rfl (hb hby d5_67) rfl ((if0 _ _).trans (tlt hc79).1) (by decide) (by decide) ?_
                refine XS.iinc X76.here hx rfl (hb hby d5_72) rfl (l' := #[vR r0, vI 2, vI y1]) rfl ?_
                refine XS.goto X76.here hx rfl (pc0 := 75) (pc' := 35) rfl (hb hby d5_75) (by decide) (by decide) ?_
                show Steps p.tables e below (T76.setTop (mkF m 35 #[vR r0, vI 2, vI y1] [])) _
                refine XS.iloadN X76.here hx rfl (hb hby d5_35) rfl ?_
                refine XS.aloadN X76.here hx rfl (hb hby d5_36) rfl rfl ?_
                exact k)
              have f82 := E0.keep KH73
              have f83 := Cd0.keep KH73 nin0
              have f84 := F0.keep KH73 nin0
              have f85 := V0.keep KH73 nin0
              obtain ⟨cq81, kq81, q81a, q81b, q81c⟩ := isOf hZ eq76 f82
              obtain ⟨_, _, ⟨T81, L81, k81, n81⟩, -, X81, ⟨Lc81, hQ81, lq81, yq81, zq81⟩, st81⟩ := X76.virtualBack hx (y := (⟨"java/lang/String", "length", "()I"⟩ : MethodName)) (z := (⟨"java/lang/String", "length", "()I"⟩ : MethodName)) hown (mvT hZ (own_w hw 78 rfl)) (mvT hZ (own_w hw 79 rfl)) (notFace_of_selects (args := #[]) (mvT hZ (own_w hw 81 rfl))) (mvT hZ (own_w hw 81 rfl)) (mvT hZ (own_w hw 80 rfl)) (by decide) (backOf (W := 1) (rm17 l Z a0 hw [] r0 y9 t0 _ kd0 z0 _ (3 : Int32) h73 n0 Zn73 f77 P9 f82 f83 f84 f85 (own_sh_k hs) (own_sh_len3 hs)) hZ (own_w hw 82 rfl) (own_w hw 7 rfl) (by decide) (by decide)) q81a q81c (g := (mkF m 37 #[vR r0, vI 2, vI y1] [(.ref r0), (.int 2)])) rfl (by rw [hml]; rfl) (Steps.refl _) (argsL := []) (rest := [(.int 2)]) (lenOf pd_15 rfl) rfl (by show 2 * 0 + _ ≤ _; exact Nat.le_of_eq rfl) (hb hby d5_37) (fun _ _ => ⟨rfl, eq76, (by decide : 8 + 0 ≤ _), (by decide : 116 + 0 ≤ _)⟩)
              dsimp only [Pt.U, Pt.locs, Pt.cells, Pt.slots] at X81 lq81 yq81 zq81 st81 hQ81
              subst lq81 yq81 zq81
              obtain ⟨rfl, Nq81, eq81⟩ := hQ81
              have N81 := Fr.app N76 Nq81
              have ks86 := own_ct ks80 st81
              have ks87 : own_R p e below (A0) (T81.setTop (mkF m 45 #[vR r0, vI 2, vI y1] [(.int 2), (.ref r0)])) := fun t k => ks86 t (by
                refine XS.icmpNo X81.here hx rfl (hb hby d5_40) rfl (tlt (by decide)).2.1 ?_
                refine XS.aloadN X81.here hx rfl (hb hby d5_43) rfl rfl ?_
                refine XS.iloadN X81.here hx rfl (hb hby d5_44) rfl ?_
                exact k)
              have f89 := own_sta_keep S8 KH73
              have f90 := own_sta_keep S7a KH73
              have f91 := own_sta_keep S7b KH73
              have f92 := own_sta_keep S7c KH73
              obtain ⟨cq88, kq88, q88a, q88b, q88c⟩ := isOf hZ eq81 f82
              obtain ⟨_, _, ⟨T88, L88, k88, n88⟩, -, X88, ⟨Lc88, hQ88, lq88, yq88, zq88⟩, st88⟩ := X81.virtualBack hx (y := (⟨"java/lang/String", "charAt", "(I)C"⟩ : MethodName)) (z := (⟨"java/lang/String", "charAt", "(I)C"⟩ : MethodName)) hown (mvT hZ (own_w hw 88 rfl)) (mvT hZ (own_w hw 89 rfl)) (notFace_of_selects (args := #[]) (mvT hZ (own_w hw 91 rfl))) (mvT hZ (own_w hw 91 rfl)) (mvT hZ (own_w hw 90 rfl)) (by decide) (backOf (W := 0) (rm19 l Z a0 hw [] r0 (2 : Int32) y9 u8 t0 _ kd0 z0 _ y2 (3 : Int32) h73 n0 Zn73 f77 P9 f89 I8 f90 f91 f92 f82 f83 f84 f85 (own_sh_at3_2 hs RY2) RY2) hZ (own_w hw 92 rfl) (own_w hw 7 rfl) (by decide) (by decide)) q88a q88c (g := (mkF m 45 #[vR r0, vI 2, vI y1] [(.int 2), (.ref r0)])) rfl (by rw [hml]; rfl) (Steps.refl _) (argsL := [(.int 2)]) (rest := []) (lenOf pd_0 rfl) rfl (by show 2 * 0 + _ ≤ _; exact Nat.le_of_eq rfl) (hb hby d5_45) (fun _ _ => ⟨rfl, eq81, (by decide : 8 + 0 ≤ _), (by decide : 116 + 0 ≤ _)⟩)
              dsimp only [Pt.U, Pt.locs, Pt.cells, Pt.slots] at X88 lq88 yq88 zq88 st88 hQ88
              subst lq88 yq88 zq88
              obtain ⟨rfl, Nq88, eq88⟩ := hQ88
              have N88 := Fr.app N81 Nq88
              have ks93 := own_ct ks87 st88
              have ks94 : own_R p e below (A0) (T88.setTop (mkF m 52 #[vR r0, vI 2, vI y2] [(.int 32), (.int y2)])) := fun t k => ks93 t (by
                refine XS.istoreN X88.here hx rfl (hb hby d5_48) rfl (l' := #[vR r0, vI 2, vI y2]) rfl ?_
                refine XS.iloadN X88.here hx rfl (hb hby d5_49) rfl ?_
                refine XS.bipush X88.here hx rfl (hb hby d5_50) ?_
                exact k)
              by_cases hc95 : (32 : Int32) < y2
              · skip
                have ks96 : own_R p e below (A0) (T88.setTop (mkF m 58 #[vR r0, vI 2, vI y2] [(.int 126), (.int y2)])) := fun t k => ks94 t (by
                  refine XS.icmpNo X88.here hx rfl (hb hby d5_52) rfl (tlt hc95).2.2.2 ?_
                  refine XS.iloadN X88.here hx rfl (hb hby d5_55) rfl ?_
                  refine XS.bipush X88.here hx rfl (hb hby d5_56) ?_
                  exact k)
                by_cases hc97 : (126 : Int32) < y2
                · skip
                  have ks98 : own_R p e below (A0) (T88.setTop (mkF m 71 #[vR r0, vI 2, vI y2] [(.int 0)])) := fun t k => ks96 t (by
                    refine XS.icmpYes X88.here hx rfl (pc0 := 58) (pc' := 70) rfl (hb hby d5_58) rfl (tlt hc97).2.2.1 (by decide) (by decide) ?_
                    refine XS.iconst X88.here hx rfl (hb hby d5_70) ?_
                    exact k)
                  obtain ⟨fs, hr, hrun, hended, hEnd⟩ := X88.leaveW hS73 (by rw [eq88]; exact hk73) (v := some (.int 0)) (fun h => by rw [Bd.returns] at h; cases h) hlk
                  have CRf : CHr Z consts_1 s.vm s.heap T88.vm T88.heap := by rw [hh, eq88]; exact CR73.trans (CHv.at X88 hZ (own_EW hw) CR73.1)
                  refine ⟨_, _, kz _ (ks98 _ ?_), hrun, hended, _, _, rfl, ?_, CRf, hEnd.1, hEnd.2.1, hEnd.2.2.1, hEnd.2.2.2.mono (by decide) (by decide)⟩
                  · exact retN X88 hx (t := .boolean) Bd.returns (by simp) (hb hby d5_71) hr
                  · show Q5_G3 Z r0 y9 u8 t0 kt0 kd0 z0 vs0 y0 y1 y2 h0 n0 _ T88.heap _
                    rw [eq88]
                    refine ⟨?_, N88, KH73⟩
                    rw [own_val_G3, if_pos hc35, if_neg hc37, if_pos hc48, if_pos hc64, if_neg hc66, if_pos hc79, if_pos hc95, if_pos hc97]
                · skip
                  have ks99 : own_R p e below (A0) (T88.setTop (mkF m 61 #[vR r0, vI 2, vI y2] [])) := fun t k => ks96 t (by
                    refine XS.icmpNo X88.here hx rfl (hb hby d5_58) rfl (flt hc97).2.2.1 ?_
                    exact k)
                  have f100 := (f69.ext E73)
                  have f101 := (f70.ext E73)
                  have f102 := (f71.ext E73)
                  have f103 := (f72.ext E73)
                  have f104 := (Ea42.ext E73)
                  have f105 := (V42.ext E73)
                  obtain ⟨a106, T106, h106, kk106, b106, c106, X106, e106, E106, hS106, hk106, hZ, hown, Ea106, Fc106, Fv106, V106, la106, lb106, ch106, -, hne106, st106⟩ := ldcCH X88 hx hZ hown (own_w hw 135 rfl) (own_strs hw) eq88 hS73 hk73 (own_EW hw) (List.mem_of_getElem? (i := 2) rfl) CR73.1 (vs := [.int (34 : Int32), .int (35 : Int32), .int (42 : Int32), .int (44 : Int32), .int (47 : Int32), .int (58 : Int32), .int (63 : Int32), .int (91 : Int32), .int (93 : Int32), .int (123 : Int32), .int (125 : Int32)]) (z := (11 : Int32)) ⟨by decide, rfl⟩ (by decide) rfl (g := (mkF m 61 #[vR r0, vI 2, vI y2] [])) rfl (hb hby d5_61) (n := 44) (by decide) (by decide) (by decide) (by decide)
                  have KH106 : Keep h0 h106 [] := KH73.ext E106
                  have Zn106 : n0 ≤ h106.size := Nat.le_trans Zn73 E106.1
                  have CR106 := CR73.trans (ch106)
                  have ks107 := own_c ks99 st106
                  have ks108 : own_R p e below (A0) (T106.setTop (mkF m 64 #[vR r0, vI 2, vI y2] [(.int y2), (.ref a106)])) := fun t k => ks107 t (by
                    refine XS.iloadN X106.here hx rfl (hb hby d5_63) rfl ?_
                    exact k)
                  have f110 := own_sta_keep S9 KH106
                  obtain ⟨cq109, kq109, q109a, q109b, q109c⟩ := isOf hZ e106 Ea106
                  obtain ⟨_, _, ⟨T109, L109, k109, n109⟩, -, X109, ⟨Lc109, hQ109, lq109, yq109, zq109⟩, st109⟩ := X106.virtualBack hx (y := (⟨"java/lang/String", "indexOf", "(I)I"⟩ : MethodName)) (z := (⟨"java/lang/String", "indexOf", "(I)I"⟩ : MethodName)) hown (mvT hZ (own_w hw 136 rfl)) (mvT hZ (own_w hw 137 rfl)) (notFace_of_selects (args := #[]) (mvT hZ (own_w hw 139 rfl))) (mvT hZ (own_w hw 139 rfl)) (mvT hZ (own_w hw 138 rfl)) (by decide) (backOf (W := 0) (rm32 l Z a0 hw [] a106 y2 y9 b106 _ h106 n0 Zn106 f110 P9 Ea106 Fc106 Fv106 V106) hZ (own_w hw 140 rfl) (own_w hw 7 rfl) (by decide) (by decide)) q109a q109c (g := (mkF m 64 #[vR r0, vI 2, vI y2] [(.int y2), (.ref a106)])) rfl (by rw [hml]; rfl) (Steps.refl _) (argsL := [(.int y2)]) (rest := []) (lenOf pd_9 rfl) rfl (by show 2 * 0 + _ ≤ _; exact Nat.le_of_eq rfl) (hb hby d5_64) (fun _ _ => ⟨rfl, e106, (by decide : 10 + 0 ≤ _), (by decide : 164 + 0 ≤ _)⟩)
                  dsimp only [Pt.U, Pt.locs, Pt.cells, Pt.slots] at X109 lq109 yq109 zq109 st109 hQ109
                  subst lq109 yq109 zq109
                  obtain ⟨rfl, Nq109, eq109⟩ := hQ109
                  have N109 := Fr.app N88 Nq109
                  have ks111 := own_ct ks108 st109
                  by_cases hc112 : (own_ix y2) < (0 : Int32)
                  · skip
                    have ks113 : own_R p e below (A0) (T109.setTop (mkF m 37 #[vR r0, vI 3, vI y2] [(.ref r0), (.int 3)])) := fun t k => ks111 t (by
                      refine XS.ifYes X109.here hx rfl (pc0 := 67) (pc' := 72) rfl (hb hby d5_67) rfl ((if0 _ _).trans (tlt hc112).1) (by decide) (by decide) ?_
                      refine XS.iinc X109.here hx rfl (hb hby d5_72) rfl (l' := #[vR r0, vI 3, vI y2]) rfl ?_
                      refine XS.goto X109.here hx rfl (pc0 := 75) (pc' := 35) rfl (hb hby d5_75) (by decide) (by decide) ?_
                      show Steps p.tables e below (T109.setTop (mkF m 35 #[vR r0, vI 3, vI y2] [])) _
                      refine XS.iloadN X109.here hx rfl (hb hby d5_35) rfl ?_
                      refine XS.aloadN X109.here hx rfl (hb hby d5_36) rfl rfl ?_
                      exact k)
                    have f115 := E0.keep KH106
                    have f116 := Cd0.keep KH106 nin0
                    have f117 := F0.keep KH106 nin0
                    have f118 := V0.keep KH106 nin0
                    obtain ⟨cq114, kq114, q114a, q114b, q114c⟩ := isOf hZ eq109 f115
                    obtain ⟨_, _, ⟨T114, L114, k114, n114⟩, -, X114, ⟨Lc114, hQ114, lq114, yq114, zq114⟩, st114⟩ := X109.virtualBack hx (y := (⟨"java/lang/String", "length", "()I"⟩ : MethodName)) (z := (⟨"java/lang/String", "length", "()I"⟩ : MethodName)) hown (mvT hZ (own_w hw 78 rfl)) (mvT hZ (own_w hw 79 rfl)) (notFace_of_selects (args := #[]) (mvT hZ (own_w hw 81 rfl))) (mvT hZ (own_w hw 81 rfl)) (mvT hZ (own_w hw 80 rfl)) (by decide) (backOf (W := 1) (rm17 l Z a0 hw [] r0 y9 t0 _ kd0 z0 _ (3 : Int32) h106 n0 Zn106 f110 P9 f115 f116 f117 f118 (own_sh_k hs) (own_sh_len3 hs)) hZ (own_w hw 82 rfl) (own_w hw 7 rfl) (by decide) (by decide)) q114a q114c (g := (mkF m 37 #[vR r0, vI 3, vI y2] [(.ref r0), (.int 3)])) rfl (by rw [hml]; rfl) (Steps.refl _) (argsL := []) (rest := [(.int 3)]) (lenOf pd_15 rfl) rfl (by show 2 * 0 + _ ≤ _; exact Nat.le_of_eq rfl) (hb hby d5_37) (fun _ _ => ⟨rfl, eq109, (by decide : 10 + 0 ≤ _), (by decide : 164 + 0 ≤ _)⟩)
                    dsimp only [Pt.U, Pt.locs, Pt.cells, Pt.slots] at X114 lq114 yq114 zq114 st114 hQ114
                    subst lq114 yq114 zq114
                    obtain ⟨rfl, Nq114, eq114⟩ := hQ114
                    have N114 := Fr.app N109 Nq114
                    have ks119 := own_ct ks113 st114
                    have ks120 : own_R p e below (A0) (T114.setTop (mkF m 79 #[vR r0, vI 3, vI y2] [(.int 1)])) := fun t k => ks119 t (by
                      refine XS.icmpYes X114.here hx rfl (pc0 := 40) (pc' := 78) rfl (hb hby d5_40) rfl (flt (by decide)).2.1 (by decide) (by decide) ?_
                      refine XS.iconst X114.here hx rfl (hb hby d5_78) ?_
                      exact k)
                    obtain ⟨fs, hr, hrun, hended, hEnd⟩ := X114.leaveW hS106 (by rw [eq114]; exact hk106) (v := some (.int 1)) (fun h => by rw [Bd.returns] at h; cases h) hlk
                    have CRf : CHr Z consts_1 s.vm s.heap T114.vm T114.heap := by rw [hh, eq114]; exact CR106.trans (CHv.at X114 hZ (own_EW hw) CR106.1)
                    refine ⟨_, _, kz _ (ks120 _ ?_), hrun, hended, _, _, rfl, ?_, CRf, hEnd.1, hEnd.2.1, hEnd.2.2.1, hEnd.2.2.2.mono (by decide) (by decide)⟩
                    · exact retN X114 hx (t := .boolean) Bd.returns (by simp) (hb hby d5_79) hr
                    · show Q5_G3 Z r0 y9 u8 t0 kt0 kd0 z0 vs0 y0 y1 y2 h0 n0 _ T114.heap _
                      rw [eq114]
                      refine ⟨?_, N114, KH106⟩
                      rw [own_val_G3, if_pos hc35, if_neg hc37, if_pos hc48, if_pos hc64, if_neg hc66, if_pos hc79, if_pos hc95, if_neg hc97, if_pos hc112]
                  · skip
                    have ks121 : own_R p e below (A0) (T109.setTop (mkF m 71 #[vR r0, vI 2, vI y2] [(.int 0)])) := fun t k => ks111 t (by
                      refine XS.ifNo X109.here hx rfl (hb hby d5_67) rfl ((if0 _ _).trans (flt hc112).1) ?_
                      refine XS.iconst X109.here hx rfl (hb hby d5_70) ?_
                      exact k)
                    obtain ⟨fs, hr, hrun, hended, hEnd⟩ := X109.leaveW hS106 (by rw [eq109]; exact hk106) (v := some (.int 0)) (fun h => by rw [Bd.returns] at h; cases h) hlk
                    have CRf : CHr Z consts_1 s.vm s.heap T109.vm T109.heap := by rw [hh, eq109]; exact CR106.trans (CHv.at X109 hZ (own_EW hw) CR106.1)
                    refine ⟨_, _, kz _ (ks121 _ ?_), hrun, hended, _, _, rfl, ?_, CRf, hEnd.1, hEnd.2.1, hEnd.2.2.1, hEnd.2.2.2.mono (by decide) (by decide)⟩
                    · exact retN X109 hx (t := .boolean) Bd.returns (by simp) (hb hby d5_71) hr
                    · show Q5_G3 Z r0 y9 u8 t0 kt0 kd0 z0 vs0 y0 y1 y2 h0 n0 _ T109.heap _
                      rw [eq109]
                      refine ⟨?_, N109, KH106⟩
                      rw [own_val_G3, if_pos hc35, if_neg hc37, if_pos hc48, if_pos hc64, if_neg hc66, if_pos hc79, if_pos hc95, if_neg hc97, if_neg hc112]
              · skip
                have ks122 : own_R p e below (A0) (T88.setTop (mkF m 71 #[vR r0, vI 2, vI y2] [(.int 0)])) := fun t k => ks94 t (by
                  refine XS.icmpYes X88.here hx rfl (pc0 := 52) (pc' := 70) rfl (hb hby d5_52) rfl (flt hc95).2.2.2 (by decide) (by decide) ?_
                  refine XS.iconst X88.here hx rfl (hb hby d5_70) ?_
                  exact k)
                obtain ⟨fs, hr, hrun, hended, hEnd⟩ := X88.leaveW hS73 (by rw [eq88]; exact hk73) (v := some (.int 0)) (fun h => by rw [Bd.returns] at h; cases h) hlk
                have CRf : CHr Z consts_1 s.vm s.heap T88.vm T88.heap := by rw [hh, eq88]; exact CR73.trans (CHv.at X88 hZ (own_EW hw) CR73.1)
                refine ⟨_, _, kz _ (ks122 _ ?_), hrun, hended, _, _, rfl, ?_, CRf, hEnd.1, hEnd.2.1, hEnd.2.2.1, hEnd.2.2.2.mono (by decide) (by decide)⟩
                · exact retN X88 hx (t := .boolean) Bd.returns (by simp) (hb hby d5_71) hr
                · show Q5_G3 Z r0 y9 u8 t0 kt0 kd0 z0 vs0 y0 y1 y2 h0 n0 _ T88.heap _
                  rw [eq88]
                  refine ⟨?_, N88, KH73⟩
                  rw [own_val_G3, if_pos hc35, if_neg hc37, if_pos hc48, if_pos hc64, if_neg hc66, if_pos hc79, if_neg hc95]
            · skip
              have ks123 : own_R p e below (A0) (T76.setTop (mkF m 71 #[vR r0, vI 1, vI y1] [(.int 0)])) := fun t k => ks78 t (by
                refine XS.ifNo X76.here hx rfl (hb hby d5_67) rfl ((if0 _ _).trans (flt hc79).1) ?_
                refine XS.iconst X76.here hx rfl (hb hby d5_70) ?_
                exact k)
              obtain ⟨fs, hr, hrun, hended, hEnd⟩ := X76.leaveW hS73 (by rw [eq76]; exact hk73) (v := some (.int 0)) (fun h => by rw [Bd.returns] at h; cases h) hlk
              have CRf : CHr Z consts_1 s.vm s.heap T76.vm T76.heap := by rw [hh, eq76]; exact CR73.trans (CHv.at X76 hZ (own_EW hw) CR73.1)
              refine ⟨_, _, kz _ (ks123 _ ?_), hrun, hended, _, _, rfl, ?_, CRf, hEnd.1, hEnd.2.1, hEnd.2.2.1, hEnd.2.2.2.mono (by decide) (by decide)⟩
              · exact retN X76 hx (t := .boolean) Bd.returns (by simp) (hb hby d5_71) hr
              · show Q5_G3 Z r0 y9 u8 t0 kt0 kd0 z0 vs0 y0 y1 y2 h0 n0 _ T76.heap _
                rw [eq76]
                refine ⟨?_, N76, KH73⟩
                rw [own_val_G3, if_pos hc35, if_neg hc37, if_pos hc48, if_pos hc64, if_neg hc66, if_neg hc79]
        · skip
          have ks124 : own_R p e below (A0) (T57.setTop (mkF m 71 #[vR r0, vI 1, vI y1] [(.int 0)])) := fun t k => ks63 t (by
            refine XS.icmpYes X57.here hx rfl (pc0 := 52) (pc' := 70) rfl (hb hby d5_52) rfl (flt hc64).2.2.2 (by decide) (by decide) ?_
            refine XS.iconst X57.here hx rfl (hb hby d5_70) ?_
            exact k)
          obtain ⟨fs, hr, hrun, hended, hEnd⟩ := X57.leaveW hS42 (by rw [eq57]; exact hk42) (v := some (.int 0)) (fun h => by rw [Bd.returns] at h; cases h) hlk
          have CRf : CHr Z consts_1 s.vm s.heap T57.vm T57.heap := by rw [hh, eq57]; exact CR42.trans (CHv.at X57 hZ (own_EW hw) CR42.1)
          refine ⟨_, _, kz _ (ks124 _ ?_), hrun, hended, _, _, rfl, ?_, CRf, hEnd.1, hEnd.2.1, hEnd.2.2.1, hEnd.2.2.2.mono (by decide) (by decide)⟩
          · exact retN X57 hx (t := .boolean) Bd.returns (by simp) (hb hby d5_71) hr
          · show Q5_G3 Z r0 y9 u8 t0 kt0 kd0 z0 vs0 y0 y1 y2 h0 n0 _ T57.heap _
            rw [eq57]
            refine ⟨?_, N57, KH42⟩
            rw [own_val_G3, if_pos hc35, if_neg hc37, if_pos hc48, if_neg hc64]
      · skip
        have ks125 : own_R p e below (A0) (T45.setTop (mkF m 71 #[vR r0, vI 0, vI y0] [(.int 0)])) := fun t k => ks47 t (by
          refine XS.ifNo X45.here hx rfl (hb hby d5_67) rfl ((if0 _ _).trans (flt hc48).1) ?_
          refine XS.iconst X45.here hx rfl (hb hby d5_70) ?_
          exact k)
        obtain ⟨fs, hr, hrun, hended, hEnd⟩ := X45.leaveW hS42 (by rw [eq45]; exact hk42) (v := some (.int 0)) (fun h => by rw [Bd.returns] at h; cases h) hlk
        have CRf : CHr Z consts_1 s.vm s.heap T45.vm T45.heap := by rw [hh, eq45]; exact CR42.trans (CHv.at X45 hZ (own_EW hw) CR42.1)
        refine ⟨_, _, kz _ (ks125 _ ?_), hrun, hended, _, _, rfl, ?_, CRf, hEnd.1, hEnd.2.1, hEnd.2.2.1, hEnd.2.2.2.mono (by decide) (by decide)⟩
        · exact retN X45 hx (t := .boolean) Bd.returns (by simp) (hb hby d5_71) hr
        · show Q5_G3 Z r0 y9 u8 t0 kt0 kd0 z0 vs0 y0 y1 y2 h0 n0 _ T45.heap _
          rw [eq45]
          refine ⟨?_, N45, KH42⟩
          rw [own_val_G3, if_pos hc35, if_neg hc37, if_neg hc48]
  · skip
    have ks126 : own_R p e below (A0) (T28.setTop (mkF m 71 #[vR r0, vI 0, vI y0] [(.int 0)])) := fun t k => ks34 t (by
      refine XS.icmpYes X28.here hx rfl (pc0 := 52) (pc' := 70) rfl (hb hby d5_52) rfl (flt hc35).2.2.2 (by decide) (by decide) ?_
      refine XS.iconst X28.here hx rfl (hb hby d5_70) ?_
      exact k)
    obtain ⟨fs, hr, hrun, hended, hEnd⟩ := X28.leaveW hS15 (by rw [eq28]; exact hk15) (v := some (.int 0)) (fun h => by rw [Bd.returns] at h; cases h) hlk
    have CRf : CHr Z consts_1 s.vm s.heap T28.vm T28.heap := by rw [hh, eq28]; exact CR15.trans (CHv.at X28 hZ (own_EW hw) CR15.1)
    refine ⟨_, _, kz _ (ks126 _ ?_), hrun, hended, _, _, rfl, ?_, CRf, hEnd.1, hEnd.2.1, hEnd.2.2.1, hEnd.2.2.2.mono (by decide) (by decide)⟩
    · exact retN X28 hx (t := .boolean) Bd.returns (by simp) (hb hby d5_71) hr
    · show Q5_G3 Z r0 y9 u8 t0 kt0 kd0 z0 vs0 y0 y1 y2 h0 n0 _ T28.heap _
      rw [eq28]
      refine ⟨?_, N28, KH15⟩
      rw [own_val_G3, if_neg hc35]
theorem own_bigne {c : Int32} (h : (255 : Int32) < c) : ¬ c = 46 := fun q => by subst q; exact absurd h (by decide)
theorem own_spec_G1 (k a : Int32) {z : Int32} {vs : List Value} (hs : own_sh 1 k z vs [a]) (R : a.toUInt32.toUInt16.toUInt32.toInt32 = a) : own_val_G1 k a = if a = 46 then 0 else if own_ok a = 0 then 0 else 1 := by
  unfold own_val_G1 own_eq_G1
  rcases hs with ⟨rfl, -, -, q⟩ | ⟨rfl, -, -, y, hy, P⟩
  · have P := q a (by simp)
    unfold own_eqA_G1
    rw [own_step a R]; simp only [own_46 a R P]
    by_cases h : a = 46 <;> simp [h]
  · obtain rfl : y = a := by simpa using hy
    rw [own_step y R, if_neg (own_bigne P)]; simp
theorem own_spec_G2 (k a b : Int32) {z : Int32} {vs : List Value} (hs : own_sh 2 k z vs [a, b]) (R : a.toUInt32.toUInt16.toUInt32.toInt32 = a) (R' : b.toUInt32.toUInt16.toUInt32.toInt32 = b) : own_val_G2 k a b = if a = 46 ∧ b = 46 then 0 else if own_ok a = 0 then 0 else if own_ok b = 0 then 0 else 1 := by
  unfold own_val_G2 own_eq_G2
  rcases hs with ⟨rfl, -, -, q⟩ | ⟨rfl, -, -, y, hy, P⟩
  · have P := q a (by simp)
    have P' := q b (by simp)
    unfold own_eqA_G2
    rw [own_step b R', own_step a R]; simp only [own_46 a R P, own_46 b R' P']
    by_cases h : a = 46 <;> by_cases h' : b = 46 <;> simp [h, h']
  · have P : ¬ (a = 46 ∧ b = 46) := fun q => by
      rcases (by simpa using hy : y = a ∨ y = b) with rfl | rfl
      · exact own_bigne P q.1
      · exact own_bigne P q.2
    rw [own_step b R', own_step a R, if_neg (c := a = 46 ∧ b = 46) P]; simp
theorem own_spec_G3 (k a b c : Int32) {z : Int32} {vs : List Value} (hs : own_sh 3 k z vs [a, b, c]) (R : a.toUInt32.toUInt16.toUInt32.toInt32 = a) (R' : b.toUInt32.toUInt16.toUInt32.toInt32 = b) (R2 : c.toUInt32.toUInt16.toUInt32.toInt32 = c) : own_val_G3 k a b c = if own_ok a = 0 then 0 else if own_ok b = 0 then 0 else if own_ok c = 0 then 0 else 1 := by
  unfold own_val_G3
  rw [own_step c R2, own_step b R', own_step a R]
theorem pn_0 : plainName "com/example/rackline/rackline/core/NamesIsValidPinLaw" = true := by first | (simp [plainName, overriddenIn]; done) | decide +kernel
theorem pd_1 : parseMethodDescriptor "([C)V" = some ⟨[(.array .char)], none⟩ := by decide +kernel
theorem pd_21 : parseMethodDescriptor "(C)Ljava/lang/String;" = some ⟨[.char], some (.object "java/lang/String")⟩ := by decide +kernel
theorem pd_4 : parseMethodDescriptor "(Ljava/lang/String;)Z" = some ⟨[(.object "java/lang/String")], some .boolean⟩ := by decide +kernel
theorem ef_0 (m : MethodId) (x0 : Int32) (x1 : Int32) (x2 : Int32) (x3 : Int32) : entryFrame m #[(.int x0), (.int x1), (.int x2), (.int x3)] maxLocals = mkF m 0 #[.val (.int x0), .val (.int x1), .val (.int x2), .val (.int x3), .unset, .unset, .unset, .unset, .unset, .unset, .unset] [] := by first | (simp [entryFrame, mkF, argsToLocals, Value.category, maxLocals]; done) | rfl
def Q0 (Z : State) (p0 : Int32) (p1 : Int32) (p2 : Int32) (p3 : Int32) (y9 : Int32) (u8 : Value) (h0 : Heap) (n0 : Nat) (v : Option Value) (h : Heap) (L : List Loc) : Prop := v = some (.int (1 : Int32)) ∧ Fr n0 L
set_option maxRecDepth 65536 in
set_option maxHeartbeats 40000000 in
theorem rm0 (l : Launch) (Z : State) (a0 : Array Value) (hw : ∀ d ∈ tables_1, d.before a0 Z = true) (ws : List Jvm.Cond) (p0 : Int32) (p1 : Int32) (p2 : Int32) (p3 : Int32) (y9 : Int32) (u8 : Value) (h0 : Heap) (n0 : Nat) (Z0 : n0 ≤ h0.size) (S9 : own_S9 Z h0 y9) (P9 : ¬ y9 = (0 : Int32)) (S8 : own_S8 Z h0 u8) (I8 : u8.isRef = true) (S7a : own_S7a Z h0) (S7b : own_S7b Z h0) (S7c : own_S7c Z h0) :
    MetFree l x (head1 (Jvm.Cond.code x code maxLocals ret :: ws) room_1) (fun a U => a = #[(.int p0), (.int p1), (.int p2), (.int p3)] ∧ Z.Warmed39 U.vm ∧ U.heap = h0 ∧ CHv Z consts_1 U.vm h0) (fun _ _ _ _ _ => True) (fun _ U o U' => ∃ v L, o = .returned v ∧ Q0 Z p0 p1 p2 p3 y9 u8 h0 n0 v U'.heap L ∧ ReturnedEndW U o U' L 24 4224) := by
  refine MetFree.of_bodySF (plainFor_of_name pn_0) hisR ?_
  intro p e s m args below meth c s₁ Bd hml0 hP hK
  obtain ⟨rfl, hZ, hh, C0⟩ := hP
  have hx := Bd.exec
  have hby := Bd.bytes
  have hml : c.maxLocals = 11 := hml0
  have hown : s.vm.findClass "com/example/rackline/rackline/core/NamesIsValidPinLaw" = some m.cls := findClass_of_methodNamed Bd.named
  have hnm := (name_of_methodNamed Bd.named Bd.method).1
  have hlk : meth.locks = false := by first | exact BodyLoose.notSynchronized Bd | exact Body.notSynchronized Bd
  have X0 : Stand p l e room_1 s m #[(.int p0), (.int p1), (.int p2), (.int p3)] below meth c s₁ [] 0 0 := Stand.of_body Bd
  have e0 : s₁.heap = h0 := by rw [← hh, Bd.state]; rfl
  have N0 := Fr.nil n0
  have hS0 : s.Since s.vm s.heap.size := (State.WarmedH.refl s).since _
  have hk0 : s.heap.size ≤ h0.size := by rw [hh]; exact Nat.le_refl _
  have X0 : Stand p l e room_1 (s.setVm s.vm) m #[(.int p0), (.int p1), (.int p2), (.int p3)] below meth c s₁ [] 0 0 := X0
  have hZ : Z.Warmed39 (s.setVm s.vm).vm := hZ
  have hown : (s.setVm s.vm).vm.findClass "com/example/rackline/rackline/core/NamesIsValidPinLaw" = some m.cls := hown
  have CR0 : CHr Z consts_1 s.vm h0 s.vm h0 := CHr.refl C0
  have k0 : own_R p e below (s₁.setTop (entryFrame m #[(.int p0), (.int p1), (.int p2), (.int p3)] maxLocals)) (s₁.setTop (mkF m 0 #[vI p0, vI p1, vI p2, vI p3, .unset, .unset, .unset, .unset, .unset, .unset, .unset] [])) := fun t k => castTop (ef_0 m p0 p1 p2 p3) k
  obtain ⟨A0, hA0⟩ : ∃ z, z = s₁.setTop (entryFrame m #[(.int p0), (.int p1), (.int p2), (.int p3)] maxLocals) := ⟨_, rfl⟩
  rw [← hA0] at k0
  have kz : ∀ t, Steps p.tables e below A0 t → Steps p.tables e below (s₁.setTop (entryFrame m #[(.int p0), (.int p1), (.int p2), (.int p3)] maxLocals)) t := fun t q => hA0 ▸ q
  have ks3 : own_R p e below (A0) (s₁.setTop (mkF m 3 #[vI p0, vI p1, vI p2, vI p3, .unset, .unset, .unset, .unset, .unset, .unset, .unset] [(.int (p0 &&& (4 : Int32)))])) := fun t k => k0 t (by
    refine XS.iloadN X0.here hx rfl (hb hby at_0) rfl ?_
    refine XS.iconst X0.here hx rfl (hb hby at_1) ?_
    refine XS.iand X0.here hx rfl (hb hby at_2) rfl ?_
    exact k)
  obtain ⟨v2, hv2⟩ : ∃ z : Int32, z = (if (p0 &&& (4 : Int32)) = (0 : Int32) then (0 : Int32) else (1 : Int32)) := ⟨_, rfl⟩
  have ks4 : own_R p e below (A0) (s₁.setTop (mkF m 11 #[vI p0, vI p1, vI p2, vI p3, .unset, .unset, .unset, .unset, .unset, .unset, .unset] [(.int v2)])) := fun t k => ks3 t (by
    by_cases hc1 : (p0 &&& (4 : Int32)) = (0 : Int32)
    · skip
      have qq5 : v2 = (0 : Int32) := by rw [hv2, if_pos hc1]
      rw [qq5] at k
      refine XS.ifYes X0.here hx rfl (pc0 := 3) (pc' := 10) rfl (hb hby at_3) rfl ((if0 _ _).trans (teq hc1).1) (by decide) (by decide) ?_
      refine XS.iconst X0.here hx rfl (hb hby at_10) ?_
      exact k
    · skip
      have qq6 : v2 = (1 : Int32) := by rw [hv2, if_neg hc1]
      rw [qq6] at k
      refine XS.ifNo X0.here hx rfl (hb hby at_3) rfl ((if0 _ _).trans (feq hc1).1) ?_
      refine XS.iconst X0.here hx rfl (hb hby at_6) ?_
      refine XS.goto X0.here hx rfl (pc0 := 7) (pc' := 11) rfl (hb hby at_7) (by decide) (by decide) ?_
      exact k)
  have ks7 : own_R p e below (A0) (s₁.setTop (mkF m 19 #[vI p0, vI p1, vI p2, vI p3, vI v2, vI (p0 &&& (3 : Int32)), .unset, .unset, .unset, .unset, .unset] [(.int p1)])) := fun t k => ks4 t (by
    refine XS.istore X0.here hx rfl (hb hby at_11) rfl (l' := #[vI p0, vI p1, vI p2, vI p3, vI v2, .unset, .unset, .unset, .unset, .unset, .unset]) rfl ?_
    refine XS.iloadN X0.here hx rfl (hb hby at_13) rfl ?_
    refine XS.iconst X0.here hx rfl (hb hby at_14) ?_
    show Steps p.tables e below (s₁.setTop (mkF m 15 #[vI p0, vI p1, vI p2, vI p3, vI v2, .unset, .unset, .unset, .unset, .unset, .unset] [(.int 3), (.int p0)])) _
    refine XS.iand X0.here hx rfl (hb hby at_15) rfl ?_
    refine XS.istore X0.here hx rfl (hb hby at_16) rfl (l' := #[vI p0, vI p1, vI p2, vI p3, vI v2, vI (p0 &&& (3 : Int32)), .unset, .unset, .unset, .unset, .unset]) rfl ?_
    refine XS.iloadN X0.here hx rfl (hb hby at_18) rfl ?_
    exact k)
  obtain ⟨_, _, ⟨T8, L8, k8, n8⟩, -, X8, ⟨Lc8, hQ8, lq8, yq8, zq8⟩, st8⟩ := Jvm.LawKit.callS X0 hx (y := (⟨"com/example/rackline/rackline/core/NamesIsValidPinLaw", "draw", "(I)C"⟩ : MethodName)) hown (mvT hZ (own_w hw 0 rfl)) (mvT hZ (own_w hw 1 rfl)) (mvT hZ (own_w hw 2 rfl)) (mvT hZ (own_w hw 3 rfl)) (by decide) (backOf (W := 0) (rm1 l Z a0 hw [] p1 h0 n0 Z0 ) hZ (own_w hw 3 rfl) (own_w hw 2 rfl) (by decide) (by decide)) (g := (mkF m 19 #[vI p0, vI p1, vI p2, vI p3, vI v2, vI (p0 &&& (3 : Int32)), .unset, .unset, .unset, .unset, .unset] [(.int p1)])) rfl (by rw [hml]; rfl) (argsL := [(.int p1)]) (rest := []) (lenOf pd_0 rfl) rfl (by show 2 * 0 + _ ≤ _; exact Nat.le_of_eq rfl) (hb hby at_19) (fun _ _ => ⟨rfl, e0, (by decide : 0 + 0 ≤ _), (by decide : 0 + 0 ≤ _)⟩)
  dsimp only [Pt.U, Pt.locs, Pt.cells, Pt.slots] at X8 lq8 yq8 zq8 st8 hQ8
  subst lq8 yq8 zq8
  obtain ⟨rfl, Nq8, eq8⟩ := hQ8
  have N8 := Fr.app N0 Nq8
  have ks9 := own_c ks7 st8
  have ks10 : own_R p e below (A0) (T8.setTop (mkF m 25 #[vI p0, vI p1, vI p2, vI p3, vI v2, vI (p0 &&& (3 : Int32)), vI (own_draw p1), .unset, .unset, .unset, .unset] [(.int p2)])) := fun t k => ks9 t (by
    refine XS.istore X8.here hx rfl (hb hby at_22) rfl (l' := #[vI p0, vI p1, vI p2, vI p3, vI v2, vI (p0 &&& (3 : Int32)), vI (own_draw p1), .unset, .unset, .unset, .unset]) rfl ?_
    refine XS.iloadN X8.here hx rfl (hb hby at_24) rfl ?_
    exact k)
  obtain ⟨_, _, ⟨T11, L11, k11, n11⟩, -, X11, ⟨Lc11, hQ11, lq11, yq11, zq11⟩, st11⟩ := Jvm.LawKit.callS X8 hx (y := (⟨"com/example/rackline/rackline/core/NamesIsValidPinLaw", "draw", "(I)C"⟩ : MethodName)) hown (mvT hZ (own_w hw 0 rfl)) (mvT hZ (own_w hw 1 rfl)) (mvT hZ (own_w hw 2 rfl)) (mvT hZ (own_w hw 3 rfl)) (by decide) (backOf (W := 0) (rm1 l Z a0 hw [] p2 h0 n0 Z0 ) hZ (own_w hw 3 rfl) (own_w hw 2 rfl) (by decide) (by decide)) (g := (mkF m 25 #[vI p0, vI p1, vI p2, vI p3, vI v2, vI (p0 &&& (3 : Int32)), vI (own_draw p1), .unset, .unset, .unset, .unset] [(.int p2)])) rfl (by rw [hml]; rfl) (argsL := [(.int p2)]) (rest := []) (lenOf pd_0 rfl) rfl (by show 2 * 0 + _ ≤ _; exact Nat.le_of_eq rfl) (hb hby at_25) (fun _ _ => ⟨rfl, eq8, (by decide : 0 + 0 ≤ _), (by decide : 0 + 0 ≤ _)⟩)
  dsimp only [Pt.U, Pt.locs, Pt.cells, Pt.slots] at X11 lq11 yq11 zq11 st11 hQ11
  subst lq11 yq11 zq11
  obtain ⟨rfl, Nq11, eq11⟩ := hQ11
  have N11 := Fr.app N8 Nq11
  have ks12 := own_c ks10 st11
  have ks13 : own_R p e below (A0) (T11.setTop (mkF m 31 #[vI p0, vI p1, vI p2, vI p3, vI v2, vI (p0 &&& (3 : Int32)), vI (own_draw p1), vI (own_draw p2), .unset, .unset, .unset] [(.int p3)])) := fun t k => ks12 t (by
    refine XS.istore X11.here hx rfl (hb hby at_28) rfl (l' := #[vI p0, vI p1, vI p2, vI p3, vI v2, vI (p0 &&& (3 : Int32)), vI (own_draw p1), vI (own_draw p2), .unset, .unset, .unset]) rfl ?_
    refine XS.iloadN X11.here hx rfl (hb hby at_30) rfl ?_
    exact k)
  obtain ⟨_, _, ⟨T14, L14, k14, n14⟩, -, X14, ⟨Lc14, hQ14, lq14, yq14, zq14⟩, st14⟩ := Jvm.LawKit.callS X11 hx (y := (⟨"com/example/rackline/rackline/core/NamesIsValidPinLaw", "draw", "(I)C"⟩ : MethodName)) hown (mvT hZ (own_w hw 0 rfl)) (mvT hZ (own_w hw 1 rfl)) (mvT hZ (own_w hw 2 rfl)) (mvT hZ (own_w hw 3 rfl)) (by decide) (backOf (W := 0) (rm1 l Z a0 hw [] p3 h0 n0 Z0 ) hZ (own_w hw 3 rfl) (own_w hw 2 rfl) (by decide) (by decide)) (g := (mkF m 31 #[vI p0, vI p1, vI p2, vI p3, vI v2, vI (p0 &&& (3 : Int32)), vI (own_draw p1), vI (own_draw p2), .unset, .unset, .unset] [(.int p3)])) rfl (by rw [hml]; rfl) (argsL := [(.int p3)]) (rest := []) (lenOf pd_0 rfl) rfl (by show 2 * 0 + _ ≤ _; exact Nat.le_of_eq rfl) (hb hby at_31) (fun _ _ => ⟨rfl, eq11, (by decide : 0 + 0 ≤ _), (by decide : 0 + 0 ≤ _)⟩)
  dsimp only [Pt.U, Pt.locs, Pt.cells, Pt.slots] at X14 lq14 yq14 zq14 st14 hQ14
  subst lq14 yq14 zq14
  obtain ⟨rfl, Nq14, eq14⟩ := hQ14
  have N14 := Fr.app N11 Nq14
  have ks15 := own_c ks13 st14
  have ks16 : own_R p e below (A0) (T14.setTop (mkF m 38 #[vI p0, vI p1, vI p2, vI p3, vI v2, vI (p0 &&& (3 : Int32)), vI (own_draw p1), vI (own_draw p2), vI (own_draw p3), .unset, .unset] [(.int v2)])) := fun t k => ks15 t (by
    refine XS.istore X14.here hx rfl (hb hby at_34) rfl (l' := #[vI p0, vI p1, vI p2, vI p3, vI v2, vI (p0 &&& (3 : Int32)), vI (own_draw p1), vI (own_draw p2), vI (own_draw p3), .unset, .unset]) rfl ?_
    refine XS.iload X14.here hx rfl (hb hby at_36) rfl ?_
    exact k)
  by_cases hc17 : v2 = (0 : Int32)
  · skip
    have ks18 : own_R p e below (A0) (T14.setTop (mkF m 52 #[vI p0, vI p1, vI p2, vI p3, vI v2, vI (p0 &&& (3 : Int32)), vI (own_draw p1), vI (own_draw p2), vI (own_draw p3), .unset, .unset] [(.int (p0 &&& (3 : Int32)))])) := fun t k => ks16 t (by
      refine XS.ifYes X14.here hx rfl (pc0 := 38) (pc' := 50) rfl (hb hby at_38) rfl ((if0 _ _).trans (teq hc17).1) (by decide) (by decide) ?_
      refine XS.iload X14.here hx rfl (hb hby at_50) rfl ?_
      exact k)
    by_cases hc19 : (p0 &&& (3 : Int32)) = (0 : Int32)
    · skip
      have ks20 : own_R p e below (A0) (T14.setTop (mkF m 55 #[vI p0, vI p1, vI p2, vI p3, vI v2, vI (p0 &&& (3 : Int32)), vI (own_draw p1), vI (own_draw p2), vI (own_draw p3), .unset, .unset] [])) := fun t k => ks18 t (by
        refine XS.ifNo X14.here hx rfl (hb hby at_52) rfl ((if0 _ _).trans (teq hc19).2) ?_
        exact k)
      obtain ⟨T21, h21, X21, e21, E21, A21, D21, -, st21⟩ := newO X14 hx hZ hown (own_w hw 5 rfl) (own_w hw 6 rfl) (own_w hw 7 rfl) eq14 (g := (mkF m 55 #[vI p0, vI p1, vI p2, vI p3, vI v2, vI (p0 &&& (3 : Int32)), vI (own_draw p1), vI (own_draw p2), vI (own_draw p3), .unset, .unset] [])) rfl (hb hby at_55) (by decide) (by decide)
      obtain ⟨b21, g21⟩ : ∃ z, z = h0.size := ⟨_, rfl⟩
      rw [← g21] at A21 D21 st21
      have g_b21 : n0 ≤ b21 := Nat.le_trans Z0 (Nat.le_of_eq g21.symm)
      have sz_b21 : h0.size ≤ b21 := Nat.le_trans (Keep.refl h0 []).1 (Nat.le_of_eq g21.symm)
      have KH21 : Keep h0 h21 [] := (Keep.refl h0 []).ext E21
      have Zn21 : n0 ≤ h21.size := Nat.le_trans Z0 E21.1
      have hk21 := Nat.le_trans hk0 E21.1
      have CR21 := CR0.trans (CHr.ext E21 CR0.1)
      have Sf21_b21 := Safe.ext E21 CR0.1 (Safe.new (Nat.le_of_eq g21.symm))
      have F_value_b21 : Fld Z h21 b21 "java/lang/String" "value" "[B" .null := D21 (Or.inr (own_w hw 21 rfl)) (ty := (.array .byte)) (by decide)
      have F_coder_b21 : Fld Z h21 b21 "java/lang/String" "coder" "B" (.int 0) := D21 (Or.inr (own_w hw 22 rfl)) (ty := .byte) (by decide)
      have ks22 := own_c ks20 st21
      have ks23 : own_R p e below (A0) (T21.setTop (mkF m 60 #[vI p0, vI p1, vI p2, vI p3, vI v2, vI (p0 &&& (3 : Int32)), vI (own_draw p1), vI (own_draw p2), vI (own_draw p3), .unset, .unset] [(.int 0), (.ref b21), (.ref b21)])) := fun t k => ks22 t (by
        refine XS.dup X21.here hx rfl (hb hby at_58) rfl rfl ?_
        refine XS.iconst X21.here hx rfl (hb hby at_59) ?_
        exact k)
      obtain ⟨T24, h24, c24, X24, e24, E24, A24, st24⟩ := newP X21 hx hZ (own_w hw 8 rfl) e21 (g := (mkF m 60 #[vI p0, vI p1, vI p2, vI p3, vI v2, vI (p0 &&& (3 : Int32)), vI (own_draw p1), vI (own_draw p2), vI (own_draw p3), .unset, .unset] [(.int 0), (.ref b21), (.ref b21)])) rfl (hb hby at_60) rfl (by decide) (cap := 0) (by decide) (by decide) (by decide) (by decide)
      obtain ⟨b24, g24⟩ : ∃ z, z = h21.size := ⟨_, rfl⟩
      rw [← g24] at A24 st24
      have ne_b21_b24 : b21 ≠ b24 := Nat.ne_of_lt (Nat.lt_of_lt_of_le A21.lt (Nat.le_of_eq g24.symm))
      have g_b24 : n0 ≤ b24 := Nat.le_trans Zn21 (Nat.le_of_eq g24.symm)
      have sz_b24 : h0.size ≤ b24 := Nat.le_trans KH21.1 (Nat.le_of_eq g24.symm)
      have KH24 : Keep h0 h24 [] := KH21.ext E24
      have Zn24 : n0 ≤ h24.size := Nat.le_trans Zn21 E24.1
      have hk24 := Nat.le_trans hk21 E24.1
      have CR24 := CR21.trans (CHr.ext E24 CR21.1)
      have Sf24_b21 := Safe.ext E24 CR21.1 Sf21_b21
      have Sf24_b24 := Safe.ext E24 CR21.1 (Safe.new (Nat.le_of_eq g24.symm))
      have V24 : Arv Z h24 b24 c24 .char (0 : Int32) [] (.int (0 : Int32)) := Arv.new A24 (by decide)
      have ks25 := own_c ks23 st24
      have f27 := own_sta_keep S9 KH24
      have f28 := (A21.ext E24)
      have f29 := (F_coder_b21.ext E24)
      have f30 := (F_value_b21.ext E24)
      obtain ⟨_, _, ⟨T26, L26, k26, n26⟩, -, X26, hT26, hgr26, ⟨Lc26, hQ26, lq26, yq26, zq26, ch26⟩, st26⟩ := X24.specialBackS hx (y := (⟨"java/lang/String", "<init>", "([C)V"⟩ : MethodName)) rfl hown (mvT hZ (own_w hw 9 rfl)) (mvT hZ (own_w hw 10 rfl)) (mvT hZ (own_w hw 11 rfl)) (by decide) (backOfSH (W := 1) (rm2_0 l Z a0 hw [] b21 b24 y9 _ h24 n0 Zn24 f27 P9 f28 f29 f30 g_b21 ne_b21_b24 V24) hZ (own_w hw 11 rfl) (own_w hw 7 rfl) (by decide) (by decide) (own_EW hw) CR24.1) (g := (mkF m 62 #[vI p0, vI p1, vI p2, vI p3, vI v2, vI (p0 &&& (3 : Int32)), vI (own_draw p1), vI (own_draw p2), vI (own_draw p3), .unset, .unset] [(.ref b24), (.ref b21), (.ref b21)])) rfl (by rw [hml]; rfl) (Steps.refl _) (a := b21) (argsL := [(.ref b24)]) (rest := [(.ref b21)]) (lenOf pd_1 rfl) rfl (by show 2 * 0 + _ ≤ _; exact Nat.le_of_eq rfl) (hb hby at_62) (fun _ _ => ⟨rfl, e24, (by decide : 2 + 4 ≤ _), (by decide : 4 + 8 ≤ _)⟩)
      dsimp only [Pt.U, Pt.locs, Pt.cells, Pt.slots] at X26 lq26 yq26 zq26 st26 hQ26 hT26 hgr26 ch26
      subst lq26 yq26 zq26
      obtain ⟨X26, hS26, hZ, hown⟩ := rebS hS0 (by rw [e24]; exact hk24) X26 hT26 hgr26 hZ hown
      obtain ⟨rfl, Nq26, Kq26, tq26, kq26, Fc26, Fv26, Vq26⟩ := hQ26
      have N26 := Fr.app N14 Nq26
      have KH26 : Keep h0 T26.heap [] := KH24.trans Kq26 (allS (Or.inr sz_b21) all0)
      have Zn26 : n0 ≤ T26.heap.size := Nat.le_trans Zn24 Kq26.1
      have CR26 := CR24.trans (ch26)
      have Sf26_b21 := CHr.safe ch26 f28.lt Sf24_b21
      have Sf26_b24 := CHr.safe ch26 V24.lt Sf24_b24
      have ks31 := own_ct ks25 st26
      have ks32 : own_R p e below (A0) (T26.setTop (mkF m 239 #[vI p0, vI p1, vI p2, vI p3, vI v2, vI (p0 &&& (3 : Int32)), vI (own_draw p1), vI (own_draw p2), vI (own_draw p3), vR b21, vI 0] [(.ref b21)])) := fun t k => ks31 t (by
        refine XS.astore X26.here hx rfl (hb hby at_65) rfl rfl (l' := #[vI p0, vI p1, vI p2, vI p3, vI v2, vI (p0 &&& (3 : Int32)), vI (own_draw p1), vI (own_draw p2), vI (own_draw p3), vR b21, .unset]) rfl ?_
        refine XS.iconst X26.here hx rfl (hb hby at_67) ?_
        refine XS.istore X26.here hx rfl (hb hby at_68) rfl (l' := #[vI p0, vI p1, vI p2, vI p3, vI v2, vI (p0 &&& (3 : Int32)), vI (own_draw p1), vI (own_draw p2), vI (own_draw p3), vR b21, vI 0]) rfl ?_
        show Steps p.tables e below (T26.setTop (mkF m 70 #[vI p0, vI p1, vI p2, vI p3, vI v2, vI (p0 &&& (3 : Int32)), vI (own_draw p1), vI (own_draw p2), vI (own_draw p3), vR b21, vI 0] [])) _
        refine XS.goto X26.here hx rfl (pc0 := 70) (pc' := 237) rfl (hb hby at_70) (by decide) (by decide) ?_
        refine XS.aload X26.here hx rfl (hb hby at_237) rfl rfl ?_
        exact k)
      have f34 := (f28.keep Kq26)
      have f35 := own_sta_keep S9 KH26
      have f36 := (V24.keep Kq26 (ninS (Ne.symm ne_b21_b24) nin0))
      obtain ⟨_, _, ⟨T33, L33, k33, n33⟩, -, X33, ⟨Lc33, hQ33, lq33, yq33, zq33⟩, st33⟩ := Jvm.LawKit.callS X26 hx (y := (⟨"com/example/rackline/rackline/core/Names", "isValid", "(Ljava/lang/String;)Z"⟩ : MethodName)) hown (mvT hZ (own_w hw 27 rfl)) (mvT hZ (own_w hw 28 rfl)) (mvT hZ (own_w hw 29 rfl)) (mvT hZ (own_w hw 30 rfl)) (by decide) (backOf (W := 0) (rm5_L0 l Z a0 hw [] b21 y9 tq26 _ T26.heap n0 Zn26 f35 P9 f34 Fc26 Fv26 Vq26) hZ (own_w hw 30 rfl) (own_w hw 29 rfl) (by decide) (by decide)) (g := (mkF m 239 #[vI p0, vI p1, vI p2, vI p3, vI v2, vI (p0 &&& (3 : Int32)), vI (own_draw p1), vI (own_draw p2), vI (own_draw p3), vR b21, vI 0] [(.ref b21)])) rfl (by rw [hml]; rfl) (argsL := [(.ref b21)]) (rest := []) (lenOf pd_4 rfl) rfl (by show 2 * 0 + _ ≤ _; exact Nat.le_of_eq rfl) (hb hby at_239) (fun _ _ => ⟨rfl, rfl, (by decide : 6 + 0 ≤ _), (by decide : 12 + 0 ≤ _)⟩)
      dsimp only [Pt.U, Pt.locs, Pt.cells, Pt.slots] at X33 lq33 yq33 zq33 st33 hQ33
      subst lq33 yq33 zq33
      obtain ⟨rfl, Nq33, eq33⟩ := hQ33
      have N33 := Fr.app N26 Nq33
      have ks37 := own_c ks32 st33
      have ks38 : own_R p e below (A0) (T33.setTop (mkF m 252 #[vI p0, vI p1, vI p2, vI p3, vI v2, vI (p0 &&& (3 : Int32)), vI (own_draw p1), vI (own_draw p2), vI (own_draw p3), vR b21, vI 0] [(.int 1)])) := fun t k => ks37 t (by
        refine XS.iload X33.here hx rfl (hb hby at_242) rfl ?_
        refine XS.icmpNo X33.here hx rfl (hb hby at_244) rfl (teq (by decide)).2 ?_
        refine XS.iconst X33.here hx rfl (hb hby at_247) ?_
        show Steps p.tables e below (T33.setTop (mkF m 248 #[vI p0, vI p1, vI p2, vI p3, vI v2, vI (p0 &&& (3 : Int32)), vI (own_draw p1), vI (own_draw p2), vI (own_draw p3), vR b21, vI 0] [(.int 1)])) _
        refine XS.goto X33.here hx rfl (pc0 := 248) (pc' := 252) rfl (hb hby at_248) (by decide) (by decide) ?_
        exact k)
      obtain ⟨fs, hr, hrun, hended, hEnd⟩ := X33.leaveW hS26 (by rw [eq33]; exact (Nat.le_refl T26.heap.size)) (v := some (.int 1)) (fun h => by rw [Bd.returns] at h; cases h) hlk
      refine ⟨_, _, kz _ (ks38 _ ?_), hrun, hended, _, _, rfl, ?_, hEnd.1, hEnd.2.1, hEnd.2.2.1, hEnd.2.2.2.mono (by decide) (by decide)⟩
      · exact retN X33 hx (t := .boolean) Bd.returns (by simp) (hb hby at_252) hr
      · show Q0 Z p0 p1 p2 p3 y9 u8 h0 n0 _ T33.heap _
        rw [eq33]
        exact ⟨rfl, N33⟩
    · skip
      have ks39 : own_R p e below (A0) (T14.setTop (mkF m 76 #[vI p0, vI p1, vI p2, vI p3, vI v2, vI (p0 &&& (3 : Int32)), vI (own_draw p1), vI (own_draw p2), vI (own_draw p3), .unset, .unset] [(.int 1), (.int (p0 &&& (3 : Int32)))])) := fun t k => ks18 t (by
        refine XS.ifYes X14.here hx rfl (pc0 := 52) (pc' := 73) rfl (hb hby at_52) rfl ((if0 _ _).trans (feq hc19).2) (by decide) (by decide) ?_
        refine XS.iload X14.here hx rfl (hb hby at_73) rfl ?_
        refine XS.iconst X14.here hx rfl (hb hby at_75) ?_
        exact k)
      by_cases hc40 : (p0 &&& (3 : Int32)) = (1 : Int32)
      · skip
        have ks41 : own_R p e below (A0) (T14.setTop (mkF m 81 #[vI p0, vI p1, vI p2, vI p3, vI v2, vI (p0 &&& (3 : Int32)), vI (own_draw p1), vI (own_draw p2), vI (own_draw p3), .unset, .unset] [(.int (own_draw p1))])) := fun t k => ks39 t (by
          refine XS.icmpNo X14.here hx rfl (hb hby at_76) rfl (teq hc40).2 ?_
          refine XS.iload X14.here hx rfl (hb hby at_79) rfl ?_
          exact k)
        obtain ⟨_, _, ⟨T42, L42, k42, n42⟩, -, X42, ⟨Lc42, hQ42, lq42, yq42, zq42⟩, st42⟩ := Jvm.LawKit.callS X14 hx (y := (⟨"java/lang/String", "valueOf", "(C)Ljava/lang/String;"⟩ : MethodName)) hown (mvT hZ (own_w hw 115 rfl)) (mvT hZ (own_w hw 116 rfl)) (mvT hZ (own_w hw 7 rfl)) (mvT hZ (own_w hw 117 rfl)) (by decide) (backOf (W := 0) (rm26_G l Z a0 hw [] (own_draw p1) y9 h0 n0 Z0 S9 P9 S7a S7b S7c) hZ (own_w hw 117 rfl) (own_w hw 7 rfl) (by decide) (by decide)) (g := (mkF m 81 #[vI p0, vI p1, vI p2, vI p3, vI v2, vI (p0 &&& (3 : Int32)), vI (own_draw p1), vI (own_draw p2), vI (own_draw p3), .unset, .unset] [(.int (own_draw p1))])) rfl (by rw [hml]; rfl) (argsL := [(.int (own_draw p1))]) (rest := []) (lenOf pd_21 rfl) rfl (by show 2 * 0 + _ ≤ _; exact Nat.le_of_eq rfl) (hb hby at_81) (fun _ _ => ⟨rfl, eq14, (by decide : 0 + 2 ≤ _), (by decide : 0 + 6 ≤ _)⟩)
        dsimp only [Pt.U, Pt.locs, Pt.cells, Pt.slots] at X42 lq42 yq42 zq42 st42 hQ42
        subst lq42 yq42 zq42
        obtain ⟨bq42, tq42, kq42, kd42, zz42, vv42, rfl, Nq42, Kq42, g_bq42, szq42, Eq42, Fc42, Fv42, Vq42, hs42⟩ := hQ42
        have N42 := Fr.app N14 Nq42
        have KH42 : Keep h0 T42.heap [] := (Keep.refl h0 []).trans Kq42 all0
        have Zn42 : n0 ≤ T42.heap.size := Nat.le_trans Z0 Kq42.1
        have hk42 := Nat.le_trans hk0 Kq42.1
        have CR42 := CR0.trans (CHr.keep Kq42 all0 CR0.1)
        have sz_bq42 : h0.size ≤ bq42 := Nat.le_trans (Keep.refl h0 []).1 szq42
        have Sf42_bq42 := Safe.keep Kq42 all0 CR0.1 (Safe.new szq42)
        have ks43 := own_c ks41 st42
        have ks44 : own_R p e below (A0) (T42.setTop (mkF m 90 #[vI p0, vI p1, vI p2, vI p3, vI v2, vI (p0 &&& (3 : Int32)), vI (own_draw p1), vI (own_draw p2), vI (own_draw p3), vR bq42, .unset] [(.int 46), (.int (own_draw p1))])) := fun t k => ks43 t (by
          refine XS.astore X42.here hx rfl (hb hby at_84) rfl rfl (l' := #[vI p0, vI p1, vI p2, vI p3, vI v2, vI (p0 &&& (3 : Int32)), vI (own_draw p1), vI (own_draw p2), vI (own_draw p3), vR bq42, .unset]) rfl ?_
          refine XS.iload X42.here hx rfl (hb hby at_86) rfl ?_
          refine XS.bipush X42.here hx rfl (hb hby at_88) ?_
          exact k)
        obtain ⟨v55, hv55⟩ : ∃ z : Int32, z = (if (own_draw p1) = (46 : Int32) then (0 : Int32) else (if (own_ok (own_draw p1)) = (0 : Int32) then (0 : Int32) else (1 : Int32))) := ⟨_, rfl⟩
        obtain ⟨T56, L56, X56, N56, e56, k56⟩ : ∃ T' L', Stand p l e room_1 (s.setVm s.vm) m #[(.int p0), (.int p1), (.int p2), (.int p3)] below meth c T' L' 2 6 ∧ Fr n0 L' ∧ T'.heap = T42.heap ∧ own_R p e below (A0) (T'.setTop (mkF m 106 #[vI p0, vI p1, vI p2, vI p3, vI v2, vI (p0 &&& (3 : Int32)), vI (own_draw p1), vI (own_draw p2), vI (own_draw p3), vR bq42, .unset] [(.int v55)])) := by
          by_cases hc45 : (own_draw p1) = (46 : Int32)
          · skip
            have ks46 : own_R p e below (A0) (T42.setTop (mkF m 106 #[vI p0, vI p1, vI p2, vI p3, vI v2, vI (p0 &&& (3 : Int32)), vI (own_draw p1), vI (own_draw p2), vI (own_draw p3), vR bq42, .unset] [(.int 0)])) := fun t k => ks44 t (by
              refine XS.icmpYes X42.here hx rfl (pc0 := 90) (pc' := 105) rfl (hb hby at_90) rfl (teq hc45).1 (by decide) (by decide) ?_
              refine XS.iconst X42.here hx rfl (hb hby at_105) ?_
              exact k)
            have qq57 : v55 = (0 : Int32) := by
              rw [hv55, if_pos hc45]
            have ks58 : own_R p e below (A0) (T42.setTop (mkF m 106 #[vI p0, vI p1, vI p2, vI p3, vI v2, vI (p0 &&& (3 : Int32)), vI (own_draw p1), vI (own_draw p2), vI (own_draw p3), vR bq42, .unset] [(.int v55)])) := fun t k => ks46 t (by
              rw [qq57] at k
              exact k)
            exact ⟨T42, _, X42, N42, rfl, ks58⟩
          · skip
            have ks47 : own_R p e below (A0) (T42.setTop (mkF m 95 #[vI p0, vI p1, vI p2, vI p3, vI v2, vI (p0 &&& (3 : Int32)), vI (own_draw p1), vI (own_draw p2), vI (own_draw p3), vR bq42, .unset] [(.int (own_draw p1))])) := fun t k => ks44 t (by
              refine XS.icmpNo X42.here hx rfl (hb hby at_90) rfl (feq hc45).1 ?_
              refine XS.iload X42.here hx rfl (hb hby at_93) rfl ?_
              exact k)
            obtain ⟨_, _, ⟨T48, L48, k48, n48⟩, -, X48, ⟨Lc48, hQ48, lq48, yq48, zq48⟩, st48⟩ := Jvm.LawKit.callS X42 hx (y := (⟨"com/example/rackline/rackline/core/NamesIsValidPinLaw", "ok", "(C)Z"⟩ : MethodName)) hown (mvT hZ (own_w hw 67 rfl)) (mvT hZ (own_w hw 68 rfl)) (mvT hZ (own_w hw 2 rfl)) (mvT hZ (own_w hw 69 rfl)) (by decide) (backOf (W := 0) (rm15 l Z a0 hw [] (own_draw p1) T42.heap n0 Zn42 ) hZ (own_w hw 69 rfl) (own_w hw 2 rfl) (by decide) (by decide)) (g := (mkF m 95 #[vI p0, vI p1, vI p2, vI p3, vI v2, vI (p0 &&& (3 : Int32)), vI (own_draw p1), vI (own_draw p2), vI (own_draw p3), vR bq42, .unset] [(.int (own_draw p1))])) rfl (by rw [hml]; rfl) (argsL := [(.int (own_draw p1))]) (rest := []) (lenOf pd_13 rfl) rfl (by show 2 * 0 + _ ≤ _; exact Nat.le_of_eq rfl) (hb hby at_95) (fun _ _ => ⟨rfl, rfl, (by decide : 2 + 0 ≤ _), (by decide : 6 + 0 ≤ _)⟩)
            dsimp only [Pt.U, Pt.locs, Pt.cells, Pt.slots] at X48 lq48 yq48 zq48 st48 hQ48
            subst lq48 yq48 zq48
            obtain ⟨rfl, Nq48, eq48⟩ := hQ48
            have N48 := Fr.app N42 Nq48
            have ks49 := own_c ks47 st48
            obtain ⟨v51, hv51⟩ : ∃ z : Int32, z = (if (own_ok (own_draw p1)) = (0 : Int32) then (0 : Int32) else (1 : Int32)) := ⟨_, rfl⟩
            have ks52 : own_R p e below (A0) (T48.setTop (mkF m 106 #[vI p0, vI p1, vI p2, vI p3, vI v2, vI (p0 &&& (3 : Int32)), vI (own_draw p1), vI (own_draw p2), vI (own_draw p3), vR bq42, .unset] [(.int v51)])) := fun t k => ks49 t (by
              by_cases hc50 : (own_ok (own_draw p1)) = (0 : Int32)
              · skip
                have qq53 : v51 = (0 : Int32) := by rw [hv51, if_pos hc50]
                rw [qq53] at k
                refine XS.ifYes X48.here hx rfl (pc0 := 98) (pc' := 105) rfl (hb hby at_98) rfl ((if0 _ _).trans (teq hc50).1) (by decide) (by decide) ?_
                refine XS.iconst X48.here hx rfl (hb hby at_105) ?_
                exact k
              · skip
                have qq54 : v51 = (1 : Int32) := by rw [hv51, if_neg hc50]
                rw [qq54] at k
                refine XS.ifNo X48.here hx rfl (hb hby at_98) rfl ((if0 _ _).trans (feq hc50).1) ?_
                refine XS.iconst X48.here hx rfl (hb hby at_101) ?_
                refine XS.goto X48.here hx rfl (pc0 := 102) (pc' := 106) rfl (hb hby at_102) (by decide) (by decide) ?_
                exact k)
            have qq59 : v55 = v51 := by
              subst hv51
              rw [hv55, if_neg hc45]
            have ks60 : own_R p e below (A0) (T48.setTop (mkF m 106 #[vI p0, vI p1, vI p2, vI p3, vI v2, vI (p0 &&& (3 : Int32)), vI (own_draw p1), vI (own_draw p2), vI (own_draw p3), vR bq42, .unset] [(.int v55)])) := fun t k => ks52 t (by
              rw [qq59] at k
              exact k)
            exact ⟨T48, _, X48, N48, eq48, ks60⟩
        have ks61 : own_R p e below (A0) (T56.setTop (mkF m 239 #[vI p0, vI p1, vI p2, vI p3, vI v2, vI (p0 &&& (3 : Int32)), vI (own_draw p1), vI (own_draw p2), vI (own_draw p3), vR bq42, vI v55] [(.ref bq42)])) := fun t k => k56 t (by
          refine XS.istore X56.here hx rfl (hb hby at_106) rfl (l' := #[vI p0, vI p1, vI p2, vI p3, vI v2, vI (p0 &&& (3 : Int32)), vI (own_draw p1), vI (own_draw p2), vI (own_draw p3), vR bq42, vI v55]) rfl ?_
          refine XS.goto X56.here hx rfl (pc0 := 108) (pc' := 237) rfl (hb hby at_108) (by decide) (by decide) ?_
          refine XS.aload X56.here hx rfl (hb hby at_237) rfl rfl ?_
          exact k)
        have f63 := own_sta_keep S9 KH42
        have f64 := own_sta_keep S8 KH42
        have f65 := own_sta_keep S7a KH42
        have f66 := own_sta_keep S7b KH42
        have f67 := own_sta_keep S7c KH42
        obtain ⟨_, _, ⟨T62, L62, k62, n62⟩, -, X62, hT62, hgr62, ⟨Lc62, hQ62, lq62, yq62, zq62, ch62⟩, st62⟩ := callSS X56 hx (y := (⟨"com/example/rackline/rackline/core/Names", "isValid", "(Ljava/lang/String;)Z"⟩ : MethodName)) hown (mvT hZ (own_w hw 27 rfl)) (mvT hZ (own_w hw 28 rfl)) (mvT hZ (own_w hw 29 rfl)) (mvT hZ (own_w hw 30 rfl)) (by decide) (backOfSH (W := 0) (rm5_G1 l Z a0 hw [] bq42 y9 u8 tq42 _ kd42 zz42 _ (own_draw p1) T42.heap n0 Zn42 f63 P9 f64 I8 f65 f66 f67 Eq42 Fc42 Fv42 Vq42 hs42 (own_drawR p1)) hZ (own_w hw 30 rfl) (own_w hw 29 rfl) (by decide) (by decide) (own_EW hw) CR42.1) (g := (mkF m 239 #[vI p0, vI p1, vI p2, vI p3, vI v2, vI (p0 &&& (3 : Int32)), vI (own_draw p1), vI (own_draw p2), vI (own_draw p3), vR bq42, vI v55] [(.ref bq42)])) rfl (by rw [hml]; rfl) (argsL := [(.ref bq42)]) (rest := []) (lenOf pd_4 rfl) rfl (by show 2 * 0 + _ ≤ _; exact Nat.le_of_eq rfl) (hb hby at_239) (fun _ _ => ⟨rfl, e56, (by decide : 2 + 6 ≤ _), (by decide : 6 + 68 ≤ _)⟩)
        dsimp only [Pt.U, Pt.locs, Pt.cells, Pt.slots] at X62 lq62 yq62 zq62 st62 hQ62 hT62 hgr62 ch62
        subst lq62 yq62 zq62
        obtain ⟨X62, hS62, hZ, hown⟩ := rebS hS0 (by rw [e56]; exact hk42) X62 hT62 hgr62 hZ hown
        obtain ⟨rfl, Nq62, Kq62⟩ := hQ62
        have N62 := Fr.app N56 Nq62
        have KH62 : Keep h0 T62.heap [] := KH42.trans Kq62 all0
        have Zn62 : n0 ≤ T62.heap.size := Nat.le_trans Zn42 Kq62.1
        have CR62 := CR42.trans (ch62)
        have Sf62_bq42 := CHr.safe ch62 Eq42.lt Sf42_bq42
        have ks68 := own_ct ks61 st62
        have ks69 : own_R p e below (A0) (T62.setTop (mkF m 244 #[vI p0, vI p1, vI p2, vI p3, vI v2, vI (p0 &&& (3 : Int32)), vI (own_draw p1), vI (own_draw p2), vI (own_draw p3), vR bq42, vI v55] [(.int v55), (.int (own_val_G1 kd42 (own_draw p1)))])) := fun t k => ks68 t (by
          refine XS.iload X62.here hx rfl (hb hby at_242) rfl ?_
          exact k)
        by_cases hc70 : (own_val_G1 kd42 (own_draw p1)) = v55
        · skip
          have ks71 : own_R p e below (A0) (T62.setTop (mkF m 252 #[vI p0, vI p1, vI p2, vI p3, vI v2, vI (p0 &&& (3 : Int32)), vI (own_draw p1), vI (own_draw p2), vI (own_draw p3), vR bq42, vI v55] [(.int 1)])) := fun t k => ks69 t (by
            refine XS.icmpNo X62.here hx rfl (hb hby at_244) rfl (teq hc70).2 ?_
            refine XS.iconst X62.here hx rfl (hb hby at_247) ?_
            refine XS.goto X62.here hx rfl (pc0 := 248) (pc' := 252) rfl (hb hby at_248) (by decide) (by decide) ?_
            exact k)
          obtain ⟨fs, hr, hrun, hended, hEnd⟩ := X62.leaveW hS62 (Nat.le_refl T62.heap.size) (v := some (.int 1)) (fun h => by rw [Bd.returns] at h; cases h) hlk
          refine ⟨_, _, kz _ (ks71 _ ?_), hrun, hended, _, _, rfl, ?_, hEnd.1, hEnd.2.1, hEnd.2.2.1, hEnd.2.2.2.mono (by decide) (by decide)⟩
          · exact retN X62 hx (t := .boolean) Bd.returns (by simp) (hb hby at_252) hr
          · show Q0 Z p0 p1 p2 p3 y9 u8 h0 n0 _ T62.heap _
            exact ⟨rfl, N62⟩
        · skip
          have ks72 : own_R p e below (A0) (T62.setTop (mkF m 252 #[vI p0, vI p1, vI p2, vI p3, vI v2, vI (p0 &&& (3 : Int32)), vI (own_draw p1), vI (own_draw p2), vI (own_draw p3), vR bq42, vI v55] [(.int 0)])) := fun t k => ks69 t (by
            refine XS.icmpYes X62.here hx rfl (pc0 := 244) (pc' := 251) rfl (hb hby at_244) rfl (feq hc70).2 (by decide) (by decide) ?_
            refine XS.iconst X62.here hx rfl (hb hby at_251) ?_
            exact k)
          obtain ⟨fs, hr, hrun, hended, hEnd⟩ := X62.leaveW hS62 (Nat.le_refl T62.heap.size) (v := some (.int 0)) (fun h => by rw [Bd.returns] at h; cases h) hlk
          refine ⟨_, _, kz _ (ks72 _ ?_), hrun, hended, _, _, rfl, ?_, hEnd.1, hEnd.2.1, hEnd.2.2.1, hEnd.2.2.2.mono (by decide) (by decide)⟩
          · exact retN X62 hx (t := .boolean) Bd.returns (by simp) (hb hby at_252) hr
          · show Q0 Z p0 p1 p2 p3 y9 u8 h0 n0 _ T62.heap _
            exfalso
            apply hc70
            rw [own_spec_G1 _ (own_draw p1) hs42 (own_drawR p1), hv55]
      · skip
        have ks73 : own_R p e below (A0) (T14.setTop (mkF m 114 #[vI p0, vI p1, vI p2, vI p3, vI v2, vI (p0 &&& (3 : Int32)), vI (own_draw p1), vI (own_draw p2), vI (own_draw p3), .unset, .unset] [(.int 2), (.int (p0 &&& (3 : Int32)))])) := fun t k => ks39 t (by
          refine XS.icmpYes X14.here hx rfl (pc0 := 76) (pc' := 111) rfl (hb hby at_76) rfl (feq hc40).2 (by decide) (by decide) ?_
          refine XS.iload X14.here hx rfl (hb hby at_111) rfl ?_
          refine XS.iconst X14.here hx rfl (hb hby at_113) ?_
          exact k)
        by_cases hc74 : (p0 &&& (3 : Int32)) = (2 : Int32)
        · skip
          have ks75 : own_R p e below (A0) (T14.setTop (mkF m 117 #[vI p0, vI p1, vI p2, vI p3, vI v2, vI (p0 &&& (3 : Int32)), vI (own_draw p1), vI (own_draw p2), vI (own_draw p3), .unset, .unset] [])) := fun t k => ks73 t (by
            refine XS.icmpNo X14.here hx rfl (hb hby at_114) rfl (teq hc74).2 ?_
            exact k)
          obtain ⟨T76, h76, X76, e76, E76, A76, D76, -, st76⟩ := newO X14 hx hZ hown (own_w hw 5 rfl) (own_w hw 6 rfl) (own_w hw 7 rfl) eq14 (g := (mkF m 117 #[vI p0, vI p1, vI p2, vI p3, vI v2, vI (p0 &&& (3 : Int32)), vI (own_draw p1), vI (own_draw p2), vI (own_draw p3), .unset, .unset] [])) rfl (hb hby at_117) (by decide) (by decide)
          obtain ⟨b76, g76⟩ : ∃ z, z = h0.size := ⟨_, rfl⟩
          rw [← g76] at A76 D76 st76
          have g_b76 : n0 ≤ b76 := Nat.le_trans Z0 (Nat.le_of_eq g76.symm)
          have sz_b76 : h0.size ≤ b76 := Nat.le_trans (Keep.refl h0 []).1 (Nat.le_of_eq g76.symm)
          have KH76 : Keep h0 h76 [] := (Keep.refl h0 []).ext E76
          have Zn76 : n0 ≤ h76.size := Nat.le_trans Z0 E76.1
          have hk76 := Nat.le_trans hk0 E76.1
          have CR76 := CR0.trans (CHr.ext E76 CR0.1)
          have Sf76_b76 := Safe.ext E76 CR0.1 (Safe.new (Nat.le_of_eq g76.symm))
          have F_value_b76 : Fld Z h76 b76 "java/lang/String" "value" "[B" .null := D76 (Or.inr (own_w hw 21 rfl)) (ty := (.array .byte)) (by decide)
          have F_coder_b76 : Fld Z h76 b76 "java/lang/String" "coder" "B" (.int 0) := D76 (Or.inr (own_w hw 22 rfl)) (ty := .byte) (by decide)
          have ks77 := own_c ks75 st76
          have ks78 : own_R p e below (A0) (T76.setTop (mkF m 122 #[vI p0, vI p1, vI p2, vI p3, vI v2, vI (p0 &&& (3 : Int32)), vI (own_draw p1), vI (own_draw p2), vI (own_draw p3), .unset, .unset] [(.int 2), (.ref b76), (.ref b76)])) := fun t k => ks77 t (by
            refine XS.dup X76.here hx rfl (hb hby at_120) rfl rfl ?_
            refine XS.iconst X76.here hx rfl (hb hby at_121) ?_
            exact k)
          obtain ⟨T79, h79, c79, X79, e79, E79, A79, st79⟩ := newP X76 hx hZ (own_w hw 8 rfl) e76 (g := (mkF m 122 #[vI p0, vI p1, vI p2, vI p3, vI v2, vI (p0 &&& (3 : Int32)), vI (own_draw p1), vI (own_draw p2), vI (own_draw p3), .unset, .unset] [(.int 2), (.ref b76), (.ref b76)])) rfl (hb hby at_122) rfl (by decide) (cap := 2) (by decide) (by decide) (by decide) (by decide)
          obtain ⟨b79, g79⟩ : ∃ z, z = h76.size := ⟨_, rfl⟩
          rw [← g79] at A79 st79
          have ne_b76_b79 : b76 ≠ b79 := Nat.ne_of_lt (Nat.lt_of_lt_of_le A76.lt (Nat.le_of_eq g79.symm))
          have g_b79 : n0 ≤ b79 := Nat.le_trans Zn76 (Nat.le_of_eq g79.symm)
          have sz_b79 : h0.size ≤ b79 := Nat.le_trans KH76.1 (Nat.le_of_eq g79.symm)
          have KH79 : Keep h0 h79 [] := KH76.ext E79
          have Zn79 : n0 ≤ h79.size := Nat.le_trans Zn76 E79.1
          have hk79 := Nat.le_trans hk76 E79.1
          have CR79 := CR76.trans (CHr.ext E79 CR76.1)
          have Sf79_b76 := Safe.ext E79 CR76.1 Sf76_b76
          have Sf79_b79 := Safe.ext E79 CR76.1 (Safe.new (Nat.le_of_eq g79.symm))
          have V79 : Arv Z h79 b79 c79 .char (2 : Int32) [(.int (0 : Int32)), (.int (0 : Int32))] (.int (0 : Int32)) := (Arv.new A79 (by decide)).pad (pad_rep [] (.int (0 : Int32)) 2)
          have ks80 := own_c ks78 st79
          have ks81 : own_R p e below (A0) (T79.setTop (mkF m 128 #[vI p0, vI p1, vI p2, vI p3, vI v2, vI (p0 &&& (3 : Int32)), vI (own_draw p1), vI (own_draw p2), vI (own_draw p3), .unset, .unset] [(.int (own_draw p1)), (.int 0), (.ref b79), (.ref b79), (.ref b76), (.ref b76)])) := fun t k => ks80 t (by
            refine XS.dup X79.here hx rfl (hb hby at_124) rfl rfl ?_
            refine XS.iconst X79.here hx rfl (hb hby at_125) ?_
            refine XS.iload X79.here hx rfl (hb hby at_126) rfl ?_
            exact k)
          obtain ⟨cl82, Ar82, qa82, S82, Na82, Ha82, Ga82⟩ := id V79
          have hin82 : ¬ ((0 : Int32) < 0 ∨ cl82.slots.size ≤ ((0 : Int32)).toNatClampNeg) := inb_of S82 ⟨by decide, by decide⟩
          obtain ⟨T83, h83, X83, e83, W83, st83⟩ := stC X79 hx hZ e79 Ar82 (j := (0 : Int32)) hin82 (g := (mkF m 128 #[vI p0, vI p1, vI p2, vI p3, vI v2, vI (p0 &&& (3 : Int32)), vI (own_draw p1), vI (own_draw p2), vI (own_draw p3), .unset, .unset] [(.int (own_draw p1)), (.int 0), (.ref b79), (.ref b79), (.ref b76), (.ref b76)])) rfl rfl (hb hby at_128)
          have V83 : Arv Z h83 b79 c79 .char (2 : Int32) [(.int ((own_draw p1).toUInt32.toUInt16.toUInt32.toInt32)), (.int 0)] (.int (0 : Int32)) := Arv.set Ar82 qa82 S82 Na82 Ha82 Ga82 (fits_nar_char _) W83 0 rfl (Nat.le_of_ble_eq_true rfl)
          rw [(own_drawR p1)] at V83
          have KH83 : Keep h0 h83 [] := KH79.wr W83 (Or.inr sz_b79)
          have Zn83 : n0 ≤ h83.size := Nat.le_trans Zn79 (Keep.of_wr W83).1
          have hk83 := Nat.le_trans hk79 (Keep.of_wr W83).1
          have CR83 := CR79.trans (CHr.wr W83 Sf79_b79 CR79.1)
          have Sf83_b76 := Safe.wr W83 Sf79_b79 CR79.1 Sf79_b76
          have Sf83_b79 := Safe.wr W83 Sf79_b79 CR79.1 Sf79_b79
          have N83 := Fr.snoc X83 N14 g_b79
          have ks84 := own_c ks81 st83
          have ks85 : own_R p e below (A0) (T83.setTop (mkF m 133 #[vI p0, vI p1, vI p2, vI p3, vI v2, vI (p0 &&& (3 : Int32)), vI (own_draw p1), vI (own_draw p2), vI (own_draw p3), .unset, .unset] [(.int (own_draw p2)), (.int 1), (.ref b79), (.ref b79), (.ref b76), (.ref b76)])) := fun t k => ks84 t (by
            refine XS.dup X83.here hx rfl (hb hby at_129) rfl rfl ?_
            refine XS.iconst X83.here hx rfl (hb hby at_130) ?_
            refine XS.iload X83.here hx rfl (hb hby at_131) rfl ?_
            exact k)
          obtain ⟨cl86, Ar86, qa86, S86, Na86, Ha86, Ga86⟩ := id V83
          have hin86 : ¬ ((1 : Int32) < 0 ∨ cl86.slots.size ≤ ((1 : Int32)).toNatClampNeg) := inb_of S86 ⟨by decide, by decide⟩
          obtain ⟨T87, h87, X87, e87, W87, st87⟩ := stC X83 hx hZ e83 Ar86 (j := (1 : Int32)) hin86 (g := (mkF m 133 #[vI p0, vI p1, vI p2, vI p3, vI v2, vI (p0 &&& (3 : Int32)), vI (own_draw p1), vI (own_draw p2), vI (own_draw p3), .unset, .unset] [(.int (own_draw p2)), (.int 1), (.ref b79), (.ref b79), (.ref b76), (.ref b76)])) rfl rfl (hb hby at_133)
          have V87 : Arv Z h87 b79 c79 .char (2 : Int32) [(.int (own_draw p1)), (.int ((own_draw p2).toUInt32.toUInt16.toUInt32.toInt32))] (.int (0 : Int32)) := Arv.set Ar86 qa86 S86 Na86 Ha86 Ga86 (fits_nar_char _) W87 1 rfl (Nat.le_of_ble_eq_true rfl)
          rw [(own_drawR p2)] at V87
          have KH87 : Keep h0 h87 [] := KH83.wr W87 (Or.inr sz_b79)
          have Zn87 : n0 ≤ h87.size := Nat.le_trans Zn83 (Keep.of_wr W87).1
          have hk87 := Nat.le_trans hk83 (Keep.of_wr W87).1
          have CR87 := CR83.trans (CHr.wr W87 Sf83_b79 CR83.1)
          have Sf87_b76 := Safe.wr W87 Sf83_b79 CR83.1 Sf83_b76
          have Sf87_b79 := Safe.wr W87 Sf83_b79 CR83.1 Sf83_b79
          have N87 := Fr.snoc X87 N83 g_b79
          have ks88 := own_c ks85 st87
          have f90 := own_sta_keep S9 KH87
          have f91 := own_sta_keep S7a KH87
          have f92 := own_sta_keep S7b KH87
          have f93 := own_sta_keep S7c KH87
          have f94 := (((A76.ext E79).wr W83).wr W87)
          have f95 := (((F_coder_b76.ext E79).other W83 (Or.inl ne_b76_b79)).other W87 (Or.inl ne_b76_b79))
          have f96 := (((F_value_b76.ext E79).other W83 (Or.inl ne_b76_b79)).other W87 (Or.inl ne_b76_b79))
          obtain ⟨_, _, ⟨T89, L89, k89, n89⟩, -, X89, ⟨Lc89, hQ89, lq89, yq89, zq89⟩, st89⟩ := X87.specialBack hx (y := (⟨"java/lang/String", "<init>", "([C)V"⟩ : MethodName)) rfl hown (mvT hZ (own_w hw 9 rfl)) (mvT hZ (own_w hw 10 rfl)) (mvT hZ (own_w hw 11 rfl)) (by decide) (backOf (W := 1) (rm2_2G l Z a0 hw [] b76 b79 y9 _ (own_draw p1) (own_draw p2) h87 n0 Zn87 f90 P9 f91 f92 f93 f94 f95 f96 g_b76 ne_b76_b79 V87 (own_drawR p1) (own_drawR p2)) hZ (own_w hw 11 rfl) (own_w hw 7 rfl) (by decide) (by decide)) (g := (mkF m 134 #[vI p0, vI p1, vI p2, vI p3, vI v2, vI (p0 &&& (3 : Int32)), vI (own_draw p1), vI (own_draw p2), vI (own_draw p3), .unset, .unset] [(.ref b79), (.ref b76), (.ref b76)])) rfl (by rw [hml]; rfl) (Steps.refl _) (a := b76) (argsL := [(.ref b79)]) (rest := [(.ref b76)]) (lenOf pd_1 rfl) rfl (by show 2 * 0 + _ ≤ _; exact Nat.le_of_eq rfl) (hb hby at_134) (fun _ _ => ⟨rfl, e87, (by decide : 2 + 2 ≤ _), (by decide : 6 + 6 ≤ _)⟩)
          dsimp only [Pt.U, Pt.locs, Pt.cells, Pt.slots] at X89 lq89 yq89 zq89 st89 hQ89
          subst lq89 yq89 zq89
          obtain ⟨rfl, Nq89, Kq89, tq89, kq89, kd89, zz89, vv89, Fc89, Fv89, Vq89, hs89⟩ := hQ89
          have N89 := Fr.app N87 Nq89
          have KH89 : Keep h0 T89.heap [] := KH87.trans Kq89 (allS (Or.inr sz_b76) all0)
          have Zn89 : n0 ≤ T89.heap.size := Nat.le_trans Zn87 Kq89.1
          have hk89 := Nat.le_trans hk87 Kq89.1
          have CR89 := CR87.trans (CHr.keep Kq89 (allS Sf87_b76 all0) CR87.1)
          have Sf89_b76 := Safe.keep Kq89 (allS Sf87_b76 all0) CR87.1 Sf87_b76
          have Sf89_b79 := Safe.keep Kq89 (allS Sf87_b76 all0) CR87.1 Sf87_b79
          have ks97 := own_ct ks88 st89
          have ks98 : own_R p e below (A0) (T89.setTop (mkF m 143 #[vI p0, vI p1, vI p2, vI p3, vI v2, vI (p0 &&& (3 : Int32)), vI (own_draw p1), vI (own_draw p2), vI (own_draw p3), vR b76, .unset] [(.int 46), (.int (own_draw p1))])) := fun t k => ks97 t (by
            refine XS.astore X89.here hx rfl (hb hby at_137) rfl rfl (l' := #[vI p0, vI p1, vI p2, vI p3, vI v2, vI (p0 &&& (3 : Int32)), vI (own_draw p1), vI (own_draw p2), vI (own_draw p3), vR b76, .unset]) rfl ?_
            refine XS.iload X89.here hx rfl (hb hby at_139) rfl ?_
            refine XS.bipush X89.here hx rfl (hb hby at_141) ?_
            exact k)
          obtain ⟨v133, hv133⟩ : ∃ z : Int32, z = (if (own_draw p1) = (46 : Int32) then (if (own_draw p2) = (46 : Int32) then (0 : Int32) else (if (own_ok (own_draw p1)) = (0 : Int32) then (0 : Int32) else (if (own_ok (own_draw p2)) = (0 : Int32) then (0 : Int32) else (1 : Int32)))) else (if (own_ok (own_draw p1)) = (0 : Int32) then (0 : Int32) else (if (own_ok (own_draw p2)) = (0 : Int32) then (0 : Int32) else (1 : Int32)))) := ⟨_, rfl⟩
          obtain ⟨T134, L134, X134, N134, e134, k134⟩ : ∃ T' L', Stand p l e room_1 (s.setVm s.vm) m #[(.int p0), (.int p1), (.int p2), (.int p3)] below meth c T' L' 4 12 ∧ Fr n0 L' ∧ T'.heap = T89.heap ∧ own_R p e below (A0) (T'.setTop (mkF m 174 #[vI p0, vI p1, vI p2, vI p3, vI v2, vI (p0 &&& (3 : Int32)), vI (own_draw p1), vI (own_draw p2), vI (own_draw p3), vR b76, .unset] [(.int v133)])) := by
            by_cases hc99 : (own_draw p1) = (46 : Int32)
            · skip
              have ks100 : own_R p e below (A0) (T89.setTop (mkF m 150 #[vI p0, vI p1, vI p2, vI p3, vI v2, vI (p0 &&& (3 : Int32)), vI (own_draw p1), vI (own_draw p2), vI (own_draw p3), vR b76, .unset] [(.int 46), (.int (own_draw p2))])) := fun t k => ks98 t (by
                refine XS.icmpNo X89.here hx rfl (hb hby at_143) rfl (teq hc99).2 ?_
                refine XS.iload X89.here hx rfl (hb hby at_146) rfl ?_
                refine XS.bipush X89.here hx rfl (hb hby at_148) ?_
                exact k)
              by_cases hc101 : (own_draw p2) = (46 : Int32)
              · skip
                have ks102 : own_R p e below (A0) (T89.setTop (mkF m 174 #[vI p0, vI p1, vI p2, vI p3, vI v2, vI (p0 &&& (3 : Int32)), vI (own_draw p1), vI (own_draw p2), vI (own_draw p3), vR b76, .unset] [(.int 0)])) := fun t k => ks100 t (by
                  refine XS.icmpYes X89.here hx rfl (pc0 := 150) (pc' := 173) rfl (hb hby at_150) rfl (teq hc101).1 (by decide) (by decide) ?_
                  refine XS.iconst X89.here hx rfl (hb hby at_173) ?_
                  exact k)
                have qq135 : v133 = (0 : Int32) := by
                  rw [hv133, if_pos hc99, if_pos hc101]
                have ks136 : own_R p e below (A0) (T89.setTop (mkF m 174 #[vI p0, vI p1, vI p2, vI p3, vI v2, vI (p0 &&& (3 : Int32)), vI (own_draw p1), vI (own_draw p2), vI (own_draw p3), vR b76, .unset] [(.int v133)])) := fun t k => ks102 t (by
                  rw [qq135] at k
                  exact k)
                exact ⟨T89, _, X89, N89, rfl, ks136⟩
              · skip
                have ks103 : own_R p e below (A0) (T89.setTop (mkF m 155 #[vI p0, vI p1, vI p2, vI p3, vI v2, vI (p0 &&& (3 : Int32)), vI (own_draw p1), vI (own_draw p2), vI (own_draw p3), vR b76, .unset] [(.int (own_draw p1))])) := fun t k => ks100 t (by
                  refine XS.icmpNo X89.here hx rfl (hb hby at_150) rfl (feq hc101).1 ?_
                  refine XS.iload X89.here hx rfl (hb hby at_153) rfl ?_
                  exact k)
                have f105 := (f94.keep Kq89)
                have f106 := (V87.keep Kq89 (ninS (Ne.symm ne_b76_b79) nin0))
                obtain ⟨_, _, ⟨T104, L104, k104, n104⟩, -, X104, ⟨Lc104, hQ104, lq104, yq104, zq104⟩, st104⟩ := Jvm.LawKit.callS X89 hx (y := (⟨"com/example/rackline/rackline/core/NamesIsValidPinLaw", "ok", "(C)Z"⟩ : MethodName)) hown (mvT hZ (own_w hw 67 rfl)) (mvT hZ (own_w hw 68 rfl)) (mvT hZ (own_w hw 2 rfl)) (mvT hZ (own_w hw 69 rfl)) (by decide) (backOf (W := 0) (rm15 l Z a0 hw [] (own_draw p1) T89.heap n0 Zn89 ) hZ (own_w hw 69 rfl) (own_w hw 2 rfl) (by decide) (by decide)) (g := (mkF m 155 #[vI p0, vI p1, vI p2, vI p3, vI v2, vI (p0 &&& (3 : Int32)), vI (own_draw p1), vI (own_draw p2), vI (own_draw p3), vR b76, .unset] [(.int (own_draw p1))])) rfl (by rw [hml]; rfl) (argsL := [(.int (own_draw p1))]) (rest := []) (lenOf pd_13 rfl) rfl (by show 2 * 0 + _ ≤ _; exact Nat.le_of_eq rfl) (hb hby at_155) (fun _ _ => ⟨rfl, rfl, (by decide : 4 + 0 ≤ _), (by decide : 12 + 0 ≤ _)⟩)
                dsimp only [Pt.U, Pt.locs, Pt.cells, Pt.slots] at X104 lq104 yq104 zq104 st104 hQ104
                subst lq104 yq104 zq104
                obtain ⟨rfl, Nq104, eq104⟩ := hQ104
                have N104 := Fr.app N89 Nq104
                have ks107 := own_c ks103 st104
                by_cases hc108 : (own_ok (own_draw p1)) = (0 : Int32)
                · skip
                  have ks109 : own_R p e below (A0) (T104.setTop (mkF m 174 #[vI p0, vI p1, vI p2, vI p3, vI v2, vI (p0 &&& (3 : Int32)), vI (own_draw p1), vI (own_draw p2), vI (own_draw p3), vR b76, .unset] [(.int 0)])) := fun t k => ks107 t (by
                    refine XS.ifYes X104.here hx rfl (pc0 := 158) (pc' := 173) rfl (hb hby at_158) rfl ((if0 _ _).trans (teq hc108).1) (by decide) (by decide) ?_
                    refine XS.iconst X104.here hx rfl (hb hby at_173) ?_
                    exact k)
                  have qq137 : v133 = (0 : Int32) := by
                    rw [hv133, if_pos hc99, if_neg hc101, if_pos hc108]
                  have ks138 : own_R p e below (A0) (T104.setTop (mkF m 174 #[vI p0, vI p1, vI p2, vI p3, vI v2, vI (p0 &&& (3 : Int32)), vI (own_draw p1), vI (own_draw p2), vI (own_draw p3), vR b76, .unset] [(.int v133)])) := fun t k => ks109 t (by
                    rw [qq137] at k
                    exact k)
                  exact ⟨T104, _, X104, N104, eq104, ks138⟩
                · skip
                  have ks110 : own_R p e below (A0) (T104.setTop (mkF m 163 #[vI p0, vI p1, vI p2, vI p3, vI v2, vI (p0 &&& (3 : Int32)), vI (own_draw p1), vI (own_draw p2), vI (own_draw p3), vR b76, .unset] [(.int (own_draw p2))])) := fun t k => ks107 t (by
                    refine XS.ifNo X104.here hx rfl (hb hby at_158) rfl ((if0 _ _).trans (feq hc108).1) ?_
                    refine XS.iload X104.here hx rfl (hb hby at_161) rfl ?_
                    exact k)
                  obtain ⟨_, _, ⟨T111, L111, k111, n111⟩, -, X111, ⟨Lc111, hQ111, lq111, yq111, zq111⟩, st111⟩ := Jvm.LawKit.callS X104 hx (y := (⟨"com/example/rackline/rackline/core/NamesIsValidPinLaw", "ok", "(C)Z"⟩ : MethodName)) hown (mvT hZ (own_w hw 67 rfl)) (mvT hZ (own_w hw 68 rfl)) (mvT hZ (own_w hw 2 rfl)) (mvT hZ (own_w hw 69 rfl)) (by decide) (backOf (W := 0) (rm15 l Z a0 hw [] (own_draw p2) T89.heap n0 Zn89 ) hZ (own_w hw 69 rfl) (own_w hw 2 rfl) (by decide) (by decide)) (g := (mkF m 163 #[vI p0, vI p1, vI p2, vI p3, vI v2, vI (p0 &&& (3 : Int32)), vI (own_draw p1), vI (own_draw p2), vI (own_draw p3), vR b76, .unset] [(.int (own_draw p2))])) rfl (by rw [hml]; rfl) (argsL := [(.int (own_draw p2))]) (rest := []) (lenOf pd_13 rfl) rfl (by show 2 * 0 + _ ≤ _; exact Nat.le_of_eq rfl) (hb hby at_163) (fun _ _ => ⟨rfl, eq104, (by decide : 4 + 0 ≤ _), (by decide : 12 + 0 ≤ _)⟩)
                  dsimp only [Pt.U, Pt.locs, Pt.cells, Pt.slots] at X111 lq111 yq111 zq111 st111 hQ111
                  subst lq111 yq111 zq111
                  obtain ⟨rfl, Nq111, eq111⟩ := hQ111
                  have N111 := Fr.app N104 Nq111
                  have ks112 := own_c ks110 st111
                  obtain ⟨v114, hv114⟩ : ∃ z : Int32, z = (if (own_ok (own_draw p2)) = (0 : Int32) then (0 : Int32) else (1 : Int32)) := ⟨_, rfl⟩
                  have ks115 : own_R p e below (A0) (T111.setTop (mkF m 174 #[vI p0, vI p1, vI p2, vI p3, vI v2, vI (p0 &&& (3 : Int32)), vI (own_draw p1), vI (own_draw p2), vI (own_draw p3), vR b76, .unset] [(.int v114)])) := fun t k => ks112 t (by
                    by_cases hc113 : (own_ok (own_draw p2)) = (0 : Int32)
                    · skip
                      have qq116 : v114 = (0 : Int32) := by rw [hv114, if_pos hc113]
                      rw [qq116] at k
                      refine XS.ifYes X111.here hx rfl (pc0 := 166) (pc' := 173) rfl (hb hby at_166) rfl ((if0 _ _).trans (teq hc113).1) (by decide) (by decide) ?_
                      refine XS.iconst X111.here hx rfl (hb hby at_173) ?_
                      exact k
                    · skip
                      have qq117 : v114 = (1 : Int32) := by rw [hv114, if_neg hc113]
                      rw [qq117] at k
                      refine XS.ifNo X111.here hx rfl (hb hby at_166) rfl ((if0 _ _).trans (feq hc113).1) ?_
                      refine XS.iconst X111.here hx rfl (hb hby at_169) ?_
                      refine XS.goto X111.here hx rfl (pc0 := 170) (pc' := 174) rfl (hb hby at_170) (by decide) (by decide) ?_
                      exact k)
                  have qq139 : v133 = v114 := by
                    subst hv114
                    rw [hv133, if_pos hc99, if_neg hc101, if_neg hc108]
                  have ks140 : own_R p e below (A0) (T111.setTop (mkF m 174 #[vI p0, vI p1, vI p2, vI p3, vI v2, vI (p0 &&& (3 : Int32)), vI (own_draw p1), vI (own_draw p2), vI (own_draw p3), vR b76, .unset] [(.int v133)])) := fun t k => ks115 t (by
                    rw [qq139] at k
                    exact k)
                  exact ⟨T111, _, X111, N111, eq111, ks140⟩
            · skip
              have ks118 : own_R p e below (A0) (T89.setTop (mkF m 155 #[vI p0, vI p1, vI p2, vI p3, vI v2, vI (p0 &&& (3 : Int32)), vI (own_draw p1), vI (own_draw p2), vI (own_draw p3), vR b76, .unset] [(.int (own_draw p1))])) := fun t k => ks98 t (by
                refine XS.icmpYes X89.here hx rfl (pc0 := 143) (pc' := 153) rfl (hb hby at_143) rfl (feq hc99).2 (by decide) (by decide) ?_
                refine XS.iload X89.here hx rfl (hb hby at_153) rfl ?_
                exact k)
              have f120 := (f94.keep Kq89)
              have f121 := (V87.keep Kq89 (ninS (Ne.symm ne_b76_b79) nin0))
              obtain ⟨_, _, ⟨T119, L119, k119, n119⟩, -, X119, ⟨Lc119, hQ119, lq119, yq119, zq119⟩, st119⟩ := Jvm.LawKit.callS X89 hx (y := (⟨"com/example/rackline/rackline/core/NamesIsValidPinLaw", "ok", "(C)Z"⟩ : MethodName)) hown (mvT hZ (own_w hw 67 rfl)) (mvT hZ (own_w hw 68 rfl)) (mvT hZ (own_w hw 2 rfl)) (mvT hZ (own_w hw 69 rfl)) (by decide) (backOf (W := 0) (rm15 l Z a0 hw [] (own_draw p1) T89.heap n0 Zn89 ) hZ (own_w hw 69 rfl) (own_w hw 2 rfl) (by decide) (by decide)) (g := (mkF m 155 #[vI p0, vI p1, vI p2, vI p3, vI v2, vI (p0 &&& (3 : Int32)), vI (own_draw p1), vI (own_draw p2), vI (own_draw p3), vR b76, .unset] [(.int (own_draw p1))])) rfl (by rw [hml]; rfl) (argsL := [(.int (own_draw p1))]) (rest := []) (lenOf pd_13 rfl) rfl (by show 2 * 0 + _ ≤ _; exact Nat.le_of_eq rfl) (hb hby at_155) (fun _ _ => ⟨rfl, rfl, (by decide : 4 + 0 ≤ _), (by decide : 12 + 0 ≤ _)⟩)
              dsimp only [Pt.U, Pt.locs, Pt.cells, Pt.slots] at X119 lq119 yq119 zq119 st119 hQ119
              subst lq119 yq119 zq119
              obtain ⟨rfl, Nq119, eq119⟩ := hQ119
              have N119 := Fr.app N89 Nq119
              have ks122 := own_c ks118 st119
              by_cases hc123 : (own_ok (own_draw p1)) = (0 : Int32)
              · skip
                have ks124 : own_R p e below (A0) (T119.setTop (mkF m 174 #[vI p0, vI p1, vI p2, vI p3, vI v2, vI (p0 &&& (3 : Int32)), vI (own_draw p1), vI (own_draw p2), vI (own_draw p3), vR b76, .unset] [(.int 0)])) := fun t k => ks122 t (by
                  refine XS.ifYes X119.here hx rfl (pc0 := 158) (pc' := 173) rfl (hb hby at_158) rfl ((if0 _ _).trans (teq hc123).1) (by decide) (by decide) ?_
                  refine XS.iconst X119.here hx rfl (hb hby at_173) ?_
                  exact k)
                have qq141 : v133 = (0 : Int32) := by
                  rw [hv133, if_neg hc99, if_pos hc123]
                have ks142 : own_R p e below (A0) (T119.setTop (mkF m 174 #[vI p0, vI p1, vI p2, vI p3, vI v2, vI (p0 &&& (3 : Int32)), vI (own_draw p1), vI (own_draw p2), vI (own_draw p3), vR b76, .unset] [(.int v133)])) := fun t k => ks124 t (by
                  rw [qq141] at k
                  exact k)
                exact ⟨T119, _, X119, N119, eq119, ks142⟩
              · skip
                have ks125 : own_R p e below (A0) (T119.setTop (mkF m 163 #[vI p0, vI p1, vI p2, vI p3, vI v2, vI (p0 &&& (3 : Int32)), vI (own_draw p1), vI (own_draw p2), vI (own_draw p3), vR b76, .unset] [(.int (own_draw p2))])) := fun t k => ks122 t (by
                  refine XS.ifNo X119.here hx rfl (hb hby at_158) rfl ((if0 _ _).trans (feq hc123).1) ?_
                  refine XS.iload X119.here hx rfl (hb hby at_161) rfl ?_
                  exact k)
                obtain ⟨_, _, ⟨T126, L126, k126, n126⟩, -, X126, ⟨Lc126, hQ126, lq126, yq126, zq126⟩, st126⟩ := Jvm.LawKit.callS X119 hx (y := (⟨"com/example/rackline/rackline/core/NamesIsValidPinLaw", "ok", "(C)Z"⟩ : MethodName)) hown (mvT hZ (own_w hw 67 rfl)) (mvT hZ (own_w hw 68 rfl)) (mvT hZ (own_w hw 2 rfl)) (mvT hZ (own_w hw 69 rfl)) (by decide) (backOf (W := 0) (rm15 l Z a0 hw [] (own_draw p2) T89.heap n0 Zn89 ) hZ (own_w hw 69 rfl) (own_w hw 2 rfl) (by decide) (by decide)) (g := (mkF m 163 #[vI p0, vI p1, vI p2, vI p3, vI v2, vI (p0 &&& (3 : Int32)), vI (own_draw p1), vI (own_draw p2), vI (own_draw p3), vR b76, .unset] [(.int (own_draw p2))])) rfl (by rw [hml]; rfl) (argsL := [(.int (own_draw p2))]) (rest := []) (lenOf pd_13 rfl) rfl (by show 2 * 0 + _ ≤ _; exact Nat.le_of_eq rfl) (hb hby at_163) (fun _ _ => ⟨rfl, eq119, (by decide : 4 + 0 ≤ _), (by decide : 12 + 0 ≤ _)⟩)
                dsimp only [Pt.U, Pt.locs, Pt.cells, Pt.slots] at X126 lq126 yq126 zq126 st126 hQ126
                subst lq126 yq126 zq126
                obtain ⟨rfl, Nq126, eq126⟩ := hQ126
                have N126 := Fr.app N119 Nq126
                have ks127 := own_c ks125 st126
                obtain ⟨v129, hv129⟩ : ∃ z : Int32, z = (if (own_ok (own_draw p2)) = (0 : Int32) then (0 : Int32) else (1 : Int32)) := ⟨_, rfl⟩
                have ks130 : own_R p e below (A0) (T126.setTop (mkF m 174 #[vI p0, vI p1, vI p2, vI p3, vI v2, vI (p0 &&& (3 : Int32)), vI (own_draw p1), vI (own_draw p2), vI (own_draw p3), vR b76, .unset] [(.int v129)])) := fun t k => ks127 t (by
                  by_cases hc128 : (own_ok (own_draw p2)) = (0 : Int32)
                  · skip
                    have qq131 : v129 = (0 : Int32) := by rw [hv129, if_pos hc128]
                    rw [qq131] at k
                    refine XS.ifYes X126.here hx rfl (pc0 := 166) (pc' := 173) rfl (hb hby at_166) rfl ((if0 _ _).trans (teq hc128).1) (by decide) (by decide) ?_
                    refine XS.iconst X126.here hx rfl (hb hby at_173) ?_
                    exact k
                  · skip
                    have qq132 : v129 = (1 : Int32) := by rw [hv129, if_neg hc128]
                    rw [qq132] at k
                    refine XS.ifNo X126.here hx rfl (hb hby at_166) rfl ((if0 _ _).trans (feq hc128).1) ?_
                    refine XS.iconst X126.here hx rfl (hb hby at_169) ?_
                    refine XS.goto X126.here hx rfl (pc0 := 170) (pc' := 174) rfl (hb hby at_170) (by decide) (by decide) ?_
                    exact k)
                have qq143 : v133 = v129 := by
                  subst hv129
                  rw [hv133, if_neg hc99, if_neg hc123]
                have ks144 : own_R p e below (A0) (T126.setTop (mkF m 174 #[vI p0, vI p1, vI p2, vI p3, vI v2, vI (p0 &&& (3 : Int32)), vI (own_draw p1), vI (own_draw p2), vI (own_draw p3), vR b76, .unset] [(.int v133)])) := fun t k => ks130 t (by
                  rw [qq143] at k
                  exact k)
                exact ⟨T126, _, X126, N126, eq126, ks144⟩
          have ks145 : own_R p e below (A0) (T134.setTop (mkF m 239 #[vI p0, vI p1, vI p2, vI p3, vI v2, vI (p0 &&& (3 : Int32)), vI (own_draw p1), vI (own_draw p2), vI (own_draw p3), vR b76, vI v133] [(.ref b76)])) := fun t k => k134 t (by
            refine XS.istore X134.here hx rfl (hb hby at_174) rfl (l' := #[vI p0, vI p1, vI p2, vI p3, vI v2, vI (p0 &&& (3 : Int32)), vI (own_draw p1), vI (own_draw p2), vI (own_draw p3), vR b76, vI v133]) rfl ?_
            refine XS.goto X134.here hx rfl (pc0 := 176) (pc' := 237) rfl (hb hby at_176) (by decide) (by decide) ?_
            refine XS.aload X134.here hx rfl (hb hby at_237) rfl rfl ?_
            exact k)
          have f147 := (f94.keep Kq89)
          have f148 := own_sta_keep S9 KH89
          have f149 := own_sta_keep S8 KH89
          have f150 := own_sta_keep S7a KH89
          have f151 := own_sta_keep S7b KH89
          have f152 := own_sta_keep S7c KH89
          have f153 := (V87.keep Kq89 (ninS (Ne.symm ne_b76_b79) nin0))
          obtain ⟨_, _, ⟨T146, L146, k146, n146⟩, -, X146, hT146, hgr146, ⟨Lc146, hQ146, lq146, yq146, zq146, ch146⟩, st146⟩ := callSS X134 hx (y := (⟨"com/example/rackline/rackline/core/Names", "isValid", "(Ljava/lang/String;)Z"⟩ : MethodName)) hown (mvT hZ (own_w hw 27 rfl)) (mvT hZ (own_w hw 28 rfl)) (mvT hZ (own_w hw 29 rfl)) (mvT hZ (own_w hw 30 rfl)) (by decide) (backOfSH (W := 0) (rm5_G2 l Z a0 hw [] b76 y9 u8 tq89 _ kd89 zz89 _ (own_draw p1) (own_draw p2) T89.heap n0 Zn89 f148 P9 f149 I8 f150 f151 f152 f147 Fc89 Fv89 Vq89 hs89 (own_drawR p1) (own_drawR p2)) hZ (own_w hw 30 rfl) (own_w hw 29 rfl) (by decide) (by decide) (own_EW hw) CR89.1) (g := (mkF m 239 #[vI p0, vI p1, vI p2, vI p3, vI v2, vI (p0 &&& (3 : Int32)), vI (own_draw p1), vI (own_draw p2), vI (own_draw p3), vR b76, vI v133] [(.ref b76)])) rfl (by rw [hml]; rfl) (argsL := [(.ref b76)]) (rest := []) (lenOf pd_4 rfl) rfl (by show 2 * 0 + _ ≤ _; exact Nat.le_of_eq rfl) (hb hby at_239) (fun _ _ => ⟨rfl, e134, (by decide : 4 + 8 ≤ _), (by decide : 12 + 116 ≤ _)⟩)
          dsimp only [Pt.U, Pt.locs, Pt.cells, Pt.slots] at X146 lq146 yq146 zq146 st146 hQ146 hT146 hgr146 ch146
          subst lq146 yq146 zq146
          obtain ⟨X146, hS146, hZ, hown⟩ := rebS hS0 (by rw [e134]; exact hk89) X146 hT146 hgr146 hZ hown
          obtain ⟨rfl, Nq146, Kq146⟩ := hQ146
          have N146 := Fr.app N134 Nq146
          have KH146 : Keep h0 T146.heap [] := KH89.trans Kq146 all0
          have Zn146 : n0 ≤ T146.heap.size := Nat.le_trans Zn89 Kq146.1
          have CR146 := CR89.trans (ch146)
          have Sf146_b76 := CHr.safe ch146 f147.lt Sf89_b76
          have Sf146_b79 := CHr.safe ch146 f153.lt Sf89_b79
          have ks154 := own_ct ks145 st146
          have ks155 : own_R p e below (A0) (T146.setTop (mkF m 244 #[vI p0, vI p1, vI p2, vI p3, vI v2, vI (p0 &&& (3 : Int32)), vI (own_draw p1), vI (own_draw p2), vI (own_draw p3), vR b76, vI v133] [(.int v133), (.int (own_val_G2 kd89 (own_draw p1) (own_draw p2)))])) := fun t k => ks154 t (by
            refine XS.iload X146.here hx rfl (hb hby at_242) rfl ?_
            exact k)
          by_cases hc156 : (own_val_G2 kd89 (own_draw p1) (own_draw p2)) = v133
          · skip
            have ks157 : own_R p e below (A0) (T146.setTop (mkF m 252 #[vI p0, vI p1, vI p2, vI p3, vI v2, vI (p0 &&& (3 : Int32)), vI (own_draw p1), vI (own_draw p2), vI (own_draw p3), vR b76, vI v133] [(.int 1)])) := fun t k => ks155 t (by
              refine XS.icmpNo X146.here hx rfl (hb hby at_244) rfl (teq hc156).2 ?_
              refine XS.iconst X146.here hx rfl (hb hby at_247) ?_
              refine XS.goto X146.here hx rfl (pc0 := 248) (pc' := 252) rfl (hb hby at_248) (by decide) (by decide) ?_
              exact k)
            obtain ⟨fs, hr, hrun, hended, hEnd⟩ := X146.leaveW hS146 (Nat.le_refl T146.heap.size) (v := some (.int 1)) (fun h => by rw [Bd.returns] at h; cases h) hlk
            refine ⟨_, _, kz _ (ks157 _ ?_), hrun, hended, _, _, rfl, ?_, hEnd.1, hEnd.2.1, hEnd.2.2.1, hEnd.2.2.2.mono (by decide) (by decide)⟩
            · exact retN X146 hx (t := .boolean) Bd.returns (by simp) (hb hby at_252) hr
            · show Q0 Z p0 p1 p2 p3 y9 u8 h0 n0 _ T146.heap _
              exact ⟨rfl, N146⟩
          · skip
            have ks158 : own_R p e below (A0) (T146.setTop (mkF m 252 #[vI p0, vI p1, vI p2, vI p3, vI v2, vI (p0 &&& (3 : Int32)), vI (own_draw p1), vI (own_draw p2), vI (own_draw p3), vR b76, vI v133] [(.int 0)])) := fun t k => ks155 t (by
              refine XS.icmpYes X146.here hx rfl (pc0 := 244) (pc' := 251) rfl (hb hby at_244) rfl (feq hc156).2 (by decide) (by decide) ?_
              refine XS.iconst X146.here hx rfl (hb hby at_251) ?_
              exact k)
            obtain ⟨fs, hr, hrun, hended, hEnd⟩ := X146.leaveW hS146 (Nat.le_refl T146.heap.size) (v := some (.int 0)) (fun h => by rw [Bd.returns] at h; cases h) hlk
            refine ⟨_, _, kz _ (ks158 _ ?_), hrun, hended, _, _, rfl, ?_, hEnd.1, hEnd.2.1, hEnd.2.2.1, hEnd.2.2.2.mono (by decide) (by decide)⟩
            · exact retN X146 hx (t := .boolean) Bd.returns (by simp) (hb hby at_252) hr
            · show Q0 Z p0 p1 p2 p3 y9 u8 h0 n0 _ T146.heap _
              exfalso
              apply hc156
              rw [own_spec_G2 _ (own_draw p1) (own_draw p2) hs89 (own_drawR p1) (own_drawR p2), hv133]
              by_cases q0 : (own_draw p1) = (46 : Int32) <;> by_cases q1 : (own_draw p2) = (46 : Int32) <;> by_cases q2 : own_ok (own_draw p1) = (0 : Int32) <;> by_cases q3 : own_ok (own_draw p2) = (0 : Int32) <;> simp [q0, q1, q2, q3]
        · skip
          have ks159 : own_R p e below (A0) (T14.setTop (mkF m 179 #[vI p0, vI p1, vI p2, vI p3, vI v2, vI (p0 &&& (3 : Int32)), vI (own_draw p1), vI (own_draw p2), vI (own_draw p3), .unset, .unset] [])) := fun t k => ks73 t (by
            refine XS.icmpYes X14.here hx rfl (pc0 := 114) (pc' := 179) rfl (hb hby at_114) rfl (feq hc74).2 (by decide) (by decide) ?_
            exact k)
          obtain ⟨T160, h160, X160, e160, E160, A160, D160, -, st160⟩ := newO X14 hx hZ hown (own_w hw 5 rfl) (own_w hw 6 rfl) (own_w hw 7 rfl) eq14 (g := (mkF m 179 #[vI p0, vI p1, vI p2, vI p3, vI v2, vI (p0 &&& (3 : Int32)), vI (own_draw p1), vI (own_draw p2), vI (own_draw p3), .unset, .unset] [])) rfl (hb hby at_179) (by decide) (by decide)
          obtain ⟨b160, g160⟩ : ∃ z, z = h0.size := ⟨_, rfl⟩
          rw [← g160] at A160 D160 st160
          have g_b160 : n0 ≤ b160 := Nat.le_trans Z0 (Nat.le_of_eq g160.symm)
          have sz_b160 : h0.size ≤ b160 := Nat.le_trans (Keep.refl h0 []).1 (Nat.le_of_eq g160.symm)
          have KH160 : Keep h0 h160 [] := (Keep.refl h0 []).ext E160
          have Zn160 : n0 ≤ h160.size := Nat.le_trans Z0 E160.1
          have hk160 := Nat.le_trans hk0 E160.1
          have CR160 := CR0.trans (CHr.ext E160 CR0.1)
          have Sf160_b160 := Safe.ext E160 CR0.1 (Safe.new (Nat.le_of_eq g160.symm))
          have F_value_b160 : Fld Z h160 b160 "java/lang/String" "value" "[B" .null := D160 (Or.inr (own_w hw 21 rfl)) (ty := (.array .byte)) (by decide)
          have F_coder_b160 : Fld Z h160 b160 "java/lang/String" "coder" "B" (.int 0) := D160 (Or.inr (own_w hw 22 rfl)) (ty := .byte) (by decide)
          have ks161 := own_c ks159 st160
          have ks162 : own_R p e below (A0) (T160.setTop (mkF m 184 #[vI p0, vI p1, vI p2, vI p3, vI v2, vI (p0 &&& (3 : Int32)), vI (own_draw p1), vI (own_draw p2), vI (own_draw p3), .unset, .unset] [(.int 3), (.ref b160), (.ref b160)])) := fun t k => ks161 t (by
            refine XS.dup X160.here hx rfl (hb hby at_182) rfl rfl ?_
            refine XS.iconst X160.here hx rfl (hb hby at_183) ?_
            exact k)
          obtain ⟨T163, h163, c163, X163, e163, E163, A163, st163⟩ := newP X160 hx hZ (own_w hw 8 rfl) e160 (g := (mkF m 184 #[vI p0, vI p1, vI p2, vI p3, vI v2, vI (p0 &&& (3 : Int32)), vI (own_draw p1), vI (own_draw p2), vI (own_draw p3), .unset, .unset] [(.int 3), (.ref b160), (.ref b160)])) rfl (hb hby at_184) rfl (by decide) (cap := 3) (by decide) (by decide) (by decide) (by decide)
          obtain ⟨b163, g163⟩ : ∃ z, z = h160.size := ⟨_, rfl⟩
          rw [← g163] at A163 st163
          have ne_b160_b163 : b160 ≠ b163 := Nat.ne_of_lt (Nat.lt_of_lt_of_le A160.lt (Nat.le_of_eq g163.symm))
          have g_b163 : n0 ≤ b163 := Nat.le_trans Zn160 (Nat.le_of_eq g163.symm)
          have sz_b163 : h0.size ≤ b163 := Nat.le_trans KH160.1 (Nat.le_of_eq g163.symm)
          have KH163 : Keep h0 h163 [] := KH160.ext E163
          have Zn163 : n0 ≤ h163.size := Nat.le_trans Zn160 E163.1
          have hk163 := Nat.le_trans hk160 E163.1
          have CR163 := CR160.trans (CHr.ext E163 CR160.1)
          have Sf163_b160 := Safe.ext E163 CR160.1 Sf160_b160
          have Sf163_b163 := Safe.ext E163 CR160.1 (Safe.new (Nat.le_of_eq g163.symm))
          have V163 : Arv Z h163 b163 c163 .char (3 : Int32) [(.int (0 : Int32)), (.int (0 : Int32)), (.int (0 : Int32))] (.int (0 : Int32)) := (Arv.new A163 (by decide)).pad (pad_rep [] (.int (0 : Int32)) 3)
          have ks164 := own_c ks162 st163
          have ks165 : own_R p e below (A0) (T163.setTop (mkF m 190 #[vI p0, vI p1, vI p2, vI p3, vI v2, vI (p0 &&& (3 : Int32)), vI (own_draw p1), vI (own_draw p2), vI (own_draw p3), .unset, .unset] [(.int (own_draw p1)), (.int 0), (.ref b163), (.ref b163), (.ref b160), (.ref b160)])) := fun t k => ks164 t (by
            refine XS.dup X163.here hx rfl (hb hby at_186) rfl rfl ?_
            refine XS.iconst X163.here hx rfl (hb hby at_187) ?_
            refine XS.iload X163.here hx rfl (hb hby at_188) rfl ?_
            exact k)
          obtain ⟨cl166, Ar166, qa166, S166, Na166, Ha166, Ga166⟩ := id V163
          have hin166 : ¬ ((0 : Int32) < 0 ∨ cl166.slots.size ≤ ((0 : Int32)).toNatClampNeg) := inb_of S166 ⟨by decide, by decide⟩
          obtain ⟨T167, h167, X167, e167, W167, st167⟩ := stC X163 hx hZ e163 Ar166 (j := (0 : Int32)) hin166 (g := (mkF m 190 #[vI p0, vI p1, vI p2, vI p3, vI v2, vI (p0 &&& (3 : Int32)), vI (own_draw p1), vI (own_draw p2), vI (own_draw p3), .unset, .unset] [(.int (own_draw p1)), (.int 0), (.ref b163), (.ref b163), (.ref b160), (.ref b160)])) rfl rfl (hb hby at_190)
          have V167 : Arv Z h167 b163 c163 .char (3 : Int32) [(.int ((own_draw p1).toUInt32.toUInt16.toUInt32.toInt32)), (.int 0), (.int 0)] (.int (0 : Int32)) := Arv.set Ar166 qa166 S166 Na166 Ha166 Ga166 (fits_nar_char _) W167 0 rfl (Nat.le_of_ble_eq_true rfl)
          rw [(own_drawR p1)] at V167
          have KH167 : Keep h0 h167 [] := KH163.wr W167 (Or.inr sz_b163)
          have Zn167 : n0 ≤ h167.size := Nat.le_trans Zn163 (Keep.of_wr W167).1
          have hk167 := Nat.le_trans hk163 (Keep.of_wr W167).1
          have CR167 := CR163.trans (CHr.wr W167 Sf163_b163 CR163.1)
          have Sf167_b160 := Safe.wr W167 Sf163_b163 CR163.1 Sf163_b160
          have Sf167_b163 := Safe.wr W167 Sf163_b163 CR163.1 Sf163_b163
          have N167 := Fr.snoc X167 N14 g_b163
          have ks168 := own_c ks165 st167
          have ks169 : own_R p e below (A0) (T167.setTop (mkF m 195 #[vI p0, vI p1, vI p2, vI p3, vI v2, vI (p0 &&& (3 : Int32)), vI (own_draw p1), vI (own_draw p2), vI (own_draw p3), .unset, .unset] [(.int (own_draw p2)), (.int 1), (.ref b163), (.ref b163), (.ref b160), (.ref b160)])) := fun t k => ks168 t (by
            refine XS.dup X167.here hx rfl (hb hby at_191) rfl rfl ?_
            refine XS.iconst X167.here hx rfl (hb hby at_192) ?_
            refine XS.iload X167.here hx rfl (hb hby at_193) rfl ?_
            exact k)
          obtain ⟨cl170, Ar170, qa170, S170, Na170, Ha170, Ga170⟩ := id V167
          have hin170 : ¬ ((1 : Int32) < 0 ∨ cl170.slots.size ≤ ((1 : Int32)).toNatClampNeg) := inb_of S170 ⟨by decide, by decide⟩
          obtain ⟨T171, h171, X171, e171, W171, st171⟩ := stC X167 hx hZ e167 Ar170 (j := (1 : Int32)) hin170 (g := (mkF m 195 #[vI p0, vI p1, vI p2, vI p3, vI v2, vI (p0 &&& (3 : Int32)), vI (own_draw p1), vI (own_draw p2), vI (own_draw p3), .unset, .unset] [(.int (own_draw p2)), (.int 1), (.ref b163), (.ref b163), (.ref b160), (.ref b160)])) rfl rfl (hb hby at_195)
          have V171 : Arv Z h171 b163 c163 .char (3 : Int32) [(.int (own_draw p1)), (.int ((own_draw p2).toUInt32.toUInt16.toUInt32.toInt32)), (.int 0)] (.int (0 : Int32)) := Arv.set Ar170 qa170 S170 Na170 Ha170 Ga170 (fits_nar_char _) W171 1 rfl (Nat.le_of_ble_eq_true rfl)
          rw [(own_drawR p2)] at V171
          have KH171 : Keep h0 h171 [] := KH167.wr W171 (Or.inr sz_b163)
          have Zn171 : n0 ≤ h171.size := Nat.le_trans Zn167 (Keep.of_wr W171).1
          have hk171 := Nat.le_trans hk167 (Keep.of_wr W171).1
          have CR171 := CR167.trans (CHr.wr W171 Sf167_b163 CR167.1)
          have Sf171_b160 := Safe.wr W171 Sf167_b163 CR167.1 Sf167_b160
          have Sf171_b163 := Safe.wr W171 Sf167_b163 CR167.1 Sf167_b163
          have N171 := Fr.snoc X171 N167 g_b163
          have ks172 := own_c ks169 st171
          have ks173 : own_R p e below (A0) (T171.setTop (mkF m 200 #[vI p0, vI p1, vI p2, vI p3, vI v2, vI (p0 &&& (3 : Int32)), vI (own_draw p1), vI (own_draw p2), vI (own_draw p3), .unset, .unset] [(.int (own_draw p3)), (.int 2), (.ref b163), (.ref b163), (.ref b160), (.ref b160)])) := fun t k => ks172 t (by
            refine XS.dup X171.here hx rfl (hb hby at_196) rfl rfl ?_
            refine XS.iconst X171.here hx rfl (hb hby at_197) ?_
            refine XS.iload X171.here hx rfl (hb hby at_198) rfl ?_
            exact k)
          obtain ⟨cl174, Ar174, qa174, S174, Na174, Ha174, Ga174⟩ := id V171
          have hin174 : ¬ ((2 : Int32) < 0 ∨ cl174.slots.size ≤ ((2 : Int32)).toNatClampNeg) := inb_of S174 ⟨by decide, by decide⟩
          obtain ⟨T175, h175, X175, e175, W175, st175⟩ := stC X171 hx hZ e171 Ar174 (j := (2 : Int32)) hin174 (g := (mkF m 200 #[vI p0, vI p1, vI p2, vI p3, vI v2, vI (p0 &&& (3 : Int32)), vI (own_draw p1), vI (own_draw p2), vI (own_draw p3), .unset, .unset] [(.int (own_draw p3)), (.int 2), (.ref b163), (.ref b163), (.ref b160), (.ref b160)])) rfl rfl (hb hby at_200)
          have V175 : Arv Z h175 b163 c163 .char (3 : Int32) [(.int (own_draw p1)), (.int (own_draw p2)), (.int ((own_draw p3).toUInt32.toUInt16.toUInt32.toInt32))] (.int (0 : Int32)) := Arv.set Ar174 qa174 S174 Na174 Ha174 Ga174 (fits_nar_char _) W175 2 rfl (Nat.le_of_ble_eq_true rfl)
          rw [(own_drawR p3)] at V175
          have KH175 : Keep h0 h175 [] := KH171.wr W175 (Or.inr sz_b163)
          have Zn175 : n0 ≤ h175.size := Nat.le_trans Zn171 (Keep.of_wr W175).1
          have hk175 := Nat.le_trans hk171 (Keep.of_wr W175).1
          have CR175 := CR171.trans (CHr.wr W175 Sf171_b163 CR171.1)
          have Sf175_b160 := Safe.wr W175 Sf171_b163 CR171.1 Sf171_b160
          have Sf175_b163 := Safe.wr W175 Sf171_b163 CR171.1 Sf171_b163
          have N175 := Fr.snoc X175 N171 g_b163
          have ks176 := own_c ks173 st175
          have f178 := own_sta_keep S9 KH175
          have f179 := own_sta_keep S7a KH175
          have f180 := own_sta_keep S7b KH175
          have f181 := own_sta_keep S7c KH175
          have f182 := ((((A160.ext E163).wr W167).wr W171).wr W175)
          have f183 := ((((F_coder_b160.ext E163).other W167 (Or.inl ne_b160_b163)).other W171 (Or.inl ne_b160_b163)).other W175 (Or.inl ne_b160_b163))
          have f184 := ((((F_value_b160.ext E163).other W167 (Or.inl ne_b160_b163)).other W171 (Or.inl ne_b160_b163)).other W175 (Or.inl ne_b160_b163))
          obtain ⟨_, _, ⟨T177, L177, k177, n177⟩, -, X177, ⟨Lc177, hQ177, lq177, yq177, zq177⟩, st177⟩ := X175.specialBack hx (y := (⟨"java/lang/String", "<init>", "([C)V"⟩ : MethodName)) rfl hown (mvT hZ (own_w hw 9 rfl)) (mvT hZ (own_w hw 10 rfl)) (mvT hZ (own_w hw 11 rfl)) (by decide) (backOf (W := 1) (rm2_3G l Z a0 hw [] b160 b163 y9 _ (own_draw p1) (own_draw p2) (own_draw p3) h175 n0 Zn175 f178 P9 f179 f180 f181 f182 f183 f184 g_b160 ne_b160_b163 V175 (own_drawR p1) (own_drawR p2) (own_drawR p3)) hZ (own_w hw 11 rfl) (own_w hw 7 rfl) (by decide) (by decide)) (g := (mkF m 201 #[vI p0, vI p1, vI p2, vI p3, vI v2, vI (p0 &&& (3 : Int32)), vI (own_draw p1), vI (own_draw p2), vI (own_draw p3), .unset, .unset] [(.ref b163), (.ref b160), (.ref b160)])) rfl (by rw [hml]; rfl) (Steps.refl _) (a := b160) (argsL := [(.ref b163)]) (rest := [(.ref b160)]) (lenOf pd_1 rfl) rfl (by show 2 * 0 + _ ≤ _; exact Nat.le_of_eq rfl) (hb hby at_201) (fun _ _ => ⟨rfl, e175, (by decide : 2 + 2 ≤ _), (by decide : 7 + 9 ≤ _)⟩)
          dsimp only [Pt.U, Pt.locs, Pt.cells, Pt.slots] at X177 lq177 yq177 zq177 st177 hQ177
          subst lq177 yq177 zq177
          obtain ⟨rfl, Nq177, Kq177, tq177, kq177, kd177, zz177, vv177, Fc177, Fv177, Vq177, hs177⟩ := hQ177
          have N177 := Fr.app N175 Nq177
          have KH177 : Keep h0 T177.heap [] := KH175.trans Kq177 (allS (Or.inr sz_b160) all0)
          have Zn177 : n0 ≤ T177.heap.size := Nat.le_trans Zn175 Kq177.1
          have hk177 := Nat.le_trans hk175 Kq177.1
          have CR177 := CR175.trans (CHr.keep Kq177 (allS Sf175_b160 all0) CR175.1)
          have Sf177_b160 := Safe.keep Kq177 (allS Sf175_b160 all0) CR175.1 Sf175_b160
          have Sf177_b163 := Safe.keep Kq177 (allS Sf175_b160 all0) CR175.1 Sf175_b163
          have ks185 := own_ct ks176 st177
          have ks186 : own_R p e below (A0) (T177.setTop (mkF m 208 #[vI p0, vI p1, vI p2, vI p3, vI v2, vI (p0 &&& (3 : Int32)), vI (own_draw p1), vI (own_draw p2), vI (own_draw p3), vR b160, .unset] [(.int (own_draw p1))])) := fun t k => ks185 t (by
            refine XS.astore X177.here hx rfl (hb hby at_204) rfl rfl (l' := #[vI p0, vI p1, vI p2, vI p3, vI v2, vI (p0 &&& (3 : Int32)), vI (own_draw p1), vI (own_draw p2), vI (own_draw p3), vR b160, .unset]) rfl ?_
            refine XS.iload X177.here hx rfl (hb hby at_206) rfl ?_
            exact k)
          have f188 := (f182.keep Kq177)
          have f189 := (V175.keep Kq177 (ninS (Ne.symm ne_b160_b163) nin0))
          obtain ⟨_, _, ⟨T187, L187, k187, n187⟩, -, X187, ⟨Lc187, hQ187, lq187, yq187, zq187⟩, st187⟩ := Jvm.LawKit.callS X177 hx (y := (⟨"com/example/rackline/rackline/core/NamesIsValidPinLaw", "ok", "(C)Z"⟩ : MethodName)) hown (mvT hZ (own_w hw 67 rfl)) (mvT hZ (own_w hw 68 rfl)) (mvT hZ (own_w hw 2 rfl)) (mvT hZ (own_w hw 69 rfl)) (by decide) (backOf (W := 0) (rm15 l Z a0 hw [] (own_draw p1) T177.heap n0 Zn177 ) hZ (own_w hw 69 rfl) (own_w hw 2 rfl) (by decide) (by decide)) (g := (mkF m 208 #[vI p0, vI p1, vI p2, vI p3, vI v2, vI (p0 &&& (3 : Int32)), vI (own_draw p1), vI (own_draw p2), vI (own_draw p3), vR b160, .unset] [(.int (own_draw p1))])) rfl (by rw [hml]; rfl) (argsL := [(.int (own_draw p1))]) (rest := []) (lenOf pd_13 rfl) rfl (by show 2 * 0 + _ ≤ _; exact Nat.le_of_eq rfl) (hb hby at_208) (fun _ _ => ⟨rfl, rfl, (by decide : 4 + 0 ≤ _), (by decide : 16 + 0 ≤ _)⟩)
          dsimp only [Pt.U, Pt.locs, Pt.cells, Pt.slots] at X187 lq187 yq187 zq187 st187 hQ187
          subst lq187 yq187 zq187
          obtain ⟨rfl, Nq187, eq187⟩ := hQ187
          have N187 := Fr.app N177 Nq187
          have ks190 := own_c ks186 st187
          obtain ⟨v206, hv206⟩ : ∃ z : Int32, z = (if (own_ok (own_draw p1)) = (0 : Int32) then (0 : Int32) else (if (own_ok (own_draw p2)) = (0 : Int32) then (0 : Int32) else (if (own_ok (own_draw p3)) = (0 : Int32) then (0 : Int32) else (1 : Int32)))) := ⟨_, rfl⟩
          obtain ⟨T207, L207, X207, N207, e207, k207⟩ : ∃ T' L', Stand p l e room_1 (s.setVm s.vm) m #[(.int p0), (.int p1), (.int p2), (.int p3)] below meth c T' L' 4 16 ∧ Fr n0 L' ∧ T'.heap = T177.heap ∧ own_R p e below (A0) (T'.setTop (mkF m 235 #[vI p0, vI p1, vI p2, vI p3, vI v2, vI (p0 &&& (3 : Int32)), vI (own_draw p1), vI (own_draw p2), vI (own_draw p3), vR b160, .unset] [(.int v206)])) := by
            by_cases hc191 : (own_ok (own_draw p1)) = (0 : Int32)
            · skip
              have ks192 : own_R p e below (A0) (T187.setTop (mkF m 235 #[vI p0, vI p1, vI p2, vI p3, vI v2, vI (p0 &&& (3 : Int32)), vI (own_draw p1), vI (own_draw p2), vI (own_draw p3), vR b160, .unset] [(.int 0)])) := fun t k => ks190 t (by
                refine XS.ifYes X187.here hx rfl (pc0 := 211) (pc' := 234) rfl (hb hby at_211) rfl ((if0 _ _).trans (teq hc191).1) (by decide) (by decide) ?_
                refine XS.iconst X187.here hx rfl (hb hby at_234) ?_
                exact k)
              have qq208 : v206 = (0 : Int32) := by
                rw [hv206, if_pos hc191]
              have ks209 : own_R p e below (A0) (T187.setTop (mkF m 235 #[vI p0, vI p1, vI p2, vI p3, vI v2, vI (p0 &&& (3 : Int32)), vI (own_draw p1), vI (own_draw p2), vI (own_draw p3), vR b160, .unset] [(.int v206)])) := fun t k => ks192 t (by
                rw [qq208] at k
                exact k)
              exact ⟨T187, _, X187, N187, eq187, ks209⟩
            · skip
              have ks193 : own_R p e below (A0) (T187.setTop (mkF m 216 #[vI p0, vI p1, vI p2, vI p3, vI v2, vI (p0 &&& (3 : Int32)), vI (own_draw p1), vI (own_draw p2), vI (own_draw p3), vR b160, .unset] [(.int (own_draw p2))])) := fun t k => ks190 t (by
                refine XS.ifNo X187.here hx rfl (hb hby at_211) rfl ((if0 _ _).trans (feq hc191).1) ?_
                refine XS.iload X187.here hx rfl (hb hby at_214) rfl ?_
                exact k)
              obtain ⟨_, _, ⟨T194, L194, k194, n194⟩, -, X194, ⟨Lc194, hQ194, lq194, yq194, zq194⟩, st194⟩ := Jvm.LawKit.callS X187 hx (y := (⟨"com/example/rackline/rackline/core/NamesIsValidPinLaw", "ok", "(C)Z"⟩ : MethodName)) hown (mvT hZ (own_w hw 67 rfl)) (mvT hZ (own_w hw 68 rfl)) (mvT hZ (own_w hw 2 rfl)) (mvT hZ (own_w hw 69 rfl)) (by decide) (backOf (W := 0) (rm15 l Z a0 hw [] (own_draw p2) T177.heap n0 Zn177 ) hZ (own_w hw 69 rfl) (own_w hw 2 rfl) (by decide) (by decide)) (g := (mkF m 216 #[vI p0, vI p1, vI p2, vI p3, vI v2, vI (p0 &&& (3 : Int32)), vI (own_draw p1), vI (own_draw p2), vI (own_draw p3), vR b160, .unset] [(.int (own_draw p2))])) rfl (by rw [hml]; rfl) (argsL := [(.int (own_draw p2))]) (rest := []) (lenOf pd_13 rfl) rfl (by show 2 * 0 + _ ≤ _; exact Nat.le_of_eq rfl) (hb hby at_216) (fun _ _ => ⟨rfl, eq187, (by decide : 4 + 0 ≤ _), (by decide : 16 + 0 ≤ _)⟩)
              dsimp only [Pt.U, Pt.locs, Pt.cells, Pt.slots] at X194 lq194 yq194 zq194 st194 hQ194
              subst lq194 yq194 zq194
              obtain ⟨rfl, Nq194, eq194⟩ := hQ194
              have N194 := Fr.app N187 Nq194
              have ks195 := own_c ks193 st194
              by_cases hc196 : (own_ok (own_draw p2)) = (0 : Int32)
              · skip
                have ks197 : own_R p e below (A0) (T194.setTop (mkF m 235 #[vI p0, vI p1, vI p2, vI p3, vI v2, vI (p0 &&& (3 : Int32)), vI (own_draw p1), vI (own_draw p2), vI (own_draw p3), vR b160, .unset] [(.int 0)])) := fun t k => ks195 t (by
                  refine XS.ifYes X194.here hx rfl (pc0 := 219) (pc' := 234) rfl (hb hby at_219) rfl ((if0 _ _).trans (teq hc196).1) (by decide) (by decide) ?_
                  refine XS.iconst X194.here hx rfl (hb hby at_234) ?_
                  exact k)
                have qq210 : v206 = (0 : Int32) := by
                  rw [hv206, if_neg hc191, if_pos hc196]
                have ks211 : own_R p e below (A0) (T194.setTop (mkF m 235 #[vI p0, vI p1, vI p2, vI p3, vI v2, vI (p0 &&& (3 : Int32)), vI (own_draw p1), vI (own_draw p2), vI (own_draw p3), vR b160, .unset] [(.int v206)])) := fun t k => ks197 t (by
                  rw [qq210] at k
                  exact k)
                exact ⟨T194, _, X194, N194, eq194, ks211⟩
              · skip
                have ks198 : own_R p e below (A0) (T194.setTop (mkF m 224 #[vI p0, vI p1, vI p2, vI p3, vI v2, vI (p0 &&& (3 : Int32)), vI (own_draw p1), vI (own_draw p2), vI (own_draw p3), vR b160, .unset] [(.int (own_draw p3))])) := fun t k => ks195 t (by
                  refine XS.ifNo X194.here hx rfl (hb hby at_219) rfl ((if0 _ _).trans (feq hc196).1) ?_
                  refine XS.iload X194.here hx rfl (hb hby at_222) rfl ?_
                  exact k)
                obtain ⟨_, _, ⟨T199, L199, k199, n199⟩, -, X199, ⟨Lc199, hQ199, lq199, yq199, zq199⟩, st199⟩ := Jvm.LawKit.callS X194 hx (y := (⟨"com/example/rackline/rackline/core/NamesIsValidPinLaw", "ok", "(C)Z"⟩ : MethodName)) hown (mvT hZ (own_w hw 67 rfl)) (mvT hZ (own_w hw 68 rfl)) (mvT hZ (own_w hw 2 rfl)) (mvT hZ (own_w hw 69 rfl)) (by decide) (backOf (W := 0) (rm15 l Z a0 hw [] (own_draw p3) T177.heap n0 Zn177 ) hZ (own_w hw 69 rfl) (own_w hw 2 rfl) (by decide) (by decide)) (g := (mkF m 224 #[vI p0, vI p1, vI p2, vI p3, vI v2, vI (p0 &&& (3 : Int32)), vI (own_draw p1), vI (own_draw p2), vI (own_draw p3), vR b160, .unset] [(.int (own_draw p3))])) rfl (by rw [hml]; rfl) (argsL := [(.int (own_draw p3))]) (rest := []) (lenOf pd_13 rfl) rfl (by show 2 * 0 + _ ≤ _; exact Nat.le_of_eq rfl) (hb hby at_224) (fun _ _ => ⟨rfl, eq194, (by decide : 4 + 0 ≤ _), (by decide : 16 + 0 ≤ _)⟩)
                dsimp only [Pt.U, Pt.locs, Pt.cells, Pt.slots] at X199 lq199 yq199 zq199 st199 hQ199
                subst lq199 yq199 zq199
                obtain ⟨rfl, Nq199, eq199⟩ := hQ199
                have N199 := Fr.app N194 Nq199
                have ks200 := own_c ks198 st199
                obtain ⟨v202, hv202⟩ : ∃ z : Int32, z = (if (own_ok (own_draw p3)) = (0 : Int32) then (0 : Int32) else (1 : Int32)) := ⟨_, rfl⟩
                have ks203 : own_R p e below (A0) (T199.setTop (mkF m 235 #[vI p0, vI p1, vI p2, vI p3, vI v2, vI (p0 &&& (3 : Int32)), vI (own_draw p1), vI (own_draw p2), vI (own_draw p3), vR b160, .unset] [(.int v202)])) := fun t k => ks200 t (by
                  by_cases hc201 : (own_ok (own_draw p3)) = (0 : Int32)
                  · skip
                    have qq204 : v202 = (0 : Int32) := by rw [hv202, if_pos hc201]
                    rw [qq204] at k
                    refine XS.ifYes X199.here hx rfl (pc0 := 227) (pc' := 234) rfl (hb hby at_227) rfl ((if0 _ _).trans (teq hc201).1) (by decide) (by decide) ?_
                    refine XS.iconst X199.here hx rfl (hb hby at_234) ?_
                    exact k
                  · skip
                    have qq205 : v202 = (1 : Int32) := by rw [hv202, if_neg hc201]
                    rw [qq205] at k
                    refine XS.ifNo X199.here hx rfl (hb hby at_227) rfl ((if0 _ _).trans (feq hc201).1) ?_
                    refine XS.iconst X199.here hx rfl (hb hby at_230) ?_
                    refine XS.goto X199.here hx rfl (pc0 := 231) (pc' := 235) rfl (hb hby at_231) (by decide) (by decide) ?_
                    exact k)
                have qq212 : v206 = v202 := by
                  subst hv202
                  rw [hv206, if_neg hc191, if_neg hc196]
                have ks213 : own_R p e below (A0) (T199.setTop (mkF m 235 #[vI p0, vI p1, vI p2, vI p3, vI v2, vI (p0 &&& (3 : Int32)), vI (own_draw p1), vI (own_draw p2), vI (own_draw p3), vR b160, .unset] [(.int v206)])) := fun t k => ks203 t (by
                  rw [qq212] at k
                  exact k)
                exact ⟨T199, _, X199, N199, eq199, ks213⟩
          have ks214 : own_R p e below (A0) (T207.setTop (mkF m 239 #[vI p0, vI p1, vI p2, vI p3, vI v2, vI (p0 &&& (3 : Int32)), vI (own_draw p1), vI (own_draw p2), vI (own_draw p3), vR b160, vI v206] [(.ref b160)])) := fun t k => k207 t (by
            refine XS.istore X207.here hx rfl (hb hby at_235) rfl (l' := #[vI p0, vI p1, vI p2, vI p3, vI v2, vI (p0 &&& (3 : Int32)), vI (own_draw p1), vI (own_draw p2), vI (own_draw p3), vR b160, vI v206]) rfl ?_
            refine XS.aload X207.here hx rfl (hb hby at_237) rfl rfl ?_
            exact k)
          have f216 := own_sta_keep S9 KH177
          have f217 := own_sta_keep S8 KH177
          have f218 := own_sta_keep S7a KH177
          have f219 := own_sta_keep S7b KH177
          have f220 := own_sta_keep S7c KH177
          obtain ⟨_, _, ⟨T215, L215, k215, n215⟩, -, X215, hT215, hgr215, ⟨Lc215, hQ215, lq215, yq215, zq215, ch215⟩, st215⟩ := callSS X207 hx (y := (⟨"com/example/rackline/rackline/core/Names", "isValid", "(Ljava/lang/String;)Z"⟩ : MethodName)) hown (mvT hZ (own_w hw 27 rfl)) (mvT hZ (own_w hw 28 rfl)) (mvT hZ (own_w hw 29 rfl)) (mvT hZ (own_w hw 30 rfl)) (by decide) (backOfSH (W := 0) (rm5_G3 l Z a0 hw [] b160 y9 u8 tq177 _ kd177 zz177 _ (own_draw p1) (own_draw p2) (own_draw p3) T177.heap n0 Zn177 f216 P9 f217 I8 f218 f219 f220 f188 Fc177 Fv177 Vq177 hs177 (own_drawR p1) (own_drawR p2) (own_drawR p3)) hZ (own_w hw 30 rfl) (own_w hw 29 rfl) (by decide) (by decide) (own_EW hw) CR177.1) (g := (mkF m 239 #[vI p0, vI p1, vI p2, vI p3, vI v2, vI (p0 &&& (3 : Int32)), vI (own_draw p1), vI (own_draw p2), vI (own_draw p3), vR b160, vI v206] [(.ref b160)])) rfl (by rw [hml]; rfl) (argsL := [(.ref b160)]) (rest := []) (lenOf pd_4 rfl) rfl (by show 2 * 0 + _ ≤ _; exact Nat.le_of_eq rfl) (hb hby at_239) (fun _ _ => ⟨rfl, e207, (by decide : 4 + 10 ≤ _), (by decide : 16 + 164 ≤ _)⟩)
          dsimp only [Pt.U, Pt.locs, Pt.cells, Pt.slots] at X215 lq215 yq215 zq215 st215 hQ215 hT215 hgr215 ch215
          subst lq215 yq215 zq215
          obtain ⟨X215, hS215, hZ, hown⟩ := rebS hS0 (by rw [e207]; exact hk177) X215 hT215 hgr215 hZ hown
          obtain ⟨rfl, Nq215, Kq215⟩ := hQ215
          have N215 := Fr.app N207 Nq215
          have KH215 : Keep h0 T215.heap [] := KH177.trans Kq215 all0
          have Zn215 : n0 ≤ T215.heap.size := Nat.le_trans Zn177 Kq215.1
          have CR215 := CR177.trans (ch215)
          have Sf215_b160 := CHr.safe ch215 f188.lt Sf177_b160
          have Sf215_b163 := CHr.safe ch215 f189.lt Sf177_b163
          have ks221 := own_ct ks214 st215
          have ks222 : own_R p e below (A0) (T215.setTop (mkF m 244 #[vI p0, vI p1, vI p2, vI p3, vI v2, vI (p0 &&& (3 : Int32)), vI (own_draw p1), vI (own_draw p2), vI (own_draw p3), vR b160, vI v206] [(.int v206), (.int (own_val_G3 kd177 (own_draw p1) (own_draw p2) (own_draw p3)))])) := fun t k => ks221 t (by
            refine XS.iload X215.here hx rfl (hb hby at_242) rfl ?_
            exact k)
          by_cases hc223 : (own_val_G3 kd177 (own_draw p1) (own_draw p2) (own_draw p3)) = v206
          · skip
            have ks224 : own_R p e below (A0) (T215.setTop (mkF m 252 #[vI p0, vI p1, vI p2, vI p3, vI v2, vI (p0 &&& (3 : Int32)), vI (own_draw p1), vI (own_draw p2), vI (own_draw p3), vR b160, vI v206] [(.int 1)])) := fun t k => ks222 t (by
              refine XS.icmpNo X215.here hx rfl (hb hby at_244) rfl (teq hc223).2 ?_
              refine XS.iconst X215.here hx rfl (hb hby at_247) ?_
              refine XS.goto X215.here hx rfl (pc0 := 248) (pc' := 252) rfl (hb hby at_248) (by decide) (by decide) ?_
              exact k)
            obtain ⟨fs, hr, hrun, hended, hEnd⟩ := X215.leaveW hS215 (Nat.le_refl T215.heap.size) (v := some (.int 1)) (fun h => by rw [Bd.returns] at h; cases h) hlk
            refine ⟨_, _, kz _ (ks224 _ ?_), hrun, hended, _, _, rfl, ?_, hEnd.1, hEnd.2.1, hEnd.2.2.1, hEnd.2.2.2.mono (by decide) (by decide)⟩
            · exact retN X215 hx (t := .boolean) Bd.returns (by simp) (hb hby at_252) hr
            · show Q0 Z p0 p1 p2 p3 y9 u8 h0 n0 _ T215.heap _
              exact ⟨rfl, N215⟩
          · skip
            have ks225 : own_R p e below (A0) (T215.setTop (mkF m 252 #[vI p0, vI p1, vI p2, vI p3, vI v2, vI (p0 &&& (3 : Int32)), vI (own_draw p1), vI (own_draw p2), vI (own_draw p3), vR b160, vI v206] [(.int 0)])) := fun t k => ks222 t (by
              refine XS.icmpYes X215.here hx rfl (pc0 := 244) (pc' := 251) rfl (hb hby at_244) rfl (feq hc223).2 (by decide) (by decide) ?_
              refine XS.iconst X215.here hx rfl (hb hby at_251) ?_
              exact k)
            obtain ⟨fs, hr, hrun, hended, hEnd⟩ := X215.leaveW hS215 (Nat.le_refl T215.heap.size) (v := some (.int 0)) (fun h => by rw [Bd.returns] at h; cases h) hlk
            refine ⟨_, _, kz _ (ks225 _ ?_), hrun, hended, _, _, rfl, ?_, hEnd.1, hEnd.2.1, hEnd.2.2.1, hEnd.2.2.2.mono (by decide) (by decide)⟩
            · exact retN X215 hx (t := .boolean) Bd.returns (by simp) (hb hby at_252) hr
            · show Q0 Z p0 p1 p2 p3 y9 u8 h0 n0 _ T215.heap _
              exfalso
              apply hc223
              rw [own_spec_G3 _ (own_draw p1) (own_draw p2) (own_draw p3) hs177 (own_drawR p1) (own_drawR p2) (own_drawR p3), hv206]
  · skip
    have ks226 : own_R p e below (A0) (T14.setTop (mkF m 239 #[vI p0, vI p1, vI p2, vI p3, vI v2, vI (p0 &&& (3 : Int32)), vI (own_draw p1), vI (own_draw p2), vI (own_draw p3), .val .null, vI 0] [.null])) := fun t k => ks16 t (by
      refine XS.ifNo X14.here hx rfl (hb hby at_38) rfl ((if0 _ _).trans (feq hc17).1) ?_
      refine XS.aconstNull X14.here hx rfl (hb hby at_41) ?_
      refine XS.astore X14.here hx rfl (hb hby at_42) rfl rfl (l' := #[vI p0, vI p1, vI p2, vI p3, vI v2, vI (p0 &&& (3 : Int32)), vI (own_draw p1), vI (own_draw p2), vI (own_draw p3), .val .null, .unset]) rfl ?_
      show Steps p.tables e below (T14.setTop (mkF m 44 #[vI p0, vI p1, vI p2, vI p3, vI v2, vI (p0 &&& (3 : Int32)), vI (own_draw p1), vI (own_draw p2), vI (own_draw p3), .val .null, .unset] [])) _
      refine XS.iconst X14.here hx rfl (hb hby at_44) ?_
      refine XS.istore X14.here hx rfl (hb hby at_45) rfl (l' := #[vI p0, vI p1, vI p2, vI p3, vI v2, vI (p0 &&& (3 : Int32)), vI (own_draw p1), vI (own_draw p2), vI (own_draw p3), .val .null, vI 0]) rfl ?_
      refine XS.goto X14.here hx rfl (pc0 := 47) (pc' := 237) rfl (hb hby at_47) (by decide) (by decide) ?_
      refine XS.aload X14.here hx rfl (hb hby at_237) rfl rfl ?_
      exact k)
    obtain ⟨_, _, ⟨T227, L227, k227, n227⟩, -, X227, ⟨Lc227, hQ227, lq227, yq227, zq227⟩, st227⟩ := Jvm.LawKit.callS X14 hx (y := (⟨"com/example/rackline/rackline/core/Names", "isValid", "(Ljava/lang/String;)Z"⟩ : MethodName)) hown (mvT hZ (own_w hw 27 rfl)) (mvT hZ (own_w hw 28 rfl)) (mvT hZ (own_w hw 29 rfl)) (mvT hZ (own_w hw 30 rfl)) (by decide) (backOf (W := 0) (rm5_n l Z a0 hw []  h0 n0 Z0 ) hZ (own_w hw 30 rfl) (own_w hw 29 rfl) (by decide) (by decide)) (g := (mkF m 239 #[vI p0, vI p1, vI p2, vI p3, vI v2, vI (p0 &&& (3 : Int32)), vI (own_draw p1), vI (own_draw p2), vI (own_draw p3), .val .null, vI 0] [.null])) rfl (by rw [hml]; rfl) (argsL := [.null]) (rest := []) (lenOf pd_4 rfl) rfl (by show 2 * 0 + _ ≤ _; exact Nat.le_of_eq rfl) (hb hby at_239) (fun _ _ => ⟨rfl, eq14, (by decide : 0 + 0 ≤ _), (by decide : 0 + 0 ≤ _)⟩)
    dsimp only [Pt.U, Pt.locs, Pt.cells, Pt.slots] at X227 lq227 yq227 zq227 st227 hQ227
    subst lq227 yq227 zq227
    obtain ⟨rfl, Nq227, eq227⟩ := hQ227
    have N227 := Fr.app N14 Nq227
    have ks228 := own_c ks226 st227
    have ks229 : own_R p e below (A0) (T227.setTop (mkF m 252 #[vI p0, vI p1, vI p2, vI p3, vI v2, vI (p0 &&& (3 : Int32)), vI (own_draw p1), vI (own_draw p2), vI (own_draw p3), .val .null, vI 0] [(.int 1)])) := fun t k => ks228 t (by
      refine XS.iload X227.here hx rfl (hb hby at_242) rfl ?_
      refine XS.icmpNo X227.here hx rfl (hb hby at_244) rfl (teq (by decide)).2 ?_
      refine XS.iconst X227.here hx rfl (hb hby at_247) ?_
      show Steps p.tables e below (T227.setTop (mkF m 248 #[vI p0, vI p1, vI p2, vI p3, vI v2, vI (p0 &&& (3 : Int32)), vI (own_draw p1), vI (own_draw p2), vI (own_draw p3), .val .null, vI 0] [(.int 1)])) _
      refine XS.goto X227.here hx rfl (pc0 := 248) (pc' := 252) rfl (hb hby at_248) (by decide) (by decide) ?_
      exact k)
    obtain ⟨fs, hr, hrun, hended, hEnd⟩ := X227.leaveW hS0 (by rw [eq227]; exact hk0) (v := some (.int 1)) (fun h => by rw [Bd.returns] at h; cases h) hlk
    refine ⟨_, _, kz _ (ks229 _ ?_), hrun, hended, _, _, rfl, ?_, hEnd.1, hEnd.2.1, hEnd.2.2.1, hEnd.2.2.2.mono (by decide) (by decide)⟩
    · exact retN X227 hx (t := .boolean) Bd.returns (by simp) (hb hby at_252) hr
    · show Q0 Z p0 p1 p2 p3 y9 u8 h0 n0 _ T227.heap _
      rw [eq227]
      exact ⟨rfl, N227⟩
set_option maxRecDepth 65536 in
set_option maxHeartbeats 40000000 in
theorem comes_1 {Post : Tables → Env → Array Value → State → Outcome → State → Prop} (hpost : ∀ tb e args s v u, (limb_1_1.after args s (.returned v) u = true ∧ limb_1_2.after args s (.returned v) u = true ∧ True) → ReturnedEndW s (.returned v) u (Jvm.fieldLocs frame_1_writes args s ++ Jvm.arrayLocs frame_1_arrays args s ++ Jvm.staticLocs frame_1_statics s) 24 4224 → Post tb e args s (.returned v) u) :
    ArmFor flags0 classFile x code maxLocals ret World_1 tables_1 room_1 Calls_1 rest_1 Pre_1 Post := by
  intro l hfl _ _ p e ha hc hk s m args below hf hA hF happ hP
  obtain ⟨hcalls, hrest, hpre⟩ := hP
  obtain ⟨-, -, -, hnamed, -, -, -, hat⟩ := (Spec.applies_iff hf).mp happ
  obtain ⟨hg, hn⟩ := and_e (Cond.before_iff.mp (show (Jvm.Cond.and given_1 narrow_1).before args s = true from hpre))
  obtain ⟨g1, g2⟩ := and_e hg
  obtain ⟨g3, g4⟩ := and_e g2
  obtain ⟨g5, g6⟩ := and_e g4
  obtain ⟨g7, g8⟩ := and_e g6
  obtain ⟨w0, w1, w2, w3, rfl⟩ : ∃ w0 w1 w2 w3 : Value, args = #[w0, w1, w2, w3] := by
    have hs : args.size = 4 := by simpa [Cond.value, given_1] using g1
    obtain ⟨L⟩ := args
    match L, hs with
    | [w0, w1, w2, w3], _ => exact ⟨w0, w1, w2, w3, rfl⟩
  have hw := fun d (hd : d ∈ tables_1) => atoms_spec (ws := Jvm.Cond.code x code maxLocals ret :: tables_1) hat d (List.mem_cons_of_mem _ hd)
  have hfit : Fit s := fun {y c} hc i hi => by
    obtain ⟨ha, rfl⟩ := Array.getElem?_eq_some_iff.mp hc
    have q := List.all_eq_true.mp ((Array.all_eq_true_iff_forall_mem.mp hF) _ (Array.getElem_mem ha)) i (List.mem_range.mpr hi)
    simpa [Array.getElem?_eq_getElem hi] using q
  obtain ⟨hsets, hown0⟩ := atoms_of _ (rest_1_c_eq ▸ (show rest_1_c.before _ s = true from hrest))
  have hr0 := Cond.before_iff.mp hown0
  obtain ⟨i0, ei0⟩ := is_v g3
  obtain rfl : w0 = (.int i0) := Option.some.inj ei0
  obtain ⟨i1, ei1⟩ := is_v g5
  obtain rfl : w1 = (.int i1) := Option.some.inj ei1
  obtain ⟨i2, ei2⟩ := is_v g7
  obtain rfl : w2 = (.int i2) := Option.some.inj ei2
  obtain ⟨i3, ei3⟩ := is_v g8
  obtain rfl : w3 = (.int i3) := Option.some.inj ei3
  obtain ⟨y9, ev9⟩ := is_v (Cond.before_iff.mp (hsets _ (List.mem_of_getElem? (i := 1) rfl)))
  have S9 := Sta.start ev9 (Or.inl (hsets _ (List.mem_of_getElem? (i := 0) rfl)))
  have P9 : ¬ y9 = (0 : Int32) := gotF (Cond.eq_ints ev9 (Term.int_eval 0)) (not_v (Cond.before_iff.mp (hsets _ (List.mem_of_getElem? (i := 2) rfl))))
  have hcw : Jvm.Lit.compactW.before _ s = true := (hsets _ (List.mem_of_getElem? (i := 2) rfl))
  have CH : Jvm.Lit.constsHeld consts_1 s := hcalls.1
  obtain ⟨u8, ev8, I8⟩ := isR_v (Cond.before_iff.mp (hsets _ (List.mem_of_getElem? (i := 8) rfl)))
  have S8 := Sta.start ev8 (Or.inl (hsets _ (List.mem_of_getElem? (i := 7) rfl)))
  have S7a := Sta.start (own_eqi (Cond.before_iff.mp (hsets _ (List.mem_of_getElem? (i := 12) rfl)))) (Or.inl (hsets _ (List.mem_of_getElem? (i := 11) rfl)))
  have S7b := Sta.start (own_eqi (Cond.before_iff.mp (hsets _ (List.mem_of_getElem? (i := 15) rfl)))) (Or.inl (hsets _ (List.mem_of_getElem? (i := 14) rfl)))
  have S7c := Sta.start (own_eqi (Cond.before_iff.mp (hsets _ (List.mem_of_getElem? (i := 18) rfl)))) (Or.inl (hsets _ (List.mem_of_getElem? (i := 17) rfl)))
  have hC0 : CHv s consts_1 s.vm s.heap := CHv.start (own_EW hw) CH hcw (own_w hw 20 rfl) (own_w hw 6 rfl)
  obtain ⟨n, o, h1, h2, h3, _, L, rfl, ⟨rfl, N⟩, hq⟩ := rm0 l s _ hw tables_1 i0 i1 i2 i3 y9 u8 s.heap s.heap.size (Nat.le_refl _) S9 P9 S8 I8 S7a S7b S7c p e ha hc hk s m _ below hf ((Spec.applies_iff_loose hf).mp happ).1 ⟨rfl, State.Warmed39.refl s, rfl, hC0⟩ trivial
  refine ⟨n, _, h1, h2, h3, hpost _ _ _ _ _ _ ⟨Cond.after_iff.mpr rfl, Cond.after_iff.mpr (eq_i res_at (Term.int_eval (1)) rfl), trivial⟩ ⟨hq.1, hq.2.1, hq.2.2.1, (hq.2.2.2.sift fun y hy => Or.inr (N y hy)).mono (by decide) (by decide)⟩⟩
theorem main_1_1 : Claimed_1_1 := comes_1 fun _ _ _ _ _ _ h hF => ⟨h.1, hF⟩
theorem main_1_2 : Claimed_1_2 := comes_1 fun _ _ _ _ _ _ h hF => ⟨h.2.1, hF⟩
end Jvm.Pilot.@@N@@
namespace Jvm.Pilot.@@N@@
open Jvm Jvm.ClassFile Sem Op Lib Jvm.Free Jvm.Stand Jvm.Pilot.@@N@@.Jvm.D
/-! MADE BY PROGRAM (witnessworld.py) out of the Statement's table words and the real class files: 21 classes; the members and pool entries that the words name. The judged class is class 1, her method 3. -/
namespace start1
open Jvm.ClassFile
def u (s : String) : CpInfo := .utf8 (stringToUtf16 s)
/-- a pool by its gaps: so many unusable entries, then the entry; so many at the end -/
def gap : Nat → List CpInfo → List CpInfo
  | 0, r => r
  | n + 1, r => .unusable :: gap n r
def poolList (es : List (Nat × CpInfo)) (last : Nat) : List CpInfo := es.foldr (fun e r => gap e.1 (e.2 :: r)) (gap last [])
def pool (es : List (Nat × CpInfo)) (last : Nat) : Array CpInfo := ⟨poolList es last⟩
def fileOf (pool : Array CpInfo) (this : Nat) (attrs : Array Attribute := #[]) (ms : Array MethodInfo := #[]) (fl : Nat := 33) (sup : Nat := 0) (ifs : Array Nat := #[]) (fds : Array FieldInfo := #[]) : ClassFile where
  minorVersion := 0
  majorVersion := 65
  constantPool := pool
  accessFlags := fl
  thisClass := this
  superClass := sup
  interfaces := ifs
  fields := fds
  methods := ms
  attributes := attrs
def plain (name : String) (sup : Option ClassId) : Class where
  name := name
  kind := .ordinary
  loader := none
  accessFlags := 33
  super := sup
  interfaces := #[]
  cf := none
  fields := #[]
  methods := #[]
  instanceTypes := #[]
  staticTypes := #[]
  resolved := #[]
  callSites := []
  init := .initialized
  statics := none
  mirror := none

def pool0 : Array CpInfo := pool [(5, u "<init>"), (0, u "()V"), (1, .class_ 10), (1, u "java/lang/Object")] 113

def k0c0 : Code := { maxStack := 0, maxLocals := 1, code := object_method_1_code, exceptionTable := #[], attributes := #[] }
def k0m0 : Method := { name := "<init>", desc := "()V", sig := { parameters := [], returnType := none }, accessFlags := 1, code := some k0c0 }
/-- java/lang/Object -/
def k0 : Class := { plain "java/lang/Object" none with
  accessFlags := 33
  interfaces := #[]
  cf := some (fileOf pool0 8 #[] #[{ accessFlags := 1, nameIndex := 5, descriptorIndex := 6, attributes := #[] }] 33 0 #[] #[])
  fields := #[]
  methods := #[k0m0]
  instanceTypes := #[]
  staticTypes := #[]
  resolved := Array.replicate 124 none
  statics := none }

def pool1 : Array CpInfo := pool [(2, .class_ 4), (1, u "java/lang/Object"), (0, u "<init>"), (0, u "()V"), (0, .integer 65536), (0, .integer 65535), (0, .methodref 10 11), (0, .class_ 12), (0, .nameAndType 13 14), (0, u "com/example/rackline/rackline/core/NamesIsValidPinLaw"), (0, u "draw"), (0, u "(I)C"), (0, .class_ 16), (0, u "java/lang/String"), (0, .methodref 15 18), (0, .nameAndType 5 19), (0, u "([C)V"), (0, .methodref 15 21), (0, .nameAndType 22 23), (0, u "valueOf"), (0, u "(C)Ljava/lang/String;"), (0, .methodref 10 25), (0, .nameAndType 26 27), (0, u "ok"), (0, u "(C)Z"), (0, .methodref 29 30), (0, .class_ 31), (0, .nameAndType 32 33), (0, u "com/example/rackline/rackline/core/Names"), (0, u "isValid"), (0, u "(Ljava/lang/String;)Z"), (3, u "law"), (0, u "(IIII)Z")] 2

def k1m0 : Method := { name := "<init>", desc := "()V", sig := { parameters := [], returnType := none }, accessFlags := 2, code := none }
def k1c1 : Code := { maxStack := 2, maxLocals := 1, code := method_2_code, exceptionTable := #[], attributes := #[] }
def k1m1 : Method := { name := "draw", desc := "(I)C", sig := { parameters := [.int], returnType := some .char }, accessFlags := 10, code := some k1c1 }
def k1c2 : Code := { maxStack := 2, maxLocals := 1, code := method_3_code, exceptionTable := #[], attributes := #[] }
def k1m2 : Method := { name := "ok", desc := "(C)Z", sig := { parameters := [.char], returnType := some .boolean }, accessFlags := 10, code := some k1c2 }
def k1c3 : Code := { maxStack := 6, maxLocals := 11, code := code, exceptionTable := #[], attributes := #[] }
def k1m3 : Method := { name := "law", desc := "(IIII)Z", sig := { parameters := [.int, .int, .int, .int], returnType := some .boolean }, accessFlags := 9, code := some k1c3 }
/-- com/example/rackline/rackline/core/NamesIsValidPinLaw -/
def k1 : Class := { plain "com/example/rackline/rackline/core/NamesIsValidPinLaw" (some 0) with
  accessFlags := 49
  interfaces := #[]
  cf := some (fileOf pool1 10 #[] #[{ accessFlags := 2, nameIndex := 5, descriptorIndex := 6, attributes := #[] }, { accessFlags := 10, nameIndex := 13, descriptorIndex := 14, attributes := #[] }, { accessFlags := 10, nameIndex := 26, descriptorIndex := 27, attributes := #[] }, { accessFlags := 9, nameIndex := 37, descriptorIndex := 38, attributes := #[] }] 49 2 #[] #[])
  fields := #[]
  methods := #[k1m0, k1m1, k1m2, k1m3]
  instanceTypes := #[]
  staticTypes := #[]
  resolved := Array.replicate 41 none
  statics := none }

def pool2 : Array CpInfo := pool [(1, .class_ 2), (0, u "java/io/Serializable"), (0, .class_ 4), (0, u "java/lang/Object")] 2

/-- java/io/Serializable -/
def k2 : Class := { plain "java/io/Serializable" (some 0) with
  accessFlags := 1537
  interfaces := #[]
  cf := some (fileOf pool2 1 #[] #[] 1537 3 #[] #[])
  fields := #[]
  methods := #[]
  instanceTypes := #[]
  staticTypes := #[]
  resolved := Array.replicate 7 none
  statics := none }

def pool3 : Array CpInfo := pool [(1, .class_ 2), (0, u "java/lang/Comparable"), (0, .class_ 4), (0, u "java/lang/Object")] 7

/-- java/lang/Comparable -/
def k3 : Class := { plain "java/lang/Comparable" (some 0) with
  accessFlags := 1537
  interfaces := #[]
  cf := some (fileOf pool3 1 #[] #[] 1537 3 #[] #[])
  fields := #[]
  methods := #[]
  instanceTypes := #[]
  staticTypes := #[]
  resolved := Array.replicate 12 none
  statics := none }

def pool4 : Array CpInfo := pool [(2, .class_ 4), (1, u "java/lang/CharSequence"), (42, .class_ 48), (0, u "java/lang/CharSequence$1CodePointIterator"), (10, .class_ 60), (0, u "java/lang/CharSequence$1CharIterator"), (5, .class_ 67), (0, u "java/lang/Object")] 63

/-- java/lang/CharSequence -/
def k4 : Class := { plain "java/lang/CharSequence" (some 0) with
  accessFlags := 1537
  interfaces := #[]
  cf := some (fileOf pool4 2 #[.nestMembers #[47, 59]] #[] 1537 66 #[] #[])
  fields := #[]
  methods := #[]
  instanceTypes := #[]
  staticTypes := #[]
  resolved := Array.replicate 131 none
  statics := none }

def pool5 : Array CpInfo := pool [(1, .class_ 2), (0, u "java/lang/constant/Constable"), (0, .class_ 4), (0, u "java/lang/Object")] 6

/-- java/lang/constant/Constable -/
def k5 : Class := { plain "java/lang/constant/Constable" (some 0) with
  accessFlags := 1537
  interfaces := #[]
  cf := some (fileOf pool5 1 #[] #[] 1537 3 #[] #[])
  fields := #[]
  methods := #[]
  instanceTypes := #[]
  staticTypes := #[]
  resolved := Array.replicate 11 none
  statics := none }

def pool6 : Array CpInfo := pool [(1, .class_ 2), (0, u "java/lang/constant/ConstantDesc"), (0, .class_ 4), (0, u "java/lang/Object")] 32

/-- java/lang/constant/ConstantDesc -/
def k6 : Class := { plain "java/lang/constant/ConstantDesc" (some 0) with
  accessFlags := 1537
  interfaces := #[]
  cf := some (fileOf pool6 1 #[] #[] 1537 3 #[] #[])
  fields := #[]
  methods := #[]
  instanceTypes := #[]
  staticTypes := #[]
  resolved := Array.replicate 37 none
  statics := none }

def pool7 : Array CpInfo := pool [(1, .methodref 2 3), (0, .class_ 4), (0, .nameAndType 5 6), (0, u "java/lang/Object"), (0, u "<init>"), (0, u "()V"), (0, .string 8), (0, u ""), (0, .fieldref 10 11), (0, .class_ 12), (0, .nameAndType 13 14), (0, u "java/lang/String"), (0, u "value"), (0, u "[B"), (0, .fieldref 10 16), (0, .nameAndType 17 18), (0, u "coder"), (0, u "B"), (2, u "hash"), (0, u "I"), (2, u "hashIsZero"), (0, u "Z"), (0, .methodref 10 28), (0, .nameAndType 5 29), (0, u "([CIILjava/lang/Void;)V"), (8, .fieldref 10 39), (0, .nameAndType 40 26), (0, u "COMPACT_STRINGS"), (1, .class_ 44), (1, u "java/lang/StringUTF16"), (0, u "compress"), (1, .methodref 42 48), (0, .nameAndType 49 50), (0, u "coderFromArrayLen"), (0, u "([BI)B"), (2, u "toBytes"), (53, .class_ 109), (1, u "java/lang/StringLatin1"), (32, u "()Z"), (34, .methodref 42 178), (0, .nameAndType 45 179), (0, u "([CII)[B"), (29, .methodref 10 210), (0, .nameAndType 5 211), (0, u "([BB)V"), (122, u "()I"), (0, .methodref 10 336), (0, .nameAndType 17 337), (0, u "()B"), (25, u "([BI)C"), (5, u "(C)Z"), (21, u "(II)V"), (35, u "(I)C"), (64, .methodref 10 493), (0, .nameAndType 494 142), (0, u "isLatin1"), (0, .methodref 107 496), (0, .nameAndType 497 363), (0, u "charAt"), (0, .methodref 42 496), (2, u "checkIndex"), (3, .methodref 10 506), (0, .nameAndType 507 334), (0, u "length"), (33, .methodref 107 542), (0, .nameAndType 543 544), (0, u "equals"), (0, u "([B[B)Z"), (28, u "(Ljava/lang/Object;)Z"), (1, .class_ 576), (0, u "java/lang/CharSequence"), (22, u "CASE_INSENSITIVE_ORDER"), (0, u "Ljava/util/Comparator;"), (32, .methodref 10 634), (0, .nameAndType 635 636), (0, u "indexOf"), (0, u "(II)I"), (0, .methodref 107 638), (0, .nameAndType 635 639), (0, u "([BIII)I"), (52, u "isEmpty"), (72, u "(I)I"), (16, u "valueOf"), (0, u "(C)Ljava/lang/String;"), (226, u "([C)V"), (4, .methodref 107 1016), (0, .nameAndType 1017 369), (0, u "canEncode"), (0, .methodref 107 1019), (0, .nameAndType 53 1020), (0, u "(C)[B"), (0, .methodref 42 1019), (31, .fieldref 1054 1055), (0, .class_ 1056), (0, .nameAndType 1057 1058), (0, u "jdk/internal/util/Preconditions"), (0, u "SIOOBE_FORMATTER"), (0, u "Ljava/util/function/BiFunction;"), (0, .methodref 1054 1060), (0, .nameAndType 501 1061), (0, u "(IILjava/util/function/BiFunction;)I"), (39, u "serialPersistentFields"), (0, u "[Ljava/io/ObjectStreamField;"), (0, .class_ 1104), (0, u "java/lang/String$CaseInsensitiveComparator"), (1, .class_ 1107), (0, u "java/io/Serializable"), (0, .class_ 1109), (0, u "java/lang/Comparable"), (0, .class_ 1111), (0, u "java/lang/constant/Constable"), (0, .class_ 1113), (0, u "java/lang/constant/ConstantDesc"), (2, u "serialVersionUID"), (0, u "J"), (3, u "REPL"), (0, u "C"), (2, u "LATIN1"), (1, u "UTF16")] 323

def k7m0 : Method := { name := "<init>", desc := "()V", sig := { parameters := [], returnType := none }, accessFlags := 1, code := none }
def k7c1 : Code := { maxStack := 5, maxLocals := 2, code := jdk_42_method_3_code, exceptionTable := #[], attributes := #[] }
def k7m1 : Method := { name := "<init>", desc := "([C)V", sig := { parameters := [(.array .char)], returnType := none }, accessFlags := 1, code := some k7c1 }
def k7c2 : Code := { maxStack := 2, maxLocals := 1, code := jdk_42_method_54_code, exceptionTable := #[], attributes := #[] }
def k7m2 : Method := { name := "length", desc := "()I", sig := { parameters := [], returnType := some .int }, accessFlags := 1, code := some k7c2 }
def k7c3 : Code := { maxStack := 1, maxLocals := 1, code := jdk_42_method_55_code, exceptionTable := #[], attributes := #[] }
def k7m3 : Method := { name := "isEmpty", desc := "()Z", sig := { parameters := [], returnType := some .boolean }, accessFlags := 1, code := some k7c3 }
def k7c4 : Code := { maxStack := 2, maxLocals := 2, code := jdk_42_method_56_code, exceptionTable := #[], attributes := #[] }
def k7m4 : Method := { name := "charAt", desc := "(I)C", sig := { parameters := [.int], returnType := some .char }, accessFlags := 1, code := some k7c4 }
def k7c5 : Code := { maxStack := 2, maxLocals := 3, code := jdk_42_method_66_code, exceptionTable := #[], attributes := #[] }
def k7m5 : Method := { name := "equals", desc := "(Ljava/lang/Object;)Z", sig := { parameters := [(.object "java/lang/Object")], returnType := some .boolean }, accessFlags := 1, code := some k7c5 }
def k7c6 : Code := { maxStack := 3, maxLocals := 2, code := jdk_42_method_79_code, exceptionTable := #[], attributes := #[] }
def k7m6 : Method := { name := "indexOf", desc := "(I)I", sig := { parameters := [.int], returnType := some .int }, accessFlags := 1, code := some k7c6 }
def k7c7 : Code := { maxStack := 4, maxLocals := 3, code := jdk_42_method_80_code, exceptionTable := #[], attributes := #[] }
def k7m7 : Method := { name := "indexOf", desc := "(II)I", sig := { parameters := [.int, .int], returnType := some .int }, accessFlags := 1, code := some k7c7 }
def k7c8 : Code := { maxStack := 4, maxLocals := 1, code := jdk_42_method_139_code, exceptionTable := #[], attributes := #[] }
def k7m8 : Method := { name := "valueOf", desc := "(C)Ljava/lang/String;", sig := { parameters := [.char], returnType := some (.object "java/lang/String") }, accessFlags := 9, code := some k7c8 }
def k7c9 : Code := { maxStack := 4, maxLocals := 6, code := jdk_42_method_149_code, exceptionTable := #[], attributes := #[] }
def k7m9 : Method := { name := "<init>", desc := "([CIILjava/lang/Void;)V", sig := { parameters := [(.array .char), .int, .int, (.object "java/lang/Void")], returnType := none }, accessFlags := 2, code := some k7c9 }
def k7c10 : Code := { maxStack := 2, maxLocals := 3, code := jdk_42_method_151_code, exceptionTable := #[], attributes := #[] }
def k7m10 : Method := { name := "<init>", desc := "([BB)V", sig := { parameters := [(.array .byte), .byte], returnType := none }, accessFlags := 0, code := some k7c10 }
def k7c11 : Code := { maxStack := 1, maxLocals := 1, code := jdk_42_method_152_code, exceptionTable := #[], attributes := #[] }
def k7m11 : Method := { name := "coder", desc := "()B", sig := { parameters := [], returnType := some .byte }, accessFlags := 0, code := some k7c11 }
def k7c12 : Code := { maxStack := 1, maxLocals := 1, code := jdk_42_method_154_code, exceptionTable := #[], attributes := #[] }
def k7m12 : Method := { name := "isLatin1", desc := "()Z", sig := { parameters := [], returnType := some .boolean }, accessFlags := 0, code := some k7c12 }
def k7c13 : Code := { maxStack := 3, maxLocals := 2, code := jdk_42_method_155_code, exceptionTable := #[], attributes := #[] }
def k7m13 : Method := { name := "checkIndex", desc := "(II)V", sig := { parameters := [.int, .int], returnType := none }, accessFlags := 8, code := some k7c13 }
/-- java/lang/String -/
def k7 : Class := { plain "java/lang/String" (some 0) with
  accessFlags := 49
  interfaces := #[2, 3, 4, 5, 6]
  cf := some (fileOf pool7 10 #[.nestMembers #[1103]] #[{ accessFlags := 1, nameIndex := 5, descriptorIndex := 6, attributes := #[] }, { accessFlags := 1, nameIndex := 5, descriptorIndex := 1010, attributes := #[] }, { accessFlags := 1, nameIndex := 507, descriptorIndex := 334, attributes := #[] }, { accessFlags := 1, nameIndex := 692, descriptorIndex := 142, attributes := #[] }, { accessFlags := 1, nameIndex := 497, descriptorIndex := 427, attributes := #[] }, { accessFlags := 1, nameIndex := 543, descriptorIndex := 573, attributes := #[] }, { accessFlags := 1, nameIndex := 635, descriptorIndex := 765, attributes := #[] }, { accessFlags := 1, nameIndex := 635, descriptorIndex := 636, attributes := #[] }, { accessFlags := 9, nameIndex := 782, descriptorIndex := 783, attributes := #[] }, { accessFlags := 2, nameIndex := 5, descriptorIndex := 29, attributes := #[] }, { accessFlags := 0, nameIndex := 5, descriptorIndex := 211, attributes := #[] }, { accessFlags := 0, nameIndex := 17, descriptorIndex := 337, attributes := #[] }, { accessFlags := 0, nameIndex := 494, descriptorIndex := 142, attributes := #[] }, { accessFlags := 8, nameIndex := 501, descriptorIndex := 391, attributes := #[] }] 49 2 #[1106, 1108, 575, 1110, 1112] #[{ accessFlags := 18, nameIndex := 13, descriptorIndex := 14, attributes := #[] }, { accessFlags := 18, nameIndex := 17, descriptorIndex := 18, attributes := #[] }, { accessFlags := 2, nameIndex := 21, descriptorIndex := 22, attributes := #[] }, { accessFlags := 2, nameIndex := 25, descriptorIndex := 26, attributes := #[] }, { accessFlags := 26, nameIndex := 1116, descriptorIndex := 1117, attributes := #[] }, { accessFlags := 24, nameIndex := 40, descriptorIndex := 26, attributes := #[] }, { accessFlags := 26, nameIndex := 1101, descriptorIndex := 1102, attributes := #[] }, { accessFlags := 26, nameIndex := 1121, descriptorIndex := 1122, attributes := #[] }, { accessFlags := 25, nameIndex := 599, descriptorIndex := 600, attributes := #[] }, { accessFlags := 24, nameIndex := 1125, descriptorIndex := 18, attributes := #[] }, { accessFlags := 24, nameIndex := 1127, descriptorIndex := 18, attributes := #[] }])
  fields := #[{ name := "value", type := (.array .byte), accessFlags := 18, slot := 0, constantValue := 0 }, { name := "coder", type := .byte, accessFlags := 18, slot := 1, constantValue := 0 }, { name := "hash", type := .int, accessFlags := 2, slot := 2, constantValue := 0 }, { name := "hashIsZero", type := .boolean, accessFlags := 2, slot := 3, constantValue := 0 }, { name := "serialVersionUID", type := .long, accessFlags := 26, slot := 0, constantValue := 0 }, { name := "COMPACT_STRINGS", type := .boolean, accessFlags := 24, slot := 1, constantValue := 0 }, { name := "serialPersistentFields", type := (.array (.object "java/io/ObjectStreamField")), accessFlags := 26, slot := 2, constantValue := 0 }, { name := "REPL", type := .char, accessFlags := 26, slot := 3, constantValue := 0 }, { name := "CASE_INSENSITIVE_ORDER", type := (.object "java/util/Comparator"), accessFlags := 25, slot := 4, constantValue := 0 }, { name := "LATIN1", type := .byte, accessFlags := 24, slot := 5, constantValue := 0 }, { name := "UTF16", type := .byte, accessFlags := 24, slot := 6, constantValue := 0 }]
  methods := #[k7m0, k7m1, k7m2, k7m3, k7m4, k7m5, k7m6, k7m7, k7m8, k7m9, k7m10, k7m11, k7m12, k7m13]
  instanceTypes := #[(.array .byte), .byte, .int, .boolean]
  staticTypes := #[.long, .boolean, (.array (.object "java/io/ObjectStreamField")), .char, (.object "java/util/Comparator"), .byte, .byte]
  resolved := Array.replicate 1451 none
  statics := some 0 }

def pool8 : Array CpInfo := pool [(2, .class_ 4), (1, u "java/lang/Object"), (0, u "<init>"), (0, u "()V"), (0, .methodref 8 9), (0, .class_ 10), (0, .nameAndType 11 12), (0, u "java/lang/String"), (0, u "isEmpty"), (0, u "()Z"), (0, .string 14), (0, u "."), (0, .methodref 8 16), (0, .nameAndType 17 18), (0, u "equals"), (0, u "(Ljava/lang/Object;)Z"), (0, .string 20), (0, u ".."), (0, .methodref 8 22), (0, .nameAndType 23 24), (0, u "length"), (0, u "()I"), (0, .methodref 8 26), (0, .nameAndType 27 28), (0, u "charAt"), (0, u "(I)C"), (0, .class_ 30), (0, u "com/example/rackline/rackline/core/Names"), (0, .string 32), (0, u "\"#*,/:?[]{}"), (0, .methodref 8 34), (0, .nameAndType 35 36), (0, u "indexOf"), (0, u "(I)I"), (18, u "RULE"), (0, u "Ljava/lang/String;"), (0, u "RESERVED"), (3, u "isValid"), (0, u "(Ljava/lang/String;)Z")] 19

def k8m0 : Method := { name := "<init>", desc := "()V", sig := { parameters := [], returnType := none }, accessFlags := 2, code := none }
def k8c1 : Code := { maxStack := 2, maxLocals := 3, code := prog_8_method_2_code, exceptionTable := #[], attributes := #[] }
def k8m1 : Method := { name := "isValid", desc := "(Ljava/lang/String;)Z", sig := { parameters := [(.object "java/lang/String")], returnType := some .boolean }, accessFlags := 9, code := some k8c1 }
/-- com/example/rackline/rackline/core/Names -/
def k8 : Class := { plain "com/example/rackline/rackline/core/Names" (some 0) with
  accessFlags := 49
  interfaces := #[]
  cf := some (fileOf pool8 29 #[] #[{ accessFlags := 2, nameIndex := 5, descriptorIndex := 6, attributes := #[] }, { accessFlags := 9, nameIndex := 61, descriptorIndex := 62, attributes := #[] }] 49 2 #[] #[{ accessFlags := 26, nameIndex := 57, descriptorIndex := 56, attributes := #[] }, { accessFlags := 24, nameIndex := 55, descriptorIndex := 56, attributes := #[] }])
  fields := #[{ name := "RESERVED", type := (.object "java/lang/String"), accessFlags := 26, slot := 0, constantValue := 0 }, { name := "RULE", type := (.object "java/lang/String"), accessFlags := 24, slot := 1, constantValue := 0 }]
  methods := #[k8m0, k8m1]
  instanceTypes := #[]
  staticTypes := #[(.object "java/lang/String"), (.object "java/lang/String")]
  resolved := Array.replicate 82 none
  statics := none }

def pool9 : Array CpInfo := pool [(3, .class_ 4), (0, u "java/lang/String"), (1, .class_ 8), (1, u "java/lang/Object"), (0, u "<init>"), (0, u "()V"), (0, .methodref 12 13), (0, .class_ 14), (0, .nameAndType 15 16), (0, u "java/lang/StringUTF16"), (0, u "newBytesLength"), (0, u "(I)I"), (3, .integer 1073741823), (23, .fieldref 12 45), (0, .nameAndType 46 47), (0, u "$assertionsDisabled"), (0, u "Z"), (0, .methodref 12 49), (0, .nameAndType 50 51), (0, u "length"), (0, u "([B)I"), (7, .fieldref 12 60), (0, .nameAndType 61 62), (0, u "HI_BYTE_SHIFT"), (0, u "I"), (0, .fieldref 12 64), (0, .nameAndType 65 62), (0, u "LO_BYTE_SHIFT"), (1, .methodref 12 68), (0, .nameAndType 69 70), (0, u "checkIndex"), (0, u "(I[B)V"), (0, .methodref 12 72), (0, .nameAndType 73 74), (0, u "getChar"), (0, u "([BI)C"), (32, .methodref 12 108), (0, .nameAndType 109 110), (0, u "newBytesFor"), (0, u "(I)[B"), (0, .methodref 12 112), (0, .nameAndType 113 114), (0, u "putChar"), (0, u "([BII)V"), (0, .methodref 12 116), (0, .nameAndType 117 118), (0, u "compress"), (0, u "([CI[BII)I"), (0, .methodref 12 120), (0, .nameAndType 121 122), (0, u "toBytes"), (0, u "([CII)[B"), (138, u "coderFromArrayLen"), (0, u "([BI)B"), (106, .class_ 371), (1, u "java/lang/StringUTF16$LinesSpliterator"), (20, u "charAt"), (21, .methodref 3 415), (0, .nameAndType 69 416), (0, u "(II)V"), (13, u "MAX_LENGTH"), (44, u "(C)[B"), (151, .class_ 628), (0, u "java/lang/StringUTF16$CodePointsSpliterator"), (0, .class_ 630), (0, u "java/lang/StringUTF16$CharsSpliterator")] 4

def k9m0 : Method := { name := "<init>", desc := "()V", sig := { parameters := [], returnType := none }, accessFlags := 0, code := none }
def k9c1 : Code := { maxStack := 1, maxLocals := 1, code := jdk_52_method_2_code, exceptionTable := #[], attributes := #[] }
def k9m1 : Method := { name := "newBytesFor", desc := "(I)[B", sig := { parameters := [.int], returnType := some (.array .byte) }, accessFlags := 9, code := some k9c1 }
def k9c2 : Code := { maxStack := 4, maxLocals := 1, code := jdk_52_method_3_code, exceptionTable := #[], attributes := #[] }
def k9m2 : Method := { name := "newBytesLength", desc := "(I)I", sig := { parameters := [.int], returnType := some .int }, accessFlags := 9, code := some k9c2 }
def k9c3 : Code := { maxStack := 4, maxLocals := 3, code := jdk_52_method_4_code, exceptionTable := #[], attributes := #[] }
def k9m3 : Method := { name := "putChar", desc := "([BII)V", sig := { parameters := [(.array .byte), .int, .int], returnType := none }, accessFlags := 8, code := some k9c3 }
def k9c4 : Code := { maxStack := 3, maxLocals := 2, code := jdk_52_method_5_code, exceptionTable := #[], attributes := #[] }
def k9m4 : Method := { name := "getChar", desc := "([BI)C", sig := { parameters := [(.array .byte), .int], returnType := some .char }, accessFlags := 8, code := some k9c4 }
def k9c5 : Code := { maxStack := 2, maxLocals := 1, code := jdk_52_method_6_code, exceptionTable := #[], attributes := #[] }
def k9m5 : Method := { name := "length", desc := "([B)I", sig := { parameters := [(.array .byte)], returnType := some .int }, accessFlags := 9, code := some k9c5 }
def k9c6 : Code := { maxStack := 4, maxLocals := 5, code := jdk_52_method_14_code, exceptionTable := #[], attributes := #[] }
def k9m6 : Method := { name := "toBytes", desc := "([CII)[B", sig := { parameters := [(.array .char), .int, .int], returnType := some (.array .byte) }, accessFlags := 9, code := some k9c6 }
def k9c7 : Code := { maxStack := 2, maxLocals := 2, code := jdk_52_method_15_code, exceptionTable := #[], attributes := #[] }
def k9m7 : Method := { name := "coderFromArrayLen", desc := "([BI)B", sig := { parameters := [(.array .byte), .int], returnType := some .byte }, accessFlags := 8, code := some k9c7 }
def k9c8 : Code := { maxStack := 5, maxLocals := 6, code := jdk_52_method_16_code, exceptionTable := #[], attributes := #[] }
def k9m8 : Method := { name := "compress", desc := "([CII)[B", sig := { parameters := [(.array .char), .int, .int], returnType := some (.array .byte) }, accessFlags := 9, code := some k9c8 }
def k9c9 : Code := { maxStack := 3, maxLocals := 7, code := jdk_52_method_21_code, exceptionTable := #[], attributes := #[] }
def k9m9 : Method := { name := "compress", desc := "([CI[BII)I", sig := { parameters := [(.array .char), .int, (.array .byte), .int, .int], returnType := some .int }, accessFlags := 9, code := some k9c9 }
def k9c10 : Code := { maxStack := 3, maxLocals := 2, code := jdk_52_method_24_code, exceptionTable := #[], attributes := #[] }
def k9m10 : Method := { name := "toBytes", desc := "(C)[B", sig := { parameters := [.char], returnType := some (.array .byte) }, accessFlags := 9, code := some k9c10 }
def k9c11 : Code := { maxStack := 2, maxLocals := 2, code := jdk_52_method_83_code, exceptionTable := #[], attributes := #[] }
def k9m11 : Method := { name := "charAt", desc := "([BI)C", sig := { parameters := [(.array .byte), .int], returnType := some .char }, accessFlags := 9, code := some k9c11 }
def k9c12 : Code := { maxStack := 2, maxLocals := 2, code := jdk_52_method_91_code, exceptionTable := #[], attributes := #[] }
def k9m12 : Method := { name := "checkIndex", desc := "(I[B)V", sig := { parameters := [.int, (.array .byte)], returnType := none }, accessFlags := 9, code := some k9c12 }
/-- java/lang/StringUTF16 -/
def k9 : Class := { plain "java/lang/StringUTF16" (some 0) with
  accessFlags := 48
  interfaces := #[]
  cf := some (fileOf pool9 12 #[.nestMembers #[627, 629, 369]] #[{ accessFlags := 0, nameIndex := 9, descriptorIndex := 10, attributes := #[] }, { accessFlags := 9, nameIndex := 109, descriptorIndex := 110, attributes := #[] }, { accessFlags := 9, nameIndex := 15, descriptorIndex := 16, attributes := #[] }, { accessFlags := 8, nameIndex := 113, descriptorIndex := 114, attributes := #[] }, { accessFlags := 8, nameIndex := 73, descriptorIndex := 74, attributes := #[] }, { accessFlags := 9, nameIndex := 50, descriptorIndex := 51, attributes := #[] }, { accessFlags := 9, nameIndex := 121, descriptorIndex := 122, attributes := #[] }, { accessFlags := 8, nameIndex := 261, descriptorIndex := 262, attributes := #[] }, { accessFlags := 9, nameIndex := 117, descriptorIndex := 122, attributes := #[] }, { accessFlags := 9, nameIndex := 117, descriptorIndex := 118, attributes := #[] }, { accessFlags := 9, nameIndex := 121, descriptorIndex := 475, attributes := #[] }, { accessFlags := 9, nameIndex := 392, descriptorIndex := 74, attributes := #[] }, { accessFlags := 9, nameIndex := 69, descriptorIndex := 70, attributes := #[] }] 48 6 #[] #[{ accessFlags := 26, nameIndex := 61, descriptorIndex := 62, attributes := #[] }, { accessFlags := 26, nameIndex := 65, descriptorIndex := 62, attributes := #[] }, { accessFlags := 24, nameIndex := 430, descriptorIndex := 62, attributes := #[] }, { accessFlags := 4120, nameIndex := 46, descriptorIndex := 47, attributes := #[] }])
  fields := #[{ name := "HI_BYTE_SHIFT", type := .int, accessFlags := 26, slot := 0, constantValue := 0 }, { name := "LO_BYTE_SHIFT", type := .int, accessFlags := 26, slot := 1, constantValue := 0 }, { name := "MAX_LENGTH", type := .int, accessFlags := 24, slot := 2, constantValue := 0 }, { name := "$assertionsDisabled", type := .boolean, accessFlags := 4120, slot := 3, constantValue := 0 }]
  methods := #[k9m0, k9m1, k9m2, k9m3, k9m4, k9m5, k9m6, k9m7, k9m8, k9m9, k9m10, k9m11, k9m12]
  instanceTypes := #[]
  staticTypes := #[.int, .int, .int, .boolean]
  resolved := Array.replicate 635 none
  statics := some 1 }

def pool10 : Array CpInfo := pool [(2, .class_ 4), (1, u "java/lang/Object"), (0, u "<init>"), (0, u "()V"), (17, .class_ 26), (1, u "jdk/internal/util/Preconditions"), (6, u "checkIndex"), (21, .class_ 56), (0, u "jdk/internal/util/Preconditions$4"), (57, .class_ 115), (0, u "jdk/internal/util/Preconditions$1"), (7, u "SIOOBE_FORMATTER"), (0, u "Ljava/util/function/BiFunction;"), (0, .class_ 126), (0, u "jdk/internal/util/Preconditions$2"), (3, u "AIOOBE_FORMATTER"), (0, .class_ 132), (0, u "jdk/internal/util/Preconditions$3"), (3, u "IOOBE_FORMATTER"), (41, u "(IILjava/util/function/BiFunction;)I")] 15

def k10m0 : Method := { name := "<init>", desc := "()V", sig := { parameters := [], returnType := none }, accessFlags := 1, code := none }
def k10c1 : Code := { maxStack := 3, maxLocals := 3, code := jdk_41_method_11_code, exceptionTable := #[], attributes := #[] }
def k10m1 : Method := { name := "checkIndex", desc := "(IILjava/util/function/BiFunction;)I", sig := { parameters := [.int, .int, (.object "java/util/function/BiFunction")], returnType := some .int }, accessFlags := 9, code := some k10c1 }
/-- jdk/internal/util/Preconditions -/
def k10 : Class := { plain "jdk/internal/util/Preconditions" (some 0) with
  accessFlags := 33
  interfaces := #[]
  cf := some (fileOf pool10 24 #[.nestMembers #[55, 131, 125, 114]] #[{ accessFlags := 1, nameIndex := 5, descriptorIndex := 6, attributes := #[] }, { accessFlags := 9, nameIndex := 33, descriptorIndex := 178, attributes := #[] }] 33 2 #[] #[{ accessFlags := 25, nameIndex := 123, descriptorIndex := 124, attributes := #[] }, { accessFlags := 25, nameIndex := 130, descriptorIndex := 124, attributes := #[] }, { accessFlags := 25, nameIndex := 136, descriptorIndex := 124, attributes := #[] }])
  fields := #[{ name := "SIOOBE_FORMATTER", type := (.object "java/util/function/BiFunction"), accessFlags := 25, slot := 0, constantValue := 0 }, { name := "AIOOBE_FORMATTER", type := (.object "java/util/function/BiFunction"), accessFlags := 25, slot := 1, constantValue := 0 }, { name := "IOOBE_FORMATTER", type := (.object "java/util/function/BiFunction"), accessFlags := 25, slot := 2, constantValue := 0 }]
  methods := #[k10m0, k10m1]
  instanceTypes := #[]
  staticTypes := #[(.object "java/util/function/BiFunction"), (.object "java/util/function/BiFunction"), (.object "java/util/function/BiFunction")]
  resolved := Array.replicate 194 none
  statics := some 2 }

def pool11 : Array CpInfo := pool [(1, .class_ 2), (0, u "java/lang/String"), (1, .class_ 6), (1, u "java/lang/Object"), (0, u "<init>"), (0, u "()V"), (0, .methodref 1 10), (0, .nameAndType 11 12), (0, u "checkIndex"), (0, u "(II)V"), (1, .class_ 16), (1, u "java/lang/StringLatin1"), (21, .methodref 39 40), (0, .class_ 41), (0, .nameAndType 42 43), (0, u "java/lang/Math"), (0, u "min"), (0, u "(II)I"), (9, u "([BI)C"), (34, .methodref 14 89), (0, .nameAndType 90 91), (0, u "canEncode"), (0, u "(I)Z"), (0, .methodref 39 93), (0, .nameAndType 94 43), (0, u "max"), (0, .methodref 14 96), (0, .nameAndType 97 98), (0, u "indexOfChar"), (0, u "([BIII)I"), (2, u "indexOf"), (3, u "(C)Z"), (15, u "$assertionsDisabled"), (0, u "Z"), (98, .class_ 223), (1, u "java/lang/StringLatin1$LinesSpliterator"), (28, u "charAt"), (28, u "equals"), (0, u "([B[B)Z"), (97, u "toBytes"), (1, u "(C)[B"), (7, .class_ 391), (0, u "java/lang/StringLatin1$CharsSpliterator")] 3

def k11m0 : Method := { name := "<init>", desc := "()V", sig := { parameters := [], returnType := none }, accessFlags := 0, code := none }
def k11c1 : Code := { maxStack := 2, maxLocals := 2, code := jdk_43_method_2_code, exceptionTable := #[], attributes := #[] }
def k11m1 : Method := { name := "charAt", desc := "([BI)C", sig := { parameters := [(.array .byte), .int], returnType := some .char }, accessFlags := 9, code := some k11c1 }
def k11c2 : Code := { maxStack := 2, maxLocals := 1, code := jdk_43_method_3_code, exceptionTable := #[], attributes := #[] }
def k11m2 : Method := { name := "canEncode", desc := "(C)Z", sig := { parameters := [.char], returnType := some .boolean }, accessFlags := 9, code := some k11c2 }
def k11c3 : Code := { maxStack := 2, maxLocals := 1, code := jdk_43_method_4_code, exceptionTable := #[], attributes := #[] }
def k11m3 : Method := { name := "canEncode", desc := "(I)Z", sig := { parameters := [.int], returnType := some .boolean }, accessFlags := 9, code := some k11c3 }
def k11c4 : Code := { maxStack := 3, maxLocals := 3, code := jdk_43_method_13_code, exceptionTable := #[], attributes := #[] }
def k11m4 : Method := { name := "equals", desc := "([B[B)Z", sig := { parameters := [(.array .byte), (.array .byte)], returnType := some .boolean }, accessFlags := 9, code := some k11c4 }
def k11c5 : Code := { maxStack := 4, maxLocals := 4, code := jdk_43_method_22_code, exceptionTable := #[], attributes := #[] }
def k11m5 : Method := { name := "indexOf", desc := "([BIII)I", sig := { parameters := [(.array .byte), .int, .int, .int], returnType := some .int }, accessFlags := 9, code := some k11c5 }
def k11c6 : Code := { maxStack := 2, maxLocals := 6, code := jdk_43_method_23_code, exceptionTable := #[], attributes := #[] }
def k11m6 : Method := { name := "indexOfChar", desc := "([BIII)I", sig := { parameters := [(.array .byte), .int, .int, .int], returnType := some .int }, accessFlags := 10, code := some k11c6 }
def k11c7 : Code := { maxStack := 4, maxLocals := 1, code := jdk_43_method_46_code, exceptionTable := #[], attributes := #[] }
def k11m7 : Method := { name := "toBytes", desc := "(C)[B", sig := { parameters := [.char], returnType := some (.array .byte) }, accessFlags := 9, code := some k11c7 }
/-- java/lang/StringLatin1 -/
def k11 : Class := { plain "java/lang/StringLatin1" (some 0) with
  accessFlags := 48
  interfaces := #[]
  cf := some (fileOf pool11 14 #[.nestMembers #[390, 221]] #[{ accessFlags := 0, nameIndex := 7, descriptorIndex := 8, attributes := #[] }, { accessFlags := 9, nameIndex := 252, descriptorIndex := 53, attributes := #[] }, { accessFlags := 9, nameIndex := 90, descriptorIndex := 105, attributes := #[] }, { accessFlags := 9, nameIndex := 90, descriptorIndex := 91, attributes := #[] }, { accessFlags := 9, nameIndex := 281, descriptorIndex := 282, attributes := #[] }, { accessFlags := 9, nameIndex := 101, descriptorIndex := 98, attributes := #[] }, { accessFlags := 10, nameIndex := 97, descriptorIndex := 98, attributes := #[] }, { accessFlags := 9, nameIndex := 380, descriptorIndex := 382, attributes := #[] }] 48 4 #[] #[{ accessFlags := 4120, nameIndex := 121, descriptorIndex := 122, attributes := #[] }])
  fields := #[{ name := "$assertionsDisabled", type := .boolean, accessFlags := 4120, slot := 0, constantValue := 0 }]
  methods := #[k11m0, k11m1, k11m2, k11m3, k11m4, k11m5, k11m6, k11m7]
  instanceTypes := #[]
  staticTypes := #[.boolean]
  resolved := Array.replicate 395 none
  statics := none }

def pool12 : Array CpInfo := pool [(1, .class_ 2), (0, u "java/lang/Math"), (1, .class_ 6), (1, u "java/lang/Object"), (0, u "<init>"), (0, u "()V"), (89, .class_ 100), (1, u "java/lang/Math$RandomNumberGeneratorHolder"), (71, u "negativeZeroFloatBits"), (0, u "J"), (2, u "negativeZeroDoubleBits"), (21, u "max"), (2, u "min"), (43, u "$assertionsDisabled"), (0, u "Z"), (88, u "(II)I"), (2, u "twoToTheDoubleScaleDown"), (0, u "D"), (4, u "twoToTheDoubleScaleUp"), (9, u "E"), (3, u "PI"), (2, u "TAU"), (2, u "DEGREES_TO_RADIANS"), (0, u "RADIANS_TO_DEGREES")] 94

def k12m0 : Method := { name := "<init>", desc := "()V", sig := { parameters := [], returnType := none }, accessFlags := 2, code := none }
def k12c1 : Code := { maxStack := 2, maxLocals := 2, code := jdk_29_method_65_code, exceptionTable := #[], attributes := #[] }
def k12m1 : Method := { name := "max", desc := "(II)I", sig := { parameters := [.int, .int], returnType := some .int }, accessFlags := 9, code := some k12c1 }
def k12c2 : Code := { maxStack := 2, maxLocals := 2, code := jdk_29_method_69_code, exceptionTable := #[], attributes := #[] }
def k12m2 : Method := { name := "min", desc := "(II)I", sig := { parameters := [.int, .int], returnType := some .int }, accessFlags := 9, code := some k12c2 }
/-- java/lang/Math -/
def k12 : Class := { plain "java/lang/Math" (some 0) with
  accessFlags := 49
  interfaces := #[]
  cf := some (fileOf pool12 1 #[.nestMembers #[98]] #[{ accessFlags := 2, nameIndex := 7, descriptorIndex := 8, attributes := #[] }, { accessFlags := 9, nameIndex := 198, descriptorIndex := 335, attributes := #[] }, { accessFlags := 9, nameIndex := 201, descriptorIndex := 335, attributes := #[] }] 49 4 #[] #[{ accessFlags := 25, nameIndex := 354, descriptorIndex := 339, attributes := #[] }, { accessFlags := 25, nameIndex := 358, descriptorIndex := 339, attributes := #[] }, { accessFlags := 25, nameIndex := 361, descriptorIndex := 339, attributes := #[] }, { accessFlags := 26, nameIndex := 364, descriptorIndex := 339, attributes := #[] }, { accessFlags := 26, nameIndex := 365, descriptorIndex := 339, attributes := #[] }, { accessFlags := 26, nameIndex := 172, descriptorIndex := 173, attributes := #[] }, { accessFlags := 26, nameIndex := 176, descriptorIndex := 173, attributes := #[] }, { accessFlags := 8, nameIndex := 344, descriptorIndex := 339, attributes := #[] }, { accessFlags := 8, nameIndex := 338, descriptorIndex := 339, attributes := #[] }, { accessFlags := 4120, nameIndex := 245, descriptorIndex := 246, attributes := #[] }])
  fields := #[{ name := "E", type := .double, accessFlags := 25, slot := 0, constantValue := 0 }, { name := "PI", type := .double, accessFlags := 25, slot := 1, constantValue := 0 }, { name := "TAU", type := .double, accessFlags := 25, slot := 2, constantValue := 0 }, { name := "DEGREES_TO_RADIANS", type := .double, accessFlags := 26, slot := 3, constantValue := 0 }, { name := "RADIANS_TO_DEGREES", type := .double, accessFlags := 26, slot := 4, constantValue := 0 }, { name := "negativeZeroFloatBits", type := .long, accessFlags := 26, slot := 5, constantValue := 0 }, { name := "negativeZeroDoubleBits", type := .long, accessFlags := 26, slot := 6, constantValue := 0 }, { name := "twoToTheDoubleScaleUp", type := .double, accessFlags := 8, slot := 7, constantValue := 0 }, { name := "twoToTheDoubleScaleDown", type := .double, accessFlags := 8, slot := 8, constantValue := 0 }, { name := "$assertionsDisabled", type := .boolean, accessFlags := 4120, slot := 9, constantValue := 0 }]
  methods := #[k12m0, k12m1, k12m2]
  instanceTypes := #[]
  staticTypes := #[.double, .double, .double, .double, .double, .long, .long, .double, .double, .boolean]
  resolved := Array.replicate 460 none
  statics := none }

def pool13 : Array CpInfo := pool [(9, u "<init>"), (6, .class_ 18), (1, u "java/lang/Object"), (0, u "()V"), (1, .class_ 23), (1, u "jdk/internal/util/ArraysSupport"), (0, u "LOG2_ARRAY_LONG_INDEX_SCALE"), (0, u "I"), (2, u "U"), (0, u "Ljdk/internal/misc/Unsafe;"), (8, u "BIG_ENDIAN"), (0, u "Z"), (8, u "LOG2_BYTE_BIT_SIZE"), (4, u "LOG2_ARRAY_INT_INDEX_SCALE"), (54, u "JLA"), (0, u "Ljdk/internal/access/JavaLangAccess;"), (11, u "LOG2_ARRAY_BOOLEAN_INDEX_SCALE"), (9, u "LOG2_ARRAY_BYTE_INDEX_SCALE"), (5, u "LOG2_ARRAY_CHAR_INDEX_SCALE"), (5, u "LOG2_ARRAY_SHORT_INDEX_SCALE"), (18, u "LOG2_ARRAY_FLOAT_INDEX_SCALE"), (24, u "LOG2_ARRAY_DOUBLE_INDEX_SCALE"), (89, u "T_BOOLEAN"), (2, u "T_CHAR"), (1, u "T_FLOAT"), (1, u "T_DOUBLE"), (1, u "T_BYTE"), (1, u "T_SHORT"), (1, u "T_INT"), (1, u "T_LONG"), (1, u "SOFT_MAX_ARRAY_LENGTH")] 83

def k13m0 : Method := { name := "<init>", desc := "()V", sig := { parameters := [], returnType := none }, accessFlags := 2, code := none }
/-- jdk/internal/util/ArraysSupport -/
def k13 : Class := { plain "jdk/internal/util/ArraysSupport" (some 0) with
  accessFlags := 33
  interfaces := #[]
  cf := some (fileOf pool13 21 #[] #[{ accessFlags := 2, nameIndex := 9, descriptorIndex := 19, attributes := #[] }] 33 16 #[] #[{ accessFlags := 24, nameIndex := 28, descriptorIndex := 29, attributes := #[] }, { accessFlags := 26, nameIndex := 38, descriptorIndex := 39, attributes := #[] }, { accessFlags := 25, nameIndex := 121, descriptorIndex := 25, attributes := #[] }, { accessFlags := 25, nameIndex := 131, descriptorIndex := 25, attributes := #[] }, { accessFlags := 25, nameIndex := 137, descriptorIndex := 25, attributes := #[] }, { accessFlags := 25, nameIndex := 143, descriptorIndex := 25, attributes := #[] }, { accessFlags := 25, nameIndex := 53, descriptorIndex := 25, attributes := #[] }, { accessFlags := 25, nameIndex := 24, descriptorIndex := 25, attributes := #[] }, { accessFlags := 25, nameIndex := 162, descriptorIndex := 25, attributes := #[] }, { accessFlags := 25, nameIndex := 187, descriptorIndex := 25, attributes := #[] }, { accessFlags := 26, nameIndex := 48, descriptorIndex := 25, attributes := #[] }, { accessFlags := 25, nameIndex := 277, descriptorIndex := 25, attributes := #[] }, { accessFlags := 25, nameIndex := 280, descriptorIndex := 25, attributes := #[] }, { accessFlags := 25, nameIndex := 282, descriptorIndex := 25, attributes := #[] }, { accessFlags := 25, nameIndex := 284, descriptorIndex := 25, attributes := #[] }, { accessFlags := 25, nameIndex := 286, descriptorIndex := 25, attributes := #[] }, { accessFlags := 25, nameIndex := 288, descriptorIndex := 25, attributes := #[] }, { accessFlags := 25, nameIndex := 290, descriptorIndex := 25, attributes := #[] }, { accessFlags := 25, nameIndex := 292, descriptorIndex := 25, attributes := #[] }, { accessFlags := 26, nameIndex := 108, descriptorIndex := 109, attributes := #[] }, { accessFlags := 25, nameIndex := 294, descriptorIndex := 25, attributes := #[] }])
  fields := #[{ name := "U", type := (.object "jdk/internal/misc/Unsafe"), accessFlags := 24, slot := 0, constantValue := 0 }, { name := "BIG_ENDIAN", type := .boolean, accessFlags := 26, slot := 1, constantValue := 0 }, { name := "LOG2_ARRAY_BOOLEAN_INDEX_SCALE", type := .int, accessFlags := 25, slot := 2, constantValue := 0 }, { name := "LOG2_ARRAY_BYTE_INDEX_SCALE", type := .int, accessFlags := 25, slot := 3, constantValue := 0 }, { name := "LOG2_ARRAY_CHAR_INDEX_SCALE", type := .int, accessFlags := 25, slot := 4, constantValue := 0 }, { name := "LOG2_ARRAY_SHORT_INDEX_SCALE", type := .int, accessFlags := 25, slot := 5, constantValue := 0 }, { name := "LOG2_ARRAY_INT_INDEX_SCALE", type := .int, accessFlags := 25, slot := 6, constantValue := 0 }, { name := "LOG2_ARRAY_LONG_INDEX_SCALE", type := .int, accessFlags := 25, slot := 7, constantValue := 0 }, { name := "LOG2_ARRAY_FLOAT_INDEX_SCALE", type := .int, accessFlags := 25, slot := 8, constantValue := 0 }, { name := "LOG2_ARRAY_DOUBLE_INDEX_SCALE", type := .int, accessFlags := 25, slot := 9, constantValue := 0 }, { name := "LOG2_BYTE_BIT_SIZE", type := .int, accessFlags := 26, slot := 10, constantValue := 0 }, { name := "T_BOOLEAN", type := .int, accessFlags := 25, slot := 11, constantValue := 0 }, { name := "T_CHAR", type := .int, accessFlags := 25, slot := 12, constantValue := 0 }, { name := "T_FLOAT", type := .int, accessFlags := 25, slot := 13, constantValue := 0 }, { name := "T_DOUBLE", type := .int, accessFlags := 25, slot := 14, constantValue := 0 }, { name := "T_BYTE", type := .int, accessFlags := 25, slot := 15, constantValue := 0 }, { name := "T_SHORT", type := .int, accessFlags := 25, slot := 16, constantValue := 0 }, { name := "T_INT", type := .int, accessFlags := 25, slot := 17, constantValue := 0 }, { name := "T_LONG", type := .int, accessFlags := 25, slot := 18, constantValue := 0 }, { name := "JLA", type := (.object "jdk/internal/access/JavaLangAccess"), accessFlags := 26, slot := 19, constantValue := 0 }, { name := "SOFT_MAX_ARRAY_LENGTH", type := .int, accessFlags := 25, slot := 20, constantValue := 0 }]
  methods := #[k13m0]
  instanceTypes := #[]
  staticTypes := #[(.object "jdk/internal/misc/Unsafe"), .boolean, .int, .int, .int, .int, .int, .int, .int, .int, .int, .int, .int, .int, .int, .int, .int, .int, .int, (.object "jdk/internal/access/JavaLangAccess"), .int]
  resolved := Array.replicate 378 none
  statics := none }

def pool14 : Array CpInfo := pool [(1, u "java/lang/Cloneable"), (0, .class_ 1), (0, u "java/lang/Object"), (0, .class_ 3)] 3

/-- java/lang/Cloneable -/
def k14 : Class := { plain "java/lang/Cloneable" (some 0) with
  accessFlags := 1537
  interfaces := #[]
  cf := some (fileOf pool14 2 #[] #[] 1537 4 #[] #[])
  fields := #[]
  methods := #[]
  instanceTypes := #[]
  staticTypes := #[]
  resolved := Array.replicate 8 none
  statics := none }

/-- the primitive byte -/
def k15 : Class := { plain "byte" none with kind := .primitive 'B', accessFlags := 0x411 }
/-- [B -/
def k16 : Class := { plain "[B" (some 0) with kind := .array 15 .byte, interfaces := #[14, 2], accessFlags := 1041 }

/-- the primitive char -/
def k17 : Class := { plain "char" none with kind := .primitive 'C', accessFlags := 0x411 }
/-- [C -/
def k18 : Class := { plain "[C" (some 0) with kind := .array 17 .char, interfaces := #[14, 2], accessFlags := 1041 }

/-- the primitive int -/
def k19 : Class := { plain "int" none with kind := .primitive 'I', accessFlags := 0x411 }
/-- [I -/
def k20 : Class := { plain "[I" (some 0) with kind := .array 19 .int, interfaces := #[14, 2], accessFlags := 1041 }

def heap : Heap := #[{ cls := 7, slots := #[.long 0, .int 1, .null, .int 0, .null, .int 0, .int 0], vm := .statics 7 },
  { cls := 9, slots := #[.int 0, .int 8, .int 0, .int 1], vm := .statics 9 },
  { cls := 10, slots := #[.null, .null, .null], vm := .statics 10 }]
def classes : Array Class := #[k0, k1, k2, k3, k4, k5, k6, k7, k8, k9, k10, k11, k12, k13, k14, k15, k16, k17, k18, k19, k20]
def interned : List (Array UInt16 × Addr) := []
def slotsUsed : Nat := 14
def theMethod : MethodId := ⟨1, 3⟩
def args0 : Array Value := #[.int 4, .int 1, .int 2, .int 3]
def aboutOver (below : List Frame) : State where
  vm := { classes := classes, interned := interned.toArray }
  heap := heap
  slotsUsed := slotsUsed
  threads := #[{ frames := .invoking theMethod args0 :: below }]
def below0 : List Frame := [.native { method := ⟨0, 0⟩, args := #[] }]
def about1 : State := aboutOver below0
def p0 : Program := .bare "" "" ""
def e0 : Env := launch0.env 0 0 0
theorem w_frames : about1.frames = Frame.invoking theMethod args0 :: below0 := rfl
set_option maxRecDepth 65536 in
theorem w_args : argsFit about1.vm theMethod args0 = true := by decide +kernel
set_option maxRecDepth 65536 in
theorem w_heap : heapFits about1 = true := by decide +kernel
set_option maxRecDepth 65536 in
theorem w_runnable : about1.curStatus? = some .runnable := by decide +kernel
set_option maxRecDepth 65536 in
theorem w_alone : about1.alone = true := by decide +kernel
set_option maxRecDepth 65536 in
theorem w_named : about1.methodNamed? x = some theMethod := by decide +kernel
set_option maxRecDepth 65536 in
theorem w_hears : about1.hears theMethod below0 = true := by decide +kernel
set_option maxRecDepth 65536 in
theorem w_ripe : about1.ripe theMethod args0 below0 = true := by decide +kernel
theorem w_running : about1.status = .running := rfl
set_option maxRecDepth 65536 in
theorem w_room : about1.hasRoom e0.platform room_1 = true :=
  launch0.hasRoom_least _ room_1 (by decide +kernel) (by decide +kernel) (by decide +kernel) (by decide +kernel) (by decide +kernel) (by decide +kernel)
theorem allAtoms_all (ts : List Jvm.Cond) (a : Array Jvm.Value) (st : Jvm.State) : (allAtoms ts).before a st = ts.all (fun c => c.before a st) := by
  induction ts with
  | nil => rfl
  | cons c t ih =>
    show (Jvm.Cond.and c (allAtoms t)).before a st = _
    rw [Jvm.Cond.before_and, ih, List.all_cons]
def words1 : List Jvm.Cond := Jvm.Cond.code x code maxLocals ret :: tables_1
/-- a 'code' word, met by the world's own term for the bytes: nothing is compared byte by byte -/
theorem code_word {y : MethodName} {bytes : ByteArray} {mx : Nat} {rt : Option FieldType} {a : Array Value} {s : State} {m : MethodId} {meth : Method} {c : Code} (h1 : s.methodNamed? y = some m) (h2 : s.vm.method? m = some meth) (h3 : meth.code = some c) (h4 : c.code = bytes)
    (h5 : (c.maxLocals == mx && c.exceptionTable.isEmpty && decide (c.maxStack ≤ mostOperands) && decide (meth.sig.returnType = rt) && !meth.locks && decide (parseMethodDescriptor y.desc = some meth.sig)) = true) : (Jvm.Cond.code y bytes mx rt).before a s = true := by
  simp only [Bool.and_eq_true, beq_iff_eq, Bool.not_eq_true', decide_eq_true_eq] at h5
  obtain ⟨⟨⟨⟨⟨g1, g2⟩, g3⟩, g4⟩, g5⟩, g6⟩ := h5
  simp [Cond.before, Cond.holds, Cond.value, h1, h2, h3, h4, g1, g2, g3, g4, g5, g6]
def isCode : Jvm.Cond → Bool
  | .code _ _ _ _ => true
  | _ => false
theorem all_split {L : List Jvm.Cond} {P : Jvm.Cond → Bool} (h1 : L.all (fun c => isCode c || P c) = true) (h2 : ∀ c ∈ L.filter isCode, P c = true) : L.all P = true := by
  refine List.all_eq_true.mpr fun c hc => ?_
  have h := List.all_eq_true.mp h1 c hc
  rcases Bool.eq_false_or_eq_true (isCode c) with hi | hi
  · exact h2 c (List.mem_filter.mpr ⟨hc, hi⟩)
  · simpa [hi] using h
set_option maxRecDepth 65536 in
theorem w_c0 : (Jvm.Cond.code x code maxLocals ret).before args0 about1 = true := code_word (m := ⟨1, 3⟩) (meth := k1m3) (c := k1c3) (by decide +kernel) rfl rfl rfl (by decide +kernel)
set_option maxRecDepth 65536 in
theorem w_c1 : (Jvm.Cond.code ({ cls := "com/example/rackline/rackline/core/NamesIsValidPinLaw", name := "draw", desc := "(I)C" } : Jvm.MethodName) method_2_code (1 : Nat) (Option.some Jvm.ClassFile.FieldType.char)).before args0 about1 = true := code_word (m := ⟨1, 1⟩) (meth := k1m1) (c := k1c1) (by decide +kernel) rfl rfl rfl (by decide +kernel)
set_option maxRecDepth 65536 in
theorem w_c2 : (Jvm.Cond.code ({ cls := "java/lang/String", name := "<init>", desc := "([C)V" } : Jvm.MethodName) jdk_42_method_3_code (2 : Nat) (Option.none : Option Jvm.ClassFile.FieldType)).before args0 about1 = true := code_word (m := ⟨7, 1⟩) (meth := k7m1) (c := k7c1) (by decide +kernel) rfl rfl rfl (by decide +kernel)
set_option maxRecDepth 65536 in
theorem w_c3 : (Jvm.Cond.code ({ cls := "java/lang/String", name := "<init>", desc := "([CIILjava/lang/Void;)V" } : Jvm.MethodName) jdk_42_method_149_code (6 : Nat) (Option.none : Option Jvm.ClassFile.FieldType)).before args0 about1 = true := code_word (m := ⟨7, 9⟩) (meth := k7m9) (c := k7c9) (by decide +kernel) rfl rfl rfl (by decide +kernel)
set_option maxRecDepth 65536 in
theorem w_c4 : (Jvm.Cond.code ({ cls := "java/lang/Object", name := "<init>", desc := "()V" } : Jvm.MethodName) object_method_1_code (1 : Nat) (Option.none : Option Jvm.ClassFile.FieldType)).before args0 about1 = true := code_word (m := ⟨0, 0⟩) (meth := k0m0) (c := k0c0) (by decide +kernel) rfl rfl rfl (by decide +kernel)
set_option maxRecDepth 65536 in
theorem w_c5 : (Jvm.Cond.code ({ cls := "com/example/rackline/rackline/core/Names", name := "isValid", desc := "(Ljava/lang/String;)Z" } : Jvm.MethodName) prog_8_method_2_code (3 : Nat) (Option.some Jvm.ClassFile.FieldType.boolean)).before args0 about1 = true := code_word (m := ⟨8, 1⟩) (meth := k8m1) (c := k8c1) (by decide +kernel) rfl rfl rfl (by decide +kernel)
set_option maxRecDepth 65536 in
theorem w_c6 : (Jvm.Cond.code ({ cls := "java/lang/String", name := "isEmpty", desc := "()Z" } : Jvm.MethodName) jdk_42_method_55_code (1 : Nat) (Option.some Jvm.ClassFile.FieldType.boolean)).before args0 about1 = true := code_word (m := ⟨7, 3⟩) (meth := k7m3) (c := k7c3) (by decide +kernel) rfl rfl rfl (by decide +kernel)
set_option maxRecDepth 65536 in
theorem w_c7 : (Jvm.Cond.code ({ cls := "java/lang/StringUTF16", name := "compress", desc := "([CII)[B" } : Jvm.MethodName) jdk_52_method_16_code (6 : Nat) (Option.some (Jvm.ClassFile.FieldType.array Jvm.ClassFile.FieldType.byte))).before args0 about1 = true := code_word (m := ⟨9, 8⟩) (meth := k9m8) (c := k9c8) (by decide +kernel) rfl rfl rfl (by decide +kernel)
set_option maxRecDepth 65536 in
theorem w_c8 : (Jvm.Cond.code ({ cls := "java/lang/StringUTF16", name := "compress", desc := "([CI[BII)I" } : Jvm.MethodName) jdk_52_method_21_code (7 : Nat) (Option.some Jvm.ClassFile.FieldType.int)).before args0 about1 = true := code_word (m := ⟨9, 9⟩) (meth := k9m9) (c := k9c9) (by decide +kernel) rfl rfl rfl (by decide +kernel)
set_option maxRecDepth 65536 in
theorem w_c9 : (Jvm.Cond.code ({ cls := "java/lang/StringUTF16", name := "toBytes", desc := "([CII)[B" } : Jvm.MethodName) jdk_52_method_14_code (5 : Nat) (Option.some (Jvm.ClassFile.FieldType.array Jvm.ClassFile.FieldType.byte))).before args0 about1 = true := code_word (m := ⟨9, 6⟩) (meth := k9m6) (c := k9c6) (by decide +kernel) rfl rfl rfl (by decide +kernel)
set_option maxRecDepth 65536 in
theorem w_c10 : (Jvm.Cond.code ({ cls := "java/lang/StringUTF16", name := "newBytesFor", desc := "(I)[B" } : Jvm.MethodName) jdk_52_method_2_code (1 : Nat) (Option.some (Jvm.ClassFile.FieldType.array Jvm.ClassFile.FieldType.byte))).before args0 about1 = true := code_word (m := ⟨9, 1⟩) (meth := k9m1) (c := k9c1) (by decide +kernel) rfl rfl rfl (by decide +kernel)
set_option maxRecDepth 65536 in
theorem w_c11 : (Jvm.Cond.code ({ cls := "java/lang/StringUTF16", name := "newBytesLength", desc := "(I)I" } : Jvm.MethodName) jdk_52_method_3_code (1 : Nat) (Option.some Jvm.ClassFile.FieldType.int)).before args0 about1 = true := code_word (m := ⟨9, 2⟩) (meth := k9m2) (c := k9c2) (by decide +kernel) rfl rfl rfl (by decide +kernel)
set_option maxRecDepth 65536 in
theorem w_c12 : (Jvm.Cond.code ({ cls := "java/lang/StringUTF16", name := "putChar", desc := "([BII)V" } : Jvm.MethodName) jdk_52_method_4_code (3 : Nat) (Option.none : Option Jvm.ClassFile.FieldType)).before args0 about1 = true := code_word (m := ⟨9, 3⟩) (meth := k9m3) (c := k9c3) (by decide +kernel) rfl rfl rfl (by decide +kernel)
set_option maxRecDepth 65536 in
theorem w_c13 : (Jvm.Cond.code ({ cls := "java/lang/StringUTF16", name := "getChar", desc := "([BI)C" } : Jvm.MethodName) jdk_52_method_5_code (2 : Nat) (Option.some Jvm.ClassFile.FieldType.char)).before args0 about1 = true := code_word (m := ⟨9, 4⟩) (meth := k9m4) (c := k9c4) (by decide +kernel) rfl rfl rfl (by decide +kernel)
set_option maxRecDepth 65536 in
theorem w_c14 : (Jvm.Cond.code ({ cls := "java/lang/StringUTF16", name := "coderFromArrayLen", desc := "([BI)B" } : Jvm.MethodName) jdk_52_method_15_code (2 : Nat) (Option.some Jvm.ClassFile.FieldType.byte)).before args0 about1 = true := code_word (m := ⟨9, 7⟩) (meth := k9m7) (c := k9c7) (by decide +kernel) rfl rfl rfl (by decide +kernel)
set_option maxRecDepth 65536 in
theorem w_c15 : (Jvm.Cond.code ({ cls := "com/example/rackline/rackline/core/NamesIsValidPinLaw", name := "ok", desc := "(C)Z" } : Jvm.MethodName) method_3_code (1 : Nat) (Option.some Jvm.ClassFile.FieldType.boolean)).before args0 about1 = true := code_word (m := ⟨1, 2⟩) (meth := k1m2) (c := k1c2) (by decide +kernel) rfl rfl rfl (by decide +kernel)
set_option maxRecDepth 65536 in
theorem w_c16 : (Jvm.Cond.code ({ cls := "java/lang/String", name := "equals", desc := "(Ljava/lang/Object;)Z" } : Jvm.MethodName) jdk_42_method_66_code (3 : Nat) (Option.some Jvm.ClassFile.FieldType.boolean)).before args0 about1 = true := code_word (m := ⟨7, 5⟩) (meth := k7m5) (c := k7c5) (by decide +kernel) rfl rfl rfl (by decide +kernel)
set_option maxRecDepth 65536 in
theorem w_c17 : (Jvm.Cond.code ({ cls := "java/lang/String", name := "length", desc := "()I" } : Jvm.MethodName) jdk_42_method_54_code (1 : Nat) (Option.some Jvm.ClassFile.FieldType.int)).before args0 about1 = true := code_word (m := ⟨7, 2⟩) (meth := k7m2) (c := k7c2) (by decide +kernel) rfl rfl rfl (by decide +kernel)
set_option maxRecDepth 65536 in
theorem w_c18 : (Jvm.Cond.code ({ cls := "java/lang/String", name := "coder", desc := "()B" } : Jvm.MethodName) jdk_42_method_152_code (1 : Nat) (Option.some Jvm.ClassFile.FieldType.byte)).before args0 about1 = true := code_word (m := ⟨7, 11⟩) (meth := k7m11) (c := k7c11) (by decide +kernel) rfl rfl rfl (by decide +kernel)
set_option maxRecDepth 65536 in
theorem w_c19 : (Jvm.Cond.code ({ cls := "java/lang/String", name := "charAt", desc := "(I)C" } : Jvm.MethodName) jdk_42_method_56_code (2 : Nat) (Option.some Jvm.ClassFile.FieldType.char)).before args0 about1 = true := code_word (m := ⟨7, 4⟩) (meth := k7m4) (c := k7c4) (by decide +kernel) rfl rfl rfl (by decide +kernel)
set_option maxRecDepth 65536 in
theorem w_c20 : (Jvm.Cond.code ({ cls := "java/lang/String", name := "isLatin1", desc := "()Z" } : Jvm.MethodName) jdk_42_method_154_code (1 : Nat) (Option.some Jvm.ClassFile.FieldType.boolean)).before args0 about1 = true := code_word (m := ⟨7, 12⟩) (meth := k7m12) (c := k7c12) (by decide +kernel) rfl rfl rfl (by decide +kernel)
set_option maxRecDepth 65536 in
theorem w_c21 : (Jvm.Cond.code ({ cls := "java/lang/StringUTF16", name := "charAt", desc := "([BI)C" } : Jvm.MethodName) jdk_52_method_83_code (2 : Nat) (Option.some Jvm.ClassFile.FieldType.char)).before args0 about1 = true := code_word (m := ⟨9, 11⟩) (meth := k9m11) (c := k9c11) (by decide +kernel) rfl rfl rfl (by decide +kernel)
set_option maxRecDepth 65536 in
theorem w_c22 : (Jvm.Cond.code ({ cls := "java/lang/StringUTF16", name := "checkIndex", desc := "(I[B)V" } : Jvm.MethodName) jdk_52_method_91_code (2 : Nat) (Option.none : Option Jvm.ClassFile.FieldType)).before args0 about1 = true := code_word (m := ⟨9, 12⟩) (meth := k9m12) (c := k9c12) (by decide +kernel) rfl rfl rfl (by decide +kernel)
set_option maxRecDepth 65536 in
theorem w_c23 : (Jvm.Cond.code ({ cls := "java/lang/StringUTF16", name := "length", desc := "([B)I" } : Jvm.MethodName) jdk_52_method_6_code (1 : Nat) (Option.some Jvm.ClassFile.FieldType.int)).before args0 about1 = true := code_word (m := ⟨9, 5⟩) (meth := k9m5) (c := k9c5) (by decide +kernel) rfl rfl rfl (by decide +kernel)
set_option maxRecDepth 65536 in
theorem w_c24 : (Jvm.Cond.code ({ cls := "java/lang/String", name := "checkIndex", desc := "(II)V" } : Jvm.MethodName) jdk_42_method_155_code (2 : Nat) (Option.none : Option Jvm.ClassFile.FieldType)).before args0 about1 = true := code_word (m := ⟨7, 13⟩) (meth := k7m13) (c := k7c13) (by decide +kernel) rfl rfl rfl (by decide +kernel)
set_option maxRecDepth 65536 in
theorem w_c25 : (Jvm.Cond.code ({ cls := "jdk/internal/util/Preconditions", name := "checkIndex", desc := "(IILjava/util/function/BiFunction;)I" } : Jvm.MethodName) jdk_41_method_11_code (3 : Nat) (Option.some Jvm.ClassFile.FieldType.int)).before args0 about1 = true := code_word (m := ⟨10, 1⟩) (meth := k10m1) (c := k10c1) (by decide +kernel) rfl rfl rfl (by decide +kernel)
set_option maxRecDepth 65536 in
theorem w_c26 : (Jvm.Cond.code ({ cls := "java/lang/String", name := "valueOf", desc := "(C)Ljava/lang/String;" } : Jvm.MethodName) jdk_42_method_139_code (1 : Nat) (Option.some (Jvm.ClassFile.FieldType.object "java/lang/String"))).before args0 about1 = true := code_word (m := ⟨7, 8⟩) (meth := k7m8) (c := k7c8) (by decide +kernel) rfl rfl rfl (by decide +kernel)
set_option maxRecDepth 65536 in
theorem w_c27 : (Jvm.Cond.code ({ cls := "java/lang/StringLatin1", name := "canEncode", desc := "(C)Z" } : Jvm.MethodName) jdk_43_method_3_code (1 : Nat) (Option.some Jvm.ClassFile.FieldType.boolean)).before args0 about1 = true := code_word (m := ⟨11, 2⟩) (meth := k11m2) (c := k11c2) (by decide +kernel) rfl rfl rfl (by decide +kernel)
set_option maxRecDepth 65536 in
theorem w_c28 : (Jvm.Cond.code ({ cls := "java/lang/StringLatin1", name := "toBytes", desc := "(C)[B" } : Jvm.MethodName) jdk_43_method_46_code (1 : Nat) (Option.some (Jvm.ClassFile.FieldType.array Jvm.ClassFile.FieldType.byte))).before args0 about1 = true := code_word (m := ⟨11, 7⟩) (meth := k11m7) (c := k11c7) (by decide +kernel) rfl rfl rfl (by decide +kernel)
set_option maxRecDepth 65536 in
theorem w_c29 : (Jvm.Cond.code ({ cls := "java/lang/String", name := "<init>", desc := "([BB)V" } : Jvm.MethodName) jdk_42_method_151_code (3 : Nat) (Option.none : Option Jvm.ClassFile.FieldType)).before args0 about1 = true := code_word (m := ⟨7, 10⟩) (meth := k7m10) (c := k7c10) (by decide +kernel) rfl rfl rfl (by decide +kernel)
set_option maxRecDepth 65536 in
theorem w_c30 : (Jvm.Cond.code ({ cls := "java/lang/StringLatin1", name := "equals", desc := "([B[B)Z" } : Jvm.MethodName) jdk_43_method_13_code (3 : Nat) (Option.some Jvm.ClassFile.FieldType.boolean)).before args0 about1 = true := code_word (m := ⟨11, 4⟩) (meth := k11m4) (c := k11c4) (by decide +kernel) rfl rfl rfl (by decide +kernel)
set_option maxRecDepth 65536 in
theorem w_c31 : (Jvm.Cond.code ({ cls := "java/lang/StringLatin1", name := "charAt", desc := "([BI)C" } : Jvm.MethodName) jdk_43_method_2_code (2 : Nat) (Option.some Jvm.ClassFile.FieldType.char)).before args0 about1 = true := code_word (m := ⟨11, 1⟩) (meth := k11m1) (c := k11c1) (by decide +kernel) rfl rfl rfl (by decide +kernel)
set_option maxRecDepth 65536 in
theorem w_c32 : (Jvm.Cond.code ({ cls := "java/lang/String", name := "indexOf", desc := "(I)I" } : Jvm.MethodName) jdk_42_method_79_code (2 : Nat) (Option.some Jvm.ClassFile.FieldType.int)).before args0 about1 = true := code_word (m := ⟨7, 6⟩) (meth := k7m6) (c := k7c6) (by decide +kernel) rfl rfl rfl (by decide +kernel)
set_option maxRecDepth 65536 in
theorem w_c33 : (Jvm.Cond.code ({ cls := "java/lang/String", name := "indexOf", desc := "(II)I" } : Jvm.MethodName) jdk_42_method_80_code (3 : Nat) (Option.some Jvm.ClassFile.FieldType.int)).before args0 about1 = true := code_word (m := ⟨7, 7⟩) (meth := k7m7) (c := k7c7) (by decide +kernel) rfl rfl rfl (by decide +kernel)
set_option maxRecDepth 65536 in
theorem w_c34 : (Jvm.Cond.code ({ cls := "java/lang/StringLatin1", name := "indexOf", desc := "([BIII)I" } : Jvm.MethodName) jdk_43_method_22_code (4 : Nat) (Option.some Jvm.ClassFile.FieldType.int)).before args0 about1 = true := code_word (m := ⟨11, 5⟩) (meth := k11m5) (c := k11c5) (by decide +kernel) rfl rfl rfl (by decide +kernel)
set_option maxRecDepth 65536 in
theorem w_c35 : (Jvm.Cond.code ({ cls := "java/lang/StringLatin1", name := "canEncode", desc := "(I)Z" } : Jvm.MethodName) jdk_43_method_4_code (1 : Nat) (Option.some Jvm.ClassFile.FieldType.boolean)).before args0 about1 = true := code_word (m := ⟨11, 3⟩) (meth := k11m3) (c := k11c3) (by decide +kernel) rfl rfl rfl (by decide +kernel)
set_option maxRecDepth 65536 in
theorem w_c36 : (Jvm.Cond.code ({ cls := "java/lang/Math", name := "max", desc := "(II)I" } : Jvm.MethodName) jdk_29_method_65_code (2 : Nat) (Option.some Jvm.ClassFile.FieldType.int)).before args0 about1 = true := code_word (m := ⟨12, 1⟩) (meth := k12m1) (c := k12c1) (by decide +kernel) rfl rfl rfl (by decide +kernel)
set_option maxRecDepth 65536 in
theorem w_c37 : (Jvm.Cond.code ({ cls := "java/lang/Math", name := "min", desc := "(II)I" } : Jvm.MethodName) jdk_29_method_69_code (2 : Nat) (Option.some Jvm.ClassFile.FieldType.int)).before args0 about1 = true := code_word (m := ⟨12, 2⟩) (meth := k12m2) (c := k12c2) (by decide +kernel) rfl rfl rfl (by decide +kernel)
set_option maxRecDepth 65536 in
theorem w_c38 : (Jvm.Cond.code ({ cls := "java/lang/StringLatin1", name := "indexOfChar", desc := "([BIII)I" } : Jvm.MethodName) jdk_43_method_23_code (6 : Nat) (Option.some Jvm.ClassFile.FieldType.int)).before args0 about1 = true := code_word (m := ⟨11, 6⟩) (meth := k11m6) (c := k11c6) (by decide +kernel) rfl rfl rfl (by decide +kernel)
set_option maxRecDepth 65536 in
theorem w_c39 : (Jvm.Cond.code ({ cls := "java/lang/StringUTF16", name := "toBytes", desc := "(C)[B" } : Jvm.MethodName) jdk_52_method_24_code (2 : Nat) (Option.some (Jvm.ClassFile.FieldType.array Jvm.ClassFile.FieldType.byte))).before args0 about1 = true := code_word (m := ⟨9, 10⟩) (meth := k9m10) (c := k9c10) (by decide +kernel) rfl rfl rfl (by decide +kernel)
def codes1 : List Jvm.Cond := [Jvm.Cond.code x code maxLocals ret, Jvm.Cond.code ({ cls := "com/example/rackline/rackline/core/NamesIsValidPinLaw", name := "draw", desc := "(I)C" } : Jvm.MethodName) method_2_code (1 : Nat) (Option.some Jvm.ClassFile.FieldType.char), Jvm.Cond.code ({ cls := "java/lang/String", name := "<init>", desc := "([C)V" } : Jvm.MethodName) jdk_42_method_3_code (2 : Nat) (Option.none : Option Jvm.ClassFile.FieldType), Jvm.Cond.code ({ cls := "java/lang/String", name := "<init>", desc := "([CIILjava/lang/Void;)V" } : Jvm.MethodName) jdk_42_method_149_code (6 : Nat) (Option.none : Option Jvm.ClassFile.FieldType), Jvm.Cond.code ({ cls := "java/lang/Object", name := "<init>", desc := "()V" } : Jvm.MethodName) object_method_1_code (1 : Nat) (Option.none : Option Jvm.ClassFile.FieldType), Jvm.Cond.code ({ cls := "com/example/rackline/rackline/core/Names", name := "isValid", desc := "(Ljava/lang/String;)Z" } : Jvm.MethodName) prog_8_method_2_code (3 : Nat) (Option.some Jvm.ClassFile.FieldType.boolean), Jvm.Cond.code ({ cls := "java/lang/String", name := "isEmpty", desc := "()Z" } : Jvm.MethodName) jdk_42_method_55_code (1 : Nat) (Option.some Jvm.ClassFile.FieldType.boolean), Jvm.Cond.code ({ cls := "java/lang/StringUTF16", name := "compress", desc := "([CII)[B" } : Jvm.MethodName) jdk_52_method_16_code (6 : Nat) (Option.some (Jvm.ClassFile.FieldType.array Jvm.ClassFile.FieldType.byte)), Jvm.Cond.code ({ cls := "java/lang/StringUTF16", name := "compress", desc := "([CI[BII)I" } : Jvm.MethodName) jdk_52_method_21_code (7 : Nat) (Option.some Jvm.ClassFile.FieldType.int), Jvm.Cond.code ({ cls := "java/lang/StringUTF16", name := "toBytes", desc := "([CII)[B" } : Jvm.MethodName) jdk_52_method_14_code (5 : Nat) (Option.some (Jvm.ClassFile.FieldType.array Jvm.ClassFile.FieldType.byte)), Jvm.Cond.code ({ cls := "java/lang/StringUTF16", name := "newBytesFor", desc := "(I)[B" } : Jvm.MethodName) jdk_52_method_2_code (1 : Nat) (Option.some (Jvm.ClassFile.FieldType.array Jvm.ClassFile.FieldType.byte)), Jvm.Cond.code ({ cls := "java/lang/StringUTF16", name := "newBytesLength", desc := "(I)I" } : Jvm.MethodName) jdk_52_method_3_code (1 : Nat) (Option.some Jvm.ClassFile.FieldType.int), Jvm.Cond.code ({ cls := "java/lang/StringUTF16", name := "putChar", desc := "([BII)V" } : Jvm.MethodName) jdk_52_method_4_code (3 : Nat) (Option.none : Option Jvm.ClassFile.FieldType), Jvm.Cond.code ({ cls := "java/lang/StringUTF16", name := "getChar", desc := "([BI)C" } : Jvm.MethodName) jdk_52_method_5_code (2 : Nat) (Option.some Jvm.ClassFile.FieldType.char), Jvm.Cond.code ({ cls := "java/lang/StringUTF16", name := "coderFromArrayLen", desc := "([BI)B" } : Jvm.MethodName) jdk_52_method_15_code (2 : Nat) (Option.some Jvm.ClassFile.FieldType.byte), Jvm.Cond.code ({ cls := "com/example/rackline/rackline/core/NamesIsValidPinLaw", name := "ok", desc := "(C)Z" } : Jvm.MethodName) method_3_code (1 : Nat) (Option.some Jvm.ClassFile.FieldType.boolean), Jvm.Cond.code ({ cls := "java/lang/String", name := "equals", desc := "(Ljava/lang/Object;)Z" } : Jvm.MethodName) jdk_42_method_66_code (3 : Nat) (Option.some Jvm.ClassFile.FieldType.boolean), Jvm.Cond.code ({ cls := "java/lang/String", name := "length", desc := "()I" } : Jvm.MethodName) jdk_42_method_54_code (1 : Nat) (Option.some Jvm.ClassFile.FieldType.int), Jvm.Cond.code ({ cls := "java/lang/String", name := "coder", desc := "()B" } : Jvm.MethodName) jdk_42_method_152_code (1 : Nat) (Option.some Jvm.ClassFile.FieldType.byte), Jvm.Cond.code ({ cls := "java/lang/String", name := "charAt", desc := "(I)C" } : Jvm.MethodName) jdk_42_method_56_code (2 : Nat) (Option.some Jvm.ClassFile.FieldType.char), Jvm.Cond.code ({ cls := "java/lang/String", name := "isLatin1", desc := "()Z" } : Jvm.MethodName) jdk_42_method_154_code (1 : Nat) (Option.some Jvm.ClassFile.FieldType.boolean), Jvm.Cond.code ({ cls := "java/lang/StringUTF16", name := "charAt", desc := "([BI)C" } : Jvm.MethodName) jdk_52_method_83_code (2 : Nat) (Option.some Jvm.ClassFile.FieldType.char), Jvm.Cond.code ({ cls := "java/lang/StringUTF16", name := "checkIndex", desc := "(I[B)V" } : Jvm.MethodName) jdk_52_method_91_code (2 : Nat) (Option.none : Option Jvm.ClassFile.FieldType), Jvm.Cond.code ({ cls := "java/lang/StringUTF16", name := "length", desc := "([B)I" } : Jvm.MethodName) jdk_52_method_6_code (1 : Nat) (Option.some Jvm.ClassFile.FieldType.int), Jvm.Cond.code ({ cls := "java/lang/String", name := "checkIndex", desc := "(II)V" } : Jvm.MethodName) jdk_42_method_155_code (2 : Nat) (Option.none : Option Jvm.ClassFile.FieldType), Jvm.Cond.code ({ cls := "jdk/internal/util/Preconditions", name := "checkIndex", desc := "(IILjava/util/function/BiFunction;)I" } : Jvm.MethodName) jdk_41_method_11_code (3 : Nat) (Option.some Jvm.ClassFile.FieldType.int), Jvm.Cond.code ({ cls := "java/lang/String", name := "valueOf", desc := "(C)Ljava/lang/String;" } : Jvm.MethodName) jdk_42_method_139_code (1 : Nat) (Option.some (Jvm.ClassFile.FieldType.object "java/lang/String")), Jvm.Cond.code ({ cls := "java/lang/StringLatin1", name := "canEncode", desc := "(C)Z" } : Jvm.MethodName) jdk_43_method_3_code (1 : Nat) (Option.some Jvm.ClassFile.FieldType.boolean), Jvm.Cond.code ({ cls := "java/lang/StringLatin1", name := "toBytes", desc := "(C)[B" } : Jvm.MethodName) jdk_43_method_46_code (1 : Nat) (Option.some (Jvm.ClassFile.FieldType.array Jvm.ClassFile.FieldType.byte)), Jvm.Cond.code ({ cls := "java/lang/String", name := "<init>", desc := "([BB)V" } : Jvm.MethodName) jdk_42_method_151_code (3 : Nat) (Option.none : Option Jvm.ClassFile.FieldType), Jvm.Cond.code ({ cls := "java/lang/StringLatin1", name := "equals", desc := "([B[B)Z" } : Jvm.MethodName) jdk_43_method_13_code (3 : Nat) (Option.some Jvm.ClassFile.FieldType.boolean), Jvm.Cond.code ({ cls := "java/lang/StringLatin1", name := "charAt", desc := "([BI)C" } : Jvm.MethodName) jdk_43_method_2_code (2 : Nat) (Option.some Jvm.ClassFile.FieldType.char), Jvm.Cond.code ({ cls := "java/lang/String", name := "indexOf", desc := "(I)I" } : Jvm.MethodName) jdk_42_method_79_code (2 : Nat) (Option.some Jvm.ClassFile.FieldType.int), Jvm.Cond.code ({ cls := "java/lang/String", name := "indexOf", desc := "(II)I" } : Jvm.MethodName) jdk_42_method_80_code (3 : Nat) (Option.some Jvm.ClassFile.FieldType.int), Jvm.Cond.code ({ cls := "java/lang/StringLatin1", name := "indexOf", desc := "([BIII)I" } : Jvm.MethodName) jdk_43_method_22_code (4 : Nat) (Option.some Jvm.ClassFile.FieldType.int), Jvm.Cond.code ({ cls := "java/lang/StringLatin1", name := "canEncode", desc := "(I)Z" } : Jvm.MethodName) jdk_43_method_4_code (1 : Nat) (Option.some Jvm.ClassFile.FieldType.boolean), Jvm.Cond.code ({ cls := "java/lang/Math", name := "max", desc := "(II)I" } : Jvm.MethodName) jdk_29_method_65_code (2 : Nat) (Option.some Jvm.ClassFile.FieldType.int), Jvm.Cond.code ({ cls := "java/lang/Math", name := "min", desc := "(II)I" } : Jvm.MethodName) jdk_29_method_69_code (2 : Nat) (Option.some Jvm.ClassFile.FieldType.int), Jvm.Cond.code ({ cls := "java/lang/StringLatin1", name := "indexOfChar", desc := "([BIII)I" } : Jvm.MethodName) jdk_43_method_23_code (6 : Nat) (Option.some Jvm.ClassFile.FieldType.int), Jvm.Cond.code ({ cls := "java/lang/StringUTF16", name := "toBytes", desc := "(C)[B" } : Jvm.MethodName) jdk_52_method_24_code (2 : Nat) (Option.some (Jvm.ClassFile.FieldType.array Jvm.ClassFile.FieldType.byte))]
set_option maxRecDepth 65536 in
theorem codes_eq : words1.filter isCode = codes1 := rfl
theorem w_codes : ∀ c ∈ words1.filter isCode, c.before args0 about1 = true := by
  rw [codes_eq]
  intro c hc
  simp only [codes1, List.mem_cons, List.not_mem_nil, or_false] at hc
  rcases hc with rfl | rfl | rfl | rfl | rfl | rfl | rfl | rfl | rfl | rfl | rfl | rfl | rfl | rfl | rfl | rfl | rfl | rfl | rfl | rfl | rfl | rfl | rfl | rfl | rfl | rfl | rfl | rfl | rfl | rfl | rfl | rfl | rfl | rfl | rfl | rfl | rfl | rfl | rfl | rfl
  · exact w_c0
  · exact w_c1
  · exact w_c2
  · exact w_c3
  · exact w_c4
  · exact w_c5
  · exact w_c6
  · exact w_c7
  · exact w_c8
  · exact w_c9
  · exact w_c10
  · exact w_c11
  · exact w_c12
  · exact w_c13
  · exact w_c14
  · exact w_c15
  · exact w_c16
  · exact w_c17
  · exact w_c18
  · exact w_c19
  · exact w_c20
  · exact w_c21
  · exact w_c22
  · exact w_c23
  · exact w_c24
  · exact w_c25
  · exact w_c26
  · exact w_c27
  · exact w_c28
  · exact w_c29
  · exact w_c30
  · exact w_c31
  · exact w_c32
  · exact w_c33
  · exact w_c34
  · exact w_c35
  · exact w_c36
  · exact w_c37
  · exact w_c38
  · exact w_c39
set_option maxRecDepth 65536 in
theorem w_t1 : (words1.take 24).all (fun c => isCode c || c.before args0 about1) = true := by decide +kernel
set_option maxRecDepth 65536 in
theorem w_t2 : ((words1.drop 24).take 24).all (fun c => isCode c || c.before args0 about1) = true := by decide +kernel
set_option maxRecDepth 65536 in
theorem w_t3 : (((words1.drop 24).drop 24).take 24).all (fun c => isCode c || c.before args0 about1) = true := by decide +kernel
set_option maxRecDepth 65536 in
theorem w_t4 : ((((words1.drop 24).drop 24).drop 24).take 24).all (fun c => isCode c || c.before args0 about1) = true := by decide +kernel
set_option maxRecDepth 65536 in
theorem w_t5 : (((((words1.drop 24).drop 24).drop 24).drop 24).take 24).all (fun c => isCode c || c.before args0 about1) = true := by decide +kernel
set_option maxRecDepth 65536 in
theorem w_t6 : ((((((words1.drop 24).drop 24).drop 24).drop 24).drop 24).take 24).all (fun c => isCode c || c.before args0 about1) = true := by decide +kernel
set_option maxRecDepth 65536 in
theorem w_t7 : ((((((words1.drop 24).drop 24).drop 24).drop 24).drop 24).drop 24).all (fun c => isCode c || c.before args0 about1) = true := by decide +kernel
theorem w_tables : (allAtoms (Jvm.Cond.code x code maxLocals ret :: tables_1)).before args0 about1 = true := by
  rw [allAtoms_all]
  show words1.all (fun c => c.before args0 about1) = true
  refine all_split ?_ w_codes
  rw [← List.take_append_drop 24 words1, List.all_append, w_t1, ← List.take_append_drop 24 (words1.drop 24), List.all_append, w_t2, ← List.take_append_drop 24 ((words1.drop 24).drop 24), List.all_append, w_t3, ← List.take_append_drop 24 (((words1.drop 24).drop 24).drop 24), List.all_append, w_t4, ← List.take_append_drop 24 ((((words1.drop 24).drop 24).drop 24).drop 24), List.all_append, w_t5, ← List.take_append_drop 24 (((((words1.drop 24).drop 24).drop 24).drop 24).drop 24), List.all_append, w_t6, w_t7]
  rfl
set_option maxRecDepth 65536 in
theorem w_rest : rest_1_c.before args0 about1 = true := by decide +kernel
set_option maxRecDepth 65536 in
theorem w_case : (Jvm.Cond.and given_1 narrow_1).before args0 about1 = true := by decide +kernel
set_option maxRecDepth 65536 in
theorem w_consts : constsHeld consts_1 about1 := Jvm.Lit.constsHeldB_iff.mp (by decide +kernel)
theorem w_applies : (headSpec (Jvm.Cond.code x code maxLocals ret :: tables_1) room_1).applies x e0.platform about1 = true :=
  (Spec.applies_iff w_frames).mpr ⟨w_running, w_runnable, w_alone, w_named, w_hears, w_ripe, w_room, w_tables⟩
theorem atStart : AtStart classFile x code maxLocals ret World_1 tables_1 room_1 Calls_1 rest_1 Pre_1 launch0 p0 e0 about1 theMethod args0 below0 :=
  ⟨lists_1, trivial, launch0.admits_env _ _ _, launch0.least_env, fairChoices_fair.cas, fairChoices_fair.clock, w_frames, w_args, w_heap, w_applies, ⟨w_consts, trivial⟩, w_rest, w_case⟩
end start1
theorem witness_1 : WitnessClaimed_1 := ⟨start1.p0, start1.e0, start1.about1, start1.theMethod, start1.args0, start1.below0, start1.atStart⟩
end Jvm.Pilot.@@N@@

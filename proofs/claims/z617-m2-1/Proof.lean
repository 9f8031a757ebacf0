import JvmDerived
import JvmDerived.Pilot.@@N@@Statement
import JvmDerived.Pilot.@@N@@Code
set_option linter.unusedVariables false
set_option linter.unusedSimpArgs false
namespace Jvm.RoadKit
open Sem ClassFile Op Lib Jvm.Stand Jvm.Free Jvm.LawKit
section New
variable {p : Program} {l : Launch} {e : Env} {R : Room} {s : State} {m : MethodId} {args : Array Value} {below : List Frame} {meth : Method} {c : Code} {T : State} {locs : List Loc} {cells slots : Nat}
theorem retI (X : Stand p l e R s m args below meth c T locs cells slots) (hx : p.tables.exec = Jvm.exec) {pc : Nat} {Ls : Array Slot} {z : Int32} {rest : List Value} (hret : meth.sig.returnType = some .int) (hd : decode c.code pc = .ok (.ireturn, 1)) {fs : List Frame}
    (hl : ∀ (f : JFrame) (acts : List Action), f.method = m → f.locked = none → f.entered = [] → (doReturn e (T.setTop f) acts (some (.int z))).1 = T.setFrames fs) : Steps p.tables e below (T.setTop (mkF m pc Ls (.int z :: rest))) (T.setFrames fs) := by
  have hm' : T.vm.method? m = some meth := X.method'
  have hn : narrow .int (.int z) = .int z := rfl
  show Steps p.tables e below (T.setTop { method := m, pc := pc, locals := Ls, stack := _ :: rest, locked := none }) _
  jvm_step X.here [X.here.top, hx, hd, hm', hret, hn]
  first | (intro acts; rw [hl _ acts rfl rfl rfl]) | rw [hl _ _ rfl rfl rfl]
  exact Steps.refl _
end New
end Jvm.RoadKit
namespace Jvm.Pilot.@@N@@
open Jvm Jvm.ClassFile Sem Op Lib Jvm.Free Jvm.Stand Jvm.LawKit Jvm.RoadKit Bundle Jvm.Pilot.@@N@@.Jvm.D
theorem own_sta_keep {Z : State} {h h' : Heap} {C n d : String} {v : Value} (F : Sta Z h C n d v) (K : Keep h h' []) : Sta Z h' C n d v := by
  obtain ⟨cf, i, k, f, st, cell, h1, h2, h3, h4, h5, r⟩ := F
  exact ⟨cf, i, k, f, st, cell, h1, h2, h3, h4, K.2.1 _ _ h5 nin0, r⟩
/-- whoever comes from B to t comes from A to t -/
abbrev own_R (p : Program) (e : Env) (below : List Frame) (A B : State) : Prop := ∀ t, Steps p.tables e below B t → Steps p.tables e below A t
abbrev Y1 : MethodName := ⟨"java/lang/StringLatin1", "canEncode", "(C)Z"⟩
abbrev Y2 : MethodName := ⟨"java/lang/StringLatin1", "toBytes", "(C)[B"⟩
abbrev Y3 : MethodName := ⟨"java/lang/String", "<init>", "([BB)V"⟩
abbrev Y4 : MethodName := ⟨"java/lang/String", "valueOf", "(C)Ljava/lang/String;"⟩
abbrev Y5 : MethodName := ⟨"com/example/carved_corpus/carvedcorpus/Hit", "<init>", "(Ljava/lang/String;F)V"⟩
abbrev Y6 : MethodName := ⟨"java/util/AbstractCollection", "<init>", "()V"⟩
abbrev Y7 : MethodName := ⟨"java/util/AbstractList", "<init>", "()V"⟩
abbrev Y8 : MethodName := ⟨"java/util/ArrayList", "<init>", "()V"⟩
abbrev Y9 : MethodName := ⟨"java/lang/Math", "max", "(II)I"⟩
abbrev Y10 : MethodName := ⟨"jdk/internal/util/ArraysSupport", "newLength", "(III)I"⟩
abbrev Y11 : MethodName := ⟨"java/lang/Math", "min", "(II)I"⟩
abbrev Y12 : MethodName := ⟨"java/util/Arrays", "copyOf", "([Ljava/lang/Object;ILjava/lang/Class;)[Ljava/lang/Object;"⟩
abbrev Y13 : MethodName := ⟨"java/util/Arrays", "copyOf", "([Ljava/lang/Object;I)[Ljava/lang/Object;"⟩
abbrev Y14 : MethodName := ⟨"java/util/ArrayList", "grow", "(I)[Ljava/lang/Object;"⟩
abbrev Y15 : MethodName := ⟨"java/util/ArrayList", "grow", "()[Ljava/lang/Object;"⟩
abbrev Y16 : MethodName := ⟨"java/util/ArrayList", "add", "(Ljava/lang/Object;[Ljava/lang/Object;I)V"⟩
abbrev Y17 : MethodName := ⟨"java/util/ArrayList", "add", "(Ljava/lang/Object;)Z"⟩
abbrev Y18 : MethodName := ⟨"com/example/carved_corpus/carvedcorpus/cli/EvaluationGetRelevantAtCutoffPinLaw", "put", "(Ljava/util/ArrayList;IIILcom/example/carved_corpus/carvedcorpus/Hit;Lcom/example/carved_corpus/carvedcorpus/Hit;)V"⟩
abbrev Y19 : MethodName := ⟨"com/example/carved_corpus/carvedcorpus/cli/EvaluationGetRelevantAtCutoffPinLaw", "build", "(IILcom/example/carved_corpus/carvedcorpus/Hit;Lcom/example/carved_corpus/carvedcorpus/Hit;)Ljava/util/ArrayList;"⟩
abbrev Y20 : MethodName := ⟨"java/lang/String", "isLatin1", "()Z"⟩
abbrev Y21 : MethodName := ⟨"java/lang/StringLatin1", "hashCode", "([B)I"⟩
abbrev Y22 : MethodName := ⟨"java/lang/String", "hashCode", "()I"⟩
abbrev Y23 : MethodName := ⟨"java/util/HashMap", "hash", "(Ljava/lang/Object;)I"⟩
abbrev Y24 : MethodName := ⟨"java/lang/StringLatin1", "equals", "([B[B)Z"⟩
abbrev Y25 : MethodName := ⟨"java/lang/String", "equals", "(Ljava/lang/Object;)Z"⟩
abbrev Y26 : MethodName := ⟨"java/util/AbstractSet", "<init>", "()V"⟩
abbrev Y27 : MethodName := ⟨"java/util/AbstractMap", "<init>", "()V"⟩
abbrev Y28 : MethodName := ⟨"java/util/HashMap", "<init>", "()V"⟩
abbrev Y29 : MethodName := ⟨"java/util/HashSet", "<init>", "()V"⟩
abbrev Y30 : MethodName := ⟨"java/util/HashMap", "resize", "()[Ljava/util/HashMap$Node;"⟩
abbrev Y31 : MethodName := ⟨"java/util/HashMap$Node", "<init>", "(ILjava/lang/Object;Ljava/lang/Object;Ljava/util/HashMap$Node;)V"⟩
abbrev Y32 : MethodName := ⟨"java/util/HashMap", "newNode", "(ILjava/lang/Object;Ljava/lang/Object;Ljava/util/HashMap$Node;)Ljava/util/HashMap$Node;"⟩
abbrev Y33 : MethodName := ⟨"java/util/HashMap", "afterNodeInsertion", "(Z)V"⟩
abbrev Y34 : MethodName := ⟨"java/util/HashMap", "putVal", "(ILjava/lang/Object;Ljava/lang/Object;ZZ)Ljava/lang/Object;"⟩
abbrev Y35 : MethodName := ⟨"java/util/HashMap", "put", "(Ljava/lang/Object;Ljava/lang/Object;)Ljava/lang/Object;"⟩
abbrev Y36 : MethodName := ⟨"java/util/HashSet", "add", "(Ljava/lang/Object;)Z"⟩
abbrev Y37 : MethodName := ⟨"java/util/HashMap", "getNode", "(Ljava/lang/Object;)Ljava/util/HashMap$Node;"⟩
abbrev Y38 : MethodName := ⟨"java/util/HashMap", "containsKey", "(Ljava/lang/Object;)Z"⟩
abbrev Y39 : MethodName := ⟨"java/util/HashSet", "contains", "(Ljava/lang/Object;)Z"⟩
abbrev Y40 : MethodName := ⟨"jdk/internal/util/Preconditions", "checkIndex", "(IILjava/util/function/BiFunction;)I"⟩
abbrev Y41 : MethodName := ⟨"java/util/Objects", "checkIndex", "(II)I"⟩
abbrev Y42 : MethodName := ⟨"java/util/ArrayList", "size", "()I"⟩
abbrev Y43 : MethodName := ⟨"java/util/ArrayList", "elementData", "(I)Ljava/lang/Object;"⟩
abbrev Y44 : MethodName := ⟨"java/util/ArrayList", "get", "(I)Ljava/lang/Object;"⟩
abbrev Y45 : MethodName := ⟨"com/example/carved_corpus/carvedcorpus/cli/EvaluationGetRelevantAtCutoffPinLaw", "bit", "(II)I"⟩
abbrev Y46 : MethodName := ⟨"com/example/carved_corpus/carvedcorpus/cli/EvaluationGetRelevantAtCutoffPinLaw", "count", "(II)J"⟩
abbrev Y47 : MethodName := ⟨"com/example/carved_corpus/carvedcorpus/Hit", "getId", "()Ljava/lang/String;"⟩
abbrev Y48 : MethodName := ⟨"com/example/carved_corpus/carvedcorpus/cli/Evaluation", "<init>", "()V"⟩
abbrev Y49 : MethodName := ⟨"com/example/carved_corpus/carvedcorpus/cli/Evaluation", "getRelevantAtCutoff", "()D"⟩
abbrev Y50 : MethodName := ⟨"com/example/carved_corpus/carvedcorpus/cli/Evaluation", "add", "(Ljava/util/List;Ljava/util/Set;)V"⟩
abbrev Y51 : MethodName := ⟨"java/util/List", "size", "()I"⟩
abbrev Y52 : MethodName := ⟨"java/util/List", "get", "(I)Ljava/lang/Object;"⟩
abbrev Y53 : MethodName := ⟨"java/util/Set", "contains", "(Ljava/lang/Object;)Z"⟩
abbrev bc1 : ByteArray := jdk_43_method_3_code
abbrev bc2 : ByteArray := jdk_43_method_46_code
abbrev bc3 : ByteArray := jdk_42_method_151_code
abbrev bc4 : ByteArray := jdk_42_method_139_code
abbrev bc5 : ByteArray := prog_1_method_1_code
abbrev bc6 : ByteArray := jdk_22_method_1_code
abbrev bc7 : ByteArray := jdk_39_method_1_code
abbrev bc8 : ByteArray := jdk_38_method_2_code
abbrev bc9 : ByteArray := jdk_29_method_65_code
abbrev bc10 : ByteArray := jdk_48_method_27_code
abbrev bc11 : ByteArray := jdk_29_method_69_code
abbrev bc12 : ByteArray := jdk_65_method_120_code
abbrev bc13 : ByteArray := jdk_65_method_119_code
abbrev bc14 : ByteArray := jdk_38_method_6_code
abbrev bc15 : ByteArray := jdk_38_method_7_code
abbrev bc16 : ByteArray := jdk_38_method_24_code
abbrev bc17 : ByteArray := jdk_38_method_25_code
abbrev bc18 : ByteArray := method_4_code
abbrev bc19 : ByteArray := method_3_code
abbrev bc20 : ByteArray := jdk_42_method_154_code
abbrev bc21 : ByteArray := jdk_43_method_21_code
abbrev bc22 : ByteArray := jdk_42_method_78_code
abbrev bc23 : ByteArray := jdk_69_method_1_code
abbrev bc24 : ByteArray := jdk_43_method_13_code
abbrev bc25 : ByteArray := jdk_42_method_66_code
abbrev bc26 : ByteArray := jdk_91_method_1_code
abbrev bc27 : ByteArray := jdk_71_method_1_code
abbrev bc28 : ByteArray := jdk_69_method_7_code
abbrev bc29 : ByteArray := jdk_93_method_1_code
abbrev bc30 : ByteArray := jdk_69_method_17_code
abbrev bc31 : ByteArray := jdk_70_method_1_code
abbrev bc32 : ByteArray := jdk_69_method_46_code
abbrev bc33 : ByteArray := jdk_69_method_52_code
abbrev bc34 : ByteArray := jdk_69_method_16_code
abbrev bc35 : ByteArray := jdk_69_method_15_code
abbrev bc36 : ByteArray := jdk_93_method_10_code
abbrev bc37 : ByteArray := jdk_69_method_13_code
abbrev bc38 : ByteArray := jdk_69_method_14_code
abbrev bc39 : ByteArray := jdk_93_method_9_code
abbrev bc40 : ByteArray := jdk_41_method_11_code
abbrev bc41 : ByteArray := jdk_31_method_17_code
abbrev bc42 : ByteArray := jdk_38_method_8_code
abbrev bc43 : ByteArray := jdk_38_method_18_code
abbrev bc44 : ByteArray := jdk_38_method_20_code
abbrev bc45 : ByteArray := method_5_code
abbrev bc46 : ByteArray := method_6_code
abbrev bc47 : ByteArray := prog_1_method_2_code
abbrev bc48 : ByteArray := prog_7_method_1_code
abbrev bc49 : ByteArray := prog_7_method_4_code
abbrev bc50 : ByteArray := prog_7_method_2_code
abbrev dk (c : ByteArray) (p : Nat) (i : Instr) (n : Nat) : Prop := decode c p = .ok (i, n)
theorem nlg {a b n : Nat} (h : a < n) (g : b = n) : a ≠ b := g ▸ Nat.ne_of_lt h
theorem nls {a b n : Nat} (h : a < n) (g : n ≤ b) : a ≠ b := Nat.ne_of_lt (Nat.lt_of_lt_of_le h g)
theorem own_c {p : Program} {e : Env} {below : List Frame} {A B D : State} (K : own_R p e below A B) (h : ∀ t, Steps p.tables e below D t → Steps p.tables e below B t) : own_R p e below A D := fun t k => K t (h t k)
theorem own_ct {p : Program} {e : Env} {below : List Frame} {A B D : State} (K : own_R p e below A B) (h : Steps p.tables e below B D) : own_R p e below A D := fun t k => K t (h.trans k)
abbrev vI (x : Int32) : Slot := .val (.int x)
abbrev vJ (x : Int64) : Slot := .val (.long x)
abbrev vR (x : Addr) : Slot := .val (.ref x)
theorem own_w {Z : State} {a0 : Array Value} (hw : ∀ d ∈ tables_1, d.before a0 Z = true) (i : Nat) {d : Jvm.Cond} (h : tables_1[i]? = some d) : d.before a0 Z = true := hw _ (List.mem_of_getElem? h)

section OwnWords
variable {args : Array Value} {s : State} {t : Term}
theorem own_eqi {k : Int32} (h : (Jvm.Cond.eq t (.int k)).value args s none s [] = some true) : t.eval args s none [] s = some (.int k) := by
  simp only [Cond.value, Term.eval] at h
  cases ht : t.eval args s none [] s with
  | none => simp [ht] at h
  | some x => cases x <;> simp [ht] at h ⊢ <;> exact h
theorem own_eql {k : Int64} (h : (Jvm.Cond.eq t (.long k)).value args s none s [] = some true) : t.eval args s none [] s = some (.long k) := by
  simp only [Cond.value, Term.eval] at h
  cases ht : t.eval args s none [] s with
  | none => simp [ht] at h
  | some x => cases x <;> simp [ht] at h ⊢ <;> exact h
theorem own_eqr {u : Term} {x : Addr} (h : (Jvm.Cond.eq t u).value args s none s [] = some true) (hu : u.eval args s none [] s = some (.ref x)) : t.eval args s none [] s = some (.ref x) := by
  simp only [Cond.value, hu] at h
  cases ht : t.eval args s none [] s with
  | none => simp [ht] at h
  | some y => cases y <;> simp [ht] at h ⊢ <;> exact h
theorem own_len {x : Addr} {cl : Cell} {ty : FieldType} {k : Int32} (h : (Jvm.Cond.eq (.length t) (.int k)).value args s none s [] = some true) (ev : t.eval args s none [] s = some (.ref x)) (A : Arr s s.heap x cl ty) : cl.slots.size < 2 ^ 31 ∧ cl.slots.size.toInt32 = k := by
  have h1 := own_eqi h
  have h2 := A.fin (Vm.Alike.refl _)
  simp only [Term.eval, ev, Option.bind_eq_bind, Option.bind_some, h2] at h1
  split at h1
  · rename_i q; exact ⟨q, by simpa using h1⟩
  · cases h1
theorem own_elem {x : Addr} {cl : Cell} {ty : FieldType} {j : Int32} {v : Value} (h : (Term.elem t (.int j)).eval args s none [] s = some v) (ev : t.eval args s none [] s = some (.ref x)) (A : Arr s s.heap x cl ty) : cl.slots[j.toNatClampNeg]? = some v :=
  (elem_in h ev (Term.int_eval j) A.1).2
end OwnWords
abbrev own_S9 (Z : State) (h : Heap) (y : Int32) : Prop := Sta Z h "java/lang/String" "COMPACT_STRINGS" "Z" (.int y)
abbrev own_Cd (Z : State) (h : Heap) (a : Addr) (k : Int32) : Prop := Fld Z h a "java/lang/String" "coder" "B" (.int k)
abbrev own_Fv (Z : State) (h : Heap) (a t : Addr) : Prop := Fld Z h a "java/lang/String" "value" "[B" (.ref t)
abbrev own_Hh (Z : State) (h : Heap) (a : Addr) (x : Int32) : Prop := Fld Z h a "java/lang/String" "hash" "I" (.int x)
abbrev own_Hz (Z : State) (h : Heap) (a : Addr) (x : Int32) : Prop := Fld Z h a "java/lang/String" "hashIsZero" "Z" (.int x)
def own_ns (h : Heap) (x : Addr) : Prop := ∃ c : Cell, h[x]? = some c ∧ c.vm.isStatics = false
theorem own_ns_exa {Z : State} {h : Heap} {x : Addr} {K : String} (E : Exa Z h x K) : own_ns h x := by obtain ⟨c, _, h1, -, -, h4, -⟩ := E; exact ⟨c, h1, h4⟩
theorem own_ns_arv {Z : State} {h : Heap} {a : Addr} {k : ClassId} {ty : FieldType} {z : Int32} {es : List Value} {dv : Value} (V : Arv Z h a k ty z es dv) : own_ns h a := by obtain ⟨c, A, -⟩ := V; exact ⟨c, A.1, A.plain⟩
theorem own_sta_keepW {Z : State} {h h' : Heap} {C n d : String} {v : Value} {ws : List Addr} (F : Sta Z h C n d v) (K : Keep h h' ws) (q : ∀ x ∈ ws, own_ns h x) : Sta Z h' C n d v := by
  obtain ⟨cf, i, k, f, st, cell, h1, h2, h3, h4, h5, h6, r⟩ := F
  exact ⟨cf, i, k, f, st, cell, h1, h2, h3, h4, K.2.1 _ _ h5 (fun z => by obtain ⟨c, q1, q2⟩ := q _ z; cases q1.symm.trans h5; rw [q2] at h6; cases h6), h6, r⟩
theorem own_set {Z : State} {h h' : Heap} {a : Addr} {k : ClassId} {ty : FieldType} {z j : Int32} {es : List Value} {dv v : Value} (V : Arv Z h a k ty z es dv) (hv : fits ty v = true) (W : Wr h h' a j.toNatClampNeg v) (hj : j.toNatClampNeg = es.length) : Arv Z h' a k ty z (es ++ [v]) dv := by
  have Vp : Arv Z h a k ty z (es ++ [dv]) dv := V.pad (pad_rep es dv 1)
  obtain ⟨cl, A, q, S, N, H, G⟩ := Vp
  have r := Arv.set A q S N H G hv W es.length hj (by simp)
  have e : (es ++ [dv]).set es.length v = es ++ [v] := by simp
  rw [e] at r; exact r
theorem d2_0 : dk bc1 0 (.iload_n 0) 1 := by decide +kernel
theorem d2_1 : dk bc1 1 (.sipush 255) 3 := by decide +kernel
theorem d2_4 : dk bc1 4 (.if_icmp .gt 7) 3 := by decide +kernel
theorem d2_7 : dk bc1 7 (.iconst 1) 1 := by decide +kernel
theorem d2_8 : dk bc1 8 (.goto 4) 3 := by decide +kernel
theorem d2_12 : dk bc1 12 (.ireturn) 1 := by decide +kernel
theorem pn_2 : plainName "java/lang/StringLatin1" = true := by first | (simp [plainName, overriddenIn]; done) | decide +kernel
theorem ef_2 (m : MethodId) (x0 : Int32) : entryFrame m #[(.int x0)] 1 = mkF m 0 #[.val (.int x0)] [] := by first | (simp [entryFrame, mkF, argsToLocals, Value.category]; done) | rfl
def Q2 (Z : State) (p0 : Int32) (h0 : Heap) (n0 : Nat) (v : Option Value) (h : Heap) (L : List Loc) : Prop := v = some (.int 1) ∧ Fr n0 L ∧ h = h0
set_option maxRecDepth 65536 in
set_option maxHeartbeats 40000000 in
theorem rm2 (l : Launch) (Z : State) (a0 : Array Value) (hw : ∀ d ∈ tables_1, d.before a0 Z = true) (ws : List Jvm.Cond) (p0 : Int32) (h0 : Heap) (n0 : Nat) (Z0 : n0 ≤ h0.size) (P0 : ¬ (255 : Int32) < p0) :
    MetFree l Y1 (head1 (Jvm.Cond.code Y1 jdk_43_method_3_code 1 (some .boolean) :: ws) (⟨0, 0, 0, 0⟩ : Room)) (fun a U => a = #[(.int p0)] ∧ Z.Warmed39 U.vm ∧ U.heap = h0) (fun _ _ _ _ _ => True) (fun _ U o U' => ∃ v L, o = .returned v ∧ Q2 Z p0 h0 n0 v U'.heap L ∧ FrameEnd U o U' L (⟨0, 0, 0, 0⟩ : Room).cells (⟨0, 0, 0, 0⟩ : Room).slots) := by
  refine MetFree.of_bodySF (plainFor_of_name pn_2) hisR ?_
  intro p e s m args below meth c s₁ Bd hml0 hP hK
  obtain ⟨rfl, hZ, hh⟩ := hP
  have hx := Bd.exec
  have hby := Bd.bytes
  have hml : c.maxLocals = 1 := hml0
  have hown : s.vm.findClass "java/lang/StringLatin1" = some m.cls := findClass_of_methodNamed Bd.named
  have hnm := (name_of_methodNamed Bd.named Bd.method).1
  have hlk : meth.locks = false := by first | exact BodyLoose.notSynchronized Bd | exact Body.notSynchronized Bd
  have X0 : Stand p l e (⟨0, 0, 0, 0⟩ : Room) s m #[(.int p0)] below meth c s₁ [] 0 0 := Stand.of_body Bd
  have e0 : s₁.heap = h0 := by rw [← hh, Bd.state]; rfl
  have N0 := Fr.nil n0
  have k0 : own_R p e below (s₁.setTop (entryFrame m #[(.int p0)] 1)) (s₁.setTop (mkF m 0 #[vI p0] [])) := fun t k => castTop (ef_2 m p0) k
  obtain ⟨A0, hA0⟩ : ∃ z, z = s₁.setTop (entryFrame m #[(.int p0)] 1) := ⟨_, rfl⟩
  rw [← hA0] at k0
  have kz : ∀ t, Steps p.tables e below A0 t → Steps p.tables e below (s₁.setTop (entryFrame m #[(.int p0)] 1)) t := fun t q => hA0 ▸ q
  have ks1 : own_R p e below (A0) (s₁.setTop (mkF m 12 #[vI p0] [(.int 1)])) := fun t k => k0 t (by
    refine XS.iloadN X0.here hx rfl (hb hby d2_0) rfl ?_
    refine XS.sipush X0.here hx rfl (hb hby d2_1) ?_
    refine XS.icmpNo X0.here hx rfl (hb hby d2_4) rfl (flt P0).2.2.1 ?_
    show Steps p.tables e below (s₁.setTop (mkF m 7 #[vI p0] [])) _
    refine XS.iconst X0.here hx rfl (hb hby d2_7) ?_
    refine XS.goto X0.here hx rfl (pc0 := 8) (pc' := 12) rfl (hb hby d2_8) (by decide) (by decide) ?_
    exact k)
  obtain ⟨fs, hr, hrun, hended, hW, hsame⟩ := X0.leave (v := some (.int 1)) (fun h => by rw [Bd.returns] at h; cases h) hlk
  refine ⟨_, _, kz _ (ks1 _ ?_), hrun, hended, _, _, rfl, ?_, ⟨_, rfl⟩, hW, hsame.mono (by decide) (by decide)⟩
  · exact retN X0 hx (t := .boolean) Bd.returns (by simp) (hb hby d2_12) hr
  · show Q2 Z p0 h0 n0 _ s₁.heap _
    rw [e0]
    exact ⟨rfl, N0, rfl⟩
theorem d3_0 : dk bc2 0 (.iconst 1) 1 := by decide +kernel
theorem d3_1 : dk bc2 1 (.newarray .byte) 2 := by decide +kernel
theorem d3_3 : dk bc2 3 (.dup) 1 := by decide +kernel
theorem d3_4 : dk bc2 4 (.iconst 0) 1 := by decide +kernel
theorem d3_5 : dk bc2 5 (.iload_n 0) 1 := by decide +kernel
theorem d3_6 : dk bc2 6 (.i2b) 1 := by decide +kernel
theorem d3_7 : dk bc2 7 (.bastore) 1 := by decide +kernel
theorem d3_8 : dk bc2 8 (.areturn) 1 := by decide +kernel
theorem pn_3 : plainName "java/lang/StringLatin1" = true := by first | (simp [plainName, overriddenIn]; done) | decide +kernel
theorem ef_3 (m : MethodId) (x0 : Int32) : entryFrame m #[(.int x0)] 1 = mkF m 0 #[.val (.int x0)] [] := by first | (simp [entryFrame, mkF, argsToLocals, Value.category]; done) | rfl
def Q3 (Z : State) (y0 : Int32) (h0 : Heap) (n0 : Nat) (v : Option Value) (h : Heap) (L : List Loc) : Prop := ∃ (b : Addr) (k : ClassId), v = some (.ref b) ∧ Fr n0 L ∧ Keep h0 h [] ∧ n0 ≤ b ∧ h0.size ≤ b ∧ Arv Z h b k .byte (1 : Int32) [(.int (y0.toInt8.toInt32))] (.int 0)
set_option maxRecDepth 65536 in
set_option maxHeartbeats 40000000 in
theorem rm3 (l : Launch) (Z : State) (a0 : Array Value) (hw : ∀ d ∈ tables_1, d.before a0 Z = true) (ws : List Jvm.Cond) (y0 : Int32) (h0 : Heap) (n0 : Nat) (Z0 : n0 ≤ h0.size) :
    MetFree l Y2 (head1 (Jvm.Cond.code Y2 jdk_43_method_46_code 1 (some (.array .byte)) :: ws) (⟨0, 1, 1, 0⟩ : Room)) (fun a U => a = #[(.int y0)] ∧ Z.Warmed39 U.vm ∧ U.heap = h0) (fun _ _ _ _ _ => True) (fun _ U o U' => ∃ v L, o = .returned v ∧ Q3 Z y0 h0 n0 v U'.heap L ∧ FrameEnd U o U' L (⟨0, 1, 1, 0⟩ : Room).cells (⟨0, 1, 1, 0⟩ : Room).slots) := by
  refine MetFree.of_bodySF (plainFor_of_name pn_3) hisR ?_
  intro p e s m args below meth c s₁ Bd hml0 hP hK
  obtain ⟨rfl, hZ, hh⟩ := hP
  have hx := Bd.exec
  have hby := Bd.bytes
  have hml : c.maxLocals = 1 := hml0
  have hown : s.vm.findClass "java/lang/StringLatin1" = some m.cls := findClass_of_methodNamed Bd.named
  have hnm := (name_of_methodNamed Bd.named Bd.method).1
  have hlk : meth.locks = false := by first | exact BodyLoose.notSynchronized Bd | exact Body.notSynchronized Bd
  have X0 : Stand p l e (⟨0, 1, 1, 0⟩ : Room) s m #[(.int y0)] below meth c s₁ [] 0 0 := Stand.of_body Bd
  have e0 : s₁.heap = h0 := by rw [← hh, Bd.state]; rfl
  have N0 := Fr.nil n0
  have k0 : own_R p e below (s₁.setTop (entryFrame m #[(.int y0)] 1)) (s₁.setTop (mkF m 0 #[vI y0] [])) := fun t k => castTop (ef_3 m y0) k
  obtain ⟨A0, hA0⟩ : ∃ z, z = s₁.setTop (entryFrame m #[(.int y0)] 1) := ⟨_, rfl⟩
  rw [← hA0] at k0
  have kz : ∀ t, Steps p.tables e below A0 t → Steps p.tables e below (s₁.setTop (entryFrame m #[(.int y0)] 1)) t := fun t q => hA0 ▸ q
  have ks1 : own_R p e below (A0) (s₁.setTop (mkF m 1 #[vI y0] [(.int 1)])) := fun t k => k0 t (by
    refine XS.iconst X0.here hx rfl (hb hby d3_0) ?_
    exact k)
  obtain ⟨T2, h2, c2, X2, e2, E2, A2, st2⟩ := newP X0 hx hZ (own_w hw 17 rfl) e0 (g := (mkF m 1 #[vI y0] [(.int 1)])) rfl (hb hby d3_1) rfl (by decide) (cap := 1) (by decide) (by decide) (by decide) (by decide)
  obtain ⟨b2, g2⟩ : ∃ z, z = h0.size := ⟨_, rfl⟩
  rw [← g2] at A2 st2
  have g_b2 : n0 ≤ b2 := Nat.le_trans Z0 (Nat.le_of_eq g2.symm)
  have sz_b2 : h0.size ≤ b2 := Nat.le_trans (Keep.refl h0 []).1 (Nat.le_of_eq g2.symm)
  have KH2 : Keep h0 h2 [] := (Keep.refl h0 []).ext E2
  have Zn2 : n0 ≤ h2.size := Nat.le_trans Z0 E2.1
  have V2 : Arv Z h2 b2 c2 .byte (1 : Int32) [(.int (0 : Int32))] (.int (0 : Int32)) := (Arv.new A2 (by decide)).pad (pad_rep [] (.int (0 : Int32)) 1)
  have ks3 := own_c ks1 st2
  have ks4 : own_R p e below (A0) (T2.setTop (mkF m 7 #[vI y0] [(.int (y0.toInt8.toInt32)), (.int 0), (.ref b2), (.ref b2)])) := fun t k => ks3 t (by
    refine XS.dup X2.here hx rfl (hb hby d3_3) rfl rfl ?_
    refine XS.iconst X2.here hx rfl (hb hby d3_4) ?_
    refine XS.iloadN X2.here hx rfl (hb hby d3_5) rfl ?_
    show Steps p.tables e below (T2.setTop (mkF m 6 #[vI y0] [(.int y0), (.int 0), (.ref b2), (.ref b2)])) _
    refine XS.i2b X2.here hx rfl (hb hby d3_6) rfl ?_
    exact k)
  obtain ⟨cl5, Ar5, qa5, S5, Na5, Ha5, Ga5⟩ := id V2
  have hin5 : ¬ ((0 : Int32) < 0 ∨ cl5.slots.size ≤ ((0 : Int32)).toNatClampNeg) := inb_of S5 ⟨by decide, by decide⟩
  obtain ⟨T6, h6, X6, e6, W6, st6⟩ := stB X2 hx hZ e2 Ar5 (j := (0 : Int32)) hin5 (g := (mkF m 7 #[vI y0] [(.int (y0.toInt8.toInt32)), (.int 0), (.ref b2), (.ref b2)])) rfl rfl (hb hby d3_7)
  have V6 : Arv Z h6 b2 c2 .byte (1 : Int32) [(.int ((y0.toInt8.toInt32).toInt8.toInt32))] (.int (0 : Int32)) := Arv.set Ar5 qa5 S5 Na5 Ha5 Ga5 (fits_nar_byte _) W6 0 rfl (Nat.le_of_ble_eq_true rfl)
  rw [Int8.toInt8_toInt32] at V6
  have KH6 : Keep h0 h6 [] := KH2.wr W6 (Or.inr sz_b2)
  have Zn6 : n0 ≤ h6.size := Nat.le_trans Zn2 (Keep.of_wr W6).1
  have N6 := Fr.snoc X6 N0 g_b2
  have ks7 := own_c ks4 st6
  obtain ⟨fs, hr, hrun, hended, hW, hsame⟩ := X6.leave (v := some (.ref b2)) (fun h => by rw [Bd.returns] at h; cases h) hlk
  refine ⟨_, _, kz _ (ks7 _ ?_), hrun, hended, _, _, rfl, ?_, ⟨_, rfl⟩, hW, hsame.mono (by decide) (by decide)⟩
  · exact retOut X6 hx Bd.returns rfl (Or.inr (Or.inr (Or.inr (Or.inr ⟨rfl, rfl, rfl⟩)))) (hb hby d3_8) hr
  · show Q3 Z y0 h0 n0 _ T6.heap _
    rw [e6]
    exact ⟨_, _, rfl, N6, KH6, g_b2, sz_b2, V6⟩
theorem d4_0 : dk bc3 0 (.aload_n 0) 1 := by decide +kernel
theorem d4_1 : dk bc3 1 (.invokespecial 1) 3 := by decide +kernel
theorem d4_4 : dk bc3 4 (.aload_n 0) 1 := by decide +kernel
theorem d4_5 : dk bc3 5 (.aload_n 1) 1 := by decide +kernel
theorem d4_6 : dk bc3 6 (.putfield 9) 3 := by decide +kernel
theorem d4_9 : dk bc3 9 (.aload_n 0) 1 := by decide +kernel
theorem d4_10 : dk bc3 10 (.iload_n 2) 1 := by decide +kernel
theorem d4_11 : dk bc3 11 (.putfield 15) 3 := by decide +kernel
theorem d4_14 : dk bc3 14 (.return_) 1 := by decide +kernel
theorem pn_4 : plainName "java/lang/String" = true := by first | (simp [plainName, overriddenIn]; done) | decide +kernel
theorem ef_4 (m : MethodId) (x0 : Addr) (x1 : Addr) (x2 : Int32) : entryFrame m #[(.ref x0), (.ref x1), (.int x2)] 3 = mkF m 0 #[.val (.ref x0), .val (.ref x1), .val (.int x2)] [] := by first | (simp [entryFrame, mkF, argsToLocals, Value.category]; done) | rfl
def Q4 (Z : State) (r0 : Addr) (r1 : Addr) (h0 : Heap) (n0 : Nat) (v : Option Value) (h : Heap) (L : List Loc) : Prop := v = none ∧ Fr n0 L ∧ Keep h0 h [r0] ∧ own_Cd Z h r0 0 ∧ own_Fv Z h r0 r1 ∧ own_Hh Z h r0 0 ∧ own_Hz Z h r0 0
set_option maxRecDepth 65536 in
set_option maxHeartbeats 40000000 in
theorem rm4 (l : Launch) (Z : State) (a0 : Array Value) (hw : ∀ d ∈ tables_1, d.before a0 Z = true) (ws : List Jvm.Cond) (r0 : Addr) (r1 : Addr) (h0 : Heap) (n0 : Nat) (Z0 : n0 ≤ h0.size) (E0 : Exa Z h0 r0 "java/lang/String") (Cd0 : own_Cd Z h0 r0 0) (F0 : Fld Z h0 r0 "java/lang/String" "value" "[B" .null) (Hh0 : own_Hh Z h0 r0 0) (Hz0 : own_Hz Z h0 r0 0) (g_r0 : n0 ≤ r0) (n01 : r0 ≠ r1) :
    MetFree l Y3 (head1 (Jvm.Cond.code Y3 jdk_42_method_151_code 3 none :: ws) (⟨1, 0, 0, 12⟩ : Room)) (fun a U => a = #[(.ref r0), (.ref r1), (.int 0)] ∧ Z.Warmed39 U.vm ∧ U.heap = h0) (fun _ _ _ _ _ => True) (fun _ U o U' => ∃ v L, o = .returned v ∧ Q4 Z r0 r1 h0 n0 v U'.heap L ∧ FrameEnd U o U' L (⟨1, 0, 0, 12⟩ : Room).cells (⟨1, 0, 0, 12⟩ : Room).slots) := by
  refine MetFree.of_bodySF (plainFor_of_name pn_4) hisR ?_
  intro p e s m args below meth c s₁ Bd hml0 hP hK
  obtain ⟨rfl, hZ, hh⟩ := hP
  have hx := Bd.exec
  have hby := Bd.bytes
  have hml : c.maxLocals = 3 := hml0
  have hown : s.vm.findClass "java/lang/String" = some m.cls := findClass_of_methodNamed Bd.named
  have hnm := (name_of_methodNamed Bd.named Bd.method).1
  have hlk : meth.locks = false := by first | exact BodyLoose.notSynchronized Bd | exact Body.notSynchronized Bd
  have X0 : Stand p l e (⟨1, 0, 0, 12⟩ : Room) s m #[(.ref r0), (.ref r1), (.int 0)] below meth c s₁ [] 0 0 := Stand.of_body Bd
  have e0 : s₁.heap = h0 := by rw [← hh, Bd.state]; rfl
  have N0 := Fr.nil n0
  have k0 : own_R p e below (s₁.setTop (entryFrame m #[(.ref r0), (.ref r1), (.int 0)] 3)) (s₁.setTop (mkF m 0 #[vR r0, vR r1, vI 0] [])) := fun t k => castTop (ef_4 m r0 r1 (0 : Int32)) k
  obtain ⟨A0, hA0⟩ : ∃ z, z = s₁.setTop (entryFrame m #[(.ref r0), (.ref r1), (.int 0)] 3) := ⟨_, rfl⟩
  rw [← hA0] at k0
  have kz : ∀ t, Steps p.tables e below A0 t → Steps p.tables e below (s₁.setTop (entryFrame m #[(.ref r0), (.ref r1), (.int 0)] 3)) t := fun t q => hA0 ▸ q
  have ks1 : own_R p e below (A0) (s₁.setTop (mkF m 1 #[vR r0, vR r1, vI 0] [(.ref r0)])) := fun t k => k0 t (by
    refine XS.aloadN X0.here hx rfl (hb hby d4_0) rfl rfl ?_
    exact k)
  obtain ⟨T2, X2, e2, st2⟩ := initO X0 hx hZ hown (own_w hw 22 rfl) (own_w hw 23 rfl) (own_w hw 24 rfl) e0 (g := (mkF m 1 #[vR r0, vR r1, vI 0] [(.ref r0)])) rfl (by rw [hml]; rfl) rfl (hb hby d4_1) (by decide) (W := 0) (by show 2 * 0 + _ ≤ _; exact Nat.le_of_eq rfl) (by decide)
  have ks3 := own_c ks1 st2
  have ks4 : own_R p e below (A0) (T2.setTop (mkF m 6 #[vR r0, vR r1, vI 0] [(.ref r1), (.ref r0)])) := fun t k => ks3 t (by
    refine XS.aloadN X2.here hx rfl (hb hby d4_4) rfl rfl ?_
    refine XS.aloadN X2.here hx rfl (hb hby d4_5) rfl rfl ?_
    exact k)
  obtain ⟨T5, h5, X5, e5, W5, st5⟩ := putF X2 hx hZ hown (host := "") (Or.inl (own_w hw 25 rfl)) Via.refl e2 F0 E0 (Or.inr ⟨(own_w hw 26 rfl), rfl, hnm⟩) (own_w hw 13 rfl) (ty := (.array .byte)) (by decide) rfl rfl (g := (mkF m 6 #[vR r0, vR r1, vI 0] [(.ref r1), (.ref r0)])) rfl rfl (hb hby d4_6)
  have Fw5 := F0.same W5
  have KH5 : Keep h0 h5 [r0] := (Keep.refl h0 [r0]).wr W5 (Or.inl (List.mem_of_getElem? (i := 0) rfl))
  have Zn5 : n0 ≤ h5.size := Nat.le_trans Z0 (Keep.of_wr W5).1
  have N5 := Fr.snoc X5 N0 g_r0
  have ks6 := own_c ks4 st5
  have ks7 : own_R p e below (A0) (T5.setTop (mkF m 11 #[vR r0, vR r1, vI 0] [(.int 0), (.ref r0)])) := fun t k => ks6 t (by
    refine XS.aloadN X5.here hx rfl (hb hby d4_9) rfl rfl ?_
    refine XS.iloadN X5.here hx rfl (hb hby d4_10) rfl ?_
    exact k)
  have f8 := E0.keep KH5
  have f9 := (Cd0.other W5 (Or.inr (slot_ne (Or.inr (own_w hw 28 rfl)) (Or.inr (own_w hw 26 rfl)) (by decide) (t := .byte) (t' := (.array .byte)) (by decide) (by decide))))
  obtain ⟨T10, h10, X10, e10, W10, st10⟩ := putFN X5 hx hZ hown (own_w hw 27 rfl) Via.refl e5 f9 f8 (Or.inr ⟨(own_w hw 28 rfl), rfl, hnm⟩) (own_w hw 13 rfl) (ty := .byte) (v' := (.int 0)) (by decide) rfl (by decide) (g := (mkF m 11 #[vR r0, vR r1, vI 0] [(.int 0), (.ref r0)])) rfl rfl (hb hby d4_11)
  have Fw10 := f9.same W10
  have KH10 : Keep h0 h10 [r0] := KH5.wr W10 (Or.inl (List.mem_of_getElem? (i := 0) rfl))
  have Zn10 : n0 ≤ h10.size := Nat.le_trans Zn5 (Keep.of_wr W10).1
  have N10 := Fr.snoc X10 N5 g_r0
  have ks11 := own_c ks7 st10
  obtain ⟨fs, hr, hrun, hended, hW, hsame⟩ := X10.leave (v := none) (fun _ => rfl) hlk
  refine ⟨_, _, kz _ (ks11 _ ?_), hrun, hended, _, _, rfl, ?_, ⟨_, rfl⟩, hW, hsame.mono (by decide) (by decide)⟩
  · exact X10.returnOut hx Bd.returns (hb hby d4_14) hr
  · show Q4 Z r0 r1 h0 n0 _ T10.heap _
    rw [e10]
    have f12 := (Fw5.other W10 (Or.inr (slot_ne (Or.inr (own_w hw 26 rfl)) (Or.inr (own_w hw 28 rfl)) (by decide) (t := (.array .byte)) (t' := .byte) (by decide) (by decide))))
    have f13 := ((Hh0.other W5 (Or.inr (slot_ne (Or.inl (own_w hw 157 rfl)) (Or.inr (own_w hw 26 rfl)) (by decide) (t := .int) (t' := (.array .byte)) (by decide) (by decide)))).other W10 (Or.inr (slot_ne (Or.inl (own_w hw 157 rfl)) (Or.inr (own_w hw 28 rfl)) (by decide) (t := .int) (t' := .byte) (by decide) (by decide))))
    have f14 := ((Hz0.other W5 (Or.inr (slot_ne (Or.inl (own_w hw 159 rfl)) (Or.inr (own_w hw 26 rfl)) (by decide) (t := .boolean) (t' := (.array .byte)) (by decide) (by decide)))).other W10 (Or.inr (slot_ne (Or.inl (own_w hw 159 rfl)) (Or.inr (own_w hw 28 rfl)) (by decide) (t := .boolean) (t' := .byte) (by decide) (by decide))))
    exact ⟨rfl, N10, KH10, Fw10, f12, f13, f14⟩
theorem d1_0 : dk bc4 0 (.getstatic 38) 3 := by decide +kernel
theorem d1_3 : dk bc4 3 (.ifCond .eq 23) 3 := by decide +kernel
theorem d1_6 : dk bc4 6 (.iload_n 0) 1 := by decide +kernel
theorem d1_7 : dk bc4 7 (.invokestatic 1015) 3 := by decide +kernel
theorem d1_10 : dk bc4 10 (.ifCond .eq 16) 3 := by decide +kernel
theorem d1_13 : dk bc4 13 (.new 10) 3 := by decide +kernel
theorem d1_16 : dk bc4 16 (.dup) 1 := by decide +kernel
theorem d1_17 : dk bc4 17 (.iload_n 0) 1 := by decide +kernel
theorem d1_18 : dk bc4 18 (.invokestatic 1018) 3 := by decide +kernel
theorem d1_21 : dk bc4 21 (.iconst 0) 1 := by decide +kernel
theorem d1_22 : dk bc4 22 (.invokespecial 209) 3 := by decide +kernel
theorem d1_25 : dk bc4 25 (.areturn) 1 := by decide +kernel
theorem pn_1 : plainName "java/lang/String" = true := by first | (simp [plainName, overriddenIn]; done) | decide +kernel
theorem pd_1 : parseMethodDescriptor "(C)Z" = some ⟨[.char], some .boolean⟩ := by decide +kernel
theorem pd_2 : parseMethodDescriptor "(C)[B" = some ⟨[.char], some (.array .byte)⟩ := by decide +kernel
theorem pd_3 : parseMethodDescriptor "([BB)V" = some ⟨[(.array .byte), .byte], none⟩ := by decide +kernel
theorem ef_1 (m : MethodId) (x0 : Int32) : entryFrame m #[(.int x0)] 1 = mkF m 0 #[.val (.int x0)] [] := by first | (simp [entryFrame, mkF, argsToLocals, Value.category]; done) | rfl
def Q1 (Z : State) (y0 : Int32) (y9 : Int32) (h0 : Heap) (n0 : Nat) (v : Option Value) (h : Heap) (L : List Loc) : Prop := ∃ (b : Addr) (t : Addr) (k : ClassId), v = some (.ref b) ∧ Fr n0 L ∧ Keep h0 h [] ∧ n0 ≤ b ∧ h0.size ≤ b ∧ n0 ≤ t ∧ h0.size ≤ t ∧ b ≠ t ∧ Exa Z h b "java/lang/String" ∧ own_Cd Z h b 0 ∧ own_Fv Z h b t ∧ own_Hh Z h b 0 ∧ own_Hz Z h b 0 ∧ Arv Z h t k .byte 1 [.int (y0.toInt8.toInt32)] (.int 0)
set_option maxRecDepth 65536 in
set_option maxHeartbeats 40000000 in
theorem rm1 (l : Launch) (Z : State) (a0 : Array Value) (hw : ∀ d ∈ tables_1, d.before a0 Z = true) (ws : List Jvm.Cond) (y0 : Int32) (y9 : Int32) (h0 : Heap) (n0 : Nat) (Z0 : n0 ≤ h0.size) (S9 : own_S9 Z h0 y9) (P9 : ¬ y9 = (0 : Int32)) (P0 : ¬ (255 : Int32) < y0) :
    MetFree l Y4 (head1 (Jvm.Cond.code Y4 jdk_42_method_139_code 1 (some (.object "java/lang/String")) :: ws) (⟨2, 2, 5, 27⟩ : Room)) (fun a U => a = #[(.int y0)] ∧ Z.Warmed39 U.vm ∧ U.heap = h0) (fun _ _ _ _ _ => True) (fun _ U o U' => ∃ v L, o = .returned v ∧ Q1 Z y0 y9 h0 n0 v U'.heap L ∧ FrameEnd U o U' L (⟨2, 2, 5, 27⟩ : Room).cells (⟨2, 2, 5, 27⟩ : Room).slots) := by
  refine MetFree.of_bodySF (plainFor_of_name pn_1) hisR ?_
  intro p e s m args below meth c s₁ Bd hml0 hP hK
  obtain ⟨rfl, hZ, hh⟩ := hP
  have hx := Bd.exec
  have hby := Bd.bytes
  have hml : c.maxLocals = 1 := hml0
  have hown : s.vm.findClass "java/lang/String" = some m.cls := findClass_of_methodNamed Bd.named
  have hnm := (name_of_methodNamed Bd.named Bd.method).1
  have hlk : meth.locks = false := by first | exact BodyLoose.notSynchronized Bd | exact Body.notSynchronized Bd
  have X0 : Stand p l e (⟨2, 2, 5, 27⟩ : Room) s m #[(.int y0)] below meth c s₁ [] 0 0 := Stand.of_body Bd
  have e0 : s₁.heap = h0 := by rw [← hh, Bd.state]; rfl
  have N0 := Fr.nil n0
  have k0 : own_R p e below (s₁.setTop (entryFrame m #[(.int y0)] 1)) (s₁.setTop (mkF m 0 #[vI y0] [])) := fun t k => castTop (ef_1 m y0) k
  obtain ⟨A0, hA0⟩ : ∃ z, z = s₁.setTop (entryFrame m #[(.int y0)] 1) := ⟨_, rfl⟩
  rw [← hA0] at k0
  have kz : ∀ t, Steps p.tables e below A0 t → Steps p.tables e below (s₁.setTop (entryFrame m #[(.int y0)] 1)) t := fun t q => hA0 ▸ q
  obtain ⟨T1, X1, e1, st1⟩ := getS2 X0 hx hZ hown (host := "") (Or.inl (own_w hw 7 rfl)) Via.refl e0 S9 (g := (mkF m 0 #[vI y0] [])) rfl (hb hby d1_0)
  have ks2 := own_c k0 st1
  have ks3 : own_R p e below (A0) (T1.setTop (mkF m 7 #[vI y0] [(.int y0)])) := fun t k => ks2 t (by
    refine XS.ifNo X1.here hx rfl (hb hby d1_3) rfl ((if0 _ _).trans (feq P9).1) ?_
    refine XS.iloadN X1.here hx rfl (hb hby d1_6) rfl ?_
    exact k)
  obtain ⟨_, _, ⟨T4, L4, k4, n4⟩, -, X4, ⟨Lc4, hQ4, lq4, yq4, zq4⟩, st4⟩ := Jvm.LawKit.callS X1 hx (y := Y1) hown (mvT hZ (own_w hw 8 rfl)) (mvT hZ (own_w hw 9 rfl)) (mvT hZ (own_w hw 10 rfl)) (mvT hZ (own_w hw 11 rfl)) (by decide) (backOf (W := 0) (rm2 l Z a0 hw [] y0 h0 n0 Z0 P0) hZ (own_w hw 11 rfl) (own_w hw 10 rfl) (by decide) (by decide)) (g := (mkF m 7 #[vI y0] [(.int y0)])) rfl (by rw [hml]; rfl) (argsL := [(.int y0)]) (rest := []) (lenOf pd_1 rfl) rfl (by show 2 * 0 + _ ≤ _; exact Nat.le_of_eq rfl) (hb hby d1_7) (fun _ _ => ⟨rfl, e1, (by decide : 0 + 0 ≤ _), (by decide : 0 + 0 ≤ _)⟩)
  dsimp only [Pt.U, Pt.locs, Pt.cells, Pt.slots] at X4 lq4 yq4 zq4 st4 hQ4
  obtain rfl : k4 = 0 := yq4
  obtain rfl : n4 = 0 := zq4
  obtain ⟨rfl, Nq4, eq4⟩ := hQ4
  have N4 := Fr.app N0 Nq4
  have N4' : Fr n0 L4 := by rw [lq4]; exact N4
  have ks5 := own_c ks3 st4
  have ks6 : own_R p e below (A0) (T4.setTop (mkF m 13 #[vI y0] [])) := fun t k => ks5 t (by
    refine XS.ifNo X4.here hx rfl (hb hby d1_10) rfl ((if0 _ _).trans (feq (by decide)).1) ?_
    exact k)
  obtain ⟨T7, h7, X7, e7, E7, A7, D7, -, st7⟩ := newO X4 hx hZ hown (own_w hw 12 rfl) (own_w hw 13 rfl) (own_w hw 5 rfl) eq4 (g := (mkF m 13 #[vI y0] [])) rfl (hb hby d1_13) (by decide) (by decide)
  obtain ⟨b7, g7⟩ : ∃ z, z = h0.size := ⟨_, rfl⟩
  rw [← g7] at A7 D7 st7
  have g_b7 : n0 ≤ b7 := Nat.le_trans Z0 (Nat.le_of_eq g7.symm)
  have sz_b7 : h0.size ≤ b7 := Nat.le_trans (Keep.refl h0 []).1 (Nat.le_of_eq g7.symm)
  have KH7 : Keep h0 h7 [] := (Keep.refl h0 []).ext E7
  have Zn7 : n0 ≤ h7.size := Nat.le_trans Z0 E7.1
  have F_value_b7 : Fld Z h7 b7 "java/lang/String" "value" "[B" .null := D7 (Or.inr (own_w hw 26 rfl)) (ty := (.array .byte)) (by decide)
  have F_coder_b7 : Fld Z h7 b7 "java/lang/String" "coder" "B" (.int 0) := D7 (Or.inr (own_w hw 28 rfl)) (ty := .byte) (by decide)
  have F_hash_b7 : Fld Z h7 b7 "java/lang/String" "hash" "I" (.int 0) := D7 (Or.inl (own_w hw 157 rfl)) (ty := .int) (by decide)
  have F_hashIsZero_b7 : Fld Z h7 b7 "java/lang/String" "hashIsZero" "Z" (.int 0) := D7 (Or.inl (own_w hw 159 rfl)) (ty := .boolean) (by decide)
  have ks8 := own_c ks6 st7
  have ks9 : own_R p e below (A0) (T7.setTop (mkF m 18 #[vI y0] [(.int y0), (.ref b7), (.ref b7)])) := fun t k => ks8 t (by
    refine XS.dup X7.here hx rfl (hb hby d1_16) rfl rfl ?_
    refine XS.iloadN X7.here hx rfl (hb hby d1_17) rfl ?_
    exact k)
  obtain ⟨_, _, ⟨T10, L10, k10, n10⟩, -, X10, ⟨Lc10, hQ10, lq10, yq10, zq10⟩, st10⟩ := Jvm.LawKit.callS X7 hx (y := Y2) hown (mvT hZ (own_w hw 14 rfl)) (mvT hZ (own_w hw 15 rfl)) (mvT hZ (own_w hw 10 rfl)) (mvT hZ (own_w hw 16 rfl)) (by decide) (backOf (W := 2) (rm3 l Z a0 hw [] y0 h7 n0 Zn7 ) hZ (own_w hw 16 rfl) (own_w hw 10 rfl) (by decide) (by decide)) (g := (mkF m 18 #[vI y0] [(.int y0), (.ref b7), (.ref b7)])) rfl (by rw [hml]; rfl) (argsL := [(.int y0)]) (rest := [(.ref b7), (.ref b7)]) (lenOf pd_2 rfl) rfl (by show 2 * 0 + _ ≤ _; exact Nat.le_of_eq rfl) (hb hby d1_18) (fun _ _ => ⟨rfl, e7, (by decide : 1 + 1 ≤ _), (by decide : 4 + 1 ≤ _)⟩)
  dsimp only [Pt.U, Pt.locs, Pt.cells, Pt.slots] at X10 lq10 yq10 zq10 st10 hQ10
  obtain rfl : k10 = 2 := yq10
  obtain rfl : n10 = 5 := zq10
  obtain ⟨bq10, kq10, rfl, Nq10, Kq10, g_bq10, szq10, Vq10⟩ := hQ10
  have N10 := Fr.app N4' Nq10
  have KH10 : Keep h0 T10.heap [] := KH7.trans Kq10 all0
  have Zn10 : n0 ≤ T10.heap.size := Nat.le_trans Zn7 Kq10.1
  have ne_b7_bq10 := nls A7.lt szq10
  have sz_bq10 : h0.size ≤ bq10 := Nat.le_trans KH7.1 szq10
  have N10' : Fr n0 L10 := by rw [lq10]; exact N10
  have ks11 := own_c ks9 st10
  have ks12 : own_R p e below (A0) (T10.setTop (mkF m 22 #[vI y0] [(.int 0), (.ref bq10), (.ref b7), (.ref b7)])) := fun t k => ks11 t (by
    refine XS.iconst X10.here hx rfl (hb hby d1_21) ?_
    exact k)
  have f14 := (A7.keep Kq10)
  have f15 := (F_coder_b7.keep Kq10 nin0)
  have f16 := (F_value_b7.keep Kq10 nin0)
  have f17 := (F_hash_b7.keep Kq10 nin0)
  have f18 := (F_hashIsZero_b7.keep Kq10 nin0)
  obtain ⟨_, _, ⟨T13, L13, k13, n13⟩, -, X13, ⟨Lc13, hQ13, lq13, yq13, zq13⟩, st13⟩ := X10.specialBack hx (y := Y3) rfl hown (mvT hZ (own_w hw 18 rfl)) (mvT hZ (own_w hw 19 rfl)) (mvT hZ (own_w hw 21 rfl)) (by decide) (backOf (W := 1) (rm4 l Z a0 hw [] b7 bq10 T10.heap n0 Zn10 f14 f15 f16 f17 f18 g_b7 ne_b7_bq10) hZ (own_w hw 21 rfl) (own_w hw 5 rfl) (by decide) (by decide)) (g := (mkF m 22 #[vI y0] [(.int 0), (.ref bq10), (.ref b7), (.ref b7)])) rfl (by rw [hml]; rfl) (Steps.refl _) (a := b7) (argsL := [(.ref bq10), (.int 0)]) (rest := [(.ref b7)]) (lenOf pd_3 rfl) rfl (by show 2 * 0 + _ ≤ _; exact Nat.le_of_eq rfl) (hb hby d1_22) (fun _ _ => ⟨rfl, rfl, (by decide : 2 + 0 ≤ _), (by decide : 5 + 0 ≤ _)⟩)
  dsimp only [Pt.U, Pt.locs, Pt.cells, Pt.slots] at X13 lq13 yq13 zq13 st13 hQ13
  obtain rfl : k13 = 2 := yq13
  obtain rfl : n13 = 5 := zq13
  obtain ⟨rfl, Nq13, Kq13, Fc13, Fv13, Fh13, Fi13⟩ := hQ13
  have N13 := Fr.app N10' Nq13
  have KH13 : Keep h0 T13.heap [] := KH10.trans Kq13 (allS (Or.inr sz_b7) all0)
  have Zn13 : n0 ≤ T13.heap.size := Nat.le_trans Zn10 Kq13.1
  have N13' : Fr n0 L13 := by rw [lq13]; exact N13
  have ks19 := own_ct ks12 st13
  obtain ⟨fs, hr, hrun, hended, hW, hsame⟩ := X13.leave (v := some (.ref b7)) (fun h => by rw [Bd.returns] at h; cases h) hlk
  refine ⟨_, _, kz _ (ks19 _ ?_), hrun, hended, _, _, rfl, ?_, ⟨_, rfl⟩, hW, hsame.mono (by decide) (by decide)⟩
  · exact retOut X13 hx Bd.returns rfl (Or.inr (Or.inr (Or.inr (Or.inr ⟨rfl, rfl, rfl⟩)))) (hb hby d1_25) hr
  · show Q1 Z y0 y9 h0 n0 _ T13.heap _
    have f20 := (f14.keep Kq13)
    have f21 := (Vq10.keep Kq13 (ninS (Ne.symm ne_b7_bq10) nin0))
    exact ⟨b7, bq10, _, rfl, N13', KH13, g_b7, sz_b7, g_bq10, sz_bq10, ne_b7_bq10, f20, Fc13, Fv13, Fh13, Fi13, f21⟩
theorem d6_0 : dk bc5 0 (.aload_n 0) 1 := by decide +kernel
theorem d6_1 : dk bc5 1 (.invokespecial 1) 3 := by decide +kernel
theorem d6_4 : dk bc5 4 (.aload_n 0) 1 := by decide +kernel
theorem d6_5 : dk bc5 5 (.aload_n 1) 1 := by decide +kernel
theorem d6_6 : dk bc5 6 (.putfield 7) 3 := by decide +kernel
theorem d6_9 : dk bc5 9 (.aload_n 0) 1 := by decide +kernel
theorem d6_10 : dk bc5 10 (.fload_n 2) 1 := by decide +kernel
theorem d6_11 : dk bc5 11 (.putfield 13) 3 := by decide +kernel
theorem d6_14 : dk bc5 14 (.return_) 1 := by decide +kernel
theorem pn_6 : plainName "com/example/carved_corpus/carvedcorpus/Hit" = true := by first | (simp [plainName, overriddenIn]; done) | decide +kernel
theorem ef_6 (m : MethodId) (x0 : Addr) (x1 : Addr) (x2 : UInt32) : entryFrame m #[(.ref x0), (.ref x1), (.float x2)] 3 = mkF m 0 #[.val (.ref x0), .val (.ref x1), .val (.float x2)] [] := by first | (simp [entryFrame, mkF, argsToLocals, Value.category]; done) | rfl
def Q6 (Z : State) (r0 : Addr) (r1 : Addr) (f2 : UInt32) (h0 : Heap) (n0 : Nat) (v : Option Value) (h : Heap) (L : List Loc) : Prop := v = none ∧ Fr n0 L ∧ Keep h0 h [r0] ∧ Fld Z h r0 "com/example/carved_corpus/carvedcorpus/Hit" "id" "Ljava/lang/String;" (.ref r1)
set_option maxRecDepth 65536 in
set_option maxHeartbeats 40000000 in
theorem rm6 (l : Launch) (Z : State) (a0 : Array Value) (hw : ∀ d ∈ tables_1, d.before a0 Z = true) (ws : List Jvm.Cond) (r0 : Addr) (r1 : Addr) (f2 : UInt32) (h0 : Heap) (n0 : Nat) (Z0 : n0 ≤ h0.size) (E0 : Exa Z h0 r0 "com/example/carved_corpus/carvedcorpus/Hit") (F0 : Fld Z h0 r0 "com/example/carved_corpus/carvedcorpus/Hit" "id" "Ljava/lang/String;" .null) (G0 : Fld Z h0 r0 "com/example/carved_corpus/carvedcorpus/Hit" "score" "F" (.float 0)) (g_r0 : n0 ≤ r0) :
    MetFree l Y5 (head1 (Jvm.Cond.code Y5 prog_1_method_1_code 3 none :: ws) (⟨1, 0, 0, 12⟩ : Room)) (fun a U => a = #[(.ref r0), (.ref r1), (.float f2)] ∧ Z.Warmed39 U.vm ∧ U.heap = h0) (fun _ _ _ _ _ => True) (fun _ U o U' => ∃ v L, o = .returned v ∧ Q6 Z r0 r1 f2 h0 n0 v U'.heap L ∧ FrameEnd U o U' L (⟨1, 0, 0, 12⟩ : Room).cells (⟨1, 0, 0, 12⟩ : Room).slots) := by
  refine MetFree.of_bodySF (plainFor_of_name pn_6) hisR ?_
  intro p e s m args below meth c s₁ Bd hml0 hP hK
  obtain ⟨rfl, hZ, hh⟩ := hP
  have hx := Bd.exec
  have hby := Bd.bytes
  have hml : c.maxLocals = 3 := hml0
  have hown : s.vm.findClass "com/example/carved_corpus/carvedcorpus/Hit" = some m.cls := findClass_of_methodNamed Bd.named
  have hnm := (name_of_methodNamed Bd.named Bd.method).1
  have hlk : meth.locks = false := by first | exact BodyLoose.notSynchronized Bd | exact Body.notSynchronized Bd
  have X0 : Stand p l e (⟨1, 0, 0, 12⟩ : Room) s m #[(.ref r0), (.ref r1), (.float f2)] below meth c s₁ [] 0 0 := Stand.of_body Bd
  have e0 : s₁.heap = h0 := by rw [← hh, Bd.state]; rfl
  have N0 := Fr.nil n0
  have k0 : own_R p e below (s₁.setTop (entryFrame m #[(.ref r0), (.ref r1), (.float f2)] 3)) (s₁.setTop (mkF m 0 #[vR r0, vR r1, .val (.float f2)] [])) := fun t k => castTop (ef_6 m r0 r1 f2) k
  obtain ⟨A0, hA0⟩ : ∃ z, z = s₁.setTop (entryFrame m #[(.ref r0), (.ref r1), (.float f2)] 3) := ⟨_, rfl⟩
  rw [← hA0] at k0
  have kz : ∀ t, Steps p.tables e below A0 t → Steps p.tables e below (s₁.setTop (entryFrame m #[(.ref r0), (.ref r1), (.float f2)] 3)) t := fun t q => hA0 ▸ q
  have ks1 : own_R p e below (A0) (s₁.setTop (mkF m 1 #[vR r0, vR r1, .val (.float f2)] [(.ref r0)])) := fun t k => k0 t (by
    refine XS.aloadN X0.here hx rfl (hb hby d6_0) rfl rfl ?_
    exact k)
  obtain ⟨T2, X2, e2, st2⟩ := initO X0 hx hZ hown (own_w hw 32 rfl) (own_w hw 23 rfl) (own_w hw 24 rfl) e0 (g := (mkF m 1 #[vR r0, vR r1, .val (.float f2)] [(.ref r0)])) rfl (by rw [hml]; rfl) rfl (hb hby d6_1) (by decide) (W := 0) (by show 2 * 0 + _ ≤ _; exact Nat.le_of_eq rfl) (by decide)
  have ks3 := own_c ks1 st2
  have ks4 : own_R p e below (A0) (T2.setTop (mkF m 6 #[vR r0, vR r1, .val (.float f2)] [(.ref r1), (.ref r0)])) := fun t k => ks3 t (by
    refine XS.aloadN X2.here hx rfl (hb hby d6_4) rfl rfl ?_
    refine XS.aloadN X2.here hx rfl (hb hby d6_5) rfl rfl ?_
    exact k)
  obtain ⟨T5, h5, X5, e5, W5, st5⟩ := putF X2 hx hZ hown (host := "") (Or.inl (own_w hw 33 rfl)) Via.refl e2 F0 E0 (Or.inr ⟨(own_w hw 34 rfl), rfl, hnm⟩) (own_w hw 1 rfl) (ty := (.object "java/lang/String")) (by decide) rfl rfl (g := (mkF m 6 #[vR r0, vR r1, .val (.float f2)] [(.ref r1), (.ref r0)])) rfl rfl (hb hby d6_6)
  have Fw5 := F0.same W5
  have KH5 : Keep h0 h5 [r0] := (Keep.refl h0 [r0]).wr W5 (Or.inl (List.mem_of_getElem? (i := 0) rfl))
  have Zn5 : n0 ≤ h5.size := Nat.le_trans Z0 (Keep.of_wr W5).1
  have N5 := Fr.snoc X5 N0 g_r0
  have ks6 := own_c ks4 st5
  have ks7 : own_R p e below (A0) (T5.setTop (mkF m 11 #[vR r0, vR r1, .val (.float f2)] [(.float f2), (.ref r0)])) := fun t k => ks6 t (by
    refine XS.aloadN X5.here hx rfl (hb hby d6_9) rfl rfl ?_
    refine XS.floadN X5.here hx rfl (hb hby d6_10) rfl ?_
    exact k)
  have f8 := E0.keep KH5
  have f9 := (G0.other W5 (Or.inr (slot_ne (Or.inr (own_w hw 36 rfl)) (Or.inr (own_w hw 34 rfl)) (by decide) (t := .float) (t' := (.object "java/lang/String")) (by decide) (by decide))))
  obtain ⟨T10, h10, X10, e10, W10, st10⟩ := putF X5 hx hZ hown (host := "") (Or.inl (own_w hw 35 rfl)) Via.refl e5 f9 f8 (Or.inr ⟨(own_w hw 36 rfl), rfl, hnm⟩) (own_w hw 1 rfl) (ty := .float) (by decide) rfl rfl (g := (mkF m 11 #[vR r0, vR r1, .val (.float f2)] [(.float f2), (.ref r0)])) rfl rfl (hb hby d6_11)
  have Fw10 := f9.same W10
  have KH10 : Keep h0 h10 [r0] := KH5.wr W10 (Or.inl (List.mem_of_getElem? (i := 0) rfl))
  have Zn10 : n0 ≤ h10.size := Nat.le_trans Zn5 (Keep.of_wr W10).1
  have N10 := Fr.snoc X10 N5 g_r0
  have ks11 := own_c ks7 st10
  obtain ⟨fs, hr, hrun, hended, hW, hsame⟩ := X10.leave (v := none) (fun _ => rfl) hlk
  refine ⟨_, _, kz _ (ks11 _ ?_), hrun, hended, _, _, rfl, ?_, ⟨_, rfl⟩, hW, hsame.mono (by decide) (by decide)⟩
  · exact X10.returnOut hx Bd.returns (hb hby d6_14) hr
  · show Q6 Z r0 r1 f2 h0 n0 _ T10.heap _
    rw [e10]
    have f12 := (Fw5.other W10 (Or.inr (slot_ne (Or.inr (own_w hw 34 rfl)) (Or.inr (own_w hw 36 rfl)) (by decide) (t := (.object "java/lang/String")) (t' := .float) (by decide) (by decide))))
    exact ⟨rfl, N10, KH10, f12⟩
section OwnMir
variable {p : Program} {l : Launch} {e : Env} {R : Room} {s : State} {m : MethodId} {args : Array Value} {below : List Frame} {meth : Method} {c : Code} {T : State} {locs : List Loc} {cells slots : Nat} {Z : State} {h : Heap} {a0 : Array Value}
theorem own_gcls (X : Stand p l e R s m args below meth c T locs cells slots) (hx : p.tables.exec = Jvm.exec) (hZ : Z.Warmed39 s.vm) {own K : String} {index : Nat} (hown : s.vm.findClass own = some m.cls) (w1 : (Jvm.Cond.methodLink own index Jvm.Stand.gcN).before a0 Z = true) (w2 : (Jvm.Cond.declares Jvm.Stand.gcN).before a0 Z = true) (w4 : (Jvm.Cond.selects K Jvm.Stand.gcN Jvm.Stand.gcN).before a0 Z = true)
    (w5 : (Jvm.Cond.instanceMethod Jvm.Stand.gcN).before a0 Z = true) (w6 : (Jvm.Cond.native Jvm.Stand.gcN).before a0 Z = true) (eT : T.heap = h) {a : Addr} (E : Exa Z h a K) {mr : Addr} (M : Mir Z K mr)
    {g : JFrame} (hg : g.method = m) (hsize : g.locals.size = c.maxLocals) {rest : List Value} (hs : g.stack = .ref a :: rest) (hd : decode c.code g.pc = .ok (.invokevirtual index, 3)) (hf : 1 ≤ R.frames) {W : Nat} (hW : 2 * g.monitorRoom + (rest.map fun v => v.category).sum ≤ W) (hl : W + 14 ≤ R.locals) :
    ∃ T', Stand p l e R s m args below meth c T' locs cells slots ∧ T'.heap = h ∧ ∀ target, Steps p.tables e below (T'.setTop { g with pc := g.pc + 3, stack := .ref mr :: rest }) target → Steps p.tables e below (T.setTop g) target := by
  obtain ⟨cB, kB, i1, i2, i3⟩ := isOf hZ eT E
  obtain ⟨cc, kc, m1, m2, m3, -⟩ := M
  rw [hZ.alike.findClass] at i1
  cases i1.symm.trans m1
  obtain ⟨k', q, ek⟩ := hZ.alike.2.2 _ _ m2
  have w4' : (Jvm.Cond.selects K Jvm.Stand.gcN Jvm.Stand.gcN).before args s = true := mvT hZ w4
  have n3 : nativeFrameWords "java/lang/Object" "getClass" 1 = 3 := by decide
  obtain ⟨vm', X', st⟩ := X.getClassOf hx hown (mvT hZ w1) (mvT hZ w2) (notFace_of_selects w4') w4' (mvT hZ w5) (mvT hZ w6) (by rw [hZ.alike.findClass]; exact m1) i3 q (by rw [ek]; exact m3) hg hsize hs hd hf (by rw [n3]; omega)
  exact ⟨_, X', eT, st⟩
theorem own_ldcM (X : Stand p l e R s m args below meth c T locs cells slots) (hx : p.tables.exec = Jvm.exec) (hZ : Z.Warmed39 s.vm) {own K : String} {index : Nat} (hown : s.vm.findClass own = some m.cls) (w : (Jvm.Cond.classLink own index K).before a0 Z = true) (eT : T.heap = h) {mr : Addr} (M : Mir Z K mr)
    {g : JFrame} (hg : g.method = m) (hd : decode c.code g.pc = .ok (.ldc index, 2)) : ∃ T', Stand p l e R s m args below meth c T' locs cells slots ∧ T'.heap = h ∧ ∀ target, Steps p.tables e below (T'.setTop { g with pc := g.pc + 2, stack := .ref mr :: g.stack }) target → Steps p.tables e below (T.setTop g) target := by
  obtain ⟨cc, kc, m1, m2, m3, -⟩ := M
  obtain ⟨k', q, ek⟩ := hZ.alike.2.2 _ _ m2
  have f : s.vm.findClass K = some cc := by rw [hZ.alike.findClass]; exact m1
  have hev : (Term.mirror K).eval args s none [] s = some (.ref mr) := by
    have r : k'.mirror = some mr := by rw [ek]; exact m3
    simp [Term.eval, f, q, r]
  obtain ⟨vm', X', st⟩ := X.ldcMirror hx hown (mvT hZ w) hev hg hd
  exact ⟨_, X', eT, st⟩
theorem own_mir_start {s : State} {K : String} {tb : Tables} {e : Env} {args : Array Value} (h : Jvm.Pilot.@@N@@.Jvm.D.pmirrorMade K tb e args s) : ∃ m, Mir s K m := by
  have h : Jvm.Pilot.@@N@@.Jvm.D.MirrorMade s K := h
  obtain ⟨c, k, a, h1, h2, h3, h4⟩ := h
  exact ⟨a, c, k, h1, h2, h3, h4⟩
end OwnMir
theorem own_rng {es : List Value} {dv : Value} {n : Nat} (h : es.length = n) : (List.range n).map (fun i => es.getD (0 + i) dv) = es := by
  subst h
  apply List.ext_getElem
  · simp
  · intro i h1 h2
    simp at h1
    simp [List.getD_eq_getElem?_getD, h1]
def own_hits (Z : State) (h : Heap) (es : List Value) : Prop := ∀ v ∈ es, ∃ x, v = Value.ref x ∧ Exa Z h x "com/example/carved_corpus/carvedcorpus/Hit"
theorem own_stol {Z : State} {a0 : Array Value} {h : Heap} {b : Addr} {k : ClassId} {z : Int32} {vd : List Value} (B : Arv Z h b k (.object "java/lang/Object") z vd .null) (O : Ovr Z k "java/lang/Object") (wc : (Jvm.Cond.castable "com/example/carved_corpus/carvedcorpus/Hit" "java/lang/Object").before a0 Z = true) : ∀ es, own_hits Z h es → StoL Z h b es
  | [], _ => trivial
  | v :: r, H => by
    obtain ⟨cl, A, q, -⟩ := id B
    obtain ⟨x, rfl, E⟩ := H _ (List.mem_cons_self ..)
    exact ⟨Sto.ofV A q O (Ins.of_exa E wc), own_stol B O wc r (fun v hv => H v (List.mem_cons_of_mem _ hv))⟩
theorem own_hits_keep {Z : State} {h h' : Heap} {es : List Value} {ws : List Addr} (H : own_hits Z h es) (K : Keep h h' ws) : own_hits Z h' es := fun v hv => by
  obtain ⟨x, rfl, E⟩ := H v hv; exact ⟨x, rfl, E.keep K⟩
theorem d11_0 : dk bc6 0 (.aload_n 0) 1 := by decide +kernel
theorem d11_1 : dk bc6 1 (.invokespecial 1) 3 := by decide +kernel
theorem d11_4 : dk bc6 4 (.return_) 1 := by decide +kernel
theorem pn_11 : plainName "java/util/AbstractCollection" = true := by first | (simp [plainName, overriddenIn]; done) | decide +kernel
theorem ef_11 (m : MethodId) (x0 : Addr) : entryFrame m #[(.ref x0)] 1 = mkF m 0 #[.val (.ref x0)] [] := by first | (simp [entryFrame, mkF, argsToLocals, Value.category]; done) | rfl
def Q11 (Z : State) (r0 : Addr) (h0 : Heap) (n0 : Nat) (v : Option Value) (h : Heap) (L : List Loc) : Prop := v = none ∧ Fr n0 L ∧ h = h0
set_option maxRecDepth 65536 in
set_option maxHeartbeats 40000000 in
theorem rm11 (l : Launch) (Z : State) (a0 : Array Value) (hw : ∀ d ∈ tables_1, d.before a0 Z = true) (ws : List Jvm.Cond) (r0 : Addr) (h0 : Heap) (n0 : Nat) (Z0 : n0 ≤ h0.size) :
    MetFree l Y6 (head1 (Jvm.Cond.code Y6 jdk_22_method_1_code 1 none :: ws) (⟨1, 0, 0, 12⟩ : Room)) (fun a U => a = #[(.ref r0)] ∧ Z.Warmed39 U.vm ∧ U.heap = h0) (fun _ _ _ _ _ => True) (fun _ U o U' => ∃ v L, o = .returned v ∧ Q11 Z r0 h0 n0 v U'.heap L ∧ FrameEnd U o U' L (⟨1, 0, 0, 12⟩ : Room).cells (⟨1, 0, 0, 12⟩ : Room).slots) := by
  refine MetFree.of_bodySF (plainFor_of_name pn_11) hisR ?_
  intro p e s m args below meth c s₁ Bd hml0 hP hK
  obtain ⟨rfl, hZ, hh⟩ := hP
  have hx := Bd.exec
  have hby := Bd.bytes
  have hml : c.maxLocals = 1 := hml0
  have hown : s.vm.findClass "java/util/AbstractCollection" = some m.cls := findClass_of_methodNamed Bd.named
  have hnm := (name_of_methodNamed Bd.named Bd.method).1
  have hlk : meth.locks = false := by first | exact BodyLoose.notSynchronized Bd | exact Body.notSynchronized Bd
  have X0 : Stand p l e (⟨1, 0, 0, 12⟩ : Room) s m #[(.ref r0)] below meth c s₁ [] 0 0 := Stand.of_body Bd
  have e0 : s₁.heap = h0 := by rw [← hh, Bd.state]; rfl
  have N0 := Fr.nil n0
  have k0 : own_R p e below (s₁.setTop (entryFrame m #[(.ref r0)] 1)) (s₁.setTop (mkF m 0 #[vR r0] [])) := fun t k => castTop (ef_11 m r0) k
  obtain ⟨A0, hA0⟩ : ∃ z, z = s₁.setTop (entryFrame m #[(.ref r0)] 1) := ⟨_, rfl⟩
  rw [← hA0] at k0
  have kz : ∀ t, Steps p.tables e below A0 t → Steps p.tables e below (s₁.setTop (entryFrame m #[(.ref r0)] 1)) t := fun t q => hA0 ▸ q
  have ks1 : own_R p e below (A0) (s₁.setTop (mkF m 1 #[vR r0] [(.ref r0)])) := fun t k => k0 t (by
    refine XS.aloadN X0.here hx rfl (hb hby d11_0) rfl rfl ?_
    exact k)
  obtain ⟨T2, X2, e2, st2⟩ := initO X0 hx hZ hown (own_w hw 64 rfl) (own_w hw 23 rfl) (own_w hw 24 rfl) e0 (g := (mkF m 1 #[vR r0] [(.ref r0)])) rfl (by rw [hml]; rfl) rfl (hb hby d11_1) (by decide) (W := 0) (by show 2 * 0 + _ ≤ _; exact Nat.le_of_eq rfl) (by decide)
  have ks3 := own_c ks1 st2
  obtain ⟨fs, hr, hrun, hended, hW, hsame⟩ := X2.leave (v := none) (fun _ => rfl) hlk
  refine ⟨_, _, kz _ (ks3 _ ?_), hrun, hended, _, _, rfl, ?_, ⟨_, rfl⟩, hW, hsame.mono (by decide) (by decide)⟩
  · exact X2.returnOut hx Bd.returns (hb hby d11_4) hr
  · show Q11 Z r0 h0 n0 _ T2.heap _
    rw [e2]
    exact ⟨rfl, N0, rfl⟩
theorem d10_0 : dk bc7 0 (.aload_n 0) 1 := by decide +kernel
theorem d10_1 : dk bc7 1 (.invokespecial 1) 3 := by decide +kernel
theorem d10_4 : dk bc7 4 (.aload_n 0) 1 := by decide +kernel
theorem d10_5 : dk bc7 5 (.iconst 0) 1 := by decide +kernel
theorem d10_6 : dk bc7 6 (.putfield 7) 3 := by decide +kernel
theorem d10_9 : dk bc7 9 (.return_) 1 := by decide +kernel
theorem pn_10 : plainName "java/util/AbstractList" = true := by first | (simp [plainName, overriddenIn]; done) | decide +kernel
theorem pd_4 : parseMethodDescriptor "()V" = some ⟨[], none⟩ := by decide +kernel
theorem ef_10 (m : MethodId) (x0 : Addr) : entryFrame m #[(.ref x0)] 1 = mkF m 0 #[.val (.ref x0)] [] := by first | (simp [entryFrame, mkF, argsToLocals, Value.category]; done) | rfl
def Q10 (Z : State) (r0 : Addr) (h0 : Heap) (n0 : Nat) (v : Option Value) (h : Heap) (L : List Loc) : Prop := v = none ∧ Fr n0 L ∧ Keep h0 h [r0] ∧ Fld Z h r0 "java/util/ArrayList" "elementData" "[Ljava/lang/Object;" .null ∧ Fld Z h r0 "java/util/ArrayList" "size" "I" (.int 0) ∧ Fld Z h r0 "java/util/AbstractList" "modCount" "I" (.int 0)
set_option maxRecDepth 65536 in
set_option maxHeartbeats 40000000 in
theorem rm10 (l : Launch) (Z : State) (a0 : Array Value) (hw : ∀ d ∈ tables_1, d.before a0 Z = true) (ws : List Jvm.Cond) (r0 : Addr) (h0 : Heap) (n0 : Nat) (Z0 : n0 ≤ h0.size) (E0 : Exa Z h0 r0 "java/util/ArrayList") (Fe : Fld Z h0 r0 "java/util/ArrayList" "elementData" "[Ljava/lang/Object;" .null) (Fz : Fld Z h0 r0 "java/util/ArrayList" "size" "I" (.int 0)) (Fm : Fld Z h0 r0 "java/util/AbstractList" "modCount" "I" (.int 0)) (g_r0 : n0 ≤ r0) :
    MetFree l Y7 (head1 (Jvm.Cond.code Y7 jdk_39_method_1_code 1 none :: ws) (⟨2, 0, 0, 24⟩ : Room)) (fun a U => a = #[(.ref r0)] ∧ Z.Warmed39 U.vm ∧ U.heap = h0) (fun _ _ _ _ _ => True) (fun _ U o U' => ∃ v L, o = .returned v ∧ Q10 Z r0 h0 n0 v U'.heap L ∧ FrameEnd U o U' L (⟨2, 0, 0, 24⟩ : Room).cells (⟨2, 0, 0, 24⟩ : Room).slots) := by
  refine MetFree.of_bodySF (plainFor_of_name pn_10) hisR ?_
  intro p e s m args below meth c s₁ Bd hml0 hP hK
  obtain ⟨rfl, hZ, hh⟩ := hP
  have hx := Bd.exec
  have hby := Bd.bytes
  have hml : c.maxLocals = 1 := hml0
  have hown : s.vm.findClass "java/util/AbstractList" = some m.cls := findClass_of_methodNamed Bd.named
  have hnm := (name_of_methodNamed Bd.named Bd.method).1
  have hlk : meth.locks = false := by first | exact BodyLoose.notSynchronized Bd | exact Body.notSynchronized Bd
  have X0 : Stand p l e (⟨2, 0, 0, 24⟩ : Room) s m #[(.ref r0)] below meth c s₁ [] 0 0 := Stand.of_body Bd
  have e0 : s₁.heap = h0 := by rw [← hh, Bd.state]; rfl
  have N0 := Fr.nil n0
  have k0 : own_R p e below (s₁.setTop (entryFrame m #[(.ref r0)] 1)) (s₁.setTop (mkF m 0 #[vR r0] [])) := fun t k => castTop (ef_10 m r0) k
  obtain ⟨A0, hA0⟩ : ∃ z, z = s₁.setTop (entryFrame m #[(.ref r0)] 1) := ⟨_, rfl⟩
  rw [← hA0] at k0
  have kz : ∀ t, Steps p.tables e below A0 t → Steps p.tables e below (s₁.setTop (entryFrame m #[(.ref r0)] 1)) t := fun t q => hA0 ▸ q
  have ks1 : own_R p e below (A0) (s₁.setTop (mkF m 1 #[vR r0] [(.ref r0)])) := fun t k => k0 t (by
    refine XS.aloadN X0.here hx rfl (hb hby d10_0) rfl rfl ?_
    exact k)
  obtain ⟨_, _, ⟨T2, L2, k2, n2⟩, -, X2, ⟨Lc2, hQ2, lq2, yq2, zq2⟩, st2⟩ := X0.specialBack hx (y := Y6) rfl hown (mvT hZ (own_w hw 58 rfl)) (mvT hZ (own_w hw 59 rfl)) (mvT hZ (own_w hw 63 rfl)) (by decide) (backOf (W := 0) (rm11 l Z a0 hw [] r0 h0 n0 Z0 ) hZ (own_w hw 63 rfl) (own_w hw 62 rfl) (by decide) (by decide)) (g := (mkF m 1 #[vR r0] [(.ref r0)])) rfl (by rw [hml]; rfl) (Steps.refl _) (a := r0) (argsL := []) (rest := []) (lenOf pd_4 rfl) rfl (by show 2 * 0 + _ ≤ _; exact Nat.le_of_eq rfl) (hb hby d10_1) (fun _ _ => ⟨rfl, e0, (by decide : 0 + 0 ≤ _), (by decide : 0 + 0 ≤ _)⟩)
  dsimp only [Pt.U, Pt.locs, Pt.cells, Pt.slots] at X2 lq2 yq2 zq2 st2 hQ2
  obtain rfl : k2 = 0 := yq2
  obtain rfl : n2 = 0 := zq2
  obtain ⟨rfl, Nq2, eq2⟩ := hQ2
  have N2 := Fr.app N0 Nq2
  have N2' : Fr n0 L2 := by rw [lq2]; exact N2
  have ks3 := own_ct ks1 st2
  have ks4 : own_R p e below (A0) (T2.setTop (mkF m 6 #[vR r0] [(.int 0), (.ref r0)])) := fun t k => ks3 t (by
    refine XS.aloadN X2.here hx rfl (hb hby d10_4) rfl rfl ?_
    refine XS.iconst X2.here hx rfl (hb hby d10_5) ?_
    exact k)
  obtain ⟨T5, h5, X5, e5, W5, st5⟩ := putF X2 hx hZ hown (host := "") (Or.inl (own_w hw 65 rfl)) Via.refl eq2 Fm E0 (Or.inl (own_w hw 66 rfl)) (own_w hw 47 rfl) (ty := .int) (by decide) rfl rfl (g := (mkF m 6 #[vR r0] [(.int 0), (.ref r0)])) rfl rfl (hb hby d10_6)
  have Fw5 := Fm.same W5
  have KH5 : Keep h0 h5 [r0] := (Keep.refl h0 [r0]).wr W5 (Or.inl (List.mem_of_getElem? (i := 0) rfl))
  have Zn5 : n0 ≤ h5.size := Nat.le_trans Z0 (Keep.of_wr W5).1
  have N5 := Fr.snoc X5 N2' g_r0
  have ks6 := own_c ks4 st5
  obtain ⟨fs, hr, hrun, hended, hW, hsame⟩ := X5.leave (v := none) (fun _ => rfl) hlk
  refine ⟨_, _, kz _ (ks6 _ ?_), hrun, hended, _, _, rfl, ?_, ⟨_, rfl⟩, hW, hsame.mono (by decide) (by decide)⟩
  · exact X5.returnOut hx Bd.returns (hb hby d10_9) hr
  · show Q10 Z r0 h0 n0 _ T5.heap _
    rw [e5]
    have f7 := (Fe.other W5 (Or.inr (slot_ne (Or.inl (own_w hw 69 rfl)) (Or.inl (own_w hw 66 rfl)) (by decide) (t := (.array (.object "java/lang/Object"))) (t' := .int) (by decide) (by decide))))
    have f8 := (Fz.other W5 (Or.inr (slot_ne (Or.inl (own_w hw 81 rfl)) (Or.inl (own_w hw 66 rfl)) (by decide) (t := .int) (t' := .int) (by decide) (by decide))))
    exact ⟨rfl, N5, KH5, f7, f8, Fw5⟩
theorem d9_0 : dk bc8 0 (.aload_n 0) 1 := by decide +kernel
theorem d9_1 : dk bc8 1 (.invokespecial 1) 3 := by decide +kernel
theorem d9_4 : dk bc8 4 (.aload_n 0) 1 := by decide +kernel
theorem d9_5 : dk bc8 5 (.getstatic 39) 3 := by decide +kernel
theorem d9_8 : dk bc8 8 (.putfield 9) 3 := by decide +kernel
theorem d9_11 : dk bc8 11 (.return_) 1 := by decide +kernel
theorem pn_9 : plainName "java/util/ArrayList" = true := by first | (simp [plainName, overriddenIn]; done) | decide +kernel
theorem ef_9 (m : MethodId) (x0 : Addr) : entryFrame m #[(.ref x0)] 1 = mkF m 0 #[.val (.ref x0)] [] := by first | (simp [entryFrame, mkF, argsToLocals, Value.category]; done) | rfl
def Q9 (Z : State) (r0 : Addr) (u : Addr) (h0 : Heap) (n0 : Nat) (v : Option Value) (h : Heap) (L : List Loc) : Prop := v = none ∧ Fr n0 L ∧ Keep h0 h [r0] ∧ Fld Z h r0 "java/util/ArrayList" "elementData" "[Ljava/lang/Object;" (.ref u) ∧ Fld Z h r0 "java/util/ArrayList" "size" "I" (.int 0) ∧ Fld Z h r0 "java/util/AbstractList" "modCount" "I" (.int 0)
set_option maxRecDepth 65536 in
set_option maxHeartbeats 40000000 in
theorem rm9 (l : Launch) (Z : State) (a0 : Array Value) (hw : ∀ d ∈ tables_1, d.before a0 Z = true) (ws : List Jvm.Cond) (r0 : Addr) (u : Addr) (h0 : Heap) (n0 : Nat) (Z0 : n0 ≤ h0.size) (E0 : Exa Z h0 r0 "java/util/ArrayList") (Fe : Fld Z h0 r0 "java/util/ArrayList" "elementData" "[Ljava/lang/Object;" .null) (Fz : Fld Z h0 r0 "java/util/ArrayList" "size" "I" (.int 0)) (Fm : Fld Z h0 r0 "java/util/AbstractList" "modCount" "I" (.int 0)) (g_r0 : n0 ≤ r0) (Sd : Sta Z h0 "java/util/ArrayList" "DEFAULTCAPACITY_EMPTY_ELEMENTDATA" "[Ljava/lang/Object;" (.ref u)) :
    MetFree l Y8 (head1 (Jvm.Cond.code Y8 jdk_38_method_2_code 1 none :: ws) (⟨3, 0, 0, 36⟩ : Room)) (fun a U => a = #[(.ref r0)] ∧ Z.Warmed39 U.vm ∧ U.heap = h0) (fun _ _ _ _ _ => True) (fun _ U o U' => ∃ v L, o = .returned v ∧ Q9 Z r0 u h0 n0 v U'.heap L ∧ FrameEnd U o U' L (⟨3, 0, 0, 36⟩ : Room).cells (⟨3, 0, 0, 36⟩ : Room).slots) := by
  refine MetFree.of_bodySF (plainFor_of_name pn_9) hisR ?_
  intro p e s m args below meth c s₁ Bd hml0 hP hK
  obtain ⟨rfl, hZ, hh⟩ := hP
  have hx := Bd.exec
  have hby := Bd.bytes
  have hml : c.maxLocals = 1 := hml0
  have hown : s.vm.findClass "java/util/ArrayList" = some m.cls := findClass_of_methodNamed Bd.named
  have hnm := (name_of_methodNamed Bd.named Bd.method).1
  have hlk : meth.locks = false := by first | exact BodyLoose.notSynchronized Bd | exact Body.notSynchronized Bd
  have X0 : Stand p l e (⟨3, 0, 0, 36⟩ : Room) s m #[(.ref r0)] below meth c s₁ [] 0 0 := Stand.of_body Bd
  have e0 : s₁.heap = h0 := by rw [← hh, Bd.state]; rfl
  have N0 := Fr.nil n0
  have k0 : own_R p e below (s₁.setTop (entryFrame m #[(.ref r0)] 1)) (s₁.setTop (mkF m 0 #[vR r0] [])) := fun t k => castTop (ef_9 m r0) k
  obtain ⟨A0, hA0⟩ : ∃ z, z = s₁.setTop (entryFrame m #[(.ref r0)] 1) := ⟨_, rfl⟩
  rw [← hA0] at k0
  have kz : ∀ t, Steps p.tables e below A0 t → Steps p.tables e below (s₁.setTop (entryFrame m #[(.ref r0)] 1)) t := fun t q => hA0 ▸ q
  have ks1 : own_R p e below (A0) (s₁.setTop (mkF m 1 #[vR r0] [(.ref r0)])) := fun t k => k0 t (by
    refine XS.aloadN X0.here hx rfl (hb hby d9_0) rfl rfl ?_
    exact k)
  obtain ⟨_, _, ⟨T2, L2, k2, n2⟩, -, X2, ⟨Lc2, hQ2, lq2, yq2, zq2⟩, st2⟩ := X0.specialBack hx (y := Y7) rfl hown (mvT hZ (own_w hw 52 rfl)) (mvT hZ (own_w hw 53 rfl)) (mvT hZ (own_w hw 57 rfl)) (by decide) (backOf (W := 0) (rm10 l Z a0 hw [] r0 h0 n0 Z0 E0 Fe Fz Fm g_r0) hZ (own_w hw 57 rfl) (own_w hw 56 rfl) (by decide) (by decide)) (g := (mkF m 1 #[vR r0] [(.ref r0)])) rfl (by rw [hml]; rfl) (Steps.refl _) (a := r0) (argsL := []) (rest := []) (lenOf pd_4 rfl) rfl (by show 2 * 0 + _ ≤ _; exact Nat.le_of_eq rfl) (hb hby d9_1) (fun _ _ => ⟨rfl, e0, (by decide : 0 + 0 ≤ _), (by decide : 0 + 0 ≤ _)⟩)
  dsimp only [Pt.U, Pt.locs, Pt.cells, Pt.slots] at X2 lq2 yq2 zq2 st2 hQ2
  obtain rfl : k2 = 0 := yq2
  obtain rfl : n2 = 0 := zq2
  obtain ⟨rfl, Nq2, Kq2, Fe2, Fz2, Fm2⟩ := hQ2
  have N2 := Fr.app N0 Nq2
  have KH2 : Keep h0 T2.heap [r0] := (Keep.refl h0 [r0]).trans Kq2 (allS (Or.inl (List.mem_of_getElem? (i := 0) rfl)) all0)
  have Zn2 : n0 ≤ T2.heap.size := Nat.le_trans Z0 Kq2.1
  have N2' : Fr n0 L2 := by rw [lq2]; exact N2
  have ks3 := own_ct ks1 st2
  have ks4 : own_R p e below (A0) (T2.setTop (mkF m 5 #[vR r0] [(.ref r0)])) := fun t k => ks3 t (by
    refine XS.aloadN X2.here hx rfl (hb hby d9_4) rfl rfl ?_
    exact k)
  have f5 := (own_sta_keepW Sd Kq2 (allS (own_ns_exa E0) all0))
  obtain ⟨T6, X6, e6, st6⟩ := getS2 X2 hx hZ hown (host := "") (Or.inl (own_w hw 67 rfl)) Via.refl rfl f5 (g := (mkF m 5 #[vR r0] [(.ref r0)])) rfl (hb hby d9_5)
  have ks7 := own_c ks4 st6
  have f8 := E0.keep KH2
  obtain ⟨T9, h9, X9, e9, W9, st9⟩ := putF X6 hx hZ hown (host := "") (Or.inl (own_w hw 68 rfl)) Via.refl e6 Fe2 f8 (Or.inl (own_w hw 69 rfl)) (own_w hw 47 rfl) (ty := (.array (.object "java/lang/Object"))) (by decide) rfl rfl (g := (mkF m 8 #[vR r0] [(.ref u), (.ref r0)])) rfl rfl (hb hby d9_8)
  have Fw9 := Fe2.same W9
  have KH9 : Keep h0 h9 [r0] := KH2.wr W9 (Or.inl (List.mem_of_getElem? (i := 0) rfl))
  have Zn9 : n0 ≤ h9.size := Nat.le_trans Zn2 (Keep.of_wr W9).1
  have N9 := Fr.snoc X9 N2' g_r0
  have ks10 := own_c ks7 st9
  obtain ⟨fs, hr, hrun, hended, hW, hsame⟩ := X9.leave (v := none) (fun _ => rfl) hlk
  refine ⟨_, _, kz _ (ks10 _ ?_), hrun, hended, _, _, rfl, ?_, ⟨_, rfl⟩, hW, hsame.mono (by decide) (by decide)⟩
  · exact X9.returnOut hx Bd.returns (hb hby d9_11) hr
  · show Q9 Z r0 u h0 n0 _ T9.heap _
    rw [e9]
    have f11 := (Fz2.other W9 (Or.inr (slot_ne (Or.inl (own_w hw 81 rfl)) (Or.inl (own_w hw 69 rfl)) (by decide) (t := .int) (t' := (.array (.object "java/lang/Object"))) (by decide) (by decide))))
    have f12 := (Fm2.other W9 (Or.inr (slot_ne (Or.inl (own_w hw 66 rfl)) (Or.inl (own_w hw 69 rfl)) (by decide) (t := .int) (t' := (.array (.object "java/lang/Object"))) (by decide) (by decide))))
    exact ⟨rfl, N9, KH9, Fw9, f11, f12⟩
theorem d17_0 : dk bc9 0 (.iload_n 0) 1 := by decide +kernel
theorem d17_1 : dk bc9 1 (.iload_n 1) 1 := by decide +kernel
theorem d17_2 : dk bc9 2 (.if_icmp .lt 7) 3 := by decide +kernel
theorem d17_5 : dk bc9 5 (.iload_n 0) 1 := by decide +kernel
theorem d17_6 : dk bc9 6 (.goto 4) 3 := by decide +kernel
theorem d17_10 : dk bc9 10 (.ireturn) 1 := by decide +kernel
theorem ef_17_10_1 (m : MethodId) (x0 : Int32) (x1 : Int32) : entryFrame m #[(.int x0), (.int x1)] 2 = mkF m 0 #[.val (.int x0), .val (.int x1)] [] := by first | (simp [entryFrame, mkF, argsToLocals, Value.category]; done) | rfl
def Q17_10_1 (Z : State)  (h0 : Heap) (n0 : Nat) (v : Option Value) (h : Heap) (L : List Loc) : Prop := v = some (.int 10) ∧ Fr n0 L ∧ h = h0
set_option maxRecDepth 65536 in
set_option maxHeartbeats 40000000 in
theorem rm17_10_1 (l : Launch) (Z : State) (a0 : Array Value) (hw : ∀ d ∈ tables_1, d.before a0 Z = true) (ws : List Jvm.Cond)  (h0 : Heap) (n0 : Nat) (Z0 : n0 ≤ h0.size) :
    MetFree l Y9 (head1 (Jvm.Cond.code Y9 jdk_29_method_65_code 2 (some .int) :: ws) (⟨0, 0, 0, 0⟩ : Room)) (fun a U => a = #[(.int 10), (.int 1)] ∧ Z.Warmed39 U.vm ∧ U.heap = h0) (fun _ _ _ _ _ => True) (fun _ U o U' => ∃ v L, o = .returned v ∧ Q17_10_1 Z  h0 n0 v U'.heap L ∧ FrameEnd U o U' L (⟨0, 0, 0, 0⟩ : Room).cells (⟨0, 0, 0, 0⟩ : Room).slots) := by
  refine MetFree.of_bodySF (Jvm.Free.JP.mathPlain rfl (by decide +kernel)) hisR ?_
  intro p e s m args below meth c s₁ Bd hml0 hP hK
  obtain ⟨rfl, hZ, hh⟩ := hP
  have hx := Bd.exec
  have hby := Bd.bytes
  have hml : c.maxLocals = 2 := hml0
  have hown : s.vm.findClass "java/lang/Math" = some m.cls := findClass_of_methodNamed Bd.named
  have hnm := (name_of_methodNamed Bd.named Bd.method).1
  have hlk : meth.locks = false := by first | exact BodyLoose.notSynchronized Bd | exact Body.notSynchronized Bd
  have X0 : Stand p l e (⟨0, 0, 0, 0⟩ : Room) s m #[(.int 10), (.int 1)] below meth c s₁ [] 0 0 := Stand.of_body Bd
  have e0 : s₁.heap = h0 := by rw [← hh, Bd.state]; rfl
  have N0 := Fr.nil n0
  have k0 : own_R p e below (s₁.setTop (entryFrame m #[(.int 10), (.int 1)] 2)) (s₁.setTop (mkF m 0 #[vI 10, vI 1] [])) := fun t k => castTop (ef_17_10_1 m (10 : Int32) (1 : Int32)) k
  obtain ⟨A0, hA0⟩ : ∃ z, z = s₁.setTop (entryFrame m #[(.int 10), (.int 1)] 2) := ⟨_, rfl⟩
  rw [← hA0] at k0
  have kz : ∀ t, Steps p.tables e below A0 t → Steps p.tables e below (s₁.setTop (entryFrame m #[(.int 10), (.int 1)] 2)) t := fun t q => hA0 ▸ q
  have ks1 : own_R p e below (A0) (s₁.setTop (mkF m 10 #[vI 10, vI 1] [(.int 10)])) := fun t k => k0 t (by
    refine XS.iloadN X0.here hx rfl (hb hby d17_0) rfl ?_
    refine XS.iloadN X0.here hx rfl (hb hby d17_1) rfl ?_
    refine XS.icmpNo X0.here hx rfl (hb hby d17_2) rfl (flt (by decide)).1 ?_
    show Steps p.tables e below (s₁.setTop (mkF m 5 #[vI 10, vI 1] [])) _
    refine XS.iloadN X0.here hx rfl (hb hby d17_5) rfl ?_
    refine XS.goto X0.here hx rfl (pc0 := 6) (pc' := 10) rfl (hb hby d17_6) (by decide) (by decide) ?_
    exact k)
  obtain ⟨fs, hr, hrun, hended, hW, hsame⟩ := X0.leave (v := some (.int 10)) (fun h => by rw [Bd.returns] at h; cases h) hlk
  refine ⟨_, _, kz _ (ks1 _ ?_), hrun, hended, _, _, rfl, ?_, ⟨_, rfl⟩, hW, hsame.mono (by decide) (by decide)⟩
  · exact retI X0 hx Bd.returns (hb hby d17_10) hr
  · show Q17_10_1 Z  h0 n0 _ s₁.heap _
    rw [e0]
    exact ⟨rfl, N0, rfl⟩
theorem d17_9 : dk bc9 9 (.iload_n 1) 1 := by decide +kernel
theorem ef_17_1_5 (m : MethodId) (x0 : Int32) (x1 : Int32) : entryFrame m #[(.int x0), (.int x1)] 2 = mkF m 0 #[.val (.int x0), .val (.int x1)] [] := by first | (simp [entryFrame, mkF, argsToLocals, Value.category]; done) | rfl
def Q17_1_5 (Z : State)  (h0 : Heap) (n0 : Nat) (v : Option Value) (h : Heap) (L : List Loc) : Prop := v = some (.int 5) ∧ Fr n0 L ∧ h = h0
set_option maxRecDepth 65536 in
set_option maxHeartbeats 40000000 in
theorem rm17_1_5 (l : Launch) (Z : State) (a0 : Array Value) (hw : ∀ d ∈ tables_1, d.before a0 Z = true) (ws : List Jvm.Cond)  (h0 : Heap) (n0 : Nat) (Z0 : n0 ≤ h0.size) :
    MetFree l Y9 (head1 (Jvm.Cond.code Y9 jdk_29_method_65_code 2 (some .int) :: ws) (⟨0, 0, 0, 0⟩ : Room)) (fun a U => a = #[(.int 1), (.int 5)] ∧ Z.Warmed39 U.vm ∧ U.heap = h0) (fun _ _ _ _ _ => True) (fun _ U o U' => ∃ v L, o = .returned v ∧ Q17_1_5 Z  h0 n0 v U'.heap L ∧ FrameEnd U o U' L (⟨0, 0, 0, 0⟩ : Room).cells (⟨0, 0, 0, 0⟩ : Room).slots) := by
  refine MetFree.of_bodySF (Jvm.Free.JP.mathPlain rfl (by decide +kernel)) hisR ?_
  intro p e s m args below meth c s₁ Bd hml0 hP hK
  obtain ⟨rfl, hZ, hh⟩ := hP
  have hx := Bd.exec
  have hby := Bd.bytes
  have hml : c.maxLocals = 2 := hml0
  have hown : s.vm.findClass "java/lang/Math" = some m.cls := findClass_of_methodNamed Bd.named
  have hnm := (name_of_methodNamed Bd.named Bd.method).1
  have hlk : meth.locks = false := by first | exact BodyLoose.notSynchronized Bd | exact Body.notSynchronized Bd
  have X0 : Stand p l e (⟨0, 0, 0, 0⟩ : Room) s m #[(.int 1), (.int 5)] below meth c s₁ [] 0 0 := Stand.of_body Bd
  have e0 : s₁.heap = h0 := by rw [← hh, Bd.state]; rfl
  have N0 := Fr.nil n0
  have k0 : own_R p e below (s₁.setTop (entryFrame m #[(.int 1), (.int 5)] 2)) (s₁.setTop (mkF m 0 #[vI 1, vI 5] [])) := fun t k => castTop (ef_17_1_5 m (1 : Int32) (5 : Int32)) k
  obtain ⟨A0, hA0⟩ : ∃ z, z = s₁.setTop (entryFrame m #[(.int 1), (.int 5)] 2) := ⟨_, rfl⟩
  rw [← hA0] at k0
  have kz : ∀ t, Steps p.tables e below A0 t → Steps p.tables e below (s₁.setTop (entryFrame m #[(.int 1), (.int 5)] 2)) t := fun t q => hA0 ▸ q
  have ks1 : own_R p e below (A0) (s₁.setTop (mkF m 10 #[vI 1, vI 5] [(.int 5)])) := fun t k => k0 t (by
    refine XS.iloadN X0.here hx rfl (hb hby d17_0) rfl ?_
    refine XS.iloadN X0.here hx rfl (hb hby d17_1) rfl ?_
    refine XS.icmpYes X0.here hx rfl (pc0 := 2) (pc' := 9) rfl (hb hby d17_2) rfl (tlt (by decide)).1 (by decide) (by decide) ?_
    show Steps p.tables e below (s₁.setTop (mkF m 9 #[vI 1, vI 5] [])) _
    refine XS.iloadN X0.here hx rfl (hb hby d17_9) rfl ?_
    exact k)
  obtain ⟨fs, hr, hrun, hended, hW, hsame⟩ := X0.leave (v := some (.int 5)) (fun h => by rw [Bd.returns] at h; cases h) hlk
  refine ⟨_, _, kz _ (ks1 _ ?_), hrun, hended, _, _, rfl, ?_, ⟨_, rfl⟩, hW, hsame.mono (by decide) (by decide)⟩
  · exact retI X0 hx Bd.returns (hb hby d17_10) hr
  · show Q17_1_5 Z  h0 n0 _ s₁.heap _
    rw [e0]
    exact ⟨rfl, N0, rfl⟩
theorem ef_17_1_7 (m : MethodId) (x0 : Int32) (x1 : Int32) : entryFrame m #[(.int x0), (.int x1)] 2 = mkF m 0 #[.val (.int x0), .val (.int x1)] [] := by first | (simp [entryFrame, mkF, argsToLocals, Value.category]; done) | rfl
def Q17_1_7 (Z : State)  (h0 : Heap) (n0 : Nat) (v : Option Value) (h : Heap) (L : List Loc) : Prop := v = some (.int 7) ∧ Fr n0 L ∧ h = h0
set_option maxRecDepth 65536 in
set_option maxHeartbeats 40000000 in
theorem rm17_1_7 (l : Launch) (Z : State) (a0 : Array Value) (hw : ∀ d ∈ tables_1, d.before a0 Z = true) (ws : List Jvm.Cond)  (h0 : Heap) (n0 : Nat) (Z0 : n0 ≤ h0.size) :
    MetFree l Y9 (head1 (Jvm.Cond.code Y9 jdk_29_method_65_code 2 (some .int) :: ws) (⟨0, 0, 0, 0⟩ : Room)) (fun a U => a = #[(.int 1), (.int 7)] ∧ Z.Warmed39 U.vm ∧ U.heap = h0) (fun _ _ _ _ _ => True) (fun _ U o U' => ∃ v L, o = .returned v ∧ Q17_1_7 Z  h0 n0 v U'.heap L ∧ FrameEnd U o U' L (⟨0, 0, 0, 0⟩ : Room).cells (⟨0, 0, 0, 0⟩ : Room).slots) := by
  refine MetFree.of_bodySF (Jvm.Free.JP.mathPlain rfl (by decide +kernel)) hisR ?_
  intro p e s m args below meth c s₁ Bd hml0 hP hK
  obtain ⟨rfl, hZ, hh⟩ := hP
  have hx := Bd.exec
  have hby := Bd.bytes
  have hml : c.maxLocals = 2 := hml0
  have hown : s.vm.findClass "java/lang/Math" = some m.cls := findClass_of_methodNamed Bd.named
  have hnm := (name_of_methodNamed Bd.named Bd.method).1
  have hlk : meth.locks = false := by first | exact BodyLoose.notSynchronized Bd | exact Body.notSynchronized Bd
  have X0 : Stand p l e (⟨0, 0, 0, 0⟩ : Room) s m #[(.int 1), (.int 7)] below meth c s₁ [] 0 0 := Stand.of_body Bd
  have e0 : s₁.heap = h0 := by rw [← hh, Bd.state]; rfl
  have N0 := Fr.nil n0
  have k0 : own_R p e below (s₁.setTop (entryFrame m #[(.int 1), (.int 7)] 2)) (s₁.setTop (mkF m 0 #[vI 1, vI 7] [])) := fun t k => castTop (ef_17_1_7 m (1 : Int32) (7 : Int32)) k
  obtain ⟨A0, hA0⟩ : ∃ z, z = s₁.setTop (entryFrame m #[(.int 1), (.int 7)] 2) := ⟨_, rfl⟩
  rw [← hA0] at k0
  have kz : ∀ t, Steps p.tables e below A0 t → Steps p.tables e below (s₁.setTop (entryFrame m #[(.int 1), (.int 7)] 2)) t := fun t q => hA0 ▸ q
  have ks1 : own_R p e below (A0) (s₁.setTop (mkF m 10 #[vI 1, vI 7] [(.int 7)])) := fun t k => k0 t (by
    refine XS.iloadN X0.here hx rfl (hb hby d17_0) rfl ?_
    refine XS.iloadN X0.here hx rfl (hb hby d17_1) rfl ?_
    refine XS.icmpYes X0.here hx rfl (pc0 := 2) (pc' := 9) rfl (hb hby d17_2) rfl (tlt (by decide)).1 (by decide) (by decide) ?_
    show Steps p.tables e below (s₁.setTop (mkF m 9 #[vI 1, vI 7] [])) _
    refine XS.iloadN X0.here hx rfl (hb hby d17_9) rfl ?_
    exact k)
  obtain ⟨fs, hr, hrun, hended, hW, hsame⟩ := X0.leave (v := some (.int 7)) (fun h => by rw [Bd.returns] at h; cases h) hlk
  refine ⟨_, _, kz _ (ks1 _ ?_), hrun, hended, _, _, rfl, ?_, ⟨_, rfl⟩, hW, hsame.mono (by decide) (by decide)⟩
  · exact retI X0 hx Bd.returns (hb hby d17_10) hr
  · show Q17_1_7 Z  h0 n0 _ s₁.heap _
    rw [e0]
    exact ⟨rfl, N0, rfl⟩
theorem d49_0 : dk bc10 0 (.iload_n 0) 1 := by decide +kernel
theorem d49_1 : dk bc10 1 (.iload_n 1) 1 := by decide +kernel
theorem d49_2 : dk bc10 2 (.iload_n 2) 1 := by decide +kernel
theorem d49_3 : dk bc10 3 (.invokestatic 194) 3 := by decide +kernel
theorem d49_6 : dk bc10 6 (.iadd) 1 := by decide +kernel
theorem d49_7 : dk bc10 7 (.istore_n 3) 1 := by decide +kernel
theorem d49_8 : dk bc10 8 (.iconst 0) 1 := by decide +kernel
theorem d49_9 : dk bc10 9 (.iload_n 3) 1 := by decide +kernel
theorem d49_10 : dk bc10 10 (.if_icmp .ge 11) 3 := by decide +kernel
theorem d49_13 : dk bc10 13 (.iload_n 3) 1 := by decide +kernel
theorem d49_14 : dk bc10 14 (.ldc 200) 2 := by decide +kernel
theorem d49_16 : dk bc10 16 (.if_icmp .gt 5) 3 := by decide +kernel
theorem d49_19 : dk bc10 19 (.iload_n 3) 1 := by decide +kernel
theorem d49_20 : dk bc10 20 (.ireturn) 1 := by decide +kernel
theorem pn_49 : plainName "jdk/internal/util/ArraysSupport" = true := by first | (simp [plainName, overriddenIn]; done) | decide +kernel
theorem pd_6 : parseMethodDescriptor "(II)I" = some ⟨[.int, .int], some .int⟩ := by decide +kernel
theorem ef_49_10_1_5 (m : MethodId) (x0 : Int32) (x1 : Int32) (x2 : Int32) : entryFrame m #[(.int x0), (.int x1), (.int x2)] 4 = mkF m 0 #[.val (.int x0), .val (.int x1), .val (.int x2), .unset] [] := by first | (simp [entryFrame, mkF, argsToLocals, Value.category]; done) | rfl
def Q49_10_1_5 (Z : State)  (h0 : Heap) (n0 : Nat) (v : Option Value) (h : Heap) (L : List Loc) : Prop := v = some (.int 15) ∧ Fr n0 L ∧ h = h0
set_option maxRecDepth 65536 in
set_option maxHeartbeats 40000000 in
theorem rm49_10_1_5 (l : Launch) (Z : State) (a0 : Array Value) (hw : ∀ d ∈ tables_1, d.before a0 Z = true) (ws : List Jvm.Cond)  (h0 : Heap) (n0 : Nat) (Z0 : n0 ≤ h0.size) :
    MetFree l Y10 (head1 (Jvm.Cond.code Y10 jdk_48_method_27_code 4 (some .int) :: ws) (⟨1, 0, 0, 14⟩ : Room)) (fun a U => a = #[(.int 10), (.int 1), (.int 5)] ∧ Z.Warmed39 U.vm ∧ U.heap = h0) (fun _ _ _ _ _ => True) (fun _ U o U' => ∃ v L, o = .returned v ∧ Q49_10_1_5 Z  h0 n0 v U'.heap L ∧ FrameEnd U o U' L (⟨1, 0, 0, 14⟩ : Room).cells (⟨1, 0, 0, 14⟩ : Room).slots) := by
  refine MetFree.of_bodySF (plainFor_of_name pn_49) hisR ?_
  intro p e s m args below meth c s₁ Bd hml0 hP hK
  obtain ⟨rfl, hZ, hh⟩ := hP
  have hx := Bd.exec
  have hby := Bd.bytes
  have hml : c.maxLocals = 4 := hml0
  have hown : s.vm.findClass "jdk/internal/util/ArraysSupport" = some m.cls := findClass_of_methodNamed Bd.named
  have hnm := (name_of_methodNamed Bd.named Bd.method).1
  have hlk : meth.locks = false := by first | exact BodyLoose.notSynchronized Bd | exact Body.notSynchronized Bd
  have X0 : Stand p l e (⟨1, 0, 0, 14⟩ : Room) s m #[(.int 10), (.int 1), (.int 5)] below meth c s₁ [] 0 0 := Stand.of_body Bd
  have e0 : s₁.heap = h0 := by rw [← hh, Bd.state]; rfl
  have N0 := Fr.nil n0
  have k0 : own_R p e below (s₁.setTop (entryFrame m #[(.int 10), (.int 1), (.int 5)] 4)) (s₁.setTop (mkF m 0 #[vI 10, vI 1, vI 5, .unset] [])) := fun t k => castTop (ef_49_10_1_5 m (10 : Int32) (1 : Int32) (5 : Int32)) k
  obtain ⟨A0, hA0⟩ : ∃ z, z = s₁.setTop (entryFrame m #[(.int 10), (.int 1), (.int 5)] 4) := ⟨_, rfl⟩
  rw [← hA0] at k0
  have kz : ∀ t, Steps p.tables e below A0 t → Steps p.tables e below (s₁.setTop (entryFrame m #[(.int 10), (.int 1), (.int 5)] 4)) t := fun t q => hA0 ▸ q
  have ks1 : own_R p e below (A0) (s₁.setTop (mkF m 3 #[vI 10, vI 1, vI 5, .unset] [(.int 5), (.int 1), (.int 10)])) := fun t k => k0 t (by
    refine XS.iloadN X0.here hx rfl (hb hby d49_0) rfl ?_
    refine XS.iloadN X0.here hx rfl (hb hby d49_1) rfl ?_
    refine XS.iloadN X0.here hx rfl (hb hby d49_2) rfl ?_
    exact k)
  obtain ⟨_, _, ⟨T2, L2, k2, n2⟩, -, X2, ⟨Lc2, hQ2, lq2, yq2, zq2⟩, st2⟩ := Jvm.LawKit.callS X0 hx (y := Y9) hown (mvT hZ (own_w hw 313 rfl)) (mvT hZ (own_w hw 98 rfl)) (mvT hZ (own_w hw 40 rfl)) (mvT hZ (own_w hw 99 rfl)) (by decide) (backOf (W := 1) (rm17_1_5 l Z a0 hw []  h0 n0 Z0 ) hZ (own_w hw 99 rfl) (own_w hw 40 rfl) (by decide) (by decide)) (g := (mkF m 3 #[vI 10, vI 1, vI 5, .unset] [(.int 5), (.int 1), (.int 10)])) rfl (by rw [hml]; rfl) (argsL := [(.int 1), (.int 5)]) (rest := [(.int 10)]) (lenOf pd_6 rfl) rfl (by show 2 * 0 + _ ≤ _; exact Nat.le_of_eq rfl) (hb hby d49_3) (fun _ _ => ⟨rfl, e0, (by decide : 0 + 0 ≤ _), (by decide : 0 + 0 ≤ _)⟩)
  dsimp only [Pt.U, Pt.locs, Pt.cells, Pt.slots] at X2 lq2 yq2 zq2 st2 hQ2
  obtain rfl : k2 = 0 := yq2
  obtain rfl : n2 = 0 := zq2
  obtain ⟨rfl, Nq2, eq2⟩ := hQ2
  have N2 := Fr.app N0 Nq2
  have N2' : Fr n0 L2 := by rw [lq2]; exact N2
  have ks3 := own_c ks1 st2
  have ks4 : own_R p e below (A0) (T2.setTop (mkF m 20 #[vI 10, vI 1, vI 5, vI 15] [(.int 15)])) := fun t k => ks3 t (by
    refine XS.iadd X2.here hx rfl (hb hby d49_6) rfl ?_
    refine XS.istoreN X2.here hx rfl (hb hby d49_7) rfl (l' := #[vI 10, vI 1, vI 5, vI 15]) rfl ?_
    refine XS.iconst X2.here hx rfl (hb hby d49_8) ?_
    show Steps p.tables e below (T2.setTop (mkF m 9 #[vI 10, vI 1, vI 5, vI 15] [(.int 0)])) _
    refine XS.iloadN X2.here hx rfl (hb hby d49_9) rfl ?_
    refine XS.icmpNo X2.here hx rfl (hb hby d49_10) rfl (tlt (by decide)).2.1 ?_
    refine XS.iloadN X2.here hx rfl (hb hby d49_13) rfl ?_
    refine X2.ldcInt hx hown (mvT hZ (own_w hw 314 rfl)) (g := (mkF m 14 #[vI 10, vI 1, vI 5, vI 15] [(.int 15)])) rfl (hb hby d49_14) _ ?_
    show Steps p.tables e below (T2.setTop (mkF m 16 #[vI 10, vI 1, vI 5, vI 15] [(.int 2147483639), (.int 15)])) _
    refine XS.icmpNo X2.here hx rfl (hb hby d49_16) rfl (flt (by decide)).2.2.1 ?_
    refine XS.iloadN X2.here hx rfl (hb hby d49_19) rfl ?_
    exact k)
  obtain ⟨fs, hr, hrun, hended, hW, hsame⟩ := X2.leave (v := some (.int 15)) (fun h => by rw [Bd.returns] at h; cases h) hlk
  refine ⟨_, _, kz _ (ks4 _ ?_), hrun, hended, _, _, rfl, ?_, ⟨_, rfl⟩, hW, hsame.mono (by decide) (by decide)⟩
  · exact retI X2 hx Bd.returns (hb hby d49_20) hr
  · show Q49_10_1_5 Z  h0 n0 _ T2.heap _
    rw [eq2]
    exact ⟨rfl, N2', rfl⟩
theorem ef_49_15_1_7 (m : MethodId) (x0 : Int32) (x1 : Int32) (x2 : Int32) : entryFrame m #[(.int x0), (.int x1), (.int x2)] 4 = mkF m 0 #[.val (.int x0), .val (.int x1), .val (.int x2), .unset] [] := by first | (simp [entryFrame, mkF, argsToLocals, Value.category]; done) | rfl
def Q49_15_1_7 (Z : State)  (h0 : Heap) (n0 : Nat) (v : Option Value) (h : Heap) (L : List Loc) : Prop := v = some (.int 22) ∧ Fr n0 L ∧ h = h0
set_option maxRecDepth 65536 in
set_option maxHeartbeats 40000000 in
theorem rm49_15_1_7 (l : Launch) (Z : State) (a0 : Array Value) (hw : ∀ d ∈ tables_1, d.before a0 Z = true) (ws : List Jvm.Cond)  (h0 : Heap) (n0 : Nat) (Z0 : n0 ≤ h0.size) :
    MetFree l Y10 (head1 (Jvm.Cond.code Y10 jdk_48_method_27_code 4 (some .int) :: ws) (⟨1, 0, 0, 14⟩ : Room)) (fun a U => a = #[(.int 15), (.int 1), (.int 7)] ∧ Z.Warmed39 U.vm ∧ U.heap = h0) (fun _ _ _ _ _ => True) (fun _ U o U' => ∃ v L, o = .returned v ∧ Q49_15_1_7 Z  h0 n0 v U'.heap L ∧ FrameEnd U o U' L (⟨1, 0, 0, 14⟩ : Room).cells (⟨1, 0, 0, 14⟩ : Room).slots) := by
  refine MetFree.of_bodySF (plainFor_of_name pn_49) hisR ?_
  intro p e s m args below meth c s₁ Bd hml0 hP hK
  obtain ⟨rfl, hZ, hh⟩ := hP
  have hx := Bd.exec
  have hby := Bd.bytes
  have hml : c.maxLocals = 4 := hml0
  have hown : s.vm.findClass "jdk/internal/util/ArraysSupport" = some m.cls := findClass_of_methodNamed Bd.named
  have hnm := (name_of_methodNamed Bd.named Bd.method).1
  have hlk : meth.locks = false := by first | exact BodyLoose.notSynchronized Bd | exact Body.notSynchronized Bd
  have X0 : Stand p l e (⟨1, 0, 0, 14⟩ : Room) s m #[(.int 15), (.int 1), (.int 7)] below meth c s₁ [] 0 0 := Stand.of_body Bd
  have e0 : s₁.heap = h0 := by rw [← hh, Bd.state]; rfl
  have N0 := Fr.nil n0
  have k0 : own_R p e below (s₁.setTop (entryFrame m #[(.int 15), (.int 1), (.int 7)] 4)) (s₁.setTop (mkF m 0 #[vI 15, vI 1, vI 7, .unset] [])) := fun t k => castTop (ef_49_15_1_7 m (15 : Int32) (1 : Int32) (7 : Int32)) k
  obtain ⟨A0, hA0⟩ : ∃ z, z = s₁.setTop (entryFrame m #[(.int 15), (.int 1), (.int 7)] 4) := ⟨_, rfl⟩
  rw [← hA0] at k0
  have kz : ∀ t, Steps p.tables e below A0 t → Steps p.tables e below (s₁.setTop (entryFrame m #[(.int 15), (.int 1), (.int 7)] 4)) t := fun t q => hA0 ▸ q
  have ks1 : own_R p e below (A0) (s₁.setTop (mkF m 3 #[vI 15, vI 1, vI 7, .unset] [(.int 7), (.int 1), (.int 15)])) := fun t k => k0 t (by
    refine XS.iloadN X0.here hx rfl (hb hby d49_0) rfl ?_
    refine XS.iloadN X0.here hx rfl (hb hby d49_1) rfl ?_
    refine XS.iloadN X0.here hx rfl (hb hby d49_2) rfl ?_
    exact k)
  obtain ⟨_, _, ⟨T2, L2, k2, n2⟩, -, X2, ⟨Lc2, hQ2, lq2, yq2, zq2⟩, st2⟩ := Jvm.LawKit.callS X0 hx (y := Y9) hown (mvT hZ (own_w hw 313 rfl)) (mvT hZ (own_w hw 98 rfl)) (mvT hZ (own_w hw 40 rfl)) (mvT hZ (own_w hw 99 rfl)) (by decide) (backOf (W := 1) (rm17_1_7 l Z a0 hw []  h0 n0 Z0 ) hZ (own_w hw 99 rfl) (own_w hw 40 rfl) (by decide) (by decide)) (g := (mkF m 3 #[vI 15, vI 1, vI 7, .unset] [(.int 7), (.int 1), (.int 15)])) rfl (by rw [hml]; rfl) (argsL := [(.int 1), (.int 7)]) (rest := [(.int 15)]) (lenOf pd_6 rfl) rfl (by show 2 * 0 + _ ≤ _; exact Nat.le_of_eq rfl) (hb hby d49_3) (fun _ _ => ⟨rfl, e0, (by decide : 0 + 0 ≤ _), (by decide : 0 + 0 ≤ _)⟩)
  dsimp only [Pt.U, Pt.locs, Pt.cells, Pt.slots] at X2 lq2 yq2 zq2 st2 hQ2
  obtain rfl : k2 = 0 := yq2
  obtain rfl : n2 = 0 := zq2
  obtain ⟨rfl, Nq2, eq2⟩ := hQ2
  have N2 := Fr.app N0 Nq2
  have N2' : Fr n0 L2 := by rw [lq2]; exact N2
  have ks3 := own_c ks1 st2
  have ks4 : own_R p e below (A0) (T2.setTop (mkF m 20 #[vI 15, vI 1, vI 7, vI 22] [(.int 22)])) := fun t k => ks3 t (by
    refine XS.iadd X2.here hx rfl (hb hby d49_6) rfl ?_
    refine XS.istoreN X2.here hx rfl (hb hby d49_7) rfl (l' := #[vI 15, vI 1, vI 7, vI 22]) rfl ?_
    refine XS.iconst X2.here hx rfl (hb hby d49_8) ?_
    show Steps p.tables e below (T2.setTop (mkF m 9 #[vI 15, vI 1, vI 7, vI 22] [(.int 0)])) _
    refine XS.iloadN X2.here hx rfl (hb hby d49_9) rfl ?_
    refine XS.icmpNo X2.here hx rfl (hb hby d49_10) rfl (tlt (by decide)).2.1 ?_
    refine XS.iloadN X2.here hx rfl (hb hby d49_13) rfl ?_
    refine X2.ldcInt hx hown (mvT hZ (own_w hw 314 rfl)) (g := (mkF m 14 #[vI 15, vI 1, vI 7, vI 22] [(.int 22)])) rfl (hb hby d49_14) _ ?_
    show Steps p.tables e below (T2.setTop (mkF m 16 #[vI 15, vI 1, vI 7, vI 22] [(.int 2147483639), (.int 22)])) _
    refine XS.icmpNo X2.here hx rfl (hb hby d49_16) rfl (flt (by decide)).2.2.1 ?_
    refine XS.iloadN X2.here hx rfl (hb hby d49_19) rfl ?_
    exact k)
  obtain ⟨fs, hr, hrun, hended, hW, hsame⟩ := X2.leave (v := some (.int 22)) (fun h => by rw [Bd.returns] at h; cases h) hlk
  refine ⟨_, _, kz _ (ks4 _ ?_), hrun, hended, _, _, rfl, ?_, ⟨_, rfl⟩, hW, hsame.mono (by decide) (by decide)⟩
  · exact retI X2 hx Bd.returns (hb hby d49_20) hr
  · show Q49_15_1_7 Z  h0 n0 _ T2.heap _
    rw [eq2]
    exact ⟨rfl, N2', rfl⟩
theorem d7_0 : dk bc11 0 (.iload_n 0) 1 := by decide +kernel
theorem d7_1 : dk bc11 1 (.iload_n 1) 1 := by decide +kernel
theorem d7_2 : dk bc11 2 (.if_icmp .gt 7) 3 := by decide +kernel
theorem d7_5 : dk bc11 5 (.iload_n 0) 1 := by decide +kernel
theorem d7_6 : dk bc11 6 (.goto 4) 3 := by decide +kernel
theorem d7_10 : dk bc11 10 (.ireturn) 1 := by decide +kernel
theorem ef_7_10_15 (m : MethodId) (x0 : Int32) (x1 : Int32) : entryFrame m #[(.int x0), (.int x1)] 2 = mkF m 0 #[.val (.int x0), .val (.int x1)] [] := by first | (simp [entryFrame, mkF, argsToLocals, Value.category]; done) | rfl
def Q7_10_15 (Z : State)  (h0 : Heap) (n0 : Nat) (v : Option Value) (h : Heap) (L : List Loc) : Prop := v = some (.int 10) ∧ Fr n0 L ∧ h = h0
set_option maxRecDepth 65536 in
set_option maxHeartbeats 40000000 in
theorem rm7_10_15 (l : Launch) (Z : State) (a0 : Array Value) (hw : ∀ d ∈ tables_1, d.before a0 Z = true) (ws : List Jvm.Cond)  (h0 : Heap) (n0 : Nat) (Z0 : n0 ≤ h0.size) :
    MetFree l Y11 (head1 (Jvm.Cond.code Y11 jdk_29_method_69_code 2 (some .int) :: ws) (⟨0, 0, 0, 0⟩ : Room)) (fun a U => a = #[(.int 10), (.int 15)] ∧ Z.Warmed39 U.vm ∧ U.heap = h0) (fun _ _ _ _ _ => True) (fun _ U o U' => ∃ v L, o = .returned v ∧ Q7_10_15 Z  h0 n0 v U'.heap L ∧ FrameEnd U o U' L (⟨0, 0, 0, 0⟩ : Room).cells (⟨0, 0, 0, 0⟩ : Room).slots) := by
  refine MetFree.of_bodySF (Jvm.Free.JP.mathPlain rfl (by decide +kernel)) hisR ?_
  intro p e s m args below meth c s₁ Bd hml0 hP hK
  obtain ⟨rfl, hZ, hh⟩ := hP
  have hx := Bd.exec
  have hby := Bd.bytes
  have hml : c.maxLocals = 2 := hml0
  have hown : s.vm.findClass "java/lang/Math" = some m.cls := findClass_of_methodNamed Bd.named
  have hnm := (name_of_methodNamed Bd.named Bd.method).1
  have hlk : meth.locks = false := by first | exact BodyLoose.notSynchronized Bd | exact Body.notSynchronized Bd
  have X0 : Stand p l e (⟨0, 0, 0, 0⟩ : Room) s m #[(.int 10), (.int 15)] below meth c s₁ [] 0 0 := Stand.of_body Bd
  have e0 : s₁.heap = h0 := by rw [← hh, Bd.state]; rfl
  have N0 := Fr.nil n0
  have k0 : own_R p e below (s₁.setTop (entryFrame m #[(.int 10), (.int 15)] 2)) (s₁.setTop (mkF m 0 #[vI 10, vI 15] [])) := fun t k => castTop (ef_7_10_15 m (10 : Int32) (15 : Int32)) k
  obtain ⟨A0, hA0⟩ : ∃ z, z = s₁.setTop (entryFrame m #[(.int 10), (.int 15)] 2) := ⟨_, rfl⟩
  rw [← hA0] at k0
  have kz : ∀ t, Steps p.tables e below A0 t → Steps p.tables e below (s₁.setTop (entryFrame m #[(.int 10), (.int 15)] 2)) t := fun t q => hA0 ▸ q
  have ks1 : own_R p e below (A0) (s₁.setTop (mkF m 10 #[vI 10, vI 15] [(.int 10)])) := fun t k => k0 t (by
    refine XS.iloadN X0.here hx rfl (hb hby d7_0) rfl ?_
    refine XS.iloadN X0.here hx rfl (hb hby d7_1) rfl ?_
    refine XS.icmpNo X0.here hx rfl (hb hby d7_2) rfl (flt (by decide)).2.2.1 ?_
    show Steps p.tables e below (s₁.setTop (mkF m 5 #[vI 10, vI 15] [])) _
    refine XS.iloadN X0.here hx rfl (hb hby d7_5) rfl ?_
    refine XS.goto X0.here hx rfl (pc0 := 6) (pc' := 10) rfl (hb hby d7_6) (by decide) (by decide) ?_
    exact k)
  obtain ⟨fs, hr, hrun, hended, hW, hsame⟩ := X0.leave (v := some (.int 10)) (fun h => by rw [Bd.returns] at h; cases h) hlk
  refine ⟨_, _, kz _ (ks1 _ ?_), hrun, hended, _, _, rfl, ?_, ⟨_, rfl⟩, hW, hsame.mono (by decide) (by decide)⟩
  · exact retI X0 hx Bd.returns (hb hby d7_10) hr
  · show Q7_10_15 Z  h0 n0 _ s₁.heap _
    rw [e0]
    exact ⟨rfl, N0, rfl⟩
theorem ef_7_15_22 (m : MethodId) (x0 : Int32) (x1 : Int32) : entryFrame m #[(.int x0), (.int x1)] 2 = mkF m 0 #[.val (.int x0), .val (.int x1)] [] := by first | (simp [entryFrame, mkF, argsToLocals, Value.category]; done) | rfl
def Q7_15_22 (Z : State)  (h0 : Heap) (n0 : Nat) (v : Option Value) (h : Heap) (L : List Loc) : Prop := v = some (.int 15) ∧ Fr n0 L ∧ h = h0
set_option maxRecDepth 65536 in
set_option maxHeartbeats 40000000 in
theorem rm7_15_22 (l : Launch) (Z : State) (a0 : Array Value) (hw : ∀ d ∈ tables_1, d.before a0 Z = true) (ws : List Jvm.Cond)  (h0 : Heap) (n0 : Nat) (Z0 : n0 ≤ h0.size) :
    MetFree l Y11 (head1 (Jvm.Cond.code Y11 jdk_29_method_69_code 2 (some .int) :: ws) (⟨0, 0, 0, 0⟩ : Room)) (fun a U => a = #[(.int 15), (.int 22)] ∧ Z.Warmed39 U.vm ∧ U.heap = h0) (fun _ _ _ _ _ => True) (fun _ U o U' => ∃ v L, o = .returned v ∧ Q7_15_22 Z  h0 n0 v U'.heap L ∧ FrameEnd U o U' L (⟨0, 0, 0, 0⟩ : Room).cells (⟨0, 0, 0, 0⟩ : Room).slots) := by
  refine MetFree.of_bodySF (Jvm.Free.JP.mathPlain rfl (by decide +kernel)) hisR ?_
  intro p e s m args below meth c s₁ Bd hml0 hP hK
  obtain ⟨rfl, hZ, hh⟩ := hP
  have hx := Bd.exec
  have hby := Bd.bytes
  have hml : c.maxLocals = 2 := hml0
  have hown : s.vm.findClass "java/lang/Math" = some m.cls := findClass_of_methodNamed Bd.named
  have hnm := (name_of_methodNamed Bd.named Bd.method).1
  have hlk : meth.locks = false := by first | exact BodyLoose.notSynchronized Bd | exact Body.notSynchronized Bd
  have X0 : Stand p l e (⟨0, 0, 0, 0⟩ : Room) s m #[(.int 15), (.int 22)] below meth c s₁ [] 0 0 := Stand.of_body Bd
  have e0 : s₁.heap = h0 := by rw [← hh, Bd.state]; rfl
  have N0 := Fr.nil n0
  have k0 : own_R p e below (s₁.setTop (entryFrame m #[(.int 15), (.int 22)] 2)) (s₁.setTop (mkF m 0 #[vI 15, vI 22] [])) := fun t k => castTop (ef_7_15_22 m (15 : Int32) (22 : Int32)) k
  obtain ⟨A0, hA0⟩ : ∃ z, z = s₁.setTop (entryFrame m #[(.int 15), (.int 22)] 2) := ⟨_, rfl⟩
  rw [← hA0] at k0
  have kz : ∀ t, Steps p.tables e below A0 t → Steps p.tables e below (s₁.setTop (entryFrame m #[(.int 15), (.int 22)] 2)) t := fun t q => hA0 ▸ q
  have ks1 : own_R p e below (A0) (s₁.setTop (mkF m 10 #[vI 15, vI 22] [(.int 15)])) := fun t k => k0 t (by
    refine XS.iloadN X0.here hx rfl (hb hby d7_0) rfl ?_
    refine XS.iloadN X0.here hx rfl (hb hby d7_1) rfl ?_
    refine XS.icmpNo X0.here hx rfl (hb hby d7_2) rfl (flt (by decide)).2.2.1 ?_
    show Steps p.tables e below (s₁.setTop (mkF m 5 #[vI 15, vI 22] [])) _
    refine XS.iloadN X0.here hx rfl (hb hby d7_5) rfl ?_
    refine XS.goto X0.here hx rfl (pc0 := 6) (pc' := 10) rfl (hb hby d7_6) (by decide) (by decide) ?_
    exact k)
  obtain ⟨fs, hr, hrun, hended, hW, hsame⟩ := X0.leave (v := some (.int 15)) (fun h => by rw [Bd.returns] at h; cases h) hlk
  refine ⟨_, _, kz _ (ks1 _ ?_), hrun, hended, _, _, rfl, ?_, ⟨_, rfl⟩, hW, hsame.mono (by decide) (by decide)⟩
  · exact retI X0 hx Bd.returns (hb hby d7_10) hr
  · show Q7_15_22 Z  h0 n0 _ s₁.heap _
    rw [e0]
    exact ⟨rfl, N0, rfl⟩
theorem d51_0 : dk bc12 0 (.aload_n 2) 1 := by decide +kernel
theorem d51_1 : dk bc12 1 (.ldc 110) 2 := by decide +kernel
theorem d51_3 : dk bc12 3 (.if_acmp .ne 10) 3 := by decide +kernel
theorem d51_6 : dk bc12 6 (.iload_n 1) 1 := by decide +kernel
theorem d51_7 : dk bc12 7 (.anewarray 2) 3 := by decide +kernel
theorem d51_10 : dk bc12 10 (.goto 14) 3 := by decide +kernel
theorem d51_24 : dk bc12 24 (.astore_n 3) 1 := by decide +kernel
theorem d51_25 : dk bc12 25 (.aload_n 0) 1 := by decide +kernel
theorem d51_26 : dk bc12 26 (.iconst 0) 1 := by decide +kernel
theorem d51_27 : dk bc12 27 (.aload_n 3) 1 := by decide +kernel
theorem d51_28 : dk bc12 28 (.iconst 0) 1 := by decide +kernel
theorem d51_29 : dk bc12 29 (.aload_n 0) 1 := by decide +kernel
theorem d51_30 : dk bc12 30 (.arraylength) 1 := by decide +kernel
theorem d51_31 : dk bc12 31 (.iload_n 1) 1 := by decide +kernel
theorem d51_32 : dk bc12 32 (.invokestatic 304) 3 := by decide +kernel
theorem d51_35 : dk bc12 35 (.invokestatic 150) 3 := by decide +kernel
theorem d51_38 : dk bc12 38 (.aload_n 3) 1 := by decide +kernel
theorem d51_39 : dk bc12 39 (.areturn) 1 := by decide +kernel
theorem pn_51 : plainName "java/util/Arrays" = true := by first | (simp [plainName, overriddenIn]; done) | decide +kernel
theorem ef_51_15 (m : MethodId) (x0 : Addr) (x1 : Int32) (x2 : Addr) : entryFrame m #[(.ref x0), (.int x1), (.ref x2)] 4 = mkF m 0 #[.val (.ref x0), .val (.int x1), .val (.ref x2), .unset] [] := by first | (simp [entryFrame, mkF, argsToLocals, Value.category]; done) | rfl
def Q51_15 (Z : State) (r0 : Addr) (mo : Addr) (kr0 : ClassId) (es : List Value) (h0 : Heap) (n0 : Nat) (v : Option Value) (h : Heap) (L : List Loc) : Prop := ∃ (b : Addr) (k : ClassId), v = some (.ref b) ∧ Fr n0 L ∧ Keep h0 h [] ∧ n0 ≤ b ∧ h0.size ≤ b ∧ Arv Z h b k (.object "java/lang/Object") 15 es .null ∧ Ovr Z k "java/lang/Object" ∧ Exa Z h b "[Ljava/lang/Object;"
set_option maxRecDepth 65536 in
set_option maxHeartbeats 40000000 in
theorem rm51_15 (l : Launch) (Z : State) (a0 : Array Value) (hw : ∀ d ∈ tables_1, d.before a0 Z = true) (ws : List Jvm.Cond) (r0 : Addr) (mo : Addr) (kr0 : ClassId) (es : List Value) (h0 : Heap) (n0 : Nat) (Z0 : n0 ≤ h0.size) (V0 : Arv Z h0 r0 kr0 (.object "java/lang/Object") 10 es .null) (hlen : es.length = 10) (hes : own_hits Z h0 es) (E0 : Exa Z h0 r0 "[Ljava/lang/Object;") (Mo : Mir Z "[Ljava/lang/Object;" mo) :
    MetFree l Y12 (head1 (Jvm.Cond.code Y12 jdk_65_method_120_code 4 (some (.array (.object "java/lang/Object"))) :: ws) (⟨1, 1, 15, 18⟩ : Room)) (fun a U => a = #[(.ref r0), (.int 15), (.ref mo)] ∧ Z.Warmed39 U.vm ∧ U.heap = h0) (fun _ _ _ _ _ => True) (fun _ U o U' => ∃ v L, o = .returned v ∧ Q51_15 Z r0 mo kr0 es h0 n0 v U'.heap L ∧ FrameEnd U o U' L (⟨1, 1, 15, 18⟩ : Room).cells (⟨1, 1, 15, 18⟩ : Room).slots) := by
  refine MetFree.of_bodySF (plainFor_of_name pn_51) hisR ?_
  intro p e s m args below meth c s₁ Bd hml0 hP hK
  obtain ⟨rfl, hZ, hh⟩ := hP
  have hx := Bd.exec
  have hby := Bd.bytes
  have hml : c.maxLocals = 4 := hml0
  have hown : s.vm.findClass "java/util/Arrays" = some m.cls := findClass_of_methodNamed Bd.named
  have hnm := (name_of_methodNamed Bd.named Bd.method).1
  have hlk : meth.locks = false := by first | exact BodyLoose.notSynchronized Bd | exact Body.notSynchronized Bd
  have X0 : Stand p l e (⟨1, 1, 15, 18⟩ : Room) s m #[(.ref r0), (.int 15), (.ref mo)] below meth c s₁ [] 0 0 := Stand.of_body Bd
  have e0 : s₁.heap = h0 := by rw [← hh, Bd.state]; rfl
  have N0 := Fr.nil n0
  have k0 : own_R p e below (s₁.setTop (entryFrame m #[(.ref r0), (.int 15), (.ref mo)] 4)) (s₁.setTop (mkF m 0 #[vR r0, vI 15, vR mo, .unset] [])) := fun t k => castTop (ef_51_15 m r0 (15 : Int32) mo) k
  obtain ⟨A0, hA0⟩ : ∃ z, z = s₁.setTop (entryFrame m #[(.ref r0), (.int 15), (.ref mo)] 4) := ⟨_, rfl⟩
  rw [← hA0] at k0
  have kz : ∀ t, Steps p.tables e below A0 t → Steps p.tables e below (s₁.setTop (entryFrame m #[(.ref r0), (.int 15), (.ref mo)] 4)) t := fun t q => hA0 ▸ q
  have ks1 : own_R p e below (A0) (s₁.setTop (mkF m 1 #[vR r0, vI 15, vR mo, .unset] [(.ref mo)])) := fun t k => k0 t (by
    refine XS.aloadN X0.here hx rfl (hb hby d51_0) rfl rfl ?_
    exact k)
  obtain ⟨T2, X2, e2, st2⟩ := own_ldcM X0 hx hZ hown (own_w hw 328 rfl) e0 Mo (g := (mkF m 1 #[vR r0, vI 15, vR mo, .unset] [(.ref mo)])) rfl (hb hby d51_1)
  have ks3 := own_c ks1 st2
  have ks4 : own_R p e below (A0) (T2.setTop (mkF m 7 #[vR r0, vI 15, vR mo, .unset] [(.int 15)])) := fun t k => ks3 t (by
    refine Jvm.RoadKit.acmp (g := (mkF m 3 #[vR r0, vI 15, vR mo, .unset] [(.ref mo), (.ref mo)])) X2 hx rfl rfl rfl (pc0 := 3) (pc' := 6) (same := true) rfl (hb hby d51_3) rfl (decide_eq_true rfl) (by decide) (by decide) ?_
    refine XS.iloadN X2.here hx rfl (hb hby d51_6) rfl ?_
    exact k)
  obtain ⟨T5, h5, c5, X5, e5, E5, A5, Ex5, O5, st5⟩ := newRE X2 hx hZ hown (own_w hw 329 rfl) (own_w hw 101 rfl) e2 (g := (mkF m 7 #[vR r0, vI 15, vR mo, .unset] [(.int 15)])) rfl (hb hby d51_7) rfl (by decide) (cap := 15) (by decide) (by decide) (by decide) (by decide) (ad := "[Ljava/lang/Object;") (by decide)
  obtain ⟨b5, g5⟩ : ∃ z, z = h0.size := ⟨_, rfl⟩
  rw [← g5] at A5 st5 Ex5
  have ne_r0_b5 := nlg V0.lt g5
  have g_b5 : n0 ≤ b5 := Nat.le_trans Z0 (Nat.le_of_eq g5.symm)
  have sz_b5 : h0.size ≤ b5 := Nat.le_trans (Keep.refl h0 []).1 (Nat.le_of_eq g5.symm)
  have KH5 : Keep h0 h5 [] := (Keep.refl h0 []).ext E5
  have Zn5 : n0 ≤ h5.size := Nat.le_trans Z0 E5.1
  have V5 : Arv Z h5 b5 c5 (.object "java/lang/Object") (15 : Int32) [] .null := (Arv.new A5 (by decide))
  have ks6 := own_c ks4 st5
  have ks7 : own_R p e below (A0) (T5.setTop (mkF m 30 #[vR r0, vI 15, vR mo, vR b5] [(.ref r0), (.int 0), (.ref b5), (.int 0), (.ref r0)])) := fun t k => ks6 t (by
    refine XS.goto X5.here hx rfl (pc0 := 10) (pc' := 24) rfl (hb hby d51_10) (by decide) (by decide) ?_
    refine XS.astoreN X5.here hx rfl (hb hby d51_24) rfl rfl (l' := #[vR r0, vI 15, vR mo, vR b5]) rfl ?_
    refine XS.aloadN X5.here hx rfl (hb hby d51_25) rfl rfl ?_
    show Steps p.tables e below (T5.setTop (mkF m 26 #[vR r0, vI 15, vR mo, vR b5] [(.ref r0)])) _
    refine XS.iconst X5.here hx rfl (hb hby d51_26) ?_
    refine XS.aloadN X5.here hx rfl (hb hby d51_27) rfl rfl ?_
    refine XS.iconst X5.here hx rfl (hb hby d51_28) ?_
    refine XS.aloadN X5.here hx rfl (hb hby d51_29) rfl rfl ?_
    exact k)
  have f8 := V0.keep KH5 nin0
  obtain ⟨cl9, Ar9, qa9, S9, Na9, Ha9, Ga9⟩ := id f8
  have ks10 : own_R p e below (A0) (T5.setTop (mkF m 32 #[vR r0, vI 15, vR mo, vR b5] [(.int 15), (.int 10), (.int 0), (.ref b5), (.int 0), (.ref r0)])) := fun t k => ks7 t (by
    refine X5.arraylength hx (by rw [e5]; exact Ar9.1) (State.isArrayOf_alike hZ.alike Ar9.2.1) (g := (mkF m 30 #[vR r0, vI 15, vR mo, vR b5] [(.ref r0), (.int 0), (.ref b5), (.int 0), (.ref r0)])) rfl rfl (hb hby d51_30) _ ?_
    rw [len_of S9 Na9]
    refine XS.iloadN X5.here hx rfl (hb hby d51_31) rfl ?_
    exact k)
  obtain ⟨_, _, ⟨T11, L11, k11, n11⟩, -, X11, ⟨Lc11, hQ11, lq11, yq11, zq11⟩, st11⟩ := Jvm.LawKit.callS X5 hx (y := Y11) hown (mvT hZ (own_w hw 330 rfl)) (mvT hZ (own_w hw 39 rfl)) (mvT hZ (own_w hw 40 rfl)) (mvT hZ (own_w hw 41 rfl)) (by decide) (backOf (W := 4) (rm7_10_15 l Z a0 hw []  h5 n0 Zn5 ) hZ (own_w hw 41 rfl) (own_w hw 40 rfl) (by decide) (by decide)) (g := (mkF m 32 #[vR r0, vI 15, vR mo, vR b5] [(.int 15), (.int 10), (.int 0), (.ref b5), (.int 0), (.ref r0)])) rfl (by rw [hml]; rfl) (argsL := [(.int 10), (.int 15)]) (rest := [(.int 0), (.ref b5), (.int 0), (.ref r0)]) (lenOf pd_6 rfl) rfl (by show 2 * 0 + _ ≤ _; exact Nat.le_of_eq rfl) (hb hby d51_32) (fun _ _ => ⟨rfl, e5, (by decide : 1 + 0 ≤ _), (by decide : 15 + 0 ≤ _)⟩)
  dsimp only [Pt.U, Pt.locs, Pt.cells, Pt.slots] at X11 lq11 yq11 zq11 st11 hQ11
  obtain rfl : k11 = 1 := yq11
  obtain rfl : n11 = 15 := zq11
  obtain ⟨rfl, Nq11, eq11⟩ := hQ11
  have N11 := Fr.app N0 Nq11
  have N11' : Fr n0 L11 := by rw [lq11]; exact N11
  have ks12 := own_c ks10 st11
  have Bp13 : Arv Z h5 b5 c5 (.object "java/lang/Object") (15 : Int32) (List.replicate 10 .null) .null := V5.pad (pad_rep [] .null 10)
  obtain ⟨T14, h14, L14, X14, e14, N14, Kq14, Vr14, st14⟩ := cpA X11 hx hZ hown (own_w hw 331 rfl) (own_w hw 334 rfl) (own_w hw 332 rfl) (own_w hw 333 rfl) eq11 f8 Bp13 (sp := 0) (dp := 0) (nn := 10) (us := es) (Or.inr ⟨rfl, rfl, own_stol Bp13 O5 (own_w hw 102 rfl) es (own_hits_keep hes KH5)⟩) (by decide) (by decide) (by decide) (by decide) (by decide) (own_rng hlen).symm (by decide) N11' g_b5 (g := (mkF m 35 #[vR r0, vI 15, vR mo, vR b5] [(.int 10), (.int 0), (.ref b5), (.int 0), (.ref r0)])) rfl (by rw [hml]; rfl) (rest := []) rfl (hb hby d51_35) (by decide) (W := 0) (by show 2 * 0 + _ ≤ _; exact Nat.le_of_eq rfl) (by decide)
  have V14 : Arv Z h14 b5 c5 (.object "java/lang/Object") (15 : Int32) es .null := by
    have q : (List.replicate 10 Value.null).take 0 ++ es ++ (List.replicate 10 Value.null).drop (0 + 10) = es := by simp
    rw [← q]; exact Vr14
  have KH14 : Keep h0 h14 [] := KH5.trans Kq14 (allS (Or.inr sz_b5) all0)
  have Zn14 : n0 ≤ h14.size := Nat.le_trans Zn5 Kq14.1
  have ks15 := own_c ks12 st14
  have ks16 : own_R p e below (A0) (T14.setTop (mkF m 39 #[vR r0, vI 15, vR mo, vR b5] [(.ref b5)])) := fun t k => ks15 t (by
    refine XS.aloadN X14.here hx rfl (hb hby d51_38) rfl rfl ?_
    exact k)
  obtain ⟨fs, hr, hrun, hended, hW, hsame⟩ := X14.leave (v := some (.ref b5)) (fun h => by rw [Bd.returns] at h; cases h) hlk
  refine ⟨_, _, kz _ (ks16 _ ?_), hrun, hended, _, _, rfl, ?_, ⟨_, rfl⟩, hW, hsame.mono (by decide) (by decide)⟩
  · exact retOut X14 hx Bd.returns rfl (Or.inr (Or.inr (Or.inr (Or.inr ⟨rfl, rfl, rfl⟩)))) (hb hby d51_39) hr
  · show Q51_15 Z r0 mo kr0 es h0 n0 _ T14.heap _
    rw [e14]
    have f17 := (Ex5.keep Kq14)
    exact ⟨b5, _, rfl, N14, KH14, g_b5, sz_b5, V14, O5, f17⟩
theorem d50_0 : dk bc13 0 (.aload_n 0) 1 := by decide +kernel
theorem d50_1 : dk bc13 1 (.iload_n 1) 1 := by decide +kernel
theorem d50_2 : dk bc13 2 (.aload_n 0) 1 := by decide +kernel
theorem d50_3 : dk bc13 3 (.invokevirtual 86) 3 := by decide +kernel
theorem d50_6 : dk bc13 6 (.invokestatic 300) 3 := by decide +kernel
theorem d50_9 : dk bc13 9 (.areturn) 1 := by decide +kernel
theorem pn_50 : plainName "java/util/Arrays" = true := by first | (simp [plainName, overriddenIn]; done) | decide +kernel
theorem pd_34 : parseMethodDescriptor "([Ljava/lang/Object;ILjava/lang/Class;)[Ljava/lang/Object;" = some ⟨[(.array (.object "java/lang/Object")), .int, (.object "java/lang/Class")], some (.array (.object "java/lang/Object"))⟩ := by decide +kernel
theorem ef_50_15 (m : MethodId) (x0 : Addr) (x1 : Int32) : entryFrame m #[(.ref x0), (.int x1)] 2 = mkF m 0 #[.val (.ref x0), .val (.int x1)] [] := by first | (simp [entryFrame, mkF, argsToLocals, Value.category]; done) | rfl
def Q50_15 (Z : State) (r0 : Addr) (kr0 : ClassId) (es : List Value) (mo : Addr) (h0 : Heap) (n0 : Nat) (v : Option Value) (h : Heap) (L : List Loc) : Prop := ∃ (b : Addr) (k : ClassId), v = some (.ref b) ∧ Fr n0 L ∧ Keep h0 h [] ∧ n0 ≤ b ∧ h0.size ≤ b ∧ Arv Z h b k (.object "java/lang/Object") 15 es .null ∧ Ovr Z k "java/lang/Object" ∧ Exa Z h b "[Ljava/lang/Object;"
set_option maxRecDepth 65536 in
set_option maxHeartbeats 40000000 in
theorem rm50_15 (l : Launch) (Z : State) (a0 : Array Value) (hw : ∀ d ∈ tables_1, d.before a0 Z = true) (ws : List Jvm.Cond) (r0 : Addr) (kr0 : ClassId) (es : List Value) (mo : Addr) (h0 : Heap) (n0 : Nat) (Z0 : n0 ≤ h0.size) (V0 : Arv Z h0 r0 kr0 (.object "java/lang/Object") 10 es .null) (hlen : es.length = 10) (hes : own_hits Z h0 es) (E0 : Exa Z h0 r0 "[Ljava/lang/Object;") (Mo : Mir Z "[Ljava/lang/Object;" mo) :
    MetFree l Y13 (head1 (Jvm.Cond.code Y13 jdk_65_method_119_code 2 (some (.array (.object "java/lang/Object"))) :: ws) (⟨2, 1, 15, 33⟩ : Room)) (fun a U => a = #[(.ref r0), (.int 15)] ∧ Z.Warmed39 U.vm ∧ U.heap = h0) (fun _ _ _ _ _ => True) (fun _ U o U' => ∃ v L, o = .returned v ∧ Q50_15 Z r0 kr0 es mo h0 n0 v U'.heap L ∧ FrameEnd U o U' L (⟨2, 1, 15, 33⟩ : Room).cells (⟨2, 1, 15, 33⟩ : Room).slots) := by
  refine MetFree.of_bodySF (plainFor_of_name pn_50) hisR ?_
  intro p e s m args below meth c s₁ Bd hml0 hP hK
  obtain ⟨rfl, hZ, hh⟩ := hP
  have hx := Bd.exec
  have hby := Bd.bytes
  have hml : c.maxLocals = 2 := hml0
  have hown : s.vm.findClass "java/util/Arrays" = some m.cls := findClass_of_methodNamed Bd.named
  have hnm := (name_of_methodNamed Bd.named Bd.method).1
  have hlk : meth.locks = false := by first | exact BodyLoose.notSynchronized Bd | exact Body.notSynchronized Bd
  have X0 : Stand p l e (⟨2, 1, 15, 33⟩ : Room) s m #[(.ref r0), (.int 15)] below meth c s₁ [] 0 0 := Stand.of_body Bd
  have e0 : s₁.heap = h0 := by rw [← hh, Bd.state]; rfl
  have N0 := Fr.nil n0
  have k0 : own_R p e below (s₁.setTop (entryFrame m #[(.ref r0), (.int 15)] 2)) (s₁.setTop (mkF m 0 #[vR r0, vI 15] [])) := fun t k => castTop (ef_50_15 m r0 (15 : Int32)) k
  obtain ⟨A0, hA0⟩ : ∃ z, z = s₁.setTop (entryFrame m #[(.ref r0), (.int 15)] 2) := ⟨_, rfl⟩
  rw [← hA0] at k0
  have kz : ∀ t, Steps p.tables e below A0 t → Steps p.tables e below (s₁.setTop (entryFrame m #[(.ref r0), (.int 15)] 2)) t := fun t q => hA0 ▸ q
  have ks1 : own_R p e below (A0) (s₁.setTop (mkF m 3 #[vR r0, vI 15] [(.ref r0), (.int 15), (.ref r0)])) := fun t k => k0 t (by
    refine XS.aloadN X0.here hx rfl (hb hby d50_0) rfl rfl ?_
    refine XS.iloadN X0.here hx rfl (hb hby d50_1) rfl ?_
    refine XS.aloadN X0.here hx rfl (hb hby d50_2) rfl rfl ?_
    exact k)
  obtain ⟨T2, X2, e2, st2⟩ := own_gcls X0 hx hZ hown (own_w hw 319 rfl) (own_w hw 320 rfl) (own_w hw 322 rfl) (own_w hw 321 rfl) (own_w hw 323 rfl) e0 E0 Mo (g := (mkF m 3 #[vR r0, vI 15] [(.ref r0), (.int 15), (.ref r0)])) rfl (by rw [hml]; rfl) rfl (hb hby d50_3) (by decide) (W := 2) (by show 2 * 0 + _ ≤ _; exact Nat.le_of_eq rfl) (by decide)
  have ks3 := own_c ks1 st2
  obtain ⟨_, _, ⟨T4, L4, k4, n4⟩, -, X4, ⟨Lc4, hQ4, lq4, yq4, zq4⟩, st4⟩ := Jvm.LawKit.callS X2 hx (y := Y12) hown (mvT hZ (own_w hw 325 rfl)) (mvT hZ (own_w hw 326 rfl)) (mvT hZ (own_w hw 317 rfl)) (mvT hZ (own_w hw 327 rfl)) (by decide) (backOf (W := 0) (rm51_15 l Z a0 hw [] r0 mo _ es h0 n0 Z0 V0 hlen (own_hits_keep hes (Keep.refl h0 [])) E0 Mo) hZ (own_w hw 327 rfl) (own_w hw 317 rfl) (by decide) (by decide)) (g := (mkF m 6 #[vR r0, vI 15] [(.ref mo), (.int 15), (.ref r0)])) rfl (by rw [hml]; rfl) (argsL := [(.ref r0), (.int 15), (.ref mo)]) (rest := []) (lenOf pd_34 rfl) rfl (by show 2 * 0 + _ ≤ _; exact Nat.le_of_eq rfl) (hb hby d50_6) (fun _ _ => ⟨rfl, e2, (by decide : 0 + 1 ≤ _), (by decide : 0 + 15 ≤ _)⟩)
  dsimp only [Pt.U, Pt.locs, Pt.cells, Pt.slots] at X4 lq4 yq4 zq4 st4 hQ4
  obtain rfl : k4 = 1 := yq4
  obtain rfl : n4 = 15 := zq4
  obtain ⟨bq4, kq4, rfl, Nq4, Kq4, g_bq4, szq4, Vq4, Oq4, Eq4⟩ := hQ4
  have N4 := Fr.app N0 Nq4
  have KH4 : Keep h0 T4.heap [] := (Keep.refl h0 []).trans Kq4 all0
  have Zn4 : n0 ≤ T4.heap.size := Nat.le_trans Z0 Kq4.1
  have ne_r0_bq4 := nls V0.lt szq4
  have sz_bq4 : h0.size ≤ bq4 := Nat.le_trans (Keep.refl h0 []).1 szq4
  have N4' : Fr n0 L4 := by rw [lq4]; exact N4
  have ks5 := own_c ks3 st4
  obtain ⟨fs, hr, hrun, hended, hW, hsame⟩ := X4.leave (v := some (.ref bq4)) (fun h => by rw [Bd.returns] at h; cases h) hlk
  refine ⟨_, _, kz _ (ks5 _ ?_), hrun, hended, _, _, rfl, ?_, ⟨_, rfl⟩, hW, hsame.mono (by decide) (by decide)⟩
  · exact retOut X4 hx Bd.returns rfl (Or.inr (Or.inr (Or.inr (Or.inr ⟨rfl, rfl, rfl⟩)))) (hb hby d50_9) hr
  · show Q50_15 Z r0 kr0 es mo h0 n0 _ T4.heap _
    exact ⟨bq4, _, rfl, N4', KH4, g_bq4, sz_bq4, Vq4, Oq4, Eq4⟩
theorem ef_51_22 (m : MethodId) (x0 : Addr) (x1 : Int32) (x2 : Addr) : entryFrame m #[(.ref x0), (.int x1), (.ref x2)] 4 = mkF m 0 #[.val (.ref x0), .val (.int x1), .val (.ref x2), .unset] [] := by first | (simp [entryFrame, mkF, argsToLocals, Value.category]; done) | rfl
def Q51_22 (Z : State) (r0 : Addr) (mo : Addr) (kr0 : ClassId) (es : List Value) (h0 : Heap) (n0 : Nat) (v : Option Value) (h : Heap) (L : List Loc) : Prop := ∃ (b : Addr) (k : ClassId), v = some (.ref b) ∧ Fr n0 L ∧ Keep h0 h [] ∧ n0 ≤ b ∧ h0.size ≤ b ∧ Arv Z h b k (.object "java/lang/Object") 22 es .null ∧ Ovr Z k "java/lang/Object" ∧ Exa Z h b "[Ljava/lang/Object;"
set_option maxRecDepth 65536 in
set_option maxHeartbeats 40000000 in
theorem rm51_22 (l : Launch) (Z : State) (a0 : Array Value) (hw : ∀ d ∈ tables_1, d.before a0 Z = true) (ws : List Jvm.Cond) (r0 : Addr) (mo : Addr) (kr0 : ClassId) (es : List Value) (h0 : Heap) (n0 : Nat) (Z0 : n0 ≤ h0.size) (V0 : Arv Z h0 r0 kr0 (.object "java/lang/Object") 15 es .null) (hlen : es.length = 15) (hes : own_hits Z h0 es) (E0 : Exa Z h0 r0 "[Ljava/lang/Object;") (Mo : Mir Z "[Ljava/lang/Object;" mo) :
    MetFree l Y12 (head1 (Jvm.Cond.code Y12 jdk_65_method_120_code 4 (some (.array (.object "java/lang/Object"))) :: ws) (⟨1, 1, 22, 18⟩ : Room)) (fun a U => a = #[(.ref r0), (.int 22), (.ref mo)] ∧ Z.Warmed39 U.vm ∧ U.heap = h0) (fun _ _ _ _ _ => True) (fun _ U o U' => ∃ v L, o = .returned v ∧ Q51_22 Z r0 mo kr0 es h0 n0 v U'.heap L ∧ FrameEnd U o U' L (⟨1, 1, 22, 18⟩ : Room).cells (⟨1, 1, 22, 18⟩ : Room).slots) := by
  refine MetFree.of_bodySF (plainFor_of_name pn_51) hisR ?_
  intro p e s m args below meth c s₁ Bd hml0 hP hK
  obtain ⟨rfl, hZ, hh⟩ := hP
  have hx := Bd.exec
  have hby := Bd.bytes
  have hml : c.maxLocals = 4 := hml0
  have hown : s.vm.findClass "java/util/Arrays" = some m.cls := findClass_of_methodNamed Bd.named
  have hnm := (name_of_methodNamed Bd.named Bd.method).1
  have hlk : meth.locks = false := by first | exact BodyLoose.notSynchronized Bd | exact Body.notSynchronized Bd
  have X0 : Stand p l e (⟨1, 1, 22, 18⟩ : Room) s m #[(.ref r0), (.int 22), (.ref mo)] below meth c s₁ [] 0 0 := Stand.of_body Bd
  have e0 : s₁.heap = h0 := by rw [← hh, Bd.state]; rfl
  have N0 := Fr.nil n0
  have k0 : own_R p e below (s₁.setTop (entryFrame m #[(.ref r0), (.int 22), (.ref mo)] 4)) (s₁.setTop (mkF m 0 #[vR r0, vI 22, vR mo, .unset] [])) := fun t k => castTop (ef_51_22 m r0 (22 : Int32) mo) k
  obtain ⟨A0, hA0⟩ : ∃ z, z = s₁.setTop (entryFrame m #[(.ref r0), (.int 22), (.ref mo)] 4) := ⟨_, rfl⟩
  rw [← hA0] at k0
  have kz : ∀ t, Steps p.tables e below A0 t → Steps p.tables e below (s₁.setTop (entryFrame m #[(.ref r0), (.int 22), (.ref mo)] 4)) t := fun t q => hA0 ▸ q
  have ks1 : own_R p e below (A0) (s₁.setTop (mkF m 1 #[vR r0, vI 22, vR mo, .unset] [(.ref mo)])) := fun t k => k0 t (by
    refine XS.aloadN X0.here hx rfl (hb hby d51_0) rfl rfl ?_
    exact k)
  obtain ⟨T2, X2, e2, st2⟩ := own_ldcM X0 hx hZ hown (own_w hw 328 rfl) e0 Mo (g := (mkF m 1 #[vR r0, vI 22, vR mo, .unset] [(.ref mo)])) rfl (hb hby d51_1)
  have ks3 := own_c ks1 st2
  have ks4 : own_R p e below (A0) (T2.setTop (mkF m 7 #[vR r0, vI 22, vR mo, .unset] [(.int 22)])) := fun t k => ks3 t (by
    refine Jvm.RoadKit.acmp (g := (mkF m 3 #[vR r0, vI 22, vR mo, .unset] [(.ref mo), (.ref mo)])) X2 hx rfl rfl rfl (pc0 := 3) (pc' := 6) (same := true) rfl (hb hby d51_3) rfl (decide_eq_true rfl) (by decide) (by decide) ?_
    refine XS.iloadN X2.here hx rfl (hb hby d51_6) rfl ?_
    exact k)
  obtain ⟨T5, h5, c5, X5, e5, E5, A5, Ex5, O5, st5⟩ := newRE X2 hx hZ hown (own_w hw 329 rfl) (own_w hw 101 rfl) e2 (g := (mkF m 7 #[vR r0, vI 22, vR mo, .unset] [(.int 22)])) rfl (hb hby d51_7) rfl (by decide) (cap := 22) (by decide) (by decide) (by decide) (by decide) (ad := "[Ljava/lang/Object;") (by decide)
  obtain ⟨b5, g5⟩ : ∃ z, z = h0.size := ⟨_, rfl⟩
  rw [← g5] at A5 st5 Ex5
  have ne_r0_b5 := nlg V0.lt g5
  have g_b5 : n0 ≤ b5 := Nat.le_trans Z0 (Nat.le_of_eq g5.symm)
  have sz_b5 : h0.size ≤ b5 := Nat.le_trans (Keep.refl h0 []).1 (Nat.le_of_eq g5.symm)
  have KH5 : Keep h0 h5 [] := (Keep.refl h0 []).ext E5
  have Zn5 : n0 ≤ h5.size := Nat.le_trans Z0 E5.1
  have V5 : Arv Z h5 b5 c5 (.object "java/lang/Object") (22 : Int32) [] .null := (Arv.new A5 (by decide))
  have ks6 := own_c ks4 st5
  have ks7 : own_R p e below (A0) (T5.setTop (mkF m 30 #[vR r0, vI 22, vR mo, vR b5] [(.ref r0), (.int 0), (.ref b5), (.int 0), (.ref r0)])) := fun t k => ks6 t (by
    refine XS.goto X5.here hx rfl (pc0 := 10) (pc' := 24) rfl (hb hby d51_10) (by decide) (by decide) ?_
    refine XS.astoreN X5.here hx rfl (hb hby d51_24) rfl rfl (l' := #[vR r0, vI 22, vR mo, vR b5]) rfl ?_
    refine XS.aloadN X5.here hx rfl (hb hby d51_25) rfl rfl ?_
    show Steps p.tables e below (T5.setTop (mkF m 26 #[vR r0, vI 22, vR mo, vR b5] [(.ref r0)])) _
    refine XS.iconst X5.here hx rfl (hb hby d51_26) ?_
    refine XS.aloadN X5.here hx rfl (hb hby d51_27) rfl rfl ?_
    refine XS.iconst X5.here hx rfl (hb hby d51_28) ?_
    refine XS.aloadN X5.here hx rfl (hb hby d51_29) rfl rfl ?_
    exact k)
  have f8 := V0.keep KH5 nin0
  obtain ⟨cl9, Ar9, qa9, S9, Na9, Ha9, Ga9⟩ := id f8
  have ks10 : own_R p e below (A0) (T5.setTop (mkF m 32 #[vR r0, vI 22, vR mo, vR b5] [(.int 22), (.int 15), (.int 0), (.ref b5), (.int 0), (.ref r0)])) := fun t k => ks7 t (by
    refine X5.arraylength hx (by rw [e5]; exact Ar9.1) (State.isArrayOf_alike hZ.alike Ar9.2.1) (g := (mkF m 30 #[vR r0, vI 22, vR mo, vR b5] [(.ref r0), (.int 0), (.ref b5), (.int 0), (.ref r0)])) rfl rfl (hb hby d51_30) _ ?_
    rw [len_of S9 Na9]
    refine XS.iloadN X5.here hx rfl (hb hby d51_31) rfl ?_
    exact k)
  obtain ⟨_, _, ⟨T11, L11, k11, n11⟩, -, X11, ⟨Lc11, hQ11, lq11, yq11, zq11⟩, st11⟩ := Jvm.LawKit.callS X5 hx (y := Y11) hown (mvT hZ (own_w hw 330 rfl)) (mvT hZ (own_w hw 39 rfl)) (mvT hZ (own_w hw 40 rfl)) (mvT hZ (own_w hw 41 rfl)) (by decide) (backOf (W := 4) (rm7_15_22 l Z a0 hw []  h5 n0 Zn5 ) hZ (own_w hw 41 rfl) (own_w hw 40 rfl) (by decide) (by decide)) (g := (mkF m 32 #[vR r0, vI 22, vR mo, vR b5] [(.int 22), (.int 15), (.int 0), (.ref b5), (.int 0), (.ref r0)])) rfl (by rw [hml]; rfl) (argsL := [(.int 15), (.int 22)]) (rest := [(.int 0), (.ref b5), (.int 0), (.ref r0)]) (lenOf pd_6 rfl) rfl (by show 2 * 0 + _ ≤ _; exact Nat.le_of_eq rfl) (hb hby d51_32) (fun _ _ => ⟨rfl, e5, (by decide : 1 + 0 ≤ _), (by decide : 22 + 0 ≤ _)⟩)
  dsimp only [Pt.U, Pt.locs, Pt.cells, Pt.slots] at X11 lq11 yq11 zq11 st11 hQ11
  obtain rfl : k11 = 1 := yq11
  obtain rfl : n11 = 22 := zq11
  obtain ⟨rfl, Nq11, eq11⟩ := hQ11
  have N11 := Fr.app N0 Nq11
  have N11' : Fr n0 L11 := by rw [lq11]; exact N11
  have ks12 := own_c ks10 st11
  have Bp13 : Arv Z h5 b5 c5 (.object "java/lang/Object") (22 : Int32) (List.replicate 15 .null) .null := V5.pad (pad_rep [] .null 15)
  obtain ⟨T14, h14, L14, X14, e14, N14, Kq14, Vr14, st14⟩ := cpA X11 hx hZ hown (own_w hw 331 rfl) (own_w hw 334 rfl) (own_w hw 332 rfl) (own_w hw 333 rfl) eq11 f8 Bp13 (sp := 0) (dp := 0) (nn := 15) (us := es) (Or.inr ⟨rfl, rfl, own_stol Bp13 O5 (own_w hw 102 rfl) es (own_hits_keep hes KH5)⟩) (by decide) (by decide) (by decide) (by decide) (by decide) (own_rng hlen).symm (by decide) N11' g_b5 (g := (mkF m 35 #[vR r0, vI 22, vR mo, vR b5] [(.int 15), (.int 0), (.ref b5), (.int 0), (.ref r0)])) rfl (by rw [hml]; rfl) (rest := []) rfl (hb hby d51_35) (by decide) (W := 0) (by show 2 * 0 + _ ≤ _; exact Nat.le_of_eq rfl) (by decide)
  have V14 : Arv Z h14 b5 c5 (.object "java/lang/Object") (22 : Int32) es .null := by
    have q : (List.replicate 15 Value.null).take 0 ++ es ++ (List.replicate 15 Value.null).drop (0 + 15) = es := by simp
    rw [← q]; exact Vr14
  have KH14 : Keep h0 h14 [] := KH5.trans Kq14 (allS (Or.inr sz_b5) all0)
  have Zn14 : n0 ≤ h14.size := Nat.le_trans Zn5 Kq14.1
  have ks15 := own_c ks12 st14
  have ks16 : own_R p e below (A0) (T14.setTop (mkF m 39 #[vR r0, vI 22, vR mo, vR b5] [(.ref b5)])) := fun t k => ks15 t (by
    refine XS.aloadN X14.here hx rfl (hb hby d51_38) rfl rfl ?_
    exact k)
  obtain ⟨fs, hr, hrun, hended, hW, hsame⟩ := X14.leave (v := some (.ref b5)) (fun h => by rw [Bd.returns] at h; cases h) hlk
  refine ⟨_, _, kz _ (ks16 _ ?_), hrun, hended, _, _, rfl, ?_, ⟨_, rfl⟩, hW, hsame.mono (by decide) (by decide)⟩
  · exact retOut X14 hx Bd.returns rfl (Or.inr (Or.inr (Or.inr (Or.inr ⟨rfl, rfl, rfl⟩)))) (hb hby d51_39) hr
  · show Q51_22 Z r0 mo kr0 es h0 n0 _ T14.heap _
    rw [e14]
    have f17 := (Ex5.keep Kq14)
    exact ⟨b5, _, rfl, N14, KH14, g_b5, sz_b5, V14, O5, f17⟩
theorem ef_50_22 (m : MethodId) (x0 : Addr) (x1 : Int32) : entryFrame m #[(.ref x0), (.int x1)] 2 = mkF m 0 #[.val (.ref x0), .val (.int x1)] [] := by first | (simp [entryFrame, mkF, argsToLocals, Value.category]; done) | rfl
def Q50_22 (Z : State) (r0 : Addr) (kr0 : ClassId) (es : List Value) (mo : Addr) (h0 : Heap) (n0 : Nat) (v : Option Value) (h : Heap) (L : List Loc) : Prop := ∃ (b : Addr) (k : ClassId), v = some (.ref b) ∧ Fr n0 L ∧ Keep h0 h [] ∧ n0 ≤ b ∧ h0.size ≤ b ∧ Arv Z h b k (.object "java/lang/Object") 22 es .null ∧ Ovr Z k "java/lang/Object" ∧ Exa Z h b "[Ljava/lang/Object;"
set_option maxRecDepth 65536 in
set_option maxHeartbeats 40000000 in
theorem rm50_22 (l : Launch) (Z : State) (a0 : Array Value) (hw : ∀ d ∈ tables_1, d.before a0 Z = true) (ws : List Jvm.Cond) (r0 : Addr) (kr0 : ClassId) (es : List Value) (mo : Addr) (h0 : Heap) (n0 : Nat) (Z0 : n0 ≤ h0.size) (V0 : Arv Z h0 r0 kr0 (.object "java/lang/Object") 15 es .null) (hlen : es.length = 15) (hes : own_hits Z h0 es) (E0 : Exa Z h0 r0 "[Ljava/lang/Object;") (Mo : Mir Z "[Ljava/lang/Object;" mo) :
    MetFree l Y13 (head1 (Jvm.Cond.code Y13 jdk_65_method_119_code 2 (some (.array (.object "java/lang/Object"))) :: ws) (⟨2, 1, 22, 33⟩ : Room)) (fun a U => a = #[(.ref r0), (.int 22)] ∧ Z.Warmed39 U.vm ∧ U.heap = h0) (fun _ _ _ _ _ => True) (fun _ U o U' => ∃ v L, o = .returned v ∧ Q50_22 Z r0 kr0 es mo h0 n0 v U'.heap L ∧ FrameEnd U o U' L (⟨2, 1, 22, 33⟩ : Room).cells (⟨2, 1, 22, 33⟩ : Room).slots) := by
  refine MetFree.of_bodySF (plainFor_of_name pn_50) hisR ?_
  intro p e s m args below meth c s₁ Bd hml0 hP hK
  obtain ⟨rfl, hZ, hh⟩ := hP
  have hx := Bd.exec
  have hby := Bd.bytes
  have hml : c.maxLocals = 2 := hml0
  have hown : s.vm.findClass "java/util/Arrays" = some m.cls := findClass_of_methodNamed Bd.named
  have hnm := (name_of_methodNamed Bd.named Bd.method).1
  have hlk : meth.locks = false := by first | exact BodyLoose.notSynchronized Bd | exact Body.notSynchronized Bd
  have X0 : Stand p l e (⟨2, 1, 22, 33⟩ : Room) s m #[(.ref r0), (.int 22)] below meth c s₁ [] 0 0 := Stand.of_body Bd
  have e0 : s₁.heap = h0 := by rw [← hh, Bd.state]; rfl
  have N0 := Fr.nil n0
  have k0 : own_R p e below (s₁.setTop (entryFrame m #[(.ref r0), (.int 22)] 2)) (s₁.setTop (mkF m 0 #[vR r0, vI 22] [])) := fun t k => castTop (ef_50_22 m r0 (22 : Int32)) k
  obtain ⟨A0, hA0⟩ : ∃ z, z = s₁.setTop (entryFrame m #[(.ref r0), (.int 22)] 2) := ⟨_, rfl⟩
  rw [← hA0] at k0
  have kz : ∀ t, Steps p.tables e below A0 t → Steps p.tables e below (s₁.setTop (entryFrame m #[(.ref r0), (.int 22)] 2)) t := fun t q => hA0 ▸ q
  have ks1 : own_R p e below (A0) (s₁.setTop (mkF m 3 #[vR r0, vI 22] [(.ref r0), (.int 22), (.ref r0)])) := fun t k => k0 t (by
    refine XS.aloadN X0.here hx rfl (hb hby d50_0) rfl rfl ?_
    refine XS.iloadN X0.here hx rfl (hb hby d50_1) rfl ?_
    refine XS.aloadN X0.here hx rfl (hb hby d50_2) rfl rfl ?_
    exact k)
  obtain ⟨T2, X2, e2, st2⟩ := own_gcls X0 hx hZ hown (own_w hw 319 rfl) (own_w hw 320 rfl) (own_w hw 322 rfl) (own_w hw 321 rfl) (own_w hw 323 rfl) e0 E0 Mo (g := (mkF m 3 #[vR r0, vI 22] [(.ref r0), (.int 22), (.ref r0)])) rfl (by rw [hml]; rfl) rfl (hb hby d50_3) (by decide) (W := 2) (by show 2 * 0 + _ ≤ _; exact Nat.le_of_eq rfl) (by decide)
  have ks3 := own_c ks1 st2
  obtain ⟨_, _, ⟨T4, L4, k4, n4⟩, -, X4, ⟨Lc4, hQ4, lq4, yq4, zq4⟩, st4⟩ := Jvm.LawKit.callS X2 hx (y := Y12) hown (mvT hZ (own_w hw 325 rfl)) (mvT hZ (own_w hw 326 rfl)) (mvT hZ (own_w hw 317 rfl)) (mvT hZ (own_w hw 327 rfl)) (by decide) (backOf (W := 0) (rm51_22 l Z a0 hw [] r0 mo _ es h0 n0 Z0 V0 hlen (own_hits_keep hes (Keep.refl h0 [])) E0 Mo) hZ (own_w hw 327 rfl) (own_w hw 317 rfl) (by decide) (by decide)) (g := (mkF m 6 #[vR r0, vI 22] [(.ref mo), (.int 22), (.ref r0)])) rfl (by rw [hml]; rfl) (argsL := [(.ref r0), (.int 22), (.ref mo)]) (rest := []) (lenOf pd_34 rfl) rfl (by show 2 * 0 + _ ≤ _; exact Nat.le_of_eq rfl) (hb hby d50_6) (fun _ _ => ⟨rfl, e2, (by decide : 0 + 1 ≤ _), (by decide : 0 + 22 ≤ _)⟩)
  dsimp only [Pt.U, Pt.locs, Pt.cells, Pt.slots] at X4 lq4 yq4 zq4 st4 hQ4
  obtain rfl : k4 = 1 := yq4
  obtain rfl : n4 = 22 := zq4
  obtain ⟨bq4, kq4, rfl, Nq4, Kq4, g_bq4, szq4, Vq4, Oq4, Eq4⟩ := hQ4
  have N4 := Fr.app N0 Nq4
  have KH4 : Keep h0 T4.heap [] := (Keep.refl h0 []).trans Kq4 all0
  have Zn4 : n0 ≤ T4.heap.size := Nat.le_trans Z0 Kq4.1
  have ne_r0_bq4 := nls V0.lt szq4
  have sz_bq4 : h0.size ≤ bq4 := Nat.le_trans (Keep.refl h0 []).1 szq4
  have N4' : Fr n0 L4 := by rw [lq4]; exact N4
  have ks5 := own_c ks3 st4
  obtain ⟨fs, hr, hrun, hended, hW, hsame⟩ := X4.leave (v := some (.ref bq4)) (fun h => by rw [Bd.returns] at h; cases h) hlk
  refine ⟨_, _, kz _ (ks5 _ ?_), hrun, hended, _, _, rfl, ?_, ⟨_, rfl⟩, hW, hsame.mono (by decide) (by decide)⟩
  · exact retOut X4 hx Bd.returns rfl (Or.inr (Or.inr (Or.inr (Or.inr ⟨rfl, rfl, rfl⟩)))) (hb hby d50_9) hr
  · show Q50_22 Z r0 kr0 es mo h0 n0 _ T4.heap _
    exact ⟨bq4, _, rfl, N4', KH4, g_bq4, sz_bq4, Vq4, Oq4, Eq4⟩
theorem d16_0 : dk bc14 0 (.aload_n 0) 1 := by decide +kernel
theorem d16_1 : dk bc14 1 (.getfield 9) 3 := by decide +kernel
theorem d16_4 : dk bc14 4 (.arraylength) 1 := by decide +kernel
theorem d16_5 : dk bc14 5 (.istore_n 2) 1 := by decide +kernel
theorem d16_6 : dk bc14 6 (.iload_n 2) 1 := by decide +kernel
theorem d16_7 : dk bc14 7 (.ifCond .gt 13) 3 := by decide +kernel
theorem d16_10 : dk bc14 10 (.aload_n 0) 1 := by decide +kernel
theorem d16_11 : dk bc14 11 (.getfield 9) 3 := by decide +kernel
theorem d16_14 : dk bc14 14 (.getstatic 39) 3 := by decide +kernel
theorem d16_17 : dk bc14 17 (.if_acmp .eq 28) 3 := by decide +kernel
theorem d16_45 : dk bc14 45 (.aload_n 0) 1 := by decide +kernel
theorem d16_46 : dk bc14 46 (.bipush 10) 2 := by decide +kernel
theorem d16_48 : dk bc14 48 (.iload_n 1) 1 := by decide +kernel
theorem d16_49 : dk bc14 49 (.invokestatic 79) 3 := by decide +kernel
theorem d16_52 : dk bc14 52 (.anewarray 7) 3 := by decide +kernel
theorem d16_55 : dk bc14 55 (.dup_x1) 1 := by decide +kernel
theorem d16_56 : dk bc14 56 (.putfield 9) 3 := by decide +kernel
theorem d16_59 : dk bc14 59 (.areturn) 1 := by decide +kernel
theorem pn_16 : plainName "java/util/ArrayList" = true := by first | (simp [plainName, overriddenIn]; done) | decide +kernel
theorem ef_16_z (m : MethodId) (x0 : Addr) (x1 : Int32) : entryFrame m #[(.ref x0), (.int x1)] 4 = mkF m 0 #[.val (.ref x0), .val (.int x1), .unset, .unset] [] := by first | (simp [entryFrame, mkF, argsToLocals, Value.category]; done) | rfl
def Q16_z (Z : State) (r0 : Addr) (u : Addr) (ku : ClassId) (mc : Int32) (h0 : Heap) (n0 : Nat) (v : Option Value) (h : Heap) (L : List Loc) : Prop := ∃ (b : Addr) (k : ClassId), v = some (.ref b) ∧ Fr n0 L ∧ Keep h0 h [r0] ∧ n0 ≤ b ∧ h0.size ≤ b ∧ Fld Z h r0 "java/util/ArrayList" "elementData" "[Ljava/lang/Object;" (.ref b) ∧ Fld Z h r0 "java/util/ArrayList" "size" "I" (.int 0) ∧ Fld Z h r0 "java/util/AbstractList" "modCount" "I" (.int mc) ∧ Arv Z h b k (.object "java/lang/Object") 10 [] .null ∧ Ovr Z k "java/lang/Object" ∧ Exa Z h b "[Ljava/lang/Object;"
set_option maxRecDepth 65536 in
set_option maxHeartbeats 40000000 in
theorem rm16_z (l : Launch) (Z : State) (a0 : Array Value) (hw : ∀ d ∈ tables_1, d.before a0 Z = true) (ws : List Jvm.Cond) (r0 : Addr) (u : Addr) (ku : ClassId) (mc : Int32) (h0 : Heap) (n0 : Nat) (Z0 : n0 ≤ h0.size) (E0 : Exa Z h0 r0 "java/util/ArrayList") (Fe : Fld Z h0 r0 "java/util/ArrayList" "elementData" "[Ljava/lang/Object;" (.ref u)) (Fz : Fld Z h0 r0 "java/util/ArrayList" "size" "I" (.int 0)) (Fm : Fld Z h0 r0 "java/util/AbstractList" "modCount" "I" (.int mc)) (Sd : Sta Z h0 "java/util/ArrayList" "DEFAULTCAPACITY_EMPTY_ELEMENTDATA" "[Ljava/lang/Object;" (.ref u)) (Vu : Arv Z h0 u ku (.object "java/lang/Object") 0 [] .null) (g_r0 : n0 ≤ r0) (n0u : r0 ≠ u) :
    MetFree l Y14 (head1 (Jvm.Cond.code Y14 jdk_38_method_6_code 4 (some (.array (.object "java/lang/Object"))) :: ws) (⟨1, 1, 10, 14⟩ : Room)) (fun a U => a = #[(.ref r0), (.int 1)] ∧ Z.Warmed39 U.vm ∧ U.heap = h0) (fun _ _ _ _ _ => True) (fun _ U o U' => ∃ v L, o = .returned v ∧ Q16_z Z r0 u ku mc h0 n0 v U'.heap L ∧ FrameEnd U o U' L (⟨1, 1, 10, 14⟩ : Room).cells (⟨1, 1, 10, 14⟩ : Room).slots) := by
  refine MetFree.of_bodySF (plainFor_of_name pn_16) hisR ?_
  intro p e s m args below meth c s₁ Bd hml0 hP hK
  obtain ⟨rfl, hZ, hh⟩ := hP
  have hx := Bd.exec
  have hby := Bd.bytes
  have hml : c.maxLocals = 4 := hml0
  have hown : s.vm.findClass "java/util/ArrayList" = some m.cls := findClass_of_methodNamed Bd.named
  have hnm := (name_of_methodNamed Bd.named Bd.method).1
  have hlk : meth.locks = false := by first | exact BodyLoose.notSynchronized Bd | exact Body.notSynchronized Bd
  have X0 : Stand p l e (⟨1, 1, 10, 14⟩ : Room) s m #[(.ref r0), (.int 1)] below meth c s₁ [] 0 0 := Stand.of_body Bd
  have e0 : s₁.heap = h0 := by rw [← hh, Bd.state]; rfl
  have N0 := Fr.nil n0
  have k0 : own_R p e below (s₁.setTop (entryFrame m #[(.ref r0), (.int 1)] 4)) (s₁.setTop (mkF m 0 #[vR r0, vI 1, .unset, .unset] [])) := fun t k => castTop (ef_16_z m r0 (1 : Int32)) k
  obtain ⟨A0, hA0⟩ : ∃ z, z = s₁.setTop (entryFrame m #[(.ref r0), (.int 1)] 4) := ⟨_, rfl⟩
  rw [← hA0] at k0
  have kz : ∀ t, Steps p.tables e below A0 t → Steps p.tables e below (s₁.setTop (entryFrame m #[(.ref r0), (.int 1)] 4)) t := fun t q => hA0 ▸ q
  have ks1 : own_R p e below (A0) (s₁.setTop (mkF m 1 #[vR r0, vI 1, .unset, .unset] [(.ref r0)])) := fun t k => k0 t (by
    refine XS.aloadN X0.here hx rfl (hb hby d16_0) rfl rfl ?_
    exact k)
  obtain ⟨T2, X2, e2, st2⟩ := getF X0 hx hZ hown (host := "") (Or.inl (own_w hw 68 rfl)) Via.refl e0 Fe (g := (mkF m 1 #[vR r0, vI 1, .unset, .unset] [(.ref r0)])) rfl rfl (hb hby d16_1)
  have ks3 := own_c ks1 st2
  obtain ⟨cl4, Ar4, qa4, S4, Na4, Ha4, Ga4⟩ := id Vu
  have ks5 : own_R p e below (A0) (T2.setTop (mkF m 11 #[vR r0, vI 1, vI 0, .unset] [(.ref r0)])) := fun t k => ks3 t (by
    refine X2.arraylength hx (by rw [e2]; exact Ar4.1) (State.isArrayOf_alike hZ.alike Ar4.2.1) (g := (mkF m 4 #[vR r0, vI 1, .unset, .unset] [(.ref u)])) rfl rfl (hb hby d16_4) _ ?_
    rw [len_of S4 Na4]
    refine XS.istoreN X2.here hx rfl (hb hby d16_5) rfl (l' := #[vR r0, vI 1, vI 0, .unset]) rfl ?_
    refine XS.iloadN X2.here hx rfl (hb hby d16_6) rfl ?_
    show Steps p.tables e below (T2.setTop (mkF m 7 #[vR r0, vI 1, vI 0, .unset] [(.int 0)])) _
    refine XS.ifNo X2.here hx rfl (hb hby d16_7) rfl ((if0 _ _).trans (flt (by decide)).2.2.1) ?_
    refine XS.aloadN X2.here hx rfl (hb hby d16_10) rfl rfl ?_
    exact k)
  obtain ⟨T6, X6, e6, st6⟩ := getF X2 hx hZ hown (host := "") (Or.inl (own_w hw 68 rfl)) Via.refl e2 Fe (g := (mkF m 11 #[vR r0, vI 1, vI 0, .unset] [(.ref r0)])) rfl rfl (hb hby d16_11)
  have ks7 := own_c ks5 st6
  obtain ⟨T8, X8, e8, st8⟩ := getS2 X6 hx hZ hown (host := "") (Or.inl (own_w hw 67 rfl)) Via.refl e6 Sd (g := (mkF m 14 #[vR r0, vI 1, vI 0, .unset] [(.ref u)])) rfl (hb hby d16_14)
  have ks9 := own_c ks7 st8
  have ks10 : own_R p e below (A0) (T8.setTop (mkF m 49 #[vR r0, vI 1, vI 0, .unset] [(.int 1), (.int 10), (.ref r0)])) := fun t k => ks9 t (by
    refine Jvm.RoadKit.acmp (g := (mkF m 17 #[vR r0, vI 1, vI 0, .unset] [(.ref u), (.ref u)])) X8 hx rfl rfl rfl (pc0 := 17) (pc' := 45) (same := true) rfl (hb hby d16_17) rfl (decide_eq_true rfl) (by decide) (by decide) ?_
    refine XS.aloadN X8.here hx rfl (hb hby d16_45) rfl rfl ?_
    refine XS.bipush X8.here hx rfl (hb hby d16_46) ?_
    show Steps p.tables e below (T8.setTop (mkF m 48 #[vR r0, vI 1, vI 0, .unset] [(.int 10), (.ref r0)])) _
    refine XS.iloadN X8.here hx rfl (hb hby d16_48) rfl ?_
    exact k)
  obtain ⟨_, _, ⟨T11, L11, k11, n11⟩, -, X11, ⟨Lc11, hQ11, lq11, yq11, zq11⟩, st11⟩ := Jvm.LawKit.callS X8 hx (y := Y9) hown (mvT hZ (own_w hw 97 rfl)) (mvT hZ (own_w hw 98 rfl)) (mvT hZ (own_w hw 40 rfl)) (mvT hZ (own_w hw 99 rfl)) (by decide) (backOf (W := 1) (rm17_10_1 l Z a0 hw []  h0 n0 Z0 ) hZ (own_w hw 99 rfl) (own_w hw 40 rfl) (by decide) (by decide)) (g := (mkF m 49 #[vR r0, vI 1, vI 0, .unset] [(.int 1), (.int 10), (.ref r0)])) rfl (by rw [hml]; rfl) (argsL := [(.int 10), (.int 1)]) (rest := [(.ref r0)]) (lenOf pd_6 rfl) rfl (by show 2 * 0 + _ ≤ _; exact Nat.le_of_eq rfl) (hb hby d16_49) (fun _ _ => ⟨rfl, e8, (by decide : 0 + 0 ≤ _), (by decide : 0 + 0 ≤ _)⟩)
  dsimp only [Pt.U, Pt.locs, Pt.cells, Pt.slots] at X11 lq11 yq11 zq11 st11 hQ11
  obtain rfl : k11 = 0 := yq11
  obtain rfl : n11 = 0 := zq11
  obtain ⟨rfl, Nq11, eq11⟩ := hQ11
  have N11 := Fr.app N0 Nq11
  have N11' : Fr n0 L11 := by rw [lq11]; exact N11
  have ks12 := own_c ks10 st11
  obtain ⟨T13, h13, c13, X13, e13, E13, A13, Ex13, O13, st13⟩ := newRE X11 hx hZ hown (own_w hw 100 rfl) (own_w hw 101 rfl) eq11 (g := (mkF m 52 #[vR r0, vI 1, vI 0, .unset] [(.int 10), (.ref r0)])) rfl (hb hby d16_52) rfl (by decide) (cap := 10) (by decide) (by decide) (by decide) (by decide) (ad := "[Ljava/lang/Object;") (by decide)
  obtain ⟨b13, g13⟩ : ∃ z, z = h0.size := ⟨_, rfl⟩
  rw [← g13] at A13 st13 Ex13
  have ne_r0_b13 := nlg E0.lt g13
  have ne_u_b13 := nlg Vu.lt g13
  have g_b13 : n0 ≤ b13 := Nat.le_trans Z0 (Nat.le_of_eq g13.symm)
  have sz_b13 : h0.size ≤ b13 := Nat.le_trans (Keep.refl h0 [r0]).1 (Nat.le_of_eq g13.symm)
  have KH13 : Keep h0 h13 [r0] := (Keep.refl h0 [r0]).ext E13
  have Zn13 : n0 ≤ h13.size := Nat.le_trans Z0 E13.1
  have V13 : Arv Z h13 b13 c13 (.object "java/lang/Object") (10 : Int32) [] .null := (Arv.new A13 (by decide))
  have ks14 := own_c ks12 st13
  have ks15 : own_R p e below (A0) (T13.setTop (mkF m 56 #[vR r0, vI 1, vI 0, .unset] [(.ref b13), (.ref r0), (.ref b13)])) := fun t k => ks14 t (by
    refine XS.dupX1 X13.here hx rfl (hb hby d16_55) rfl rfl rfl ?_
    exact k)
  have f16 := E0.keep KH13
  have f17 := (Fe.ext E13)
  obtain ⟨T18, h18, X18, e18, W18, st18⟩ := putF X13 hx hZ hown (host := "") (Or.inl (own_w hw 68 rfl)) Via.refl e13 f17 f16 (Or.inl (own_w hw 69 rfl)) (own_w hw 47 rfl) (ty := (.array (.object "java/lang/Object"))) (by decide) rfl rfl (g := (mkF m 56 #[vR r0, vI 1, vI 0, .unset] [(.ref b13), (.ref r0), (.ref b13)])) rfl rfl (hb hby d16_56)
  have Fw18 := f17.same W18
  have KH18 : Keep h0 h18 [r0] := KH13.wr W18 (Or.inl (List.mem_of_getElem? (i := 0) rfl))
  have Zn18 : n0 ≤ h18.size := Nat.le_trans Zn13 (Keep.of_wr W18).1
  have N18 := Fr.snoc X18 N11' g_r0
  have ks19 := own_c ks15 st18
  obtain ⟨fs, hr, hrun, hended, hW, hsame⟩ := X18.leave (v := some (.ref b13)) (fun h => by rw [Bd.returns] at h; cases h) hlk
  refine ⟨_, _, kz _ (ks19 _ ?_), hrun, hended, _, _, rfl, ?_, ⟨_, rfl⟩, hW, hsame.mono (by decide) (by decide)⟩
  · exact retOut X18 hx Bd.returns rfl (Or.inr (Or.inr (Or.inr (Or.inr ⟨rfl, rfl, rfl⟩)))) (hb hby d16_59) hr
  · show Q16_z Z r0 u ku mc h0 n0 _ T18.heap _
    rw [e18]
    have f20 := ((Fz.ext E13).other W18 (Or.inr (slot_ne (Or.inl (own_w hw 81 rfl)) (Or.inl (own_w hw 69 rfl)) (by decide) (t := .int) (t' := (.array (.object "java/lang/Object"))) (by decide) (by decide))))
    have f21 := ((Fm.ext E13).other W18 (Or.inr (slot_ne (Or.inl (own_w hw 66 rfl)) (Or.inl (own_w hw 69 rfl)) (by decide) (t := .int) (t' := (.array (.object "java/lang/Object"))) (by decide) (by decide))))
    have f22 := (V13.other W18 (Ne.symm ne_r0_b13))
    have f23 := (Ex13.wr W18)
    exact ⟨b13, _, rfl, N18, KH18, g_b13, sz_b13, Fw18, f20, f21, f22, O13, f23⟩
theorem d15_0 : dk bc15 0 (.aload_n 0) 1 := by decide +kernel
theorem d15_1 : dk bc15 1 (.aload_n 0) 1 := by decide +kernel
theorem d15_2 : dk bc15 2 (.getfield 48) 3 := by decide +kernel
theorem d15_5 : dk bc15 5 (.iconst 1) 1 := by decide +kernel
theorem d15_6 : dk bc15 6 (.iadd) 1 := by decide +kernel
theorem d15_7 : dk bc15 7 (.invokevirtual 69) 3 := by decide +kernel
theorem d15_10 : dk bc15 10 (.areturn) 1 := by decide +kernel
theorem pn_15 : plainName "java/util/ArrayList" = true := by first | (simp [plainName, overriddenIn]; done) | decide +kernel
theorem pd_12 : parseMethodDescriptor "(I)[Ljava/lang/Object;" = some ⟨[.int], some (.array (.object "java/lang/Object"))⟩ := by decide +kernel
theorem ef_15_z (m : MethodId) (x0 : Addr) : entryFrame m #[(.ref x0)] 1 = mkF m 0 #[.val (.ref x0)] [] := by first | (simp [entryFrame, mkF, argsToLocals, Value.category]; done) | rfl
def Q15_z (Z : State) (r0 : Addr) (u : Addr) (ku : ClassId) (mc : Int32) (h0 : Heap) (n0 : Nat) (v : Option Value) (h : Heap) (L : List Loc) : Prop := ∃ (b : Addr) (k : ClassId), v = some (.ref b) ∧ Fr n0 L ∧ Keep h0 h [r0] ∧ n0 ≤ b ∧ h0.size ≤ b ∧ Fld Z h r0 "java/util/ArrayList" "elementData" "[Ljava/lang/Object;" (.ref b) ∧ Fld Z h r0 "java/util/ArrayList" "size" "I" (.int 0) ∧ Fld Z h r0 "java/util/AbstractList" "modCount" "I" (.int mc) ∧ Arv Z h b k (.object "java/lang/Object") 10 [] .null ∧ Ovr Z k "java/lang/Object" ∧ Exa Z h b "[Ljava/lang/Object;"
set_option maxRecDepth 65536 in
set_option maxHeartbeats 40000000 in
theorem rm15_z (l : Launch) (Z : State) (a0 : Array Value) (hw : ∀ d ∈ tables_1, d.before a0 Z = true) (ws : List Jvm.Cond) (r0 : Addr) (u : Addr) (ku : ClassId) (mc : Int32) (h0 : Heap) (n0 : Nat) (Z0 : n0 ≤ h0.size) (E0 : Exa Z h0 r0 "java/util/ArrayList") (Fe : Fld Z h0 r0 "java/util/ArrayList" "elementData" "[Ljava/lang/Object;" (.ref u)) (Fz : Fld Z h0 r0 "java/util/ArrayList" "size" "I" (.int 0)) (Fm : Fld Z h0 r0 "java/util/AbstractList" "modCount" "I" (.int mc)) (Sd : Sta Z h0 "java/util/ArrayList" "DEFAULTCAPACITY_EMPTY_ELEMENTDATA" "[Ljava/lang/Object;" (.ref u)) (Vu : Arv Z h0 u ku (.object "java/lang/Object") 0 [] .null) (g_r0 : n0 ≤ r0) (n0u : r0 ≠ u) :
    MetFree l Y15 (head1 (Jvm.Cond.code Y15 jdk_38_method_7_code 1 (some (.array (.object "java/lang/Object"))) :: ws) (⟨2, 1, 10, 29⟩ : Room)) (fun a U => a = #[(.ref r0)] ∧ Z.Warmed39 U.vm ∧ U.heap = h0) (fun _ _ _ _ _ => True) (fun _ U o U' => ∃ v L, o = .returned v ∧ Q15_z Z r0 u ku mc h0 n0 v U'.heap L ∧ FrameEnd U o U' L (⟨2, 1, 10, 29⟩ : Room).cells (⟨2, 1, 10, 29⟩ : Room).slots) := by
  refine MetFree.of_bodySF (plainFor_of_name pn_15) hisR ?_
  intro p e s m args below meth c s₁ Bd hml0 hP hK
  obtain ⟨rfl, hZ, hh⟩ := hP
  have hx := Bd.exec
  have hby := Bd.bytes
  have hml : c.maxLocals = 1 := hml0
  have hown : s.vm.findClass "java/util/ArrayList" = some m.cls := findClass_of_methodNamed Bd.named
  have hnm := (name_of_methodNamed Bd.named Bd.method).1
  have hlk : meth.locks = false := by first | exact BodyLoose.notSynchronized Bd | exact Body.notSynchronized Bd
  have X0 : Stand p l e (⟨2, 1, 10, 29⟩ : Room) s m #[(.ref r0)] below meth c s₁ [] 0 0 := Stand.of_body Bd
  have e0 : s₁.heap = h0 := by rw [← hh, Bd.state]; rfl
  have N0 := Fr.nil n0
  have k0 : own_R p e below (s₁.setTop (entryFrame m #[(.ref r0)] 1)) (s₁.setTop (mkF m 0 #[vR r0] [])) := fun t k => castTop (ef_15_z m r0) k
  obtain ⟨A0, hA0⟩ : ∃ z, z = s₁.setTop (entryFrame m #[(.ref r0)] 1) := ⟨_, rfl⟩
  rw [← hA0] at k0
  have kz : ∀ t, Steps p.tables e below A0 t → Steps p.tables e below (s₁.setTop (entryFrame m #[(.ref r0)] 1)) t := fun t q => hA0 ▸ q
  have ks1 : own_R p e below (A0) (s₁.setTop (mkF m 2 #[vR r0] [(.ref r0), (.ref r0)])) := fun t k => k0 t (by
    refine XS.aloadN X0.here hx rfl (hb hby d15_0) rfl rfl ?_
    refine XS.aloadN X0.here hx rfl (hb hby d15_1) rfl rfl ?_
    exact k)
  obtain ⟨T2, X2, e2, st2⟩ := getF X0 hx hZ hown (host := "") (Or.inl (own_w hw 80 rfl)) Via.refl e0 Fz (g := (mkF m 2 #[vR r0] [(.ref r0), (.ref r0)])) rfl rfl (hb hby d15_2)
  have ks3 := own_c ks1 st2
  have ks4 : own_R p e below (A0) (T2.setTop (mkF m 7 #[vR r0] [(.int 1), (.ref r0)])) := fun t k => ks3 t (by
    refine XS.iconst X2.here hx rfl (hb hby d15_5) ?_
    refine XS.iadd X2.here hx rfl (hb hby d15_6) rfl ?_
    exact k)
  obtain ⟨cq5, qc5, qc5'⟩ := E0.cell
  obtain ⟨_, _, ⟨T5, L5, k5, n5⟩, -, X5, ⟨Lc5, hQ5, lq5, yq5, zq5⟩, st5⟩ := X2.privateBack hx (y := Y14) hown (mvT hZ (own_w hw 92 rfl)) (mvT hZ (own_w hw 93 rfl)) (mvT hZ (own_w hw 95 rfl)) (Cond.privateMethod_at (mvP hZ (own_w hw 94 rfl) (args := #[]))) (mvT hZ (own_w hw 96 rfl)) (by decide) (backOf (W := 0) (rm16_z l Z a0 hw [] r0 u _ mc h0 n0 Z0 E0 Fe Fz Fm Sd Vu g_r0 n0u) hZ (own_w hw 96 rfl) (own_w hw 48 rfl) (by decide) (by decide)) (g := (mkF m 7 #[vR r0] [(.int 1), (.ref r0)])) rfl (by rw [hml]; rfl) (Steps.refl _) (a := r0) (by rw [e2]; exact qc5) qc5' (argsL := [(.int 1)]) (rest := []) (lenOf pd_12 rfl) rfl (by show 2 * 0 + _ ≤ _; exact Nat.le_of_eq rfl) (hb hby d15_7) (fun _ _ => ⟨rfl, e2, (by decide : 0 + 1 ≤ _), (by decide : 0 + 10 ≤ _)⟩)
  dsimp only [Pt.U, Pt.locs, Pt.cells, Pt.slots] at X5 lq5 yq5 zq5 st5 hQ5
  obtain rfl : k5 = 1 := yq5
  obtain rfl : n5 = 10 := zq5
  obtain ⟨bq5, kq5, rfl, Nq5, Kq5, g_bq5, szq5, Fe5, Fz5, Fm5, Vq5, Oq5, Eq5⟩ := hQ5
  have N5 := Fr.app N0 Nq5
  have KH5 : Keep h0 T5.heap [r0] := (Keep.refl h0 [r0]).trans Kq5 (allS (Or.inl (List.mem_of_getElem? (i := 0) rfl)) all0)
  have Zn5 : n0 ≤ T5.heap.size := Nat.le_trans Z0 Kq5.1
  have ne_r0_bq5 := nls E0.lt szq5
  have ne_u_bq5 := nls Vu.lt szq5
  have sz_bq5 : h0.size ≤ bq5 := Nat.le_trans (Keep.refl h0 [r0]).1 szq5
  have N5' : Fr n0 L5 := by rw [lq5]; exact N5
  have ks6 := own_ct ks4 st5
  obtain ⟨fs, hr, hrun, hended, hW, hsame⟩ := X5.leave (v := some (.ref bq5)) (fun h => by rw [Bd.returns] at h; cases h) hlk
  refine ⟨_, _, kz _ (ks6 _ ?_), hrun, hended, _, _, rfl, ?_, ⟨_, rfl⟩, hW, hsame.mono (by decide) (by decide)⟩
  · exact retOut X5 hx Bd.returns rfl (Or.inr (Or.inr (Or.inr (Or.inr ⟨rfl, rfl, rfl⟩)))) (hb hby d15_10) hr
  · show Q15_z Z r0 u ku mc h0 n0 _ T5.heap _
    exact ⟨bq5, _, rfl, N5', KH5, g_bq5, sz_bq5, Fe5, Fz5, Fm5, Vq5, Oq5, Eq5⟩
theorem d16_20 : dk bc14 20 (.iload_n 2) 1 := by decide +kernel
theorem d16_21 : dk bc14 21 (.iload_n 1) 1 := by decide +kernel
theorem d16_22 : dk bc14 22 (.iload_n 2) 1 := by decide +kernel
theorem d16_23 : dk bc14 23 (.isub) 1 := by decide +kernel
theorem d16_24 : dk bc14 24 (.iload_n 2) 1 := by decide +kernel
theorem d16_25 : dk bc14 25 (.iconst 1) 1 := by decide +kernel
theorem d16_26 : dk bc14 26 (.ishr) 1 := by decide +kernel
theorem d16_27 : dk bc14 27 (.invokestatic 73) 3 := by decide +kernel
theorem d16_30 : dk bc14 30 (.istore_n 3) 1 := by decide +kernel
theorem d16_31 : dk bc14 31 (.aload_n 0) 1 := by decide +kernel
theorem d16_32 : dk bc14 32 (.aload_n 0) 1 := by decide +kernel
theorem d16_33 : dk bc14 33 (.getfield 9) 3 := by decide +kernel
theorem d16_36 : dk bc14 36 (.iload_n 3) 1 := by decide +kernel
theorem d16_37 : dk bc14 37 (.invokestatic 66) 3 := by decide +kernel
theorem d16_40 : dk bc14 40 (.dup_x1) 1 := by decide +kernel
theorem d16_41 : dk bc14 41 (.putfield 9) 3 := by decide +kernel
theorem d16_44 : dk bc14 44 (.areturn) 1 := by decide +kernel
theorem pd_31 : parseMethodDescriptor "(III)I" = some ⟨[.int, .int, .int], some .int⟩ := by decide +kernel
theorem pd_32 : parseMethodDescriptor "([Ljava/lang/Object;I)[Ljava/lang/Object;" = some ⟨[(.array (.object "java/lang/Object")), .int], some (.array (.object "java/lang/Object"))⟩ := by decide +kernel
theorem ef_16_10 (m : MethodId) (x0 : Addr) (x1 : Int32) : entryFrame m #[(.ref x0), (.int x1)] 4 = mkF m 0 #[.val (.ref x0), .val (.int x1), .unset, .unset] [] := by first | (simp [entryFrame, mkF, argsToLocals, Value.category]; done) | rfl
def Q16_10 (Z : State) (r0 : Addr) (ed : Addr) (ked : ClassId) (mc : Int32) (es : List Value) (mo : Addr) (h0 : Heap) (n0 : Nat) (v : Option Value) (h : Heap) (L : List Loc) : Prop := ∃ (b : Addr) (k : ClassId), v = some (.ref b) ∧ Fr n0 L ∧ Keep h0 h [r0] ∧ n0 ≤ b ∧ h0.size ≤ b ∧ Fld Z h r0 "java/util/ArrayList" "elementData" "[Ljava/lang/Object;" (.ref b) ∧ Fld Z h r0 "java/util/ArrayList" "size" "I" (.int 10) ∧ Fld Z h r0 "java/util/AbstractList" "modCount" "I" (.int mc) ∧ Arv Z h b k (.object "java/lang/Object") 15 es .null ∧ Ovr Z k "java/lang/Object" ∧ Exa Z h b "[Ljava/lang/Object;"
set_option maxRecDepth 65536 in
set_option maxHeartbeats 40000000 in
theorem rm16_10 (l : Launch) (Z : State) (a0 : Array Value) (hw : ∀ d ∈ tables_1, d.before a0 Z = true) (ws : List Jvm.Cond) (r0 : Addr) (ed : Addr) (ked : ClassId) (mc : Int32) (es : List Value) (mo : Addr) (h0 : Heap) (n0 : Nat) (Z0 : n0 ≤ h0.size) (E0 : Exa Z h0 r0 "java/util/ArrayList") (Fe : Fld Z h0 r0 "java/util/ArrayList" "elementData" "[Ljava/lang/Object;" (.ref ed)) (Fz : Fld Z h0 r0 "java/util/ArrayList" "size" "I" (.int 10)) (Fm : Fld Z h0 r0 "java/util/AbstractList" "modCount" "I" (.int mc)) (Vd : Arv Z h0 ed ked (.object "java/lang/Object") 10 es .null) (hlen : es.length = 10) (hes : own_hits Z h0 es) (Ed : Exa Z h0 ed "[Ljava/lang/Object;") (Mo : Mir Z "[Ljava/lang/Object;" mo) (g_r0 : n0 ≤ r0) (n0d : r0 ≠ ed) :
    MetFree l Y14 (head1 (Jvm.Cond.code Y14 jdk_38_method_6_code 4 (some (.array (.object "java/lang/Object"))) :: ws) (⟨3, 1, 15, 47⟩ : Room)) (fun a U => a = #[(.ref r0), (.int 11)] ∧ Z.Warmed39 U.vm ∧ U.heap = h0) (fun _ _ _ _ _ => True) (fun _ U o U' => ∃ v L, o = .returned v ∧ Q16_10 Z r0 ed ked mc es mo h0 n0 v U'.heap L ∧ FrameEnd U o U' L (⟨3, 1, 15, 47⟩ : Room).cells (⟨3, 1, 15, 47⟩ : Room).slots) := by
  refine MetFree.of_bodySF (plainFor_of_name pn_16) hisR ?_
  intro p e s m args below meth c s₁ Bd hml0 hP hK
  obtain ⟨rfl, hZ, hh⟩ := hP
  have hx := Bd.exec
  have hby := Bd.bytes
  have hml : c.maxLocals = 4 := hml0
  have hown : s.vm.findClass "java/util/ArrayList" = some m.cls := findClass_of_methodNamed Bd.named
  have hnm := (name_of_methodNamed Bd.named Bd.method).1
  have hlk : meth.locks = false := by first | exact BodyLoose.notSynchronized Bd | exact Body.notSynchronized Bd
  have X0 : Stand p l e (⟨3, 1, 15, 47⟩ : Room) s m #[(.ref r0), (.int 11)] below meth c s₁ [] 0 0 := Stand.of_body Bd
  have e0 : s₁.heap = h0 := by rw [← hh, Bd.state]; rfl
  have N0 := Fr.nil n0
  have k0 : own_R p e below (s₁.setTop (entryFrame m #[(.ref r0), (.int 11)] 4)) (s₁.setTop (mkF m 0 #[vR r0, vI 11, .unset, .unset] [])) := fun t k => castTop (ef_16_10 m r0 (11 : Int32)) k
  obtain ⟨A0, hA0⟩ : ∃ z, z = s₁.setTop (entryFrame m #[(.ref r0), (.int 11)] 4) := ⟨_, rfl⟩
  rw [← hA0] at k0
  have kz : ∀ t, Steps p.tables e below A0 t → Steps p.tables e below (s₁.setTop (entryFrame m #[(.ref r0), (.int 11)] 4)) t := fun t q => hA0 ▸ q
  have ks1 : own_R p e below (A0) (s₁.setTop (mkF m 1 #[vR r0, vI 11, .unset, .unset] [(.ref r0)])) := fun t k => k0 t (by
    refine XS.aloadN X0.here hx rfl (hb hby d16_0) rfl rfl ?_
    exact k)
  obtain ⟨T2, X2, e2, st2⟩ := getF X0 hx hZ hown (host := "") (Or.inl (own_w hw 68 rfl)) Via.refl e0 Fe (g := (mkF m 1 #[vR r0, vI 11, .unset, .unset] [(.ref r0)])) rfl rfl (hb hby d16_1)
  have ks3 := own_c ks1 st2
  obtain ⟨cl4, Ar4, qa4, S4, Na4, Ha4, Ga4⟩ := id Vd
  have ks5 : own_R p e below (A0) (T2.setTop (mkF m 27 #[vR r0, vI 11, vI 10, .unset] [(.int 5), (.int 1), (.int 10)])) := fun t k => ks3 t (by
    refine X2.arraylength hx (by rw [e2]; exact Ar4.1) (State.isArrayOf_alike hZ.alike Ar4.2.1) (g := (mkF m 4 #[vR r0, vI 11, .unset, .unset] [(.ref ed)])) rfl rfl (hb hby d16_4) _ ?_
    rw [len_of S4 Na4]
    refine XS.istoreN X2.here hx rfl (hb hby d16_5) rfl (l' := #[vR r0, vI 11, vI 10, .unset]) rfl ?_
    refine XS.iloadN X2.here hx rfl (hb hby d16_6) rfl ?_
    show Steps p.tables e below (T2.setTop (mkF m 7 #[vR r0, vI 11, vI 10, .unset] [(.int 10)])) _
    refine XS.ifYes X2.here hx rfl (pc0 := 7) (pc' := 20) rfl (hb hby d16_7) rfl ((if0 _ _).trans (tlt (by decide)).2.2.1) (by decide) (by decide) ?_
    refine XS.iloadN X2.here hx rfl (hb hby d16_20) rfl ?_
    refine XS.iloadN X2.here hx rfl (hb hby d16_21) rfl ?_
    refine XS.iloadN X2.here hx rfl (hb hby d16_22) rfl ?_
    show Steps p.tables e below (T2.setTop (mkF m 23 #[vR r0, vI 11, vI 10, .unset] [(.int 10), (.int 11), (.int 10)])) _
    refine XS.isub X2.here hx rfl (hb hby d16_23) rfl ?_
    refine XS.iloadN X2.here hx rfl (hb hby d16_24) rfl ?_
    refine XS.iconst X2.here hx rfl (hb hby d16_25) ?_
    refine XS.ishr X2.here hx rfl (hb hby d16_26) rfl ?_
    show Steps p.tables e below (T2.setTop (mkF m 27 #[vR r0, vI 11, vI 10, .unset] [(.int ((10 : Int32) >>> ((1 : Int32) &&& 31))), (.int 1), (.int 10)])) _
    rw [show ((10 : Int32) >>> ((1 : Int32) &&& 31)) = (5 : Int32) from by decide]
    exact k)
  obtain ⟨_, _, ⟨T6, L6, k6, n6⟩, -, X6, ⟨Lc6, hQ6, lq6, yq6, zq6⟩, st6⟩ := Jvm.LawKit.callS X2 hx (y := Y10) hown (mvT hZ (own_w hw 309 rfl)) (mvT hZ (own_w hw 310 rfl)) (mvT hZ (own_w hw 311 rfl)) (mvT hZ (own_w hw 312 rfl)) (by decide) (backOf (W := 0) (rm49_10_1_5 l Z a0 hw []  h0 n0 Z0 ) hZ (own_w hw 312 rfl) (own_w hw 311 rfl) (by decide) (by decide)) (g := (mkF m 27 #[vR r0, vI 11, vI 10, .unset] [(.int 5), (.int 1), (.int 10)])) rfl (by rw [hml]; rfl) (argsL := [(.int 10), (.int 1), (.int 5)]) (rest := []) (lenOf pd_31 rfl) rfl (by show 2 * 0 + _ ≤ _; exact Nat.le_of_eq rfl) (hb hby d16_27) (fun _ _ => ⟨rfl, e2, (by decide : 0 + 0 ≤ _), (by decide : 0 + 0 ≤ _)⟩)
  dsimp only [Pt.U, Pt.locs, Pt.cells, Pt.slots] at X6 lq6 yq6 zq6 st6 hQ6
  obtain rfl : k6 = 0 := yq6
  obtain rfl : n6 = 0 := zq6
  obtain ⟨rfl, Nq6, eq6⟩ := hQ6
  have N6 := Fr.app N0 Nq6
  have N6' : Fr n0 L6 := by rw [lq6]; exact N6
  have ks7 := own_c ks5 st6
  have ks8 : own_R p e below (A0) (T6.setTop (mkF m 33 #[vR r0, vI 11, vI 10, vI 15] [(.ref r0), (.ref r0)])) := fun t k => ks7 t (by
    refine XS.istoreN X6.here hx rfl (hb hby d16_30) rfl (l' := #[vR r0, vI 11, vI 10, vI 15]) rfl ?_
    refine XS.aloadN X6.here hx rfl (hb hby d16_31) rfl rfl ?_
    refine XS.aloadN X6.here hx rfl (hb hby d16_32) rfl rfl ?_
    exact k)
  obtain ⟨T9, X9, e9, st9⟩ := getF X6 hx hZ hown (host := "") (Or.inl (own_w hw 68 rfl)) Via.refl eq6 Fe (g := (mkF m 33 #[vR r0, vI 11, vI 10, vI 15] [(.ref r0), (.ref r0)])) rfl rfl (hb hby d16_33)
  have ks10 := own_c ks8 st9
  have ks11 : own_R p e below (A0) (T9.setTop (mkF m 37 #[vR r0, vI 11, vI 10, vI 15] [(.int 15), (.ref ed), (.ref r0)])) := fun t k => ks10 t (by
    refine XS.iloadN X9.here hx rfl (hb hby d16_36) rfl ?_
    exact k)
  obtain ⟨_, _, ⟨T12, L12, k12, n12⟩, -, X12, ⟨Lc12, hQ12, lq12, yq12, zq12⟩, st12⟩ := Jvm.LawKit.callS X9 hx (y := Y13) hown (mvT hZ (own_w hw 315 rfl)) (mvT hZ (own_w hw 316 rfl)) (mvT hZ (own_w hw 317 rfl)) (mvT hZ (own_w hw 318 rfl)) (by decide) (backOf (W := 1) (rm50_15 l Z a0 hw [] ed _ es mo h0 n0 Z0 Vd hlen (own_hits_keep hes (Keep.refl h0 [r0])) Ed Mo) hZ (own_w hw 318 rfl) (own_w hw 317 rfl) (by decide) (by decide)) (g := (mkF m 37 #[vR r0, vI 11, vI 10, vI 15] [(.int 15), (.ref ed), (.ref r0)])) rfl (by rw [hml]; rfl) (argsL := [(.ref ed), (.int 15)]) (rest := [(.ref r0)]) (lenOf pd_32 rfl) rfl (by show 2 * 0 + _ ≤ _; exact Nat.le_of_eq rfl) (hb hby d16_37) (fun _ _ => ⟨rfl, e9, (by decide : 0 + 1 ≤ _), (by decide : 0 + 15 ≤ _)⟩)
  dsimp only [Pt.U, Pt.locs, Pt.cells, Pt.slots] at X12 lq12 yq12 zq12 st12 hQ12
  obtain rfl : k12 = 1 := yq12
  obtain rfl : n12 = 15 := zq12
  obtain ⟨bq12, kq12, rfl, Nq12, Kq12, g_bq12, szq12, Vq12, Oq12, Eq12⟩ := hQ12
  have N12 := Fr.app N6' Nq12
  have KH12 : Keep h0 T12.heap [r0] := (Keep.refl h0 [r0]).trans Kq12 all0
  have Zn12 : n0 ≤ T12.heap.size := Nat.le_trans Z0 Kq12.1
  have ne_r0_bq12 := nls E0.lt szq12
  have ne_ed_bq12 := nls Vd.lt szq12
  have sz_bq12 : h0.size ≤ bq12 := Nat.le_trans (Keep.refl h0 [r0]).1 szq12
  have N12' : Fr n0 L12 := by rw [lq12]; exact N12
  have ks13 := own_c ks11 st12
  have ks14 : own_R p e below (A0) (T12.setTop (mkF m 41 #[vR r0, vI 11, vI 10, vI 15] [(.ref bq12), (.ref r0), (.ref bq12)])) := fun t k => ks13 t (by
    refine XS.dupX1 X12.here hx rfl (hb hby d16_40) rfl rfl rfl ?_
    exact k)
  have f15 := E0.keep KH12
  have f16 := (Fe.keep Kq12 nin0)
  obtain ⟨T17, h17, X17, e17, W17, st17⟩ := putF X12 hx hZ hown (host := "") (Or.inl (own_w hw 68 rfl)) Via.refl rfl f16 f15 (Or.inl (own_w hw 69 rfl)) (own_w hw 47 rfl) (ty := (.array (.object "java/lang/Object"))) (by decide) rfl rfl (g := (mkF m 41 #[vR r0, vI 11, vI 10, vI 15] [(.ref bq12), (.ref r0), (.ref bq12)])) rfl rfl (hb hby d16_41)
  have Fw17 := f16.same W17
  have KH17 : Keep h0 h17 [r0] := KH12.wr W17 (Or.inl (List.mem_of_getElem? (i := 0) rfl))
  have Zn17 : n0 ≤ h17.size := Nat.le_trans Zn12 (Keep.of_wr W17).1
  have N17 := Fr.snoc X17 N12' g_r0
  have ks18 := own_c ks14 st17
  obtain ⟨fs, hr, hrun, hended, hW, hsame⟩ := X17.leave (v := some (.ref bq12)) (fun h => by rw [Bd.returns] at h; cases h) hlk
  refine ⟨_, _, kz _ (ks18 _ ?_), hrun, hended, _, _, rfl, ?_, ⟨_, rfl⟩, hW, hsame.mono (by decide) (by decide)⟩
  · exact retOut X17 hx Bd.returns rfl (Or.inr (Or.inr (Or.inr (Or.inr ⟨rfl, rfl, rfl⟩)))) (hb hby d16_44) hr
  · show Q16_10 Z r0 ed ked mc es mo h0 n0 _ T17.heap _
    rw [e17]
    have f19 := ((Fz.keep Kq12 nin0).other W17 (Or.inr (slot_ne (Or.inl (own_w hw 81 rfl)) (Or.inl (own_w hw 69 rfl)) (by decide) (t := .int) (t' := (.array (.object "java/lang/Object"))) (by decide) (by decide))))
    have f20 := ((Fm.keep Kq12 nin0).other W17 (Or.inr (slot_ne (Or.inl (own_w hw 66 rfl)) (Or.inl (own_w hw 69 rfl)) (by decide) (t := .int) (t' := (.array (.object "java/lang/Object"))) (by decide) (by decide))))
    have f21 := (Vq12.other W17 (Ne.symm ne_r0_bq12))
    have f22 := (Eq12.wr W17)
    exact ⟨bq12, _, rfl, N17, KH17, g_bq12, sz_bq12, Fw17, f19, f20, f21, Oq12, f22⟩
theorem ef_15_10 (m : MethodId) (x0 : Addr) : entryFrame m #[(.ref x0)] 1 = mkF m 0 #[.val (.ref x0)] [] := by first | (simp [entryFrame, mkF, argsToLocals, Value.category]; done) | rfl
def Q15_10 (Z : State) (r0 : Addr) (ed : Addr) (ked : ClassId) (mc : Int32) (es : List Value) (mo : Addr) (h0 : Heap) (n0 : Nat) (v : Option Value) (h : Heap) (L : List Loc) : Prop := ∃ (b : Addr) (k : ClassId), v = some (.ref b) ∧ Fr n0 L ∧ Keep h0 h [r0] ∧ n0 ≤ b ∧ h0.size ≤ b ∧ Fld Z h r0 "java/util/ArrayList" "elementData" "[Ljava/lang/Object;" (.ref b) ∧ Fld Z h r0 "java/util/ArrayList" "size" "I" (.int 10) ∧ Fld Z h r0 "java/util/AbstractList" "modCount" "I" (.int mc) ∧ Arv Z h b k (.object "java/lang/Object") 15 es .null ∧ Ovr Z k "java/lang/Object" ∧ Exa Z h b "[Ljava/lang/Object;"
set_option maxRecDepth 65536 in
set_option maxHeartbeats 40000000 in
theorem rm15_10 (l : Launch) (Z : State) (a0 : Array Value) (hw : ∀ d ∈ tables_1, d.before a0 Z = true) (ws : List Jvm.Cond) (r0 : Addr) (ed : Addr) (ked : ClassId) (mc : Int32) (es : List Value) (mo : Addr) (h0 : Heap) (n0 : Nat) (Z0 : n0 ≤ h0.size) (E0 : Exa Z h0 r0 "java/util/ArrayList") (Fe : Fld Z h0 r0 "java/util/ArrayList" "elementData" "[Ljava/lang/Object;" (.ref ed)) (Fz : Fld Z h0 r0 "java/util/ArrayList" "size" "I" (.int 10)) (Fm : Fld Z h0 r0 "java/util/AbstractList" "modCount" "I" (.int mc)) (Vd : Arv Z h0 ed ked (.object "java/lang/Object") 10 es .null) (hlen : es.length = 10) (hes : own_hits Z h0 es) (Ed : Exa Z h0 ed "[Ljava/lang/Object;") (Mo : Mir Z "[Ljava/lang/Object;" mo) (g_r0 : n0 ≤ r0) (n0d : r0 ≠ ed) :
    MetFree l Y15 (head1 (Jvm.Cond.code Y15 jdk_38_method_7_code 1 (some (.array (.object "java/lang/Object"))) :: ws) (⟨4, 1, 15, 62⟩ : Room)) (fun a U => a = #[(.ref r0)] ∧ Z.Warmed39 U.vm ∧ U.heap = h0) (fun _ _ _ _ _ => True) (fun _ U o U' => ∃ v L, o = .returned v ∧ Q15_10 Z r0 ed ked mc es mo h0 n0 v U'.heap L ∧ FrameEnd U o U' L (⟨4, 1, 15, 62⟩ : Room).cells (⟨4, 1, 15, 62⟩ : Room).slots) := by
  refine MetFree.of_bodySF (plainFor_of_name pn_15) hisR ?_
  intro p e s m args below meth c s₁ Bd hml0 hP hK
  obtain ⟨rfl, hZ, hh⟩ := hP
  have hx := Bd.exec
  have hby := Bd.bytes
  have hml : c.maxLocals = 1 := hml0
  have hown : s.vm.findClass "java/util/ArrayList" = some m.cls := findClass_of_methodNamed Bd.named
  have hnm := (name_of_methodNamed Bd.named Bd.method).1
  have hlk : meth.locks = false := by first | exact BodyLoose.notSynchronized Bd | exact Body.notSynchronized Bd
  have X0 : Stand p l e (⟨4, 1, 15, 62⟩ : Room) s m #[(.ref r0)] below meth c s₁ [] 0 0 := Stand.of_body Bd
  have e0 : s₁.heap = h0 := by rw [← hh, Bd.state]; rfl
  have N0 := Fr.nil n0
  have k0 : own_R p e below (s₁.setTop (entryFrame m #[(.ref r0)] 1)) (s₁.setTop (mkF m 0 #[vR r0] [])) := fun t k => castTop (ef_15_10 m r0) k
  obtain ⟨A0, hA0⟩ : ∃ z, z = s₁.setTop (entryFrame m #[(.ref r0)] 1) := ⟨_, rfl⟩
  rw [← hA0] at k0
  have kz : ∀ t, Steps p.tables e below A0 t → Steps p.tables e below (s₁.setTop (entryFrame m #[(.ref r0)] 1)) t := fun t q => hA0 ▸ q
  have ks1 : own_R p e below (A0) (s₁.setTop (mkF m 2 #[vR r0] [(.ref r0), (.ref r0)])) := fun t k => k0 t (by
    refine XS.aloadN X0.here hx rfl (hb hby d15_0) rfl rfl ?_
    refine XS.aloadN X0.here hx rfl (hb hby d15_1) rfl rfl ?_
    exact k)
  obtain ⟨T2, X2, e2, st2⟩ := getF X0 hx hZ hown (host := "") (Or.inl (own_w hw 80 rfl)) Via.refl e0 Fz (g := (mkF m 2 #[vR r0] [(.ref r0), (.ref r0)])) rfl rfl (hb hby d15_2)
  have ks3 := own_c ks1 st2
  have ks4 : own_R p e below (A0) (T2.setTop (mkF m 7 #[vR r0] [(.int 11), (.ref r0)])) := fun t k => ks3 t (by
    refine XS.iconst X2.here hx rfl (hb hby d15_5) ?_
    refine XS.iadd X2.here hx rfl (hb hby d15_6) rfl ?_
    exact k)
  obtain ⟨cq5, qc5, qc5'⟩ := E0.cell
  obtain ⟨_, _, ⟨T5, L5, k5, n5⟩, -, X5, ⟨Lc5, hQ5, lq5, yq5, zq5⟩, st5⟩ := X2.privateBack hx (y := Y14) hown (mvT hZ (own_w hw 92 rfl)) (mvT hZ (own_w hw 93 rfl)) (mvT hZ (own_w hw 95 rfl)) (Cond.privateMethod_at (mvP hZ (own_w hw 94 rfl) (args := #[]))) (mvT hZ (own_w hw 96 rfl)) (by decide) (backOf (W := 0) (rm16_10 l Z a0 hw [] r0 ed _ mc es mo h0 n0 Z0 E0 Fe Fz Fm Vd hlen (own_hits_keep hes (Keep.refl h0 [r0])) Ed Mo g_r0 n0d) hZ (own_w hw 96 rfl) (own_w hw 48 rfl) (by decide) (by decide)) (g := (mkF m 7 #[vR r0] [(.int 11), (.ref r0)])) rfl (by rw [hml]; rfl) (Steps.refl _) (a := r0) (by rw [e2]; exact qc5) qc5' (argsL := [(.int 11)]) (rest := []) (lenOf pd_12 rfl) rfl (by show 2 * 0 + _ ≤ _; exact Nat.le_of_eq rfl) (hb hby d15_7) (fun _ _ => ⟨rfl, e2, (by decide : 0 + 1 ≤ _), (by decide : 0 + 15 ≤ _)⟩)
  dsimp only [Pt.U, Pt.locs, Pt.cells, Pt.slots] at X5 lq5 yq5 zq5 st5 hQ5
  obtain rfl : k5 = 1 := yq5
  obtain rfl : n5 = 15 := zq5
  obtain ⟨bq5, kq5, rfl, Nq5, Kq5, g_bq5, szq5, Fe5, Fz5, Fm5, Vq5, Oq5, Eq5⟩ := hQ5
  have N5 := Fr.app N0 Nq5
  have KH5 : Keep h0 T5.heap [r0] := (Keep.refl h0 [r0]).trans Kq5 (allS (Or.inl (List.mem_of_getElem? (i := 0) rfl)) all0)
  have Zn5 : n0 ≤ T5.heap.size := Nat.le_trans Z0 Kq5.1
  have ne_r0_bq5 := nls E0.lt szq5
  have ne_ed_bq5 := nls Vd.lt szq5
  have sz_bq5 : h0.size ≤ bq5 := Nat.le_trans (Keep.refl h0 [r0]).1 szq5
  have N5' : Fr n0 L5 := by rw [lq5]; exact N5
  have ks6 := own_ct ks4 st5
  obtain ⟨fs, hr, hrun, hended, hW, hsame⟩ := X5.leave (v := some (.ref bq5)) (fun h => by rw [Bd.returns] at h; cases h) hlk
  refine ⟨_, _, kz _ (ks6 _ ?_), hrun, hended, _, _, rfl, ?_, ⟨_, rfl⟩, hW, hsame.mono (by decide) (by decide)⟩
  · exact retOut X5 hx Bd.returns rfl (Or.inr (Or.inr (Or.inr (Or.inr ⟨rfl, rfl, rfl⟩)))) (hb hby d15_10) hr
  · show Q15_10 Z r0 ed ked mc es mo h0 n0 _ T5.heap _
    exact ⟨bq5, _, rfl, N5', KH5, g_bq5, sz_bq5, Fe5, Fz5, Fm5, Vq5, Oq5, Eq5⟩
theorem ef_16_15 (m : MethodId) (x0 : Addr) (x1 : Int32) : entryFrame m #[(.ref x0), (.int x1)] 4 = mkF m 0 #[.val (.ref x0), .val (.int x1), .unset, .unset] [] := by first | (simp [entryFrame, mkF, argsToLocals, Value.category]; done) | rfl
def Q16_15 (Z : State) (r0 : Addr) (ed : Addr) (ked : ClassId) (mc : Int32) (es : List Value) (mo : Addr) (h0 : Heap) (n0 : Nat) (v : Option Value) (h : Heap) (L : List Loc) : Prop := ∃ (b : Addr) (k : ClassId), v = some (.ref b) ∧ Fr n0 L ∧ Keep h0 h [r0] ∧ n0 ≤ b ∧ h0.size ≤ b ∧ Fld Z h r0 "java/util/ArrayList" "elementData" "[Ljava/lang/Object;" (.ref b) ∧ Fld Z h r0 "java/util/ArrayList" "size" "I" (.int 15) ∧ Fld Z h r0 "java/util/AbstractList" "modCount" "I" (.int mc) ∧ Arv Z h b k (.object "java/lang/Object") 22 es .null ∧ Ovr Z k "java/lang/Object" ∧ Exa Z h b "[Ljava/lang/Object;"
set_option maxRecDepth 65536 in
set_option maxHeartbeats 40000000 in
theorem rm16_15 (l : Launch) (Z : State) (a0 : Array Value) (hw : ∀ d ∈ tables_1, d.before a0 Z = true) (ws : List Jvm.Cond) (r0 : Addr) (ed : Addr) (ked : ClassId) (mc : Int32) (es : List Value) (mo : Addr) (h0 : Heap) (n0 : Nat) (Z0 : n0 ≤ h0.size) (E0 : Exa Z h0 r0 "java/util/ArrayList") (Fe : Fld Z h0 r0 "java/util/ArrayList" "elementData" "[Ljava/lang/Object;" (.ref ed)) (Fz : Fld Z h0 r0 "java/util/ArrayList" "size" "I" (.int 15)) (Fm : Fld Z h0 r0 "java/util/AbstractList" "modCount" "I" (.int mc)) (Vd : Arv Z h0 ed ked (.object "java/lang/Object") 15 es .null) (hlen : es.length = 15) (hes : own_hits Z h0 es) (Ed : Exa Z h0 ed "[Ljava/lang/Object;") (Mo : Mir Z "[Ljava/lang/Object;" mo) (g_r0 : n0 ≤ r0) (n0d : r0 ≠ ed) :
    MetFree l Y14 (head1 (Jvm.Cond.code Y14 jdk_38_method_6_code 4 (some (.array (.object "java/lang/Object"))) :: ws) (⟨3, 1, 22, 47⟩ : Room)) (fun a U => a = #[(.ref r0), (.int 16)] ∧ Z.Warmed39 U.vm ∧ U.heap = h0) (fun _ _ _ _ _ => True) (fun _ U o U' => ∃ v L, o = .returned v ∧ Q16_15 Z r0 ed ked mc es mo h0 n0 v U'.heap L ∧ FrameEnd U o U' L (⟨3, 1, 22, 47⟩ : Room).cells (⟨3, 1, 22, 47⟩ : Room).slots) := by
  refine MetFree.of_bodySF (plainFor_of_name pn_16) hisR ?_
  intro p e s m args below meth c s₁ Bd hml0 hP hK
  obtain ⟨rfl, hZ, hh⟩ := hP
  have hx := Bd.exec
  have hby := Bd.bytes
  have hml : c.maxLocals = 4 := hml0
  have hown : s.vm.findClass "java/util/ArrayList" = some m.cls := findClass_of_methodNamed Bd.named
  have hnm := (name_of_methodNamed Bd.named Bd.method).1
  have hlk : meth.locks = false := by first | exact BodyLoose.notSynchronized Bd | exact Body.notSynchronized Bd
  have X0 : Stand p l e (⟨3, 1, 22, 47⟩ : Room) s m #[(.ref r0), (.int 16)] below meth c s₁ [] 0 0 := Stand.of_body Bd
  have e0 : s₁.heap = h0 := by rw [← hh, Bd.state]; rfl
  have N0 := Fr.nil n0
  have k0 : own_R p e below (s₁.setTop (entryFrame m #[(.ref r0), (.int 16)] 4)) (s₁.setTop (mkF m 0 #[vR r0, vI 16, .unset, .unset] [])) := fun t k => castTop (ef_16_15 m r0 (16 : Int32)) k
  obtain ⟨A0, hA0⟩ : ∃ z, z = s₁.setTop (entryFrame m #[(.ref r0), (.int 16)] 4) := ⟨_, rfl⟩
  rw [← hA0] at k0
  have kz : ∀ t, Steps p.tables e below A0 t → Steps p.tables e below (s₁.setTop (entryFrame m #[(.ref r0), (.int 16)] 4)) t := fun t q => hA0 ▸ q
  have ks1 : own_R p e below (A0) (s₁.setTop (mkF m 1 #[vR r0, vI 16, .unset, .unset] [(.ref r0)])) := fun t k => k0 t (by
    refine XS.aloadN X0.here hx rfl (hb hby d16_0) rfl rfl ?_
    exact k)
  obtain ⟨T2, X2, e2, st2⟩ := getF X0 hx hZ hown (host := "") (Or.inl (own_w hw 68 rfl)) Via.refl e0 Fe (g := (mkF m 1 #[vR r0, vI 16, .unset, .unset] [(.ref r0)])) rfl rfl (hb hby d16_1)
  have ks3 := own_c ks1 st2
  obtain ⟨cl4, Ar4, qa4, S4, Na4, Ha4, Ga4⟩ := id Vd
  have ks5 : own_R p e below (A0) (T2.setTop (mkF m 27 #[vR r0, vI 16, vI 15, .unset] [(.int 7), (.int 1), (.int 15)])) := fun t k => ks3 t (by
    refine X2.arraylength hx (by rw [e2]; exact Ar4.1) (State.isArrayOf_alike hZ.alike Ar4.2.1) (g := (mkF m 4 #[vR r0, vI 16, .unset, .unset] [(.ref ed)])) rfl rfl (hb hby d16_4) _ ?_
    rw [len_of S4 Na4]
    refine XS.istoreN X2.here hx rfl (hb hby d16_5) rfl (l' := #[vR r0, vI 16, vI 15, .unset]) rfl ?_
    refine XS.iloadN X2.here hx rfl (hb hby d16_6) rfl ?_
    show Steps p.tables e below (T2.setTop (mkF m 7 #[vR r0, vI 16, vI 15, .unset] [(.int 15)])) _
    refine XS.ifYes X2.here hx rfl (pc0 := 7) (pc' := 20) rfl (hb hby d16_7) rfl ((if0 _ _).trans (tlt (by decide)).2.2.1) (by decide) (by decide) ?_
    refine XS.iloadN X2.here hx rfl (hb hby d16_20) rfl ?_
    refine XS.iloadN X2.here hx rfl (hb hby d16_21) rfl ?_
    refine XS.iloadN X2.here hx rfl (hb hby d16_22) rfl ?_
    show Steps p.tables e below (T2.setTop (mkF m 23 #[vR r0, vI 16, vI 15, .unset] [(.int 15), (.int 16), (.int 15)])) _
    refine XS.isub X2.here hx rfl (hb hby d16_23) rfl ?_
    refine XS.iloadN X2.here hx rfl (hb hby d16_24) rfl ?_
    refine XS.iconst X2.here hx rfl (hb hby d16_25) ?_
    refine XS.ishr X2.here hx rfl (hb hby d16_26) rfl ?_
    show Steps p.tables e below (T2.setTop (mkF m 27 #[vR r0, vI 16, vI 15, .unset] [(.int ((15 : Int32) >>> ((1 : Int32) &&& 31))), (.int 1), (.int 15)])) _
    rw [show ((15 : Int32) >>> ((1 : Int32) &&& 31)) = (7 : Int32) from by decide]
    exact k)
  obtain ⟨_, _, ⟨T6, L6, k6, n6⟩, -, X6, ⟨Lc6, hQ6, lq6, yq6, zq6⟩, st6⟩ := Jvm.LawKit.callS X2 hx (y := Y10) hown (mvT hZ (own_w hw 309 rfl)) (mvT hZ (own_w hw 310 rfl)) (mvT hZ (own_w hw 311 rfl)) (mvT hZ (own_w hw 312 rfl)) (by decide) (backOf (W := 0) (rm49_15_1_7 l Z a0 hw []  h0 n0 Z0 ) hZ (own_w hw 312 rfl) (own_w hw 311 rfl) (by decide) (by decide)) (g := (mkF m 27 #[vR r0, vI 16, vI 15, .unset] [(.int 7), (.int 1), (.int 15)])) rfl (by rw [hml]; rfl) (argsL := [(.int 15), (.int 1), (.int 7)]) (rest := []) (lenOf pd_31 rfl) rfl (by show 2 * 0 + _ ≤ _; exact Nat.le_of_eq rfl) (hb hby d16_27) (fun _ _ => ⟨rfl, e2, (by decide : 0 + 0 ≤ _), (by decide : 0 + 0 ≤ _)⟩)
  dsimp only [Pt.U, Pt.locs, Pt.cells, Pt.slots] at X6 lq6 yq6 zq6 st6 hQ6
  obtain rfl : k6 = 0 := yq6
  obtain rfl : n6 = 0 := zq6
  obtain ⟨rfl, Nq6, eq6⟩ := hQ6
  have N6 := Fr.app N0 Nq6
  have N6' : Fr n0 L6 := by rw [lq6]; exact N6
  have ks7 := own_c ks5 st6
  have ks8 : own_R p e below (A0) (T6.setTop (mkF m 33 #[vR r0, vI 16, vI 15, vI 22] [(.ref r0), (.ref r0)])) := fun t k => ks7 t (by
    refine XS.istoreN X6.here hx rfl (hb hby d16_30) rfl (l' := #[vR r0, vI 16, vI 15, vI 22]) rfl ?_
    refine XS.aloadN X6.here hx rfl (hb hby d16_31) rfl rfl ?_
    refine XS.aloadN X6.here hx rfl (hb hby d16_32) rfl rfl ?_
    exact k)
  obtain ⟨T9, X9, e9, st9⟩ := getF X6 hx hZ hown (host := "") (Or.inl (own_w hw 68 rfl)) Via.refl eq6 Fe (g := (mkF m 33 #[vR r0, vI 16, vI 15, vI 22] [(.ref r0), (.ref r0)])) rfl rfl (hb hby d16_33)
  have ks10 := own_c ks8 st9
  have ks11 : own_R p e below (A0) (T9.setTop (mkF m 37 #[vR r0, vI 16, vI 15, vI 22] [(.int 22), (.ref ed), (.ref r0)])) := fun t k => ks10 t (by
    refine XS.iloadN X9.here hx rfl (hb hby d16_36) rfl ?_
    exact k)
  obtain ⟨_, _, ⟨T12, L12, k12, n12⟩, -, X12, ⟨Lc12, hQ12, lq12, yq12, zq12⟩, st12⟩ := Jvm.LawKit.callS X9 hx (y := Y13) hown (mvT hZ (own_w hw 315 rfl)) (mvT hZ (own_w hw 316 rfl)) (mvT hZ (own_w hw 317 rfl)) (mvT hZ (own_w hw 318 rfl)) (by decide) (backOf (W := 1) (rm50_22 l Z a0 hw [] ed _ es mo h0 n0 Z0 Vd hlen (own_hits_keep hes (Keep.refl h0 [r0])) Ed Mo) hZ (own_w hw 318 rfl) (own_w hw 317 rfl) (by decide) (by decide)) (g := (mkF m 37 #[vR r0, vI 16, vI 15, vI 22] [(.int 22), (.ref ed), (.ref r0)])) rfl (by rw [hml]; rfl) (argsL := [(.ref ed), (.int 22)]) (rest := [(.ref r0)]) (lenOf pd_32 rfl) rfl (by show 2 * 0 + _ ≤ _; exact Nat.le_of_eq rfl) (hb hby d16_37) (fun _ _ => ⟨rfl, e9, (by decide : 0 + 1 ≤ _), (by decide : 0 + 22 ≤ _)⟩)
  dsimp only [Pt.U, Pt.locs, Pt.cells, Pt.slots] at X12 lq12 yq12 zq12 st12 hQ12
  obtain rfl : k12 = 1 := yq12
  obtain rfl : n12 = 22 := zq12
  obtain ⟨bq12, kq12, rfl, Nq12, Kq12, g_bq12, szq12, Vq12, Oq12, Eq12⟩ := hQ12
  have N12 := Fr.app N6' Nq12
  have KH12 : Keep h0 T12.heap [r0] := (Keep.refl h0 [r0]).trans Kq12 all0
  have Zn12 : n0 ≤ T12.heap.size := Nat.le_trans Z0 Kq12.1
  have ne_r0_bq12 := nls E0.lt szq12
  have ne_ed_bq12 := nls Vd.lt szq12
  have sz_bq12 : h0.size ≤ bq12 := Nat.le_trans (Keep.refl h0 [r0]).1 szq12
  have N12' : Fr n0 L12 := by rw [lq12]; exact N12
  have ks13 := own_c ks11 st12
  have ks14 : own_R p e below (A0) (T12.setTop (mkF m 41 #[vR r0, vI 16, vI 15, vI 22] [(.ref bq12), (.ref r0), (.ref bq12)])) := fun t k => ks13 t (by
    refine XS.dupX1 X12.here hx rfl (hb hby d16_40) rfl rfl rfl ?_
    exact k)
  have f15 := E0.keep KH12
  have f16 := (Fe.keep Kq12 nin0)
  obtain ⟨T17, h17, X17, e17, W17, st17⟩ := putF X12 hx hZ hown (host := "") (Or.inl (own_w hw 68 rfl)) Via.refl rfl f16 f15 (Or.inl (own_w hw 69 rfl)) (own_w hw 47 rfl) (ty := (.array (.object "java/lang/Object"))) (by decide) rfl rfl (g := (mkF m 41 #[vR r0, vI 16, vI 15, vI 22] [(.ref bq12), (.ref r0), (.ref bq12)])) rfl rfl (hb hby d16_41)
  have Fw17 := f16.same W17
  have KH17 : Keep h0 h17 [r0] := KH12.wr W17 (Or.inl (List.mem_of_getElem? (i := 0) rfl))
  have Zn17 : n0 ≤ h17.size := Nat.le_trans Zn12 (Keep.of_wr W17).1
  have N17 := Fr.snoc X17 N12' g_r0
  have ks18 := own_c ks14 st17
  obtain ⟨fs, hr, hrun, hended, hW, hsame⟩ := X17.leave (v := some (.ref bq12)) (fun h => by rw [Bd.returns] at h; cases h) hlk
  refine ⟨_, _, kz _ (ks18 _ ?_), hrun, hended, _, _, rfl, ?_, ⟨_, rfl⟩, hW, hsame.mono (by decide) (by decide)⟩
  · exact retOut X17 hx Bd.returns rfl (Or.inr (Or.inr (Or.inr (Or.inr ⟨rfl, rfl, rfl⟩)))) (hb hby d16_44) hr
  · show Q16_15 Z r0 ed ked mc es mo h0 n0 _ T17.heap _
    rw [e17]
    have f19 := ((Fz.keep Kq12 nin0).other W17 (Or.inr (slot_ne (Or.inl (own_w hw 81 rfl)) (Or.inl (own_w hw 69 rfl)) (by decide) (t := .int) (t' := (.array (.object "java/lang/Object"))) (by decide) (by decide))))
    have f20 := ((Fm.keep Kq12 nin0).other W17 (Or.inr (slot_ne (Or.inl (own_w hw 66 rfl)) (Or.inl (own_w hw 69 rfl)) (by decide) (t := .int) (t' := (.array (.object "java/lang/Object"))) (by decide) (by decide))))
    have f21 := (Vq12.other W17 (Ne.symm ne_r0_bq12))
    have f22 := (Eq12.wr W17)
    exact ⟨bq12, _, rfl, N17, KH17, g_bq12, sz_bq12, Fw17, f19, f20, f21, Oq12, f22⟩
theorem ef_15_15 (m : MethodId) (x0 : Addr) : entryFrame m #[(.ref x0)] 1 = mkF m 0 #[.val (.ref x0)] [] := by first | (simp [entryFrame, mkF, argsToLocals, Value.category]; done) | rfl
def Q15_15 (Z : State) (r0 : Addr) (ed : Addr) (ked : ClassId) (mc : Int32) (es : List Value) (mo : Addr) (h0 : Heap) (n0 : Nat) (v : Option Value) (h : Heap) (L : List Loc) : Prop := ∃ (b : Addr) (k : ClassId), v = some (.ref b) ∧ Fr n0 L ∧ Keep h0 h [r0] ∧ n0 ≤ b ∧ h0.size ≤ b ∧ Fld Z h r0 "java/util/ArrayList" "elementData" "[Ljava/lang/Object;" (.ref b) ∧ Fld Z h r0 "java/util/ArrayList" "size" "I" (.int 15) ∧ Fld Z h r0 "java/util/AbstractList" "modCount" "I" (.int mc) ∧ Arv Z h b k (.object "java/lang/Object") 22 es .null ∧ Ovr Z k "java/lang/Object" ∧ Exa Z h b "[Ljava/lang/Object;"
set_option maxRecDepth 65536 in
set_option maxHeartbeats 40000000 in
theorem rm15_15 (l : Launch) (Z : State) (a0 : Array Value) (hw : ∀ d ∈ tables_1, d.before a0 Z = true) (ws : List Jvm.Cond) (r0 : Addr) (ed : Addr) (ked : ClassId) (mc : Int32) (es : List Value) (mo : Addr) (h0 : Heap) (n0 : Nat) (Z0 : n0 ≤ h0.size) (E0 : Exa Z h0 r0 "java/util/ArrayList") (Fe : Fld Z h0 r0 "java/util/ArrayList" "elementData" "[Ljava/lang/Object;" (.ref ed)) (Fz : Fld Z h0 r0 "java/util/ArrayList" "size" "I" (.int 15)) (Fm : Fld Z h0 r0 "java/util/AbstractList" "modCount" "I" (.int mc)) (Vd : Arv Z h0 ed ked (.object "java/lang/Object") 15 es .null) (hlen : es.length = 15) (hes : own_hits Z h0 es) (Ed : Exa Z h0 ed "[Ljava/lang/Object;") (Mo : Mir Z "[Ljava/lang/Object;" mo) (g_r0 : n0 ≤ r0) (n0d : r0 ≠ ed) :
    MetFree l Y15 (head1 (Jvm.Cond.code Y15 jdk_38_method_7_code 1 (some (.array (.object "java/lang/Object"))) :: ws) (⟨4, 1, 22, 62⟩ : Room)) (fun a U => a = #[(.ref r0)] ∧ Z.Warmed39 U.vm ∧ U.heap = h0) (fun _ _ _ _ _ => True) (fun _ U o U' => ∃ v L, o = .returned v ∧ Q15_15 Z r0 ed ked mc es mo h0 n0 v U'.heap L ∧ FrameEnd U o U' L (⟨4, 1, 22, 62⟩ : Room).cells (⟨4, 1, 22, 62⟩ : Room).slots) := by
  refine MetFree.of_bodySF (plainFor_of_name pn_15) hisR ?_
  intro p e s m args below meth c s₁ Bd hml0 hP hK
  obtain ⟨rfl, hZ, hh⟩ := hP
  have hx := Bd.exec
  have hby := Bd.bytes
  have hml : c.maxLocals = 1 := hml0
  have hown : s.vm.findClass "java/util/ArrayList" = some m.cls := findClass_of_methodNamed Bd.named
  have hnm := (name_of_methodNamed Bd.named Bd.method).1
  have hlk : meth.locks = false := by first | exact BodyLoose.notSynchronized Bd | exact Body.notSynchronized Bd
  have X0 : Stand p l e (⟨4, 1, 22, 62⟩ : Room) s m #[(.ref r0)] below meth c s₁ [] 0 0 := Stand.of_body Bd
  have e0 : s₁.heap = h0 := by rw [← hh, Bd.state]; rfl
  have N0 := Fr.nil n0
  have k0 : own_R p e below (s₁.setTop (entryFrame m #[(.ref r0)] 1)) (s₁.setTop (mkF m 0 #[vR r0] [])) := fun t k => castTop (ef_15_15 m r0) k
  obtain ⟨A0, hA0⟩ : ∃ z, z = s₁.setTop (entryFrame m #[(.ref r0)] 1) := ⟨_, rfl⟩
  rw [← hA0] at k0
  have kz : ∀ t, Steps p.tables e below A0 t → Steps p.tables e below (s₁.setTop (entryFrame m #[(.ref r0)] 1)) t := fun t q => hA0 ▸ q
  have ks1 : own_R p e below (A0) (s₁.setTop (mkF m 2 #[vR r0] [(.ref r0), (.ref r0)])) := fun t k => k0 t (by
    refine XS.aloadN X0.here hx rfl (hb hby d15_0) rfl rfl ?_
    refine XS.aloadN X0.here hx rfl (hb hby d15_1) rfl rfl ?_
    exact k)
  obtain ⟨T2, X2, e2, st2⟩ := getF X0 hx hZ hown (host := "") (Or.inl (own_w hw 80 rfl)) Via.refl e0 Fz (g := (mkF m 2 #[vR r0] [(.ref r0), (.ref r0)])) rfl rfl (hb hby d15_2)
  have ks3 := own_c ks1 st2
  have ks4 : own_R p e below (A0) (T2.setTop (mkF m 7 #[vR r0] [(.int 16), (.ref r0)])) := fun t k => ks3 t (by
    refine XS.iconst X2.here hx rfl (hb hby d15_5) ?_
    refine XS.iadd X2.here hx rfl (hb hby d15_6) rfl ?_
    exact k)
  obtain ⟨cq5, qc5, qc5'⟩ := E0.cell
  obtain ⟨_, _, ⟨T5, L5, k5, n5⟩, -, X5, ⟨Lc5, hQ5, lq5, yq5, zq5⟩, st5⟩ := X2.privateBack hx (y := Y14) hown (mvT hZ (own_w hw 92 rfl)) (mvT hZ (own_w hw 93 rfl)) (mvT hZ (own_w hw 95 rfl)) (Cond.privateMethod_at (mvP hZ (own_w hw 94 rfl) (args := #[]))) (mvT hZ (own_w hw 96 rfl)) (by decide) (backOf (W := 0) (rm16_15 l Z a0 hw [] r0 ed _ mc es mo h0 n0 Z0 E0 Fe Fz Fm Vd hlen (own_hits_keep hes (Keep.refl h0 [r0])) Ed Mo g_r0 n0d) hZ (own_w hw 96 rfl) (own_w hw 48 rfl) (by decide) (by decide)) (g := (mkF m 7 #[vR r0] [(.int 16), (.ref r0)])) rfl (by rw [hml]; rfl) (Steps.refl _) (a := r0) (by rw [e2]; exact qc5) qc5' (argsL := [(.int 16)]) (rest := []) (lenOf pd_12 rfl) rfl (by show 2 * 0 + _ ≤ _; exact Nat.le_of_eq rfl) (hb hby d15_7) (fun _ _ => ⟨rfl, e2, (by decide : 0 + 1 ≤ _), (by decide : 0 + 22 ≤ _)⟩)
  dsimp only [Pt.U, Pt.locs, Pt.cells, Pt.slots] at X5 lq5 yq5 zq5 st5 hQ5
  obtain rfl : k5 = 1 := yq5
  obtain rfl : n5 = 22 := zq5
  obtain ⟨bq5, kq5, rfl, Nq5, Kq5, g_bq5, szq5, Fe5, Fz5, Fm5, Vq5, Oq5, Eq5⟩ := hQ5
  have N5 := Fr.app N0 Nq5
  have KH5 : Keep h0 T5.heap [r0] := (Keep.refl h0 [r0]).trans Kq5 (allS (Or.inl (List.mem_of_getElem? (i := 0) rfl)) all0)
  have Zn5 : n0 ≤ T5.heap.size := Nat.le_trans Z0 Kq5.1
  have ne_r0_bq5 := nls E0.lt szq5
  have ne_ed_bq5 := nls Vd.lt szq5
  have sz_bq5 : h0.size ≤ bq5 := Nat.le_trans (Keep.refl h0 [r0]).1 szq5
  have N5' : Fr n0 L5 := by rw [lq5]; exact N5
  have ks6 := own_ct ks4 st5
  obtain ⟨fs, hr, hrun, hended, hW, hsame⟩ := X5.leave (v := some (.ref bq5)) (fun h => by rw [Bd.returns] at h; cases h) hlk
  refine ⟨_, _, kz _ (ks6 _ ?_), hrun, hended, _, _, rfl, ?_, ⟨_, rfl⟩, hW, hsame.mono (by decide) (by decide)⟩
  · exact retOut X5 hx Bd.returns rfl (Or.inr (Or.inr (Or.inr (Or.inr ⟨rfl, rfl, rfl⟩)))) (hb hby d15_10) hr
  · show Q15_15 Z r0 ed ked mc es mo h0 n0 _ T5.heap _
    exact ⟨bq5, _, rfl, N5', KH5, g_bq5, sz_bq5, Fe5, Fz5, Fm5, Vq5, Oq5, Eq5⟩
theorem d14_0 : dk bc16 0 (.iload_n 3) 1 := by decide +kernel
theorem d14_1 : dk bc16 1 (.aload_n 2) 1 := by decide +kernel
theorem d14_2 : dk bc16 2 (.arraylength) 1 := by decide +kernel
theorem d14_3 : dk bc16 3 (.if_icmp .ne 8) 3 := by decide +kernel
theorem d14_6 : dk bc16 6 (.aload_n 0) 1 := by decide +kernel
theorem d14_7 : dk bc16 7 (.invokevirtual 129) 3 := by decide +kernel
theorem d14_10 : dk bc16 10 (.astore_n 2) 1 := by decide +kernel
theorem d14_11 : dk bc16 11 (.aload_n 2) 1 := by decide +kernel
theorem d14_12 : dk bc16 12 (.iload_n 3) 1 := by decide +kernel
theorem d14_13 : dk bc16 13 (.aload_n 1) 1 := by decide +kernel
theorem d14_14 : dk bc16 14 (.aastore) 1 := by decide +kernel
theorem d14_15 : dk bc16 15 (.aload_n 0) 1 := by decide +kernel
theorem d14_16 : dk bc16 16 (.iload_n 3) 1 := by decide +kernel
theorem d14_17 : dk bc16 17 (.iconst 1) 1 := by decide +kernel
theorem d14_18 : dk bc16 18 (.iadd) 1 := by decide +kernel
theorem d14_19 : dk bc16 19 (.putfield 48) 3 := by decide +kernel
theorem d14_22 : dk bc16 22 (.return_) 1 := by decide +kernel
theorem pn_14 : plainName "java/util/ArrayList" = true := by first | (simp [plainName, overriddenIn]; done) | decide +kernel
theorem pd_11 : parseMethodDescriptor "()[Ljava/lang/Object;" = some ⟨[], some (.array (.object "java/lang/Object"))⟩ := by decide +kernel
theorem ef_14_z (m : MethodId) (x0 : Addr) (x1 : Addr) (x2 : Addr) (x3 : Int32) : entryFrame m #[(.ref x0), (.ref x1), (.ref x2), (.int x3)] 4 = mkF m 0 #[.val (.ref x0), .val (.ref x1), .val (.ref x2), .val (.int x3)] [] := by first | (simp [entryFrame, mkF, argsToLocals, Value.category]; done) | rfl
def Q14_z (Z : State) (r0 : Addr) (r1 : Addr) (u : Addr) (ku : ClassId) (mc : Int32) (h0 : Heap) (n0 : Nat) (v : Option Value) (h : Heap) (L : List Loc) : Prop := ∃ (b : Addr) (k : ClassId), v = none ∧ Fr n0 L ∧ Keep h0 h [r0] ∧ n0 ≤ b ∧ h0.size ≤ b ∧ Fld Z h r0 "java/util/ArrayList" "elementData" "[Ljava/lang/Object;" (.ref b) ∧ Fld Z h r0 "java/util/ArrayList" "size" "I" (.int 1) ∧ Fld Z h r0 "java/util/AbstractList" "modCount" "I" (.int mc) ∧ Arv Z h b k (.object "java/lang/Object") 10 ([] ++ [.ref r1]) .null ∧ Ovr Z k "java/lang/Object" ∧ Exa Z h b "[Ljava/lang/Object;"
set_option maxRecDepth 65536 in
set_option maxHeartbeats 40000000 in
theorem rm14_z (l : Launch) (Z : State) (a0 : Array Value) (hw : ∀ d ∈ tables_1, d.before a0 Z = true) (ws : List Jvm.Cond) (r0 : Addr) (r1 : Addr) (u : Addr) (ku : ClassId) (mc : Int32) (h0 : Heap) (n0 : Nat) (Z0 : n0 ≤ h0.size) (E0 : Exa Z h0 r0 "java/util/ArrayList") (Fe : Fld Z h0 r0 "java/util/ArrayList" "elementData" "[Ljava/lang/Object;" (.ref u)) (Fz : Fld Z h0 r0 "java/util/ArrayList" "size" "I" (.int 0)) (Fm : Fld Z h0 r0 "java/util/AbstractList" "modCount" "I" (.int mc)) (Sd : Sta Z h0 "java/util/ArrayList" "DEFAULTCAPACITY_EMPTY_ELEMENTDATA" "[Ljava/lang/Object;" (.ref u)) (Vu : Arv Z h0 u ku (.object "java/lang/Object") 0 [] .null) (g_r0 : n0 ≤ r0) (n0u : r0 ≠ u) (E1 : Exa Z h0 r1 "com/example/carved_corpus/carvedcorpus/Hit") :
    MetFree l Y16 (head1 (Jvm.Cond.code Y16 jdk_38_method_24_code 4 none :: ws) (⟨3, 1, 10, 41⟩ : Room)) (fun a U => a = #[(.ref r0), (.ref r1), (.ref u), (.int 0)] ∧ Z.Warmed39 U.vm ∧ U.heap = h0) (fun _ _ _ _ _ => True) (fun _ U o U' => ∃ v L, o = .returned v ∧ Q14_z Z r0 r1 u ku mc h0 n0 v U'.heap L ∧ FrameEnd U o U' L (⟨3, 1, 10, 41⟩ : Room).cells (⟨3, 1, 10, 41⟩ : Room).slots) := by
  refine MetFree.of_bodySF (plainFor_of_name pn_14) hisR ?_
  intro p e s m args below meth c s₁ Bd hml0 hP hK
  obtain ⟨rfl, hZ, hh⟩ := hP
  have hx := Bd.exec
  have hby := Bd.bytes
  have hml : c.maxLocals = 4 := hml0
  have hown : s.vm.findClass "java/util/ArrayList" = some m.cls := findClass_of_methodNamed Bd.named
  have hnm := (name_of_methodNamed Bd.named Bd.method).1
  have hlk : meth.locks = false := by first | exact BodyLoose.notSynchronized Bd | exact Body.notSynchronized Bd
  have X0 : Stand p l e (⟨3, 1, 10, 41⟩ : Room) s m #[(.ref r0), (.ref r1), (.ref u), (.int 0)] below meth c s₁ [] 0 0 := Stand.of_body Bd
  have e0 : s₁.heap = h0 := by rw [← hh, Bd.state]; rfl
  have N0 := Fr.nil n0
  have k0 : own_R p e below (s₁.setTop (entryFrame m #[(.ref r0), (.ref r1), (.ref u), (.int 0)] 4)) (s₁.setTop (mkF m 0 #[vR r0, vR r1, vR u, vI 0] [])) := fun t k => castTop (ef_14_z m r0 r1 u (0 : Int32)) k
  obtain ⟨A0, hA0⟩ : ∃ z, z = s₁.setTop (entryFrame m #[(.ref r0), (.ref r1), (.ref u), (.int 0)] 4) := ⟨_, rfl⟩
  rw [← hA0] at k0
  have kz : ∀ t, Steps p.tables e below A0 t → Steps p.tables e below (s₁.setTop (entryFrame m #[(.ref r0), (.ref r1), (.ref u), (.int 0)] 4)) t := fun t q => hA0 ▸ q
  have ks1 : own_R p e below (A0) (s₁.setTop (mkF m 2 #[vR r0, vR r1, vR u, vI 0] [(.ref u), (.int 0)])) := fun t k => k0 t (by
    refine XS.iloadN X0.here hx rfl (hb hby d14_0) rfl ?_
    refine XS.aloadN X0.here hx rfl (hb hby d14_1) rfl rfl ?_
    exact k)
  obtain ⟨cl2, Ar2, qa2, S2, Na2, Ha2, Ga2⟩ := id Vu
  have ks3 : own_R p e below (A0) (s₁.setTop (mkF m 7 #[vR r0, vR r1, vR u, vI 0] [(.ref r0)])) := fun t k => ks1 t (by
    refine X0.arraylength hx (by rw [e0]; exact Ar2.1) (State.isArrayOf_alike hZ.alike Ar2.2.1) (g := (mkF m 2 #[vR r0, vR r1, vR u, vI 0] [(.ref u), (.int 0)])) rfl rfl (hb hby d14_2) _ ?_
    rw [len_of S2 Na2]
    refine XS.icmpNo X0.here hx rfl (hb hby d14_3) rfl (teq (by decide)).2 ?_
    refine XS.aloadN X0.here hx rfl (hb hby d14_6) rfl rfl ?_
    exact k)
  obtain ⟨cq4, qc4, qc4'⟩ := E0.cell
  obtain ⟨_, _, ⟨T4, L4, k4, n4⟩, -, X4, ⟨Lc4, hQ4, lq4, yq4, zq4⟩, st4⟩ := X0.privateBack hx (y := Y15) hown (mvT hZ (own_w hw 87 rfl)) (mvT hZ (own_w hw 88 rfl)) (mvT hZ (own_w hw 90 rfl)) (Cond.privateMethod_at (mvP hZ (own_w hw 89 rfl) (args := #[]))) (mvT hZ (own_w hw 91 rfl)) (by decide) (backOf (W := 0) (rm15_z l Z a0 hw [] r0 u _ mc h0 n0 Z0 E0 Fe Fz Fm Sd Vu g_r0 n0u) hZ (own_w hw 91 rfl) (own_w hw 48 rfl) (by decide) (by decide)) (g := (mkF m 7 #[vR r0, vR r1, vR u, vI 0] [(.ref r0)])) rfl (by rw [hml]; rfl) (Steps.refl _) (a := r0) (by rw [e0]; exact qc4) qc4' (argsL := []) (rest := []) (lenOf pd_11 rfl) rfl (by show 2 * 0 + _ ≤ _; exact Nat.le_of_eq rfl) (hb hby d14_7) (fun _ _ => ⟨rfl, e0, (by decide : 0 + 1 ≤ _), (by decide : 0 + 10 ≤ _)⟩)
  dsimp only [Pt.U, Pt.locs, Pt.cells, Pt.slots] at X4 lq4 yq4 zq4 st4 hQ4
  obtain rfl : k4 = 1 := yq4
  obtain rfl : n4 = 10 := zq4
  obtain ⟨bq4, kq4, rfl, Nq4, Kq4, g_bq4, szq4, Fe4, Fz4, Fm4, Vq4, Oq4, Eq4⟩ := hQ4
  have N4 := Fr.app N0 Nq4
  have KH4 : Keep h0 T4.heap [r0] := (Keep.refl h0 [r0]).trans Kq4 (allS (Or.inl (List.mem_of_getElem? (i := 0) rfl)) all0)
  have Zn4 : n0 ≤ T4.heap.size := Nat.le_trans Z0 Kq4.1
  have ne_r0_bq4 := nls E0.lt szq4
  have ne_u_bq4 := nls Vu.lt szq4
  have ne_r1_bq4 := nls E1.lt szq4
  have sz_bq4 : h0.size ≤ bq4 := Nat.le_trans (Keep.refl h0 [r0]).1 szq4
  have N4' : Fr n0 L4 := by rw [lq4]; exact N4
  have ks5 := own_ct ks3 st4
  have ks6 : own_R p e below (A0) (T4.setTop (mkF m 14 #[vR r0, vR r1, vR bq4, vI 0] [(.ref r1), (.int 0), (.ref bq4)])) := fun t k => ks5 t (by
    refine XS.astoreN X4.here hx rfl (hb hby d14_10) rfl rfl (l' := #[vR r0, vR r1, vR bq4, vI 0]) rfl ?_
    refine XS.aloadN X4.here hx rfl (hb hby d14_11) rfl rfl ?_
    refine XS.iloadN X4.here hx rfl (hb hby d14_12) rfl ?_
    show Steps p.tables e below (T4.setTop (mkF m 13 #[vR r0, vR r1, vR bq4, vI 0] [(.int 0), (.ref bq4)])) _
    refine XS.aloadN X4.here hx rfl (hb hby d14_13) rfl rfl ?_
    exact k)
  obtain ⟨cl7, Ar7, qa7, S7, Na7, Ha7, Ga7⟩ := id Vq4
  have f8 := E1.keep KH4
  have hin7 : ¬ ((0 : Int32) < 0 ∨ cl7.slots.size ≤ ((0 : Int32)).toNatClampNeg) := inb_of S7 ⟨by decide, by decide⟩
  obtain ⟨T9, h9, X9, e9, W9, st9⟩ := stR X4 hx hZ rfl Ar7 (j := (0 : Int32)) hin7 rfl (Sto.ofV Ar7 qa7 Oq4 (Ins.of_exa f8 (own_w hw 102 rfl))) (g := (mkF m 14 #[vR r0, vR r1, vR bq4, vI 0] [(.ref r1), (.int 0), (.ref bq4)])) rfl rfl (hb hby d14_14)
  have V9 : Arv Z h9 bq4 kq4 (.object "java/lang/Object") (10 : Int32) ([] ++ [.ref r1]) .null := own_set Vq4 rfl W9 rfl
  have KH9 : Keep h0 h9 [r0] := KH4.wr W9 (Or.inr sz_bq4)
  have Zn9 : n0 ≤ h9.size := Nat.le_trans Zn4 (Keep.of_wr W9).1
  have N9 := Fr.snoc X9 N4' g_bq4
  have ks10 := own_c ks6 st9
  have ks11 : own_R p e below (A0) (T9.setTop (mkF m 19 #[vR r0, vR r1, vR bq4, vI 0] [(.int 1), (.ref r0)])) := fun t k => ks10 t (by
    refine XS.aloadN X9.here hx rfl (hb hby d14_15) rfl rfl ?_
    refine XS.iloadN X9.here hx rfl (hb hby d14_16) rfl ?_
    refine XS.iconst X9.here hx rfl (hb hby d14_17) ?_
    show Steps p.tables e below (T9.setTop (mkF m 18 #[vR r0, vR r1, vR bq4, vI 0] [(.int 1), (.int 0), (.ref r0)])) _
    refine XS.iadd X9.here hx rfl (hb hby d14_18) rfl ?_
    exact k)
  have f12 := E0.keep KH9
  have f13 := (Fz4.other W9 (Or.inl ne_r0_bq4))
  obtain ⟨T14, h14, X14, e14, W14, st14⟩ := putF X9 hx hZ hown (host := "") (Or.inl (own_w hw 80 rfl)) Via.refl e9 f13 f12 (Or.inl (own_w hw 81 rfl)) (own_w hw 47 rfl) (ty := .int) (by decide) rfl rfl (g := (mkF m 19 #[vR r0, vR r1, vR bq4, vI 0] [(.int 1), (.ref r0)])) rfl rfl (hb hby d14_19)
  have Fw14 := f13.same W14
  have KH14 : Keep h0 h14 [r0] := KH9.wr W14 (Or.inl (List.mem_of_getElem? (i := 0) rfl))
  have Zn14 : n0 ≤ h14.size := Nat.le_trans Zn9 (Keep.of_wr W14).1
  have N14 := Fr.snoc X14 N9 g_r0
  have ks15 := own_c ks11 st14
  obtain ⟨fs, hr, hrun, hended, hW, hsame⟩ := X14.leave (v := none) (fun _ => rfl) hlk
  refine ⟨_, _, kz _ (ks15 _ ?_), hrun, hended, _, _, rfl, ?_, ⟨_, rfl⟩, hW, hsame.mono (by decide) (by decide)⟩
  · exact X14.returnOut hx Bd.returns (hb hby d14_22) hr
  · show Q14_z Z r0 r1 u ku mc h0 n0 _ T14.heap _
    rw [e14]
    have f16 := ((Fe4.other W9 (Or.inl ne_r0_bq4)).other W14 (Or.inr (slot_ne (Or.inl (own_w hw 69 rfl)) (Or.inl (own_w hw 81 rfl)) (by decide) (t := (.array (.object "java/lang/Object"))) (t' := .int) (by decide) (by decide))))
    have f17 := ((Fm4.other W9 (Or.inl ne_r0_bq4)).other W14 (Or.inr (slot_ne (Or.inl (own_w hw 66 rfl)) (Or.inl (own_w hw 81 rfl)) (by decide) (t := .int) (t' := .int) (by decide) (by decide))))
    have f18 := (V9.other W14 (Ne.symm ne_r0_bq4))
    have f19 := ((Eq4.wr W9).wr W14)
    exact ⟨bq4, _, rfl, N14, KH14, g_bq4, sz_bq4, f16, Fw14, f17, f18, Oq4, f19⟩
theorem d13_0 : dk bc17 0 (.aload_n 0) 1 := by decide +kernel
theorem d13_1 : dk bc17 1 (.dup) 1 := by decide +kernel
theorem d13_2 : dk bc17 2 (.getfield 63) 3 := by decide +kernel
theorem d13_5 : dk bc17 5 (.iconst 1) 1 := by decide +kernel
theorem d13_6 : dk bc17 6 (.iadd) 1 := by decide +kernel
theorem d13_7 : dk bc17 7 (.putfield 63) 3 := by decide +kernel
theorem d13_10 : dk bc17 10 (.aload_n 0) 1 := by decide +kernel
theorem d13_11 : dk bc17 11 (.aload_n 1) 1 := by decide +kernel
theorem d13_12 : dk bc17 12 (.aload_n 0) 1 := by decide +kernel
theorem d13_13 : dk bc17 13 (.getfield 9) 3 := by decide +kernel
theorem d13_16 : dk bc17 16 (.aload_n 0) 1 := by decide +kernel
theorem d13_17 : dk bc17 17 (.getfield 48) 3 := by decide +kernel
theorem d13_20 : dk bc17 20 (.invokevirtual 131) 3 := by decide +kernel
theorem d13_23 : dk bc17 23 (.iconst 1) 1 := by decide +kernel
theorem d13_24 : dk bc17 24 (.ireturn) 1 := by decide +kernel
theorem pn_13 : plainName "java/util/ArrayList" = true := by first | (simp [plainName, overriddenIn]; done) | decide +kernel
theorem pd_10 : parseMethodDescriptor "(Ljava/lang/Object;[Ljava/lang/Object;I)V" = some ⟨[(.object "java/lang/Object"), (.array (.object "java/lang/Object")), .int], none⟩ := by decide +kernel
theorem ef_13_z (m : MethodId) (x0 : Addr) (x1 : Addr) : entryFrame m #[(.ref x0), (.ref x1)] 2 = mkF m 0 #[.val (.ref x0), .val (.ref x1)] [] := by first | (simp [entryFrame, mkF, argsToLocals, Value.category]; done) | rfl
def Q13_z (Z : State) (r0 : Addr) (r1 : Addr) (u : Addr) (ku : ClassId) (mc : Int32) (h0 : Heap) (n0 : Nat) (v : Option Value) (h : Heap) (L : List Loc) : Prop := ∃ (b : Addr) (k : ClassId), v = some (.int 1) ∧ Fr n0 L ∧ Keep h0 h [r0] ∧ n0 ≤ b ∧ h0.size ≤ b ∧ Fld Z h r0 "java/util/ArrayList" "elementData" "[Ljava/lang/Object;" (.ref b) ∧ Fld Z h r0 "java/util/ArrayList" "size" "I" (.int 1) ∧ Fld Z h r0 "java/util/AbstractList" "modCount" "I" (.int (mc + 1)) ∧ Arv Z h b k (.object "java/lang/Object") 10 ([] ++ [.ref r1]) .null ∧ Ovr Z k "java/lang/Object" ∧ Exa Z h b "[Ljava/lang/Object;"
set_option maxRecDepth 65536 in
set_option maxHeartbeats 40000000 in
theorem rm13_z (l : Launch) (Z : State) (a0 : Array Value) (hw : ∀ d ∈ tables_1, d.before a0 Z = true) (ws : List Jvm.Cond) (r0 : Addr) (r1 : Addr) (u : Addr) (ku : ClassId) (mc : Int32) (h0 : Heap) (n0 : Nat) (Z0 : n0 ≤ h0.size) (E0 : Exa Z h0 r0 "java/util/ArrayList") (Fe : Fld Z h0 r0 "java/util/ArrayList" "elementData" "[Ljava/lang/Object;" (.ref u)) (Fz : Fld Z h0 r0 "java/util/ArrayList" "size" "I" (.int 0)) (Fm : Fld Z h0 r0 "java/util/AbstractList" "modCount" "I" (.int mc)) (Sd : Sta Z h0 "java/util/ArrayList" "DEFAULTCAPACITY_EMPTY_ELEMENTDATA" "[Ljava/lang/Object;" (.ref u)) (Vu : Arv Z h0 u ku (.object "java/lang/Object") 0 [] .null) (g_r0 : n0 ≤ r0) (n0u : r0 ≠ u) (E1 : Exa Z h0 r1 "com/example/carved_corpus/carvedcorpus/Hit") :
    MetFree l Y17 (head1 (Jvm.Cond.code Y17 jdk_38_method_25_code 2 (some .boolean) :: ws) (⟨4, 1, 10, 56⟩ : Room)) (fun a U => a = #[(.ref r0), (.ref r1)] ∧ Z.Warmed39 U.vm ∧ U.heap = h0) (fun _ _ _ _ _ => True) (fun _ U o U' => ∃ v L, o = .returned v ∧ Q13_z Z r0 r1 u ku mc h0 n0 v U'.heap L ∧ FrameEnd U o U' L (⟨4, 1, 10, 56⟩ : Room).cells (⟨4, 1, 10, 56⟩ : Room).slots) := by
  refine MetFree.of_bodySF (plainFor_of_name pn_13) hisR ?_
  intro p e s m args below meth c s₁ Bd hml0 hP hK
  obtain ⟨rfl, hZ, hh⟩ := hP
  have hx := Bd.exec
  have hby := Bd.bytes
  have hml : c.maxLocals = 2 := hml0
  have hown : s.vm.findClass "java/util/ArrayList" = some m.cls := findClass_of_methodNamed Bd.named
  have hnm := (name_of_methodNamed Bd.named Bd.method).1
  have hlk : meth.locks = false := by first | exact BodyLoose.notSynchronized Bd | exact Body.notSynchronized Bd
  have X0 : Stand p l e (⟨4, 1, 10, 56⟩ : Room) s m #[(.ref r0), (.ref r1)] below meth c s₁ [] 0 0 := Stand.of_body Bd
  have e0 : s₁.heap = h0 := by rw [← hh, Bd.state]; rfl
  have N0 := Fr.nil n0
  have k0 : own_R p e below (s₁.setTop (entryFrame m #[(.ref r0), (.ref r1)] 2)) (s₁.setTop (mkF m 0 #[vR r0, vR r1] [])) := fun t k => castTop (ef_13_z m r0 r1) k
  obtain ⟨A0, hA0⟩ : ∃ z, z = s₁.setTop (entryFrame m #[(.ref r0), (.ref r1)] 2) := ⟨_, rfl⟩
  rw [← hA0] at k0
  have kz : ∀ t, Steps p.tables e below A0 t → Steps p.tables e below (s₁.setTop (entryFrame m #[(.ref r0), (.ref r1)] 2)) t := fun t q => hA0 ▸ q
  have ks1 : own_R p e below (A0) (s₁.setTop (mkF m 2 #[vR r0, vR r1] [(.ref r0), (.ref r0)])) := fun t k => k0 t (by
    refine XS.aloadN X0.here hx rfl (hb hby d13_0) rfl rfl ?_
    refine XS.dup X0.here hx rfl (hb hby d13_1) rfl rfl ?_
    exact k)
  obtain ⟨T2, X2, e2, st2⟩ := getF X0 hx hZ hown (host := "") (Or.inl (own_w hw 78 rfl)) (Via.of (own_w hw 79 rfl)) e0 Fm (g := (mkF m 2 #[vR r0, vR r1] [(.ref r0), (.ref r0)])) rfl rfl (hb hby d13_2)
  have ks3 := own_c ks1 st2
  have ks4 : own_R p e below (A0) (T2.setTop (mkF m 7 #[vR r0, vR r1] [(.int (mc + (1 : Int32))), (.ref r0)])) := fun t k => ks3 t (by
    refine XS.iconst X2.here hx rfl (hb hby d13_5) ?_
    refine XS.iadd X2.here hx rfl (hb hby d13_6) rfl ?_
    exact k)
  obtain ⟨T5, h5, X5, e5, W5, st5⟩ := putF X2 hx hZ hown (host := "") (Or.inl (own_w hw 78 rfl)) (Via.of (own_w hw 79 rfl)) e2 Fm E0 (Or.inl (own_w hw 66 rfl)) (own_w hw 47 rfl) (ty := .int) (by decide) rfl rfl (g := (mkF m 7 #[vR r0, vR r1] [(.int (mc + (1 : Int32))), (.ref r0)])) rfl rfl (hb hby d13_7)
  have Fw5 := Fm.same W5
  have KH5 : Keep h0 h5 [r0] := (Keep.refl h0 [r0]).wr W5 (Or.inl (List.mem_of_getElem? (i := 0) rfl))
  have Zn5 : n0 ≤ h5.size := Nat.le_trans Z0 (Keep.of_wr W5).1
  have N5 := Fr.snoc X5 N0 g_r0
  have ks6 := own_c ks4 st5
  have ks7 : own_R p e below (A0) (T5.setTop (mkF m 13 #[vR r0, vR r1] [(.ref r0), (.ref r1), (.ref r0)])) := fun t k => ks6 t (by
    refine XS.aloadN X5.here hx rfl (hb hby d13_10) rfl rfl ?_
    refine XS.aloadN X5.here hx rfl (hb hby d13_11) rfl rfl ?_
    refine XS.aloadN X5.here hx rfl (hb hby d13_12) rfl rfl ?_
    exact k)
  have f8 := (Fe.other W5 (Or.inr (slot_ne (Or.inl (own_w hw 69 rfl)) (Or.inl (own_w hw 66 rfl)) (by decide) (t := (.array (.object "java/lang/Object"))) (t' := .int) (by decide) (by decide))))
  obtain ⟨T9, X9, e9, st9⟩ := getF X5 hx hZ hown (host := "") (Or.inl (own_w hw 68 rfl)) Via.refl e5 f8 (g := (mkF m 13 #[vR r0, vR r1] [(.ref r0), (.ref r1), (.ref r0)])) rfl rfl (hb hby d13_13)
  have ks10 := own_c ks7 st9
  have ks11 : own_R p e below (A0) (T9.setTop (mkF m 17 #[vR r0, vR r1] [(.ref r0), (.ref u), (.ref r1), (.ref r0)])) := fun t k => ks10 t (by
    refine XS.aloadN X9.here hx rfl (hb hby d13_16) rfl rfl ?_
    exact k)
  have f12 := (Fz.other W5 (Or.inr (slot_ne (Or.inl (own_w hw 81 rfl)) (Or.inl (own_w hw 66 rfl)) (by decide) (t := .int) (t' := .int) (by decide) (by decide))))
  obtain ⟨T13, X13, e13, st13⟩ := getF X9 hx hZ hown (host := "") (Or.inl (own_w hw 80 rfl)) Via.refl e9 f12 (g := (mkF m 17 #[vR r0, vR r1] [(.ref r0), (.ref u), (.ref r1), (.ref r0)])) rfl rfl (hb hby d13_17)
  have ks14 := own_c ks11 st13
  have f16 := E0.keep KH5
  have f17 := (Sd.wr W5)
  have f18 := Vu.keep KH5 (ninS (Ne.symm n0u) nin0)
  have f19 := E1.keep KH5
  obtain ⟨cq15, qc15, qc15'⟩ := f16.cell
  obtain ⟨_, _, ⟨T15, L15, k15, n15⟩, -, X15, ⟨Lc15, hQ15, lq15, yq15, zq15⟩, st15⟩ := X13.privateBack hx (y := Y16) hown (mvT hZ (own_w hw 82 rfl)) (mvT hZ (own_w hw 83 rfl)) (mvT hZ (own_w hw 85 rfl)) (Cond.privateMethod_at (mvP hZ (own_w hw 84 rfl) (args := #[]))) (mvT hZ (own_w hw 86 rfl)) (by decide) (backOf (W := 0) (rm14_z l Z a0 hw [] r0 r1 u _ (mc + (1 : Int32)) h5 n0 Zn5 f16 f8 f12 Fw5 f17 f18 g_r0 n0u f19) hZ (own_w hw 86 rfl) (own_w hw 48 rfl) (by decide) (by decide)) (g := (mkF m 20 #[vR r0, vR r1] [(.int 0), (.ref u), (.ref r1), (.ref r0)])) rfl (by rw [hml]; rfl) (Steps.refl _) (a := r0) (by rw [e13]; exact qc15) qc15' (argsL := [(.ref r1), (.ref u), (.int 0)]) (rest := []) (lenOf pd_10 rfl) rfl (by show 2 * 0 + _ ≤ _; exact Nat.le_of_eq rfl) (hb hby d13_20) (fun _ _ => ⟨rfl, e13, (by decide : 0 + 1 ≤ _), (by decide : 0 + 10 ≤ _)⟩)
  dsimp only [Pt.U, Pt.locs, Pt.cells, Pt.slots] at X15 lq15 yq15 zq15 st15 hQ15
  obtain rfl : k15 = 1 := yq15
  obtain rfl : n15 = 10 := zq15
  obtain ⟨bq15, kq15, rfl, Nq15, Kq15, g_bq15, szq15, Fe15, Fz15, Fm15, Vq15, Oq15, Eq15⟩ := hQ15
  have N15 := Fr.app N5 Nq15
  have KH15 : Keep h0 T15.heap [r0] := KH5.trans Kq15 (allS (Or.inl (List.mem_of_getElem? (i := 0) rfl)) all0)
  have Zn15 : n0 ≤ T15.heap.size := Nat.le_trans Zn5 Kq15.1
  have ne_r0_bq15 := nls f16.lt szq15
  have ne_u_bq15 := nls f18.lt szq15
  have ne_r1_bq15 := nls f19.lt szq15
  have sz_bq15 : h0.size ≤ bq15 := Nat.le_trans KH5.1 szq15
  have N15' : Fr n0 L15 := by rw [lq15]; exact N15
  have ks20 := own_ct ks14 st15
  have ks21 : own_R p e below (A0) (T15.setTop (mkF m 24 #[vR r0, vR r1] [(.int 1)])) := fun t k => ks20 t (by
    refine XS.iconst X15.here hx rfl (hb hby d13_23) ?_
    exact k)
  obtain ⟨fs, hr, hrun, hended, hW, hsame⟩ := X15.leave (v := some (.int 1)) (fun h => by rw [Bd.returns] at h; cases h) hlk
  refine ⟨_, _, kz _ (ks21 _ ?_), hrun, hended, _, _, rfl, ?_, ⟨_, rfl⟩, hW, hsame.mono (by decide) (by decide)⟩
  · exact retN X15 hx (t := .boolean) Bd.returns (by simp) (hb hby d13_24) hr
  · show Q13_z Z r0 r1 u ku mc h0 n0 _ T15.heap _
    exact ⟨bq15, _, rfl, N15', KH15, g_bq15, sz_bq15, Fe15, Fz15, Fm15, Vq15, Oq15, Eq15⟩
theorem ef_14_10 (m : MethodId) (x0 : Addr) (x1 : Addr) (x2 : Addr) (x3 : Int32) : entryFrame m #[(.ref x0), (.ref x1), (.ref x2), (.int x3)] 4 = mkF m 0 #[.val (.ref x0), .val (.ref x1), .val (.ref x2), .val (.int x3)] [] := by first | (simp [entryFrame, mkF, argsToLocals, Value.category]; done) | rfl
def Q14_10 (Z : State) (r0 : Addr) (r1 : Addr) (ed : Addr) (ked : ClassId) (mc : Int32) (es : List Value) (mo : Addr) (h0 : Heap) (n0 : Nat) (v : Option Value) (h : Heap) (L : List Loc) : Prop := ∃ (b : Addr) (k : ClassId), v = none ∧ Fr n0 L ∧ Keep h0 h [r0] ∧ n0 ≤ b ∧ h0.size ≤ b ∧ Fld Z h r0 "java/util/ArrayList" "elementData" "[Ljava/lang/Object;" (.ref b) ∧ Fld Z h r0 "java/util/ArrayList" "size" "I" (.int 11) ∧ Fld Z h r0 "java/util/AbstractList" "modCount" "I" (.int mc) ∧ Arv Z h b k (.object "java/lang/Object") 15 (es ++ [.ref r1]) .null ∧ Ovr Z k "java/lang/Object" ∧ Exa Z h b "[Ljava/lang/Object;"
set_option maxRecDepth 65536 in
set_option maxHeartbeats 40000000 in
theorem rm14_10 (l : Launch) (Z : State) (a0 : Array Value) (hw : ∀ d ∈ tables_1, d.before a0 Z = true) (ws : List Jvm.Cond) (r0 : Addr) (r1 : Addr) (ed : Addr) (ked : ClassId) (mc : Int32) (es : List Value) (mo : Addr) (h0 : Heap) (n0 : Nat) (Z0 : n0 ≤ h0.size) (E0 : Exa Z h0 r0 "java/util/ArrayList") (Fe : Fld Z h0 r0 "java/util/ArrayList" "elementData" "[Ljava/lang/Object;" (.ref ed)) (Fz : Fld Z h0 r0 "java/util/ArrayList" "size" "I" (.int 10)) (Fm : Fld Z h0 r0 "java/util/AbstractList" "modCount" "I" (.int mc)) (Vd : Arv Z h0 ed ked (.object "java/lang/Object") 10 es .null) (hlen : es.length = 10) (hes : own_hits Z h0 es) (Ed : Exa Z h0 ed "[Ljava/lang/Object;") (Mo : Mir Z "[Ljava/lang/Object;" mo) (g_r0 : n0 ≤ r0) (n0d : r0 ≠ ed) (E1 : Exa Z h0 r1 "com/example/carved_corpus/carvedcorpus/Hit") :
    MetFree l Y16 (head1 (Jvm.Cond.code Y16 jdk_38_method_24_code 4 none :: ws) (⟨5, 1, 15, 74⟩ : Room)) (fun a U => a = #[(.ref r0), (.ref r1), (.ref ed), (.int 10)] ∧ Z.Warmed39 U.vm ∧ U.heap = h0) (fun _ _ _ _ _ => True) (fun _ U o U' => ∃ v L, o = .returned v ∧ Q14_10 Z r0 r1 ed ked mc es mo h0 n0 v U'.heap L ∧ FrameEnd U o U' L (⟨5, 1, 15, 74⟩ : Room).cells (⟨5, 1, 15, 74⟩ : Room).slots) := by
  refine MetFree.of_bodySF (plainFor_of_name pn_14) hisR ?_
  intro p e s m args below meth c s₁ Bd hml0 hP hK
  obtain ⟨rfl, hZ, hh⟩ := hP
  have hx := Bd.exec
  have hby := Bd.bytes
  have hml : c.maxLocals = 4 := hml0
  have hown : s.vm.findClass "java/util/ArrayList" = some m.cls := findClass_of_methodNamed Bd.named
  have hnm := (name_of_methodNamed Bd.named Bd.method).1
  have hlk : meth.locks = false := by first | exact BodyLoose.notSynchronized Bd | exact Body.notSynchronized Bd
  have X0 : Stand p l e (⟨5, 1, 15, 74⟩ : Room) s m #[(.ref r0), (.ref r1), (.ref ed), (.int 10)] below meth c s₁ [] 0 0 := Stand.of_body Bd
  have e0 : s₁.heap = h0 := by rw [← hh, Bd.state]; rfl
  have N0 := Fr.nil n0
  have k0 : own_R p e below (s₁.setTop (entryFrame m #[(.ref r0), (.ref r1), (.ref ed), (.int 10)] 4)) (s₁.setTop (mkF m 0 #[vR r0, vR r1, vR ed, vI 10] [])) := fun t k => castTop (ef_14_10 m r0 r1 ed (10 : Int32)) k
  obtain ⟨A0, hA0⟩ : ∃ z, z = s₁.setTop (entryFrame m #[(.ref r0), (.ref r1), (.ref ed), (.int 10)] 4) := ⟨_, rfl⟩
  rw [← hA0] at k0
  have kz : ∀ t, Steps p.tables e below A0 t → Steps p.tables e below (s₁.setTop (entryFrame m #[(.ref r0), (.ref r1), (.ref ed), (.int 10)] 4)) t := fun t q => hA0 ▸ q
  have ks1 : own_R p e below (A0) (s₁.setTop (mkF m 2 #[vR r0, vR r1, vR ed, vI 10] [(.ref ed), (.int 10)])) := fun t k => k0 t (by
    refine XS.iloadN X0.here hx rfl (hb hby d14_0) rfl ?_
    refine XS.aloadN X0.here hx rfl (hb hby d14_1) rfl rfl ?_
    exact k)
  obtain ⟨cl2, Ar2, qa2, S2, Na2, Ha2, Ga2⟩ := id Vd
  have ks3 : own_R p e below (A0) (s₁.setTop (mkF m 7 #[vR r0, vR r1, vR ed, vI 10] [(.ref r0)])) := fun t k => ks1 t (by
    refine X0.arraylength hx (by rw [e0]; exact Ar2.1) (State.isArrayOf_alike hZ.alike Ar2.2.1) (g := (mkF m 2 #[vR r0, vR r1, vR ed, vI 10] [(.ref ed), (.int 10)])) rfl rfl (hb hby d14_2) _ ?_
    rw [len_of S2 Na2]
    refine XS.icmpNo X0.here hx rfl (hb hby d14_3) rfl (teq (by decide)).2 ?_
    refine XS.aloadN X0.here hx rfl (hb hby d14_6) rfl rfl ?_
    exact k)
  obtain ⟨cq4, qc4, qc4'⟩ := E0.cell
  obtain ⟨_, _, ⟨T4, L4, k4, n4⟩, -, X4, ⟨Lc4, hQ4, lq4, yq4, zq4⟩, st4⟩ := X0.privateBack hx (y := Y15) hown (mvT hZ (own_w hw 87 rfl)) (mvT hZ (own_w hw 88 rfl)) (mvT hZ (own_w hw 90 rfl)) (Cond.privateMethod_at (mvP hZ (own_w hw 89 rfl) (args := #[]))) (mvT hZ (own_w hw 91 rfl)) (by decide) (backOf (W := 0) (rm15_10 l Z a0 hw [] r0 ed _ mc es mo h0 n0 Z0 E0 Fe Fz Fm Vd hlen (own_hits_keep hes (Keep.refl h0 [r0])) Ed Mo g_r0 n0d) hZ (own_w hw 91 rfl) (own_w hw 48 rfl) (by decide) (by decide)) (g := (mkF m 7 #[vR r0, vR r1, vR ed, vI 10] [(.ref r0)])) rfl (by rw [hml]; rfl) (Steps.refl _) (a := r0) (by rw [e0]; exact qc4) qc4' (argsL := []) (rest := []) (lenOf pd_11 rfl) rfl (by show 2 * 0 + _ ≤ _; exact Nat.le_of_eq rfl) (hb hby d14_7) (fun _ _ => ⟨rfl, e0, (by decide : 0 + 1 ≤ _), (by decide : 0 + 15 ≤ _)⟩)
  dsimp only [Pt.U, Pt.locs, Pt.cells, Pt.slots] at X4 lq4 yq4 zq4 st4 hQ4
  obtain rfl : k4 = 1 := yq4
  obtain rfl : n4 = 15 := zq4
  obtain ⟨bq4, kq4, rfl, Nq4, Kq4, g_bq4, szq4, Fe4, Fz4, Fm4, Vq4, Oq4, Eq4⟩ := hQ4
  have N4 := Fr.app N0 Nq4
  have KH4 : Keep h0 T4.heap [r0] := (Keep.refl h0 [r0]).trans Kq4 (allS (Or.inl (List.mem_of_getElem? (i := 0) rfl)) all0)
  have Zn4 : n0 ≤ T4.heap.size := Nat.le_trans Z0 Kq4.1
  have ne_r0_bq4 := nls E0.lt szq4
  have ne_ed_bq4 := nls Vd.lt szq4
  have ne_r1_bq4 := nls E1.lt szq4
  have sz_bq4 : h0.size ≤ bq4 := Nat.le_trans (Keep.refl h0 [r0]).1 szq4
  have N4' : Fr n0 L4 := by rw [lq4]; exact N4
  have ks5 := own_ct ks3 st4
  have ks6 : own_R p e below (A0) (T4.setTop (mkF m 14 #[vR r0, vR r1, vR bq4, vI 10] [(.ref r1), (.int 10), (.ref bq4)])) := fun t k => ks5 t (by
    refine XS.astoreN X4.here hx rfl (hb hby d14_10) rfl rfl (l' := #[vR r0, vR r1, vR bq4, vI 10]) rfl ?_
    refine XS.aloadN X4.here hx rfl (hb hby d14_11) rfl rfl ?_
    refine XS.iloadN X4.here hx rfl (hb hby d14_12) rfl ?_
    show Steps p.tables e below (T4.setTop (mkF m 13 #[vR r0, vR r1, vR bq4, vI 10] [(.int 10), (.ref bq4)])) _
    refine XS.aloadN X4.here hx rfl (hb hby d14_13) rfl rfl ?_
    exact k)
  obtain ⟨cl7, Ar7, qa7, S7, Na7, Ha7, Ga7⟩ := id Vq4
  have f8 := E1.keep KH4
  have hin7 : ¬ ((10 : Int32) < 0 ∨ cl7.slots.size ≤ ((10 : Int32)).toNatClampNeg) := inb_of S7 ⟨by decide, by decide⟩
  obtain ⟨T9, h9, X9, e9, W9, st9⟩ := stR X4 hx hZ rfl Ar7 (j := (10 : Int32)) hin7 rfl (Sto.ofV Ar7 qa7 Oq4 (Ins.of_exa f8 (own_w hw 102 rfl))) (g := (mkF m 14 #[vR r0, vR r1, vR bq4, vI 10] [(.ref r1), (.int 10), (.ref bq4)])) rfl rfl (hb hby d14_14)
  have V9 : Arv Z h9 bq4 kq4 (.object "java/lang/Object") (15 : Int32) (es ++ [.ref r1]) .null := own_set Vq4 rfl W9 (hlen.symm ▸ rfl)
  have KH9 : Keep h0 h9 [r0] := KH4.wr W9 (Or.inr sz_bq4)
  have Zn9 : n0 ≤ h9.size := Nat.le_trans Zn4 (Keep.of_wr W9).1
  have N9 := Fr.snoc X9 N4' g_bq4
  have ks10 := own_c ks6 st9
  have ks11 : own_R p e below (A0) (T9.setTop (mkF m 19 #[vR r0, vR r1, vR bq4, vI 10] [(.int 11), (.ref r0)])) := fun t k => ks10 t (by
    refine XS.aloadN X9.here hx rfl (hb hby d14_15) rfl rfl ?_
    refine XS.iloadN X9.here hx rfl (hb hby d14_16) rfl ?_
    refine XS.iconst X9.here hx rfl (hb hby d14_17) ?_
    show Steps p.tables e below (T9.setTop (mkF m 18 #[vR r0, vR r1, vR bq4, vI 10] [(.int 1), (.int 10), (.ref r0)])) _
    refine XS.iadd X9.here hx rfl (hb hby d14_18) rfl ?_
    exact k)
  have f12 := E0.keep KH9
  have f13 := (Fz4.other W9 (Or.inl ne_r0_bq4))
  obtain ⟨T14, h14, X14, e14, W14, st14⟩ := putF X9 hx hZ hown (host := "") (Or.inl (own_w hw 80 rfl)) Via.refl e9 f13 f12 (Or.inl (own_w hw 81 rfl)) (own_w hw 47 rfl) (ty := .int) (by decide) rfl rfl (g := (mkF m 19 #[vR r0, vR r1, vR bq4, vI 10] [(.int 11), (.ref r0)])) rfl rfl (hb hby d14_19)
  have Fw14 := f13.same W14
  have KH14 : Keep h0 h14 [r0] := KH9.wr W14 (Or.inl (List.mem_of_getElem? (i := 0) rfl))
  have Zn14 : n0 ≤ h14.size := Nat.le_trans Zn9 (Keep.of_wr W14).1
  have N14 := Fr.snoc X14 N9 g_r0
  have ks15 := own_c ks11 st14
  obtain ⟨fs, hr, hrun, hended, hW, hsame⟩ := X14.leave (v := none) (fun _ => rfl) hlk
  refine ⟨_, _, kz _ (ks15 _ ?_), hrun, hended, _, _, rfl, ?_, ⟨_, rfl⟩, hW, hsame.mono (by decide) (by decide)⟩
  · exact X14.returnOut hx Bd.returns (hb hby d14_22) hr
  · show Q14_10 Z r0 r1 ed ked mc es mo h0 n0 _ T14.heap _
    rw [e14]
    have f16 := ((Fe4.other W9 (Or.inl ne_r0_bq4)).other W14 (Or.inr (slot_ne (Or.inl (own_w hw 69 rfl)) (Or.inl (own_w hw 81 rfl)) (by decide) (t := (.array (.object "java/lang/Object"))) (t' := .int) (by decide) (by decide))))
    have f17 := ((Fm4.other W9 (Or.inl ne_r0_bq4)).other W14 (Or.inr (slot_ne (Or.inl (own_w hw 66 rfl)) (Or.inl (own_w hw 81 rfl)) (by decide) (t := .int) (t' := .int) (by decide) (by decide))))
    have f18 := (V9.other W14 (Ne.symm ne_r0_bq4))
    have f19 := ((Eq4.wr W9).wr W14)
    exact ⟨bq4, _, rfl, N14, KH14, g_bq4, sz_bq4, f16, Fw14, f17, f18, Oq4, f19⟩
theorem ef_13_10 (m : MethodId) (x0 : Addr) (x1 : Addr) : entryFrame m #[(.ref x0), (.ref x1)] 2 = mkF m 0 #[.val (.ref x0), .val (.ref x1)] [] := by first | (simp [entryFrame, mkF, argsToLocals, Value.category]; done) | rfl
def Q13_10 (Z : State) (r0 : Addr) (r1 : Addr) (ed : Addr) (ked : ClassId) (mc : Int32) (es : List Value) (mo : Addr) (h0 : Heap) (n0 : Nat) (v : Option Value) (h : Heap) (L : List Loc) : Prop := ∃ (b : Addr) (k : ClassId), v = some (.int 1) ∧ Fr n0 L ∧ Keep h0 h [r0] ∧ n0 ≤ b ∧ h0.size ≤ b ∧ Fld Z h r0 "java/util/ArrayList" "elementData" "[Ljava/lang/Object;" (.ref b) ∧ Fld Z h r0 "java/util/ArrayList" "size" "I" (.int 11) ∧ Fld Z h r0 "java/util/AbstractList" "modCount" "I" (.int (mc + 1)) ∧ Arv Z h b k (.object "java/lang/Object") 15 (es ++ [.ref r1]) .null ∧ Ovr Z k "java/lang/Object" ∧ Exa Z h b "[Ljava/lang/Object;"
set_option maxRecDepth 65536 in
set_option maxHeartbeats 40000000 in
theorem rm13_10 (l : Launch) (Z : State) (a0 : Array Value) (hw : ∀ d ∈ tables_1, d.before a0 Z = true) (ws : List Jvm.Cond) (r0 : Addr) (r1 : Addr) (ed : Addr) (ked : ClassId) (mc : Int32) (es : List Value) (mo : Addr) (h0 : Heap) (n0 : Nat) (Z0 : n0 ≤ h0.size) (E0 : Exa Z h0 r0 "java/util/ArrayList") (Fe : Fld Z h0 r0 "java/util/ArrayList" "elementData" "[Ljava/lang/Object;" (.ref ed)) (Fz : Fld Z h0 r0 "java/util/ArrayList" "size" "I" (.int 10)) (Fm : Fld Z h0 r0 "java/util/AbstractList" "modCount" "I" (.int mc)) (Vd : Arv Z h0 ed ked (.object "java/lang/Object") 10 es .null) (hlen : es.length = 10) (hes : own_hits Z h0 es) (Ed : Exa Z h0 ed "[Ljava/lang/Object;") (Mo : Mir Z "[Ljava/lang/Object;" mo) (g_r0 : n0 ≤ r0) (n0d : r0 ≠ ed) (E1 : Exa Z h0 r1 "com/example/carved_corpus/carvedcorpus/Hit") :
    MetFree l Y17 (head1 (Jvm.Cond.code Y17 jdk_38_method_25_code 2 (some .boolean) :: ws) (⟨6, 1, 15, 89⟩ : Room)) (fun a U => a = #[(.ref r0), (.ref r1)] ∧ Z.Warmed39 U.vm ∧ U.heap = h0) (fun _ _ _ _ _ => True) (fun _ U o U' => ∃ v L, o = .returned v ∧ Q13_10 Z r0 r1 ed ked mc es mo h0 n0 v U'.heap L ∧ FrameEnd U o U' L (⟨6, 1, 15, 89⟩ : Room).cells (⟨6, 1, 15, 89⟩ : Room).slots) := by
  refine MetFree.of_bodySF (plainFor_of_name pn_13) hisR ?_
  intro p e s m args below meth c s₁ Bd hml0 hP hK
  obtain ⟨rfl, hZ, hh⟩ := hP
  have hx := Bd.exec
  have hby := Bd.bytes
  have hml : c.maxLocals = 2 := hml0
  have hown : s.vm.findClass "java/util/ArrayList" = some m.cls := findClass_of_methodNamed Bd.named
  have hnm := (name_of_methodNamed Bd.named Bd.method).1
  have hlk : meth.locks = false := by first | exact BodyLoose.notSynchronized Bd | exact Body.notSynchronized Bd
  have X0 : Stand p l e (⟨6, 1, 15, 89⟩ : Room) s m #[(.ref r0), (.ref r1)] below meth c s₁ [] 0 0 := Stand.of_body Bd
  have e0 : s₁.heap = h0 := by rw [← hh, Bd.state]; rfl
  have N0 := Fr.nil n0
  have k0 : own_R p e below (s₁.setTop (entryFrame m #[(.ref r0), (.ref r1)] 2)) (s₁.setTop (mkF m 0 #[vR r0, vR r1] [])) := fun t k => castTop (ef_13_10 m r0 r1) k
  obtain ⟨A0, hA0⟩ : ∃ z, z = s₁.setTop (entryFrame m #[(.ref r0), (.ref r1)] 2) := ⟨_, rfl⟩
  rw [← hA0] at k0
  have kz : ∀ t, Steps p.tables e below A0 t → Steps p.tables e below (s₁.setTop (entryFrame m #[(.ref r0), (.ref r1)] 2)) t := fun t q => hA0 ▸ q
  have ks1 : own_R p e below (A0) (s₁.setTop (mkF m 2 #[vR r0, vR r1] [(.ref r0), (.ref r0)])) := fun t k => k0 t (by
    refine XS.aloadN X0.here hx rfl (hb hby d13_0) rfl rfl ?_
    refine XS.dup X0.here hx rfl (hb hby d13_1) rfl rfl ?_
    exact k)
  obtain ⟨T2, X2, e2, st2⟩ := getF X0 hx hZ hown (host := "") (Or.inl (own_w hw 78 rfl)) (Via.of (own_w hw 79 rfl)) e0 Fm (g := (mkF m 2 #[vR r0, vR r1] [(.ref r0), (.ref r0)])) rfl rfl (hb hby d13_2)
  have ks3 := own_c ks1 st2
  have ks4 : own_R p e below (A0) (T2.setTop (mkF m 7 #[vR r0, vR r1] [(.int (mc + (1 : Int32))), (.ref r0)])) := fun t k => ks3 t (by
    refine XS.iconst X2.here hx rfl (hb hby d13_5) ?_
    refine XS.iadd X2.here hx rfl (hb hby d13_6) rfl ?_
    exact k)
  obtain ⟨T5, h5, X5, e5, W5, st5⟩ := putF X2 hx hZ hown (host := "") (Or.inl (own_w hw 78 rfl)) (Via.of (own_w hw 79 rfl)) e2 Fm E0 (Or.inl (own_w hw 66 rfl)) (own_w hw 47 rfl) (ty := .int) (by decide) rfl rfl (g := (mkF m 7 #[vR r0, vR r1] [(.int (mc + (1 : Int32))), (.ref r0)])) rfl rfl (hb hby d13_7)
  have Fw5 := Fm.same W5
  have KH5 : Keep h0 h5 [r0] := (Keep.refl h0 [r0]).wr W5 (Or.inl (List.mem_of_getElem? (i := 0) rfl))
  have Zn5 : n0 ≤ h5.size := Nat.le_trans Z0 (Keep.of_wr W5).1
  have N5 := Fr.snoc X5 N0 g_r0
  have ks6 := own_c ks4 st5
  have ks7 : own_R p e below (A0) (T5.setTop (mkF m 13 #[vR r0, vR r1] [(.ref r0), (.ref r1), (.ref r0)])) := fun t k => ks6 t (by
    refine XS.aloadN X5.here hx rfl (hb hby d13_10) rfl rfl ?_
    refine XS.aloadN X5.here hx rfl (hb hby d13_11) rfl rfl ?_
    refine XS.aloadN X5.here hx rfl (hb hby d13_12) rfl rfl ?_
    exact k)
  have f8 := (Fe.other W5 (Or.inr (slot_ne (Or.inl (own_w hw 69 rfl)) (Or.inl (own_w hw 66 rfl)) (by decide) (t := (.array (.object "java/lang/Object"))) (t' := .int) (by decide) (by decide))))
  obtain ⟨T9, X9, e9, st9⟩ := getF X5 hx hZ hown (host := "") (Or.inl (own_w hw 68 rfl)) Via.refl e5 f8 (g := (mkF m 13 #[vR r0, vR r1] [(.ref r0), (.ref r1), (.ref r0)])) rfl rfl (hb hby d13_13)
  have ks10 := own_c ks7 st9
  have ks11 : own_R p e below (A0) (T9.setTop (mkF m 17 #[vR r0, vR r1] [(.ref r0), (.ref ed), (.ref r1), (.ref r0)])) := fun t k => ks10 t (by
    refine XS.aloadN X9.here hx rfl (hb hby d13_16) rfl rfl ?_
    exact k)
  have f12 := (Fz.other W5 (Or.inr (slot_ne (Or.inl (own_w hw 81 rfl)) (Or.inl (own_w hw 66 rfl)) (by decide) (t := .int) (t' := .int) (by decide) (by decide))))
  obtain ⟨T13, X13, e13, st13⟩ := getF X9 hx hZ hown (host := "") (Or.inl (own_w hw 80 rfl)) Via.refl e9 f12 (g := (mkF m 17 #[vR r0, vR r1] [(.ref r0), (.ref ed), (.ref r1), (.ref r0)])) rfl rfl (hb hby d13_17)
  have ks14 := own_c ks11 st13
  have f16 := E0.keep KH5
  have f17 := Vd.keep KH5 (ninS (Ne.symm n0d) nin0)
  have f18 := Ed.keep KH5
  have f19 := E1.keep KH5
  obtain ⟨cq15, qc15, qc15'⟩ := f16.cell
  obtain ⟨_, _, ⟨T15, L15, k15, n15⟩, -, X15, ⟨Lc15, hQ15, lq15, yq15, zq15⟩, st15⟩ := X13.privateBack hx (y := Y16) hown (mvT hZ (own_w hw 82 rfl)) (mvT hZ (own_w hw 83 rfl)) (mvT hZ (own_w hw 85 rfl)) (Cond.privateMethod_at (mvP hZ (own_w hw 84 rfl) (args := #[]))) (mvT hZ (own_w hw 86 rfl)) (by decide) (backOf (W := 0) (rm14_10 l Z a0 hw [] r0 r1 ed _ (mc + (1 : Int32)) es mo h5 n0 Zn5 f16 f8 f12 Fw5 f17 hlen (own_hits_keep hes KH5) f18 Mo g_r0 n0d f19) hZ (own_w hw 86 rfl) (own_w hw 48 rfl) (by decide) (by decide)) (g := (mkF m 20 #[vR r0, vR r1] [(.int 10), (.ref ed), (.ref r1), (.ref r0)])) rfl (by rw [hml]; rfl) (Steps.refl _) (a := r0) (by rw [e13]; exact qc15) qc15' (argsL := [(.ref r1), (.ref ed), (.int 10)]) (rest := []) (lenOf pd_10 rfl) rfl (by show 2 * 0 + _ ≤ _; exact Nat.le_of_eq rfl) (hb hby d13_20) (fun _ _ => ⟨rfl, e13, (by decide : 0 + 1 ≤ _), (by decide : 0 + 15 ≤ _)⟩)
  dsimp only [Pt.U, Pt.locs, Pt.cells, Pt.slots] at X15 lq15 yq15 zq15 st15 hQ15
  obtain rfl : k15 = 1 := yq15
  obtain rfl : n15 = 15 := zq15
  obtain ⟨bq15, kq15, rfl, Nq15, Kq15, g_bq15, szq15, Fe15, Fz15, Fm15, Vq15, Oq15, Eq15⟩ := hQ15
  have N15 := Fr.app N5 Nq15
  have KH15 : Keep h0 T15.heap [r0] := KH5.trans Kq15 (allS (Or.inl (List.mem_of_getElem? (i := 0) rfl)) all0)
  have Zn15 : n0 ≤ T15.heap.size := Nat.le_trans Zn5 Kq15.1
  have ne_r0_bq15 := nls f16.lt szq15
  have ne_ed_bq15 := nls f17.lt szq15
  have ne_r1_bq15 := nls f19.lt szq15
  have sz_bq15 : h0.size ≤ bq15 := Nat.le_trans KH5.1 szq15
  have N15' : Fr n0 L15 := by rw [lq15]; exact N15
  have ks20 := own_ct ks14 st15
  have ks21 : own_R p e below (A0) (T15.setTop (mkF m 24 #[vR r0, vR r1] [(.int 1)])) := fun t k => ks20 t (by
    refine XS.iconst X15.here hx rfl (hb hby d13_23) ?_
    exact k)
  obtain ⟨fs, hr, hrun, hended, hW, hsame⟩ := X15.leave (v := some (.int 1)) (fun h => by rw [Bd.returns] at h; cases h) hlk
  refine ⟨_, _, kz _ (ks21 _ ?_), hrun, hended, _, _, rfl, ?_, ⟨_, rfl⟩, hW, hsame.mono (by decide) (by decide)⟩
  · exact retN X15 hx (t := .boolean) Bd.returns (by simp) (hb hby d13_24) hr
  · show Q13_10 Z r0 r1 ed ked mc es mo h0 n0 _ T15.heap _
    exact ⟨bq15, _, rfl, N15', KH15, g_bq15, sz_bq15, Fe15, Fz15, Fm15, Vq15, Oq15, Eq15⟩
theorem ef_14_15 (m : MethodId) (x0 : Addr) (x1 : Addr) (x2 : Addr) (x3 : Int32) : entryFrame m #[(.ref x0), (.ref x1), (.ref x2), (.int x3)] 4 = mkF m 0 #[.val (.ref x0), .val (.ref x1), .val (.ref x2), .val (.int x3)] [] := by first | (simp [entryFrame, mkF, argsToLocals, Value.category]; done) | rfl
def Q14_15 (Z : State) (r0 : Addr) (r1 : Addr) (ed : Addr) (ked : ClassId) (mc : Int32) (es : List Value) (mo : Addr) (h0 : Heap) (n0 : Nat) (v : Option Value) (h : Heap) (L : List Loc) : Prop := ∃ (b : Addr) (k : ClassId), v = none ∧ Fr n0 L ∧ Keep h0 h [r0] ∧ n0 ≤ b ∧ h0.size ≤ b ∧ Fld Z h r0 "java/util/ArrayList" "elementData" "[Ljava/lang/Object;" (.ref b) ∧ Fld Z h r0 "java/util/ArrayList" "size" "I" (.int 16) ∧ Fld Z h r0 "java/util/AbstractList" "modCount" "I" (.int mc) ∧ Arv Z h b k (.object "java/lang/Object") 22 (es ++ [.ref r1]) .null ∧ Ovr Z k "java/lang/Object" ∧ Exa Z h b "[Ljava/lang/Object;"
set_option maxRecDepth 65536 in
set_option maxHeartbeats 40000000 in
theorem rm14_15 (l : Launch) (Z : State) (a0 : Array Value) (hw : ∀ d ∈ tables_1, d.before a0 Z = true) (ws : List Jvm.Cond) (r0 : Addr) (r1 : Addr) (ed : Addr) (ked : ClassId) (mc : Int32) (es : List Value) (mo : Addr) (h0 : Heap) (n0 : Nat) (Z0 : n0 ≤ h0.size) (E0 : Exa Z h0 r0 "java/util/ArrayList") (Fe : Fld Z h0 r0 "java/util/ArrayList" "elementData" "[Ljava/lang/Object;" (.ref ed)) (Fz : Fld Z h0 r0 "java/util/ArrayList" "size" "I" (.int 15)) (Fm : Fld Z h0 r0 "java/util/AbstractList" "modCount" "I" (.int mc)) (Vd : Arv Z h0 ed ked (.object "java/lang/Object") 15 es .null) (hlen : es.length = 15) (hes : own_hits Z h0 es) (Ed : Exa Z h0 ed "[Ljava/lang/Object;") (Mo : Mir Z "[Ljava/lang/Object;" mo) (g_r0 : n0 ≤ r0) (n0d : r0 ≠ ed) (E1 : Exa Z h0 r1 "com/example/carved_corpus/carvedcorpus/Hit") :
    MetFree l Y16 (head1 (Jvm.Cond.code Y16 jdk_38_method_24_code 4 none :: ws) (⟨5, 1, 22, 74⟩ : Room)) (fun a U => a = #[(.ref r0), (.ref r1), (.ref ed), (.int 15)] ∧ Z.Warmed39 U.vm ∧ U.heap = h0) (fun _ _ _ _ _ => True) (fun _ U o U' => ∃ v L, o = .returned v ∧ Q14_15 Z r0 r1 ed ked mc es mo h0 n0 v U'.heap L ∧ FrameEnd U o U' L (⟨5, 1, 22, 74⟩ : Room).cells (⟨5, 1, 22, 74⟩ : Room).slots) := by
  refine MetFree.of_bodySF (plainFor_of_name pn_14) hisR ?_
  intro p e s m args below meth c s₁ Bd hml0 hP hK
  obtain ⟨rfl, hZ, hh⟩ := hP
  have hx := Bd.exec
  have hby := Bd.bytes
  have hml : c.maxLocals = 4 := hml0
  have hown : s.vm.findClass "java/util/ArrayList" = some m.cls := findClass_of_methodNamed Bd.named
  have hnm := (name_of_methodNamed Bd.named Bd.method).1
  have hlk : meth.locks = false := by first | exact BodyLoose.notSynchronized Bd | exact Body.notSynchronized Bd
  have X0 : Stand p l e (⟨5, 1, 22, 74⟩ : Room) s m #[(.ref r0), (.ref r1), (.ref ed), (.int 15)] below meth c s₁ [] 0 0 := Stand.of_body Bd
  have e0 : s₁.heap = h0 := by rw [← hh, Bd.state]; rfl
  have N0 := Fr.nil n0
  have k0 : own_R p e below (s₁.setTop (entryFrame m #[(.ref r0), (.ref r1), (.ref ed), (.int 15)] 4)) (s₁.setTop (mkF m 0 #[vR r0, vR r1, vR ed, vI 15] [])) := fun t k => castTop (ef_14_15 m r0 r1 ed (15 : Int32)) k
  obtain ⟨A0, hA0⟩ : ∃ z, z = s₁.setTop (entryFrame m #[(.ref r0), (.ref r1), (.ref ed), (.int 15)] 4) := ⟨_, rfl⟩
  rw [← hA0] at k0
  have kz : ∀ t, Steps p.tables e below A0 t → Steps p.tables e below (s₁.setTop (entryFrame m #[(.ref r0), (.ref r1), (.ref ed), (.int 15)] 4)) t := fun t q => hA0 ▸ q
  have ks1 : own_R p e below (A0) (s₁.setTop (mkF m 2 #[vR r0, vR r1, vR ed, vI 15] [(.ref ed), (.int 15)])) := fun t k => k0 t (by
    refine XS.iloadN X0.here hx rfl (hb hby d14_0) rfl ?_
    refine XS.aloadN X0.here hx rfl (hb hby d14_1) rfl rfl ?_
    exact k)
  obtain ⟨cl2, Ar2, qa2, S2, Na2, Ha2, Ga2⟩ := id Vd
  have ks3 : own_R p e below (A0) (s₁.setTop (mkF m 7 #[vR r0, vR r1, vR ed, vI 15] [(.ref r0)])) := fun t k => ks1 t (by
    refine X0.arraylength hx (by rw [e0]; exact Ar2.1) (State.isArrayOf_alike hZ.alike Ar2.2.1) (g := (mkF m 2 #[vR r0, vR r1, vR ed, vI 15] [(.ref ed), (.int 15)])) rfl rfl (hb hby d14_2) _ ?_
    rw [len_of S2 Na2]
    refine XS.icmpNo X0.here hx rfl (hb hby d14_3) rfl (teq (by decide)).2 ?_
    refine XS.aloadN X0.here hx rfl (hb hby d14_6) rfl rfl ?_
    exact k)
  obtain ⟨cq4, qc4, qc4'⟩ := E0.cell
  obtain ⟨_, _, ⟨T4, L4, k4, n4⟩, -, X4, ⟨Lc4, hQ4, lq4, yq4, zq4⟩, st4⟩ := X0.privateBack hx (y := Y15) hown (mvT hZ (own_w hw 87 rfl)) (mvT hZ (own_w hw 88 rfl)) (mvT hZ (own_w hw 90 rfl)) (Cond.privateMethod_at (mvP hZ (own_w hw 89 rfl) (args := #[]))) (mvT hZ (own_w hw 91 rfl)) (by decide) (backOf (W := 0) (rm15_15 l Z a0 hw [] r0 ed _ mc es mo h0 n0 Z0 E0 Fe Fz Fm Vd hlen (own_hits_keep hes (Keep.refl h0 [r0])) Ed Mo g_r0 n0d) hZ (own_w hw 91 rfl) (own_w hw 48 rfl) (by decide) (by decide)) (g := (mkF m 7 #[vR r0, vR r1, vR ed, vI 15] [(.ref r0)])) rfl (by rw [hml]; rfl) (Steps.refl _) (a := r0) (by rw [e0]; exact qc4) qc4' (argsL := []) (rest := []) (lenOf pd_11 rfl) rfl (by show 2 * 0 + _ ≤ _; exact Nat.le_of_eq rfl) (hb hby d14_7) (fun _ _ => ⟨rfl, e0, (by decide : 0 + 1 ≤ _), (by decide : 0 + 22 ≤ _)⟩)
  dsimp only [Pt.U, Pt.locs, Pt.cells, Pt.slots] at X4 lq4 yq4 zq4 st4 hQ4
  obtain rfl : k4 = 1 := yq4
  obtain rfl : n4 = 22 := zq4
  obtain ⟨bq4, kq4, rfl, Nq4, Kq4, g_bq4, szq4, Fe4, Fz4, Fm4, Vq4, Oq4, Eq4⟩ := hQ4
  have N4 := Fr.app N0 Nq4
  have KH4 : Keep h0 T4.heap [r0] := (Keep.refl h0 [r0]).trans Kq4 (allS (Or.inl (List.mem_of_getElem? (i := 0) rfl)) all0)
  have Zn4 : n0 ≤ T4.heap.size := Nat.le_trans Z0 Kq4.1
  have ne_r0_bq4 := nls E0.lt szq4
  have ne_ed_bq4 := nls Vd.lt szq4
  have ne_r1_bq4 := nls E1.lt szq4
  have sz_bq4 : h0.size ≤ bq4 := Nat.le_trans (Keep.refl h0 [r0]).1 szq4
  have N4' : Fr n0 L4 := by rw [lq4]; exact N4
  have ks5 := own_ct ks3 st4
  have ks6 : own_R p e below (A0) (T4.setTop (mkF m 14 #[vR r0, vR r1, vR bq4, vI 15] [(.ref r1), (.int 15), (.ref bq4)])) := fun t k => ks5 t (by
    refine XS.astoreN X4.here hx rfl (hb hby d14_10) rfl rfl (l' := #[vR r0, vR r1, vR bq4, vI 15]) rfl ?_
    refine XS.aloadN X4.here hx rfl (hb hby d14_11) rfl rfl ?_
    refine XS.iloadN X4.here hx rfl (hb hby d14_12) rfl ?_
    show Steps p.tables e below (T4.setTop (mkF m 13 #[vR r0, vR r1, vR bq4, vI 15] [(.int 15), (.ref bq4)])) _
    refine XS.aloadN X4.here hx rfl (hb hby d14_13) rfl rfl ?_
    exact k)
  obtain ⟨cl7, Ar7, qa7, S7, Na7, Ha7, Ga7⟩ := id Vq4
  have f8 := E1.keep KH4
  have hin7 : ¬ ((15 : Int32) < 0 ∨ cl7.slots.size ≤ ((15 : Int32)).toNatClampNeg) := inb_of S7 ⟨by decide, by decide⟩
  obtain ⟨T9, h9, X9, e9, W9, st9⟩ := stR X4 hx hZ rfl Ar7 (j := (15 : Int32)) hin7 rfl (Sto.ofV Ar7 qa7 Oq4 (Ins.of_exa f8 (own_w hw 102 rfl))) (g := (mkF m 14 #[vR r0, vR r1, vR bq4, vI 15] [(.ref r1), (.int 15), (.ref bq4)])) rfl rfl (hb hby d14_14)
  have V9 : Arv Z h9 bq4 kq4 (.object "java/lang/Object") (22 : Int32) (es ++ [.ref r1]) .null := own_set Vq4 rfl W9 (hlen.symm ▸ rfl)
  have KH9 : Keep h0 h9 [r0] := KH4.wr W9 (Or.inr sz_bq4)
  have Zn9 : n0 ≤ h9.size := Nat.le_trans Zn4 (Keep.of_wr W9).1
  have N9 := Fr.snoc X9 N4' g_bq4
  have ks10 := own_c ks6 st9
  have ks11 : own_R p e below (A0) (T9.setTop (mkF m 19 #[vR r0, vR r1, vR bq4, vI 15] [(.int 16), (.ref r0)])) := fun t k => ks10 t (by
    refine XS.aloadN X9.here hx rfl (hb hby d14_15) rfl rfl ?_
    refine XS.iloadN X9.here hx rfl (hb hby d14_16) rfl ?_
    refine XS.iconst X9.here hx rfl (hb hby d14_17) ?_
    show Steps p.tables e below (T9.setTop (mkF m 18 #[vR r0, vR r1, vR bq4, vI 15] [(.int 1), (.int 15), (.ref r0)])) _
    refine XS.iadd X9.here hx rfl (hb hby d14_18) rfl ?_
    exact k)
  have f12 := E0.keep KH9
  have f13 := (Fz4.other W9 (Or.inl ne_r0_bq4))
  obtain ⟨T14, h14, X14, e14, W14, st14⟩ := putF X9 hx hZ hown (host := "") (Or.inl (own_w hw 80 rfl)) Via.refl e9 f13 f12 (Or.inl (own_w hw 81 rfl)) (own_w hw 47 rfl) (ty := .int) (by decide) rfl rfl (g := (mkF m 19 #[vR r0, vR r1, vR bq4, vI 15] [(.int 16), (.ref r0)])) rfl rfl (hb hby d14_19)
  have Fw14 := f13.same W14
  have KH14 : Keep h0 h14 [r0] := KH9.wr W14 (Or.inl (List.mem_of_getElem? (i := 0) rfl))
  have Zn14 : n0 ≤ h14.size := Nat.le_trans Zn9 (Keep.of_wr W14).1
  have N14 := Fr.snoc X14 N9 g_r0
  have ks15 := own_c ks11 st14
  obtain ⟨fs, hr, hrun, hended, hW, hsame⟩ := X14.leave (v := none) (fun _ => rfl) hlk
  refine ⟨_, _, kz _ (ks15 _ ?_), hrun, hended, _, _, rfl, ?_, ⟨_, rfl⟩, hW, hsame.mono (by decide) (by decide)⟩
  · exact X14.returnOut hx Bd.returns (hb hby d14_22) hr
  · show Q14_15 Z r0 r1 ed ked mc es mo h0 n0 _ T14.heap _
    rw [e14]
    have f16 := ((Fe4.other W9 (Or.inl ne_r0_bq4)).other W14 (Or.inr (slot_ne (Or.inl (own_w hw 69 rfl)) (Or.inl (own_w hw 81 rfl)) (by decide) (t := (.array (.object "java/lang/Object"))) (t' := .int) (by decide) (by decide))))
    have f17 := ((Fm4.other W9 (Or.inl ne_r0_bq4)).other W14 (Or.inr (slot_ne (Or.inl (own_w hw 66 rfl)) (Or.inl (own_w hw 81 rfl)) (by decide) (t := .int) (t' := .int) (by decide) (by decide))))
    have f18 := (V9.other W14 (Ne.symm ne_r0_bq4))
    have f19 := ((Eq4.wr W9).wr W14)
    exact ⟨bq4, _, rfl, N14, KH14, g_bq4, sz_bq4, f16, Fw14, f17, f18, Oq4, f19⟩
theorem ef_13_15 (m : MethodId) (x0 : Addr) (x1 : Addr) : entryFrame m #[(.ref x0), (.ref x1)] 2 = mkF m 0 #[.val (.ref x0), .val (.ref x1)] [] := by first | (simp [entryFrame, mkF, argsToLocals, Value.category]; done) | rfl
def Q13_15 (Z : State) (r0 : Addr) (r1 : Addr) (ed : Addr) (ked : ClassId) (mc : Int32) (es : List Value) (mo : Addr) (h0 : Heap) (n0 : Nat) (v : Option Value) (h : Heap) (L : List Loc) : Prop := ∃ (b : Addr) (k : ClassId), v = some (.int 1) ∧ Fr n0 L ∧ Keep h0 h [r0] ∧ n0 ≤ b ∧ h0.size ≤ b ∧ Fld Z h r0 "java/util/ArrayList" "elementData" "[Ljava/lang/Object;" (.ref b) ∧ Fld Z h r0 "java/util/ArrayList" "size" "I" (.int 16) ∧ Fld Z h r0 "java/util/AbstractList" "modCount" "I" (.int (mc + 1)) ∧ Arv Z h b k (.object "java/lang/Object") 22 (es ++ [.ref r1]) .null ∧ Ovr Z k "java/lang/Object" ∧ Exa Z h b "[Ljava/lang/Object;"
set_option maxRecDepth 65536 in
set_option maxHeartbeats 40000000 in
theorem rm13_15 (l : Launch) (Z : State) (a0 : Array Value) (hw : ∀ d ∈ tables_1, d.before a0 Z = true) (ws : List Jvm.Cond) (r0 : Addr) (r1 : Addr) (ed : Addr) (ked : ClassId) (mc : Int32) (es : List Value) (mo : Addr) (h0 : Heap) (n0 : Nat) (Z0 : n0 ≤ h0.size) (E0 : Exa Z h0 r0 "java/util/ArrayList") (Fe : Fld Z h0 r0 "java/util/ArrayList" "elementData" "[Ljava/lang/Object;" (.ref ed)) (Fz : Fld Z h0 r0 "java/util/ArrayList" "size" "I" (.int 15)) (Fm : Fld Z h0 r0 "java/util/AbstractList" "modCount" "I" (.int mc)) (Vd : Arv Z h0 ed ked (.object "java/lang/Object") 15 es .null) (hlen : es.length = 15) (hes : own_hits Z h0 es) (Ed : Exa Z h0 ed "[Ljava/lang/Object;") (Mo : Mir Z "[Ljava/lang/Object;" mo) (g_r0 : n0 ≤ r0) (n0d : r0 ≠ ed) (E1 : Exa Z h0 r1 "com/example/carved_corpus/carvedcorpus/Hit") :
    MetFree l Y17 (head1 (Jvm.Cond.code Y17 jdk_38_method_25_code 2 (some .boolean) :: ws) (⟨6, 1, 22, 89⟩ : Room)) (fun a U => a = #[(.ref r0), (.ref r1)] ∧ Z.Warmed39 U.vm ∧ U.heap = h0) (fun _ _ _ _ _ => True) (fun _ U o U' => ∃ v L, o = .returned v ∧ Q13_15 Z r0 r1 ed ked mc es mo h0 n0 v U'.heap L ∧ FrameEnd U o U' L (⟨6, 1, 22, 89⟩ : Room).cells (⟨6, 1, 22, 89⟩ : Room).slots) := by
  refine MetFree.of_bodySF (plainFor_of_name pn_13) hisR ?_
  intro p e s m args below meth c s₁ Bd hml0 hP hK
  obtain ⟨rfl, hZ, hh⟩ := hP
  have hx := Bd.exec
  have hby := Bd.bytes
  have hml : c.maxLocals = 2 := hml0
  have hown : s.vm.findClass "java/util/ArrayList" = some m.cls := findClass_of_methodNamed Bd.named
  have hnm := (name_of_methodNamed Bd.named Bd.method).1
  have hlk : meth.locks = false := by first | exact BodyLoose.notSynchronized Bd | exact Body.notSynchronized Bd
  have X0 : Stand p l e (⟨6, 1, 22, 89⟩ : Room) s m #[(.ref r0), (.ref r1)] below meth c s₁ [] 0 0 := Stand.of_body Bd
  have e0 : s₁.heap = h0 := by rw [← hh, Bd.state]; rfl
  have N0 := Fr.nil n0
  have k0 : own_R p e below (s₁.setTop (entryFrame m #[(.ref r0), (.ref r1)] 2)) (s₁.setTop (mkF m 0 #[vR r0, vR r1] [])) := fun t k => castTop (ef_13_15 m r0 r1) k
  obtain ⟨A0, hA0⟩ : ∃ z, z = s₁.setTop (entryFrame m #[(.ref r0), (.ref r1)] 2) := ⟨_, rfl⟩
  rw [← hA0] at k0
  have kz : ∀ t, Steps p.tables e below A0 t → Steps p.tables e below (s₁.setTop (entryFrame m #[(.ref r0), (.ref r1)] 2)) t := fun t q => hA0 ▸ q
  have ks1 : own_R p e below (A0) (s₁.setTop (mkF m 2 #[vR r0, vR r1] [(.ref r0), (.ref r0)])) := fun t k => k0 t (by
    refine XS.aloadN X0.here hx rfl (hb hby d13_0) rfl rfl ?_
    refine XS.dup X0.here hx rfl (hb hby d13_1) rfl rfl ?_
    exact k)
  obtain ⟨T2, X2, e2, st2⟩ := getF X0 hx hZ hown (host := "") (Or.inl (own_w hw 78 rfl)) (Via.of (own_w hw 79 rfl)) e0 Fm (g := (mkF m 2 #[vR r0, vR r1] [(.ref r0), (.ref r0)])) rfl rfl (hb hby d13_2)
  have ks3 := own_c ks1 st2
  have ks4 : own_R p e below (A0) (T2.setTop (mkF m 7 #[vR r0, vR r1] [(.int (mc + (1 : Int32))), (.ref r0)])) := fun t k => ks3 t (by
    refine XS.iconst X2.here hx rfl (hb hby d13_5) ?_
    refine XS.iadd X2.here hx rfl (hb hby d13_6) rfl ?_
    exact k)
  obtain ⟨T5, h5, X5, e5, W5, st5⟩ := putF X2 hx hZ hown (host := "") (Or.inl (own_w hw 78 rfl)) (Via.of (own_w hw 79 rfl)) e2 Fm E0 (Or.inl (own_w hw 66 rfl)) (own_w hw 47 rfl) (ty := .int) (by decide) rfl rfl (g := (mkF m 7 #[vR r0, vR r1] [(.int (mc + (1 : Int32))), (.ref r0)])) rfl rfl (hb hby d13_7)
  have Fw5 := Fm.same W5
  have KH5 : Keep h0 h5 [r0] := (Keep.refl h0 [r0]).wr W5 (Or.inl (List.mem_of_getElem? (i := 0) rfl))
  have Zn5 : n0 ≤ h5.size := Nat.le_trans Z0 (Keep.of_wr W5).1
  have N5 := Fr.snoc X5 N0 g_r0
  have ks6 := own_c ks4 st5
  have ks7 : own_R p e below (A0) (T5.setTop (mkF m 13 #[vR r0, vR r1] [(.ref r0), (.ref r1), (.ref r0)])) := fun t k => ks6 t (by
    refine XS.aloadN X5.here hx rfl (hb hby d13_10) rfl rfl ?_
    refine XS.aloadN X5.here hx rfl (hb hby d13_11) rfl rfl ?_
    refine XS.aloadN X5.here hx rfl (hb hby d13_12) rfl rfl ?_
    exact k)
  have f8 := (Fe.other W5 (Or.inr (slot_ne (Or.inl (own_w hw 69 rfl)) (Or.inl (own_w hw 66 rfl)) (by decide) (t := (.array (.object "java/lang/Object"))) (t' := .int) (by decide) (by decide))))
  obtain ⟨T9, X9, e9, st9⟩ := getF X5 hx hZ hown (host := "") (Or.inl (own_w hw 68 rfl)) Via.refl e5 f8 (g := (mkF m 13 #[vR r0, vR r1] [(.ref r0), (.ref r1), (.ref r0)])) rfl rfl (hb hby d13_13)
  have ks10 := own_c ks7 st9
  have ks11 : own_R p e below (A0) (T9.setTop (mkF m 17 #[vR r0, vR r1] [(.ref r0), (.ref ed), (.ref r1), (.ref r0)])) := fun t k => ks10 t (by
    refine XS.aloadN X9.here hx rfl (hb hby d13_16) rfl rfl ?_
    exact k)
  have f12 := (Fz.other W5 (Or.inr (slot_ne (Or.inl (own_w hw 81 rfl)) (Or.inl (own_w hw 66 rfl)) (by decide) (t := .int) (t' := .int) (by decide) (by decide))))
  obtain ⟨T13, X13, e13, st13⟩ := getF X9 hx hZ hown (host := "") (Or.inl (own_w hw 80 rfl)) Via.refl e9 f12 (g := (mkF m 17 #[vR r0, vR r1] [(.ref r0), (.ref ed), (.ref r1), (.ref r0)])) rfl rfl (hb hby d13_17)
  have ks14 := own_c ks11 st13
  have f16 := E0.keep KH5
  have f17 := Vd.keep KH5 (ninS (Ne.symm n0d) nin0)
  have f18 := Ed.keep KH5
  have f19 := E1.keep KH5
  obtain ⟨cq15, qc15, qc15'⟩ := f16.cell
  obtain ⟨_, _, ⟨T15, L15, k15, n15⟩, -, X15, ⟨Lc15, hQ15, lq15, yq15, zq15⟩, st15⟩ := X13.privateBack hx (y := Y16) hown (mvT hZ (own_w hw 82 rfl)) (mvT hZ (own_w hw 83 rfl)) (mvT hZ (own_w hw 85 rfl)) (Cond.privateMethod_at (mvP hZ (own_w hw 84 rfl) (args := #[]))) (mvT hZ (own_w hw 86 rfl)) (by decide) (backOf (W := 0) (rm14_15 l Z a0 hw [] r0 r1 ed _ (mc + (1 : Int32)) es mo h5 n0 Zn5 f16 f8 f12 Fw5 f17 hlen (own_hits_keep hes KH5) f18 Mo g_r0 n0d f19) hZ (own_w hw 86 rfl) (own_w hw 48 rfl) (by decide) (by decide)) (g := (mkF m 20 #[vR r0, vR r1] [(.int 15), (.ref ed), (.ref r1), (.ref r0)])) rfl (by rw [hml]; rfl) (Steps.refl _) (a := r0) (by rw [e13]; exact qc15) qc15' (argsL := [(.ref r1), (.ref ed), (.int 15)]) (rest := []) (lenOf pd_10 rfl) rfl (by show 2 * 0 + _ ≤ _; exact Nat.le_of_eq rfl) (hb hby d13_20) (fun _ _ => ⟨rfl, e13, (by decide : 0 + 1 ≤ _), (by decide : 0 + 22 ≤ _)⟩)
  dsimp only [Pt.U, Pt.locs, Pt.cells, Pt.slots] at X15 lq15 yq15 zq15 st15 hQ15
  obtain rfl : k15 = 1 := yq15
  obtain rfl : n15 = 22 := zq15
  obtain ⟨bq15, kq15, rfl, Nq15, Kq15, g_bq15, szq15, Fe15, Fz15, Fm15, Vq15, Oq15, Eq15⟩ := hQ15
  have N15 := Fr.app N5 Nq15
  have KH15 : Keep h0 T15.heap [r0] := KH5.trans Kq15 (allS (Or.inl (List.mem_of_getElem? (i := 0) rfl)) all0)
  have Zn15 : n0 ≤ T15.heap.size := Nat.le_trans Zn5 Kq15.1
  have ne_r0_bq15 := nls f16.lt szq15
  have ne_ed_bq15 := nls f17.lt szq15
  have ne_r1_bq15 := nls f19.lt szq15
  have sz_bq15 : h0.size ≤ bq15 := Nat.le_trans KH5.1 szq15
  have N15' : Fr n0 L15 := by rw [lq15]; exact N15
  have ks20 := own_ct ks14 st15
  have ks21 : own_R p e below (A0) (T15.setTop (mkF m 24 #[vR r0, vR r1] [(.int 1)])) := fun t k => ks20 t (by
    refine XS.iconst X15.here hx rfl (hb hby d13_23) ?_
    exact k)
  obtain ⟨fs, hr, hrun, hended, hW, hsame⟩ := X15.leave (v := some (.int 1)) (fun h => by rw [Bd.returns] at h; cases h) hlk
  refine ⟨_, _, kz _ (ks21 _ ?_), hrun, hended, _, _, rfl, ?_, ⟨_, rfl⟩, hW, hsame.mono (by decide) (by decide)⟩
  · exact retN X15 hx (t := .boolean) Bd.returns (by simp) (hb hby d13_24) hr
  · show Q13_15 Z r0 r1 ed ked mc es mo h0 n0 _ T15.heap _
    exact ⟨bq15, _, rfl, N15', KH15, g_bq15, sz_bq15, Fe15, Fz15, Fm15, Vq15, Oq15, Eq15⟩
theorem ef_14_n (m : MethodId) (x0 : Addr) (x1 : Addr) (x2 : Addr) (x3 : Int32) : entryFrame m #[(.ref x0), (.ref x1), (.ref x2), (.int x3)] 4 = mkF m 0 #[.val (.ref x0), .val (.ref x1), .val (.ref x2), .val (.int x3)] [] := by first | (simp [entryFrame, mkF, argsToLocals, Value.category]; done) | rfl
def Q14_n (Z : State) (r0 : Addr) (r1 : Addr) (ed : Addr) (sz : Int32) (ked : ClassId) (mc : Int32) (es : List Value) (cap : Int32) (h0 : Heap) (n0 : Nat) (v : Option Value) (h : Heap) (L : List Loc) : Prop := v = none ∧ Fr n0 L ∧ Keep h0 h [r0, ed] ∧ Fld Z h r0 "java/util/ArrayList" "elementData" "[Ljava/lang/Object;" (.ref ed) ∧ Fld Z h r0 "java/util/ArrayList" "size" "I" (.int (sz + 1)) ∧ Fld Z h r0 "java/util/AbstractList" "modCount" "I" (.int mc) ∧ Arv Z h ed ked (.object "java/lang/Object") cap (es ++ [.ref r1]) .null
set_option maxRecDepth 65536 in
set_option maxHeartbeats 40000000 in
theorem rm14_n (l : Launch) (Z : State) (a0 : Array Value) (hw : ∀ d ∈ tables_1, d.before a0 Z = true) (ws : List Jvm.Cond) (r0 : Addr) (r1 : Addr) (ed : Addr) (sz : Int32) (ked : ClassId) (mc : Int32) (es : List Value) (cap : Int32) (h0 : Heap) (n0 : Nat) (Z0 : n0 ≤ h0.size) (E0 : Exa Z h0 r0 "java/util/ArrayList") (Fe : Fld Z h0 r0 "java/util/ArrayList" "elementData" "[Ljava/lang/Object;" (.ref ed)) (Fz : Fld Z h0 r0 "java/util/ArrayList" "size" "I" (.int sz)) (Fm : Fld Z h0 r0 "java/util/AbstractList" "modCount" "I" (.int mc)) (Vd : Arv Z h0 ed ked (.object "java/lang/Object") cap es .null) (Od : Ovr Z ked "java/lang/Object") (hp0 : ¬ sz < 0) (hp1 : sz < cap) (hpn : ¬ sz = cap) (hpl : sz.toNatClampNeg = es.length) (g_r0 : n0 ≤ r0) (g_ed : n0 ≤ ed) (n0d : r0 ≠ ed) (E1 : Exa Z h0 r1 "com/example/carved_corpus/carvedcorpus/Hit") :
    MetFree l Y16 (head1 (Jvm.Cond.code Y16 jdk_38_method_24_code 4 none :: ws) (⟨0, 0, 0, 0⟩ : Room)) (fun a U => a = #[(.ref r0), (.ref r1), (.ref ed), (.int sz)] ∧ Z.Warmed39 U.vm ∧ U.heap = h0) (fun _ _ _ _ _ => True) (fun _ U o U' => ∃ v L, o = .returned v ∧ Q14_n Z r0 r1 ed sz ked mc es cap h0 n0 v U'.heap L ∧ FrameEnd U o U' L (⟨0, 0, 0, 0⟩ : Room).cells (⟨0, 0, 0, 0⟩ : Room).slots) := by
  refine MetFree.of_bodySF (plainFor_of_name pn_14) hisR ?_
  intro p e s m args below meth c s₁ Bd hml0 hP hK
  obtain ⟨rfl, hZ, hh⟩ := hP
  have hx := Bd.exec
  have hby := Bd.bytes
  have hml : c.maxLocals = 4 := hml0
  have hown : s.vm.findClass "java/util/ArrayList" = some m.cls := findClass_of_methodNamed Bd.named
  have hnm := (name_of_methodNamed Bd.named Bd.method).1
  have hlk : meth.locks = false := by first | exact BodyLoose.notSynchronized Bd | exact Body.notSynchronized Bd
  have X0 : Stand p l e (⟨0, 0, 0, 0⟩ : Room) s m #[(.ref r0), (.ref r1), (.ref ed), (.int sz)] below meth c s₁ [] 0 0 := Stand.of_body Bd
  have e0 : s₁.heap = h0 := by rw [← hh, Bd.state]; rfl
  have N0 := Fr.nil n0
  have k0 : own_R p e below (s₁.setTop (entryFrame m #[(.ref r0), (.ref r1), (.ref ed), (.int sz)] 4)) (s₁.setTop (mkF m 0 #[vR r0, vR r1, vR ed, vI sz] [])) := fun t k => castTop (ef_14_n m r0 r1 ed sz) k
  obtain ⟨A0, hA0⟩ : ∃ z, z = s₁.setTop (entryFrame m #[(.ref r0), (.ref r1), (.ref ed), (.int sz)] 4) := ⟨_, rfl⟩
  rw [← hA0] at k0
  have kz : ∀ t, Steps p.tables e below A0 t → Steps p.tables e below (s₁.setTop (entryFrame m #[(.ref r0), (.ref r1), (.ref ed), (.int sz)] 4)) t := fun t q => hA0 ▸ q
  have ks1 : own_R p e below (A0) (s₁.setTop (mkF m 2 #[vR r0, vR r1, vR ed, vI sz] [(.ref ed), (.int sz)])) := fun t k => k0 t (by
    refine XS.iloadN X0.here hx rfl (hb hby d14_0) rfl ?_
    refine XS.aloadN X0.here hx rfl (hb hby d14_1) rfl rfl ?_
    exact k)
  obtain ⟨cl2, Ar2, qa2, S2, Na2, Ha2, Ga2⟩ := id Vd
  have ks3 : own_R p e below (A0) (s₁.setTop (mkF m 14 #[vR r0, vR r1, vR ed, vI sz] [(.ref r1), (.int sz), (.ref ed)])) := fun t k => ks1 t (by
    refine X0.arraylength hx (by rw [e0]; exact Ar2.1) (State.isArrayOf_alike hZ.alike Ar2.2.1) (g := (mkF m 2 #[vR r0, vR r1, vR ed, vI sz] [(.ref ed), (.int sz)])) rfl rfl (hb hby d14_2) _ ?_
    rw [len_of S2 Na2]
    refine XS.icmpYes X0.here hx rfl (pc0 := 3) (pc' := 11) rfl (hb hby d14_3) rfl (feq hpn).2 (by decide) (by decide) ?_
    refine XS.aloadN X0.here hx rfl (hb hby d14_11) rfl rfl ?_
    show Steps p.tables e below (s₁.setTop (mkF m 12 #[vR r0, vR r1, vR ed, vI sz] [(.ref ed)])) _
    refine XS.iloadN X0.here hx rfl (hb hby d14_12) rfl ?_
    refine XS.aloadN X0.here hx rfl (hb hby d14_13) rfl rfl ?_
    exact k)
  obtain ⟨cl4, Ar4, qa4, S4, Na4, Ha4, Ga4⟩ := id Vd
  have hin4 : ¬ (sz < 0 ∨ cl4.slots.size ≤ (sz).toNatClampNeg) := inb_of S4 ⟨hp0, hp1⟩
  obtain ⟨T5, h5, X5, e5, W5, st5⟩ := stR X0 hx hZ e0 Ar4 (j := sz) hin4 rfl (Sto.ofV Ar4 qa4 Od (Ins.of_exa E1 (own_w hw 102 rfl))) (g := (mkF m 14 #[vR r0, vR r1, vR ed, vI sz] [(.ref r1), (.int sz), (.ref ed)])) rfl rfl (hb hby d14_14)
  have V5 : Arv Z h5 ed ked (.object "java/lang/Object") cap (es ++ [.ref r1]) .null := own_set Vd rfl W5 hpl
  have KH5 : Keep h0 h5 [r0, ed] := (Keep.refl h0 [r0, ed]).wr W5 (Or.inl (List.mem_of_getElem? (i := 1) rfl))
  have Zn5 : n0 ≤ h5.size := Nat.le_trans Z0 (Keep.of_wr W5).1
  have N5 := Fr.snoc X5 N0 g_ed
  have ks6 := own_c ks3 st5
  have ks7 : own_R p e below (A0) (T5.setTop (mkF m 19 #[vR r0, vR r1, vR ed, vI sz] [(.int (sz + (1 : Int32))), (.ref r0)])) := fun t k => ks6 t (by
    refine XS.aloadN X5.here hx rfl (hb hby d14_15) rfl rfl ?_
    refine XS.iloadN X5.here hx rfl (hb hby d14_16) rfl ?_
    refine XS.iconst X5.here hx rfl (hb hby d14_17) ?_
    show Steps p.tables e below (T5.setTop (mkF m 18 #[vR r0, vR r1, vR ed, vI sz] [(.int 1), (.int sz), (.ref r0)])) _
    refine XS.iadd X5.here hx rfl (hb hby d14_18) rfl ?_
    exact k)
  have f8 := E0.keep KH5
  have f9 := (Fz.other W5 (Or.inl n0d))
  obtain ⟨T10, h10, X10, e10, W10, st10⟩ := putF X5 hx hZ hown (host := "") (Or.inl (own_w hw 80 rfl)) Via.refl e5 f9 f8 (Or.inl (own_w hw 81 rfl)) (own_w hw 47 rfl) (ty := .int) (by decide) rfl rfl (g := (mkF m 19 #[vR r0, vR r1, vR ed, vI sz] [(.int (sz + (1 : Int32))), (.ref r0)])) rfl rfl (hb hby d14_19)
  have Fw10 := f9.same W10
  have KH10 : Keep h0 h10 [r0, ed] := KH5.wr W10 (Or.inl (List.mem_of_getElem? (i := 0) rfl))
  have Zn10 : n0 ≤ h10.size := Nat.le_trans Zn5 (Keep.of_wr W10).1
  have N10 := Fr.snoc X10 N5 g_r0
  have ks11 := own_c ks7 st10
  obtain ⟨fs, hr, hrun, hended, hW, hsame⟩ := X10.leave (v := none) (fun _ => rfl) hlk
  refine ⟨_, _, kz _ (ks11 _ ?_), hrun, hended, _, _, rfl, ?_, ⟨_, rfl⟩, hW, hsame.mono (by decide) (by decide)⟩
  · exact X10.returnOut hx Bd.returns (hb hby d14_22) hr
  · show Q14_n Z r0 r1 ed sz ked mc es cap h0 n0 _ T10.heap _
    rw [e10]
    have f12 := ((Fe.other W5 (Or.inl n0d)).other W10 (Or.inr (slot_ne (Or.inl (own_w hw 69 rfl)) (Or.inl (own_w hw 81 rfl)) (by decide) (t := (.array (.object "java/lang/Object"))) (t' := .int) (by decide) (by decide))))
    have f13 := ((Fm.other W5 (Or.inl n0d)).other W10 (Or.inr (slot_ne (Or.inl (own_w hw 66 rfl)) (Or.inl (own_w hw 81 rfl)) (by decide) (t := .int) (t' := .int) (by decide) (by decide))))
    have f14 := (V5.other W10 (Ne.symm n0d))
    exact ⟨rfl, N10, KH10, f12, Fw10, f13, f14⟩
theorem ef_13_n (m : MethodId) (x0 : Addr) (x1 : Addr) : entryFrame m #[(.ref x0), (.ref x1)] 2 = mkF m 0 #[.val (.ref x0), .val (.ref x1)] [] := by first | (simp [entryFrame, mkF, argsToLocals, Value.category]; done) | rfl
def Q13_n (Z : State) (r0 : Addr) (r1 : Addr) (ed : Addr) (ked : ClassId) (mc : Int32) (es : List Value) (cap : Int32) (sz : Int32) (h0 : Heap) (n0 : Nat) (v : Option Value) (h : Heap) (L : List Loc) : Prop := v = some (.int 1) ∧ Fr n0 L ∧ Keep h0 h [r0, ed] ∧ Fld Z h r0 "java/util/ArrayList" "elementData" "[Ljava/lang/Object;" (.ref ed) ∧ Fld Z h r0 "java/util/ArrayList" "size" "I" (.int (sz + 1)) ∧ Fld Z h r0 "java/util/AbstractList" "modCount" "I" (.int (mc + 1)) ∧ Arv Z h ed ked (.object "java/lang/Object") cap (es ++ [.ref r1]) .null
set_option maxRecDepth 65536 in
set_option maxHeartbeats 40000000 in
theorem rm13_n (l : Launch) (Z : State) (a0 : Array Value) (hw : ∀ d ∈ tables_1, d.before a0 Z = true) (ws : List Jvm.Cond) (r0 : Addr) (r1 : Addr) (ed : Addr) (ked : ClassId) (mc : Int32) (es : List Value) (cap : Int32) (sz : Int32) (h0 : Heap) (n0 : Nat) (Z0 : n0 ≤ h0.size) (E0 : Exa Z h0 r0 "java/util/ArrayList") (Fe : Fld Z h0 r0 "java/util/ArrayList" "elementData" "[Ljava/lang/Object;" (.ref ed)) (Fz : Fld Z h0 r0 "java/util/ArrayList" "size" "I" (.int sz)) (Fm : Fld Z h0 r0 "java/util/AbstractList" "modCount" "I" (.int mc)) (Vd : Arv Z h0 ed ked (.object "java/lang/Object") cap es .null) (Od : Ovr Z ked "java/lang/Object") (hp0 : ¬ sz < 0) (hp1 : sz < cap) (hpn : ¬ sz = cap) (hpl : sz.toNatClampNeg = es.length) (g_r0 : n0 ≤ r0) (g_ed : n0 ≤ ed) (n0d : r0 ≠ ed) (E1 : Exa Z h0 r1 "com/example/carved_corpus/carvedcorpus/Hit") :
    MetFree l Y17 (head1 (Jvm.Cond.code Y17 jdk_38_method_25_code 2 (some .boolean) :: ws) (⟨1, 0, 0, 15⟩ : Room)) (fun a U => a = #[(.ref r0), (.ref r1)] ∧ Z.Warmed39 U.vm ∧ U.heap = h0) (fun _ _ _ _ _ => True) (fun _ U o U' => ∃ v L, o = .returned v ∧ Q13_n Z r0 r1 ed ked mc es cap sz h0 n0 v U'.heap L ∧ FrameEnd U o U' L (⟨1, 0, 0, 15⟩ : Room).cells (⟨1, 0, 0, 15⟩ : Room).slots) := by
  refine MetFree.of_bodySF (plainFor_of_name pn_13) hisR ?_
  intro p e s m args below meth c s₁ Bd hml0 hP hK
  obtain ⟨rfl, hZ, hh⟩ := hP
  have hx := Bd.exec
  have hby := Bd.bytes
  have hml : c.maxLocals = 2 := hml0
  have hown : s.vm.findClass "java/util/ArrayList" = some m.cls := findClass_of_methodNamed Bd.named
  have hnm := (name_of_methodNamed Bd.named Bd.method).1
  have hlk : meth.locks = false := by first | exact BodyLoose.notSynchronized Bd | exact Body.notSynchronized Bd
  have X0 : Stand p l e (⟨1, 0, 0, 15⟩ : Room) s m #[(.ref r0), (.ref r1)] below meth c s₁ [] 0 0 := Stand.of_body Bd
  have e0 : s₁.heap = h0 := by rw [← hh, Bd.state]; rfl
  have N0 := Fr.nil n0
  have k0 : own_R p e below (s₁.setTop (entryFrame m #[(.ref r0), (.ref r1)] 2)) (s₁.setTop (mkF m 0 #[vR r0, vR r1] [])) := fun t k => castTop (ef_13_n m r0 r1) k
  obtain ⟨A0, hA0⟩ : ∃ z, z = s₁.setTop (entryFrame m #[(.ref r0), (.ref r1)] 2) := ⟨_, rfl⟩
  rw [← hA0] at k0
  have kz : ∀ t, Steps p.tables e below A0 t → Steps p.tables e below (s₁.setTop (entryFrame m #[(.ref r0), (.ref r1)] 2)) t := fun t q => hA0 ▸ q
  have ks1 : own_R p e below (A0) (s₁.setTop (mkF m 2 #[vR r0, vR r1] [(.ref r0), (.ref r0)])) := fun t k => k0 t (by
    refine XS.aloadN X0.here hx rfl (hb hby d13_0) rfl rfl ?_
    refine XS.dup X0.here hx rfl (hb hby d13_1) rfl rfl ?_
    exact k)
  obtain ⟨T2, X2, e2, st2⟩ := getF X0 hx hZ hown (host := "") (Or.inl (own_w hw 78 rfl)) (Via.of (own_w hw 79 rfl)) e0 Fm (g := (mkF m 2 #[vR r0, vR r1] [(.ref r0), (.ref r0)])) rfl rfl (hb hby d13_2)
  have ks3 := own_c ks1 st2
  have ks4 : own_R p e below (A0) (T2.setTop (mkF m 7 #[vR r0, vR r1] [(.int (mc + (1 : Int32))), (.ref r0)])) := fun t k => ks3 t (by
    refine XS.iconst X2.here hx rfl (hb hby d13_5) ?_
    refine XS.iadd X2.here hx rfl (hb hby d13_6) rfl ?_
    exact k)
  obtain ⟨T5, h5, X5, e5, W5, st5⟩ := putF X2 hx hZ hown (host := "") (Or.inl (own_w hw 78 rfl)) (Via.of (own_w hw 79 rfl)) e2 Fm E0 (Or.inl (own_w hw 66 rfl)) (own_w hw 47 rfl) (ty := .int) (by decide) rfl rfl (g := (mkF m 7 #[vR r0, vR r1] [(.int (mc + (1 : Int32))), (.ref r0)])) rfl rfl (hb hby d13_7)
  have Fw5 := Fm.same W5
  have KH5 : Keep h0 h5 [r0, ed] := (Keep.refl h0 [r0, ed]).wr W5 (Or.inl (List.mem_of_getElem? (i := 0) rfl))
  have Zn5 : n0 ≤ h5.size := Nat.le_trans Z0 (Keep.of_wr W5).1
  have N5 := Fr.snoc X5 N0 g_r0
  have ks6 := own_c ks4 st5
  have ks7 : own_R p e below (A0) (T5.setTop (mkF m 13 #[vR r0, vR r1] [(.ref r0), (.ref r1), (.ref r0)])) := fun t k => ks6 t (by
    refine XS.aloadN X5.here hx rfl (hb hby d13_10) rfl rfl ?_
    refine XS.aloadN X5.here hx rfl (hb hby d13_11) rfl rfl ?_
    refine XS.aloadN X5.here hx rfl (hb hby d13_12) rfl rfl ?_
    exact k)
  have f8 := (Fe.other W5 (Or.inr (slot_ne (Or.inl (own_w hw 69 rfl)) (Or.inl (own_w hw 66 rfl)) (by decide) (t := (.array (.object "java/lang/Object"))) (t' := .int) (by decide) (by decide))))
  obtain ⟨T9, X9, e9, st9⟩ := getF X5 hx hZ hown (host := "") (Or.inl (own_w hw 68 rfl)) Via.refl e5 f8 (g := (mkF m 13 #[vR r0, vR r1] [(.ref r0), (.ref r1), (.ref r0)])) rfl rfl (hb hby d13_13)
  have ks10 := own_c ks7 st9
  have ks11 : own_R p e below (A0) (T9.setTop (mkF m 17 #[vR r0, vR r1] [(.ref r0), (.ref ed), (.ref r1), (.ref r0)])) := fun t k => ks10 t (by
    refine XS.aloadN X9.here hx rfl (hb hby d13_16) rfl rfl ?_
    exact k)
  have f12 := (Fz.other W5 (Or.inr (slot_ne (Or.inl (own_w hw 81 rfl)) (Or.inl (own_w hw 66 rfl)) (by decide) (t := .int) (t' := .int) (by decide) (by decide))))
  obtain ⟨T13, X13, e13, st13⟩ := getF X9 hx hZ hown (host := "") (Or.inl (own_w hw 80 rfl)) Via.refl e9 f12 (g := (mkF m 17 #[vR r0, vR r1] [(.ref r0), (.ref ed), (.ref r1), (.ref r0)])) rfl rfl (hb hby d13_17)
  have ks14 := own_c ks11 st13
  have f16 := E0.keep KH5
  have f17 := (Vd.other W5 (Ne.symm n0d))
  have f18 := E1.keep KH5
  obtain ⟨cq15, qc15, qc15'⟩ := f16.cell
  obtain ⟨_, _, ⟨T15, L15, k15, n15⟩, -, X15, ⟨Lc15, hQ15, lq15, yq15, zq15⟩, st15⟩ := X13.privateBack hx (y := Y16) hown (mvT hZ (own_w hw 82 rfl)) (mvT hZ (own_w hw 83 rfl)) (mvT hZ (own_w hw 85 rfl)) (Cond.privateMethod_at (mvP hZ (own_w hw 84 rfl) (args := #[]))) (mvT hZ (own_w hw 86 rfl)) (by decide) (backOf (W := 0) (rm14_n l Z a0 hw [] r0 r1 ed sz _ (mc + (1 : Int32)) es cap h5 n0 Zn5 f16 f8 f12 Fw5 f17 Od hp0 hp1 hpn hpl g_r0 g_ed n0d f18) hZ (own_w hw 86 rfl) (own_w hw 48 rfl) (by decide) (by decide)) (g := (mkF m 20 #[vR r0, vR r1] [(.int sz), (.ref ed), (.ref r1), (.ref r0)])) rfl (by rw [hml]; rfl) (Steps.refl _) (a := r0) (by rw [e13]; exact qc15) qc15' (argsL := [(.ref r1), (.ref ed), (.int sz)]) (rest := []) (lenOf pd_10 rfl) rfl (by show 2 * 0 + _ ≤ _; exact Nat.le_of_eq rfl) (hb hby d13_20) (fun _ _ => ⟨rfl, e13, (by decide : 0 + 0 ≤ _), (by decide : 0 + 0 ≤ _)⟩)
  dsimp only [Pt.U, Pt.locs, Pt.cells, Pt.slots] at X15 lq15 yq15 zq15 st15 hQ15
  obtain rfl : k15 = 0 := yq15
  obtain rfl : n15 = 0 := zq15
  obtain ⟨rfl, Nq15, Kq15, Fe15, Fz15, Fm15, Vq15⟩ := hQ15
  have N15 := Fr.app N5 Nq15
  have KH15 : Keep h0 T15.heap [r0, ed] := KH5.trans Kq15 (allS (Or.inl (List.mem_of_getElem? (i := 0) rfl)) (allS (Or.inl (List.mem_of_getElem? (i := 1) rfl)) all0))
  have Zn15 : n0 ≤ T15.heap.size := Nat.le_trans Zn5 Kq15.1
  have N15' : Fr n0 L15 := by rw [lq15]; exact N15
  have ks19 := own_ct ks14 st15
  have ks20 : own_R p e below (A0) (T15.setTop (mkF m 24 #[vR r0, vR r1] [(.int 1)])) := fun t k => ks19 t (by
    refine XS.iconst X15.here hx rfl (hb hby d13_23) ?_
    exact k)
  obtain ⟨fs, hr, hrun, hended, hW, hsame⟩ := X15.leave (v := some (.int 1)) (fun h => by rw [Bd.returns] at h; cases h) hlk
  refine ⟨_, _, kz _ (ks20 _ ?_), hrun, hended, _, _, rfl, ?_, ⟨_, rfl⟩, hW, hsame.mono (by decide) (by decide)⟩
  · exact retN X15 hx (t := .boolean) Bd.returns (by simp) (hb hby d13_24) hr
  · show Q13_n Z r0 r1 ed ked mc es cap sz h0 n0 _ T15.heap _
    exact ⟨rfl, N15', KH15, Fe15, Fz15, Fm15, Vq15⟩
def own_bt (m i : Int32) : Int32 := ((m.toUInt32 >>> (i &&& 31).toUInt32).toInt32 &&& (1 : Int32))
def own_el (m : Int32) (r n : Addr) (i : Nat) : Addr := if own_bt m (Int32.ofNat i) = (0 : Int32) then n else r
def own_vs (m : Int32) (r n : Addr) (k : Nat) : List Value := (List.range k).map fun j => Value.ref (own_el m r n j)
theorem own_vs_len (m : Int32) (r n : Addr) (k : Nat) : (own_vs m r n k).length = k := by simp [own_vs]
theorem own_vs_succ (m : Int32) (r n : Addr) (k : Nat) : own_vs m r n (k + 1) = own_vs m r n k ++ [Value.ref (own_el m r n k)] := by simp [own_vs, List.range_succ]
theorem own_vs_hits {Z : State} {h : Heap} {r n : Addr} (m : Int32) (k : Nat) (Er : Exa Z h r "com/example/carved_corpus/carvedcorpus/Hit") (En : Exa Z h n "com/example/carved_corpus/carvedcorpus/Hit") : own_hits Z h (own_vs m r n k) := fun v hv => by
  obtain ⟨j, -, rfl⟩ := List.mem_map.mp hv
  refine ⟨_, rfl, ?_⟩
  unfold own_el; split
  · exact En
  · exact Er
theorem own_i32 : ∀ k : Fin 24, ¬ Int32.ofNat k.val < 0 ∧ (Int32.ofNat k.val).toNatClampNeg = k.val := by decide
theorem own_i32l : ∀ k c : Fin 24, (Int32.ofNat k.val < Int32.ofNat c.val ↔ k.val < c.val) ∧ (Int32.ofNat k.val = Int32.ofNat c.val ↔ k.val = c.val) := by decide
theorem own_nat {x : Int32} (h0 : ¬ x < 0) (h1 : ¬ (22 : Int32) < x) : ∃ j : Fin 23, x = Int32.ofNat j.val := by
  rw [Int32.lt_iff_toInt_lt] at h0 h1
  have e0 : (0 : Int32).toInt = 0 := by decide
  have e1 : (22 : Int32).toInt = 22 := by decide
  rw [e0] at h0; rw [e1] at h1
  refine ⟨⟨x.toInt.toNat, by omega⟩, ?_⟩
  apply Int32.toInt_inj.mp
  have : (Int32.ofNat x.toInt.toNat).toInt = x.toInt.toNat := by rw [Int32.toInt_ofNat_of_lt (by omega)]
  rw [this]; omega
theorem own_mn {i : Nat} {p l : Int32} (hp : p = Int32.ofNat i) (hi : i < 22) (h0 : ¬ l < 0) (h1 : ¬ (22 : Int32) < l) : (p < l ↔ i < l.toNatClampNeg) ∧ l.toNatClampNeg ≤ 22 := by
  obtain ⟨j, rfl⟩ := own_nat h0 h1
  have q := (own_i32l ⟨i, by omega⟩ ⟨j.val, by omega⟩).1
  have r := (own_i32 ⟨j.val, by omega⟩).2
  simp only at q r
  rw [hp, r]; exact ⟨q, by omega⟩
def own_L (Z : State) (h : Heap) (n1 : Nat) (l ed : Addr) (ked : ClassId) (cap mc : Int32) (es : List Value) (k : Nat) : Prop := Exa Z h l "java/util/ArrayList" ∧ Fld Z h l "java/util/ArrayList" "elementData" "[Ljava/lang/Object;" (.ref ed) ∧ Fld Z h l "java/util/ArrayList" "size" "I" (.int (Int32.ofNat k)) ∧ Fld Z h l "java/util/AbstractList" "modCount" "I" (.int mc) ∧ Arv Z h ed ked (.object "java/lang/Object") cap es .null ∧ Ovr Z ked "java/lang/Object" ∧ Exa Z h ed "[Ljava/lang/Object;" ∧ n1 ≤ ed ∧ l ≠ ed
def own_cap (k : Nat) (cap : Int32) : Prop := (cap = 10 ∧ 1 ≤ k ∧ k ≤ 10) ∨ (cap = 15 ∧ 11 ≤ k ∧ k ≤ 15) ∨ (cap = 22 ∧ 16 ≤ k ∧ k ≤ 22)
def own_B (Z : State) (h : Heap) (n1 : Nat) (l u : Addr) (m : Int32) (r n : Addr) (k : Nat) : Prop := n1 ≤ l ∧ ((k = 0 ∧ ∃ mc, Exa Z h l "java/util/ArrayList" ∧ Fld Z h l "java/util/ArrayList" "elementData" "[Ljava/lang/Object;" (.ref u) ∧ Fld Z h l "java/util/ArrayList" "size" "I" (.int 0) ∧ Fld Z h l "java/util/AbstractList" "modCount" "I" (.int mc)) ∨ ∃ ed ked cap mc, own_L Z h n1 l ed ked cap mc (own_vs m r n k) k ∧ own_cap k cap)
theorem own_B_cases {Z : State} {h : Heap} {n1 : Nat} {l u : Addr} {m : Int32} {r n : Addr} {k : Nat} (H : own_B Z h n1 l u m r n k) (hk : k < 22) : n1 ≤ l ∧ ((k = 0 ∧ ∃ mc, Exa Z h l "java/util/ArrayList" ∧ Fld Z h l "java/util/ArrayList" "elementData" "[Ljava/lang/Object;" (.ref u) ∧ Fld Z h l "java/util/ArrayList" "size" "I" (.int 0) ∧ Fld Z h l "java/util/AbstractList" "modCount" "I" (.int mc)) ∨
    (∃ ed ked cap mc, own_L Z h n1 l ed ked cap mc (own_vs m r n k) k ∧ own_cap (k + 1) cap ∧ ¬ (Int32.ofNat k) < 0 ∧ (Int32.ofNat k) < cap ∧ ¬ (Int32.ofNat k) = cap ∧ (Int32.ofNat k).toNatClampNeg = (own_vs m r n k).length ∧ ¬ k = 0 ∧ ¬ k = 10 ∧ ¬ k = 15) ∨
    (k = 10 ∧ ∃ ed ked mc, own_L Z h n1 l ed ked 10 mc (own_vs m r n k) k) ∨ (k = 15 ∧ ∃ ed ked mc, own_L Z h n1 l ed ked 15 mc (own_vs m r n k) k)) := by
  obtain ⟨hl, H⟩ := H
  refine ⟨hl, ?_⟩
  rcases H with H | ⟨ed, ked, cap, mc, H, hc⟩
  · exact Or.inl H
  have q := own_i32 ⟨k, by omega⟩
  simp only at q
  by_cases h10 : k = 10
  · subst h10
    rcases hc with ⟨rfl, -⟩ | ⟨-, h1, -⟩ | ⟨-, h1, -⟩
    · exact Or.inr (Or.inr (Or.inl ⟨rfl, ed, ked, mc, H⟩))
    · omega
    · omega
  by_cases h15 : k = 15
  · subst h15
    rcases hc with ⟨-, -, h1⟩ | ⟨rfl, -⟩ | ⟨-, h1, -⟩
    · omega
    · exact Or.inr (Or.inr (Or.inr ⟨rfl, ed, ked, mc, H⟩))
    · omega
  have hk0 : ¬ k = 0 := by rcases hc with ⟨-, h1, -⟩ | ⟨-, h1, -⟩ | ⟨-, h1, -⟩ <;> omega
  have key : own_cap (k + 1) cap ∧ (Int32.ofNat k) < cap ∧ ¬ (Int32.ofNat k) = cap := by
    rcases hc with ⟨rfl, h1, h2⟩ | ⟨rfl, h1, h2⟩ | ⟨rfl, h1, h2⟩
    · have s := own_i32l ⟨k, by omega⟩ ⟨10, by omega⟩; exact ⟨Or.inl ⟨rfl, by omega, by omega⟩, s.1.mpr (by show k < 10; omega), fun z => h10 (s.2.mp z)⟩
    · have s := own_i32l ⟨k, by omega⟩ ⟨15, by omega⟩; exact ⟨Or.inr (Or.inl ⟨rfl, by omega, by omega⟩), s.1.mpr (by show k < 15; omega), fun z => h15 (s.2.mp z)⟩
    · have s := own_i32l ⟨k, by omega⟩ ⟨22, by omega⟩; exact ⟨Or.inr (Or.inr ⟨rfl, by omega, by omega⟩), s.1.mpr (by show k < 22; omega), fun z => by have := s.2.mp z; simp only at this; omega⟩
  exact Or.inr (Or.inl ⟨ed, ked, cap, mc, H, key.1, q.1, key.2.1, key.2.2, by rw [own_vs_len]; exact q.2, hk0, h10, h15⟩)
theorem own_szs {k : Nat} : Int32.ofNat (k + 1) = Int32.ofNat k + 1 := by simp
theorem own_B_keep {Z : State} {h h' : Heap} {n1 : Nat} {l u : Addr} {m : Int32} {r n : Addr} {k : Nat} {ws : List Addr} (H : own_B Z h n1 l u m r n k) (K : Keep h h' ws) (q : ∀ x ∈ ws, x < n1) : own_B Z h' n1 l u m r n k := by
  have nin : ∀ y, n1 ≤ y → y ∉ ws := fun y hy z => absurd (q y z) (Nat.not_lt.mpr hy)
  obtain ⟨hl, H⟩ := H
  refine ⟨hl, ?_⟩
  rcases H with ⟨hk, mc, E, F1, F2, F3⟩ | ⟨ed, ked, cap, mc, ⟨E, F1, F2, F3, V, O, Ed, ge, ne⟩, hc⟩
  · exact Or.inl ⟨hk, mc, E.keep K, F1.keep K (nin _ hl), F2.keep K (nin _ hl), F3.keep K (nin _ hl)⟩
  · exact Or.inr ⟨ed, ked, cap, mc, ⟨E.keep K, F1.keep K (nin _ hl), F2.keep K (nin _ hl), F3.keep K (nin _ hl), V.keep K (nin _ ge), O, Ed.keep K, ge, ne⟩, hc⟩
theorem d12_0 : dk bc18 0 (.iload_n 2) 1 := by decide +kernel
theorem d12_1 : dk bc18 1 (.iload_n 3) 1 := by decide +kernel
theorem d12_2 : dk bc18 2 (.if_icmp .ge 23) 3 := by decide +kernel
theorem d12_5 : dk bc18 5 (.aload_n 0) 1 := by decide +kernel
theorem d12_6 : dk bc18 6 (.iload_n 1) 1 := by decide +kernel
theorem d12_7 : dk bc18 7 (.iload_n 2) 1 := by decide +kernel
theorem d12_8 : dk bc18 8 (.iushr) 1 := by decide +kernel
theorem d12_9 : dk bc18 9 (.iconst 1) 1 := by decide +kernel
theorem d12_10 : dk bc18 10 (.iand) 1 := by decide +kernel
theorem d12_11 : dk bc18 11 (.ifCond .eq 8) 3 := by decide +kernel
theorem d12_14 : dk bc18 14 (.aload 4) 2 := by decide +kernel
theorem d12_16 : dk bc18 16 (.goto 5) 3 := by decide +kernel
theorem d12_19 : dk bc18 19 (.aload 5) 2 := by decide +kernel
theorem d12_21 : dk bc18 21 (.invokevirtual 59) 3 := by decide +kernel
theorem d12_24 : dk bc18 24 (.pop) 1 := by decide +kernel
theorem d12_25 : dk bc18 25 (.return_) 1 := by decide +kernel
theorem pn_12 : plainName "com/example/carved_corpus/carvedcorpus/cli/EvaluationGetRelevantAtCutoffPinLaw" = true := by first | (simp [plainName, overriddenIn]; done) | decide +kernel
theorem pd_9 : parseMethodDescriptor "(Ljava/lang/Object;)Z" = some ⟨[(.object "java/lang/Object")], some .boolean⟩ := by decide +kernel
theorem ef_12_z (m : MethodId) (x0 : Addr) (x1 : Int32) (x2 : Int32) (x3 : Int32) (x4 : Addr) (x5 : Addr) : entryFrame m #[(.ref x0), (.int x1), (.int x2), (.int x3), (.ref x4), (.ref x5)] 6 = mkF m 0 #[.val (.ref x0), .val (.int x1), .val (.int x2), .val (.int x3), .val (.ref x4), .val (.ref x5)] [] := by first | (simp [entryFrame, mkF, argsToLocals, Value.category]; done) | rfl
def Q12_z (Z : State) (r0 : Addr) (p1 : Int32) (p2 : Int32) (p3 : Int32) (r4 : Addr) (r5 : Addr) (u : Addr) (ku : ClassId) (mo : Addr) (i : Nat) (n1 : Nat) (h0 : Heap) (n0 : Nat) (v : Option Value) (h : Heap) (L : List Loc) : Prop := v = none ∧ Fr n0 L ∧ n0 ≤ h.size ∧ Old Z n0 h ∧ (∀ (x : Addr) (K : String), Exa Z h0 x K → Exa Z h x K) ∧ ∃ ws, Keep h0 h ws ∧ (∀ x ∈ ws, n1 ≤ x) ∧ own_B Z h n1 r0 u p1 r4 r5 (min (i + 1) p3.toNatClampNeg)
set_option maxRecDepth 65536 in
set_option maxHeartbeats 40000000 in
theorem rm12_z (l : Launch) (Z : State) (a0 : Array Value) (hw : ∀ d ∈ tables_1, d.before a0 Z = true) (ws : List Jvm.Cond) (r0 : Addr) (p1 : Int32) (p2 : Int32) (p3 : Int32) (r4 : Addr) (r5 : Addr) (u : Addr) (ku : ClassId) (mo : Addr) (i : Nat) (n1 : Nat) (h0 : Heap) (n0 : Nat) (Z0 : n0 ≤ h0.size) (Oq0 : Old Z n0 h0) (Sd0 : Sta Z Z.heap "java/util/ArrayList" "DEFAULTCAPACITY_EMPTY_ELEMENTDATA" "[Ljava/lang/Object;" (.ref u)) (Vu0 : Arv Z Z.heap u ku (.object "java/lang/Object") 0 [] .null) (Mo : Mir Z "[Ljava/lang/Object;" mo) (hB : own_B Z h0 n1 r0 u p1 r4 r5 (min i p3.toNatClampNeg)) (hpi : p2 = Int32.ofNat i) (hi : i < 22) (hl0 : ¬ p3 < 0) (hl1 : ¬ (22 : Int32) < p3) (hn1 : n0 ≤ n1) (hn2 : n1 ≤ h0.size) (E4 : Exa Z h0 r4 "com/example/carved_corpus/carvedcorpus/Hit") (E5 : Exa Z h0 r5 "com/example/carved_corpus/carvedcorpus/Hit") (hiV : i = 0) :
    MetFree l Y18 (head1 (Jvm.Cond.code Y18 method_4_code 6 none :: ws) (⟨5, 1, 10, 69⟩ : Room)) (fun a U => a = #[(.ref r0), (.int p1), (.int p2), (.int p3), (.ref r4), (.ref r5)] ∧ Z.Warmed39 U.vm ∧ U.heap = h0) (fun _ _ _ _ _ => True) (fun _ U o U' => ∃ v L, o = .returned v ∧ Q12_z Z r0 p1 p2 p3 r4 r5 u ku mo i n1 h0 n0 v U'.heap L ∧ FrameEnd U o U' L (⟨5, 1, 10, 69⟩ : Room).cells (⟨5, 1, 10, 69⟩ : Room).slots) := by
  refine MetFree.of_bodySF (plainFor_of_name pn_12) hisR ?_
  intro p e s m args below meth c s₁ Bd hml0 hP hK
  obtain ⟨rfl, hZ, hh⟩ := hP
  have hx := Bd.exec
  have hby := Bd.bytes
  have hml : c.maxLocals = 6 := hml0
  have hown : s.vm.findClass "com/example/carved_corpus/carvedcorpus/cli/EvaluationGetRelevantAtCutoffPinLaw" = some m.cls := findClass_of_methodNamed Bd.named
  have hnm := (name_of_methodNamed Bd.named Bd.method).1
  have hlk : meth.locks = false := by first | exact BodyLoose.notSynchronized Bd | exact Body.notSynchronized Bd
  have X0 : Stand p l e (⟨5, 1, 10, 69⟩ : Room) s m #[(.ref r0), (.int p1), (.int p2), (.int p3), (.ref r4), (.ref r5)] below meth c s₁ [] 0 0 := Stand.of_body Bd
  have e0 : s₁.heap = h0 := by rw [← hh, Bd.state]; rfl
  have N0 := Fr.nil n0
  have k0 : own_R p e below (s₁.setTop (entryFrame m #[(.ref r0), (.int p1), (.int p2), (.int p3), (.ref r4), (.ref r5)] 6)) (s₁.setTop (mkF m 0 #[vR r0, vI p1, vI p2, vI p3, vR r4, vR r5] [])) := fun t k => castTop (ef_12_z m r0 p1 p2 p3 r4 r5) k
  obtain ⟨A0, hA0⟩ : ∃ z, z = s₁.setTop (entryFrame m #[(.ref r0), (.int p1), (.int p2), (.int p3), (.ref r4), (.ref r5)] 6) := ⟨_, rfl⟩
  rw [← hA0] at k0
  have kz : ∀ t, Steps p.tables e below A0 t → Steps p.tables e below (s₁.setTop (entryFrame m #[(.ref r0), (.int p1), (.int p2), (.int p3), (.ref r4), (.ref r5)] 6)) t := fun t q => hA0 ▸ q
  have Sd := Sd0.ext Oq0.2
  have Vu := Vu0.ext Oq0.2
  have ks1 : own_R p e below (A0) (s₁.setTop (mkF m 2 #[vR r0, vI p1, vI p2, vI p3, vR r4, vR r5] [(.int p3), (.int p2)])) := fun t k => k0 t (by
    refine XS.iloadN X0.here hx rfl (hb hby d12_0) rfl ?_
    refine XS.iloadN X0.here hx rfl (hb hby d12_1) rfl ?_
    exact k)
  by_cases hc2 : p2 < p3
  · skip
    have ks3 : own_R p e below (A0) (s₁.setTop (mkF m 5 #[vR r0, vI p1, vI p2, vI p3, vR r4, vR r5] [])) := fun t k => ks1 t (by
      refine XS.icmpNo X0.here hx rfl (hb hby d12_2) rfl (tlt hc2).2.1 ?_
      exact k)
    have hlt := ((own_mn hpi hi hl0 hl1).1).mp hc2
    rw [Nat.min_eq_left (Nat.le_of_lt hlt)] at hB
    have hes := own_vs_hits p1 i E4 E5
    obtain ⟨hl, hB⟩ := own_B_cases hB hi
    have g_r0 : n0 ≤ r0 := Nat.le_trans hn1 hl
    have n0u : r0 ≠ u := fun q => by have := Oq0.1 ▸ Vu0.lt; rw [← q] at this; exact absurd this (Nat.not_lt.mpr g_r0)
    rcases hB with ⟨hk, mc, E0, Fe, Fz, Fm⟩ | ⟨ed, ked, cap, mc, ⟨E0, Fe, Fz, Fm, Vd, Od, Ed, ged, n0d⟩, hcp, hp0, hp1, hpn, hpl, hnV⟩ | ⟨hk, ed, ked, mc, ⟨E0, Fe, Fz, Fm, Vd, Od, Ed, ged, n0d⟩⟩ | ⟨hk, ed, ked, mc, ⟨E0, Fe, Fz, Fm, Vd, Od, Ed, ged, n0d⟩⟩
    · skip
      have ks6 : own_R p e below (A0) (s₁.setTop (mkF m 11 #[vR r0, vI p1, vI p2, vI p3, vR r4, vR r5] [(.int (((p1.toUInt32 >>> (p2 &&& 31).toUInt32).toInt32) &&& (1 : Int32))), (.ref r0)])) := fun t k => ks3 t (by
        refine XS.aloadN X0.here hx rfl (hb hby d12_5) rfl rfl ?_
        refine XS.iloadN X0.here hx rfl (hb hby d12_6) rfl ?_
        refine XS.iloadN X0.here hx rfl (hb hby d12_7) rfl ?_
        show Steps p.tables e below (s₁.setTop (mkF m 8 #[vR r0, vI p1, vI p2, vI p3, vR r4, vR r5] [(.int p2), (.int p1), (.ref r0)])) _
        refine XS.iushr X0.here hx rfl (hb hby d12_8) rfl ?_
        refine XS.iconst X0.here hx rfl (hb hby d12_9) ?_
        refine XS.iand X0.here hx rfl (hb hby d12_10) rfl ?_
        exact k)
      obtain ⟨v5, hv5⟩ : ∃ z : Addr, z = (if (((p1.toUInt32 >>> (p2 &&& 31).toUInt32).toInt32) &&& (1 : Int32)) = (0 : Int32) then r5 else r4) := ⟨_, rfl⟩
      have ks7 : own_R p e below (A0) (s₁.setTop (mkF m 21 #[vR r0, vI p1, vI p2, vI p3, vR r4, vR r5] [(.ref v5), (.ref r0)])) := fun t k => ks6 t (by
        by_cases hc4 : (((p1.toUInt32 >>> (p2 &&& 31).toUInt32).toInt32) &&& (1 : Int32)) = (0 : Int32)
        · skip
          have qq8 : v5 = r5 := by rw [hv5, if_pos hc4]
          rw [qq8] at k
          refine XS.ifYes X0.here hx rfl (pc0 := 11) (pc' := 19) rfl (hb hby d12_11) rfl ((if0 _ _).trans (teq hc4).1) (by decide) (by decide) ?_
          refine XS.aload X0.here hx rfl (hb hby d12_19) rfl rfl ?_
          exact k
        · skip
          have qq9 : v5 = r4 := by rw [hv5, if_neg hc4]
          rw [qq9] at k
          refine XS.ifNo X0.here hx rfl (hb hby d12_11) rfl ((if0 _ _).trans (feq hc4).1) ?_
          refine XS.aload X0.here hx rfl (hb hby d12_14) rfl rfl ?_
          refine XS.goto X0.here hx rfl (pc0 := 16) (pc' := 21) rfl (hb hby d12_16) (by decide) (by decide) ?_
          exact k)
      have Ev5 : Exa Z h0 v5 "com/example/carved_corpus/carvedcorpus/Hit" := by rw [hv5]; split <;> assumption
      obtain ⟨cq10, kq10, q10a, q10b, q10c⟩ := isOf hZ e0 E0
      obtain ⟨_, _, ⟨T10, L10, k10, n10⟩, -, X10, ⟨Lc10, hQ10, lq10, yq10, zq10⟩, st10⟩ := X0.virtualBack hx (y := Y17) (z := Y17) hown (mvT hZ (own_w hw 73 rfl)) (mvT hZ (own_w hw 74 rfl)) (notFace_of_selects (args := #[]) (mvT hZ (own_w hw 76 rfl))) (mvT hZ (own_w hw 76 rfl)) (mvT hZ (own_w hw 75 rfl)) (by decide) (backOf (W := 0) (rm13_z l Z a0 hw [] r0 v5 u _ mc h0 n0 Z0 E0 Fe Fz Fm Sd Vu g_r0 n0u Ev5) hZ (own_w hw 77 rfl) (own_w hw 48 rfl) (by decide) (by decide)) q10a q10c (g := (mkF m 21 #[vR r0, vI p1, vI p2, vI p3, vR r4, vR r5] [(.ref v5), (.ref r0)])) rfl (by rw [hml]; rfl) (Steps.refl _) (argsL := [(.ref v5)]) (rest := []) (lenOf pd_9 rfl) rfl (by show 2 * 0 + _ ≤ _; exact Nat.le_of_eq rfl) (hb hby d12_21) (fun _ _ => ⟨rfl, e0, (by decide : 0 + 1 ≤ _), (by decide : 0 + 10 ≤ _)⟩)
      dsimp only [Pt.U, Pt.locs, Pt.cells, Pt.slots] at X10 lq10 yq10 zq10 st10 hQ10
      obtain rfl : k10 = 1 := yq10
      obtain rfl : n10 = 10 := zq10
      obtain ⟨bq10, kq10, rfl, Nq10, Kq10, g_bq10, szq10, Fe10, Fz10, Fm10, Vq10, Oq10, Eq10⟩ := hQ10
      have N10 := Fr.app N0 Nq10
      have KH10 : Keep h0 T10.heap [r0] := (Keep.refl h0 [r0]).trans Kq10 (allS (Or.inl (List.mem_of_getElem? (i := 0) rfl)) all0)
      have Zn10 : n0 ≤ T10.heap.size := Nat.le_trans Z0 Kq10.1
      have ne_u_bq10 := nls Vu.lt szq10
      have ne_r4_bq10 := nls E4.lt szq10
      have ne_r5_bq10 := nls E5.lt szq10
      have ne_r0_bq10 := nls E0.lt szq10
      have ne_v5_bq10 := nls Ev5.lt szq10
      have sz_bq10 : h0.size ≤ bq10 := Nat.le_trans (Keep.refl h0 [r0]).1 szq10
      have N10' : Fr n0 L10 := by rw [lq10]; exact N10
      have ks11 := own_ct ks7 st10
      have ks12 : own_R p e below (A0) (T10.setTop (mkF m 25 #[vR r0, vI p1, vI p2, vI p3, vR r4, vR r5] [])) := fun t k => ks11 t (by
        refine XS.pop X10.here hx rfl (hb hby d12_24) rfl rfl ?_
        exact k)
      obtain ⟨fs, hr, hrun, hended, hW, hsame⟩ := X10.leave (v := none) (fun _ => rfl) hlk
      refine ⟨_, _, kz _ (ks12 _ ?_), hrun, hended, _, _, rfl, ?_, ⟨_, rfl⟩, hW, hsame.mono (by decide) (by decide)⟩
      · exact X10.returnOut hx Bd.returns (hb hby d12_25) hr
      · show Q12_z Z r0 p1 p2 p3 r4 r5 u ku mo i n1 h0 n0 _ T10.heap _
        have f13 := E0.keep KH10
        have hel : v5 = own_el p1 r4 r5 i := by rw [hv5, own_el, own_bt, ← hpi]
        have Ve : Arv Z T10.heap bq10 kq10 (.object "java/lang/Object") (10 : Int32) (own_vs p1 r4 r5 (i + 1)) .null := by rw [own_vs_succ, ← hel, hk]; exact Vq10
        refine ⟨rfl, N10', Zn10, Oq0.keep KH10 (allS g_r0 all0), fun _ _ q => q.keep KH10, [r0], KH10, (allS hl all0), ?_⟩
        rw [Nat.min_eq_left hlt]
        exact ⟨hl, Or.inr ⟨bq10, _, _, _, ⟨f13, Fe10, (by rw [hk]; exact Fz10), Fm10, Ve, Oq10, Eq10, (Nat.le_trans hn2 sz_bq10), ne_r0_bq10⟩, (by rw [hk]; exact Or.inl ⟨rfl, by decide, by decide⟩)⟩⟩
    · exact absurd hiV (by omega)
    · exact absurd hiV (by omega)
    · exact absurd hiV (by omega)
  · skip
    have ks14 : own_R p e below (A0) (s₁.setTop (mkF m 25 #[vR r0, vI p1, vI p2, vI p3, vR r4, vR r5] [])) := fun t k => ks1 t (by
      refine XS.icmpYes X0.here hx rfl (pc0 := 2) (pc' := 25) rfl (hb hby d12_2) rfl (flt hc2).2.1 (by decide) (by decide) ?_
      exact k)
    obtain ⟨fs, hr, hrun, hended, hW, hsame⟩ := X0.leave (v := none) (fun _ => rfl) hlk
    refine ⟨_, _, kz _ (ks14 _ ?_), hrun, hended, _, _, rfl, ?_, ⟨_, rfl⟩, hW, hsame.mono (by decide) (by decide)⟩
    · exact X0.returnOut hx Bd.returns (hb hby d12_25) hr
    · show Q12_z Z r0 p1 p2 p3 r4 r5 u ku mo i n1 h0 n0 _ s₁.heap _
      rw [e0]
      have hge := mt ((own_mn hpi hi hl0 hl1).1).mpr hc2
      rw [Nat.min_eq_right (Nat.not_lt.mp hge)] at hB
      refine ⟨rfl, N0, Z0, Oq0, fun _ _ q => q, [], Keep.refl _ _, all0, ?_⟩
      rw [Nat.min_eq_right (Nat.le_succ_of_le (Nat.not_lt.mp hge))]; exact hB
theorem ef_12_n (m : MethodId) (x0 : Addr) (x1 : Int32) (x2 : Int32) (x3 : Int32) (x4 : Addr) (x5 : Addr) : entryFrame m #[(.ref x0), (.int x1), (.int x2), (.int x3), (.ref x4), (.ref x5)] 6 = mkF m 0 #[.val (.ref x0), .val (.int x1), .val (.int x2), .val (.int x3), .val (.ref x4), .val (.ref x5)] [] := by first | (simp [entryFrame, mkF, argsToLocals, Value.category]; done) | rfl
def Q12_n (Z : State) (r0 : Addr) (p1 : Int32) (p2 : Int32) (p3 : Int32) (r4 : Addr) (r5 : Addr) (u : Addr) (ku : ClassId) (mo : Addr) (i : Nat) (n1 : Nat) (h0 : Heap) (n0 : Nat) (v : Option Value) (h : Heap) (L : List Loc) : Prop := v = none ∧ Fr n0 L ∧ n0 ≤ h.size ∧ Old Z n0 h ∧ (∀ (x : Addr) (K : String), Exa Z h0 x K → Exa Z h x K) ∧ ∃ ws, Keep h0 h ws ∧ (∀ x ∈ ws, n1 ≤ x) ∧ own_B Z h n1 r0 u p1 r4 r5 (min (i + 1) p3.toNatClampNeg)
set_option maxRecDepth 65536 in
set_option maxHeartbeats 40000000 in
theorem rm12_n (l : Launch) (Z : State) (a0 : Array Value) (hw : ∀ d ∈ tables_1, d.before a0 Z = true) (ws : List Jvm.Cond) (r0 : Addr) (p1 : Int32) (p2 : Int32) (p3 : Int32) (r4 : Addr) (r5 : Addr) (u : Addr) (ku : ClassId) (mo : Addr) (i : Nat) (n1 : Nat) (h0 : Heap) (n0 : Nat) (Z0 : n0 ≤ h0.size) (Oq0 : Old Z n0 h0) (Sd0 : Sta Z Z.heap "java/util/ArrayList" "DEFAULTCAPACITY_EMPTY_ELEMENTDATA" "[Ljava/lang/Object;" (.ref u)) (Vu0 : Arv Z Z.heap u ku (.object "java/lang/Object") 0 [] .null) (Mo : Mir Z "[Ljava/lang/Object;" mo) (hB : own_B Z h0 n1 r0 u p1 r4 r5 (min i p3.toNatClampNeg)) (hpi : p2 = Int32.ofNat i) (hi : i < 22) (hl0 : ¬ p3 < 0) (hl1 : ¬ (22 : Int32) < p3) (hn1 : n0 ≤ n1) (hn2 : n1 ≤ h0.size) (E4 : Exa Z h0 r4 "com/example/carved_corpus/carvedcorpus/Hit") (E5 : Exa Z h0 r5 "com/example/carved_corpus/carvedcorpus/Hit") (hiV : ¬ i = 0 ∧ ¬ i = 10 ∧ ¬ i = 15) :
    MetFree l Y18 (head1 (Jvm.Cond.code Y18 method_4_code 6 none :: ws) (⟨2, 0, 0, 28⟩ : Room)) (fun a U => a = #[(.ref r0), (.int p1), (.int p2), (.int p3), (.ref r4), (.ref r5)] ∧ Z.Warmed39 U.vm ∧ U.heap = h0) (fun _ _ _ _ _ => True) (fun _ U o U' => ∃ v L, o = .returned v ∧ Q12_n Z r0 p1 p2 p3 r4 r5 u ku mo i n1 h0 n0 v U'.heap L ∧ FrameEnd U o U' L (⟨2, 0, 0, 28⟩ : Room).cells (⟨2, 0, 0, 28⟩ : Room).slots) := by
  refine MetFree.of_bodySF (plainFor_of_name pn_12) hisR ?_
  intro p e s m args below meth c s₁ Bd hml0 hP hK
  obtain ⟨rfl, hZ, hh⟩ := hP
  have hx := Bd.exec
  have hby := Bd.bytes
  have hml : c.maxLocals = 6 := hml0
  have hown : s.vm.findClass "com/example/carved_corpus/carvedcorpus/cli/EvaluationGetRelevantAtCutoffPinLaw" = some m.cls := findClass_of_methodNamed Bd.named
  have hnm := (name_of_methodNamed Bd.named Bd.method).1
  have hlk : meth.locks = false := by first | exact BodyLoose.notSynchronized Bd | exact Body.notSynchronized Bd
  have X0 : Stand p l e (⟨2, 0, 0, 28⟩ : Room) s m #[(.ref r0), (.int p1), (.int p2), (.int p3), (.ref r4), (.ref r5)] below meth c s₁ [] 0 0 := Stand.of_body Bd
  have e0 : s₁.heap = h0 := by rw [← hh, Bd.state]; rfl
  have N0 := Fr.nil n0
  have k0 : own_R p e below (s₁.setTop (entryFrame m #[(.ref r0), (.int p1), (.int p2), (.int p3), (.ref r4), (.ref r5)] 6)) (s₁.setTop (mkF m 0 #[vR r0, vI p1, vI p2, vI p3, vR r4, vR r5] [])) := fun t k => castTop (ef_12_n m r0 p1 p2 p3 r4 r5) k
  obtain ⟨A0, hA0⟩ : ∃ z, z = s₁.setTop (entryFrame m #[(.ref r0), (.int p1), (.int p2), (.int p3), (.ref r4), (.ref r5)] 6) := ⟨_, rfl⟩
  rw [← hA0] at k0
  have kz : ∀ t, Steps p.tables e below A0 t → Steps p.tables e below (s₁.setTop (entryFrame m #[(.ref r0), (.int p1), (.int p2), (.int p3), (.ref r4), (.ref r5)] 6)) t := fun t q => hA0 ▸ q
  have Sd := Sd0.ext Oq0.2
  have Vu := Vu0.ext Oq0.2
  have ks1 : own_R p e below (A0) (s₁.setTop (mkF m 2 #[vR r0, vI p1, vI p2, vI p3, vR r4, vR r5] [(.int p3), (.int p2)])) := fun t k => k0 t (by
    refine XS.iloadN X0.here hx rfl (hb hby d12_0) rfl ?_
    refine XS.iloadN X0.here hx rfl (hb hby d12_1) rfl ?_
    exact k)
  by_cases hc2 : p2 < p3
  · skip
    have ks3 : own_R p e below (A0) (s₁.setTop (mkF m 5 #[vR r0, vI p1, vI p2, vI p3, vR r4, vR r5] [])) := fun t k => ks1 t (by
      refine XS.icmpNo X0.here hx rfl (hb hby d12_2) rfl (tlt hc2).2.1 ?_
      exact k)
    have hlt := ((own_mn hpi hi hl0 hl1).1).mp hc2
    rw [Nat.min_eq_left (Nat.le_of_lt hlt)] at hB
    have hes := own_vs_hits p1 i E4 E5
    obtain ⟨hl, hB⟩ := own_B_cases hB hi
    have g_r0 : n0 ≤ r0 := Nat.le_trans hn1 hl
    have n0u : r0 ≠ u := fun q => by have := Oq0.1 ▸ Vu0.lt; rw [← q] at this; exact absurd this (Nat.not_lt.mpr g_r0)
    rcases hB with ⟨hk, mc, E0, Fe, Fz, Fm⟩ | ⟨ed, ked, cap, mc, ⟨E0, Fe, Fz, Fm, Vd, Od, Ed, ged, n0d⟩, hcp, hp0, hp1, hpn, hpl, hnV⟩ | ⟨hk, ed, ked, mc, ⟨E0, Fe, Fz, Fm, Vd, Od, Ed, ged, n0d⟩⟩ | ⟨hk, ed, ked, mc, ⟨E0, Fe, Fz, Fm, Vd, Od, Ed, ged, n0d⟩⟩
    · exact absurd hiV (by omega)
    · skip
      have g_ed : n0 ≤ ed := Nat.le_trans hn1 ged
      have ks6 : own_R p e below (A0) (s₁.setTop (mkF m 11 #[vR r0, vI p1, vI p2, vI p3, vR r4, vR r5] [(.int (((p1.toUInt32 >>> (p2 &&& 31).toUInt32).toInt32) &&& (1 : Int32))), (.ref r0)])) := fun t k => ks3 t (by
        refine XS.aloadN X0.here hx rfl (hb hby d12_5) rfl rfl ?_
        refine XS.iloadN X0.here hx rfl (hb hby d12_6) rfl ?_
        refine XS.iloadN X0.here hx rfl (hb hby d12_7) rfl ?_
        show Steps p.tables e below (s₁.setTop (mkF m 8 #[vR r0, vI p1, vI p2, vI p3, vR r4, vR r5] [(.int p2), (.int p1), (.ref r0)])) _
        refine XS.iushr X0.here hx rfl (hb hby d12_8) rfl ?_
        refine XS.iconst X0.here hx rfl (hb hby d12_9) ?_
        refine XS.iand X0.here hx rfl (hb hby d12_10) rfl ?_
        exact k)
      obtain ⟨v5, hv5⟩ : ∃ z : Addr, z = (if (((p1.toUInt32 >>> (p2 &&& 31).toUInt32).toInt32) &&& (1 : Int32)) = (0 : Int32) then r5 else r4) := ⟨_, rfl⟩
      have ks7 : own_R p e below (A0) (s₁.setTop (mkF m 21 #[vR r0, vI p1, vI p2, vI p3, vR r4, vR r5] [(.ref v5), (.ref r0)])) := fun t k => ks6 t (by
        by_cases hc4 : (((p1.toUInt32 >>> (p2 &&& 31).toUInt32).toInt32) &&& (1 : Int32)) = (0 : Int32)
        · skip
          have qq8 : v5 = r5 := by rw [hv5, if_pos hc4]
          rw [qq8] at k
          refine XS.ifYes X0.here hx rfl (pc0 := 11) (pc' := 19) rfl (hb hby d12_11) rfl ((if0 _ _).trans (teq hc4).1) (by decide) (by decide) ?_
          refine XS.aload X0.here hx rfl (hb hby d12_19) rfl rfl ?_
          exact k
        · skip
          have qq9 : v5 = r4 := by rw [hv5, if_neg hc4]
          rw [qq9] at k
          refine XS.ifNo X0.here hx rfl (hb hby d12_11) rfl ((if0 _ _).trans (feq hc4).1) ?_
          refine XS.aload X0.here hx rfl (hb hby d12_14) rfl rfl ?_
          refine XS.goto X0.here hx rfl (pc0 := 16) (pc' := 21) rfl (hb hby d12_16) (by decide) (by decide) ?_
          exact k)
      have Ev5 : Exa Z h0 v5 "com/example/carved_corpus/carvedcorpus/Hit" := by rw [hv5]; split <;> assumption
      obtain ⟨cq10, kq10, q10a, q10b, q10c⟩ := isOf hZ e0 E0
      obtain ⟨_, _, ⟨T10, L10, k10, n10⟩, -, X10, ⟨Lc10, hQ10, lq10, yq10, zq10⟩, st10⟩ := X0.virtualBack hx (y := Y17) (z := Y17) hown (mvT hZ (own_w hw 73 rfl)) (mvT hZ (own_w hw 74 rfl)) (notFace_of_selects (args := #[]) (mvT hZ (own_w hw 76 rfl))) (mvT hZ (own_w hw 76 rfl)) (mvT hZ (own_w hw 75 rfl)) (by decide) (backOf (W := 0) (rm13_n l Z a0 hw [] r0 v5 ed _ mc (own_vs p1 r4 r5 i) cap (Int32.ofNat i) h0 n0 Z0 E0 Fe Fz Fm Vd Od hp0 hp1 hpn hpl g_r0 g_ed n0d Ev5) hZ (own_w hw 77 rfl) (own_w hw 48 rfl) (by decide) (by decide)) q10a q10c (g := (mkF m 21 #[vR r0, vI p1, vI p2, vI p3, vR r4, vR r5] [(.ref v5), (.ref r0)])) rfl (by rw [hml]; rfl) (Steps.refl _) (argsL := [(.ref v5)]) (rest := []) (lenOf pd_9 rfl) rfl (by show 2 * 0 + _ ≤ _; exact Nat.le_of_eq rfl) (hb hby d12_21) (fun _ _ => ⟨rfl, e0, (by decide : 0 + 0 ≤ _), (by decide : 0 + 0 ≤ _)⟩)
      dsimp only [Pt.U, Pt.locs, Pt.cells, Pt.slots] at X10 lq10 yq10 zq10 st10 hQ10
      obtain rfl : k10 = 0 := yq10
      obtain rfl : n10 = 0 := zq10
      obtain ⟨rfl, Nq10, Kq10, Fe10, Fz10, Fm10, Vq10⟩ := hQ10
      have N10 := Fr.app N0 Nq10
      have KH10 : Keep h0 T10.heap [r0, ed] := (Keep.refl h0 [r0, ed]).trans Kq10 (allS (Or.inl (List.mem_of_getElem? (i := 0) rfl)) (allS (Or.inl (List.mem_of_getElem? (i := 1) rfl)) all0))
      have Zn10 : n0 ≤ T10.heap.size := Nat.le_trans Z0 Kq10.1
      have N10' : Fr n0 L10 := by rw [lq10]; exact N10
      have ks11 := own_ct ks7 st10
      have ks12 : own_R p e below (A0) (T10.setTop (mkF m 25 #[vR r0, vI p1, vI p2, vI p3, vR r4, vR r5] [])) := fun t k => ks11 t (by
        refine XS.pop X10.here hx rfl (hb hby d12_24) rfl rfl ?_
        exact k)
      obtain ⟨fs, hr, hrun, hended, hW, hsame⟩ := X10.leave (v := none) (fun _ => rfl) hlk
      refine ⟨_, _, kz _ (ks12 _ ?_), hrun, hended, _, _, rfl, ?_, ⟨_, rfl⟩, hW, hsame.mono (by decide) (by decide)⟩
      · exact X10.returnOut hx Bd.returns (hb hby d12_25) hr
      · show Q12_n Z r0 p1 p2 p3 r4 r5 u ku mo i n1 h0 n0 _ T10.heap _
        have f13 := E0.keep KH10
        have hel : v5 = own_el p1 r4 r5 i := by rw [hv5, own_el, own_bt, ← hpi]
        have Ve : Arv Z T10.heap ed ked (.object "java/lang/Object") cap (own_vs p1 r4 r5 (i + 1)) .null := by rw [own_vs_succ, ← hel]; exact Vq10
        refine ⟨rfl, N10', Zn10, Oq0.keep KH10 (allS g_r0 (allS g_ed all0)), fun _ _ q => q.keep KH10, [r0, ed], KH10, (allS hl (allS ged all0)), ?_⟩
        rw [Nat.min_eq_left hlt]
        exact ⟨hl, Or.inr ⟨ed, _, _, _, ⟨f13, Fe10, (by rw [own_szs]; exact Fz10), Fm10, Ve, Od, (Ed.keep KH10), ged, n0d⟩, hcp⟩⟩
    · exact absurd hiV (by omega)
    · exact absurd hiV (by omega)
  · skip
    have ks14 : own_R p e below (A0) (s₁.setTop (mkF m 25 #[vR r0, vI p1, vI p2, vI p3, vR r4, vR r5] [])) := fun t k => ks1 t (by
      refine XS.icmpYes X0.here hx rfl (pc0 := 2) (pc' := 25) rfl (hb hby d12_2) rfl (flt hc2).2.1 (by decide) (by decide) ?_
      exact k)
    obtain ⟨fs, hr, hrun, hended, hW, hsame⟩ := X0.leave (v := none) (fun _ => rfl) hlk
    refine ⟨_, _, kz _ (ks14 _ ?_), hrun, hended, _, _, rfl, ?_, ⟨_, rfl⟩, hW, hsame.mono (by decide) (by decide)⟩
    · exact X0.returnOut hx Bd.returns (hb hby d12_25) hr
    · show Q12_n Z r0 p1 p2 p3 r4 r5 u ku mo i n1 h0 n0 _ s₁.heap _
      rw [e0]
      have hge := mt ((own_mn hpi hi hl0 hl1).1).mpr hc2
      rw [Nat.min_eq_right (Nat.not_lt.mp hge)] at hB
      refine ⟨rfl, N0, Z0, Oq0, fun _ _ q => q, [], Keep.refl _ _, all0, ?_⟩
      rw [Nat.min_eq_right (Nat.le_succ_of_le (Nat.not_lt.mp hge))]; exact hB
theorem ef_12_10 (m : MethodId) (x0 : Addr) (x1 : Int32) (x2 : Int32) (x3 : Int32) (x4 : Addr) (x5 : Addr) : entryFrame m #[(.ref x0), (.int x1), (.int x2), (.int x3), (.ref x4), (.ref x5)] 6 = mkF m 0 #[.val (.ref x0), .val (.int x1), .val (.int x2), .val (.int x3), .val (.ref x4), .val (.ref x5)] [] := by first | (simp [entryFrame, mkF, argsToLocals, Value.category]; done) | rfl
def Q12_10 (Z : State) (r0 : Addr) (p1 : Int32) (p2 : Int32) (p3 : Int32) (r4 : Addr) (r5 : Addr) (u : Addr) (ku : ClassId) (mo : Addr) (i : Nat) (n1 : Nat) (h0 : Heap) (n0 : Nat) (v : Option Value) (h : Heap) (L : List Loc) : Prop := v = none ∧ Fr n0 L ∧ n0 ≤ h.size ∧ Old Z n0 h ∧ (∀ (x : Addr) (K : String), Exa Z h0 x K → Exa Z h x K) ∧ ∃ ws, Keep h0 h ws ∧ (∀ x ∈ ws, n1 ≤ x) ∧ own_B Z h n1 r0 u p1 r4 r5 (min (i + 1) p3.toNatClampNeg)
set_option maxRecDepth 65536 in
set_option maxHeartbeats 40000000 in
theorem rm12_10 (l : Launch) (Z : State) (a0 : Array Value) (hw : ∀ d ∈ tables_1, d.before a0 Z = true) (ws : List Jvm.Cond) (r0 : Addr) (p1 : Int32) (p2 : Int32) (p3 : Int32) (r4 : Addr) (r5 : Addr) (u : Addr) (ku : ClassId) (mo : Addr) (i : Nat) (n1 : Nat) (h0 : Heap) (n0 : Nat) (Z0 : n0 ≤ h0.size) (Oq0 : Old Z n0 h0) (Sd0 : Sta Z Z.heap "java/util/ArrayList" "DEFAULTCAPACITY_EMPTY_ELEMENTDATA" "[Ljava/lang/Object;" (.ref u)) (Vu0 : Arv Z Z.heap u ku (.object "java/lang/Object") 0 [] .null) (Mo : Mir Z "[Ljava/lang/Object;" mo) (hB : own_B Z h0 n1 r0 u p1 r4 r5 (min i p3.toNatClampNeg)) (hpi : p2 = Int32.ofNat i) (hi : i < 22) (hl0 : ¬ p3 < 0) (hl1 : ¬ (22 : Int32) < p3) (hn1 : n0 ≤ n1) (hn2 : n1 ≤ h0.size) (E4 : Exa Z h0 r4 "com/example/carved_corpus/carvedcorpus/Hit") (E5 : Exa Z h0 r5 "com/example/carved_corpus/carvedcorpus/Hit") (hiV : i = 10) :
    MetFree l Y18 (head1 (Jvm.Cond.code Y18 method_4_code 6 none :: ws) (⟨7, 1, 15, 102⟩ : Room)) (fun a U => a = #[(.ref r0), (.int p1), (.int p2), (.int p3), (.ref r4), (.ref r5)] ∧ Z.Warmed39 U.vm ∧ U.heap = h0) (fun _ _ _ _ _ => True) (fun _ U o U' => ∃ v L, o = .returned v ∧ Q12_10 Z r0 p1 p2 p3 r4 r5 u ku mo i n1 h0 n0 v U'.heap L ∧ FrameEnd U o U' L (⟨7, 1, 15, 102⟩ : Room).cells (⟨7, 1, 15, 102⟩ : Room).slots) := by
  refine MetFree.of_bodySF (plainFor_of_name pn_12) hisR ?_
  intro p e s m args below meth c s₁ Bd hml0 hP hK
  obtain ⟨rfl, hZ, hh⟩ := hP
  have hx := Bd.exec
  have hby := Bd.bytes
  have hml : c.maxLocals = 6 := hml0
  have hown : s.vm.findClass "com/example/carved_corpus/carvedcorpus/cli/EvaluationGetRelevantAtCutoffPinLaw" = some m.cls := findClass_of_methodNamed Bd.named
  have hnm := (name_of_methodNamed Bd.named Bd.method).1
  have hlk : meth.locks = false := by first | exact BodyLoose.notSynchronized Bd | exact Body.notSynchronized Bd
  have X0 : Stand p l e (⟨7, 1, 15, 102⟩ : Room) s m #[(.ref r0), (.int p1), (.int p2), (.int p3), (.ref r4), (.ref r5)] below meth c s₁ [] 0 0 := Stand.of_body Bd
  have e0 : s₁.heap = h0 := by rw [← hh, Bd.state]; rfl
  have N0 := Fr.nil n0
  have k0 : own_R p e below (s₁.setTop (entryFrame m #[(.ref r0), (.int p1), (.int p2), (.int p3), (.ref r4), (.ref r5)] 6)) (s₁.setTop (mkF m 0 #[vR r0, vI p1, vI p2, vI p3, vR r4, vR r5] [])) := fun t k => castTop (ef_12_10 m r0 p1 p2 p3 r4 r5) k
  obtain ⟨A0, hA0⟩ : ∃ z, z = s₁.setTop (entryFrame m #[(.ref r0), (.int p1), (.int p2), (.int p3), (.ref r4), (.ref r5)] 6) := ⟨_, rfl⟩
  rw [← hA0] at k0
  have kz : ∀ t, Steps p.tables e below A0 t → Steps p.tables e below (s₁.setTop (entryFrame m #[(.ref r0), (.int p1), (.int p2), (.int p3), (.ref r4), (.ref r5)] 6)) t := fun t q => hA0 ▸ q
  have Sd := Sd0.ext Oq0.2
  have Vu := Vu0.ext Oq0.2
  have ks1 : own_R p e below (A0) (s₁.setTop (mkF m 2 #[vR r0, vI p1, vI p2, vI p3, vR r4, vR r5] [(.int p3), (.int p2)])) := fun t k => k0 t (by
    refine XS.iloadN X0.here hx rfl (hb hby d12_0) rfl ?_
    refine XS.iloadN X0.here hx rfl (hb hby d12_1) rfl ?_
    exact k)
  by_cases hc2 : p2 < p3
  · skip
    have ks3 : own_R p e below (A0) (s₁.setTop (mkF m 5 #[vR r0, vI p1, vI p2, vI p3, vR r4, vR r5] [])) := fun t k => ks1 t (by
      refine XS.icmpNo X0.here hx rfl (hb hby d12_2) rfl (tlt hc2).2.1 ?_
      exact k)
    have hlt := ((own_mn hpi hi hl0 hl1).1).mp hc2
    rw [Nat.min_eq_left (Nat.le_of_lt hlt)] at hB
    have hes := own_vs_hits p1 i E4 E5
    obtain ⟨hl, hB⟩ := own_B_cases hB hi
    have g_r0 : n0 ≤ r0 := Nat.le_trans hn1 hl
    have n0u : r0 ≠ u := fun q => by have := Oq0.1 ▸ Vu0.lt; rw [← q] at this; exact absurd this (Nat.not_lt.mpr g_r0)
    rcases hB with ⟨hk, mc, E0, Fe, Fz, Fm⟩ | ⟨ed, ked, cap, mc, ⟨E0, Fe, Fz, Fm, Vd, Od, Ed, ged, n0d⟩, hcp, hp0, hp1, hpn, hpl, hnV⟩ | ⟨hk, ed, ked, mc, ⟨E0, Fe, Fz, Fm, Vd, Od, Ed, ged, n0d⟩⟩ | ⟨hk, ed, ked, mc, ⟨E0, Fe, Fz, Fm, Vd, Od, Ed, ged, n0d⟩⟩
    · exact absurd hiV (by omega)
    · exact absurd hiV (by omega)
    · skip
      have hlen : (own_vs p1 r4 r5 i).length = 10 := by rw [own_vs_len, hk]
      have Fz : Fld Z h0 r0 "java/util/ArrayList" "size" "I" (.int 10) := by rw [hk] at Fz; exact Fz
      have ks6 : own_R p e below (A0) (s₁.setTop (mkF m 11 #[vR r0, vI p1, vI p2, vI p3, vR r4, vR r5] [(.int (((p1.toUInt32 >>> (p2 &&& 31).toUInt32).toInt32) &&& (1 : Int32))), (.ref r0)])) := fun t k => ks3 t (by
        refine XS.aloadN X0.here hx rfl (hb hby d12_5) rfl rfl ?_
        refine XS.iloadN X0.here hx rfl (hb hby d12_6) rfl ?_
        refine XS.iloadN X0.here hx rfl (hb hby d12_7) rfl ?_
        show Steps p.tables e below (s₁.setTop (mkF m 8 #[vR r0, vI p1, vI p2, vI p3, vR r4, vR r5] [(.int p2), (.int p1), (.ref r0)])) _
        refine XS.iushr X0.here hx rfl (hb hby d12_8) rfl ?_
        refine XS.iconst X0.here hx rfl (hb hby d12_9) ?_
        refine XS.iand X0.here hx rfl (hb hby d12_10) rfl ?_
        exact k)
      obtain ⟨v5, hv5⟩ : ∃ z : Addr, z = (if (((p1.toUInt32 >>> (p2 &&& 31).toUInt32).toInt32) &&& (1 : Int32)) = (0 : Int32) then r5 else r4) := ⟨_, rfl⟩
      have ks7 : own_R p e below (A0) (s₁.setTop (mkF m 21 #[vR r0, vI p1, vI p2, vI p3, vR r4, vR r5] [(.ref v5), (.ref r0)])) := fun t k => ks6 t (by
        by_cases hc4 : (((p1.toUInt32 >>> (p2 &&& 31).toUInt32).toInt32) &&& (1 : Int32)) = (0 : Int32)
        · skip
          have qq8 : v5 = r5 := by rw [hv5, if_pos hc4]
          rw [qq8] at k
          refine XS.ifYes X0.here hx rfl (pc0 := 11) (pc' := 19) rfl (hb hby d12_11) rfl ((if0 _ _).trans (teq hc4).1) (by decide) (by decide) ?_
          refine XS.aload X0.here hx rfl (hb hby d12_19) rfl rfl ?_
          exact k
        · skip
          have qq9 : v5 = r4 := by rw [hv5, if_neg hc4]
          rw [qq9] at k
          refine XS.ifNo X0.here hx rfl (hb hby d12_11) rfl ((if0 _ _).trans (feq hc4).1) ?_
          refine XS.aload X0.here hx rfl (hb hby d12_14) rfl rfl ?_
          refine XS.goto X0.here hx rfl (pc0 := 16) (pc' := 21) rfl (hb hby d12_16) (by decide) (by decide) ?_
          exact k)
      have Ev5 : Exa Z h0 v5 "com/example/carved_corpus/carvedcorpus/Hit" := by rw [hv5]; split <;> assumption
      obtain ⟨cq10, kq10, q10a, q10b, q10c⟩ := isOf hZ e0 E0
      obtain ⟨_, _, ⟨T10, L10, k10, n10⟩, -, X10, ⟨Lc10, hQ10, lq10, yq10, zq10⟩, st10⟩ := X0.virtualBack hx (y := Y17) (z := Y17) hown (mvT hZ (own_w hw 73 rfl)) (mvT hZ (own_w hw 74 rfl)) (notFace_of_selects (args := #[]) (mvT hZ (own_w hw 76 rfl))) (mvT hZ (own_w hw 76 rfl)) (mvT hZ (own_w hw 75 rfl)) (by decide) (backOf (W := 0) (rm13_10 l Z a0 hw [] r0 v5 ed _ mc (own_vs p1 r4 r5 i) mo h0 n0 Z0 E0 Fe Fz Fm Vd hlen (own_hits_keep hes (Keep.refl h0 [r0])) Ed Mo g_r0 n0d Ev5) hZ (own_w hw 77 rfl) (own_w hw 48 rfl) (by decide) (by decide)) q10a q10c (g := (mkF m 21 #[vR r0, vI p1, vI p2, vI p3, vR r4, vR r5] [(.ref v5), (.ref r0)])) rfl (by rw [hml]; rfl) (Steps.refl _) (argsL := [(.ref v5)]) (rest := []) (lenOf pd_9 rfl) rfl (by show 2 * 0 + _ ≤ _; exact Nat.le_of_eq rfl) (hb hby d12_21) (fun _ _ => ⟨rfl, e0, (by decide : 0 + 1 ≤ _), (by decide : 0 + 15 ≤ _)⟩)
      dsimp only [Pt.U, Pt.locs, Pt.cells, Pt.slots] at X10 lq10 yq10 zq10 st10 hQ10
      obtain rfl : k10 = 1 := yq10
      obtain rfl : n10 = 15 := zq10
      obtain ⟨bq10, kq10, rfl, Nq10, Kq10, g_bq10, szq10, Fe10, Fz10, Fm10, Vq10, Oq10, Eq10⟩ := hQ10
      have N10 := Fr.app N0 Nq10
      have KH10 : Keep h0 T10.heap [r0] := (Keep.refl h0 [r0]).trans Kq10 (allS (Or.inl (List.mem_of_getElem? (i := 0) rfl)) all0)
      have Zn10 : n0 ≤ T10.heap.size := Nat.le_trans Z0 Kq10.1
      have ne_u_bq10 := nls Vu.lt szq10
      have ne_r4_bq10 := nls E4.lt szq10
      have ne_r5_bq10 := nls E5.lt szq10
      have ne_r0_bq10 := nls E0.lt szq10
      have ne_ed_bq10 := nls Vd.lt szq10
      have ne_v5_bq10 := nls Ev5.lt szq10
      have sz_bq10 : h0.size ≤ bq10 := Nat.le_trans (Keep.refl h0 [r0]).1 szq10
      have N10' : Fr n0 L10 := by rw [lq10]; exact N10
      have ks11 := own_ct ks7 st10
      have ks12 : own_R p e below (A0) (T10.setTop (mkF m 25 #[vR r0, vI p1, vI p2, vI p3, vR r4, vR r5] [])) := fun t k => ks11 t (by
        refine XS.pop X10.here hx rfl (hb hby d12_24) rfl rfl ?_
        exact k)
      obtain ⟨fs, hr, hrun, hended, hW, hsame⟩ := X10.leave (v := none) (fun _ => rfl) hlk
      refine ⟨_, _, kz _ (ks12 _ ?_), hrun, hended, _, _, rfl, ?_, ⟨_, rfl⟩, hW, hsame.mono (by decide) (by decide)⟩
      · exact X10.returnOut hx Bd.returns (hb hby d12_25) hr
      · show Q12_10 Z r0 p1 p2 p3 r4 r5 u ku mo i n1 h0 n0 _ T10.heap _
        have f13 := E0.keep KH10
        have hel : v5 = own_el p1 r4 r5 i := by rw [hv5, own_el, own_bt, ← hpi]
        have Ve : Arv Z T10.heap bq10 kq10 (.object "java/lang/Object") (15 : Int32) (own_vs p1 r4 r5 (i + 1)) .null := by rw [own_vs_succ, ← hel]; exact Vq10
        refine ⟨rfl, N10', Zn10, Oq0.keep KH10 (allS g_r0 all0), fun _ _ q => q.keep KH10, [r0], KH10, (allS hl all0), ?_⟩
        rw [Nat.min_eq_left hlt]
        exact ⟨hl, Or.inr ⟨bq10, _, _, _, ⟨f13, Fe10, (by rw [hk]; exact Fz10), Fm10, Ve, Oq10, Eq10, (Nat.le_trans hn2 sz_bq10), ne_r0_bq10⟩, (by rw [hk]; exact Or.inr (Or.inl ⟨rfl, by decide, by decide⟩))⟩⟩
    · exact absurd hiV (by omega)
  · skip
    have ks14 : own_R p e below (A0) (s₁.setTop (mkF m 25 #[vR r0, vI p1, vI p2, vI p3, vR r4, vR r5] [])) := fun t k => ks1 t (by
      refine XS.icmpYes X0.here hx rfl (pc0 := 2) (pc' := 25) rfl (hb hby d12_2) rfl (flt hc2).2.1 (by decide) (by decide) ?_
      exact k)
    obtain ⟨fs, hr, hrun, hended, hW, hsame⟩ := X0.leave (v := none) (fun _ => rfl) hlk
    refine ⟨_, _, kz _ (ks14 _ ?_), hrun, hended, _, _, rfl, ?_, ⟨_, rfl⟩, hW, hsame.mono (by decide) (by decide)⟩
    · exact X0.returnOut hx Bd.returns (hb hby d12_25) hr
    · show Q12_10 Z r0 p1 p2 p3 r4 r5 u ku mo i n1 h0 n0 _ s₁.heap _
      rw [e0]
      have hge := mt ((own_mn hpi hi hl0 hl1).1).mpr hc2
      rw [Nat.min_eq_right (Nat.not_lt.mp hge)] at hB
      refine ⟨rfl, N0, Z0, Oq0, fun _ _ q => q, [], Keep.refl _ _, all0, ?_⟩
      rw [Nat.min_eq_right (Nat.le_succ_of_le (Nat.not_lt.mp hge))]; exact hB
theorem ef_12_15 (m : MethodId) (x0 : Addr) (x1 : Int32) (x2 : Int32) (x3 : Int32) (x4 : Addr) (x5 : Addr) : entryFrame m #[(.ref x0), (.int x1), (.int x2), (.int x3), (.ref x4), (.ref x5)] 6 = mkF m 0 #[.val (.ref x0), .val (.int x1), .val (.int x2), .val (.int x3), .val (.ref x4), .val (.ref x5)] [] := by first | (simp [entryFrame, mkF, argsToLocals, Value.category]; done) | rfl
def Q12_15 (Z : State) (r0 : Addr) (p1 : Int32) (p2 : Int32) (p3 : Int32) (r4 : Addr) (r5 : Addr) (u : Addr) (ku : ClassId) (mo : Addr) (i : Nat) (n1 : Nat) (h0 : Heap) (n0 : Nat) (v : Option Value) (h : Heap) (L : List Loc) : Prop := v = none ∧ Fr n0 L ∧ n0 ≤ h.size ∧ Old Z n0 h ∧ (∀ (x : Addr) (K : String), Exa Z h0 x K → Exa Z h x K) ∧ ∃ ws, Keep h0 h ws ∧ (∀ x ∈ ws, n1 ≤ x) ∧ own_B Z h n1 r0 u p1 r4 r5 (min (i + 1) p3.toNatClampNeg)
set_option maxRecDepth 65536 in
set_option maxHeartbeats 40000000 in
theorem rm12_15 (l : Launch) (Z : State) (a0 : Array Value) (hw : ∀ d ∈ tables_1, d.before a0 Z = true) (ws : List Jvm.Cond) (r0 : Addr) (p1 : Int32) (p2 : Int32) (p3 : Int32) (r4 : Addr) (r5 : Addr) (u : Addr) (ku : ClassId) (mo : Addr) (i : Nat) (n1 : Nat) (h0 : Heap) (n0 : Nat) (Z0 : n0 ≤ h0.size) (Oq0 : Old Z n0 h0) (Sd0 : Sta Z Z.heap "java/util/ArrayList" "DEFAULTCAPACITY_EMPTY_ELEMENTDATA" "[Ljava/lang/Object;" (.ref u)) (Vu0 : Arv Z Z.heap u ku (.object "java/lang/Object") 0 [] .null) (Mo : Mir Z "[Ljava/lang/Object;" mo) (hB : own_B Z h0 n1 r0 u p1 r4 r5 (min i p3.toNatClampNeg)) (hpi : p2 = Int32.ofNat i) (hi : i < 22) (hl0 : ¬ p3 < 0) (hl1 : ¬ (22 : Int32) < p3) (hn1 : n0 ≤ n1) (hn2 : n1 ≤ h0.size) (E4 : Exa Z h0 r4 "com/example/carved_corpus/carvedcorpus/Hit") (E5 : Exa Z h0 r5 "com/example/carved_corpus/carvedcorpus/Hit") (hiV : i = 15) :
    MetFree l Y18 (head1 (Jvm.Cond.code Y18 method_4_code 6 none :: ws) (⟨7, 1, 22, 102⟩ : Room)) (fun a U => a = #[(.ref r0), (.int p1), (.int p2), (.int p3), (.ref r4), (.ref r5)] ∧ Z.Warmed39 U.vm ∧ U.heap = h0) (fun _ _ _ _ _ => True) (fun _ U o U' => ∃ v L, o = .returned v ∧ Q12_15 Z r0 p1 p2 p3 r4 r5 u ku mo i n1 h0 n0 v U'.heap L ∧ FrameEnd U o U' L (⟨7, 1, 22, 102⟩ : Room).cells (⟨7, 1, 22, 102⟩ : Room).slots) := by
  refine MetFree.of_bodySF (plainFor_of_name pn_12) hisR ?_
  intro p e s m args below meth c s₁ Bd hml0 hP hK
  obtain ⟨rfl, hZ, hh⟩ := hP
  have hx := Bd.exec
  have hby := Bd.bytes
  have hml : c.maxLocals = 6 := hml0
  have hown : s.vm.findClass "com/example/carved_corpus/carvedcorpus/cli/EvaluationGetRelevantAtCutoffPinLaw" = some m.cls := findClass_of_methodNamed Bd.named
  have hnm := (name_of_methodNamed Bd.named Bd.method).1
  have hlk : meth.locks = false := by first | exact BodyLoose.notSynchronized Bd | exact Body.notSynchronized Bd
  have X0 : Stand p l e (⟨7, 1, 22, 102⟩ : Room) s m #[(.ref r0), (.int p1), (.int p2), (.int p3), (.ref r4), (.ref r5)] below meth c s₁ [] 0 0 := Stand.of_body Bd
  have e0 : s₁.heap = h0 := by rw [← hh, Bd.state]; rfl
  have N0 := Fr.nil n0
  have k0 : own_R p e below (s₁.setTop (entryFrame m #[(.ref r0), (.int p1), (.int p2), (.int p3), (.ref r4), (.ref r5)] 6)) (s₁.setTop (mkF m 0 #[vR r0, vI p1, vI p2, vI p3, vR r4, vR r5] [])) := fun t k => castTop (ef_12_15 m r0 p1 p2 p3 r4 r5) k
  obtain ⟨A0, hA0⟩ : ∃ z, z = s₁.setTop (entryFrame m #[(.ref r0), (.int p1), (.int p2), (.int p3), (.ref r4), (.ref r5)] 6) := ⟨_, rfl⟩
  rw [← hA0] at k0
  have kz : ∀ t, Steps p.tables e below A0 t → Steps p.tables e below (s₁.setTop (entryFrame m #[(.ref r0), (.int p1), (.int p2), (.int p3), (.ref r4), (.ref r5)] 6)) t := fun t q => hA0 ▸ q
  have Sd := Sd0.ext Oq0.2
  have Vu := Vu0.ext Oq0.2
  have ks1 : own_R p e below (A0) (s₁.setTop (mkF m 2 #[vR r0, vI p1, vI p2, vI p3, vR r4, vR r5] [(.int p3), (.int p2)])) := fun t k => k0 t (by
    refine XS.iloadN X0.here hx rfl (hb hby d12_0) rfl ?_
    refine XS.iloadN X0.here hx rfl (hb hby d12_1) rfl ?_
    exact k)
  by_cases hc2 : p2 < p3
  · skip
    have ks3 : own_R p e below (A0) (s₁.setTop (mkF m 5 #[vR r0, vI p1, vI p2, vI p3, vR r4, vR r5] [])) := fun t k => ks1 t (by
      refine XS.icmpNo X0.here hx rfl (hb hby d12_2) rfl (tlt hc2).2.1 ?_
      exact k)
    have hlt := ((own_mn hpi hi hl0 hl1).1).mp hc2
    rw [Nat.min_eq_left (Nat.le_of_lt hlt)] at hB
    have hes := own_vs_hits p1 i E4 E5
    obtain ⟨hl, hB⟩ := own_B_cases hB hi
    have g_r0 : n0 ≤ r0 := Nat.le_trans hn1 hl
    have n0u : r0 ≠ u := fun q => by have := Oq0.1 ▸ Vu0.lt; rw [← q] at this; exact absurd this (Nat.not_lt.mpr g_r0)
    rcases hB with ⟨hk, mc, E0, Fe, Fz, Fm⟩ | ⟨ed, ked, cap, mc, ⟨E0, Fe, Fz, Fm, Vd, Od, Ed, ged, n0d⟩, hcp, hp0, hp1, hpn, hpl, hnV⟩ | ⟨hk, ed, ked, mc, ⟨E0, Fe, Fz, Fm, Vd, Od, Ed, ged, n0d⟩⟩ | ⟨hk, ed, ked, mc, ⟨E0, Fe, Fz, Fm, Vd, Od, Ed, ged, n0d⟩⟩
    · exact absurd hiV (by omega)
    · exact absurd hiV (by omega)
    · exact absurd hiV (by omega)
    · skip
      have hlen : (own_vs p1 r4 r5 i).length = 15 := by rw [own_vs_len, hk]
      have Fz : Fld Z h0 r0 "java/util/ArrayList" "size" "I" (.int 15) := by rw [hk] at Fz; exact Fz
      have ks6 : own_R p e below (A0) (s₁.setTop (mkF m 11 #[vR r0, vI p1, vI p2, vI p3, vR r4, vR r5] [(.int (((p1.toUInt32 >>> (p2 &&& 31).toUInt32).toInt32) &&& (1 : Int32))), (.ref r0)])) := fun t k => ks3 t (by
        refine XS.aloadN X0.here hx rfl (hb hby d12_5) rfl rfl ?_
        refine XS.iloadN X0.here hx rfl (hb hby d12_6) rfl ?_
        refine XS.iloadN X0.here hx rfl (hb hby d12_7) rfl ?_
        show Steps p.tables e below (s₁.setTop (mkF m 8 #[vR r0, vI p1, vI p2, vI p3, vR r4, vR r5] [(.int p2), (.int p1), (.ref r0)])) _
        refine XS.iushr X0.here hx rfl (hb hby d12_8) rfl ?_
        refine XS.iconst X0.here hx rfl (hb hby d12_9) ?_
        refine XS.iand X0.here hx rfl (hb hby d12_10) rfl ?_
        exact k)
      obtain ⟨v5, hv5⟩ : ∃ z : Addr, z = (if (((p1.toUInt32 >>> (p2 &&& 31).toUInt32).toInt32) &&& (1 : Int32)) = (0 : Int32) then r5 else r4) := ⟨_, rfl⟩
      have ks7 : own_R p e below (A0) (s₁.setTop (mkF m 21 #[vR r0, vI p1, vI p2, vI p3, vR r4, vR r5] [(.ref v5), (.ref r0)])) := fun t k => ks6 t (by
        by_cases hc4 : (((p1.toUInt32 >>> (p2 &&& 31).toUInt32).toInt32) &&& (1 : Int32)) = (0 : Int32)
        · skip
          have qq8 : v5 = r5 := by rw [hv5, if_pos hc4]
          rw [qq8] at k
          refine XS.ifYes X0.here hx rfl (pc0 := 11) (pc' := 19) rfl (hb hby d12_11) rfl ((if0 _ _).trans (teq hc4).1) (by decide) (by decide) ?_
          refine XS.aload X0.here hx rfl (hb hby d12_19) rfl rfl ?_
          exact k
        · skip
          have qq9 : v5 = r4 := by rw [hv5, if_neg hc4]
          rw [qq9] at k
          refine XS.ifNo X0.here hx rfl (hb hby d12_11) rfl ((if0 _ _).trans (feq hc4).1) ?_
          refine XS.aload X0.here hx rfl (hb hby d12_14) rfl rfl ?_
          refine XS.goto X0.here hx rfl (pc0 := 16) (pc' := 21) rfl (hb hby d12_16) (by decide) (by decide) ?_
          exact k)
      have Ev5 : Exa Z h0 v5 "com/example/carved_corpus/carvedcorpus/Hit" := by rw [hv5]; split <;> assumption
      obtain ⟨cq10, kq10, q10a, q10b, q10c⟩ := isOf hZ e0 E0
      obtain ⟨_, _, ⟨T10, L10, k10, n10⟩, -, X10, ⟨Lc10, hQ10, lq10, yq10, zq10⟩, st10⟩ := X0.virtualBack hx (y := Y17) (z := Y17) hown (mvT hZ (own_w hw 73 rfl)) (mvT hZ (own_w hw 74 rfl)) (notFace_of_selects (args := #[]) (mvT hZ (own_w hw 76 rfl))) (mvT hZ (own_w hw 76 rfl)) (mvT hZ (own_w hw 75 rfl)) (by decide) (backOf (W := 0) (rm13_15 l Z a0 hw [] r0 v5 ed _ mc (own_vs p1 r4 r5 i) mo h0 n0 Z0 E0 Fe Fz Fm Vd hlen (own_hits_keep hes (Keep.refl h0 [r0])) Ed Mo g_r0 n0d Ev5) hZ (own_w hw 77 rfl) (own_w hw 48 rfl) (by decide) (by decide)) q10a q10c (g := (mkF m 21 #[vR r0, vI p1, vI p2, vI p3, vR r4, vR r5] [(.ref v5), (.ref r0)])) rfl (by rw [hml]; rfl) (Steps.refl _) (argsL := [(.ref v5)]) (rest := []) (lenOf pd_9 rfl) rfl (by show 2 * 0 + _ ≤ _; exact Nat.le_of_eq rfl) (hb hby d12_21) (fun _ _ => ⟨rfl, e0, (by decide : 0 + 1 ≤ _), (by decide : 0 + 22 ≤ _)⟩)
      dsimp only [Pt.U, Pt.locs, Pt.cells, Pt.slots] at X10 lq10 yq10 zq10 st10 hQ10
      obtain rfl : k10 = 1 := yq10
      obtain rfl : n10 = 22 := zq10
      obtain ⟨bq10, kq10, rfl, Nq10, Kq10, g_bq10, szq10, Fe10, Fz10, Fm10, Vq10, Oq10, Eq10⟩ := hQ10
      have N10 := Fr.app N0 Nq10
      have KH10 : Keep h0 T10.heap [r0] := (Keep.refl h0 [r0]).trans Kq10 (allS (Or.inl (List.mem_of_getElem? (i := 0) rfl)) all0)
      have Zn10 : n0 ≤ T10.heap.size := Nat.le_trans Z0 Kq10.1
      have ne_u_bq10 := nls Vu.lt szq10
      have ne_r4_bq10 := nls E4.lt szq10
      have ne_r5_bq10 := nls E5.lt szq10
      have ne_r0_bq10 := nls E0.lt szq10
      have ne_ed_bq10 := nls Vd.lt szq10
      have ne_v5_bq10 := nls Ev5.lt szq10
      have sz_bq10 : h0.size ≤ bq10 := Nat.le_trans (Keep.refl h0 [r0]).1 szq10
      have N10' : Fr n0 L10 := by rw [lq10]; exact N10
      have ks11 := own_ct ks7 st10
      have ks12 : own_R p e below (A0) (T10.setTop (mkF m 25 #[vR r0, vI p1, vI p2, vI p3, vR r4, vR r5] [])) := fun t k => ks11 t (by
        refine XS.pop X10.here hx rfl (hb hby d12_24) rfl rfl ?_
        exact k)
      obtain ⟨fs, hr, hrun, hended, hW, hsame⟩ := X10.leave (v := none) (fun _ => rfl) hlk
      refine ⟨_, _, kz _ (ks12 _ ?_), hrun, hended, _, _, rfl, ?_, ⟨_, rfl⟩, hW, hsame.mono (by decide) (by decide)⟩
      · exact X10.returnOut hx Bd.returns (hb hby d12_25) hr
      · show Q12_15 Z r0 p1 p2 p3 r4 r5 u ku mo i n1 h0 n0 _ T10.heap _
        have f13 := E0.keep KH10
        have hel : v5 = own_el p1 r4 r5 i := by rw [hv5, own_el, own_bt, ← hpi]
        have Ve : Arv Z T10.heap bq10 kq10 (.object "java/lang/Object") (22 : Int32) (own_vs p1 r4 r5 (i + 1)) .null := by rw [own_vs_succ, ← hel]; exact Vq10
        refine ⟨rfl, N10', Zn10, Oq0.keep KH10 (allS g_r0 all0), fun _ _ q => q.keep KH10, [r0], KH10, (allS hl all0), ?_⟩
        rw [Nat.min_eq_left hlt]
        exact ⟨hl, Or.inr ⟨bq10, _, _, _, ⟨f13, Fe10, (by rw [hk]; exact Fz10), Fm10, Ve, Oq10, Eq10, (Nat.le_trans hn2 sz_bq10), ne_r0_bq10⟩, (by rw [hk]; exact Or.inr (Or.inr ⟨rfl, by decide, by decide⟩))⟩⟩
  · skip
    have ks14 : own_R p e below (A0) (s₁.setTop (mkF m 25 #[vR r0, vI p1, vI p2, vI p3, vR r4, vR r5] [])) := fun t k => ks1 t (by
      refine XS.icmpYes X0.here hx rfl (pc0 := 2) (pc' := 25) rfl (hb hby d12_2) rfl (flt hc2).2.1 (by decide) (by decide) ?_
      exact k)
    obtain ⟨fs, hr, hrun, hended, hW, hsame⟩ := X0.leave (v := none) (fun _ => rfl) hlk
    refine ⟨_, _, kz _ (ks14 _ ?_), hrun, hended, _, _, rfl, ?_, ⟨_, rfl⟩, hW, hsame.mono (by decide) (by decide)⟩
    · exact X0.returnOut hx Bd.returns (hb hby d12_25) hr
    · show Q12_15 Z r0 p1 p2 p3 r4 r5 u ku mo i n1 h0 n0 _ s₁.heap _
      rw [e0]
      have hge := mt ((own_mn hpi hi hl0 hl1).1).mpr hc2
      rw [Nat.min_eq_right (Nat.not_lt.mp hge)] at hB
      refine ⟨rfl, N0, Z0, Oq0, fun _ _ q => q, [], Keep.refl _ _, all0, ?_⟩
      rw [Nat.min_eq_right (Nat.le_succ_of_le (Nat.not_lt.mp hge))]; exact hB
theorem d8_0 : dk bc19 0 (.new 52) 3 := by decide +kernel
theorem d8_3 : dk bc19 3 (.dup) 1 := by decide +kernel
theorem d8_4 : dk bc19 4 (.invokespecial 54) 3 := by decide +kernel
theorem d8_7 : dk bc19 7 (.astore 4) 2 := by decide +kernel
theorem d8_9 : dk bc19 9 (.aload 4) 2 := by decide +kernel
theorem d8_11 : dk bc19 11 (.iload_n 0) 1 := by decide +kernel
theorem d8_12 : dk bc19 12 (.iconst 0) 1 := by decide +kernel
theorem d8_13 : dk bc19 13 (.iload_n 1) 1 := by decide +kernel
theorem d8_14 : dk bc19 14 (.aload_n 2) 1 := by decide +kernel
theorem d8_15 : dk bc19 15 (.aload_n 3) 1 := by decide +kernel
theorem d8_16 : dk bc19 16 (.invokestatic 55) 3 := by decide +kernel
theorem d8_19 : dk bc19 19 (.aload 4) 2 := by decide +kernel
theorem d8_21 : dk bc19 21 (.iload_n 0) 1 := by decide +kernel
theorem d8_22 : dk bc19 22 (.iconst 1) 1 := by decide +kernel
theorem d8_23 : dk bc19 23 (.iload_n 1) 1 := by decide +kernel
theorem d8_24 : dk bc19 24 (.aload_n 2) 1 := by decide +kernel
theorem d8_25 : dk bc19 25 (.aload_n 3) 1 := by decide +kernel
theorem d8_26 : dk bc19 26 (.invokestatic 55) 3 := by decide +kernel
theorem d8_29 : dk bc19 29 (.aload 4) 2 := by decide +kernel
theorem d8_31 : dk bc19 31 (.iload_n 0) 1 := by decide +kernel
theorem d8_32 : dk bc19 32 (.iconst 2) 1 := by decide +kernel
theorem d8_33 : dk bc19 33 (.iload_n 1) 1 := by decide +kernel
theorem d8_34 : dk bc19 34 (.aload_n 2) 1 := by decide +kernel
theorem d8_35 : dk bc19 35 (.aload_n 3) 1 := by decide +kernel
theorem d8_36 : dk bc19 36 (.invokestatic 55) 3 := by decide +kernel
theorem d8_39 : dk bc19 39 (.aload 4) 2 := by decide +kernel
theorem d8_41 : dk bc19 41 (.iload_n 0) 1 := by decide +kernel
theorem d8_42 : dk bc19 42 (.iconst 3) 1 := by decide +kernel
theorem d8_43 : dk bc19 43 (.iload_n 1) 1 := by decide +kernel
theorem d8_44 : dk bc19 44 (.aload_n 2) 1 := by decide +kernel
theorem d8_45 : dk bc19 45 (.aload_n 3) 1 := by decide +kernel
theorem d8_46 : dk bc19 46 (.invokestatic 55) 3 := by decide +kernel
theorem d8_49 : dk bc19 49 (.aload 4) 2 := by decide +kernel
theorem d8_51 : dk bc19 51 (.iload_n 0) 1 := by decide +kernel
theorem d8_52 : dk bc19 52 (.iconst 4) 1 := by decide +kernel
theorem d8_53 : dk bc19 53 (.iload_n 1) 1 := by decide +kernel
theorem d8_54 : dk bc19 54 (.aload_n 2) 1 := by decide +kernel
theorem d8_55 : dk bc19 55 (.aload_n 3) 1 := by decide +kernel
theorem d8_56 : dk bc19 56 (.invokestatic 55) 3 := by decide +kernel
theorem d8_59 : dk bc19 59 (.aload 4) 2 := by decide +kernel
theorem d8_61 : dk bc19 61 (.iload_n 0) 1 := by decide +kernel
theorem d8_62 : dk bc19 62 (.iconst 5) 1 := by decide +kernel
theorem d8_63 : dk bc19 63 (.iload_n 1) 1 := by decide +kernel
theorem d8_64 : dk bc19 64 (.aload_n 2) 1 := by decide +kernel
theorem d8_65 : dk bc19 65 (.aload_n 3) 1 := by decide +kernel
theorem d8_66 : dk bc19 66 (.invokestatic 55) 3 := by decide +kernel
theorem d8_69 : dk bc19 69 (.aload 4) 2 := by decide +kernel
theorem d8_71 : dk bc19 71 (.iload_n 0) 1 := by decide +kernel
theorem d8_72 : dk bc19 72 (.bipush 6) 2 := by decide +kernel
theorem d8_74 : dk bc19 74 (.iload_n 1) 1 := by decide +kernel
theorem d8_75 : dk bc19 75 (.aload_n 2) 1 := by decide +kernel
theorem d8_76 : dk bc19 76 (.aload_n 3) 1 := by decide +kernel
theorem d8_77 : dk bc19 77 (.invokestatic 55) 3 := by decide +kernel
theorem d8_80 : dk bc19 80 (.aload 4) 2 := by decide +kernel
theorem d8_82 : dk bc19 82 (.iload_n 0) 1 := by decide +kernel
theorem d8_83 : dk bc19 83 (.bipush 7) 2 := by decide +kernel
theorem d8_85 : dk bc19 85 (.iload_n 1) 1 := by decide +kernel
theorem d8_86 : dk bc19 86 (.aload_n 2) 1 := by decide +kernel
theorem d8_87 : dk bc19 87 (.aload_n 3) 1 := by decide +kernel
theorem d8_88 : dk bc19 88 (.invokestatic 55) 3 := by decide +kernel
theorem d8_91 : dk bc19 91 (.aload 4) 2 := by decide +kernel
theorem d8_93 : dk bc19 93 (.iload_n 0) 1 := by decide +kernel
theorem d8_94 : dk bc19 94 (.bipush 8) 2 := by decide +kernel
theorem d8_96 : dk bc19 96 (.iload_n 1) 1 := by decide +kernel
theorem d8_97 : dk bc19 97 (.aload_n 2) 1 := by decide +kernel
theorem d8_98 : dk bc19 98 (.aload_n 3) 1 := by decide +kernel
theorem d8_99 : dk bc19 99 (.invokestatic 55) 3 := by decide +kernel
theorem d8_102 : dk bc19 102 (.aload 4) 2 := by decide +kernel
theorem d8_104 : dk bc19 104 (.iload_n 0) 1 := by decide +kernel
theorem d8_105 : dk bc19 105 (.bipush 9) 2 := by decide +kernel
theorem d8_107 : dk bc19 107 (.iload_n 1) 1 := by decide +kernel
theorem d8_108 : dk bc19 108 (.aload_n 2) 1 := by decide +kernel
theorem d8_109 : dk bc19 109 (.aload_n 3) 1 := by decide +kernel
theorem d8_110 : dk bc19 110 (.invokestatic 55) 3 := by decide +kernel
theorem d8_113 : dk bc19 113 (.aload 4) 2 := by decide +kernel
theorem d8_115 : dk bc19 115 (.iload_n 0) 1 := by decide +kernel
theorem d8_116 : dk bc19 116 (.bipush 10) 2 := by decide +kernel
theorem d8_118 : dk bc19 118 (.iload_n 1) 1 := by decide +kernel
theorem d8_119 : dk bc19 119 (.aload_n 2) 1 := by decide +kernel
theorem d8_120 : dk bc19 120 (.aload_n 3) 1 := by decide +kernel
theorem d8_121 : dk bc19 121 (.invokestatic 55) 3 := by decide +kernel
theorem d8_124 : dk bc19 124 (.aload 4) 2 := by decide +kernel
theorem d8_126 : dk bc19 126 (.iload_n 0) 1 := by decide +kernel
theorem d8_127 : dk bc19 127 (.bipush 11) 2 := by decide +kernel
theorem d8_129 : dk bc19 129 (.iload_n 1) 1 := by decide +kernel
theorem d8_130 : dk bc19 130 (.aload_n 2) 1 := by decide +kernel
theorem d8_131 : dk bc19 131 (.aload_n 3) 1 := by decide +kernel
theorem d8_132 : dk bc19 132 (.invokestatic 55) 3 := by decide +kernel
theorem d8_135 : dk bc19 135 (.aload 4) 2 := by decide +kernel
theorem d8_137 : dk bc19 137 (.iload_n 0) 1 := by decide +kernel
theorem d8_138 : dk bc19 138 (.bipush 12) 2 := by decide +kernel
theorem d8_140 : dk bc19 140 (.iload_n 1) 1 := by decide +kernel
theorem d8_141 : dk bc19 141 (.aload_n 2) 1 := by decide +kernel
theorem d8_142 : dk bc19 142 (.aload_n 3) 1 := by decide +kernel
theorem d8_143 : dk bc19 143 (.invokestatic 55) 3 := by decide +kernel
theorem d8_146 : dk bc19 146 (.aload 4) 2 := by decide +kernel
theorem d8_148 : dk bc19 148 (.iload_n 0) 1 := by decide +kernel
theorem d8_149 : dk bc19 149 (.bipush 13) 2 := by decide +kernel
theorem d8_151 : dk bc19 151 (.iload_n 1) 1 := by decide +kernel
theorem d8_152 : dk bc19 152 (.aload_n 2) 1 := by decide +kernel
theorem d8_153 : dk bc19 153 (.aload_n 3) 1 := by decide +kernel
theorem d8_154 : dk bc19 154 (.invokestatic 55) 3 := by decide +kernel
theorem d8_157 : dk bc19 157 (.aload 4) 2 := by decide +kernel
theorem d8_159 : dk bc19 159 (.iload_n 0) 1 := by decide +kernel
theorem d8_160 : dk bc19 160 (.bipush 14) 2 := by decide +kernel
theorem d8_162 : dk bc19 162 (.iload_n 1) 1 := by decide +kernel
theorem d8_163 : dk bc19 163 (.aload_n 2) 1 := by decide +kernel
theorem d8_164 : dk bc19 164 (.aload_n 3) 1 := by decide +kernel
theorem d8_165 : dk bc19 165 (.invokestatic 55) 3 := by decide +kernel
theorem d8_168 : dk bc19 168 (.aload 4) 2 := by decide +kernel
theorem d8_170 : dk bc19 170 (.iload_n 0) 1 := by decide +kernel
theorem d8_171 : dk bc19 171 (.bipush 15) 2 := by decide +kernel
theorem d8_173 : dk bc19 173 (.iload_n 1) 1 := by decide +kernel
theorem d8_174 : dk bc19 174 (.aload_n 2) 1 := by decide +kernel
theorem d8_175 : dk bc19 175 (.aload_n 3) 1 := by decide +kernel
theorem d8_176 : dk bc19 176 (.invokestatic 55) 3 := by decide +kernel
theorem d8_179 : dk bc19 179 (.aload 4) 2 := by decide +kernel
theorem d8_181 : dk bc19 181 (.iload_n 0) 1 := by decide +kernel
theorem d8_182 : dk bc19 182 (.bipush 16) 2 := by decide +kernel
theorem d8_184 : dk bc19 184 (.iload_n 1) 1 := by decide +kernel
theorem d8_185 : dk bc19 185 (.aload_n 2) 1 := by decide +kernel
theorem d8_186 : dk bc19 186 (.aload_n 3) 1 := by decide +kernel
theorem d8_187 : dk bc19 187 (.invokestatic 55) 3 := by decide +kernel
theorem d8_190 : dk bc19 190 (.aload 4) 2 := by decide +kernel
theorem d8_192 : dk bc19 192 (.iload_n 0) 1 := by decide +kernel
theorem d8_193 : dk bc19 193 (.bipush 17) 2 := by decide +kernel
theorem d8_195 : dk bc19 195 (.iload_n 1) 1 := by decide +kernel
theorem d8_196 : dk bc19 196 (.aload_n 2) 1 := by decide +kernel
theorem d8_197 : dk bc19 197 (.aload_n 3) 1 := by decide +kernel
theorem d8_198 : dk bc19 198 (.invokestatic 55) 3 := by decide +kernel
theorem d8_201 : dk bc19 201 (.aload 4) 2 := by decide +kernel
theorem d8_203 : dk bc19 203 (.iload_n 0) 1 := by decide +kernel
theorem d8_204 : dk bc19 204 (.bipush 18) 2 := by decide +kernel
theorem d8_206 : dk bc19 206 (.iload_n 1) 1 := by decide +kernel
theorem d8_207 : dk bc19 207 (.aload_n 2) 1 := by decide +kernel
theorem d8_208 : dk bc19 208 (.aload_n 3) 1 := by decide +kernel
theorem d8_209 : dk bc19 209 (.invokestatic 55) 3 := by decide +kernel
theorem d8_212 : dk bc19 212 (.aload 4) 2 := by decide +kernel
theorem d8_214 : dk bc19 214 (.iload_n 0) 1 := by decide +kernel
theorem d8_215 : dk bc19 215 (.bipush 19) 2 := by decide +kernel
theorem d8_217 : dk bc19 217 (.iload_n 1) 1 := by decide +kernel
theorem d8_218 : dk bc19 218 (.aload_n 2) 1 := by decide +kernel
theorem d8_219 : dk bc19 219 (.aload_n 3) 1 := by decide +kernel
theorem d8_220 : dk bc19 220 (.invokestatic 55) 3 := by decide +kernel
theorem d8_223 : dk bc19 223 (.aload 4) 2 := by decide +kernel
theorem d8_225 : dk bc19 225 (.iload_n 0) 1 := by decide +kernel
theorem d8_226 : dk bc19 226 (.bipush 20) 2 := by decide +kernel
theorem d8_228 : dk bc19 228 (.iload_n 1) 1 := by decide +kernel
theorem d8_229 : dk bc19 229 (.aload_n 2) 1 := by decide +kernel
theorem d8_230 : dk bc19 230 (.aload_n 3) 1 := by decide +kernel
theorem d8_231 : dk bc19 231 (.invokestatic 55) 3 := by decide +kernel
theorem d8_234 : dk bc19 234 (.aload 4) 2 := by decide +kernel
theorem d8_236 : dk bc19 236 (.iload_n 0) 1 := by decide +kernel
theorem d8_237 : dk bc19 237 (.bipush 21) 2 := by decide +kernel
theorem d8_239 : dk bc19 239 (.iload_n 1) 1 := by decide +kernel
theorem d8_240 : dk bc19 240 (.aload_n 2) 1 := by decide +kernel
theorem d8_241 : dk bc19 241 (.aload_n 3) 1 := by decide +kernel
theorem d8_242 : dk bc19 242 (.invokestatic 55) 3 := by decide +kernel
theorem d8_245 : dk bc19 245 (.aload 4) 2 := by decide +kernel
theorem d8_247 : dk bc19 247 (.areturn) 1 := by decide +kernel
theorem pn_8 : plainName "com/example/carved_corpus/carvedcorpus/cli/EvaluationGetRelevantAtCutoffPinLaw" = true := by first | (simp [plainName, overriddenIn]; done) | decide +kernel
theorem pd_8 : parseMethodDescriptor "(Ljava/util/ArrayList;IIILcom/example/carved_corpus/carvedcorpus/Hit;Lcom/example/carved_corpus/carvedcorpus/Hit;)V" = some ⟨[(.object "java/util/ArrayList"), .int, .int, .int, (.object "com/example/carved_corpus/carvedcorpus/Hit"), (.object "com/example/carved_corpus/carvedcorpus/Hit")], none⟩ := by decide +kernel
theorem ef_8 (m : MethodId) (x0 : Int32) (x1 : Int32) (x2 : Addr) (x3 : Addr) : entryFrame m #[(.int x0), (.int x1), (.ref x2), (.ref x3)] 5 = mkF m 0 #[.val (.int x0), .val (.int x1), .val (.ref x2), .val (.ref x3), .unset] [] := by first | (simp [entryFrame, mkF, argsToLocals, Value.category]; done) | rfl
def Q8 (Z : State) (p0 : Int32) (p1 : Int32) (r2 : Addr) (r3 : Addr) (u : Addr) (ku : ClassId) (mo : Addr) (h0 : Heap) (n0 : Nat) (v : Option Value) (h : Heap) (L : List Loc) : Prop := ∃ b : Addr, v = some (.ref b) ∧ Fr n0 L ∧ Keep h0 h [] ∧ n0 ≤ b ∧ h0.size ≤ b ∧ Old Z n0 h ∧ own_B Z h h0.size b u p0 r2 r3 p1.toNatClampNeg
set_option maxRecDepth 65536 in
set_option maxHeartbeats 40000000 in
theorem rm8 (l : Launch) (Z : State) (a0 : Array Value) (hw : ∀ d ∈ tables_1, d.before a0 Z = true) (ws : List Jvm.Cond) (p0 : Int32) (p1 : Int32) (r2 : Addr) (r3 : Addr) (u : Addr) (ku : ClassId) (mo : Addr) (h0 : Heap) (n0 : Nat) (Z0 : n0 ≤ h0.size) (Oq0 : Old Z n0 h0) (Sd0 : Sta Z Z.heap "java/util/ArrayList" "DEFAULTCAPACITY_EMPTY_ELEMENTDATA" "[Ljava/lang/Object;" (.ref u)) (Vu0 : Arv Z Z.heap u ku (.object "java/lang/Object") 0 [] .null) (Mo : Mir Z "[Ljava/lang/Object;" mo) (hl0 : ¬ p1 < 0) (hl1 : ¬ (22 : Int32) < p1) (E4 : Exa Z h0 r2 "com/example/carved_corpus/carvedcorpus/Hit") (E5 : Exa Z h0 r3 "com/example/carved_corpus/carvedcorpus/Hit") :
    MetFree l Y19 (head1 (Jvm.Cond.code Y19 method_3_code 5 (some (.object "java/util/ArrayList")) :: ws) (⟨8, 4, 50, 119⟩ : Room)) (fun a U => a = #[(.int p0), (.int p1), (.ref r2), (.ref r3)] ∧ Z.Warmed39 U.vm ∧ U.heap = h0) (fun _ _ _ _ _ => True) (fun _ U o U' => ∃ v L, o = .returned v ∧ Q8 Z p0 p1 r2 r3 u ku mo h0 n0 v U'.heap L ∧ FrameEnd U o U' L (⟨8, 4, 50, 119⟩ : Room).cells (⟨8, 4, 50, 119⟩ : Room).slots) := by
  refine MetFree.of_bodySF (plainFor_of_name pn_8) hisR ?_
  intro p e s m args below meth c s₁ Bd hml0 hP hK
  obtain ⟨rfl, hZ, hh⟩ := hP
  have hx := Bd.exec
  have hby := Bd.bytes
  have hml : c.maxLocals = 5 := hml0
  have hown : s.vm.findClass "com/example/carved_corpus/carvedcorpus/cli/EvaluationGetRelevantAtCutoffPinLaw" = some m.cls := findClass_of_methodNamed Bd.named
  have hnm := (name_of_methodNamed Bd.named Bd.method).1
  have hlk : meth.locks = false := by first | exact BodyLoose.notSynchronized Bd | exact Body.notSynchronized Bd
  have X0 : Stand p l e (⟨8, 4, 50, 119⟩ : Room) s m #[(.int p0), (.int p1), (.ref r2), (.ref r3)] below meth c s₁ [] 0 0 := Stand.of_body Bd
  have e0 : s₁.heap = h0 := by rw [← hh, Bd.state]; rfl
  have N0 := Fr.nil n0
  have k0 : own_R p e below (s₁.setTop (entryFrame m #[(.int p0), (.int p1), (.ref r2), (.ref r3)] 5)) (s₁.setTop (mkF m 0 #[vI p0, vI p1, vR r2, vR r3, .unset] [])) := fun t k => castTop (ef_8 m p0 p1 r2 r3) k
  obtain ⟨A0, hA0⟩ : ∃ z, z = s₁.setTop (entryFrame m #[(.int p0), (.int p1), (.ref r2), (.ref r3)] 5) := ⟨_, rfl⟩
  rw [← hA0] at k0
  have kz : ∀ t, Steps p.tables e below A0 t → Steps p.tables e below (s₁.setTop (entryFrame m #[(.int p0), (.int p1), (.ref r2), (.ref r3)] 5)) t := fun t q => hA0 ▸ q
  have Sd := Sd0.ext Oq0.2
  obtain ⟨T1, h1, X1, e1, E1, A1, D1, -, st1⟩ := newO X0 hx hZ hown (own_w hw 46 rfl) (own_w hw 47 rfl) (own_w hw 48 rfl) e0 (g := (mkF m 0 #[vI p0, vI p1, vR r2, vR r3, .unset] [])) rfl (hb hby d8_0) (by decide) (by decide)
  obtain ⟨b1, g1⟩ : ∃ z, z = h0.size := ⟨_, rfl⟩
  rw [← g1] at A1 D1 st1
  have ne_r2_b1 := nlg E4.lt g1
  have ne_r3_b1 := nlg E5.lt g1
  have g_b1 : n0 ≤ b1 := Nat.le_trans Z0 (Nat.le_of_eq g1.symm)
  have sz_b1 : h0.size ≤ b1 := Nat.le_trans (Keep.refl h0 []).1 (Nat.le_of_eq g1.symm)
  have KH1 : Keep h0 h1 [] := (Keep.refl h0 []).ext E1
  have Zn1 : n0 ≤ h1.size := Nat.le_trans Z0 E1.1
  have F_modCount_b1 : Fld Z h1 b1 "java/util/AbstractList" "modCount" "I" (.int 0) := D1 (Or.inl (own_w hw 66 rfl)) (ty := .int) (by decide)
  have F_elementData_b1 : Fld Z h1 b1 "java/util/ArrayList" "elementData" "[Ljava/lang/Object;" .null := D1 (Or.inl (own_w hw 69 rfl)) (ty := (.array (.object "java/lang/Object"))) (by decide)
  have F_size_b1 : Fld Z h1 b1 "java/util/ArrayList" "size" "I" (.int 0) := D1 (Or.inl (own_w hw 81 rfl)) (ty := .int) (by decide)
  have ks2 := own_c k0 st1
  have ks3 : own_R p e below (A0) (T1.setTop (mkF m 4 #[vI p0, vI p1, vR r2, vR r3, .unset] [(.ref b1), (.ref b1)])) := fun t k => ks2 t (by
    refine XS.dup X1.here hx rfl (hb hby d8_3) rfl rfl ?_
    exact k)
  have f5 := own_sta_keep Sd KH1
  obtain ⟨_, _, ⟨T4, L4, k4, n4⟩, -, X4, ⟨Lc4, hQ4, lq4, yq4, zq4⟩, st4⟩ := X1.specialBack hx (y := Y8) rfl hown (mvT hZ (own_w hw 49 rfl)) (mvT hZ (own_w hw 50 rfl)) (mvT hZ (own_w hw 51 rfl)) (by decide) (backOf (W := 1) (rm9 l Z a0 hw [] b1 u h1 n0 Zn1 A1 F_elementData_b1 F_size_b1 F_modCount_b1 g_b1 f5) hZ (own_w hw 51 rfl) (own_w hw 48 rfl) (by decide) (by decide)) (g := (mkF m 4 #[vI p0, vI p1, vR r2, vR r3, .unset] [(.ref b1), (.ref b1)])) rfl (by rw [hml]; rfl) (Steps.refl _) (a := b1) (argsL := []) (rest := [(.ref b1)]) (lenOf pd_4 rfl) rfl (by show 2 * 0 + _ ≤ _; exact Nat.le_of_eq rfl) (hb hby d8_4) (fun _ _ => ⟨rfl, e1, (by decide : 1 + 0 ≤ _), (by decide : 3 + 0 ≤ _)⟩)
  dsimp only [Pt.U, Pt.locs, Pt.cells, Pt.slots] at X4 lq4 yq4 zq4 st4 hQ4
  obtain rfl : k4 = 1 := yq4
  obtain rfl : n4 = 3 := zq4
  obtain ⟨rfl, Nq4, Kq4, Fe4, Fz4, Fm4⟩ := hQ4
  have N4 := Fr.app N0 Nq4
  have KH4 : Keep h0 T4.heap [] := KH1.trans Kq4 (allS (Or.inr sz_b1) all0)
  have Zn4 : n0 ≤ T4.heap.size := Nat.le_trans Zn1 Kq4.1
  have N4' : Fr n0 L4 := by rw [lq4]; exact N4
  have ks6 := own_ct ks3 st4
  have ks7 : own_R p e below (A0) (T4.setTop (mkF m 9 #[vI p0, vI p1, vR r2, vR r3, vR b1] [])) := fun t k => ks6 t (by
    refine XS.astore X4.here hx rfl (hb hby d8_7) rfl rfl (l' := #[vI p0, vI p1, vR r2, vR r3, vR b1]) rfl ?_
    exact k)
  have Ol8 := Oq0.keep KH4 all0
  have f9 := (A1.keep Kq4)
  have BB8 : own_B Z T4.heap h0.size b1 u p0 r2 r3 (min 0 p1.toNatClampNeg) := ⟨sz_b1, Or.inl ⟨Nat.zero_min _, _, f9, Fe4, Fz4, Fm4⟩⟩
  have ks10 : own_R p e below (A0) (T4.setTop (mkF m 16 #[vI p0, vI p1, vR r2, vR r3, vR b1] [(.ref r3), (.ref r2), (.int p1), (.int 0), (.int p0), (.ref b1)])) := fun t k => ks7 t (by
    refine XS.aload X4.here hx rfl (hb hby d8_9) rfl rfl ?_
    refine XS.iloadN X4.here hx rfl (hb hby d8_11) rfl ?_
    refine XS.iconst X4.here hx rfl (hb hby d8_12) ?_
    show Steps p.tables e below (T4.setTop (mkF m 13 #[vI p0, vI p1, vR r2, vR r3, vR b1] [(.int 0), (.int p0), (.ref b1)])) _
    refine XS.iloadN X4.here hx rfl (hb hby d8_13) rfl ?_
    refine XS.aloadN X4.here hx rfl (hb hby d8_14) rfl rfl ?_
    refine XS.aloadN X4.here hx rfl (hb hby d8_15) rfl rfl ?_
    exact k)
  have f12 := E4.keep KH4
  have f13 := E5.keep KH4
  obtain ⟨_, _, ⟨T11, L11, k11, n11⟩, -, X11, ⟨Lc11, hQ11, lq11, yq11, zq11⟩, st11⟩ := Jvm.LawKit.callS X4 hx (y := Y18) hown (mvT hZ (own_w hw 70 rfl)) (mvT hZ (own_w hw 71 rfl)) (mvT hZ (own_w hw 44 rfl)) (mvT hZ (own_w hw 72 rfl)) (by decide) (backOf (W := 0) (rm12_z l Z a0 hw [] b1 p0 (0 : Int32) p1 r2 r3 u ku mo 0 h0.size T4.heap n0 Zn4 Ol8 Sd0 Vu0 Mo BB8 rfl (by decide) hl0 hl1 Z0 KH4.1 f12 f13 (by decide)) hZ (own_w hw 72 rfl) (own_w hw 44 rfl) (by decide) (by decide)) (g := (mkF m 16 #[vI p0, vI p1, vR r2, vR r3, vR b1] [(.ref r3), (.ref r2), (.int p1), (.int 0), (.int p0), (.ref b1)])) rfl (by rw [hml]; rfl) (argsL := [(.ref b1), (.int p0), (.int 0), (.int p1), (.ref r2), (.ref r3)]) (rest := []) (lenOf pd_8 rfl) rfl (by show 2 * 0 + _ ≤ _; exact Nat.le_of_eq rfl) (hb hby d8_16) (fun _ _ => ⟨rfl, rfl, (by decide : 1 + 1 ≤ _), (by decide : 3 + 10 ≤ _)⟩)
  dsimp only [Pt.U, Pt.locs, Pt.cells, Pt.slots] at X11 lq11 yq11 zq11 st11 hQ11
  obtain rfl : k11 = 2 := yq11
  obtain rfl : n11 = 13 := zq11
  obtain ⟨rfl, Nq11, Zn11, Ol11, Xq11, ws11, Kq11, hw11, BB11⟩ := hQ11
  have N11 := Fr.app N4' Nq11
  have KH11 : Keep h0 T11.heap [] := KH4.trans Kq11 (fun x hx => Or.inr (hw11 x hx))
  have N11' : Fr n0 L11 := by rw [lq11]; exact N11
  have ks14 := own_c ks10 st11
  have ks15 : own_R p e below (A0) (T11.setTop (mkF m 26 #[vI p0, vI p1, vR r2, vR r3, vR b1] [(.ref r3), (.ref r2), (.int p1), (.int 1), (.int p0), (.ref b1)])) := fun t k => ks14 t (by
    refine XS.aload X11.here hx rfl (hb hby d8_19) rfl rfl ?_
    refine XS.iloadN X11.here hx rfl (hb hby d8_21) rfl ?_
    refine XS.iconst X11.here hx rfl (hb hby d8_22) ?_
    show Steps p.tables e below (T11.setTop (mkF m 23 #[vI p0, vI p1, vR r2, vR r3, vR b1] [(.int 1), (.int p0), (.ref b1)])) _
    refine XS.iloadN X11.here hx rfl (hb hby d8_23) rfl ?_
    refine XS.aloadN X11.here hx rfl (hb hby d8_24) rfl rfl ?_
    refine XS.aloadN X11.here hx rfl (hb hby d8_25) rfl rfl ?_
    exact k)
  have f17 := E4.keep KH11
  have f18 := E5.keep KH11
  obtain ⟨_, _, ⟨T16, L16, k16, n16⟩, -, X16, ⟨Lc16, hQ16, lq16, yq16, zq16⟩, st16⟩ := Jvm.LawKit.callS X11 hx (y := Y18) hown (mvT hZ (own_w hw 70 rfl)) (mvT hZ (own_w hw 71 rfl)) (mvT hZ (own_w hw 44 rfl)) (mvT hZ (own_w hw 72 rfl)) (by decide) (backOf (W := 0) (rm12_n l Z a0 hw [] b1 p0 (1 : Int32) p1 r2 r3 u ku mo 1 h0.size T11.heap n0 Zn11 Ol11 Sd0 Vu0 Mo BB11 rfl (by decide) hl0 hl1 Z0 KH11.1 f17 f18 (by decide)) hZ (own_w hw 72 rfl) (own_w hw 44 rfl) (by decide) (by decide)) (g := (mkF m 26 #[vI p0, vI p1, vR r2, vR r3, vR b1] [(.ref r3), (.ref r2), (.int p1), (.int 1), (.int p0), (.ref b1)])) rfl (by rw [hml]; rfl) (argsL := [(.ref b1), (.int p0), (.int 1), (.int p1), (.ref r2), (.ref r3)]) (rest := []) (lenOf pd_8 rfl) rfl (by show 2 * 0 + _ ≤ _; exact Nat.le_of_eq rfl) (hb hby d8_26) (fun _ _ => ⟨rfl, rfl, (by decide : 2 + 0 ≤ _), (by decide : 13 + 0 ≤ _)⟩)
  dsimp only [Pt.U, Pt.locs, Pt.cells, Pt.slots] at X16 lq16 yq16 zq16 st16 hQ16
  obtain rfl : k16 = 2 := yq16
  obtain rfl : n16 = 13 := zq16
  obtain ⟨rfl, Nq16, Zn16, Ol16, Xq16, ws16, Kq16, hw16, BB16⟩ := hQ16
  have N16 := Fr.app N11' Nq16
  have KH16 : Keep h0 T16.heap [] := KH11.trans Kq16 (fun x hx => Or.inr (hw16 x hx))
  have N16' : Fr n0 L16 := by rw [lq16]; exact N16
  have ks19 := own_c ks15 st16
  have ks20 : own_R p e below (A0) (T16.setTop (mkF m 36 #[vI p0, vI p1, vR r2, vR r3, vR b1] [(.ref r3), (.ref r2), (.int p1), (.int 2), (.int p0), (.ref b1)])) := fun t k => ks19 t (by
    refine XS.aload X16.here hx rfl (hb hby d8_29) rfl rfl ?_
    refine XS.iloadN X16.here hx rfl (hb hby d8_31) rfl ?_
    refine XS.iconst X16.here hx rfl (hb hby d8_32) ?_
    show Steps p.tables e below (T16.setTop (mkF m 33 #[vI p0, vI p1, vR r2, vR r3, vR b1] [(.int 2), (.int p0), (.ref b1)])) _
    refine XS.iloadN X16.here hx rfl (hb hby d8_33) rfl ?_
    refine XS.aloadN X16.here hx rfl (hb hby d8_34) rfl rfl ?_
    refine XS.aloadN X16.here hx rfl (hb hby d8_35) rfl rfl ?_
    exact k)
  have f22 := E4.keep KH16
  have f23 := E5.keep KH16
  obtain ⟨_, _, ⟨T21, L21, k21, n21⟩, -, X21, ⟨Lc21, hQ21, lq21, yq21, zq21⟩, st21⟩ := Jvm.LawKit.callS X16 hx (y := Y18) hown (mvT hZ (own_w hw 70 rfl)) (mvT hZ (own_w hw 71 rfl)) (mvT hZ (own_w hw 44 rfl)) (mvT hZ (own_w hw 72 rfl)) (by decide) (backOf (W := 0) (rm12_n l Z a0 hw [] b1 p0 (2 : Int32) p1 r2 r3 u ku mo 2 h0.size T16.heap n0 Zn16 Ol16 Sd0 Vu0 Mo BB16 rfl (by decide) hl0 hl1 Z0 KH16.1 f22 f23 (by decide)) hZ (own_w hw 72 rfl) (own_w hw 44 rfl) (by decide) (by decide)) (g := (mkF m 36 #[vI p0, vI p1, vR r2, vR r3, vR b1] [(.ref r3), (.ref r2), (.int p1), (.int 2), (.int p0), (.ref b1)])) rfl (by rw [hml]; rfl) (argsL := [(.ref b1), (.int p0), (.int 2), (.int p1), (.ref r2), (.ref r3)]) (rest := []) (lenOf pd_8 rfl) rfl (by show 2 * 0 + _ ≤ _; exact Nat.le_of_eq rfl) (hb hby d8_36) (fun _ _ => ⟨rfl, rfl, (by decide : 2 + 0 ≤ _), (by decide : 13 + 0 ≤ _)⟩)
  dsimp only [Pt.U, Pt.locs, Pt.cells, Pt.slots] at X21 lq21 yq21 zq21 st21 hQ21
  obtain rfl : k21 = 2 := yq21
  obtain rfl : n21 = 13 := zq21
  obtain ⟨rfl, Nq21, Zn21, Ol21, Xq21, ws21, Kq21, hw21, BB21⟩ := hQ21
  have N21 := Fr.app N16' Nq21
  have KH21 : Keep h0 T21.heap [] := KH16.trans Kq21 (fun x hx => Or.inr (hw21 x hx))
  have N21' : Fr n0 L21 := by rw [lq21]; exact N21
  have ks24 := own_c ks20 st21
  have ks25 : own_R p e below (A0) (T21.setTop (mkF m 46 #[vI p0, vI p1, vR r2, vR r3, vR b1] [(.ref r3), (.ref r2), (.int p1), (.int 3), (.int p0), (.ref b1)])) := fun t k => ks24 t (by
    refine XS.aload X21.here hx rfl (hb hby d8_39) rfl rfl ?_
    refine XS.iloadN X21.here hx rfl (hb hby d8_41) rfl ?_
    refine XS.iconst X21.here hx rfl (hb hby d8_42) ?_
    show Steps p.tables e below (T21.setTop (mkF m 43 #[vI p0, vI p1, vR r2, vR r3, vR b1] [(.int 3), (.int p0), (.ref b1)])) _
    refine XS.iloadN X21.here hx rfl (hb hby d8_43) rfl ?_
    refine XS.aloadN X21.here hx rfl (hb hby d8_44) rfl rfl ?_
    refine XS.aloadN X21.here hx rfl (hb hby d8_45) rfl rfl ?_
    exact k)
  have f27 := E4.keep KH21
  have f28 := E5.keep KH21
  obtain ⟨_, _, ⟨T26, L26, k26, n26⟩, -, X26, ⟨Lc26, hQ26, lq26, yq26, zq26⟩, st26⟩ := Jvm.LawKit.callS X21 hx (y := Y18) hown (mvT hZ (own_w hw 70 rfl)) (mvT hZ (own_w hw 71 rfl)) (mvT hZ (own_w hw 44 rfl)) (mvT hZ (own_w hw 72 rfl)) (by decide) (backOf (W := 0) (rm12_n l Z a0 hw [] b1 p0 (3 : Int32) p1 r2 r3 u ku mo 3 h0.size T21.heap n0 Zn21 Ol21 Sd0 Vu0 Mo BB21 rfl (by decide) hl0 hl1 Z0 KH21.1 f27 f28 (by decide)) hZ (own_w hw 72 rfl) (own_w hw 44 rfl) (by decide) (by decide)) (g := (mkF m 46 #[vI p0, vI p1, vR r2, vR r3, vR b1] [(.ref r3), (.ref r2), (.int p1), (.int 3), (.int p0), (.ref b1)])) rfl (by rw [hml]; rfl) (argsL := [(.ref b1), (.int p0), (.int 3), (.int p1), (.ref r2), (.ref r3)]) (rest := []) (lenOf pd_8 rfl) rfl (by show 2 * 0 + _ ≤ _; exact Nat.le_of_eq rfl) (hb hby d8_46) (fun _ _ => ⟨rfl, rfl, (by decide : 2 + 0 ≤ _), (by decide : 13 + 0 ≤ _)⟩)
  dsimp only [Pt.U, Pt.locs, Pt.cells, Pt.slots] at X26 lq26 yq26 zq26 st26 hQ26
  obtain rfl : k26 = 2 := yq26
  obtain rfl : n26 = 13 := zq26
  obtain ⟨rfl, Nq26, Zn26, Ol26, Xq26, ws26, Kq26, hw26, BB26⟩ := hQ26
  have N26 := Fr.app N21' Nq26
  have KH26 : Keep h0 T26.heap [] := KH21.trans Kq26 (fun x hx => Or.inr (hw26 x hx))
  have N26' : Fr n0 L26 := by rw [lq26]; exact N26
  have ks29 := own_c ks25 st26
  have ks30 : own_R p e below (A0) (T26.setTop (mkF m 56 #[vI p0, vI p1, vR r2, vR r3, vR b1] [(.ref r3), (.ref r2), (.int p1), (.int 4), (.int p0), (.ref b1)])) := fun t k => ks29 t (by
    refine XS.aload X26.here hx rfl (hb hby d8_49) rfl rfl ?_
    refine XS.iloadN X26.here hx rfl (hb hby d8_51) rfl ?_
    refine XS.iconst X26.here hx rfl (hb hby d8_52) ?_
    show Steps p.tables e below (T26.setTop (mkF m 53 #[vI p0, vI p1, vR r2, vR r3, vR b1] [(.int 4), (.int p0), (.ref b1)])) _
    refine XS.iloadN X26.here hx rfl (hb hby d8_53) rfl ?_
    refine XS.aloadN X26.here hx rfl (hb hby d8_54) rfl rfl ?_
    refine XS.aloadN X26.here hx rfl (hb hby d8_55) rfl rfl ?_
    exact k)
  have f32 := E4.keep KH26
  have f33 := E5.keep KH26
  obtain ⟨_, _, ⟨T31, L31, k31, n31⟩, -, X31, ⟨Lc31, hQ31, lq31, yq31, zq31⟩, st31⟩ := Jvm.LawKit.callS X26 hx (y := Y18) hown (mvT hZ (own_w hw 70 rfl)) (mvT hZ (own_w hw 71 rfl)) (mvT hZ (own_w hw 44 rfl)) (mvT hZ (own_w hw 72 rfl)) (by decide) (backOf (W := 0) (rm12_n l Z a0 hw [] b1 p0 (4 : Int32) p1 r2 r3 u ku mo 4 h0.size T26.heap n0 Zn26 Ol26 Sd0 Vu0 Mo BB26 rfl (by decide) hl0 hl1 Z0 KH26.1 f32 f33 (by decide)) hZ (own_w hw 72 rfl) (own_w hw 44 rfl) (by decide) (by decide)) (g := (mkF m 56 #[vI p0, vI p1, vR r2, vR r3, vR b1] [(.ref r3), (.ref r2), (.int p1), (.int 4), (.int p0), (.ref b1)])) rfl (by rw [hml]; rfl) (argsL := [(.ref b1), (.int p0), (.int 4), (.int p1), (.ref r2), (.ref r3)]) (rest := []) (lenOf pd_8 rfl) rfl (by show 2 * 0 + _ ≤ _; exact Nat.le_of_eq rfl) (hb hby d8_56) (fun _ _ => ⟨rfl, rfl, (by decide : 2 + 0 ≤ _), (by decide : 13 + 0 ≤ _)⟩)
  dsimp only [Pt.U, Pt.locs, Pt.cells, Pt.slots] at X31 lq31 yq31 zq31 st31 hQ31
  obtain rfl : k31 = 2 := yq31
  obtain rfl : n31 = 13 := zq31
  obtain ⟨rfl, Nq31, Zn31, Ol31, Xq31, ws31, Kq31, hw31, BB31⟩ := hQ31
  have N31 := Fr.app N26' Nq31
  have KH31 : Keep h0 T31.heap [] := KH26.trans Kq31 (fun x hx => Or.inr (hw31 x hx))
  have N31' : Fr n0 L31 := by rw [lq31]; exact N31
  have ks34 := own_c ks30 st31
  have ks35 : own_R p e below (A0) (T31.setTop (mkF m 66 #[vI p0, vI p1, vR r2, vR r3, vR b1] [(.ref r3), (.ref r2), (.int p1), (.int 5), (.int p0), (.ref b1)])) := fun t k => ks34 t (by
    refine XS.aload X31.here hx rfl (hb hby d8_59) rfl rfl ?_
    refine XS.iloadN X31.here hx rfl (hb hby d8_61) rfl ?_
    refine XS.iconst X31.here hx rfl (hb hby d8_62) ?_
    show Steps p.tables e below (T31.setTop (mkF m 63 #[vI p0, vI p1, vR r2, vR r3, vR b1] [(.int 5), (.int p0), (.ref b1)])) _
    refine XS.iloadN X31.here hx rfl (hb hby d8_63) rfl ?_
    refine XS.aloadN X31.here hx rfl (hb hby d8_64) rfl rfl ?_
    refine XS.aloadN X31.here hx rfl (hb hby d8_65) rfl rfl ?_
    exact k)
  have f37 := E4.keep KH31
  have f38 := E5.keep KH31
  obtain ⟨_, _, ⟨T36, L36, k36, n36⟩, -, X36, ⟨Lc36, hQ36, lq36, yq36, zq36⟩, st36⟩ := Jvm.LawKit.callS X31 hx (y := Y18) hown (mvT hZ (own_w hw 70 rfl)) (mvT hZ (own_w hw 71 rfl)) (mvT hZ (own_w hw 44 rfl)) (mvT hZ (own_w hw 72 rfl)) (by decide) (backOf (W := 0) (rm12_n l Z a0 hw [] b1 p0 (5 : Int32) p1 r2 r3 u ku mo 5 h0.size T31.heap n0 Zn31 Ol31 Sd0 Vu0 Mo BB31 rfl (by decide) hl0 hl1 Z0 KH31.1 f37 f38 (by decide)) hZ (own_w hw 72 rfl) (own_w hw 44 rfl) (by decide) (by decide)) (g := (mkF m 66 #[vI p0, vI p1, vR r2, vR r3, vR b1] [(.ref r3), (.ref r2), (.int p1), (.int 5), (.int p0), (.ref b1)])) rfl (by rw [hml]; rfl) (argsL := [(.ref b1), (.int p0), (.int 5), (.int p1), (.ref r2), (.ref r3)]) (rest := []) (lenOf pd_8 rfl) rfl (by show 2 * 0 + _ ≤ _; exact Nat.le_of_eq rfl) (hb hby d8_66) (fun _ _ => ⟨rfl, rfl, (by decide : 2 + 0 ≤ _), (by decide : 13 + 0 ≤ _)⟩)
  dsimp only [Pt.U, Pt.locs, Pt.cells, Pt.slots] at X36 lq36 yq36 zq36 st36 hQ36
  obtain rfl : k36 = 2 := yq36
  obtain rfl : n36 = 13 := zq36
  obtain ⟨rfl, Nq36, Zn36, Ol36, Xq36, ws36, Kq36, hw36, BB36⟩ := hQ36
  have N36 := Fr.app N31' Nq36
  have KH36 : Keep h0 T36.heap [] := KH31.trans Kq36 (fun x hx => Or.inr (hw36 x hx))
  have N36' : Fr n0 L36 := by rw [lq36]; exact N36
  have ks39 := own_c ks35 st36
  have ks40 : own_R p e below (A0) (T36.setTop (mkF m 77 #[vI p0, vI p1, vR r2, vR r3, vR b1] [(.ref r3), (.ref r2), (.int p1), (.int 6), (.int p0), (.ref b1)])) := fun t k => ks39 t (by
    refine XS.aload X36.here hx rfl (hb hby d8_69) rfl rfl ?_
    refine XS.iloadN X36.here hx rfl (hb hby d8_71) rfl ?_
    refine XS.bipush X36.here hx rfl (hb hby d8_72) ?_
    show Steps p.tables e below (T36.setTop (mkF m 74 #[vI p0, vI p1, vR r2, vR r3, vR b1] [(.int 6), (.int p0), (.ref b1)])) _
    refine XS.iloadN X36.here hx rfl (hb hby d8_74) rfl ?_
    refine XS.aloadN X36.here hx rfl (hb hby d8_75) rfl rfl ?_
    refine XS.aloadN X36.here hx rfl (hb hby d8_76) rfl rfl ?_
    exact k)
  have f42 := E4.keep KH36
  have f43 := E5.keep KH36
  obtain ⟨_, _, ⟨T41, L41, k41, n41⟩, -, X41, ⟨Lc41, hQ41, lq41, yq41, zq41⟩, st41⟩ := Jvm.LawKit.callS X36 hx (y := Y18) hown (mvT hZ (own_w hw 70 rfl)) (mvT hZ (own_w hw 71 rfl)) (mvT hZ (own_w hw 44 rfl)) (mvT hZ (own_w hw 72 rfl)) (by decide) (backOf (W := 0) (rm12_n l Z a0 hw [] b1 p0 (6 : Int32) p1 r2 r3 u ku mo 6 h0.size T36.heap n0 Zn36 Ol36 Sd0 Vu0 Mo BB36 rfl (by decide) hl0 hl1 Z0 KH36.1 f42 f43 (by decide)) hZ (own_w hw 72 rfl) (own_w hw 44 rfl) (by decide) (by decide)) (g := (mkF m 77 #[vI p0, vI p1, vR r2, vR r3, vR b1] [(.ref r3), (.ref r2), (.int p1), (.int 6), (.int p0), (.ref b1)])) rfl (by rw [hml]; rfl) (argsL := [(.ref b1), (.int p0), (.int 6), (.int p1), (.ref r2), (.ref r3)]) (rest := []) (lenOf pd_8 rfl) rfl (by show 2 * 0 + _ ≤ _; exact Nat.le_of_eq rfl) (hb hby d8_77) (fun _ _ => ⟨rfl, rfl, (by decide : 2 + 0 ≤ _), (by decide : 13 + 0 ≤ _)⟩)
  dsimp only [Pt.U, Pt.locs, Pt.cells, Pt.slots] at X41 lq41 yq41 zq41 st41 hQ41
  obtain rfl : k41 = 2 := yq41
  obtain rfl : n41 = 13 := zq41
  obtain ⟨rfl, Nq41, Zn41, Ol41, Xq41, ws41, Kq41, hw41, BB41⟩ := hQ41
  have N41 := Fr.app N36' Nq41
  have KH41 : Keep h0 T41.heap [] := KH36.trans Kq41 (fun x hx => Or.inr (hw41 x hx))
  have N41' : Fr n0 L41 := by rw [lq41]; exact N41
  have ks44 := own_c ks40 st41
  have ks45 : own_R p e below (A0) (T41.setTop (mkF m 88 #[vI p0, vI p1, vR r2, vR r3, vR b1] [(.ref r3), (.ref r2), (.int p1), (.int 7), (.int p0), (.ref b1)])) := fun t k => ks44 t (by
    refine XS.aload X41.here hx rfl (hb hby d8_80) rfl rfl ?_
    refine XS.iloadN X41.here hx rfl (hb hby d8_82) rfl ?_
    refine XS.bipush X41.here hx rfl (hb hby d8_83) ?_
    show Steps p.tables e below (T41.setTop (mkF m 85 #[vI p0, vI p1, vR r2, vR r3, vR b1] [(.int 7), (.int p0), (.ref b1)])) _
    refine XS.iloadN X41.here hx rfl (hb hby d8_85) rfl ?_
    refine XS.aloadN X41.here hx rfl (hb hby d8_86) rfl rfl ?_
    refine XS.aloadN X41.here hx rfl (hb hby d8_87) rfl rfl ?_
    exact k)
  have f47 := E4.keep KH41
  have f48 := E5.keep KH41
  obtain ⟨_, _, ⟨T46, L46, k46, n46⟩, -, X46, ⟨Lc46, hQ46, lq46, yq46, zq46⟩, st46⟩ := Jvm.LawKit.callS X41 hx (y := Y18) hown (mvT hZ (own_w hw 70 rfl)) (mvT hZ (own_w hw 71 rfl)) (mvT hZ (own_w hw 44 rfl)) (mvT hZ (own_w hw 72 rfl)) (by decide) (backOf (W := 0) (rm12_n l Z a0 hw [] b1 p0 (7 : Int32) p1 r2 r3 u ku mo 7 h0.size T41.heap n0 Zn41 Ol41 Sd0 Vu0 Mo BB41 rfl (by decide) hl0 hl1 Z0 KH41.1 f47 f48 (by decide)) hZ (own_w hw 72 rfl) (own_w hw 44 rfl) (by decide) (by decide)) (g := (mkF m 88 #[vI p0, vI p1, vR r2, vR r3, vR b1] [(.ref r3), (.ref r2), (.int p1), (.int 7), (.int p0), (.ref b1)])) rfl (by rw [hml]; rfl) (argsL := [(.ref b1), (.int p0), (.int 7), (.int p1), (.ref r2), (.ref r3)]) (rest := []) (lenOf pd_8 rfl) rfl (by show 2 * 0 + _ ≤ _; exact Nat.le_of_eq rfl) (hb hby d8_88) (fun _ _ => ⟨rfl, rfl, (by decide : 2 + 0 ≤ _), (by decide : 13 + 0 ≤ _)⟩)
  dsimp only [Pt.U, Pt.locs, Pt.cells, Pt.slots] at X46 lq46 yq46 zq46 st46 hQ46
  obtain rfl : k46 = 2 := yq46
  obtain rfl : n46 = 13 := zq46
  obtain ⟨rfl, Nq46, Zn46, Ol46, Xq46, ws46, Kq46, hw46, BB46⟩ := hQ46
  have N46 := Fr.app N41' Nq46
  have KH46 : Keep h0 T46.heap [] := KH41.trans Kq46 (fun x hx => Or.inr (hw46 x hx))
  have N46' : Fr n0 L46 := by rw [lq46]; exact N46
  have ks49 := own_c ks45 st46
  have ks50 : own_R p e below (A0) (T46.setTop (mkF m 99 #[vI p0, vI p1, vR r2, vR r3, vR b1] [(.ref r3), (.ref r2), (.int p1), (.int 8), (.int p0), (.ref b1)])) := fun t k => ks49 t (by
    refine XS.aload X46.here hx rfl (hb hby d8_91) rfl rfl ?_
    refine XS.iloadN X46.here hx rfl (hb hby d8_93) rfl ?_
    refine XS.bipush X46.here hx rfl (hb hby d8_94) ?_
    show Steps p.tables e below (T46.setTop (mkF m 96 #[vI p0, vI p1, vR r2, vR r3, vR b1] [(.int 8), (.int p0), (.ref b1)])) _
    refine XS.iloadN X46.here hx rfl (hb hby d8_96) rfl ?_
    refine XS.aloadN X46.here hx rfl (hb hby d8_97) rfl rfl ?_
    refine XS.aloadN X46.here hx rfl (hb hby d8_98) rfl rfl ?_
    exact k)
  have f52 := E4.keep KH46
  have f53 := E5.keep KH46
  obtain ⟨_, _, ⟨T51, L51, k51, n51⟩, -, X51, ⟨Lc51, hQ51, lq51, yq51, zq51⟩, st51⟩ := Jvm.LawKit.callS X46 hx (y := Y18) hown (mvT hZ (own_w hw 70 rfl)) (mvT hZ (own_w hw 71 rfl)) (mvT hZ (own_w hw 44 rfl)) (mvT hZ (own_w hw 72 rfl)) (by decide) (backOf (W := 0) (rm12_n l Z a0 hw [] b1 p0 (8 : Int32) p1 r2 r3 u ku mo 8 h0.size T46.heap n0 Zn46 Ol46 Sd0 Vu0 Mo BB46 rfl (by decide) hl0 hl1 Z0 KH46.1 f52 f53 (by decide)) hZ (own_w hw 72 rfl) (own_w hw 44 rfl) (by decide) (by decide)) (g := (mkF m 99 #[vI p0, vI p1, vR r2, vR r3, vR b1] [(.ref r3), (.ref r2), (.int p1), (.int 8), (.int p0), (.ref b1)])) rfl (by rw [hml]; rfl) (argsL := [(.ref b1), (.int p0), (.int 8), (.int p1), (.ref r2), (.ref r3)]) (rest := []) (lenOf pd_8 rfl) rfl (by show 2 * 0 + _ ≤ _; exact Nat.le_of_eq rfl) (hb hby d8_99) (fun _ _ => ⟨rfl, rfl, (by decide : 2 + 0 ≤ _), (by decide : 13 + 0 ≤ _)⟩)
  dsimp only [Pt.U, Pt.locs, Pt.cells, Pt.slots] at X51 lq51 yq51 zq51 st51 hQ51
  obtain rfl : k51 = 2 := yq51
  obtain rfl : n51 = 13 := zq51
  obtain ⟨rfl, Nq51, Zn51, Ol51, Xq51, ws51, Kq51, hw51, BB51⟩ := hQ51
  have N51 := Fr.app N46' Nq51
  have KH51 : Keep h0 T51.heap [] := KH46.trans Kq51 (fun x hx => Or.inr (hw51 x hx))
  have N51' : Fr n0 L51 := by rw [lq51]; exact N51
  have ks54 := own_c ks50 st51
  have ks55 : own_R p e below (A0) (T51.setTop (mkF m 110 #[vI p0, vI p1, vR r2, vR r3, vR b1] [(.ref r3), (.ref r2), (.int p1), (.int 9), (.int p0), (.ref b1)])) := fun t k => ks54 t (by
    refine XS.aload X51.here hx rfl (hb hby d8_102) rfl rfl ?_
    refine XS.iloadN X51.here hx rfl (hb hby d8_104) rfl ?_
    refine XS.bipush X51.here hx rfl (hb hby d8_105) ?_
    show Steps p.tables e below (T51.setTop (mkF m 107 #[vI p0, vI p1, vR r2, vR r3, vR b1] [(.int 9), (.int p0), (.ref b1)])) _
    refine XS.iloadN X51.here hx rfl (hb hby d8_107) rfl ?_
    refine XS.aloadN X51.here hx rfl (hb hby d8_108) rfl rfl ?_
    refine XS.aloadN X51.here hx rfl (hb hby d8_109) rfl rfl ?_
    exact k)
  have f57 := E4.keep KH51
  have f58 := E5.keep KH51
  obtain ⟨_, _, ⟨T56, L56, k56, n56⟩, -, X56, ⟨Lc56, hQ56, lq56, yq56, zq56⟩, st56⟩ := Jvm.LawKit.callS X51 hx (y := Y18) hown (mvT hZ (own_w hw 70 rfl)) (mvT hZ (own_w hw 71 rfl)) (mvT hZ (own_w hw 44 rfl)) (mvT hZ (own_w hw 72 rfl)) (by decide) (backOf (W := 0) (rm12_n l Z a0 hw [] b1 p0 (9 : Int32) p1 r2 r3 u ku mo 9 h0.size T51.heap n0 Zn51 Ol51 Sd0 Vu0 Mo BB51 rfl (by decide) hl0 hl1 Z0 KH51.1 f57 f58 (by decide)) hZ (own_w hw 72 rfl) (own_w hw 44 rfl) (by decide) (by decide)) (g := (mkF m 110 #[vI p0, vI p1, vR r2, vR r3, vR b1] [(.ref r3), (.ref r2), (.int p1), (.int 9), (.int p0), (.ref b1)])) rfl (by rw [hml]; rfl) (argsL := [(.ref b1), (.int p0), (.int 9), (.int p1), (.ref r2), (.ref r3)]) (rest := []) (lenOf pd_8 rfl) rfl (by show 2 * 0 + _ ≤ _; exact Nat.le_of_eq rfl) (hb hby d8_110) (fun _ _ => ⟨rfl, rfl, (by decide : 2 + 0 ≤ _), (by decide : 13 + 0 ≤ _)⟩)
  dsimp only [Pt.U, Pt.locs, Pt.cells, Pt.slots] at X56 lq56 yq56 zq56 st56 hQ56
  obtain rfl : k56 = 2 := yq56
  obtain rfl : n56 = 13 := zq56
  obtain ⟨rfl, Nq56, Zn56, Ol56, Xq56, ws56, Kq56, hw56, BB56⟩ := hQ56
  have N56 := Fr.app N51' Nq56
  have KH56 : Keep h0 T56.heap [] := KH51.trans Kq56 (fun x hx => Or.inr (hw56 x hx))
  have N56' : Fr n0 L56 := by rw [lq56]; exact N56
  have ks59 := own_c ks55 st56
  have ks60 : own_R p e below (A0) (T56.setTop (mkF m 121 #[vI p0, vI p1, vR r2, vR r3, vR b1] [(.ref r3), (.ref r2), (.int p1), (.int 10), (.int p0), (.ref b1)])) := fun t k => ks59 t (by
    refine XS.aload X56.here hx rfl (hb hby d8_113) rfl rfl ?_
    refine XS.iloadN X56.here hx rfl (hb hby d8_115) rfl ?_
    refine XS.bipush X56.here hx rfl (hb hby d8_116) ?_
    show Steps p.tables e below (T56.setTop (mkF m 118 #[vI p0, vI p1, vR r2, vR r3, vR b1] [(.int 10), (.int p0), (.ref b1)])) _
    refine XS.iloadN X56.here hx rfl (hb hby d8_118) rfl ?_
    refine XS.aloadN X56.here hx rfl (hb hby d8_119) rfl rfl ?_
    refine XS.aloadN X56.here hx rfl (hb hby d8_120) rfl rfl ?_
    exact k)
  have f62 := E4.keep KH56
  have f63 := E5.keep KH56
  obtain ⟨_, _, ⟨T61, L61, k61, n61⟩, -, X61, ⟨Lc61, hQ61, lq61, yq61, zq61⟩, st61⟩ := Jvm.LawKit.callS X56 hx (y := Y18) hown (mvT hZ (own_w hw 70 rfl)) (mvT hZ (own_w hw 71 rfl)) (mvT hZ (own_w hw 44 rfl)) (mvT hZ (own_w hw 72 rfl)) (by decide) (backOf (W := 0) (rm12_10 l Z a0 hw [] b1 p0 (10 : Int32) p1 r2 r3 u ku mo 10 h0.size T56.heap n0 Zn56 Ol56 Sd0 Vu0 Mo BB56 rfl (by decide) hl0 hl1 Z0 KH56.1 f62 f63 (by decide)) hZ (own_w hw 72 rfl) (own_w hw 44 rfl) (by decide) (by decide)) (g := (mkF m 121 #[vI p0, vI p1, vR r2, vR r3, vR b1] [(.ref r3), (.ref r2), (.int p1), (.int 10), (.int p0), (.ref b1)])) rfl (by rw [hml]; rfl) (argsL := [(.ref b1), (.int p0), (.int 10), (.int p1), (.ref r2), (.ref r3)]) (rest := []) (lenOf pd_8 rfl) rfl (by show 2 * 0 + _ ≤ _; exact Nat.le_of_eq rfl) (hb hby d8_121) (fun _ _ => ⟨rfl, rfl, (by decide : 2 + 1 ≤ _), (by decide : 13 + 15 ≤ _)⟩)
  dsimp only [Pt.U, Pt.locs, Pt.cells, Pt.slots] at X61 lq61 yq61 zq61 st61 hQ61
  obtain rfl : k61 = 3 := yq61
  obtain rfl : n61 = 28 := zq61
  obtain ⟨rfl, Nq61, Zn61, Ol61, Xq61, ws61, Kq61, hw61, BB61⟩ := hQ61
  have N61 := Fr.app N56' Nq61
  have KH61 : Keep h0 T61.heap [] := KH56.trans Kq61 (fun x hx => Or.inr (hw61 x hx))
  have N61' : Fr n0 L61 := by rw [lq61]; exact N61
  have ks64 := own_c ks60 st61
  have ks65 : own_R p e below (A0) (T61.setTop (mkF m 132 #[vI p0, vI p1, vR r2, vR r3, vR b1] [(.ref r3), (.ref r2), (.int p1), (.int 11), (.int p0), (.ref b1)])) := fun t k => ks64 t (by
    refine XS.aload X61.here hx rfl (hb hby d8_124) rfl rfl ?_
    refine XS.iloadN X61.here hx rfl (hb hby d8_126) rfl ?_
    refine XS.bipush X61.here hx rfl (hb hby d8_127) ?_
    show Steps p.tables e below (T61.setTop (mkF m 129 #[vI p0, vI p1, vR r2, vR r3, vR b1] [(.int 11), (.int p0), (.ref b1)])) _
    refine XS.iloadN X61.here hx rfl (hb hby d8_129) rfl ?_
    refine XS.aloadN X61.here hx rfl (hb hby d8_130) rfl rfl ?_
    refine XS.aloadN X61.here hx rfl (hb hby d8_131) rfl rfl ?_
    exact k)
  have f67 := E4.keep KH61
  have f68 := E5.keep KH61
  obtain ⟨_, _, ⟨T66, L66, k66, n66⟩, -, X66, ⟨Lc66, hQ66, lq66, yq66, zq66⟩, st66⟩ := Jvm.LawKit.callS X61 hx (y := Y18) hown (mvT hZ (own_w hw 70 rfl)) (mvT hZ (own_w hw 71 rfl)) (mvT hZ (own_w hw 44 rfl)) (mvT hZ (own_w hw 72 rfl)) (by decide) (backOf (W := 0) (rm12_n l Z a0 hw [] b1 p0 (11 : Int32) p1 r2 r3 u ku mo 11 h0.size T61.heap n0 Zn61 Ol61 Sd0 Vu0 Mo BB61 rfl (by decide) hl0 hl1 Z0 KH61.1 f67 f68 (by decide)) hZ (own_w hw 72 rfl) (own_w hw 44 rfl) (by decide) (by decide)) (g := (mkF m 132 #[vI p0, vI p1, vR r2, vR r3, vR b1] [(.ref r3), (.ref r2), (.int p1), (.int 11), (.int p0), (.ref b1)])) rfl (by rw [hml]; rfl) (argsL := [(.ref b1), (.int p0), (.int 11), (.int p1), (.ref r2), (.ref r3)]) (rest := []) (lenOf pd_8 rfl) rfl (by show 2 * 0 + _ ≤ _; exact Nat.le_of_eq rfl) (hb hby d8_132) (fun _ _ => ⟨rfl, rfl, (by decide : 3 + 0 ≤ _), (by decide : 28 + 0 ≤ _)⟩)
  dsimp only [Pt.U, Pt.locs, Pt.cells, Pt.slots] at X66 lq66 yq66 zq66 st66 hQ66
  obtain rfl : k66 = 3 := yq66
  obtain rfl : n66 = 28 := zq66
  obtain ⟨rfl, Nq66, Zn66, Ol66, Xq66, ws66, Kq66, hw66, BB66⟩ := hQ66
  have N66 := Fr.app N61' Nq66
  have KH66 : Keep h0 T66.heap [] := KH61.trans Kq66 (fun x hx => Or.inr (hw66 x hx))
  have N66' : Fr n0 L66 := by rw [lq66]; exact N66
  have ks69 := own_c ks65 st66
  have ks70 : own_R p e below (A0) (T66.setTop (mkF m 143 #[vI p0, vI p1, vR r2, vR r3, vR b1] [(.ref r3), (.ref r2), (.int p1), (.int 12), (.int p0), (.ref b1)])) := fun t k => ks69 t (by
    refine XS.aload X66.here hx rfl (hb hby d8_135) rfl rfl ?_
    refine XS.iloadN X66.here hx rfl (hb hby d8_137) rfl ?_
    refine XS.bipush X66.here hx rfl (hb hby d8_138) ?_
    show Steps p.tables e below (T66.setTop (mkF m 140 #[vI p0, vI p1, vR r2, vR r3, vR b1] [(.int 12), (.int p0), (.ref b1)])) _
    refine XS.iloadN X66.here hx rfl (hb hby d8_140) rfl ?_
    refine XS.aloadN X66.here hx rfl (hb hby d8_141) rfl rfl ?_
    refine XS.aloadN X66.here hx rfl (hb hby d8_142) rfl rfl ?_
    exact k)
  have f72 := E4.keep KH66
  have f73 := E5.keep KH66
  obtain ⟨_, _, ⟨T71, L71, k71, n71⟩, -, X71, ⟨Lc71, hQ71, lq71, yq71, zq71⟩, st71⟩ := Jvm.LawKit.callS X66 hx (y := Y18) hown (mvT hZ (own_w hw 70 rfl)) (mvT hZ (own_w hw 71 rfl)) (mvT hZ (own_w hw 44 rfl)) (mvT hZ (own_w hw 72 rfl)) (by decide) (backOf (W := 0) (rm12_n l Z a0 hw [] b1 p0 (12 : Int32) p1 r2 r3 u ku mo 12 h0.size T66.heap n0 Zn66 Ol66 Sd0 Vu0 Mo BB66 rfl (by decide) hl0 hl1 Z0 KH66.1 f72 f73 (by decide)) hZ (own_w hw 72 rfl) (own_w hw 44 rfl) (by decide) (by decide)) (g := (mkF m 143 #[vI p0, vI p1, vR r2, vR r3, vR b1] [(.ref r3), (.ref r2), (.int p1), (.int 12), (.int p0), (.ref b1)])) rfl (by rw [hml]; rfl) (argsL := [(.ref b1), (.int p0), (.int 12), (.int p1), (.ref r2), (.ref r3)]) (rest := []) (lenOf pd_8 rfl) rfl (by show 2 * 0 + _ ≤ _; exact Nat.le_of_eq rfl) (hb hby d8_143) (fun _ _ => ⟨rfl, rfl, (by decide : 3 + 0 ≤ _), (by decide : 28 + 0 ≤ _)⟩)
  dsimp only [Pt.U, Pt.locs, Pt.cells, Pt.slots] at X71 lq71 yq71 zq71 st71 hQ71
  obtain rfl : k71 = 3 := yq71
  obtain rfl : n71 = 28 := zq71
  obtain ⟨rfl, Nq71, Zn71, Ol71, Xq71, ws71, Kq71, hw71, BB71⟩ := hQ71
  have N71 := Fr.app N66' Nq71
  have KH71 : Keep h0 T71.heap [] := KH66.trans Kq71 (fun x hx => Or.inr (hw71 x hx))
  have N71' : Fr n0 L71 := by rw [lq71]; exact N71
  have ks74 := own_c ks70 st71
  have ks75 : own_R p e below (A0) (T71.setTop (mkF m 154 #[vI p0, vI p1, vR r2, vR r3, vR b1] [(.ref r3), (.ref r2), (.int p1), (.int 13), (.int p0), (.ref b1)])) := fun t k => ks74 t (by
    refine XS.aload X71.here hx rfl (hb hby d8_146) rfl rfl ?_
    refine XS.iloadN X71.here hx rfl (hb hby d8_148) rfl ?_
    refine XS.bipush X71.here hx rfl (hb hby d8_149) ?_
    show Steps p.tables e below (T71.setTop (mkF m 151 #[vI p0, vI p1, vR r2, vR r3, vR b1] [(.int 13), (.int p0), (.ref b1)])) _
    refine XS.iloadN X71.here hx rfl (hb hby d8_151) rfl ?_
    refine XS.aloadN X71.here hx rfl (hb hby d8_152) rfl rfl ?_
    refine XS.aloadN X71.here hx rfl (hb hby d8_153) rfl rfl ?_
    exact k)
  have f77 := E4.keep KH71
  have f78 := E5.keep KH71
  obtain ⟨_, _, ⟨T76, L76, k76, n76⟩, -, X76, ⟨Lc76, hQ76, lq76, yq76, zq76⟩, st76⟩ := Jvm.LawKit.callS X71 hx (y := Y18) hown (mvT hZ (own_w hw 70 rfl)) (mvT hZ (own_w hw 71 rfl)) (mvT hZ (own_w hw 44 rfl)) (mvT hZ (own_w hw 72 rfl)) (by decide) (backOf (W := 0) (rm12_n l Z a0 hw [] b1 p0 (13 : Int32) p1 r2 r3 u ku mo 13 h0.size T71.heap n0 Zn71 Ol71 Sd0 Vu0 Mo BB71 rfl (by decide) hl0 hl1 Z0 KH71.1 f77 f78 (by decide)) hZ (own_w hw 72 rfl) (own_w hw 44 rfl) (by decide) (by decide)) (g := (mkF m 154 #[vI p0, vI p1, vR r2, vR r3, vR b1] [(.ref r3), (.ref r2), (.int p1), (.int 13), (.int p0), (.ref b1)])) rfl (by rw [hml]; rfl) (argsL := [(.ref b1), (.int p0), (.int 13), (.int p1), (.ref r2), (.ref r3)]) (rest := []) (lenOf pd_8 rfl) rfl (by show 2 * 0 + _ ≤ _; exact Nat.le_of_eq rfl) (hb hby d8_154) (fun _ _ => ⟨rfl, rfl, (by decide : 3 + 0 ≤ _), (by decide : 28 + 0 ≤ _)⟩)
  dsimp only [Pt.U, Pt.locs, Pt.cells, Pt.slots] at X76 lq76 yq76 zq76 st76 hQ76
  obtain rfl : k76 = 3 := yq76
  obtain rfl : n76 = 28 := zq76
  obtain ⟨rfl, Nq76, Zn76, Ol76, Xq76, ws76, Kq76, hw76, BB76⟩ := hQ76
  have N76 := Fr.app N71' Nq76
  have KH76 : Keep h0 T76.heap [] := KH71.trans Kq76 (fun x hx => Or.inr (hw76 x hx))
  have N76' : Fr n0 L76 := by rw [lq76]; exact N76
  have ks79 := own_c ks75 st76
  have ks80 : own_R p e below (A0) (T76.setTop (mkF m 165 #[vI p0, vI p1, vR r2, vR r3, vR b1] [(.ref r3), (.ref r2), (.int p1), (.int 14), (.int p0), (.ref b1)])) := fun t k => ks79 t (by
    refine XS.aload X76.here hx rfl (hb hby d8_157) rfl rfl ?_
    refine XS.iloadN X76.here hx rfl (hb hby d8_159) rfl ?_
    refine XS.bipush X76.here hx rfl (hb hby d8_160) ?_
    show Steps p.tables e below (T76.setTop (mkF m 162 #[vI p0, vI p1, vR r2, vR r3, vR b1] [(.int 14), (.int p0), (.ref b1)])) _
    refine XS.iloadN X76.here hx rfl (hb hby d8_162) rfl ?_
    refine XS.aloadN X76.here hx rfl (hb hby d8_163) rfl rfl ?_
    refine XS.aloadN X76.here hx rfl (hb hby d8_164) rfl rfl ?_
    exact k)
  have f82 := E4.keep KH76
  have f83 := E5.keep KH76
  obtain ⟨_, _, ⟨T81, L81, k81, n81⟩, -, X81, ⟨Lc81, hQ81, lq81, yq81, zq81⟩, st81⟩ := Jvm.LawKit.callS X76 hx (y := Y18) hown (mvT hZ (own_w hw 70 rfl)) (mvT hZ (own_w hw 71 rfl)) (mvT hZ (own_w hw 44 rfl)) (mvT hZ (own_w hw 72 rfl)) (by decide) (backOf (W := 0) (rm12_n l Z a0 hw [] b1 p0 (14 : Int32) p1 r2 r3 u ku mo 14 h0.size T76.heap n0 Zn76 Ol76 Sd0 Vu0 Mo BB76 rfl (by decide) hl0 hl1 Z0 KH76.1 f82 f83 (by decide)) hZ (own_w hw 72 rfl) (own_w hw 44 rfl) (by decide) (by decide)) (g := (mkF m 165 #[vI p0, vI p1, vR r2, vR r3, vR b1] [(.ref r3), (.ref r2), (.int p1), (.int 14), (.int p0), (.ref b1)])) rfl (by rw [hml]; rfl) (argsL := [(.ref b1), (.int p0), (.int 14), (.int p1), (.ref r2), (.ref r3)]) (rest := []) (lenOf pd_8 rfl) rfl (by show 2 * 0 + _ ≤ _; exact Nat.le_of_eq rfl) (hb hby d8_165) (fun _ _ => ⟨rfl, rfl, (by decide : 3 + 0 ≤ _), (by decide : 28 + 0 ≤ _)⟩)
  dsimp only [Pt.U, Pt.locs, Pt.cells, Pt.slots] at X81 lq81 yq81 zq81 st81 hQ81
  obtain rfl : k81 = 3 := yq81
  obtain rfl : n81 = 28 := zq81
  obtain ⟨rfl, Nq81, Zn81, Ol81, Xq81, ws81, Kq81, hw81, BB81⟩ := hQ81
  have N81 := Fr.app N76' Nq81
  have KH81 : Keep h0 T81.heap [] := KH76.trans Kq81 (fun x hx => Or.inr (hw81 x hx))
  have N81' : Fr n0 L81 := by rw [lq81]; exact N81
  have ks84 := own_c ks80 st81
  have ks85 : own_R p e below (A0) (T81.setTop (mkF m 176 #[vI p0, vI p1, vR r2, vR r3, vR b1] [(.ref r3), (.ref r2), (.int p1), (.int 15), (.int p0), (.ref b1)])) := fun t k => ks84 t (by
    refine XS.aload X81.here hx rfl (hb hby d8_168) rfl rfl ?_
    refine XS.iloadN X81.here hx rfl (hb hby d8_170) rfl ?_
    refine XS.bipush X81.here hx rfl (hb hby d8_171) ?_
    show Steps p.tables e below (T81.setTop (mkF m 173 #[vI p0, vI p1, vR r2, vR r3, vR b1] [(.int 15), (.int p0), (.ref b1)])) _
    refine XS.iloadN X81.here hx rfl (hb hby d8_173) rfl ?_
    refine XS.aloadN X81.here hx rfl (hb hby d8_174) rfl rfl ?_
    refine XS.aloadN X81.here hx rfl (hb hby d8_175) rfl rfl ?_
    exact k)
  have f87 := E4.keep KH81
  have f88 := E5.keep KH81
  obtain ⟨_, _, ⟨T86, L86, k86, n86⟩, -, X86, ⟨Lc86, hQ86, lq86, yq86, zq86⟩, st86⟩ := Jvm.LawKit.callS X81 hx (y := Y18) hown (mvT hZ (own_w hw 70 rfl)) (mvT hZ (own_w hw 71 rfl)) (mvT hZ (own_w hw 44 rfl)) (mvT hZ (own_w hw 72 rfl)) (by decide) (backOf (W := 0) (rm12_15 l Z a0 hw [] b1 p0 (15 : Int32) p1 r2 r3 u ku mo 15 h0.size T81.heap n0 Zn81 Ol81 Sd0 Vu0 Mo BB81 rfl (by decide) hl0 hl1 Z0 KH81.1 f87 f88 (by decide)) hZ (own_w hw 72 rfl) (own_w hw 44 rfl) (by decide) (by decide)) (g := (mkF m 176 #[vI p0, vI p1, vR r2, vR r3, vR b1] [(.ref r3), (.ref r2), (.int p1), (.int 15), (.int p0), (.ref b1)])) rfl (by rw [hml]; rfl) (argsL := [(.ref b1), (.int p0), (.int 15), (.int p1), (.ref r2), (.ref r3)]) (rest := []) (lenOf pd_8 rfl) rfl (by show 2 * 0 + _ ≤ _; exact Nat.le_of_eq rfl) (hb hby d8_176) (fun _ _ => ⟨rfl, rfl, (by decide : 3 + 1 ≤ _), (by decide : 28 + 22 ≤ _)⟩)
  dsimp only [Pt.U, Pt.locs, Pt.cells, Pt.slots] at X86 lq86 yq86 zq86 st86 hQ86
  obtain rfl : k86 = 4 := yq86
  obtain rfl : n86 = 50 := zq86
  obtain ⟨rfl, Nq86, Zn86, Ol86, Xq86, ws86, Kq86, hw86, BB86⟩ := hQ86
  have N86 := Fr.app N81' Nq86
  have KH86 : Keep h0 T86.heap [] := KH81.trans Kq86 (fun x hx => Or.inr (hw86 x hx))
  have N86' : Fr n0 L86 := by rw [lq86]; exact N86
  have ks89 := own_c ks85 st86
  have ks90 : own_R p e below (A0) (T86.setTop (mkF m 187 #[vI p0, vI p1, vR r2, vR r3, vR b1] [(.ref r3), (.ref r2), (.int p1), (.int 16), (.int p0), (.ref b1)])) := fun t k => ks89 t (by
    refine XS.aload X86.here hx rfl (hb hby d8_179) rfl rfl ?_
    refine XS.iloadN X86.here hx rfl (hb hby d8_181) rfl ?_
    refine XS.bipush X86.here hx rfl (hb hby d8_182) ?_
    show Steps p.tables e below (T86.setTop (mkF m 184 #[vI p0, vI p1, vR r2, vR r3, vR b1] [(.int 16), (.int p0), (.ref b1)])) _
    refine XS.iloadN X86.here hx rfl (hb hby d8_184) rfl ?_
    refine XS.aloadN X86.here hx rfl (hb hby d8_185) rfl rfl ?_
    refine XS.aloadN X86.here hx rfl (hb hby d8_186) rfl rfl ?_
    exact k)
  have f92 := E4.keep KH86
  have f93 := E5.keep KH86
  obtain ⟨_, _, ⟨T91, L91, k91, n91⟩, -, X91, ⟨Lc91, hQ91, lq91, yq91, zq91⟩, st91⟩ := Jvm.LawKit.callS X86 hx (y := Y18) hown (mvT hZ (own_w hw 70 rfl)) (mvT hZ (own_w hw 71 rfl)) (mvT hZ (own_w hw 44 rfl)) (mvT hZ (own_w hw 72 rfl)) (by decide) (backOf (W := 0) (rm12_n l Z a0 hw [] b1 p0 (16 : Int32) p1 r2 r3 u ku mo 16 h0.size T86.heap n0 Zn86 Ol86 Sd0 Vu0 Mo BB86 rfl (by decide) hl0 hl1 Z0 KH86.1 f92 f93 (by decide)) hZ (own_w hw 72 rfl) (own_w hw 44 rfl) (by decide) (by decide)) (g := (mkF m 187 #[vI p0, vI p1, vR r2, vR r3, vR b1] [(.ref r3), (.ref r2), (.int p1), (.int 16), (.int p0), (.ref b1)])) rfl (by rw [hml]; rfl) (argsL := [(.ref b1), (.int p0), (.int 16), (.int p1), (.ref r2), (.ref r3)]) (rest := []) (lenOf pd_8 rfl) rfl (by show 2 * 0 + _ ≤ _; exact Nat.le_of_eq rfl) (hb hby d8_187) (fun _ _ => ⟨rfl, rfl, (by decide : 4 + 0 ≤ _), (by decide : 50 + 0 ≤ _)⟩)
  dsimp only [Pt.U, Pt.locs, Pt.cells, Pt.slots] at X91 lq91 yq91 zq91 st91 hQ91
  obtain rfl : k91 = 4 := yq91
  obtain rfl : n91 = 50 := zq91
  obtain ⟨rfl, Nq91, Zn91, Ol91, Xq91, ws91, Kq91, hw91, BB91⟩ := hQ91
  have N91 := Fr.app N86' Nq91
  have KH91 : Keep h0 T91.heap [] := KH86.trans Kq91 (fun x hx => Or.inr (hw91 x hx))
  have N91' : Fr n0 L91 := by rw [lq91]; exact N91
  have ks94 := own_c ks90 st91
  have ks95 : own_R p e below (A0) (T91.setTop (mkF m 198 #[vI p0, vI p1, vR r2, vR r3, vR b1] [(.ref r3), (.ref r2), (.int p1), (.int 17), (.int p0), (.ref b1)])) := fun t k => ks94 t (by
    refine XS.aload X91.here hx rfl (hb hby d8_190) rfl rfl ?_
    refine XS.iloadN X91.here hx rfl (hb hby d8_192) rfl ?_
    refine XS.bipush X91.here hx rfl (hb hby d8_193) ?_
    show Steps p.tables e below (T91.setTop (mkF m 195 #[vI p0, vI p1, vR r2, vR r3, vR b1] [(.int 17), (.int p0), (.ref b1)])) _
    refine XS.iloadN X91.here hx rfl (hb hby d8_195) rfl ?_
    refine XS.aloadN X91.here hx rfl (hb hby d8_196) rfl rfl ?_
    refine XS.aloadN X91.here hx rfl (hb hby d8_197) rfl rfl ?_
    exact k)
  have f97 := E4.keep KH91
  have f98 := E5.keep KH91
  obtain ⟨_, _, ⟨T96, L96, k96, n96⟩, -, X96, ⟨Lc96, hQ96, lq96, yq96, zq96⟩, st96⟩ := Jvm.LawKit.callS X91 hx (y := Y18) hown (mvT hZ (own_w hw 70 rfl)) (mvT hZ (own_w hw 71 rfl)) (mvT hZ (own_w hw 44 rfl)) (mvT hZ (own_w hw 72 rfl)) (by decide) (backOf (W := 0) (rm12_n l Z a0 hw [] b1 p0 (17 : Int32) p1 r2 r3 u ku mo 17 h0.size T91.heap n0 Zn91 Ol91 Sd0 Vu0 Mo BB91 rfl (by decide) hl0 hl1 Z0 KH91.1 f97 f98 (by decide)) hZ (own_w hw 72 rfl) (own_w hw 44 rfl) (by decide) (by decide)) (g := (mkF m 198 #[vI p0, vI p1, vR r2, vR r3, vR b1] [(.ref r3), (.ref r2), (.int p1), (.int 17), (.int p0), (.ref b1)])) rfl (by rw [hml]; rfl) (argsL := [(.ref b1), (.int p0), (.int 17), (.int p1), (.ref r2), (.ref r3)]) (rest := []) (lenOf pd_8 rfl) rfl (by show 2 * 0 + _ ≤ _; exact Nat.le_of_eq rfl) (hb hby d8_198) (fun _ _ => ⟨rfl, rfl, (by decide : 4 + 0 ≤ _), (by decide : 50 + 0 ≤ _)⟩)
  dsimp only [Pt.U, Pt.locs, Pt.cells, Pt.slots] at X96 lq96 yq96 zq96 st96 hQ96
  obtain rfl : k96 = 4 := yq96
  obtain rfl : n96 = 50 := zq96
  obtain ⟨rfl, Nq96, Zn96, Ol96, Xq96, ws96, Kq96, hw96, BB96⟩ := hQ96
  have N96 := Fr.app N91' Nq96
  have KH96 : Keep h0 T96.heap [] := KH91.trans Kq96 (fun x hx => Or.inr (hw96 x hx))
  have N96' : Fr n0 L96 := by rw [lq96]; exact N96
  have ks99 := own_c ks95 st96
  have ks100 : own_R p e below (A0) (T96.setTop (mkF m 209 #[vI p0, vI p1, vR r2, vR r3, vR b1] [(.ref r3), (.ref r2), (.int p1), (.int 18), (.int p0), (.ref b1)])) := fun t k => ks99 t (by
    refine XS.aload X96.here hx rfl (hb hby d8_201) rfl rfl ?_
    refine XS.iloadN X96.here hx rfl (hb hby d8_203) rfl ?_
    refine XS.bipush X96.here hx rfl (hb hby d8_204) ?_
    show Steps p.tables e below (T96.setTop (mkF m 206 #[vI p0, vI p1, vR r2, vR r3, vR b1] [(.int 18), (.int p0), (.ref b1)])) _
    refine XS.iloadN X96.here hx rfl (hb hby d8_206) rfl ?_
    refine XS.aloadN X96.here hx rfl (hb hby d8_207) rfl rfl ?_
    refine XS.aloadN X96.here hx rfl (hb hby d8_208) rfl rfl ?_
    exact k)
  have f102 := E4.keep KH96
  have f103 := E5.keep KH96
  obtain ⟨_, _, ⟨T101, L101, k101, n101⟩, -, X101, ⟨Lc101, hQ101, lq101, yq101, zq101⟩, st101⟩ := Jvm.LawKit.callS X96 hx (y := Y18) hown (mvT hZ (own_w hw 70 rfl)) (mvT hZ (own_w hw 71 rfl)) (mvT hZ (own_w hw 44 rfl)) (mvT hZ (own_w hw 72 rfl)) (by decide) (backOf (W := 0) (rm12_n l Z a0 hw [] b1 p0 (18 : Int32) p1 r2 r3 u ku mo 18 h0.size T96.heap n0 Zn96 Ol96 Sd0 Vu0 Mo BB96 rfl (by decide) hl0 hl1 Z0 KH96.1 f102 f103 (by decide)) hZ (own_w hw 72 rfl) (own_w hw 44 rfl) (by decide) (by decide)) (g := (mkF m 209 #[vI p0, vI p1, vR r2, vR r3, vR b1] [(.ref r3), (.ref r2), (.int p1), (.int 18), (.int p0), (.ref b1)])) rfl (by rw [hml]; rfl) (argsL := [(.ref b1), (.int p0), (.int 18), (.int p1), (.ref r2), (.ref r3)]) (rest := []) (lenOf pd_8 rfl) rfl (by show 2 * 0 + _ ≤ _; exact Nat.le_of_eq rfl) (hb hby d8_209) (fun _ _ => ⟨rfl, rfl, (by decide : 4 + 0 ≤ _), (by decide : 50 + 0 ≤ _)⟩)
  dsimp only [Pt.U, Pt.locs, Pt.cells, Pt.slots] at X101 lq101 yq101 zq101 st101 hQ101
  obtain rfl : k101 = 4 := yq101
  obtain rfl : n101 = 50 := zq101
  obtain ⟨rfl, Nq101, Zn101, Ol101, Xq101, ws101, Kq101, hw101, BB101⟩ := hQ101
  have N101 := Fr.app N96' Nq101
  have KH101 : Keep h0 T101.heap [] := KH96.trans Kq101 (fun x hx => Or.inr (hw101 x hx))
  have N101' : Fr n0 L101 := by rw [lq101]; exact N101
  have ks104 := own_c ks100 st101
  have ks105 : own_R p e below (A0) (T101.setTop (mkF m 220 #[vI p0, vI p1, vR r2, vR r3, vR b1] [(.ref r3), (.ref r2), (.int p1), (.int 19), (.int p0), (.ref b1)])) := fun t k => ks104 t (by
    refine XS.aload X101.here hx rfl (hb hby d8_212) rfl rfl ?_
    refine XS.iloadN X101.here hx rfl (hb hby d8_214) rfl ?_
    refine XS.bipush X101.here hx rfl (hb hby d8_215) ?_
    show Steps p.tables e below (T101.setTop (mkF m 217 #[vI p0, vI p1, vR r2, vR r3, vR b1] [(.int 19), (.int p0), (.ref b1)])) _
    refine XS.iloadN X101.here hx rfl (hb hby d8_217) rfl ?_
    refine XS.aloadN X101.here hx rfl (hb hby d8_218) rfl rfl ?_
    refine XS.aloadN X101.here hx rfl (hb hby d8_219) rfl rfl ?_
    exact k)
  have f107 := E4.keep KH101
  have f108 := E5.keep KH101
  obtain ⟨_, _, ⟨T106, L106, k106, n106⟩, -, X106, ⟨Lc106, hQ106, lq106, yq106, zq106⟩, st106⟩ := Jvm.LawKit.callS X101 hx (y := Y18) hown (mvT hZ (own_w hw 70 rfl)) (mvT hZ (own_w hw 71 rfl)) (mvT hZ (own_w hw 44 rfl)) (mvT hZ (own_w hw 72 rfl)) (by decide) (backOf (W := 0) (rm12_n l Z a0 hw [] b1 p0 (19 : Int32) p1 r2 r3 u ku mo 19 h0.size T101.heap n0 Zn101 Ol101 Sd0 Vu0 Mo BB101 rfl (by decide) hl0 hl1 Z0 KH101.1 f107 f108 (by decide)) hZ (own_w hw 72 rfl) (own_w hw 44 rfl) (by decide) (by decide)) (g := (mkF m 220 #[vI p0, vI p1, vR r2, vR r3, vR b1] [(.ref r3), (.ref r2), (.int p1), (.int 19), (.int p0), (.ref b1)])) rfl (by rw [hml]; rfl) (argsL := [(.ref b1), (.int p0), (.int 19), (.int p1), (.ref r2), (.ref r3)]) (rest := []) (lenOf pd_8 rfl) rfl (by show 2 * 0 + _ ≤ _; exact Nat.le_of_eq rfl) (hb hby d8_220) (fun _ _ => ⟨rfl, rfl, (by decide : 4 + 0 ≤ _), (by decide : 50 + 0 ≤ _)⟩)
  dsimp only [Pt.U, Pt.locs, Pt.cells, Pt.slots] at X106 lq106 yq106 zq106 st106 hQ106
  obtain rfl : k106 = 4 := yq106
  obtain rfl : n106 = 50 := zq106
  obtain ⟨rfl, Nq106, Zn106, Ol106, Xq106, ws106, Kq106, hw106, BB106⟩ := hQ106
  have N106 := Fr.app N101' Nq106
  have KH106 : Keep h0 T106.heap [] := KH101.trans Kq106 (fun x hx => Or.inr (hw106 x hx))
  have N106' : Fr n0 L106 := by rw [lq106]; exact N106
  have ks109 := own_c ks105 st106
  have ks110 : own_R p e below (A0) (T106.setTop (mkF m 231 #[vI p0, vI p1, vR r2, vR r3, vR b1] [(.ref r3), (.ref r2), (.int p1), (.int 20), (.int p0), (.ref b1)])) := fun t k => ks109 t (by
    refine XS.aload X106.here hx rfl (hb hby d8_223) rfl rfl ?_
    refine XS.iloadN X106.here hx rfl (hb hby d8_225) rfl ?_
    refine XS.bipush X106.here hx rfl (hb hby d8_226) ?_
    show Steps p.tables e below (T106.setTop (mkF m 228 #[vI p0, vI p1, vR r2, vR r3, vR b1] [(.int 20), (.int p0), (.ref b1)])) _
    refine XS.iloadN X106.here hx rfl (hb hby d8_228) rfl ?_
    refine XS.aloadN X106.here hx rfl (hb hby d8_229) rfl rfl ?_
    refine XS.aloadN X106.here hx rfl (hb hby d8_230) rfl rfl ?_
    exact k)
  have f112 := E4.keep KH106
  have f113 := E5.keep KH106
  obtain ⟨_, _, ⟨T111, L111, k111, n111⟩, -, X111, ⟨Lc111, hQ111, lq111, yq111, zq111⟩, st111⟩ := Jvm.LawKit.callS X106 hx (y := Y18) hown (mvT hZ (own_w hw 70 rfl)) (mvT hZ (own_w hw 71 rfl)) (mvT hZ (own_w hw 44 rfl)) (mvT hZ (own_w hw 72 rfl)) (by decide) (backOf (W := 0) (rm12_n l Z a0 hw [] b1 p0 (20 : Int32) p1 r2 r3 u ku mo 20 h0.size T106.heap n0 Zn106 Ol106 Sd0 Vu0 Mo BB106 rfl (by decide) hl0 hl1 Z0 KH106.1 f112 f113 (by decide)) hZ (own_w hw 72 rfl) (own_w hw 44 rfl) (by decide) (by decide)) (g := (mkF m 231 #[vI p0, vI p1, vR r2, vR r3, vR b1] [(.ref r3), (.ref r2), (.int p1), (.int 20), (.int p0), (.ref b1)])) rfl (by rw [hml]; rfl) (argsL := [(.ref b1), (.int p0), (.int 20), (.int p1), (.ref r2), (.ref r3)]) (rest := []) (lenOf pd_8 rfl) rfl (by show 2 * 0 + _ ≤ _; exact Nat.le_of_eq rfl) (hb hby d8_231) (fun _ _ => ⟨rfl, rfl, (by decide : 4 + 0 ≤ _), (by decide : 50 + 0 ≤ _)⟩)
  dsimp only [Pt.U, Pt.locs, Pt.cells, Pt.slots] at X111 lq111 yq111 zq111 st111 hQ111
  obtain rfl : k111 = 4 := yq111
  obtain rfl : n111 = 50 := zq111
  obtain ⟨rfl, Nq111, Zn111, Ol111, Xq111, ws111, Kq111, hw111, BB111⟩ := hQ111
  have N111 := Fr.app N106' Nq111
  have KH111 : Keep h0 T111.heap [] := KH106.trans Kq111 (fun x hx => Or.inr (hw111 x hx))
  have N111' : Fr n0 L111 := by rw [lq111]; exact N111
  have ks114 := own_c ks110 st111
  have ks115 : own_R p e below (A0) (T111.setTop (mkF m 242 #[vI p0, vI p1, vR r2, vR r3, vR b1] [(.ref r3), (.ref r2), (.int p1), (.int 21), (.int p0), (.ref b1)])) := fun t k => ks114 t (by
    refine XS.aload X111.here hx rfl (hb hby d8_234) rfl rfl ?_
    refine XS.iloadN X111.here hx rfl (hb hby d8_236) rfl ?_
    refine XS.bipush X111.here hx rfl (hb hby d8_237) ?_
    show Steps p.tables e below (T111.setTop (mkF m 239 #[vI p0, vI p1, vR r2, vR r3, vR b1] [(.int 21), (.int p0), (.ref b1)])) _
    refine XS.iloadN X111.here hx rfl (hb hby d8_239) rfl ?_
    refine XS.aloadN X111.here hx rfl (hb hby d8_240) rfl rfl ?_
    refine XS.aloadN X111.here hx rfl (hb hby d8_241) rfl rfl ?_
    exact k)
  have f117 := E4.keep KH111
  have f118 := E5.keep KH111
  obtain ⟨_, _, ⟨T116, L116, k116, n116⟩, -, X116, ⟨Lc116, hQ116, lq116, yq116, zq116⟩, st116⟩ := Jvm.LawKit.callS X111 hx (y := Y18) hown (mvT hZ (own_w hw 70 rfl)) (mvT hZ (own_w hw 71 rfl)) (mvT hZ (own_w hw 44 rfl)) (mvT hZ (own_w hw 72 rfl)) (by decide) (backOf (W := 0) (rm12_n l Z a0 hw [] b1 p0 (21 : Int32) p1 r2 r3 u ku mo 21 h0.size T111.heap n0 Zn111 Ol111 Sd0 Vu0 Mo BB111 rfl (by decide) hl0 hl1 Z0 KH111.1 f117 f118 (by decide)) hZ (own_w hw 72 rfl) (own_w hw 44 rfl) (by decide) (by decide)) (g := (mkF m 242 #[vI p0, vI p1, vR r2, vR r3, vR b1] [(.ref r3), (.ref r2), (.int p1), (.int 21), (.int p0), (.ref b1)])) rfl (by rw [hml]; rfl) (argsL := [(.ref b1), (.int p0), (.int 21), (.int p1), (.ref r2), (.ref r3)]) (rest := []) (lenOf pd_8 rfl) rfl (by show 2 * 0 + _ ≤ _; exact Nat.le_of_eq rfl) (hb hby d8_242) (fun _ _ => ⟨rfl, rfl, (by decide : 4 + 0 ≤ _), (by decide : 50 + 0 ≤ _)⟩)
  dsimp only [Pt.U, Pt.locs, Pt.cells, Pt.slots] at X116 lq116 yq116 zq116 st116 hQ116
  obtain rfl : k116 = 4 := yq116
  obtain rfl : n116 = 50 := zq116
  obtain ⟨rfl, Nq116, Zn116, Ol116, Xq116, ws116, Kq116, hw116, BB116⟩ := hQ116
  have N116 := Fr.app N111' Nq116
  have KH116 : Keep h0 T116.heap [] := KH111.trans Kq116 (fun x hx => Or.inr (hw116 x hx))
  have N116' : Fr n0 L116 := by rw [lq116]; exact N116
  have ks119 := own_c ks115 st116
  have ks120 : own_R p e below (A0) (T116.setTop (mkF m 247 #[vI p0, vI p1, vR r2, vR r3, vR b1] [(.ref b1)])) := fun t k => ks119 t (by
    refine XS.aload X116.here hx rfl (hb hby d8_245) rfl rfl ?_
    exact k)
  obtain ⟨fs, hr, hrun, hended, hW, hsame⟩ := X116.leave (v := some (.ref b1)) (fun h => by rw [Bd.returns] at h; cases h) hlk
  refine ⟨_, _, kz _ (ks120 _ ?_), hrun, hended, _, _, rfl, ?_, ⟨_, rfl⟩, hW, hsame.mono (by decide) (by decide)⟩
  · exact retOut X116 hx Bd.returns rfl (Or.inr (Or.inr (Or.inr (Or.inr ⟨rfl, rfl, rfl⟩)))) (hb hby d8_247) hr
  · show Q8 Z p0 p1 r2 r3 u ku mo h0 n0 _ T116.heap _
    refine ⟨b1, rfl, N116', KH116, g_b1, sz_b1, Ol116, ?_⟩
    have q := BB116
    rw [Nat.min_eq_right (own_mn (i := 0) rfl (by decide) hl0 hl1).2] at q; exact q
def own_ch (c : Int32) : Prop := ∃ k : Fin 256, c = Int32.ofNat k.val
theorem own_ch_and {c : Int32} (h : own_ch c) : (c.toInt8.toInt32 &&& (255 : Int32)) = c := by
  obtain ⟨k, rfl⟩ := h
  have : ∀ k : Fin 256, ((Int32.ofNat k.val).toInt8.toInt32 &&& (255 : Int32)) = Int32.ofNat k.val := by decide +kernel
  exact this k
theorem own_ch_xor {c : Int32} (h : own_ch c) : (c ^^^ ((c.toUInt32 >>> ((16 : Int32) &&& 31).toUInt32).toInt32)) = c := by
  obtain ⟨k, rfl⟩ := h
  have : ∀ k : Fin 256, ((Int32.ofNat k.val) ^^^ (((Int32.ofNat k.val).toUInt32 >>> ((16 : Int32) &&& 31).toUInt32).toInt32)) = Int32.ofNat k.val := by decide +kernel
  exact this k
theorem own_ch_in {c : Int32} (h : own_ch c) : ¬ ((15 : Int32) &&& c) < 0 ∧ ((15 : Int32) &&& c) < 16 := by
  obtain ⟨k, rfl⟩ := h
  have : ∀ k : Fin 256, ¬ ((15 : Int32) &&& (Int32.ofNat k.val)) < 0 ∧ ((15 : Int32) &&& (Int32.ofNat k.val)) < 16 := by decide +kernel
  exact this k
def own_Hs (Z : State) (h : Heap) (s : Addr) (c : Int32) : Prop := ∃ x z, own_Hh Z h s x ∧ own_Hz Z h s z ∧ ((x = 0 ∧ z = 0) ∨ (x = c ∧ ¬ c = 0 ∧ z = 0) ∨ (x = 0 ∧ c = 0 ∧ z = 1))
theorem d26_0 : dk bc20 0 (.getstatic 38) 3 := by decide +kernel
theorem d26_3 : dk bc20 3 (.ifCond .eq 14) 3 := by decide +kernel
theorem d26_6 : dk bc20 6 (.aload_n 0) 1 := by decide +kernel
theorem d26_7 : dk bc20 7 (.getfield 15) 3 := by decide +kernel
theorem d26_10 : dk bc20 10 (.ifCond .ne 7) 3 := by decide +kernel
theorem d26_13 : dk bc20 13 (.iconst 1) 1 := by decide +kernel
theorem d26_14 : dk bc20 14 (.goto 4) 3 := by decide +kernel
theorem d26_18 : dk bc20 18 (.ireturn) 1 := by decide +kernel
theorem pn_26 : plainName "java/lang/String" = true := by first | (simp [plainName, overriddenIn]; done) | decide +kernel
theorem ef_26 (m : MethodId) (x0 : Addr) : entryFrame m #[(.ref x0)] 1 = mkF m 0 #[.val (.ref x0)] [] := by first | (simp [entryFrame, mkF, argsToLocals, Value.category]; done) | rfl
def Q26 (Z : State) (r0 : Addr) (y9 : Int32) (h0 : Heap) (n0 : Nat) (v : Option Value) (h : Heap) (L : List Loc) : Prop := v = some (.int 1) ∧ Fr n0 L ∧ h = h0
set_option maxRecDepth 65536 in
set_option maxHeartbeats 40000000 in
theorem rm26 (l : Launch) (Z : State) (a0 : Array Value) (hw : ∀ d ∈ tables_1, d.before a0 Z = true) (ws : List Jvm.Cond) (r0 : Addr) (y9 : Int32) (h0 : Heap) (n0 : Nat) (Z0 : n0 ≤ h0.size) (S9 : own_S9 Z h0 y9) (P9 : ¬ y9 = (0 : Int32)) (Cd0 : own_Cd Z h0 r0 0) :
    MetFree l Y20 (head1 (Jvm.Cond.code Y20 jdk_42_method_154_code 1 (some .boolean) :: ws) (⟨0, 0, 0, 0⟩ : Room)) (fun a U => a = #[(.ref r0)] ∧ Z.Warmed39 U.vm ∧ U.heap = h0) (fun _ _ _ _ _ => True) (fun _ U o U' => ∃ v L, o = .returned v ∧ Q26 Z r0 y9 h0 n0 v U'.heap L ∧ FrameEnd U o U' L (⟨0, 0, 0, 0⟩ : Room).cells (⟨0, 0, 0, 0⟩ : Room).slots) := by
  refine MetFree.of_bodySF (plainFor_of_name pn_26) hisR ?_
  intro p e s m args below meth c s₁ Bd hml0 hP hK
  obtain ⟨rfl, hZ, hh⟩ := hP
  have hx := Bd.exec
  have hby := Bd.bytes
  have hml : c.maxLocals = 1 := hml0
  have hown : s.vm.findClass "java/lang/String" = some m.cls := findClass_of_methodNamed Bd.named
  have hnm := (name_of_methodNamed Bd.named Bd.method).1
  have hlk : meth.locks = false := by first | exact BodyLoose.notSynchronized Bd | exact Body.notSynchronized Bd
  have X0 : Stand p l e (⟨0, 0, 0, 0⟩ : Room) s m #[(.ref r0)] below meth c s₁ [] 0 0 := Stand.of_body Bd
  have e0 : s₁.heap = h0 := by rw [← hh, Bd.state]; rfl
  have N0 := Fr.nil n0
  have k0 : own_R p e below (s₁.setTop (entryFrame m #[(.ref r0)] 1)) (s₁.setTop (mkF m 0 #[vR r0] [])) := fun t k => castTop (ef_26 m r0) k
  obtain ⟨A0, hA0⟩ : ∃ z, z = s₁.setTop (entryFrame m #[(.ref r0)] 1) := ⟨_, rfl⟩
  rw [← hA0] at k0
  have kz : ∀ t, Steps p.tables e below A0 t → Steps p.tables e below (s₁.setTop (entryFrame m #[(.ref r0)] 1)) t := fun t q => hA0 ▸ q
  obtain ⟨T1, X1, e1, st1⟩ := getS2 X0 hx hZ hown (host := "") (Or.inl (own_w hw 7 rfl)) Via.refl e0 S9 (g := (mkF m 0 #[vR r0] [])) rfl (hb hby d26_0)
  have ks2 := own_c k0 st1
  have ks3 : own_R p e below (A0) (T1.setTop (mkF m 7 #[vR r0] [(.ref r0)])) := fun t k => ks2 t (by
    refine XS.ifNo X1.here hx rfl (hb hby d26_3) rfl ((if0 _ _).trans (feq P9).1) ?_
    refine XS.aloadN X1.here hx rfl (hb hby d26_6) rfl rfl ?_
    exact k)
  obtain ⟨T4, X4, e4, st4⟩ := getF X1 hx hZ hown (host := "") (Or.inl (own_w hw 27 rfl)) Via.refl e1 Cd0 (g := (mkF m 7 #[vR r0] [(.ref r0)])) rfl rfl (hb hby d26_7)
  have ks5 := own_c ks3 st4
  have ks6 : own_R p e below (A0) (T4.setTop (mkF m 18 #[vR r0] [(.int 1)])) := fun t k => ks5 t (by
    refine XS.ifNo X4.here hx rfl (hb hby d26_10) rfl ((if0 _ _).trans (teq (by decide)).2) ?_
    refine XS.iconst X4.here hx rfl (hb hby d26_13) ?_
    refine XS.goto X4.here hx rfl (pc0 := 14) (pc' := 18) rfl (hb hby d26_14) (by decide) (by decide) ?_
    exact k)
  obtain ⟨fs, hr, hrun, hended, hW, hsame⟩ := X4.leave (v := some (.int 1)) (fun h => by rw [Bd.returns] at h; cases h) hlk
  refine ⟨_, _, kz _ (ks6 _ ?_), hrun, hended, _, _, rfl, ?_, ⟨_, rfl⟩, hW, hsame.mono (by decide) (by decide)⟩
  · exact retN X4 hx (t := .boolean) Bd.returns (by simp) (hb hby d26_18) hr
  · show Q26 Z r0 y9 h0 n0 _ T4.heap _
    rw [e4]
    exact ⟨rfl, N0, rfl⟩
theorem d27_0 : dk bc21 0 (.aload_n 0) 1 := by decide +kernel
theorem d27_1 : dk bc21 1 (.arraylength) 1 := by decide +kernel
theorem d27_2 : dk bc21 2 (.lookupswitch 40 #[(0, 26), (1, 30)]) 26 := by decide +kernel
theorem d27_32 : dk bc21 32 (.aload_n 0) 1 := by decide +kernel
theorem d27_33 : dk bc21 33 (.iconst 0) 1 := by decide +kernel
theorem d27_34 : dk bc21 34 (.baload) 1 := by decide +kernel
theorem d27_35 : dk bc21 35 (.sipush 255) 3 := by decide +kernel
theorem d27_38 : dk bc21 38 (.iand) 1 := by decide +kernel
theorem d27_39 : dk bc21 39 (.goto 12) 3 := by decide +kernel
theorem d27_51 : dk bc21 51 (.ireturn) 1 := by decide +kernel
theorem pn_27 : plainName "java/lang/StringLatin1" = true := by first | (simp [plainName, overriddenIn]; done) | decide +kernel
theorem ef_27 (m : MethodId) (x0 : Addr) : entryFrame m #[(.ref x0)] 1 = mkF m 0 #[.val (.ref x0)] [] := by first | (simp [entryFrame, mkF, argsToLocals, Value.category]; done) | rfl
def Q27 (Z : State) (r0 : Addr) (kr0 : ClassId) (y0 : Int32) (h0 : Heap) (n0 : Nat) (v : Option Value) (h : Heap) (L : List Loc) : Prop := v = some (.int y0) ∧ Fr n0 L ∧ h = h0
set_option maxRecDepth 65536 in
set_option maxHeartbeats 40000000 in
theorem rm27 (l : Launch) (Z : State) (a0 : Array Value) (hw : ∀ d ∈ tables_1, d.before a0 Z = true) (ws : List Jvm.Cond) (r0 : Addr) (kr0 : ClassId) (y0 : Int32) (h0 : Heap) (n0 : Nat) (Z0 : n0 ≤ h0.size) (V0 : Arv Z h0 r0 kr0 .byte 1 [.int (y0.toInt8.toInt32)] (.int 0)) (hc0 : own_ch y0) :
    MetFree l Y21 (head1 (Jvm.Cond.code Y21 jdk_43_method_21_code 1 (some .int) :: ws) (⟨0, 0, 0, 0⟩ : Room)) (fun a U => a = #[(.ref r0)] ∧ Z.Warmed39 U.vm ∧ U.heap = h0) (fun _ _ _ _ _ => True) (fun _ U o U' => ∃ v L, o = .returned v ∧ Q27 Z r0 kr0 y0 h0 n0 v U'.heap L ∧ FrameEnd U o U' L (⟨0, 0, 0, 0⟩ : Room).cells (⟨0, 0, 0, 0⟩ : Room).slots) := by
  refine MetFree.of_bodySF (plainFor_of_name pn_27) hisR ?_
  intro p e s m args below meth c s₁ Bd hml0 hP hK
  obtain ⟨rfl, hZ, hh⟩ := hP
  have hx := Bd.exec
  have hby := Bd.bytes
  have hml : c.maxLocals = 1 := hml0
  have hown : s.vm.findClass "java/lang/StringLatin1" = some m.cls := findClass_of_methodNamed Bd.named
  have hnm := (name_of_methodNamed Bd.named Bd.method).1
  have hlk : meth.locks = false := by first | exact BodyLoose.notSynchronized Bd | exact Body.notSynchronized Bd
  have X0 : Stand p l e (⟨0, 0, 0, 0⟩ : Room) s m #[(.ref r0)] below meth c s₁ [] 0 0 := Stand.of_body Bd
  have e0 : s₁.heap = h0 := by rw [← hh, Bd.state]; rfl
  have N0 := Fr.nil n0
  have k0 : own_R p e below (s₁.setTop (entryFrame m #[(.ref r0)] 1)) (s₁.setTop (mkF m 0 #[vR r0] [])) := fun t k => castTop (ef_27 m r0) k
  obtain ⟨A0, hA0⟩ : ∃ z, z = s₁.setTop (entryFrame m #[(.ref r0)] 1) := ⟨_, rfl⟩
  rw [← hA0] at k0
  have kz : ∀ t, Steps p.tables e below A0 t → Steps p.tables e below (s₁.setTop (entryFrame m #[(.ref r0)] 1)) t := fun t q => hA0 ▸ q
  have ks1 : own_R p e below (A0) (s₁.setTop (mkF m 1 #[vR r0] [(.ref r0)])) := fun t k => k0 t (by
    refine XS.aloadN X0.here hx rfl (hb hby d27_0) rfl rfl ?_
    exact k)
  obtain ⟨cl2, Ar2, qa2, S2, Na2, Ha2, Ga2⟩ := id V0
  have ks3 : own_R p e below (A0) (s₁.setTop (mkF m 2 #[vR r0] [(.int 1)])) := fun t k => ks1 t (by
    refine X0.arraylength hx (by rw [e0]; exact Ar2.1) (State.isArrayOf_alike hZ.alike Ar2.2.1) (g := (mkF m 1 #[vR r0] [(.ref r0)])) rfl rfl (hb hby d27_1) _ ?_
    rw [len_of S2 Na2]
    exact k)
  have ks4 : own_R p e below (A0) (s₁.setTop (mkF m 51 #[vR r0] [(.int ((y0.toInt8.toInt32) &&& (255 : Int32)))])) := fun t k => ks3 t (by
    refine X0.lookupswitchHit hx (g := (mkF m 2 #[vR r0] [(.int 1)])) rfl rfl (hb hby d27_2) (by decide) (a := 1) (off := 30) (by decide) (by show (0 : Int) ≤ ((2 : Nat) : Int) + 30; decide) _ ?_
    refine XS.aloadN X0.here hx rfl (hb hby d27_32) rfl rfl ?_
    refine XS.iconst X0.here hx rfl (hb hby d27_33) ?_
    refine X0.baloadBytes hx (j := (0 : Int32)) (v := (.int (y0.toInt8.toInt32))) (by rw [e0]; exact Ar2.1) (State.isArrayOf_alike hZ.alike Ar2.2.1) Ar2.2.2 (inb_of S2 ⟨by decide, by decide⟩) (Has.at Ha2 (inb_of S2 ⟨by decide, by decide⟩) rfl) (g := (mkF m 34 #[vR r0] [(.int 0), (.ref r0)])) rfl rfl (hb hby d27_34) _ ?_
    refine XS.sipush X0.here hx rfl (hb hby d27_35) ?_
    refine XS.iand X0.here hx rfl (hb hby d27_38) rfl ?_
    refine XS.goto X0.here hx rfl (pc0 := 39) (pc' := 51) rfl (hb hby d27_39) (by decide) (by decide) ?_
    exact k)
  obtain ⟨fs, hr, hrun, hended, hW, hsame⟩ := X0.leave (v := some (.int ((y0.toInt8.toInt32) &&& (255 : Int32)))) (fun h => by rw [Bd.returns] at h; cases h) hlk
  refine ⟨_, _, kz _ (ks4 _ ?_), hrun, hended, _, _, rfl, ?_, ⟨_, rfl⟩, hW, hsame.mono (by decide) (by decide)⟩
  · exact retI X0 hx Bd.returns (hb hby d27_51) hr
  · show Q27 Z r0 kr0 y0 h0 n0 _ s₁.heap _
    rw [e0]
    exact ⟨by rw [own_ch_and hc0], N0, rfl⟩
def own_T (Z : State) (h : Heap) (s t : Addr) (k : ClassId) (c : Int32) : Prop := Exa Z h s "java/lang/String" ∧ own_Cd Z h s 0 ∧ own_Fv Z h s t ∧ Arv Z h t k .byte 1 [.int (c.toInt8.toInt32)] (.int 0) ∧ own_Hs Z h s c ∧ s ≠ t ∧ own_ch c
theorem own_nf {s : State} {args : Array Value} {K : String} {g y : MethodName} (w : (Jvm.Cond.selects K g g).before args s = true) (hy : g.cls = y.cls) : NotFace s y := fun r0 h0 => by
  obtain ⟨c, r, m, -, -, h3, -, mk, h5, h6⟩ := Cond.selects_spec w
  have q := findClass_of_methodNamed h3
  rw [hy] at q
  have e : m.cls = r0.cls := Option.some.inj (q.symm.trans (findClass_of_methodNamed h0))
  exact ⟨mk, e ▸ h5, h6⟩
theorem d25_0 : dk bc22 0 (.aload_n 0) 1 := by decide +kernel
theorem d25_1 : dk bc22 1 (.getfield 19) 3 := by decide +kernel
theorem d25_4 : dk bc22 4 (.istore_n 1) 1 := by decide +kernel
theorem d25_5 : dk bc22 5 (.iload_n 1) 1 := by decide +kernel
theorem d25_6 : dk bc22 6 (.ifCond .ne 52) 3 := by decide +kernel
theorem d25_9 : dk bc22 9 (.aload_n 0) 1 := by decide +kernel
theorem d25_10 : dk bc22 10 (.getfield 23) 3 := by decide +kernel
theorem d25_13 : dk bc22 13 (.ifCond .ne 45) 3 := by decide +kernel
theorem d25_16 : dk bc22 16 (.aload_n 0) 1 := by decide +kernel
theorem d25_17 : dk bc22 17 (.invokevirtual 492) 3 := by decide +kernel
theorem d25_20 : dk bc22 20 (.ifCond .eq 13) 3 := by decide +kernel
theorem d25_23 : dk bc22 23 (.aload_n 0) 1 := by decide +kernel
theorem d25_24 : dk bc22 24 (.getfield 9) 3 := by decide +kernel
theorem d25_27 : dk bc22 27 (.invokestatic 628) 3 := by decide +kernel
theorem d25_30 : dk bc22 30 (.goto 10) 3 := by decide +kernel
theorem d25_40 : dk bc22 40 (.istore_n 1) 1 := by decide +kernel
theorem d25_41 : dk bc22 41 (.iload_n 1) 1 := by decide +kernel
theorem d25_42 : dk bc22 42 (.ifCond .ne 11) 3 := by decide +kernel
theorem d25_45 : dk bc22 45 (.aload_n 0) 1 := by decide +kernel
theorem d25_46 : dk bc22 46 (.iconst 1) 1 := by decide +kernel
theorem d25_47 : dk bc22 47 (.putfield 23) 3 := by decide +kernel
theorem d25_50 : dk bc22 50 (.goto 8) 3 := by decide +kernel
theorem d25_53 : dk bc22 53 (.aload_n 0) 1 := by decide +kernel
theorem d25_54 : dk bc22 54 (.iload_n 1) 1 := by decide +kernel
theorem d25_55 : dk bc22 55 (.putfield 19) 3 := by decide +kernel
theorem d25_58 : dk bc22 58 (.iload_n 1) 1 := by decide +kernel
theorem d25_59 : dk bc22 59 (.ireturn) 1 := by decide +kernel
theorem pn_25 : plainName "java/lang/String" = true := by first | (simp [plainName, overriddenIn]; done) | decide +kernel
theorem pd_16 : parseMethodDescriptor "()Z" = some ⟨[], some .boolean⟩ := by decide +kernel
theorem pd_17 : parseMethodDescriptor "([B)I" = some ⟨[(.array .byte)], some .int⟩ := by decide +kernel
theorem ef_25 (m : MethodId) (x0 : Addr) : entryFrame m #[(.ref x0)] 2 = mkF m 0 #[.val (.ref x0), .unset] [] := by first | (simp [entryFrame, mkF, argsToLocals, Value.category]; done) | rfl
def Q25 (Z : State) (r0 : Addr) (y9 : Int32) (t0 : Addr) (kt0 : ClassId) (y0 : Int32) (h0 : Heap) (n0 : Nat) (v : Option Value) (h : Heap) (L : List Loc) : Prop := v = some (.int y0) ∧ Fr n0 L ∧ Keep h0 h [r0] ∧ own_T Z h r0 t0 kt0 y0
set_option maxRecDepth 65536 in
set_option maxHeartbeats 40000000 in
theorem rm25 (l : Launch) (Z : State) (a0 : Array Value) (hw : ∀ d ∈ tables_1, d.before a0 Z = true) (ws : List Jvm.Cond) (r0 : Addr) (y9 : Int32) (t0 : Addr) (kt0 : ClassId) (y0 : Int32) (h0 : Heap) (n0 : Nat) (Z0 : n0 ≤ h0.size) (S9 : own_S9 Z h0 y9) (P9 : ¬ y9 = (0 : Int32)) (hT : own_T Z h0 r0 t0 kt0 y0) (g_r0 : n0 ≤ r0) :
    MetFree l Y22 (head1 (Jvm.Cond.code Y22 jdk_42_method_78_code 2 (some .int) :: ws) (⟨1, 0, 0, 12⟩ : Room)) (fun a U => a = #[(.ref r0)] ∧ Z.Warmed39 U.vm ∧ U.heap = h0) (fun _ _ _ _ _ => True) (fun _ U o U' => ∃ v L, o = .returned v ∧ Q25 Z r0 y9 t0 kt0 y0 h0 n0 v U'.heap L ∧ FrameEnd U o U' L (⟨1, 0, 0, 12⟩ : Room).cells (⟨1, 0, 0, 12⟩ : Room).slots) := by
  refine MetFree.of_bodySF (plainFor_of_name pn_25) hisR ?_
  intro p e s m args below meth c s₁ Bd hml0 hP hK
  obtain ⟨rfl, hZ, hh⟩ := hP
  have hx := Bd.exec
  have hby := Bd.bytes
  have hml : c.maxLocals = 2 := hml0
  have hown : s.vm.findClass "java/lang/String" = some m.cls := findClass_of_methodNamed Bd.named
  have hnm := (name_of_methodNamed Bd.named Bd.method).1
  have hlk : meth.locks = false := by first | exact BodyLoose.notSynchronized Bd | exact Body.notSynchronized Bd
  have X0 : Stand p l e (⟨1, 0, 0, 12⟩ : Room) s m #[(.ref r0)] below meth c s₁ [] 0 0 := Stand.of_body Bd
  have e0 : s₁.heap = h0 := by rw [← hh, Bd.state]; rfl
  have N0 := Fr.nil n0
  have k0 : own_R p e below (s₁.setTop (entryFrame m #[(.ref r0)] 2)) (s₁.setTop (mkF m 0 #[vR r0, .unset] [])) := fun t k => castTop (ef_25 m r0) k
  obtain ⟨A0, hA0⟩ : ∃ z, z = s₁.setTop (entryFrame m #[(.ref r0)] 2) := ⟨_, rfl⟩
  rw [← hA0] at k0
  have kz : ∀ t, Steps p.tables e below A0 t → Steps p.tables e below (s₁.setTop (entryFrame m #[(.ref r0)] 2)) t := fun t q => hA0 ▸ q
  obtain ⟨E0, Cd0, F0, V0, hs0, nt0, hc0⟩ := id hT
  obtain ⟨x, z, Hh0, Hz0, hd⟩ := hs0
  rcases hd with ⟨rfl, rfl⟩ | ⟨hx0, hcn, rfl⟩ | ⟨rfl, hcz, rfl⟩
  · skip
    have ks1 : own_R p e below (A0) (s₁.setTop (mkF m 1 #[vR r0, .unset] [(.ref r0)])) := fun t k => k0 t (by
      refine XS.aloadN X0.here hx rfl (hb hby d25_0) rfl rfl ?_
      exact k)
    obtain ⟨T2, X2, e2, st2⟩ := getF X0 hx hZ hown (host := "") (Or.inl (own_w hw 156 rfl)) Via.refl e0 Hh0 (g := (mkF m 1 #[vR r0, .unset] [(.ref r0)])) rfl rfl (hb hby d25_1)
    have ks3 := own_c ks1 st2
    have ks4 : own_R p e below (A0) (T2.setTop (mkF m 10 #[vR r0, vI 0] [(.ref r0)])) := fun t k => ks3 t (by
      refine XS.istoreN X2.here hx rfl (hb hby d25_4) rfl (l' := #[vR r0, vI 0]) rfl ?_
      refine XS.iloadN X2.here hx rfl (hb hby d25_5) rfl ?_
      refine XS.ifNo X2.here hx rfl (hb hby d25_6) rfl ((if0 _ _).trans (teq (by decide)).2) ?_
      show Steps p.tables e below (T2.setTop (mkF m 9 #[vR r0, vI 0] [])) _
      refine XS.aloadN X2.here hx rfl (hb hby d25_9) rfl rfl ?_
      exact k)
    obtain ⟨T5, X5, e5, st5⟩ := getF X2 hx hZ hown (host := "") (Or.inl (own_w hw 158 rfl)) Via.refl e2 Hz0 (g := (mkF m 10 #[vR r0, vI 0] [(.ref r0)])) rfl rfl (hb hby d25_10)
    have ks6 := own_c ks4 st5
    have ks7 : own_R p e below (A0) (T5.setTop (mkF m 17 #[vR r0, vI 0] [(.ref r0)])) := fun t k => ks6 t (by
      refine XS.ifNo X5.here hx rfl (hb hby d25_13) rfl ((if0 _ _).trans (teq (by decide)).2) ?_
      refine XS.aloadN X5.here hx rfl (hb hby d25_16) rfl rfl ?_
      exact k)
    obtain ⟨cq8, kq8, q8a, q8b, q8c⟩ := isOf hZ e5 E0
    obtain ⟨_, _, ⟨T8, L8, k8, n8⟩, -, X8, ⟨Lc8, hQ8, lq8, yq8, zq8⟩, st8⟩ := X5.virtualBack hx (y := Y20) (z := Y20) hown (mvT hZ (own_w hw 160 rfl)) (mvT hZ (own_w hw 161 rfl)) (notFace_of_selects (args := #[]) (mvT hZ (own_w hw 163 rfl))) (mvT hZ (own_w hw 163 rfl)) (mvT hZ (own_w hw 162 rfl)) (by decide) (backOf (W := 0) (rm26 l Z a0 hw [] r0 y9 h0 n0 Z0 S9 P9 Cd0) hZ (own_w hw 164 rfl) (own_w hw 5 rfl) (by decide) (by decide)) q8a q8c (g := (mkF m 17 #[vR r0, vI 0] [(.ref r0)])) rfl (by rw [hml]; rfl) (Steps.refl _) (argsL := []) (rest := []) (lenOf pd_16 rfl) rfl (by show 2 * 0 + _ ≤ _; exact Nat.le_of_eq rfl) (hb hby d25_17) (fun _ _ => ⟨rfl, e5, (by decide : 0 + 0 ≤ _), (by decide : 0 + 0 ≤ _)⟩)
    dsimp only [Pt.U, Pt.locs, Pt.cells, Pt.slots] at X8 lq8 yq8 zq8 st8 hQ8
    obtain rfl : k8 = 0 := yq8
    obtain rfl : n8 = 0 := zq8
    obtain ⟨rfl, Nq8, eq8⟩ := hQ8
    have N8 := Fr.app N0 Nq8
    have N8' : Fr n0 L8 := by rw [lq8]; exact N8
    have ks9 := own_ct ks7 st8
    have ks10 : own_R p e below (A0) (T8.setTop (mkF m 24 #[vR r0, vI 0] [(.ref r0)])) := fun t k => ks9 t (by
      refine XS.ifNo X8.here hx rfl (hb hby d25_20) rfl ((if0 _ _).trans (feq (by decide)).1) ?_
      refine XS.aloadN X8.here hx rfl (hb hby d25_23) rfl rfl ?_
      exact k)
    obtain ⟨T11, X11, e11, st11⟩ := getF X8 hx hZ hown (host := "") (Or.inl (own_w hw 25 rfl)) Via.refl eq8 F0 (g := (mkF m 24 #[vR r0, vI 0] [(.ref r0)])) rfl rfl (hb hby d25_24)
    have ks12 := own_c ks10 st11
    obtain ⟨_, _, ⟨T13, L13, k13, n13⟩, -, X13, ⟨Lc13, hQ13, lq13, yq13, zq13⟩, st13⟩ := Jvm.LawKit.callS X11 hx (y := Y21) hown (mvT hZ (own_w hw 165 rfl)) (mvT hZ (own_w hw 166 rfl)) (mvT hZ (own_w hw 10 rfl)) (mvT hZ (own_w hw 167 rfl)) (by decide) (backOf (W := 0) (rm27 l Z a0 hw [] t0 _ y0 h0 n0 Z0 V0 hc0) hZ (own_w hw 167 rfl) (own_w hw 10 rfl) (by decide) (by decide)) (g := (mkF m 27 #[vR r0, vI 0] [(.ref t0)])) rfl (by rw [hml]; rfl) (argsL := [(.ref t0)]) (rest := []) (lenOf pd_17 rfl) rfl (by show 2 * 0 + _ ≤ _; exact Nat.le_of_eq rfl) (hb hby d25_27) (fun _ _ => ⟨rfl, e11, (by decide : 0 + 0 ≤ _), (by decide : 0 + 0 ≤ _)⟩)
    dsimp only [Pt.U, Pt.locs, Pt.cells, Pt.slots] at X13 lq13 yq13 zq13 st13 hQ13
    obtain rfl : k13 = 0 := yq13
    obtain rfl : n13 = 0 := zq13
    obtain ⟨rfl, Nq13, eq13⟩ := hQ13
    have N13 := Fr.app N8' Nq13
    have N13' : Fr n0 L13 := by rw [lq13]; exact N13
    have ks14 := own_c ks12 st13
    have ks15 : own_R p e below (A0) (T13.setTop (mkF m 42 #[vR r0, vI y0] [(.int y0)])) := fun t k => ks14 t (by
      refine XS.goto X13.here hx rfl (pc0 := 30) (pc' := 40) rfl (hb hby d25_30) (by decide) (by decide) ?_
      refine XS.istoreN X13.here hx rfl (hb hby d25_40) rfl (l' := #[vR r0, vI y0]) rfl ?_
      refine XS.iloadN X13.here hx rfl (hb hby d25_41) rfl ?_
      exact k)
    by_cases hc16 : y0 = (0 : Int32)
    · skip
      have ks17 : own_R p e below (A0) (T13.setTop (mkF m 47 #[vR r0, vI y0] [(.int 1), (.ref r0)])) := fun t k => ks15 t (by
        refine XS.ifNo X13.here hx rfl (hb hby d25_42) rfl ((if0 _ _).trans (teq hc16).2) ?_
        refine XS.aloadN X13.here hx rfl (hb hby d25_45) rfl rfl ?_
        refine XS.iconst X13.here hx rfl (hb hby d25_46) ?_
        exact k)
      obtain ⟨T18, h18, X18, e18, W18, st18⟩ := putFN X13 hx hZ hown (own_w hw 158 rfl) Via.refl eq13 Hz0 E0 (Or.inl (own_w hw 159 rfl)) (own_w hw 13 rfl) (ty := .boolean) (v' := (.int 1)) (by decide) rfl (by decide) (g := (mkF m 47 #[vR r0, vI y0] [(.int 1), (.ref r0)])) rfl rfl (hb hby d25_47)
      have Fw18 := Hz0.same W18
      have KH18 : Keep h0 h18 [r0] := (Keep.refl h0 [r0]).wr W18 (Or.inl (List.mem_of_getElem? (i := 0) rfl))
      have Zn18 : n0 ≤ h18.size := Nat.le_trans Z0 (Keep.of_wr W18).1
      have N18 := Fr.snoc X18 N13' g_r0
      have ks19 := own_c ks17 st18
      have ks20 : own_R p e below (A0) (T18.setTop (mkF m 59 #[vR r0, vI y0] [(.int y0)])) := fun t k => ks19 t (by
        refine XS.goto X18.here hx rfl (pc0 := 50) (pc' := 58) rfl (hb hby d25_50) (by decide) (by decide) ?_
        refine XS.iloadN X18.here hx rfl (hb hby d25_58) rfl ?_
        exact k)
      obtain ⟨fs, hr, hrun, hended, hW, hsame⟩ := X18.leave (v := some (.int y0)) (fun h => by rw [Bd.returns] at h; cases h) hlk
      refine ⟨_, _, kz _ (ks20 _ ?_), hrun, hended, _, _, rfl, ?_, ⟨_, rfl⟩, hW, hsame.mono (by decide) (by decide)⟩
      · exact retI X18 hx Bd.returns (hb hby d25_59) hr
      · show Q25 Z r0 y9 t0 kt0 y0 h0 n0 _ T18.heap _
        rw [e18]
        have f21 := E0.keep KH18
        have f22 := (Cd0.other W18 (Or.inr (slot_ne (Or.inr (own_w hw 28 rfl)) (Or.inl (own_w hw 159 rfl)) (by decide) (t := .byte) (t' := .boolean) (by decide) (by decide))))
        have f23 := (F0.other W18 (Or.inr (slot_ne (Or.inr (own_w hw 26 rfl)) (Or.inl (own_w hw 159 rfl)) (by decide) (t := (.array .byte)) (t' := .boolean) (by decide) (by decide))))
        have f24 := V0.keep KH18 (ninS (Ne.symm nt0) nin0)
        have f25 := (Hh0.other W18 (Or.inr (slot_ne (Or.inl (own_w hw 157 rfl)) (Or.inl (own_w hw 159 rfl)) (by decide) (t := .int) (t' := .boolean) (by decide) (by decide))))
        exact ⟨rfl, N18, KH18, f21, f22, f23, f24, ⟨_, _, f25, Fw18, Or.inr (Or.inr ⟨rfl, hc16, rfl⟩)⟩, nt0, hc0⟩
    · skip
      have ks26 : own_R p e below (A0) (T13.setTop (mkF m 55 #[vR r0, vI y0] [(.int y0), (.ref r0)])) := fun t k => ks15 t (by
        refine XS.ifYes X13.here hx rfl (pc0 := 42) (pc' := 53) rfl (hb hby d25_42) rfl ((if0 _ _).trans (feq hc16).2) (by decide) (by decide) ?_
        refine XS.aloadN X13.here hx rfl (hb hby d25_53) rfl rfl ?_
        refine XS.iloadN X13.here hx rfl (hb hby d25_54) rfl ?_
        exact k)
      obtain ⟨T27, h27, X27, e27, W27, st27⟩ := putF X13 hx hZ hown (host := "") (Or.inl (own_w hw 156 rfl)) Via.refl eq13 Hh0 E0 (Or.inl (own_w hw 157 rfl)) (own_w hw 13 rfl) (ty := .int) (by decide) rfl rfl (g := (mkF m 55 #[vR r0, vI y0] [(.int y0), (.ref r0)])) rfl rfl (hb hby d25_55)
      have Fw27 := Hh0.same W27
      have KH27 : Keep h0 h27 [r0] := (Keep.refl h0 [r0]).wr W27 (Or.inl (List.mem_of_getElem? (i := 0) rfl))
      have Zn27 : n0 ≤ h27.size := Nat.le_trans Z0 (Keep.of_wr W27).1
      have N27 := Fr.snoc X27 N13' g_r0
      have ks28 := own_c ks26 st27
      have ks29 : own_R p e below (A0) (T27.setTop (mkF m 59 #[vR r0, vI y0] [(.int y0)])) := fun t k => ks28 t (by
        refine XS.iloadN X27.here hx rfl (hb hby d25_58) rfl ?_
        exact k)
      obtain ⟨fs, hr, hrun, hended, hW, hsame⟩ := X27.leave (v := some (.int y0)) (fun h => by rw [Bd.returns] at h; cases h) hlk
      refine ⟨_, _, kz _ (ks29 _ ?_), hrun, hended, _, _, rfl, ?_, ⟨_, rfl⟩, hW, hsame.mono (by decide) (by decide)⟩
      · exact retI X27 hx Bd.returns (hb hby d25_59) hr
      · show Q25 Z r0 y9 t0 kt0 y0 h0 n0 _ T27.heap _
        rw [e27]
        have f30 := E0.keep KH27
        have f31 := (Cd0.other W27 (Or.inr (slot_ne (Or.inr (own_w hw 28 rfl)) (Or.inl (own_w hw 157 rfl)) (by decide) (t := .byte) (t' := .int) (by decide) (by decide))))
        have f32 := (F0.other W27 (Or.inr (slot_ne (Or.inr (own_w hw 26 rfl)) (Or.inl (own_w hw 157 rfl)) (by decide) (t := (.array .byte)) (t' := .int) (by decide) (by decide))))
        have f33 := V0.keep KH27 (ninS (Ne.symm nt0) nin0)
        have f34 := (Hz0.other W27 (Or.inr (slot_ne (Or.inl (own_w hw 159 rfl)) (Or.inl (own_w hw 157 rfl)) (by decide) (t := .boolean) (t' := .int) (by decide) (by decide))))
        exact ⟨rfl, N27, KH27, f30, f31, f32, f33, ⟨_, _, Fw27, f34, Or.inr (Or.inl ⟨rfl, hc16, rfl⟩)⟩, nt0, hc0⟩
  · skip
    rw [hx0] at Hh0
    have ks35 : own_R p e below (A0) (s₁.setTop (mkF m 1 #[vR r0, .unset] [(.ref r0)])) := fun t k => k0 t (by
      refine XS.aloadN X0.here hx rfl (hb hby d25_0) rfl rfl ?_
      exact k)
    obtain ⟨T36, X36, e36, st36⟩ := getF X0 hx hZ hown (host := "") (Or.inl (own_w hw 156 rfl)) Via.refl e0 Hh0 (g := (mkF m 1 #[vR r0, .unset] [(.ref r0)])) rfl rfl (hb hby d25_1)
    have ks37 := own_c ks35 st36
    have ks38 : own_R p e below (A0) (T36.setTop (mkF m 59 #[vR r0, vI y0] [(.int y0)])) := fun t k => ks37 t (by
      refine XS.istoreN X36.here hx rfl (hb hby d25_4) rfl (l' := #[vR r0, vI y0]) rfl ?_
      refine XS.iloadN X36.here hx rfl (hb hby d25_5) rfl ?_
      refine XS.ifYes X36.here hx rfl (pc0 := 6) (pc' := 58) rfl (hb hby d25_6) rfl ((if0 _ _).trans (feq hcn).2) (by decide) (by decide) ?_
      show Steps p.tables e below (T36.setTop (mkF m 58 #[vR r0, vI y0] [])) _
      refine XS.iloadN X36.here hx rfl (hb hby d25_58) rfl ?_
      exact k)
    obtain ⟨fs, hr, hrun, hended, hW, hsame⟩ := X36.leave (v := some (.int y0)) (fun h => by rw [Bd.returns] at h; cases h) hlk
    refine ⟨_, _, kz _ (ks38 _ ?_), hrun, hended, _, _, rfl, ?_, ⟨_, rfl⟩, hW, hsame.mono (by decide) (by decide)⟩
    · exact retI X36 hx Bd.returns (hb hby d25_59) hr
    · show Q25 Z r0 y9 t0 kt0 y0 h0 n0 _ T36.heap _
      rw [e36]
      exact ⟨rfl, N0, (Keep.refl h0 [r0]), E0, Cd0, F0, V0, ⟨_, _, Hh0, Hz0, Or.inr (Or.inl ⟨rfl, hcn, rfl⟩)⟩, nt0, hc0⟩
  · skip
    have ks39 : own_R p e below (A0) (s₁.setTop (mkF m 1 #[vR r0, .unset] [(.ref r0)])) := fun t k => k0 t (by
      refine XS.aloadN X0.here hx rfl (hb hby d25_0) rfl rfl ?_
      exact k)
    obtain ⟨T40, X40, e40, st40⟩ := getF X0 hx hZ hown (host := "") (Or.inl (own_w hw 156 rfl)) Via.refl e0 Hh0 (g := (mkF m 1 #[vR r0, .unset] [(.ref r0)])) rfl rfl (hb hby d25_1)
    have ks41 := own_c ks39 st40
    have ks42 : own_R p e below (A0) (T40.setTop (mkF m 10 #[vR r0, vI 0] [(.ref r0)])) := fun t k => ks41 t (by
      refine XS.istoreN X40.here hx rfl (hb hby d25_4) rfl (l' := #[vR r0, vI 0]) rfl ?_
      refine XS.iloadN X40.here hx rfl (hb hby d25_5) rfl ?_
      refine XS.ifNo X40.here hx rfl (hb hby d25_6) rfl ((if0 _ _).trans (teq (by decide)).2) ?_
      show Steps p.tables e below (T40.setTop (mkF m 9 #[vR r0, vI 0] [])) _
      refine XS.aloadN X40.here hx rfl (hb hby d25_9) rfl rfl ?_
      exact k)
    obtain ⟨T43, X43, e43, st43⟩ := getF X40 hx hZ hown (host := "") (Or.inl (own_w hw 158 rfl)) Via.refl e40 Hz0 (g := (mkF m 10 #[vR r0, vI 0] [(.ref r0)])) rfl rfl (hb hby d25_10)
    have ks44 := own_c ks42 st43
    have ks45 : own_R p e below (A0) (T43.setTop (mkF m 59 #[vR r0, vI 0] [(.int 0)])) := fun t k => ks44 t (by
      refine XS.ifYes X43.here hx rfl (pc0 := 13) (pc' := 58) rfl (hb hby d25_13) rfl ((if0 _ _).trans (feq (by decide)).2) (by decide) (by decide) ?_
      refine XS.iloadN X43.here hx rfl (hb hby d25_58) rfl ?_
      exact k)
    obtain ⟨fs, hr, hrun, hended, hW, hsame⟩ := X43.leave (v := some (.int 0)) (fun h => by rw [Bd.returns] at h; cases h) hlk
    refine ⟨_, _, kz _ (ks45 _ ?_), hrun, hended, _, _, rfl, ?_, ⟨_, rfl⟩, hW, hsame.mono (by decide) (by decide)⟩
    · exact retI X43 hx Bd.returns (hb hby d25_59) hr
    · show Q25 Z r0 y9 t0 kt0 y0 h0 n0 _ T43.heap _
      rw [e43]
      exact ⟨by rw [hcz], N0, (Keep.refl h0 [r0]), E0, Cd0, F0, V0, ⟨_, _, Hh0, Hz0, Or.inr (Or.inr ⟨rfl, hcz, rfl⟩)⟩, nt0, hc0⟩
theorem d24_0 : dk bc23 0 (.aload_n 0) 1 := by decide +kernel
theorem d24_1 : dk bc23 1 (.ifnonnull 7) 3 := by decide +kernel
theorem d24_8 : dk bc23 8 (.aload_n 0) 1 := by decide +kernel
theorem d24_9 : dk bc23 9 (.invokevirtual 1) 3 := by decide +kernel
theorem d24_12 : dk bc23 12 (.dup) 1 := by decide +kernel
theorem d24_13 : dk bc23 13 (.istore_n 1) 1 := by decide +kernel
theorem d24_14 : dk bc23 14 (.iload_n 1) 1 := by decide +kernel
theorem d24_15 : dk bc23 15 (.bipush 16) 2 := by decide +kernel
theorem d24_17 : dk bc23 17 (.iushr) 1 := by decide +kernel
theorem d24_18 : dk bc23 18 (.ixor) 1 := by decide +kernel
theorem d24_19 : dk bc23 19 (.ireturn) 1 := by decide +kernel
theorem pn_24 : plainName "java/util/HashMap" = true := by first | (simp [plainName, overriddenIn]; done) | decide +kernel
theorem pd_15 : parseMethodDescriptor "()I" = some ⟨[], some .int⟩ := by decide +kernel
theorem ef_24 (m : MethodId) (x0 : Addr) : entryFrame m #[(.ref x0)] 2 = mkF m 0 #[.val (.ref x0), .unset] [] := by first | (simp [entryFrame, mkF, argsToLocals, Value.category]; done) | rfl
def Q24 (Z : State) (r0 : Addr) (y9 : Int32) (t0 : Addr) (kt0 : ClassId) (y0 : Int32) (h0 : Heap) (n0 : Nat) (v : Option Value) (h : Heap) (L : List Loc) : Prop := v = some (.int y0) ∧ Fr n0 L ∧ Keep h0 h [r0] ∧ own_T Z h r0 t0 kt0 y0
set_option maxRecDepth 65536 in
set_option maxHeartbeats 40000000 in
theorem rm24 (l : Launch) (Z : State) (a0 : Array Value) (hw : ∀ d ∈ tables_1, d.before a0 Z = true) (ws : List Jvm.Cond) (r0 : Addr) (y9 : Int32) (t0 : Addr) (kt0 : ClassId) (y0 : Int32) (h0 : Heap) (n0 : Nat) (Z0 : n0 ≤ h0.size) (S9 : own_S9 Z h0 y9) (P9 : ¬ y9 = (0 : Int32)) (hT : own_T Z h0 r0 t0 kt0 y0) (g_r0 : n0 ≤ r0) :
    MetFree l Y23 (head1 (Jvm.Cond.code Y23 jdk_69_method_1_code 2 (some .int) :: ws) (⟨2, 0, 0, 25⟩ : Room)) (fun a U => a = #[(.ref r0)] ∧ Z.Warmed39 U.vm ∧ U.heap = h0) (fun _ _ _ _ _ => True) (fun _ U o U' => ∃ v L, o = .returned v ∧ Q24 Z r0 y9 t0 kt0 y0 h0 n0 v U'.heap L ∧ FrameEnd U o U' L (⟨2, 0, 0, 25⟩ : Room).cells (⟨2, 0, 0, 25⟩ : Room).slots) := by
  refine MetFree.of_bodySF (plainFor_of_name pn_24) hisR ?_
  intro p e s m args below meth c s₁ Bd hml0 hP hK
  obtain ⟨rfl, hZ, hh⟩ := hP
  have hx := Bd.exec
  have hby := Bd.bytes
  have hml : c.maxLocals = 2 := hml0
  have hown : s.vm.findClass "java/util/HashMap" = some m.cls := findClass_of_methodNamed Bd.named
  have hnm := (name_of_methodNamed Bd.named Bd.method).1
  have hlk : meth.locks = false := by first | exact BodyLoose.notSynchronized Bd | exact Body.notSynchronized Bd
  have X0 : Stand p l e (⟨2, 0, 0, 25⟩ : Room) s m #[(.ref r0)] below meth c s₁ [] 0 0 := Stand.of_body Bd
  have e0 : s₁.heap = h0 := by rw [← hh, Bd.state]; rfl
  have N0 := Fr.nil n0
  have k0 : own_R p e below (s₁.setTop (entryFrame m #[(.ref r0)] 2)) (s₁.setTop (mkF m 0 #[vR r0, .unset] [])) := fun t k => castTop (ef_24 m r0) k
  obtain ⟨A0, hA0⟩ : ∃ z, z = s₁.setTop (entryFrame m #[(.ref r0)] 2) := ⟨_, rfl⟩
  rw [← hA0] at k0
  have kz : ∀ t, Steps p.tables e below A0 t → Steps p.tables e below (s₁.setTop (entryFrame m #[(.ref r0)] 2)) t := fun t q => hA0 ▸ q
  obtain ⟨E0, Cd0, F0, V0, hs0, nt0, hc0⟩ := id hT
  have ks1 : own_R p e below (A0) (s₁.setTop (mkF m 9 #[vR r0, .unset] [(.ref r0)])) := fun t k => k0 t (by
    refine XS.aloadN X0.here hx rfl (hb hby d24_0) rfl rfl ?_
    refine XS.ifnonnullYes X0.here hx rfl (pc0 := 1) (pc' := 8) rfl (hb hby d24_1) rfl (by decide) (by decide) ?_
    refine XS.aloadN X0.here hx rfl (hb hby d24_8) rfl rfl ?_
    exact k)
  obtain ⟨cq2, kq2, q2a, q2b, q2c⟩ := isOf hZ e0 E0
  obtain ⟨_, _, ⟨T2, L2, k2, n2⟩, -, X2, ⟨Lc2, hQ2, lq2, yq2, zq2⟩, st2⟩ := X0.virtualBack hx (y := (⟨"java/lang/Object", "hashCode", "()I"⟩ : MethodName)) (z := Y22) hown (mvT hZ (own_w hw 150 rfl)) (mvT hZ (own_w hw 151 rfl)) (own_nf (args := #[]) (mvT hZ (own_w hw 322 rfl)) rfl) (mvT hZ (own_w hw 153 rfl)) (mvT hZ (own_w hw 154 rfl)) (by decide) (backOf (W := 0) (rm25 l Z a0 hw [] r0 y9 t0 kt0 y0 h0 n0 Z0 S9 P9 hT g_r0) hZ (own_w hw 155 rfl) (own_w hw 5 rfl) (by decide) (by decide)) q2a q2c (g := (mkF m 9 #[vR r0, .unset] [(.ref r0)])) rfl (by rw [hml]; rfl) (Steps.refl _) (argsL := []) (rest := []) (lenOf pd_15 rfl) rfl (by show 2 * 0 + _ ≤ _; exact Nat.le_of_eq rfl) (hb hby d24_9) (fun _ _ => ⟨rfl, e0, (by decide : 0 + 0 ≤ _), (by decide : 0 + 0 ≤ _)⟩)
  dsimp only [Pt.U, Pt.locs, Pt.cells, Pt.slots] at X2 lq2 yq2 zq2 st2 hQ2
  obtain rfl : k2 = 0 := yq2
  obtain rfl : n2 = 0 := zq2
  obtain ⟨rfl, Nq2, Kq2, Tq2⟩ := hQ2
  have N2 := Fr.app N0 Nq2
  have KH2 : Keep h0 T2.heap [r0] := (Keep.refl h0 [r0]).trans Kq2 (allS (Or.inl (List.mem_of_getElem? (i := 0) rfl)) all0)
  have Zn2 : n0 ≤ T2.heap.size := Nat.le_trans Z0 Kq2.1
  obtain ⟨Eo2, Co2, Fo2, Vo2, -, -, -⟩ := id Tq2
  have N2' : Fr n0 L2 := by rw [lq2]; exact N2
  have ks3 := own_ct ks1 st2
  have ks4 : own_R p e below (A0) (T2.setTop (mkF m 19 #[vR r0, vI y0] [(.int (y0 ^^^ ((y0.toUInt32 >>> ((16 : Int32) &&& 31).toUInt32).toInt32)))])) := fun t k => ks3 t (by
    refine XS.dup X2.here hx rfl (hb hby d24_12) rfl rfl ?_
    refine XS.istoreN X2.here hx rfl (hb hby d24_13) rfl (l' := #[vR r0, vI y0]) rfl ?_
    refine XS.iloadN X2.here hx rfl (hb hby d24_14) rfl ?_
    show Steps p.tables e below (T2.setTop (mkF m 15 #[vR r0, vI y0] [(.int y0), (.int y0)])) _
    refine XS.bipush X2.here hx rfl (hb hby d24_15) ?_
    refine XS.iushr X2.here hx rfl (hb hby d24_17) rfl ?_
    refine XS.ixor X2.here hx rfl (hb hby d24_18) rfl ?_
    exact k)
  obtain ⟨fs, hr, hrun, hended, hW, hsame⟩ := X2.leave (v := some (.int (y0 ^^^ ((y0.toUInt32 >>> ((16 : Int32) &&& 31).toUInt32).toInt32)))) (fun h => by rw [Bd.returns] at h; cases h) hlk
  refine ⟨_, _, kz _ (ks4 _ ?_), hrun, hended, _, _, rfl, ?_, ⟨_, rfl⟩, hW, hsame.mono (by decide) (by decide)⟩
  · exact retI X2 hx Bd.returns (hb hby d24_19) hr
  · show Q24 Z r0 y9 t0 kt0 y0 h0 n0 _ T2.heap _
    exact ⟨by rw [own_ch_xor hc0], N2', KH2, Tq2⟩
theorem d48_0 : dk bc24 0 (.aload_n 0) 1 := by decide +kernel
theorem d48_1 : dk bc24 1 (.arraylength) 1 := by decide +kernel
theorem d48_2 : dk bc24 2 (.aload_n 1) 1 := by decide +kernel
theorem d48_3 : dk bc24 3 (.arraylength) 1 := by decide +kernel
theorem d48_4 : dk bc24 4 (.if_icmp .ne 30) 3 := by decide +kernel
theorem d48_7 : dk bc24 7 (.iconst 0) 1 := by decide +kernel
theorem d48_8 : dk bc24 8 (.istore_n 2) 1 := by decide +kernel
theorem d48_9 : dk bc24 9 (.iload_n 2) 1 := by decide +kernel
theorem d48_10 : dk bc24 10 (.aload_n 0) 1 := by decide +kernel
theorem d48_11 : dk bc24 11 (.arraylength) 1 := by decide +kernel
theorem d48_12 : dk bc24 12 (.if_icmp .ge 20) 3 := by decide +kernel
theorem d48_15 : dk bc24 15 (.aload_n 0) 1 := by decide +kernel
theorem d48_16 : dk bc24 16 (.iload_n 2) 1 := by decide +kernel
theorem d48_17 : dk bc24 17 (.baload) 1 := by decide +kernel
theorem d48_18 : dk bc24 18 (.aload_n 1) 1 := by decide +kernel
theorem d48_19 : dk bc24 19 (.iload_n 2) 1 := by decide +kernel
theorem d48_20 : dk bc24 20 (.baload) 1 := by decide +kernel
theorem d48_21 : dk bc24 21 (.if_icmp .eq 5) 3 := by decide +kernel
theorem d48_26 : dk bc24 26 (.iinc 2 1) 3 := by decide +kernel
theorem d48_29 : dk bc24 29 (.goto (-20)) 3 := by decide +kernel
theorem d48_32 : dk bc24 32 (.iconst 1) 1 := by decide +kernel
theorem d48_33 : dk bc24 33 (.ireturn) 1 := by decide +kernel
theorem pn_48 : plainName "java/lang/StringLatin1" = true := by first | (simp [plainName, overriddenIn]; done) | decide +kernel
theorem ef_48 (m : MethodId) (x0 : Addr) (x1 : Addr) : entryFrame m #[(.ref x0), (.ref x1)] 3 = mkF m 0 #[.val (.ref x0), .val (.ref x1), .unset] [] := by first | (simp [entryFrame, mkF, argsToLocals, Value.category]; done) | rfl
def Q48 (Z : State) (r0 : Addr) (r1 : Addr) (kr0 : ClassId) (kr1 : ClassId) (y0 : Int32) (h0 : Heap) (n0 : Nat) (v : Option Value) (h : Heap) (L : List Loc) : Prop := v = some (.int 1) ∧ Fr n0 L ∧ h = h0
set_option maxRecDepth 65536 in
set_option maxHeartbeats 40000000 in
theorem rm48 (l : Launch) (Z : State) (a0 : Array Value) (hw : ∀ d ∈ tables_1, d.before a0 Z = true) (ws : List Jvm.Cond) (r0 : Addr) (r1 : Addr) (kr0 : ClassId) (kr1 : ClassId) (y0 : Int32) (h0 : Heap) (n0 : Nat) (Z0 : n0 ≤ h0.size) (V0 : Arv Z h0 r0 kr0 .byte 1 [.int (y0.toInt8.toInt32)] (.int 0)) (V1 : Arv Z h0 r1 kr1 .byte 1 [.int (y0.toInt8.toInt32)] (.int 0)) :
    MetFree l Y24 (head1 (Jvm.Cond.code Y24 jdk_43_method_13_code 3 (some .boolean) :: ws) (⟨0, 0, 0, 0⟩ : Room)) (fun a U => a = #[(.ref r0), (.ref r1)] ∧ Z.Warmed39 U.vm ∧ U.heap = h0) (fun _ _ _ _ _ => True) (fun _ U o U' => ∃ v L, o = .returned v ∧ Q48 Z r0 r1 kr0 kr1 y0 h0 n0 v U'.heap L ∧ FrameEnd U o U' L (⟨0, 0, 0, 0⟩ : Room).cells (⟨0, 0, 0, 0⟩ : Room).slots) := by
  refine MetFree.of_bodySF (plainFor_of_name pn_48) hisR ?_
  intro p e s m args below meth c s₁ Bd hml0 hP hK
  obtain ⟨rfl, hZ, hh⟩ := hP
  have hx := Bd.exec
  have hby := Bd.bytes
  have hml : c.maxLocals = 3 := hml0
  have hown : s.vm.findClass "java/lang/StringLatin1" = some m.cls := findClass_of_methodNamed Bd.named
  have hnm := (name_of_methodNamed Bd.named Bd.method).1
  have hlk : meth.locks = false := by first | exact BodyLoose.notSynchronized Bd | exact Body.notSynchronized Bd
  have X0 : Stand p l e (⟨0, 0, 0, 0⟩ : Room) s m #[(.ref r0), (.ref r1)] below meth c s₁ [] 0 0 := Stand.of_body Bd
  have e0 : s₁.heap = h0 := by rw [← hh, Bd.state]; rfl
  have N0 := Fr.nil n0
  have k0 : own_R p e below (s₁.setTop (entryFrame m #[(.ref r0), (.ref r1)] 3)) (s₁.setTop (mkF m 0 #[vR r0, vR r1, .unset] [])) := fun t k => castTop (ef_48 m r0 r1) k
  obtain ⟨A0, hA0⟩ : ∃ z, z = s₁.setTop (entryFrame m #[(.ref r0), (.ref r1)] 3) := ⟨_, rfl⟩
  rw [← hA0] at k0
  have kz : ∀ t, Steps p.tables e below A0 t → Steps p.tables e below (s₁.setTop (entryFrame m #[(.ref r0), (.ref r1)] 3)) t := fun t q => hA0 ▸ q
  have ks1 : own_R p e below (A0) (s₁.setTop (mkF m 1 #[vR r0, vR r1, .unset] [(.ref r0)])) := fun t k => k0 t (by
    refine XS.aloadN X0.here hx rfl (hb hby d48_0) rfl rfl ?_
    exact k)
  obtain ⟨cl2, Ar2, qa2, S2, Na2, Ha2, Ga2⟩ := id V0
  have ks3 : own_R p e below (A0) (s₁.setTop (mkF m 3 #[vR r0, vR r1, .unset] [(.ref r1), (.int 1)])) := fun t k => ks1 t (by
    refine X0.arraylength hx (by rw [e0]; exact Ar2.1) (State.isArrayOf_alike hZ.alike Ar2.2.1) (g := (mkF m 1 #[vR r0, vR r1, .unset] [(.ref r0)])) rfl rfl (hb hby d48_1) _ ?_
    rw [len_of S2 Na2]
    refine XS.aloadN X0.here hx rfl (hb hby d48_2) rfl rfl ?_
    exact k)
  obtain ⟨cl4, Ar4, qa4, S4, Na4, Ha4, Ga4⟩ := id V1
  have ks5 : own_R p e below (A0) (s₁.setTop (mkF m 33 #[vR r0, vR r1, vI 1] [(.int 1)])) := fun t k => ks3 t (by
    refine X0.arraylength hx (by rw [e0]; exact Ar4.1) (State.isArrayOf_alike hZ.alike Ar4.2.1) (g := (mkF m 3 #[vR r0, vR r1, .unset] [(.ref r1), (.int 1)])) rfl rfl (hb hby d48_3) _ ?_
    rw [len_of S4 Na4]
    refine XS.icmpNo X0.here hx rfl (hb hby d48_4) rfl (teq (by decide)).2 ?_
    refine XS.iconst X0.here hx rfl (hb hby d48_7) ?_
    show Steps p.tables e below (s₁.setTop (mkF m 8 #[vR r0, vR r1, .unset] [(.int 0)])) _
    refine XS.istoreN X0.here hx rfl (hb hby d48_8) rfl (l' := #[vR r0, vR r1, vI 0]) rfl ?_
    refine XS.iloadN X0.here hx rfl (hb hby d48_9) rfl ?_
    refine XS.aloadN X0.here hx rfl (hb hby d48_10) rfl rfl ?_
    refine X0.arraylength hx (by rw [e0]; exact Ar2.1) (State.isArrayOf_alike hZ.alike Ar2.2.1) (g := (mkF m 11 #[vR r0, vR r1, vI 0] [(.ref r0), (.int 0)])) rfl rfl (hb hby d48_11) _ ?_
    rw [len_of S2 Na2]
    show Steps p.tables e below (s₁.setTop (mkF m 12 #[vR r0, vR r1, vI 0] [(.int 1), (.int 0)])) _
    refine XS.icmpNo X0.here hx rfl (hb hby d48_12) rfl (tlt (by decide)).2.1 ?_
    refine XS.aloadN X0.here hx rfl (hb hby d48_15) rfl rfl ?_
    refine XS.iloadN X0.here hx rfl (hb hby d48_16) rfl ?_
    refine X0.baloadBytes hx (j := (0 : Int32)) (v := (.int (y0.toInt8.toInt32))) (by rw [e0]; exact Ar2.1) (State.isArrayOf_alike hZ.alike Ar2.2.1) Ar2.2.2 (inb_of S2 ⟨by decide, by decide⟩) (Has.at Ha2 (inb_of S2 ⟨by decide, by decide⟩) rfl) (g := (mkF m 17 #[vR r0, vR r1, vI 0] [(.int 0), (.ref r0)])) rfl rfl (hb hby d48_17) _ ?_
    show Steps p.tables e below (s₁.setTop (mkF m 18 #[vR r0, vR r1, vI 0] [(.int (y0.toInt8.toInt32))])) _
    refine XS.aloadN X0.here hx rfl (hb hby d48_18) rfl rfl ?_
    refine XS.iloadN X0.here hx rfl (hb hby d48_19) rfl ?_
    refine X0.baloadBytes hx (j := (0 : Int32)) (v := (.int (y0.toInt8.toInt32))) (by rw [e0]; exact Ar4.1) (State.isArrayOf_alike hZ.alike Ar4.2.1) Ar4.2.2 (inb_of S4 ⟨by decide, by decide⟩) (Has.at Ha4 (inb_of S4 ⟨by decide, by decide⟩) rfl) (g := (mkF m 20 #[vR r0, vR r1, vI 0] [(.int 0), (.ref r1), (.int (y0.toInt8.toInt32))])) rfl rfl (hb hby d48_20) _ ?_
    refine XS.icmpYes X0.here hx rfl (pc0 := 21) (pc' := 26) rfl (hb hby d48_21) rfl (teq rfl).1 (by decide) (by decide) ?_
    show Steps p.tables e below (s₁.setTop (mkF m 26 #[vR r0, vR r1, vI 0] [])) _
    refine XS.iinc X0.here hx rfl (hb hby d48_26) rfl (l' := #[vR r0, vR r1, vI 1]) rfl ?_
    refine XS.goto X0.here hx rfl (pc0 := 29) (pc' := 9) rfl (hb hby d48_29) (by decide) (by decide) ?_
    refine XS.iloadN X0.here hx rfl (hb hby d48_9) rfl ?_
    refine XS.aloadN X0.here hx rfl (hb hby d48_10) rfl rfl ?_
    refine X0.arraylength hx (by rw [e0]; exact Ar2.1) (State.isArrayOf_alike hZ.alike Ar2.2.1) (g := (mkF m 11 #[vR r0, vR r1, vI 1] [(.ref r0), (.int 1)])) rfl rfl (hb hby d48_11) _ ?_
    rw [len_of S2 Na2]
    refine XS.icmpYes X0.here hx rfl (pc0 := 12) (pc' := 32) rfl (hb hby d48_12) rfl (flt (by decide)).2.1 (by decide) (by decide) ?_
    refine XS.iconst X0.here hx rfl (hb hby d48_32) ?_
    exact k)
  obtain ⟨fs, hr, hrun, hended, hW, hsame⟩ := X0.leave (v := some (.int 1)) (fun h => by rw [Bd.returns] at h; cases h) hlk
  refine ⟨_, _, kz _ (ks5 _ ?_), hrun, hended, _, _, rfl, ?_, ⟨_, rfl⟩, hW, hsame.mono (by decide) (by decide)⟩
  · exact retN X0 hx (t := .boolean) Bd.returns (by simp) (hb hby d48_33) hr
  · show Q48 Z r0 r1 kr0 kr1 y0 h0 n0 _ s₁.heap _
    rw [e0]
    exact ⟨rfl, N0, rfl⟩
theorem d47_0 : dk bc25 0 (.aload_n 0) 1 := by decide +kernel
theorem d47_1 : dk bc25 1 (.aload_n 1) 1 := by decide +kernel
theorem d47_2 : dk bc25 2 (.if_acmp .ne 5) 3 := by decide +kernel
theorem d47_7 : dk bc25 7 (.aload_n 1) 1 := by decide +kernel
theorem d47_8 : dk bc25 8 (.instanceof 10) 3 := by decide +kernel
theorem d47_11 : dk bc25 11 (.ifCond .eq 43) 3 := by decide +kernel
theorem d47_14 : dk bc25 14 (.aload_n 1) 1 := by decide +kernel
theorem d47_15 : dk bc25 15 (.checkcast 10) 3 := by decide +kernel
theorem d47_18 : dk bc25 18 (.astore_n 2) 1 := by decide +kernel
theorem d47_19 : dk bc25 19 (.getstatic 38) 3 := by decide +kernel
theorem d47_22 : dk bc25 22 (.ifCond .eq 14) 3 := by decide +kernel
theorem d47_25 : dk bc25 25 (.aload_n 0) 1 := by decide +kernel
theorem d47_26 : dk bc25 26 (.getfield 15) 3 := by decide +kernel
theorem d47_29 : dk bc25 29 (.aload_n 2) 1 := by decide +kernel
theorem d47_30 : dk bc25 30 (.getfield 15) 3 := by decide +kernel
theorem d47_33 : dk bc25 33 (.if_icmp .ne 21) 3 := by decide +kernel
theorem d47_36 : dk bc25 36 (.aload_n 0) 1 := by decide +kernel
theorem d47_37 : dk bc25 37 (.getfield 9) 3 := by decide +kernel
theorem d47_40 : dk bc25 40 (.aload_n 2) 1 := by decide +kernel
theorem d47_41 : dk bc25 41 (.getfield 9) 3 := by decide +kernel
theorem d47_44 : dk bc25 44 (.invokestatic 541) 3 := by decide +kernel
theorem d47_47 : dk bc25 47 (.ifCond .eq 7) 3 := by decide +kernel
theorem d47_50 : dk bc25 50 (.iconst 1) 1 := by decide +kernel
theorem d47_51 : dk bc25 51 (.goto 4) 3 := by decide +kernel
theorem d47_55 : dk bc25 55 (.ireturn) 1 := by decide +kernel
theorem pn_47 : plainName "java/lang/String" = true := by first | (simp [plainName, overriddenIn]; done) | decide +kernel
theorem pd_30 : parseMethodDescriptor "([B[B)Z" = some ⟨[(.array .byte), (.array .byte)], some .boolean⟩ := by decide +kernel
theorem ef_47 (m : MethodId) (x0 : Addr) (x1 : Addr) : entryFrame m #[(.ref x0), (.ref x1)] 3 = mkF m 0 #[.val (.ref x0), .val (.ref x1), .unset] [] := by first | (simp [entryFrame, mkF, argsToLocals, Value.category]; done) | rfl
def Q47 (Z : State) (r0 : Addr) (r1 : Addr) (y9 : Int32) (t0 : Addr) (kt0 : ClassId) (y0 : Int32) (t1 : Addr) (kt1 : ClassId) (h0 : Heap) (n0 : Nat) (v : Option Value) (h : Heap) (L : List Loc) : Prop := v = some (.int 1) ∧ Fr n0 L ∧ h = h0
set_option maxRecDepth 65536 in
set_option maxHeartbeats 40000000 in
theorem rm47 (l : Launch) (Z : State) (a0 : Array Value) (hw : ∀ d ∈ tables_1, d.before a0 Z = true) (ws : List Jvm.Cond) (r0 : Addr) (r1 : Addr) (y9 : Int32) (t0 : Addr) (kt0 : ClassId) (y0 : Int32) (t1 : Addr) (kt1 : ClassId) (h0 : Heap) (n0 : Nat) (Z0 : n0 ≤ h0.size) (S9 : own_S9 Z h0 y9) (P9 : ¬ y9 = (0 : Int32)) (hT : own_T Z h0 r0 t0 kt0 y0) (hKq : Exa Z h0 r1 "java/lang/String" ∧ own_Cd Z h0 r1 0 ∧ own_Fv Z h0 r1 t1 ∧ Arv Z h0 t1 kt1 .byte 1 [.int (y0.toInt8.toInt32)] (.int 0)) (n01 : r0 ≠ r1) :
    MetFree l Y25 (head1 (Jvm.Cond.code Y25 jdk_42_method_66_code 3 (some .boolean) :: ws) (⟨1, 0, 0, 14⟩ : Room)) (fun a U => a = #[(.ref r0), (.ref r1)] ∧ Z.Warmed39 U.vm ∧ U.heap = h0) (fun _ _ _ _ _ => True) (fun _ U o U' => ∃ v L, o = .returned v ∧ Q47 Z r0 r1 y9 t0 kt0 y0 t1 kt1 h0 n0 v U'.heap L ∧ FrameEnd U o U' L (⟨1, 0, 0, 14⟩ : Room).cells (⟨1, 0, 0, 14⟩ : Room).slots) := by
  refine MetFree.of_bodySF (plainFor_of_name pn_47) hisR ?_
  intro p e s m args below meth c s₁ Bd hml0 hP hK
  obtain ⟨rfl, hZ, hh⟩ := hP
  have hx := Bd.exec
  have hby := Bd.bytes
  have hml : c.maxLocals = 3 := hml0
  have hown : s.vm.findClass "java/lang/String" = some m.cls := findClass_of_methodNamed Bd.named
  have hnm := (name_of_methodNamed Bd.named Bd.method).1
  have hlk : meth.locks = false := by first | exact BodyLoose.notSynchronized Bd | exact Body.notSynchronized Bd
  have X0 : Stand p l e (⟨1, 0, 0, 14⟩ : Room) s m #[(.ref r0), (.ref r1)] below meth c s₁ [] 0 0 := Stand.of_body Bd
  have e0 : s₁.heap = h0 := by rw [← hh, Bd.state]; rfl
  have N0 := Fr.nil n0
  have k0 : own_R p e below (s₁.setTop (entryFrame m #[(.ref r0), (.ref r1)] 3)) (s₁.setTop (mkF m 0 #[vR r0, vR r1, .unset] [])) := fun t k => castTop (ef_47 m r0 r1) k
  obtain ⟨A0, hA0⟩ : ∃ z, z = s₁.setTop (entryFrame m #[(.ref r0), (.ref r1)] 3) := ⟨_, rfl⟩
  rw [← hA0] at k0
  have kz : ∀ t, Steps p.tables e below A0 t → Steps p.tables e below (s₁.setTop (entryFrame m #[(.ref r0), (.ref r1)] 3)) t := fun t q => hA0 ▸ q
  obtain ⟨E0, Cd0, F0, V0, hs0, nt0, hc0⟩ := id hT
  obtain ⟨E1, Cd1, F1, V1⟩ := hKq
  have ks1 : own_R p e below (A0) (s₁.setTop (mkF m 8 #[vR r0, vR r1, .unset] [(.ref r1)])) := fun t k => k0 t (by
    refine XS.aloadN X0.here hx rfl (hb hby d47_0) rfl rfl ?_
    refine XS.aloadN X0.here hx rfl (hb hby d47_1) rfl rfl ?_
    refine Jvm.RoadKit.acmp (g := (mkF m 2 #[vR r0, vR r1, .unset] [(.ref r1), (.ref r0)])) X0 hx rfl rfl rfl (pc0 := 2) (pc' := 7) (same := false) rfl (hb hby d47_2) rfl (decide_eq_false fun q => n01 (Value.ref.inj q)) (by decide) (by decide) ?_
    show Steps p.tables e below (s₁.setTop (mkF m 7 #[vR r0, vR r1, .unset] [])) _
    refine XS.aloadN X0.here hx rfl (hb hby d47_7) rfl rfl ?_
    exact k)
  obtain ⟨T2, X2, e2, st2⟩ := instY X0 hx hZ hown (own_w hw 12 rfl) e0 (Ins.self E1) (g := (mkF m 8 #[vR r0, vR r1, .unset] [(.ref r1)])) rfl rfl (hb hby d47_8)
  have ks3 := own_c ks1 st2
  have ks4 : own_R p e below (A0) (T2.setTop (mkF m 15 #[vR r0, vR r1, .unset] [(.ref r1)])) := fun t k => ks3 t (by
    refine XS.ifNo X2.here hx rfl (hb hby d47_11) rfl ((if0 _ _).trans (feq (by decide)).1) ?_
    refine XS.aloadN X2.here hx rfl (hb hby d47_14) rfl rfl ?_
    exact k)
  obtain ⟨T5, X5, e5, st5⟩ := castY X2 hx hZ hown (own_w hw 12 rfl) e2 (Ins.self E1) (g := (mkF m 15 #[vR r0, vR r1, .unset] [(.ref r1)])) rfl rfl (hb hby d47_15)
  have ks6 := own_c ks4 st5
  have ks7 : own_R p e below (A0) (T5.setTop (mkF m 19 #[vR r0, vR r1, vR r1] [])) := fun t k => ks6 t (by
    refine XS.astoreN X5.here hx rfl (hb hby d47_18) rfl rfl (l' := #[vR r0, vR r1, vR r1]) rfl ?_
    exact k)
  obtain ⟨T8, X8, e8, st8⟩ := getS2 X5 hx hZ hown (host := "") (Or.inl (own_w hw 7 rfl)) Via.refl e5 S9 (g := (mkF m 19 #[vR r0, vR r1, vR r1] [])) rfl (hb hby d47_19)
  have ks9 := own_c ks7 st8
  have ks10 : own_R p e below (A0) (T8.setTop (mkF m 26 #[vR r0, vR r1, vR r1] [(.ref r0)])) := fun t k => ks9 t (by
    refine XS.ifNo X8.here hx rfl (hb hby d47_22) rfl ((if0 _ _).trans (feq P9).1) ?_
    refine XS.aloadN X8.here hx rfl (hb hby d47_25) rfl rfl ?_
    exact k)
  obtain ⟨T11, X11, e11, st11⟩ := getF X8 hx hZ hown (host := "") (Or.inl (own_w hw 27 rfl)) Via.refl e8 Cd0 (g := (mkF m 26 #[vR r0, vR r1, vR r1] [(.ref r0)])) rfl rfl (hb hby d47_26)
  have ks12 := own_c ks10 st11
  have ks13 : own_R p e below (A0) (T11.setTop (mkF m 30 #[vR r0, vR r1, vR r1] [(.ref r1), (.int 0)])) := fun t k => ks12 t (by
    refine XS.aloadN X11.here hx rfl (hb hby d47_29) rfl rfl ?_
    exact k)
  obtain ⟨T14, X14, e14, st14⟩ := getF X11 hx hZ hown (host := "") (Or.inl (own_w hw 27 rfl)) Via.refl e11 Cd1 (g := (mkF m 30 #[vR r0, vR r1, vR r1] [(.ref r1), (.int 0)])) rfl rfl (hb hby d47_30)
  have ks15 := own_c ks13 st14
  have ks16 : own_R p e below (A0) (T14.setTop (mkF m 37 #[vR r0, vR r1, vR r1] [(.ref r0)])) := fun t k => ks15 t (by
    refine XS.icmpNo X14.here hx rfl (hb hby d47_33) rfl (teq (by decide)).2 ?_
    refine XS.aloadN X14.here hx rfl (hb hby d47_36) rfl rfl ?_
    exact k)
  obtain ⟨T17, X17, e17, st17⟩ := getF X14 hx hZ hown (host := "") (Or.inl (own_w hw 25 rfl)) Via.refl e14 F0 (g := (mkF m 37 #[vR r0, vR r1, vR r1] [(.ref r0)])) rfl rfl (hb hby d47_37)
  have ks18 := own_c ks16 st17
  have ks19 : own_R p e below (A0) (T17.setTop (mkF m 41 #[vR r0, vR r1, vR r1] [(.ref r1), (.ref t0)])) := fun t k => ks18 t (by
    refine XS.aloadN X17.here hx rfl (hb hby d47_40) rfl rfl ?_
    exact k)
  obtain ⟨T20, X20, e20, st20⟩ := getF X17 hx hZ hown (host := "") (Or.inl (own_w hw 25 rfl)) Via.refl e17 F1 (g := (mkF m 41 #[vR r0, vR r1, vR r1] [(.ref r1), (.ref t0)])) rfl rfl (hb hby d47_41)
  have ks21 := own_c ks19 st20
  obtain ⟨_, _, ⟨T22, L22, k22, n22⟩, -, X22, ⟨Lc22, hQ22, lq22, yq22, zq22⟩, st22⟩ := Jvm.LawKit.callS X20 hx (y := Y24) hown (mvT hZ (own_w hw 304 rfl)) (mvT hZ (own_w hw 305 rfl)) (mvT hZ (own_w hw 10 rfl)) (mvT hZ (own_w hw 306 rfl)) (by decide) (backOf (W := 0) (rm48 l Z a0 hw [] t0 t1 _ _ y0 h0 n0 Z0 V0 V1) hZ (own_w hw 306 rfl) (own_w hw 10 rfl) (by decide) (by decide)) (g := (mkF m 44 #[vR r0, vR r1, vR r1] [(.ref t1), (.ref t0)])) rfl (by rw [hml]; rfl) (argsL := [(.ref t0), (.ref t1)]) (rest := []) (lenOf pd_30 rfl) rfl (by show 2 * 0 + _ ≤ _; exact Nat.le_of_eq rfl) (hb hby d47_44) (fun _ _ => ⟨rfl, e20, (by decide : 0 + 0 ≤ _), (by decide : 0 + 0 ≤ _)⟩)
  dsimp only [Pt.U, Pt.locs, Pt.cells, Pt.slots] at X22 lq22 yq22 zq22 st22 hQ22
  obtain rfl : k22 = 0 := yq22
  obtain rfl : n22 = 0 := zq22
  obtain ⟨rfl, Nq22, eq22⟩ := hQ22
  have N22 := Fr.app N0 Nq22
  have N22' : Fr n0 L22 := by rw [lq22]; exact N22
  have ks23 := own_c ks21 st22
  have ks24 : own_R p e below (A0) (T22.setTop (mkF m 55 #[vR r0, vR r1, vR r1] [(.int 1)])) := fun t k => ks23 t (by
    refine XS.ifNo X22.here hx rfl (hb hby d47_47) rfl ((if0 _ _).trans (feq (by decide)).1) ?_
    refine XS.iconst X22.here hx rfl (hb hby d47_50) ?_
    refine XS.goto X22.here hx rfl (pc0 := 51) (pc' := 55) rfl (hb hby d47_51) (by decide) (by decide) ?_
    exact k)
  obtain ⟨fs, hr, hrun, hended, hW, hsame⟩ := X22.leave (v := some (.int 1)) (fun h => by rw [Bd.returns] at h; cases h) hlk
  refine ⟨_, _, kz _ (ks24 _ ?_), hrun, hended, _, _, rfl, ?_, ⟨_, rfl⟩, hW, hsame.mono (by decide) (by decide)⟩
  · exact retN X22 hx (t := .boolean) Bd.returns (by simp) (hb hby d47_55) hr
  · show Q47 Z r0 r1 y9 t0 kt0 y0 t1 kt1 h0 n0 _ T22.heap _
    rw [eq22]
    exact ⟨rfl, N22', rfl⟩
theorem d19_0 : dk bc26 0 (.aload_n 0) 1 := by decide +kernel
theorem d19_1 : dk bc26 1 (.invokespecial 1) 3 := by decide +kernel
theorem d19_4 : dk bc26 4 (.return_) 1 := by decide +kernel
theorem pn_19 : plainName "java/util/AbstractSet" = true := by first | (simp [plainName, overriddenIn]; done) | decide +kernel
theorem ef_19 (m : MethodId) (x0 : Addr) : entryFrame m #[(.ref x0)] 1 = mkF m 0 #[.val (.ref x0)] [] := by first | (simp [entryFrame, mkF, argsToLocals, Value.category]; done) | rfl
def Q19 (Z : State) (r0 : Addr) (h0 : Heap) (n0 : Nat) (v : Option Value) (h : Heap) (L : List Loc) : Prop := v = none ∧ Fr n0 L ∧ h = h0
set_option maxRecDepth 65536 in
set_option maxHeartbeats 40000000 in
theorem rm19 (l : Launch) (Z : State) (a0 : Array Value) (hw : ∀ d ∈ tables_1, d.before a0 Z = true) (ws : List Jvm.Cond) (r0 : Addr) (h0 : Heap) (n0 : Nat) (Z0 : n0 ≤ h0.size) :
    MetFree l Y26 (head1 (Jvm.Cond.code Y26 jdk_91_method_1_code 1 none :: ws) (⟨2, 0, 0, 24⟩ : Room)) (fun a U => a = #[(.ref r0)] ∧ Z.Warmed39 U.vm ∧ U.heap = h0) (fun _ _ _ _ _ => True) (fun _ U o U' => ∃ v L, o = .returned v ∧ Q19 Z r0 h0 n0 v U'.heap L ∧ FrameEnd U o U' L (⟨2, 0, 0, 24⟩ : Room).cells (⟨2, 0, 0, 24⟩ : Room).slots) := by
  refine MetFree.of_bodySF (plainFor_of_name pn_19) hisR ?_
  intro p e s m args below meth c s₁ Bd hml0 hP hK
  obtain ⟨rfl, hZ, hh⟩ := hP
  have hx := Bd.exec
  have hby := Bd.bytes
  have hml : c.maxLocals = 1 := hml0
  have hown : s.vm.findClass "java/util/AbstractSet" = some m.cls := findClass_of_methodNamed Bd.named
  have hnm := (name_of_methodNamed Bd.named Bd.method).1
  have hlk : meth.locks = false := by first | exact BodyLoose.notSynchronized Bd | exact Body.notSynchronized Bd
  have X0 : Stand p l e (⟨2, 0, 0, 24⟩ : Room) s m #[(.ref r0)] below meth c s₁ [] 0 0 := Stand.of_body Bd
  have e0 : s₁.heap = h0 := by rw [← hh, Bd.state]; rfl
  have N0 := Fr.nil n0
  have k0 : own_R p e below (s₁.setTop (entryFrame m #[(.ref r0)] 1)) (s₁.setTop (mkF m 0 #[vR r0] [])) := fun t k => castTop (ef_19 m r0) k
  obtain ⟨A0, hA0⟩ : ∃ z, z = s₁.setTop (entryFrame m #[(.ref r0)] 1) := ⟨_, rfl⟩
  rw [← hA0] at k0
  have kz : ∀ t, Steps p.tables e below A0 t → Steps p.tables e below (s₁.setTop (entryFrame m #[(.ref r0)] 1)) t := fun t q => hA0 ▸ q
  have ks1 : own_R p e below (A0) (s₁.setTop (mkF m 1 #[vR r0] [(.ref r0)])) := fun t k => k0 t (by
    refine XS.aloadN X0.here hx rfl (hb hby d19_0) rfl rfl ?_
    exact k)
  obtain ⟨_, _, ⟨T2, L2, k2, n2⟩, -, X2, ⟨Lc2, hQ2, lq2, yq2, zq2⟩, st2⟩ := X0.specialBack hx (y := Y6) rfl hown (mvT hZ (own_w hw 115 rfl)) (mvT hZ (own_w hw 59 rfl)) (mvT hZ (own_w hw 63 rfl)) (by decide) (backOf (W := 0) (rm11 l Z a0 hw [] r0 h0 n0 Z0 ) hZ (own_w hw 63 rfl) (own_w hw 62 rfl) (by decide) (by decide)) (g := (mkF m 1 #[vR r0] [(.ref r0)])) rfl (by rw [hml]; rfl) (Steps.refl _) (a := r0) (argsL := []) (rest := []) (lenOf pd_4 rfl) rfl (by show 2 * 0 + _ ≤ _; exact Nat.le_of_eq rfl) (hb hby d19_1) (fun _ _ => ⟨rfl, e0, (by decide : 0 + 0 ≤ _), (by decide : 0 + 0 ≤ _)⟩)
  dsimp only [Pt.U, Pt.locs, Pt.cells, Pt.slots] at X2 lq2 yq2 zq2 st2 hQ2
  obtain rfl : k2 = 0 := yq2
  obtain rfl : n2 = 0 := zq2
  obtain ⟨rfl, Nq2, eq2⟩ := hQ2
  have N2 := Fr.app N0 Nq2
  have N2' : Fr n0 L2 := by rw [lq2]; exact N2
  have ks3 := own_ct ks1 st2
  obtain ⟨fs, hr, hrun, hended, hW, hsame⟩ := X2.leave (v := none) (fun _ => rfl) hlk
  refine ⟨_, _, kz _ (ks3 _ ?_), hrun, hended, _, _, rfl, ?_, ⟨_, rfl⟩, hW, hsame.mono (by decide) (by decide)⟩
  · exact X2.returnOut hx Bd.returns (hb hby d19_4) hr
  · show Q19 Z r0 h0 n0 _ T2.heap _
    rw [eq2]
    exact ⟨rfl, N2', rfl⟩
theorem d21_0 : dk bc27 0 (.aload_n 0) 1 := by decide +kernel
theorem d21_1 : dk bc27 1 (.invokespecial 1) 3 := by decide +kernel
theorem d21_4 : dk bc27 4 (.return_) 1 := by decide +kernel
theorem pn_21 : plainName "java/util/AbstractMap" = true := by first | (simp [plainName, overriddenIn]; done) | decide +kernel
theorem ef_21 (m : MethodId) (x0 : Addr) : entryFrame m #[(.ref x0)] 1 = mkF m 0 #[.val (.ref x0)] [] := by first | (simp [entryFrame, mkF, argsToLocals, Value.category]; done) | rfl
def Q21 (Z : State) (r0 : Addr) (h0 : Heap) (n0 : Nat) (v : Option Value) (h : Heap) (L : List Loc) : Prop := v = none ∧ Fr n0 L ∧ h = h0
set_option maxRecDepth 65536 in
set_option maxHeartbeats 40000000 in
theorem rm21 (l : Launch) (Z : State) (a0 : Array Value) (hw : ∀ d ∈ tables_1, d.before a0 Z = true) (ws : List Jvm.Cond) (r0 : Addr) (h0 : Heap) (n0 : Nat) (Z0 : n0 ≤ h0.size) :
    MetFree l Y27 (head1 (Jvm.Cond.code Y27 jdk_71_method_1_code 1 none :: ws) (⟨1, 0, 0, 12⟩ : Room)) (fun a U => a = #[(.ref r0)] ∧ Z.Warmed39 U.vm ∧ U.heap = h0) (fun _ _ _ _ _ => True) (fun _ U o U' => ∃ v L, o = .returned v ∧ Q21 Z r0 h0 n0 v U'.heap L ∧ FrameEnd U o U' L (⟨1, 0, 0, 12⟩ : Room).cells (⟨1, 0, 0, 12⟩ : Room).slots) := by
  refine MetFree.of_bodySF (plainFor_of_name pn_21) hisR ?_
  intro p e s m args below meth c s₁ Bd hml0 hP hK
  obtain ⟨rfl, hZ, hh⟩ := hP
  have hx := Bd.exec
  have hby := Bd.bytes
  have hml : c.maxLocals = 1 := hml0
  have hown : s.vm.findClass "java/util/AbstractMap" = some m.cls := findClass_of_methodNamed Bd.named
  have hnm := (name_of_methodNamed Bd.named Bd.method).1
  have hlk : meth.locks = false := by first | exact BodyLoose.notSynchronized Bd | exact Body.notSynchronized Bd
  have X0 : Stand p l e (⟨1, 0, 0, 12⟩ : Room) s m #[(.ref r0)] below meth c s₁ [] 0 0 := Stand.of_body Bd
  have e0 : s₁.heap = h0 := by rw [← hh, Bd.state]; rfl
  have N0 := Fr.nil n0
  have k0 : own_R p e below (s₁.setTop (entryFrame m #[(.ref r0)] 1)) (s₁.setTop (mkF m 0 #[vR r0] [])) := fun t k => castTop (ef_21 m r0) k
  obtain ⟨A0, hA0⟩ : ∃ z, z = s₁.setTop (entryFrame m #[(.ref r0)] 1) := ⟨_, rfl⟩
  rw [← hA0] at k0
  have kz : ∀ t, Steps p.tables e below A0 t → Steps p.tables e below (s₁.setTop (entryFrame m #[(.ref r0)] 1)) t := fun t q => hA0 ▸ q
  have ks1 : own_R p e below (A0) (s₁.setTop (mkF m 1 #[vR r0] [(.ref r0)])) := fun t k => k0 t (by
    refine XS.aloadN X0.here hx rfl (hb hby d21_0) rfl rfl ?_
    exact k)
  obtain ⟨T2, X2, e2, st2⟩ := initO X0 hx hZ hown (own_w hw 130 rfl) (own_w hw 23 rfl) (own_w hw 24 rfl) e0 (g := (mkF m 1 #[vR r0] [(.ref r0)])) rfl (by rw [hml]; rfl) rfl (hb hby d21_1) (by decide) (W := 0) (by show 2 * 0 + _ ≤ _; exact Nat.le_of_eq rfl) (by decide)
  have ks3 := own_c ks1 st2
  obtain ⟨fs, hr, hrun, hended, hW, hsame⟩ := X2.leave (v := none) (fun _ => rfl) hlk
  refine ⟨_, _, kz _ (ks3 _ ?_), hrun, hended, _, _, rfl, ?_, ⟨_, rfl⟩, hW, hsame.mono (by decide) (by decide)⟩
  · exact X2.returnOut hx Bd.returns (hb hby d21_4) hr
  · show Q21 Z r0 h0 n0 _ T2.heap _
    rw [e2]
    exact ⟨rfl, N0, rfl⟩
theorem d20_0 : dk bc28 0 (.aload_n 0) 1 := by decide +kernel
theorem d20_1 : dk bc28 1 (.invokespecial 43) 3 := by decide +kernel
theorem d20_4 : dk bc28 4 (.aload_n 0) 1 := by decide +kernel
theorem d20_5 : dk bc28 5 (.ldc 92) 2 := by decide +kernel
theorem d20_7 : dk bc28 7 (.putfield 81) 3 := by decide +kernel
theorem d20_10 : dk bc28 10 (.return_) 1 := by decide +kernel
theorem pn_20 : plainName "java/util/HashMap" = true := by first | (simp [plainName, overriddenIn]; done) | decide +kernel
theorem ef_20 (m : MethodId) (x0 : Addr) : entryFrame m #[(.ref x0)] 1 = mkF m 0 #[.val (.ref x0)] [] := by first | (simp [entryFrame, mkF, argsToLocals, Value.category]; done) | rfl
def Q20 (Z : State) (r0 : Addr) (h0 : Heap) (n0 : Nat) (v : Option Value) (h : Heap) (L : List Loc) : Prop := v = none ∧ Fr n0 L ∧ Keep h0 h [r0] ∧ Fld Z h r0 "java/util/HashMap" "table" "[Ljava/util/HashMap$Node;" .null ∧ Fld Z h r0 "java/util/HashMap" "threshold" "I" (.int 0) ∧ Fld Z h r0 "java/util/HashMap" "modCount" "I" (.int 0) ∧ Fld Z h r0 "java/util/HashMap" "size" "I" (.int 0)
set_option maxRecDepth 65536 in
set_option maxHeartbeats 40000000 in
theorem rm20 (l : Launch) (Z : State) (a0 : Array Value) (hw : ∀ d ∈ tables_1, d.before a0 Z = true) (ws : List Jvm.Cond) (r0 : Addr) (h0 : Heap) (n0 : Nat) (Z0 : n0 ≤ h0.size) (E0 : Exa Z h0 r0 "java/util/HashMap") (Ft : Fld Z h0 r0 "java/util/HashMap" "table" "[Ljava/util/HashMap$Node;" .null) (Fh : Fld Z h0 r0 "java/util/HashMap" "threshold" "I" (.int 0)) (Fm : Fld Z h0 r0 "java/util/HashMap" "modCount" "I" (.int 0)) (Fs : Fld Z h0 r0 "java/util/HashMap" "size" "I" (.int 0)) (Fl : Fld Z h0 r0 "java/util/HashMap" "loadFactor" "F" (.float 0)) (g_r0 : n0 ≤ r0) :
    MetFree l Y28 (head1 (Jvm.Cond.code Y28 jdk_69_method_7_code 1 none :: ws) (⟨2, 0, 0, 24⟩ : Room)) (fun a U => a = #[(.ref r0)] ∧ Z.Warmed39 U.vm ∧ U.heap = h0) (fun _ _ _ _ _ => True) (fun _ U o U' => ∃ v L, o = .returned v ∧ Q20 Z r0 h0 n0 v U'.heap L ∧ FrameEnd U o U' L (⟨2, 0, 0, 24⟩ : Room).cells (⟨2, 0, 0, 24⟩ : Room).slots) := by
  refine MetFree.of_bodySF (plainFor_of_name pn_20) hisR ?_
  intro p e s m args below meth c s₁ Bd hml0 hP hK
  obtain ⟨rfl, hZ, hh⟩ := hP
  have hx := Bd.exec
  have hby := Bd.bytes
  have hml : c.maxLocals = 1 := hml0
  have hown : s.vm.findClass "java/util/HashMap" = some m.cls := findClass_of_methodNamed Bd.named
  have hnm := (name_of_methodNamed Bd.named Bd.method).1
  have hlk : meth.locks = false := by first | exact BodyLoose.notSynchronized Bd | exact Body.notSynchronized Bd
  have X0 : Stand p l e (⟨2, 0, 0, 24⟩ : Room) s m #[(.ref r0)] below meth c s₁ [] 0 0 := Stand.of_body Bd
  have e0 : s₁.heap = h0 := by rw [← hh, Bd.state]; rfl
  have N0 := Fr.nil n0
  have k0 : own_R p e below (s₁.setTop (entryFrame m #[(.ref r0)] 1)) (s₁.setTop (mkF m 0 #[vR r0] [])) := fun t k => castTop (ef_20 m r0) k
  obtain ⟨A0, hA0⟩ : ∃ z, z = s₁.setTop (entryFrame m #[(.ref r0)] 1) := ⟨_, rfl⟩
  rw [← hA0] at k0
  have kz : ∀ t, Steps p.tables e below A0 t → Steps p.tables e below (s₁.setTop (entryFrame m #[(.ref r0)] 1)) t := fun t q => hA0 ▸ q
  have ks1 : own_R p e below (A0) (s₁.setTop (mkF m 1 #[vR r0] [(.ref r0)])) := fun t k => k0 t (by
    refine XS.aloadN X0.here hx rfl (hb hby d20_0) rfl rfl ?_
    exact k)
  obtain ⟨_, _, ⟨T2, L2, k2, n2⟩, -, X2, ⟨Lc2, hQ2, lq2, yq2, zq2⟩, st2⟩ := X0.specialBack hx (y := Y27) rfl hown (mvT hZ (own_w hw 124 rfl)) (mvT hZ (own_w hw 125 rfl)) (mvT hZ (own_w hw 129 rfl)) (by decide) (backOf (W := 0) (rm21 l Z a0 hw [] r0 h0 n0 Z0 ) hZ (own_w hw 129 rfl) (own_w hw 128 rfl) (by decide) (by decide)) (g := (mkF m 1 #[vR r0] [(.ref r0)])) rfl (by rw [hml]; rfl) (Steps.refl _) (a := r0) (argsL := []) (rest := []) (lenOf pd_4 rfl) rfl (by show 2 * 0 + _ ≤ _; exact Nat.le_of_eq rfl) (hb hby d20_1) (fun _ _ => ⟨rfl, e0, (by decide : 0 + 0 ≤ _), (by decide : 0 + 0 ≤ _)⟩)
  dsimp only [Pt.U, Pt.locs, Pt.cells, Pt.slots] at X2 lq2 yq2 zq2 st2 hQ2
  obtain rfl : k2 = 0 := yq2
  obtain rfl : n2 = 0 := zq2
  obtain ⟨rfl, Nq2, eq2⟩ := hQ2
  have N2 := Fr.app N0 Nq2
  have N2' : Fr n0 L2 := by rw [lq2]; exact N2
  have ks3 := own_ct ks1 st2
  have ks4 : own_R p e below (A0) (T2.setTop (mkF m 7 #[vR r0] [(.float (1061158912 : UInt32)), (.ref r0)])) := fun t k => ks3 t (by
    refine XS.aloadN X2.here hx rfl (hb hby d20_4) rfl rfl ?_
    refine X2.ldcFloatC hx hown (mvT hZ (own_w hw 131 rfl)) (g := (mkF m 5 #[vR r0] [(.ref r0)])) rfl (hb hby d20_5) _ ?_
    exact k)
  obtain ⟨T5, h5, X5, e5, W5, st5⟩ := putF X2 hx hZ hown (host := "") (Or.inl (own_w hw 132 rfl)) Via.refl eq2 Fl E0 (Or.inr ⟨(own_w hw 133 rfl), rfl, hnm⟩) (own_w hw 118 rfl) (ty := .float) (by decide) rfl rfl (g := (mkF m 7 #[vR r0] [(.float (1061158912 : UInt32)), (.ref r0)])) rfl rfl (hb hby d20_7)
  have Fw5 := Fl.same W5
  have KH5 : Keep h0 h5 [r0] := (Keep.refl h0 [r0]).wr W5 (Or.inl (List.mem_of_getElem? (i := 0) rfl))
  have Zn5 : n0 ≤ h5.size := Nat.le_trans Z0 (Keep.of_wr W5).1
  have N5 := Fr.snoc X5 N2' g_r0
  have ks6 := own_c ks4 st5
  obtain ⟨fs, hr, hrun, hended, hW, hsame⟩ := X5.leave (v := none) (fun _ => rfl) hlk
  refine ⟨_, _, kz _ (ks6 _ ?_), hrun, hended, _, _, rfl, ?_, ⟨_, rfl⟩, hW, hsame.mono (by decide) (by decide)⟩
  · exact X5.returnOut hx Bd.returns (hb hby d20_10) hr
  · show Q20 Z r0 h0 n0 _ T5.heap _
    rw [e5]
    have f7 := (Ft.other W5 (Or.inr (slot_ne (Or.inl (own_w hw 174 rfl)) (Or.inr (own_w hw 133 rfl)) (by decide) (t := (.array (.object "java/util/HashMap$Node"))) (t' := .float) (by decide) (by decide))))
    have f8 := (Fh.other W5 (Or.inr (slot_ne (Or.inl (own_w hw 181 rfl)) (Or.inr (own_w hw 133 rfl)) (by decide) (t := .int) (t' := .float) (by decide) (by decide))))
    have f9 := (Fm.other W5 (Or.inr (slot_ne (Or.inl (own_w hw 205 rfl)) (Or.inr (own_w hw 133 rfl)) (by decide) (t := .int) (t' := .float) (by decide) (by decide))))
    have f10 := (Fs.other W5 (Or.inr (slot_ne (Or.inl (own_w hw 207 rfl)) (Or.inr (own_w hw 133 rfl)) (by decide) (t := .int) (t' := .float) (by decide) (by decide))))
    exact ⟨rfl, N5, KH5, f7, f8, f9, f10⟩
theorem d18_0 : dk bc29 0 (.aload_n 0) 1 := by decide +kernel
theorem d18_1 : dk bc29 1 (.invokespecial 1) 3 := by decide +kernel
theorem d18_4 : dk bc29 4 (.aload_n 0) 1 := by decide +kernel
theorem d18_5 : dk bc29 5 (.new 7) 3 := by decide +kernel
theorem d18_8 : dk bc29 8 (.dup) 1 := by decide +kernel
theorem d18_9 : dk bc29 9 (.invokespecial 9) 3 := by decide +kernel
theorem d18_12 : dk bc29 12 (.putfield 10) 3 := by decide +kernel
theorem d18_15 : dk bc29 15 (.return_) 1 := by decide +kernel
theorem pn_18 : plainName "java/util/HashSet" = true := by first | (simp [plainName, overriddenIn]; done) | decide +kernel
theorem ef_18 (m : MethodId) (x0 : Addr) : entryFrame m #[(.ref x0)] 1 = mkF m 0 #[.val (.ref x0)] [] := by first | (simp [entryFrame, mkF, argsToLocals, Value.category]; done) | rfl
def Q18 (Z : State) (r0 : Addr) (h0 : Heap) (n0 : Nat) (v : Option Value) (h : Heap) (L : List Loc) : Prop := ∃ b : Addr, v = none ∧ Fr n0 L ∧ Keep h0 h [r0] ∧ n0 ≤ b ∧ h0.size ≤ b ∧ Fld Z h r0 "java/util/HashSet" "map" "Ljava/util/HashMap;" (.ref b) ∧ Exa Z h b "java/util/HashMap" ∧ Fld Z h b "java/util/HashMap" "table" "[Ljava/util/HashMap$Node;" .null ∧ Fld Z h b "java/util/HashMap" "threshold" "I" (.int 0) ∧ Fld Z h b "java/util/HashMap" "modCount" "I" (.int 0) ∧ Fld Z h b "java/util/HashMap" "size" "I" (.int 0)
set_option maxRecDepth 65536 in
set_option maxHeartbeats 40000000 in
theorem rm18 (l : Launch) (Z : State) (a0 : Array Value) (hw : ∀ d ∈ tables_1, d.before a0 Z = true) (ws : List Jvm.Cond) (r0 : Addr) (h0 : Heap) (n0 : Nat) (Z0 : n0 ≤ h0.size) (E0 : Exa Z h0 r0 "java/util/HashSet") (F0 : Fld Z h0 r0 "java/util/HashSet" "map" "Ljava/util/HashMap;" .null) (g_r0 : n0 ≤ r0) :
    MetFree l Y29 (head1 (Jvm.Cond.code Y29 jdk_93_method_1_code 1 none :: ws) (⟨3, 1, 8, 38⟩ : Room)) (fun a U => a = #[(.ref r0)] ∧ Z.Warmed39 U.vm ∧ U.heap = h0) (fun _ _ _ _ _ => True) (fun _ U o U' => ∃ v L, o = .returned v ∧ Q18 Z r0 h0 n0 v U'.heap L ∧ FrameEnd U o U' L (⟨3, 1, 8, 38⟩ : Room).cells (⟨3, 1, 8, 38⟩ : Room).slots) := by
  refine MetFree.of_bodySF (plainFor_of_name pn_18) hisR ?_
  intro p e s m args below meth c s₁ Bd hml0 hP hK
  obtain ⟨rfl, hZ, hh⟩ := hP
  have hx := Bd.exec
  have hby := Bd.bytes
  have hml : c.maxLocals = 1 := hml0
  have hown : s.vm.findClass "java/util/HashSet" = some m.cls := findClass_of_methodNamed Bd.named
  have hnm := (name_of_methodNamed Bd.named Bd.method).1
  have hlk : meth.locks = false := by first | exact BodyLoose.notSynchronized Bd | exact Body.notSynchronized Bd
  have X0 : Stand p l e (⟨3, 1, 8, 38⟩ : Room) s m #[(.ref r0)] below meth c s₁ [] 0 0 := Stand.of_body Bd
  have e0 : s₁.heap = h0 := by rw [← hh, Bd.state]; rfl
  have N0 := Fr.nil n0
  have k0 : own_R p e below (s₁.setTop (entryFrame m #[(.ref r0)] 1)) (s₁.setTop (mkF m 0 #[vR r0] [])) := fun t k => castTop (ef_18 m r0) k
  obtain ⟨A0, hA0⟩ : ∃ z, z = s₁.setTop (entryFrame m #[(.ref r0)] 1) := ⟨_, rfl⟩
  rw [← hA0] at k0
  have kz : ∀ t, Steps p.tables e below A0 t → Steps p.tables e below (s₁.setTop (entryFrame m #[(.ref r0)] 1)) t := fun t q => hA0 ▸ q
  have ks1 : own_R p e below (A0) (s₁.setTop (mkF m 1 #[vR r0] [(.ref r0)])) := fun t k => k0 t (by
    refine XS.aloadN X0.here hx rfl (hb hby d18_0) rfl rfl ?_
    exact k)
  obtain ⟨_, _, ⟨T2, L2, k2, n2⟩, -, X2, ⟨Lc2, hQ2, lq2, yq2, zq2⟩, st2⟩ := X0.specialBack hx (y := Y26) rfl hown (mvT hZ (own_w hw 109 rfl)) (mvT hZ (own_w hw 110 rfl)) (mvT hZ (own_w hw 114 rfl)) (by decide) (backOf (W := 0) (rm19 l Z a0 hw [] r0 h0 n0 Z0 ) hZ (own_w hw 114 rfl) (own_w hw 113 rfl) (by decide) (by decide)) (g := (mkF m 1 #[vR r0] [(.ref r0)])) rfl (by rw [hml]; rfl) (Steps.refl _) (a := r0) (argsL := []) (rest := []) (lenOf pd_4 rfl) rfl (by show 2 * 0 + _ ≤ _; exact Nat.le_of_eq rfl) (hb hby d18_1) (fun _ _ => ⟨rfl, e0, (by decide : 0 + 0 ≤ _), (by decide : 0 + 0 ≤ _)⟩)
  dsimp only [Pt.U, Pt.locs, Pt.cells, Pt.slots] at X2 lq2 yq2 zq2 st2 hQ2
  obtain rfl : k2 = 0 := yq2
  obtain rfl : n2 = 0 := zq2
  obtain ⟨rfl, Nq2, eq2⟩ := hQ2
  have N2 := Fr.app N0 Nq2
  have N2' : Fr n0 L2 := by rw [lq2]; exact N2
  have ks3 := own_ct ks1 st2
  have ks4 : own_R p e below (A0) (T2.setTop (mkF m 5 #[vR r0] [(.ref r0)])) := fun t k => ks3 t (by
    refine XS.aloadN X2.here hx rfl (hb hby d18_4) rfl rfl ?_
    exact k)
  obtain ⟨T5, h5, X5, e5, E5, A5, D5, -, st5⟩ := newO X2 hx hZ hown (own_w hw 117 rfl) (own_w hw 118 rfl) (own_w hw 119 rfl) eq2 (g := (mkF m 5 #[vR r0] [(.ref r0)])) rfl (hb hby d18_5) (by decide) (by decide)
  obtain ⟨b5, g5⟩ : ∃ z, z = h0.size := ⟨_, rfl⟩
  rw [← g5] at A5 D5 st5
  have ne_r0_b5 := nlg E0.lt g5
  have g_b5 : n0 ≤ b5 := Nat.le_trans Z0 (Nat.le_of_eq g5.symm)
  have sz_b5 : h0.size ≤ b5 := Nat.le_trans (Keep.refl h0 [r0]).1 (Nat.le_of_eq g5.symm)
  have KH5 : Keep h0 h5 [r0] := (Keep.refl h0 [r0]).ext E5
  have Zn5 : n0 ≤ h5.size := Nat.le_trans Z0 E5.1
  have F_loadFactor_b5 : Fld Z h5 b5 "java/util/HashMap" "loadFactor" "F" (.float (0 : UInt32)) := D5 (Or.inr (own_w hw 133 rfl)) (ty := .float) (by decide)
  have F_table_b5 : Fld Z h5 b5 "java/util/HashMap" "table" "[Ljava/util/HashMap$Node;" .null := D5 (Or.inl (own_w hw 174 rfl)) (ty := (.array (.object "java/util/HashMap$Node"))) (by decide)
  have F_threshold_b5 : Fld Z h5 b5 "java/util/HashMap" "threshold" "I" (.int 0) := D5 (Or.inl (own_w hw 181 rfl)) (ty := .int) (by decide)
  have F_modCount_b5 : Fld Z h5 b5 "java/util/HashMap" "modCount" "I" (.int 0) := D5 (Or.inl (own_w hw 205 rfl)) (ty := .int) (by decide)
  have F_size_b5 : Fld Z h5 b5 "java/util/HashMap" "size" "I" (.int 0) := D5 (Or.inl (own_w hw 207 rfl)) (ty := .int) (by decide)
  have ks6 := own_c ks4 st5
  have ks7 : own_R p e below (A0) (T5.setTop (mkF m 9 #[vR r0] [(.ref b5), (.ref b5), (.ref r0)])) := fun t k => ks6 t (by
    refine XS.dup X5.here hx rfl (hb hby d18_8) rfl rfl ?_
    exact k)
  obtain ⟨_, _, ⟨T8, L8, k8, n8⟩, -, X8, ⟨Lc8, hQ8, lq8, yq8, zq8⟩, st8⟩ := X5.specialBack hx (y := Y28) rfl hown (mvT hZ (own_w hw 120 rfl)) (mvT hZ (own_w hw 121 rfl)) (mvT hZ (own_w hw 123 rfl)) (by decide) (backOf (W := 2) (rm20 l Z a0 hw [] b5 h5 n0 Zn5 A5 F_table_b5 F_threshold_b5 F_modCount_b5 F_size_b5 F_loadFactor_b5 g_b5) hZ (own_w hw 123 rfl) (own_w hw 119 rfl) (by decide) (by decide)) (g := (mkF m 9 #[vR r0] [(.ref b5), (.ref b5), (.ref r0)])) rfl (by rw [hml]; rfl) (Steps.refl _) (a := b5) (argsL := []) (rest := [(.ref b5), (.ref r0)]) (lenOf pd_4 rfl) rfl (by show 2 * 0 + _ ≤ _; exact Nat.le_of_eq rfl) (hb hby d18_9) (fun _ _ => ⟨rfl, e5, (by decide : 1 + 0 ≤ _), (by decide : 8 + 0 ≤ _)⟩)
  dsimp only [Pt.U, Pt.locs, Pt.cells, Pt.slots] at X8 lq8 yq8 zq8 st8 hQ8
  obtain rfl : k8 = 1 := yq8
  obtain rfl : n8 = 8 := zq8
  obtain ⟨rfl, Nq8, Kq8, Ft8, Fh8, Fm8, Fs8⟩ := hQ8
  have N8 := Fr.app N2' Nq8
  have KH8 : Keep h0 T8.heap [r0] := KH5.trans Kq8 (allS (Or.inr sz_b5) all0)
  have Zn8 : n0 ≤ T8.heap.size := Nat.le_trans Zn5 Kq8.1
  have N8' : Fr n0 L8 := by rw [lq8]; exact N8
  have ks9 := own_ct ks7 st8
  have f10 := E0.keep KH8
  have f11 := ((F0.ext E5).keep Kq8 (ninS ne_r0_b5 nin0))
  obtain ⟨T12, h12, X12, e12, W12, st12⟩ := putF X8 hx hZ hown (host := "") (Or.inl (own_w hw 134 rfl)) Via.refl rfl f11 f10 (Or.inl (own_w hw 135 rfl)) (own_w hw 104 rfl) (ty := (.object "java/util/HashMap")) (by decide) rfl rfl (g := (mkF m 12 #[vR r0] [(.ref b5), (.ref r0)])) rfl rfl (hb hby d18_12)
  have Fw12 := f11.same W12
  have KH12 : Keep h0 h12 [r0] := KH8.wr W12 (Or.inl (List.mem_of_getElem? (i := 0) rfl))
  have Zn12 : n0 ≤ h12.size := Nat.le_trans Zn8 (Keep.of_wr W12).1
  have N12 := Fr.snoc X12 N8' g_r0
  have ks13 := own_c ks9 st12
  obtain ⟨fs, hr, hrun, hended, hW, hsame⟩ := X12.leave (v := none) (fun _ => rfl) hlk
  refine ⟨_, _, kz _ (ks13 _ ?_), hrun, hended, _, _, rfl, ?_, ⟨_, rfl⟩, hW, hsame.mono (by decide) (by decide)⟩
  · exact X12.returnOut hx Bd.returns (hb hby d18_15) hr
  · show Q18 Z r0 h0 n0 _ T12.heap _
    rw [e12]
    have f14 := ((A5.keep Kq8).wr W12)
    have f15 := (Ft8.other W12 (Or.inl (Ne.symm ne_r0_b5)))
    have f16 := (Fh8.other W12 (Or.inl (Ne.symm ne_r0_b5)))
    have f17 := (Fm8.other W12 (Or.inl (Ne.symm ne_r0_b5)))
    have f18 := (Fs8.other W12 (Or.inl (Ne.symm ne_r0_b5)))
    exact ⟨b5, rfl, N12, KH12, g_b5, sz_b5, Fw12, f14, f15, f16, f17, f18⟩
theorem d29_0 : dk bc30 0 (.aload_n 0) 1 := by decide +kernel
theorem d29_1 : dk bc30 1 (.getfield 105) 3 := by decide +kernel
theorem d29_4 : dk bc30 4 (.astore_n 1) 1 := by decide +kernel
theorem d29_5 : dk bc30 5 (.aload_n 1) 1 := by decide +kernel
theorem d29_6 : dk bc30 6 (.ifnonnull 7) 3 := by decide +kernel
theorem d29_9 : dk bc30 9 (.iconst 0) 1 := by decide +kernel
theorem d29_10 : dk bc30 10 (.goto 5) 3 := by decide +kernel
theorem d29_15 : dk bc30 15 (.istore_n 2) 1 := by decide +kernel
theorem d29_16 : dk bc30 16 (.aload_n 0) 1 := by decide +kernel
theorem d29_17 : dk bc30 17 (.getfield 88) 3 := by decide +kernel
theorem d29_20 : dk bc30 20 (.istore_n 3) 1 := by decide +kernel
theorem d29_21 : dk bc30 21 (.iconst 0) 1 := by decide +kernel
theorem d29_22 : dk bc30 22 (.istore 5) 2 := by decide +kernel
theorem d29_24 : dk bc30 24 (.iload_n 2) 1 := by decide +kernel
theorem d29_25 : dk bc30 25 (.ifCond .le 42) 3 := by decide +kernel
theorem d29_67 : dk bc30 67 (.iload_n 3) 1 := by decide +kernel
theorem d29_68 : dk bc30 68 (.ifCond .le 9) 3 := by decide +kernel
theorem d29_77 : dk bc30 77 (.bipush 16) 2 := by decide +kernel
theorem d29_79 : dk bc30 79 (.istore 4) 2 := by decide +kernel
theorem d29_81 : dk bc30 81 (.bipush 12) 2 := by decide +kernel
theorem d29_83 : dk bc30 83 (.istore 5) 2 := by decide +kernel
theorem d29_85 : dk bc30 85 (.iload 5) 2 := by decide +kernel
theorem d29_87 : dk bc30 87 (.ifCond .ne 38) 3 := by decide +kernel
theorem d29_125 : dk bc30 125 (.aload_n 0) 1 := by decide +kernel
theorem d29_126 : dk bc30 126 (.iload 5) 2 := by decide +kernel
theorem d29_128 : dk bc30 128 (.putfield 88) 3 := by decide +kernel
theorem d29_131 : dk bc30 131 (.iload 4) 2 := by decide +kernel
theorem d29_133 : dk bc30 133 (.anewarray 163) 3 := by decide +kernel
theorem d29_136 : dk bc30 136 (.astore 6) 2 := by decide +kernel
theorem d29_138 : dk bc30 138 (.aload_n 0) 1 := by decide +kernel
theorem d29_139 : dk bc30 139 (.aload 6) 2 := by decide +kernel
theorem d29_141 : dk bc30 141 (.putfield 105) 3 := by decide +kernel
theorem d29_144 : dk bc30 144 (.aload_n 1) 1 := by decide +kernel
theorem d29_145 : dk bc30 145 (.ifnull 208) 3 := by decide +kernel
theorem d29_353 : dk bc30 353 (.aload 6) 2 := by decide +kernel
theorem d29_355 : dk bc30 355 (.areturn) 1 := by decide +kernel
theorem pn_29 : plainName "java/util/HashMap" = true := by first | (simp [plainName, overriddenIn]; done) | decide +kernel
theorem ef_29 (m : MethodId) (x0 : Addr) : entryFrame m #[(.ref x0)] 14 = mkF m 0 #[.val (.ref x0), .unset, .unset, .unset, .unset, .unset, .unset, .unset, .unset, .unset, .unset, .unset, .unset, .unset] [] := by first | (simp [entryFrame, mkF, argsToLocals, Value.category]; done) | rfl
def Q29 (Z : State) (r0 : Addr) (h0 : Heap) (n0 : Nat) (v : Option Value) (h : Heap) (L : List Loc) : Prop := ∃ (b : Addr) (k : ClassId), v = some (.ref b) ∧ Fr n0 L ∧ Keep h0 h [r0] ∧ n0 ≤ b ∧ h0.size ≤ b ∧ Fld Z h r0 "java/util/HashMap" "table" "[Ljava/util/HashMap$Node;" (.ref b) ∧ Fld Z h r0 "java/util/HashMap" "threshold" "I" (.int 12) ∧ Fld Z h r0 "java/util/HashMap" "modCount" "I" (.int 0) ∧ Fld Z h r0 "java/util/HashMap" "size" "I" (.int 0) ∧ Arv Z h b k (.object "java/util/HashMap$Node") 16 [] .null ∧ Ovr Z k "java/util/HashMap$Node"
set_option maxRecDepth 65536 in
set_option maxHeartbeats 40000000 in
theorem rm29 (l : Launch) (Z : State) (a0 : Array Value) (hw : ∀ d ∈ tables_1, d.before a0 Z = true) (ws : List Jvm.Cond) (r0 : Addr) (h0 : Heap) (n0 : Nat) (Z0 : n0 ≤ h0.size) (E0 : Exa Z h0 r0 "java/util/HashMap") (Ft : Fld Z h0 r0 "java/util/HashMap" "table" "[Ljava/util/HashMap$Node;" .null) (Fh : Fld Z h0 r0 "java/util/HashMap" "threshold" "I" (.int 0)) (Fm : Fld Z h0 r0 "java/util/HashMap" "modCount" "I" (.int 0)) (Fs : Fld Z h0 r0 "java/util/HashMap" "size" "I" (.int 0)) (g_r0 : n0 ≤ r0) :
    MetFree l Y30 (head1 (Jvm.Cond.code Y30 jdk_69_method_17_code 14 (some (.array (.object "java/util/HashMap$Node"))) :: ws) (⟨0, 1, 16, 0⟩ : Room)) (fun a U => a = #[(.ref r0)] ∧ Z.Warmed39 U.vm ∧ U.heap = h0) (fun _ _ _ _ _ => True) (fun _ U o U' => ∃ v L, o = .returned v ∧ Q29 Z r0 h0 n0 v U'.heap L ∧ FrameEnd U o U' L (⟨0, 1, 16, 0⟩ : Room).cells (⟨0, 1, 16, 0⟩ : Room).slots) := by
  refine MetFree.of_bodySF (plainFor_of_name pn_29) hisR ?_
  intro p e s m args below meth c s₁ Bd hml0 hP hK
  obtain ⟨rfl, hZ, hh⟩ := hP
  have hx := Bd.exec
  have hby := Bd.bytes
  have hml : c.maxLocals = 14 := hml0
  have hown : s.vm.findClass "java/util/HashMap" = some m.cls := findClass_of_methodNamed Bd.named
  have hnm := (name_of_methodNamed Bd.named Bd.method).1
  have hlk : meth.locks = false := by first | exact BodyLoose.notSynchronized Bd | exact Body.notSynchronized Bd
  have X0 : Stand p l e (⟨0, 1, 16, 0⟩ : Room) s m #[(.ref r0)] below meth c s₁ [] 0 0 := Stand.of_body Bd
  have e0 : s₁.heap = h0 := by rw [← hh, Bd.state]; rfl
  have N0 := Fr.nil n0
  have k0 : own_R p e below (s₁.setTop (entryFrame m #[(.ref r0)] 14)) (s₁.setTop (mkF m 0 #[vR r0, .unset, .unset, .unset, .unset, .unset, .unset, .unset, .unset, .unset, .unset, .unset, .unset, .unset] [])) := fun t k => castTop (ef_29 m r0) k
  obtain ⟨A0, hA0⟩ : ∃ z, z = s₁.setTop (entryFrame m #[(.ref r0)] 14) := ⟨_, rfl⟩
  rw [← hA0] at k0
  have kz : ∀ t, Steps p.tables e below A0 t → Steps p.tables e below (s₁.setTop (entryFrame m #[(.ref r0)] 14)) t := fun t q => hA0 ▸ q
  have ks1 : own_R p e below (A0) (s₁.setTop (mkF m 1 #[vR r0, .unset, .unset, .unset, .unset, .unset, .unset, .unset, .unset, .unset, .unset, .unset, .unset, .unset] [(.ref r0)])) := fun t k => k0 t (by
    refine XS.aloadN X0.here hx rfl (hb hby d29_0) rfl rfl ?_
    exact k)
  obtain ⟨T2, X2, e2, st2⟩ := getF X0 hx hZ hown (host := "") (Or.inl (own_w hw 173 rfl)) Via.refl e0 Ft (g := (mkF m 1 #[vR r0, .unset, .unset, .unset, .unset, .unset, .unset, .unset, .unset, .unset, .unset, .unset, .unset, .unset] [(.ref r0)])) rfl rfl (hb hby d29_1)
  have ks3 := own_c ks1 st2
  have ks4 : own_R p e below (A0) (T2.setTop (mkF m 17 #[vR r0, .val .null, vI 0, .unset, .unset, .unset, .unset, .unset, .unset, .unset, .unset, .unset, .unset, .unset] [(.ref r0)])) := fun t k => ks3 t (by
    refine XS.astoreN X2.here hx rfl (hb hby d29_4) rfl rfl (l' := #[vR r0, .val .null, .unset, .unset, .unset, .unset, .unset, .unset, .unset, .unset, .unset, .unset, .unset, .unset]) rfl ?_
    refine XS.aloadN X2.here hx rfl (hb hby d29_5) rfl rfl ?_
    refine XS.ifnonnullNo X2.here hx rfl (hb hby d29_6) rfl ?_
    show Steps p.tables e below (T2.setTop (mkF m 9 #[vR r0, .val .null, .unset, .unset, .unset, .unset, .unset, .unset, .unset, .unset, .unset, .unset, .unset, .unset] [])) _
    refine XS.iconst X2.here hx rfl (hb hby d29_9) ?_
    refine XS.goto X2.here hx rfl (pc0 := 10) (pc' := 15) rfl (hb hby d29_10) (by decide) (by decide) ?_
    refine XS.istoreN X2.here hx rfl (hb hby d29_15) rfl (l' := #[vR r0, .val .null, vI 0, .unset, .unset, .unset, .unset, .unset, .unset, .unset, .unset, .unset, .unset, .unset]) rfl ?_
    refine XS.aloadN X2.here hx rfl (hb hby d29_16) rfl rfl ?_
    exact k)
  obtain ⟨T5, X5, e5, st5⟩ := getF X2 hx hZ hown (host := "") (Or.inl (own_w hw 180 rfl)) Via.refl e2 Fh (g := (mkF m 17 #[vR r0, .val .null, vI 0, .unset, .unset, .unset, .unset, .unset, .unset, .unset, .unset, .unset, .unset, .unset] [(.ref r0)])) rfl rfl (hb hby d29_17)
  have ks6 := own_c ks4 st5
  have ks7 : own_R p e below (A0) (T5.setTop (mkF m 128 #[vR r0, .val .null, vI 0, vI 0, vI 16, vI 12, .unset, .unset, .unset, .unset, .unset, .unset, .unset, .unset] [(.int 12), (.ref r0)])) := fun t k => ks6 t (by
    refine XS.istoreN X5.here hx rfl (hb hby d29_20) rfl (l' := #[vR r0, .val .null, vI 0, vI 0, .unset, .unset, .unset, .unset, .unset, .unset, .unset, .unset, .unset, .unset]) rfl ?_
    refine XS.iconst X5.here hx rfl (hb hby d29_21) ?_
    refine XS.istore X5.here hx rfl (hb hby d29_22) rfl (l' := #[vR r0, .val .null, vI 0, vI 0, .unset, vI 0, .unset, .unset, .unset, .unset, .unset, .unset, .unset, .unset]) rfl ?_
    show Steps p.tables e below (T5.setTop (mkF m 24 #[vR r0, .val .null, vI 0, vI 0, .unset, vI 0, .unset, .unset, .unset, .unset, .unset, .unset, .unset, .unset] [])) _
    refine XS.iloadN X5.here hx rfl (hb hby d29_24) rfl ?_
    refine XS.ifYes X5.here hx rfl (pc0 := 25) (pc' := 67) rfl (hb hby d29_25) rfl ((if0 _ _).trans (flt (by decide)).2.2.2) (by decide) (by decide) ?_
    refine XS.iloadN X5.here hx rfl (hb hby d29_67) rfl ?_
    refine XS.ifYes X5.here hx rfl (pc0 := 68) (pc' := 77) rfl (hb hby d29_68) rfl ((if0 _ _).trans (flt (by decide)).2.2.2) (by decide) (by decide) ?_
    show Steps p.tables e below (T5.setTop (mkF m 77 #[vR r0, .val .null, vI 0, vI 0, .unset, vI 0, .unset, .unset, .unset, .unset, .unset, .unset, .unset, .unset] [])) _
    refine XS.bipush X5.here hx rfl (hb hby d29_77) ?_
    refine XS.istore X5.here hx rfl (hb hby d29_79) rfl (l' := #[vR r0, .val .null, vI 0, vI 0, vI 16, vI 0, .unset, .unset, .unset, .unset, .unset, .unset, .unset, .unset]) rfl ?_
    refine XS.bipush X5.here hx rfl (hb hby d29_81) ?_
    refine XS.istore X5.here hx rfl (hb hby d29_83) rfl (l' := #[vR r0, .val .null, vI 0, vI 0, vI 16, vI 12, .unset, .unset, .unset, .unset, .unset, .unset, .unset, .unset]) rfl ?_
    show Steps p.tables e below (T5.setTop (mkF m 85 #[vR r0, .val .null, vI 0, vI 0, vI 16, vI 12, .unset, .unset, .unset, .unset, .unset, .unset, .unset, .unset] [])) _
    refine XS.iload X5.here hx rfl (hb hby d29_85) rfl ?_
    refine XS.ifYes X5.here hx rfl (pc0 := 87) (pc' := 125) rfl (hb hby d29_87) rfl ((if0 _ _).trans (feq (by decide)).2) (by decide) (by decide) ?_
    refine XS.aloadN X5.here hx rfl (hb hby d29_125) rfl rfl ?_
    refine XS.iload X5.here hx rfl (hb hby d29_126) rfl ?_
    exact k)
  obtain ⟨T8, h8, X8, e8, W8, st8⟩ := putF X5 hx hZ hown (host := "") (Or.inl (own_w hw 180 rfl)) Via.refl e5 Fh E0 (Or.inl (own_w hw 181 rfl)) (own_w hw 118 rfl) (ty := .int) (by decide) rfl rfl (g := (mkF m 128 #[vR r0, .val .null, vI 0, vI 0, vI 16, vI 12, .unset, .unset, .unset, .unset, .unset, .unset, .unset, .unset] [(.int 12), (.ref r0)])) rfl rfl (hb hby d29_128)
  have Fw8 := Fh.same W8
  have KH8 : Keep h0 h8 [r0] := (Keep.refl h0 [r0]).wr W8 (Or.inl (List.mem_of_getElem? (i := 0) rfl))
  have Zn8 : n0 ≤ h8.size := Nat.le_trans Z0 (Keep.of_wr W8).1
  have N8 := Fr.snoc X8 N0 g_r0
  have ks9 := own_c ks7 st8
  have ks10 : own_R p e below (A0) (T8.setTop (mkF m 133 #[vR r0, .val .null, vI 0, vI 0, vI 16, vI 12, .unset, .unset, .unset, .unset, .unset, .unset, .unset, .unset] [(.int 16)])) := fun t k => ks9 t (by
    refine XS.iload X8.here hx rfl (hb hby d29_131) rfl ?_
    exact k)
  have f11 := E0.keep KH8
  obtain ⟨T12, h12, c12, X12, e12, E12, A12, O12, st12⟩ := newR X8 hx hZ hown (own_w hw 182 rfl) (own_w hw 183 rfl) e8 (g := (mkF m 133 #[vR r0, .val .null, vI 0, vI 0, vI 16, vI 12, .unset, .unset, .unset, .unset, .unset, .unset, .unset, .unset] [(.int 16)])) rfl (hb hby d29_133) rfl (by decide) (cap := 16) (by decide) (by decide) (by decide) (by decide)
  obtain ⟨b12, g12⟩ : ∃ z, z = h8.size := ⟨_, rfl⟩
  rw [← g12] at A12 st12
  have ne_r0_b12 := nlg f11.lt g12
  have g_b12 : n0 ≤ b12 := Nat.le_trans Zn8 (Nat.le_of_eq g12.symm)
  have sz_b12 : h0.size ≤ b12 := Nat.le_trans KH8.1 (Nat.le_of_eq g12.symm)
  have KH12 : Keep h0 h12 [r0] := KH8.ext E12
  have Zn12 : n0 ≤ h12.size := Nat.le_trans Zn8 E12.1
  have V12 : Arv Z h12 b12 c12 (.object "java/util/HashMap$Node") (16 : Int32) [] .null := (Arv.new A12 (by decide))
  have ks13 := own_c ks10 st12
  have ks14 : own_R p e below (A0) (T12.setTop (mkF m 141 #[vR r0, .val .null, vI 0, vI 0, vI 16, vI 12, vR b12, .unset, .unset, .unset, .unset, .unset, .unset, .unset] [(.ref b12), (.ref r0)])) := fun t k => ks13 t (by
    refine XS.astore X12.here hx rfl (hb hby d29_136) rfl rfl (l' := #[vR r0, .val .null, vI 0, vI 0, vI 16, vI 12, vR b12, .unset, .unset, .unset, .unset, .unset, .unset, .unset]) rfl ?_
    refine XS.aloadN X12.here hx rfl (hb hby d29_138) rfl rfl ?_
    refine XS.aload X12.here hx rfl (hb hby d29_139) rfl rfl ?_
    exact k)
  have f15 := E0.keep KH12
  have f16 := ((Ft.other W8 (Or.inr (slot_ne (Or.inl (own_w hw 174 rfl)) (Or.inl (own_w hw 181 rfl)) (by decide) (t := (.array (.object "java/util/HashMap$Node"))) (t' := .int) (by decide) (by decide)))).ext E12)
  obtain ⟨T17, h17, X17, e17, W17, st17⟩ := putF X12 hx hZ hown (host := "") (Or.inl (own_w hw 173 rfl)) Via.refl e12 f16 f15 (Or.inl (own_w hw 174 rfl)) (own_w hw 118 rfl) (ty := (.array (.object "java/util/HashMap$Node"))) (by decide) rfl rfl (g := (mkF m 141 #[vR r0, .val .null, vI 0, vI 0, vI 16, vI 12, vR b12, .unset, .unset, .unset, .unset, .unset, .unset, .unset] [(.ref b12), (.ref r0)])) rfl rfl (hb hby d29_141)
  have Fw17 := f16.same W17
  have KH17 : Keep h0 h17 [r0] := KH12.wr W17 (Or.inl (List.mem_of_getElem? (i := 0) rfl))
  have Zn17 : n0 ≤ h17.size := Nat.le_trans Zn12 (Keep.of_wr W17).1
  have N17 := Fr.snoc X17 N8 g_r0
  have ks18 := own_c ks14 st17
  have ks19 : own_R p e below (A0) (T17.setTop (mkF m 355 #[vR r0, .val .null, vI 0, vI 0, vI 16, vI 12, vR b12, .unset, .unset, .unset, .unset, .unset, .unset, .unset] [(.ref b12)])) := fun t k => ks18 t (by
    refine XS.aloadN X17.here hx rfl (hb hby d29_144) rfl rfl ?_
    refine XS.ifnullYes X17.here hx rfl (pc0 := 145) (pc' := 353) rfl (hb hby d29_145) rfl (by decide) (by decide) ?_
    refine XS.aload X17.here hx rfl (hb hby d29_353) rfl rfl ?_
    exact k)
  obtain ⟨fs, hr, hrun, hended, hW, hsame⟩ := X17.leave (v := some (.ref b12)) (fun h => by rw [Bd.returns] at h; cases h) hlk
  refine ⟨_, _, kz _ (ks19 _ ?_), hrun, hended, _, _, rfl, ?_, ⟨_, rfl⟩, hW, hsame.mono (by decide) (by decide)⟩
  · exact retOut X17 hx Bd.returns rfl (Or.inr (Or.inr (Or.inr (Or.inr ⟨rfl, rfl, rfl⟩)))) (hb hby d29_355) hr
  · show Q29 Z r0 h0 n0 _ T17.heap _
    rw [e17]
    have f20 := ((Fw8.ext E12).other W17 (Or.inr (slot_ne (Or.inl (own_w hw 181 rfl)) (Or.inl (own_w hw 174 rfl)) (by decide) (t := .int) (t' := (.array (.object "java/util/HashMap$Node"))) (by decide) (by decide))))
    have f21 := (((Fm.other W8 (Or.inr (slot_ne (Or.inl (own_w hw 205 rfl)) (Or.inl (own_w hw 181 rfl)) (by decide) (t := .int) (t' := .int) (by decide) (by decide)))).ext E12).other W17 (Or.inr (slot_ne (Or.inl (own_w hw 205 rfl)) (Or.inl (own_w hw 174 rfl)) (by decide) (t := .int) (t' := (.array (.object "java/util/HashMap$Node"))) (by decide) (by decide))))
    have f22 := (((Fs.other W8 (Or.inr (slot_ne (Or.inl (own_w hw 207 rfl)) (Or.inl (own_w hw 181 rfl)) (by decide) (t := .int) (t' := .int) (by decide) (by decide)))).ext E12).other W17 (Or.inr (slot_ne (Or.inl (own_w hw 207 rfl)) (Or.inl (own_w hw 174 rfl)) (by decide) (t := .int) (t' := (.array (.object "java/util/HashMap$Node"))) (by decide) (by decide))))
    have f23 := (V12.other W17 (Ne.symm ne_r0_b12))
    exact ⟨b12, _, rfl, N17, KH17, g_b12, sz_b12, Fw17, f20, f21, f22, f23, O12⟩
theorem d31_0 : dk bc31 0 (.aload_n 0) 1 := by decide +kernel
theorem d31_1 : dk bc31 1 (.invokespecial 1) 3 := by decide +kernel
theorem d31_4 : dk bc31 4 (.aload_n 0) 1 := by decide +kernel
theorem d31_5 : dk bc31 5 (.iload_n 1) 1 := by decide +kernel
theorem d31_6 : dk bc31 6 (.putfield 7) 3 := by decide +kernel
theorem d31_9 : dk bc31 9 (.aload_n 0) 1 := by decide +kernel
theorem d31_10 : dk bc31 10 (.aload_n 2) 1 := by decide +kernel
theorem d31_11 : dk bc31 11 (.putfield 13) 3 := by decide +kernel
theorem d31_14 : dk bc31 14 (.aload_n 0) 1 := by decide +kernel
theorem d31_15 : dk bc31 15 (.aload_n 3) 1 := by decide +kernel
theorem d31_16 : dk bc31 16 (.putfield 17) 3 := by decide +kernel
theorem d31_19 : dk bc31 19 (.aload_n 0) 1 := by decide +kernel
theorem d31_20 : dk bc31 20 (.aload 4) 2 := by decide +kernel
theorem d31_22 : dk bc31 22 (.putfield 20) 3 := by decide +kernel
theorem d31_25 : dk bc31 25 (.return_) 1 := by decide +kernel
theorem pn_31 : plainName "java/util/HashMap$Node" = true := by first | (simp [plainName, overriddenIn]; done) | decide +kernel
theorem ef_31 (m : MethodId) (x0 : Addr) (x1 : Int32) (x2 : Addr) (x3 : Addr) : entryFrame m #[(.ref x0), (.int x1), (.ref x2), (.ref x3), .null] 5 = mkF m 0 #[.val (.ref x0), .val (.int x1), .val (.ref x2), .val (.ref x3), .val .null] [] := by first | (simp [entryFrame, mkF, argsToLocals, Value.category]; done) | rfl
def Q31 (Z : State) (r0 : Addr) (p1 : Int32) (r2 : Addr) (r3 : Addr) (h0 : Heap) (n0 : Nat) (v : Option Value) (h : Heap) (L : List Loc) : Prop := v = none ∧ Fr n0 L ∧ Keep h0 h [r0] ∧ Fld Z h r0 "java/util/HashMap$Node" "hash" "I" (.int p1) ∧ Fld Z h r0 "java/util/HashMap$Node" "key" "Ljava/lang/Object;" (.ref r2)
set_option maxRecDepth 65536 in
set_option maxHeartbeats 40000000 in
theorem rm31 (l : Launch) (Z : State) (a0 : Array Value) (hw : ∀ d ∈ tables_1, d.before a0 Z = true) (ws : List Jvm.Cond) (r0 : Addr) (p1 : Int32) (r2 : Addr) (r3 : Addr) (h0 : Heap) (n0 : Nat) (Z0 : n0 ≤ h0.size) (E0 : Exa Z h0 r0 "java/util/HashMap$Node") (Fh : Fld Z h0 r0 "java/util/HashMap$Node" "hash" "I" (.int 0)) (Fk : Fld Z h0 r0 "java/util/HashMap$Node" "key" "Ljava/lang/Object;" .null) (Fv : Fld Z h0 r0 "java/util/HashMap$Node" "value" "Ljava/lang/Object;" .null) (Fn : Fld Z h0 r0 "java/util/HashMap$Node" "next" "Ljava/util/HashMap$Node;" .null) (g_r0 : n0 ≤ r0) :
    MetFree l Y31 (head1 (Jvm.Cond.code Y31 jdk_70_method_1_code 5 none :: ws) (⟨1, 0, 0, 12⟩ : Room)) (fun a U => a = #[(.ref r0), (.int p1), (.ref r2), (.ref r3), .null] ∧ Z.Warmed39 U.vm ∧ U.heap = h0) (fun _ _ _ _ _ => True) (fun _ U o U' => ∃ v L, o = .returned v ∧ Q31 Z r0 p1 r2 r3 h0 n0 v U'.heap L ∧ FrameEnd U o U' L (⟨1, 0, 0, 12⟩ : Room).cells (⟨1, 0, 0, 12⟩ : Room).slots) := by
  refine MetFree.of_bodySF (plainFor_of_name pn_31) hisR ?_
  intro p e s m args below meth c s₁ Bd hml0 hP hK
  obtain ⟨rfl, hZ, hh⟩ := hP
  have hx := Bd.exec
  have hby := Bd.bytes
  have hml : c.maxLocals = 5 := hml0
  have hown : s.vm.findClass "java/util/HashMap$Node" = some m.cls := findClass_of_methodNamed Bd.named
  have hnm := (name_of_methodNamed Bd.named Bd.method).1
  have hlk : meth.locks = false := by first | exact BodyLoose.notSynchronized Bd | exact Body.notSynchronized Bd
  have X0 : Stand p l e (⟨1, 0, 0, 12⟩ : Room) s m #[(.ref r0), (.int p1), (.ref r2), (.ref r3), .null] below meth c s₁ [] 0 0 := Stand.of_body Bd
  have e0 : s₁.heap = h0 := by rw [← hh, Bd.state]; rfl
  have N0 := Fr.nil n0
  have k0 : own_R p e below (s₁.setTop (entryFrame m #[(.ref r0), (.int p1), (.ref r2), (.ref r3), .null] 5)) (s₁.setTop (mkF m 0 #[vR r0, vI p1, vR r2, vR r3, .val .null] [])) := fun t k => castTop (ef_31 m r0 p1 r2 r3) k
  obtain ⟨A0, hA0⟩ : ∃ z, z = s₁.setTop (entryFrame m #[(.ref r0), (.int p1), (.ref r2), (.ref r3), .null] 5) := ⟨_, rfl⟩
  rw [← hA0] at k0
  have kz : ∀ t, Steps p.tables e below A0 t → Steps p.tables e below (s₁.setTop (entryFrame m #[(.ref r0), (.int p1), (.ref r2), (.ref r3), .null] 5)) t := fun t q => hA0 ▸ q
  have ks1 : own_R p e below (A0) (s₁.setTop (mkF m 1 #[vR r0, vI p1, vR r2, vR r3, .val .null] [(.ref r0)])) := fun t k => k0 t (by
    refine XS.aloadN X0.here hx rfl (hb hby d31_0) rfl rfl ?_
    exact k)
  obtain ⟨T2, X2, e2, st2⟩ := initO X0 hx hZ hown (own_w hw 195 rfl) (own_w hw 23 rfl) (own_w hw 24 rfl) e0 (g := (mkF m 1 #[vR r0, vI p1, vR r2, vR r3, .val .null] [(.ref r0)])) rfl (by rw [hml]; rfl) rfl (hb hby d31_1) (by decide) (W := 0) (by show 2 * 0 + _ ≤ _; exact Nat.le_of_eq rfl) (by decide)
  have ks3 := own_c ks1 st2
  have ks4 : own_R p e below (A0) (T2.setTop (mkF m 6 #[vR r0, vI p1, vR r2, vR r3, .val .null] [(.int p1), (.ref r0)])) := fun t k => ks3 t (by
    refine XS.aloadN X2.here hx rfl (hb hby d31_4) rfl rfl ?_
    refine XS.iloadN X2.here hx rfl (hb hby d31_5) rfl ?_
    exact k)
  obtain ⟨T5, h5, X5, e5, W5, st5⟩ := putF X2 hx hZ hown (host := "") (Or.inl (own_w hw 196 rfl)) Via.refl e2 Fh E0 (Or.inr ⟨(own_w hw 197 rfl), rfl, hnm⟩) (own_w hw 189 rfl) (ty := .int) (by decide) rfl rfl (g := (mkF m 6 #[vR r0, vI p1, vR r2, vR r3, .val .null] [(.int p1), (.ref r0)])) rfl rfl (hb hby d31_6)
  have Fw5 := Fh.same W5
  have KH5 : Keep h0 h5 [r0] := (Keep.refl h0 [r0]).wr W5 (Or.inl (List.mem_of_getElem? (i := 0) rfl))
  have Zn5 : n0 ≤ h5.size := Nat.le_trans Z0 (Keep.of_wr W5).1
  have N5 := Fr.snoc X5 N0 g_r0
  have ks6 := own_c ks4 st5
  have ks7 : own_R p e below (A0) (T5.setTop (mkF m 11 #[vR r0, vI p1, vR r2, vR r3, .val .null] [(.ref r2), (.ref r0)])) := fun t k => ks6 t (by
    refine XS.aloadN X5.here hx rfl (hb hby d31_9) rfl rfl ?_
    refine XS.aloadN X5.here hx rfl (hb hby d31_10) rfl rfl ?_
    exact k)
  have f8 := E0.keep KH5
  have f9 := (Fk.other W5 (Or.inr (slot_ne (Or.inr (own_w hw 199 rfl)) (Or.inr (own_w hw 197 rfl)) (by decide) (t := (.object "java/lang/Object")) (t' := .int) (by decide) (by decide))))
  obtain ⟨T10, h10, X10, e10, W10, st10⟩ := putF X5 hx hZ hown (host := "") (Or.inl (own_w hw 198 rfl)) Via.refl e5 f9 f8 (Or.inr ⟨(own_w hw 199 rfl), rfl, hnm⟩) (own_w hw 189 rfl) (ty := (.object "java/lang/Object")) (by decide) rfl rfl (g := (mkF m 11 #[vR r0, vI p1, vR r2, vR r3, .val .null] [(.ref r2), (.ref r0)])) rfl rfl (hb hby d31_11)
  have Fw10 := f9.same W10
  have KH10 : Keep h0 h10 [r0] := KH5.wr W10 (Or.inl (List.mem_of_getElem? (i := 0) rfl))
  have Zn10 : n0 ≤ h10.size := Nat.le_trans Zn5 (Keep.of_wr W10).1
  have N10 := Fr.snoc X10 N5 g_r0
  have ks11 := own_c ks7 st10
  have ks12 : own_R p e below (A0) (T10.setTop (mkF m 16 #[vR r0, vI p1, vR r2, vR r3, .val .null] [(.ref r3), (.ref r0)])) := fun t k => ks11 t (by
    refine XS.aloadN X10.here hx rfl (hb hby d31_14) rfl rfl ?_
    refine XS.aloadN X10.here hx rfl (hb hby d31_15) rfl rfl ?_
    exact k)
  have f13 := E0.keep KH10
  have f14 := ((Fv.other W5 (Or.inr (slot_ne (Or.inl (own_w hw 201 rfl)) (Or.inr (own_w hw 197 rfl)) (by decide) (t := (.object "java/lang/Object")) (t' := .int) (by decide) (by decide)))).other W10 (Or.inr (slot_ne (Or.inl (own_w hw 201 rfl)) (Or.inr (own_w hw 199 rfl)) (by decide) (t := (.object "java/lang/Object")) (t' := (.object "java/lang/Object")) (by decide) (by decide))))
  obtain ⟨T15, h15, X15, e15, W15, st15⟩ := putF X10 hx hZ hown (host := "") (Or.inl (own_w hw 200 rfl)) Via.refl e10 f14 f13 (Or.inl (own_w hw 201 rfl)) (own_w hw 189 rfl) (ty := (.object "java/lang/Object")) (by decide) rfl rfl (g := (mkF m 16 #[vR r0, vI p1, vR r2, vR r3, .val .null] [(.ref r3), (.ref r0)])) rfl rfl (hb hby d31_16)
  have Fw15 := f14.same W15
  have KH15 : Keep h0 h15 [r0] := KH10.wr W15 (Or.inl (List.mem_of_getElem? (i := 0) rfl))
  have Zn15 : n0 ≤ h15.size := Nat.le_trans Zn10 (Keep.of_wr W15).1
  have N15 := Fr.snoc X15 N10 g_r0
  have ks16 := own_c ks12 st15
  have ks17 : own_R p e below (A0) (T15.setTop (mkF m 22 #[vR r0, vI p1, vR r2, vR r3, .val .null] [.null, (.ref r0)])) := fun t k => ks16 t (by
    refine XS.aloadN X15.here hx rfl (hb hby d31_19) rfl rfl ?_
    refine XS.aload X15.here hx rfl (hb hby d31_20) rfl rfl ?_
    exact k)
  have f18 := E0.keep KH15
  have f19 := (((Fn.other W5 (Or.inr (slot_ne (Or.inl (own_w hw 203 rfl)) (Or.inr (own_w hw 197 rfl)) (by decide) (t := (.object "java/util/HashMap$Node")) (t' := .int) (by decide) (by decide)))).other W10 (Or.inr (slot_ne (Or.inl (own_w hw 203 rfl)) (Or.inr (own_w hw 199 rfl)) (by decide) (t := (.object "java/util/HashMap$Node")) (t' := (.object "java/lang/Object")) (by decide) (by decide)))).other W15 (Or.inr (slot_ne (Or.inl (own_w hw 203 rfl)) (Or.inl (own_w hw 201 rfl)) (by decide) (t := (.object "java/util/HashMap$Node")) (t' := (.object "java/lang/Object")) (by decide) (by decide))))
  obtain ⟨T20, h20, X20, e20, W20, st20⟩ := putF X15 hx hZ hown (host := "") (Or.inl (own_w hw 202 rfl)) Via.refl e15 f19 f18 (Or.inl (own_w hw 203 rfl)) (own_w hw 189 rfl) (ty := (.object "java/util/HashMap$Node")) (by decide) rfl rfl (g := (mkF m 22 #[vR r0, vI p1, vR r2, vR r3, .val .null] [.null, (.ref r0)])) rfl rfl (hb hby d31_22)
  have Fw20 := f19.same W20
  have KH20 : Keep h0 h20 [r0] := KH15.wr W20 (Or.inl (List.mem_of_getElem? (i := 0) rfl))
  have Zn20 : n0 ≤ h20.size := Nat.le_trans Zn15 (Keep.of_wr W20).1
  have N20 := Fr.snoc X20 N15 g_r0
  have ks21 := own_c ks17 st20
  obtain ⟨fs, hr, hrun, hended, hW, hsame⟩ := X20.leave (v := none) (fun _ => rfl) hlk
  refine ⟨_, _, kz _ (ks21 _ ?_), hrun, hended, _, _, rfl, ?_, ⟨_, rfl⟩, hW, hsame.mono (by decide) (by decide)⟩
  · exact X20.returnOut hx Bd.returns (hb hby d31_25) hr
  · show Q31 Z r0 p1 r2 r3 h0 n0 _ T20.heap _
    rw [e20]
    have f22 := (((Fw5.other W10 (Or.inr (slot_ne (Or.inr (own_w hw 197 rfl)) (Or.inr (own_w hw 199 rfl)) (by decide) (t := .int) (t' := (.object "java/lang/Object")) (by decide) (by decide)))).other W15 (Or.inr (slot_ne (Or.inr (own_w hw 197 rfl)) (Or.inl (own_w hw 201 rfl)) (by decide) (t := .int) (t' := (.object "java/lang/Object")) (by decide) (by decide)))).other W20 (Or.inr (slot_ne (Or.inr (own_w hw 197 rfl)) (Or.inl (own_w hw 203 rfl)) (by decide) (t := .int) (t' := (.object "java/util/HashMap$Node")) (by decide) (by decide))))
    have f23 := ((Fw10.other W15 (Or.inr (slot_ne (Or.inr (own_w hw 199 rfl)) (Or.inl (own_w hw 201 rfl)) (by decide) (t := (.object "java/lang/Object")) (t' := (.object "java/lang/Object")) (by decide) (by decide)))).other W20 (Or.inr (slot_ne (Or.inr (own_w hw 199 rfl)) (Or.inl (own_w hw 203 rfl)) (by decide) (t := (.object "java/lang/Object")) (t' := (.object "java/util/HashMap$Node")) (by decide) (by decide))))
    exact ⟨rfl, N20, KH20, f22, f23⟩
theorem d30_0 : dk bc32 0 (.new 163) 3 := by decide +kernel
theorem d30_3 : dk bc32 3 (.dup) 1 := by decide +kernel
theorem d30_4 : dk bc32 4 (.iload_n 1) 1 := by decide +kernel
theorem d30_5 : dk bc32 5 (.aload_n 2) 1 := by decide +kernel
theorem d30_6 : dk bc32 6 (.aload_n 3) 1 := by decide +kernel
theorem d30_7 : dk bc32 7 (.aload 4) 2 := by decide +kernel
theorem d30_9 : dk bc32 9 (.invokespecial 375) 3 := by decide +kernel
theorem d30_12 : dk bc32 12 (.areturn) 1 := by decide +kernel
theorem pn_30 : plainName "java/util/HashMap" = true := by first | (simp [plainName, overriddenIn]; done) | decide +kernel
theorem pd_21 : parseMethodDescriptor "(ILjava/lang/Object;Ljava/lang/Object;Ljava/util/HashMap$Node;)V" = some ⟨[.int, (.object "java/lang/Object"), (.object "java/lang/Object"), (.object "java/util/HashMap$Node")], none⟩ := by decide +kernel
theorem ef_30 (m : MethodId) (x0 : Addr) (x1 : Int32) (x2 : Addr) (x3 : Addr) : entryFrame m #[(.ref x0), (.int x1), (.ref x2), (.ref x3), .null] 5 = mkF m 0 #[.val (.ref x0), .val (.int x1), .val (.ref x2), .val (.ref x3), .val .null] [] := by first | (simp [entryFrame, mkF, argsToLocals, Value.category]; done) | rfl
def Q30 (Z : State) (r0 : Addr) (p1 : Int32) (r2 : Addr) (r3 : Addr) (h0 : Heap) (n0 : Nat) (v : Option Value) (h : Heap) (L : List Loc) : Prop := ∃ b : Addr, v = some (.ref b) ∧ Fr n0 L ∧ Keep h0 h [] ∧ n0 ≤ b ∧ h0.size ≤ b ∧ Exa Z h b "java/util/HashMap$Node" ∧ Fld Z h b "java/util/HashMap$Node" "hash" "I" (.int p1) ∧ Fld Z h b "java/util/HashMap$Node" "key" "Ljava/lang/Object;" (.ref r2)
set_option maxRecDepth 65536 in
set_option maxHeartbeats 40000000 in
theorem rm30 (l : Launch) (Z : State) (a0 : Array Value) (hw : ∀ d ∈ tables_1, d.before a0 Z = true) (ws : List Jvm.Cond) (r0 : Addr) (p1 : Int32) (r2 : Addr) (r3 : Addr) (h0 : Heap) (n0 : Nat) (Z0 : n0 ≤ h0.size) :
    MetFree l Y32 (head1 (Jvm.Cond.code Y32 jdk_69_method_46_code 5 (some (.object "java/util/HashMap$Node")) :: ws) (⟨2, 1, 4, 29⟩ : Room)) (fun a U => a = #[(.ref r0), (.int p1), (.ref r2), (.ref r3), .null] ∧ Z.Warmed39 U.vm ∧ U.heap = h0) (fun _ _ _ _ _ => True) (fun _ U o U' => ∃ v L, o = .returned v ∧ Q30 Z r0 p1 r2 r3 h0 n0 v U'.heap L ∧ FrameEnd U o U' L (⟨2, 1, 4, 29⟩ : Room).cells (⟨2, 1, 4, 29⟩ : Room).slots) := by
  refine MetFree.of_bodySF (plainFor_of_name pn_30) hisR ?_
  intro p e s m args below meth c s₁ Bd hml0 hP hK
  obtain ⟨rfl, hZ, hh⟩ := hP
  have hx := Bd.exec
  have hby := Bd.bytes
  have hml : c.maxLocals = 5 := hml0
  have hown : s.vm.findClass "java/util/HashMap" = some m.cls := findClass_of_methodNamed Bd.named
  have hnm := (name_of_methodNamed Bd.named Bd.method).1
  have hlk : meth.locks = false := by first | exact BodyLoose.notSynchronized Bd | exact Body.notSynchronized Bd
  have X0 : Stand p l e (⟨2, 1, 4, 29⟩ : Room) s m #[(.ref r0), (.int p1), (.ref r2), (.ref r3), .null] below meth c s₁ [] 0 0 := Stand.of_body Bd
  have e0 : s₁.heap = h0 := by rw [← hh, Bd.state]; rfl
  have N0 := Fr.nil n0
  have k0 : own_R p e below (s₁.setTop (entryFrame m #[(.ref r0), (.int p1), (.ref r2), (.ref r3), .null] 5)) (s₁.setTop (mkF m 0 #[vR r0, vI p1, vR r2, vR r3, .val .null] [])) := fun t k => castTop (ef_30 m r0 p1 r2 r3) k
  obtain ⟨A0, hA0⟩ : ∃ z, z = s₁.setTop (entryFrame m #[(.ref r0), (.int p1), (.ref r2), (.ref r3), .null] 5) := ⟨_, rfl⟩
  rw [← hA0] at k0
  have kz : ∀ t, Steps p.tables e below A0 t → Steps p.tables e below (s₁.setTop (entryFrame m #[(.ref r0), (.int p1), (.ref r2), (.ref r3), .null] 5)) t := fun t q => hA0 ▸ q
  obtain ⟨T1, h1, X1, e1, E1, A1, D1, -, st1⟩ := newO X0 hx hZ hown (own_w hw 182 rfl) (own_w hw 189 rfl) (own_w hw 190 rfl) e0 (g := (mkF m 0 #[vR r0, vI p1, vR r2, vR r3, .val .null] [])) rfl (hb hby d30_0) (by decide) (by decide)
  obtain ⟨b1, g1⟩ : ∃ z, z = h0.size := ⟨_, rfl⟩
  rw [← g1] at A1 D1 st1
  have g_b1 : n0 ≤ b1 := Nat.le_trans Z0 (Nat.le_of_eq g1.symm)
  have sz_b1 : h0.size ≤ b1 := Nat.le_trans (Keep.refl h0 []).1 (Nat.le_of_eq g1.symm)
  have KH1 : Keep h0 h1 [] := (Keep.refl h0 []).ext E1
  have Zn1 : n0 ≤ h1.size := Nat.le_trans Z0 E1.1
  have F_hash_b1 : Fld Z h1 b1 "java/util/HashMap$Node" "hash" "I" (.int 0) := D1 (Or.inr (own_w hw 197 rfl)) (ty := .int) (by decide)
  have F_key_b1 : Fld Z h1 b1 "java/util/HashMap$Node" "key" "Ljava/lang/Object;" .null := D1 (Or.inr (own_w hw 199 rfl)) (ty := (.object "java/lang/Object")) (by decide)
  have F_value_b1 : Fld Z h1 b1 "java/util/HashMap$Node" "value" "Ljava/lang/Object;" .null := D1 (Or.inl (own_w hw 201 rfl)) (ty := (.object "java/lang/Object")) (by decide)
  have F_next_b1 : Fld Z h1 b1 "java/util/HashMap$Node" "next" "Ljava/util/HashMap$Node;" .null := D1 (Or.inl (own_w hw 203 rfl)) (ty := (.object "java/util/HashMap$Node")) (by decide)
  have ks2 := own_c k0 st1
  have ks3 : own_R p e below (A0) (T1.setTop (mkF m 9 #[vR r0, vI p1, vR r2, vR r3, .val .null] [.null, (.ref r3), (.ref r2), (.int p1), (.ref b1), (.ref b1)])) := fun t k => ks2 t (by
    refine XS.dup X1.here hx rfl (hb hby d30_3) rfl rfl ?_
    refine XS.iloadN X1.here hx rfl (hb hby d30_4) rfl ?_
    refine XS.aloadN X1.here hx rfl (hb hby d30_5) rfl rfl ?_
    show Steps p.tables e below (T1.setTop (mkF m 6 #[vR r0, vI p1, vR r2, vR r3, .val .null] [(.ref r2), (.int p1), (.ref b1), (.ref b1)])) _
    refine XS.aloadN X1.here hx rfl (hb hby d30_6) rfl rfl ?_
    refine XS.aload X1.here hx rfl (hb hby d30_7) rfl rfl ?_
    exact k)
  obtain ⟨_, _, ⟨T4, L4, k4, n4⟩, -, X4, ⟨Lc4, hQ4, lq4, yq4, zq4⟩, st4⟩ := X1.specialBack hx (y := Y31) rfl hown (mvT hZ (own_w hw 191 rfl)) (mvT hZ (own_w hw 192 rfl)) (mvT hZ (own_w hw 194 rfl)) (by decide) (backOf (W := 1) (rm31 l Z a0 hw [] b1 p1 r2 r3 h1 n0 Zn1 A1 F_hash_b1 F_key_b1 F_value_b1 F_next_b1 g_b1) hZ (own_w hw 194 rfl) (own_w hw 190 rfl) (by decide) (by decide)) (g := (mkF m 9 #[vR r0, vI p1, vR r2, vR r3, .val .null] [.null, (.ref r3), (.ref r2), (.int p1), (.ref b1), (.ref b1)])) rfl (by rw [hml]; rfl) (Steps.refl _) (a := b1) (argsL := [(.int p1), (.ref r2), (.ref r3), .null]) (rest := [(.ref b1)]) (lenOf pd_21 rfl) rfl (by show 2 * 0 + _ ≤ _; exact Nat.le_of_eq rfl) (hb hby d30_9) (fun _ _ => ⟨rfl, e1, (by decide : 1 + 0 ≤ _), (by decide : 4 + 0 ≤ _)⟩)
  dsimp only [Pt.U, Pt.locs, Pt.cells, Pt.slots] at X4 lq4 yq4 zq4 st4 hQ4
  obtain rfl : k4 = 1 := yq4
  obtain rfl : n4 = 4 := zq4
  obtain ⟨rfl, Nq4, Kq4, Fh4, Fk4⟩ := hQ4
  have N4 := Fr.app N0 Nq4
  have KH4 : Keep h0 T4.heap [] := KH1.trans Kq4 (allS (Or.inr sz_b1) all0)
  have Zn4 : n0 ≤ T4.heap.size := Nat.le_trans Zn1 Kq4.1
  have N4' : Fr n0 L4 := by rw [lq4]; exact N4
  have ks5 := own_ct ks3 st4
  obtain ⟨fs, hr, hrun, hended, hW, hsame⟩ := X4.leave (v := some (.ref b1)) (fun h => by rw [Bd.returns] at h; cases h) hlk
  refine ⟨_, _, kz _ (ks5 _ ?_), hrun, hended, _, _, rfl, ?_, ⟨_, rfl⟩, hW, hsame.mono (by decide) (by decide)⟩
  · exact retOut X4 hx Bd.returns rfl (Or.inr (Or.inr (Or.inr (Or.inr ⟨rfl, rfl, rfl⟩)))) (hb hby d30_12) hr
  · show Q30 Z r0 p1 r2 r3 h0 n0 _ T4.heap _
    have f6 := (A1.keep Kq4)
    exact ⟨b1, rfl, N4', KH4, g_b1, sz_b1, f6, Fh4, Fk4⟩
theorem d32_0 : dk bc33 0 (.return_) 1 := by decide +kernel
theorem pn_32 : plainName "java/util/HashMap" = true := by first | (simp [plainName, overriddenIn]; done) | decide +kernel
theorem ef_32 (m : MethodId) (x0 : Addr) (x1 : Int32) : entryFrame m #[(.ref x0), (.int x1)] 2 = mkF m 0 #[.val (.ref x0), .val (.int x1)] [] := by first | (simp [entryFrame, mkF, argsToLocals, Value.category]; done) | rfl
def Q32 (Z : State) (r0 : Addr) (h0 : Heap) (n0 : Nat) (v : Option Value) (h : Heap) (L : List Loc) : Prop := v = none ∧ Fr n0 L ∧ h = h0
set_option maxRecDepth 65536 in
set_option maxHeartbeats 40000000 in
theorem rm32 (l : Launch) (Z : State) (a0 : Array Value) (hw : ∀ d ∈ tables_1, d.before a0 Z = true) (ws : List Jvm.Cond) (r0 : Addr) (h0 : Heap) (n0 : Nat) (Z0 : n0 ≤ h0.size) :
    MetFree l Y33 (head1 (Jvm.Cond.code Y33 jdk_69_method_52_code 2 none :: ws) (⟨0, 0, 0, 0⟩ : Room)) (fun a U => a = #[(.ref r0), (.int 1)] ∧ Z.Warmed39 U.vm ∧ U.heap = h0) (fun _ _ _ _ _ => True) (fun _ U o U' => ∃ v L, o = .returned v ∧ Q32 Z r0 h0 n0 v U'.heap L ∧ FrameEnd U o U' L (⟨0, 0, 0, 0⟩ : Room).cells (⟨0, 0, 0, 0⟩ : Room).slots) := by
  refine MetFree.of_bodySF (plainFor_of_name pn_32) hisR ?_
  intro p e s m args below meth c s₁ Bd hml0 hP hK
  obtain ⟨rfl, hZ, hh⟩ := hP
  have hx := Bd.exec
  have hby := Bd.bytes
  have hml : c.maxLocals = 2 := hml0
  have hown : s.vm.findClass "java/util/HashMap" = some m.cls := findClass_of_methodNamed Bd.named
  have hnm := (name_of_methodNamed Bd.named Bd.method).1
  have hlk : meth.locks = false := by first | exact BodyLoose.notSynchronized Bd | exact Body.notSynchronized Bd
  have X0 : Stand p l e (⟨0, 0, 0, 0⟩ : Room) s m #[(.ref r0), (.int 1)] below meth c s₁ [] 0 0 := Stand.of_body Bd
  have e0 : s₁.heap = h0 := by rw [← hh, Bd.state]; rfl
  have N0 := Fr.nil n0
  have k0 : own_R p e below (s₁.setTop (entryFrame m #[(.ref r0), (.int 1)] 2)) (s₁.setTop (mkF m 0 #[vR r0, vI 1] [])) := fun t k => castTop (ef_32 m r0 (1 : Int32)) k
  obtain ⟨A0, hA0⟩ : ∃ z, z = s₁.setTop (entryFrame m #[(.ref r0), (.int 1)] 2) := ⟨_, rfl⟩
  rw [← hA0] at k0
  have kz : ∀ t, Steps p.tables e below A0 t → Steps p.tables e below (s₁.setTop (entryFrame m #[(.ref r0), (.int 1)] 2)) t := fun t q => hA0 ▸ q
  obtain ⟨fs, hr, hrun, hended, hW, hsame⟩ := X0.leave (v := none) (fun _ => rfl) hlk
  refine ⟨_, _, kz _ (k0 _ ?_), hrun, hended, _, _, rfl, ?_, ⟨_, rfl⟩, hW, hsame.mono (by decide) (by decide)⟩
  · exact X0.returnOut hx Bd.returns (hb hby d32_0) hr
  · show Q32 Z r0 h0 n0 _ s₁.heap _
    rw [e0]
    exact ⟨rfl, N0, rfl⟩
theorem d28_0 : dk bc34 0 (.aload_n 0) 1 := by decide +kernel
theorem d28_1 : dk bc34 1 (.getfield 105) 3 := by decide +kernel
theorem d28_4 : dk bc34 4 (.dup) 1 := by decide +kernel
theorem d28_5 : dk bc34 5 (.astore 6) 2 := by decide +kernel
theorem d28_7 : dk bc34 7 (.ifnull 12) 3 := by decide +kernel
theorem d28_19 : dk bc34 19 (.aload_n 0) 1 := by decide +kernel
theorem d28_20 : dk bc34 20 (.invokevirtual 117) 3 := by decide +kernel
theorem d28_23 : dk bc34 23 (.dup) 1 := by decide +kernel
theorem d28_24 : dk bc34 24 (.astore 6) 2 := by decide +kernel
theorem d28_26 : dk bc34 26 (.arraylength) 1 := by decide +kernel
theorem d28_27 : dk bc34 27 (.istore 8) 2 := by decide +kernel
theorem d28_29 : dk bc34 29 (.aload 6) 2 := by decide +kernel
theorem d28_31 : dk bc34 31 (.iload 8) 2 := by decide +kernel
theorem d28_33 : dk bc34 33 (.iconst 1) 1 := by decide +kernel
theorem d28_34 : dk bc34 34 (.isub) 1 := by decide +kernel
theorem d28_35 : dk bc34 35 (.iload_n 1) 1 := by decide +kernel
theorem d28_36 : dk bc34 36 (.iand) 1 := by decide +kernel
theorem d28_37 : dk bc34 37 (.dup) 1 := by decide +kernel
theorem d28_38 : dk bc34 38 (.istore 9) 2 := by decide +kernel
theorem d28_40 : dk bc34 40 (.aaload) 1 := by decide +kernel
theorem d28_41 : dk bc34 41 (.dup) 1 := by decide +kernel
theorem d28_42 : dk bc34 42 (.astore 7) 2 := by decide +kernel
theorem d28_44 : dk bc34 44 (.ifnonnull 19) 3 := by decide +kernel
theorem d28_47 : dk bc34 47 (.aload 6) 2 := by decide +kernel
theorem d28_49 : dk bc34 49 (.iload 9) 2 := by decide +kernel
theorem d28_51 : dk bc34 51 (.aload_n 0) 1 := by decide +kernel
theorem d28_52 : dk bc34 52 (.iload_n 1) 1 := by decide +kernel
theorem d28_53 : dk bc34 53 (.aload_n 2) 1 := by decide +kernel
theorem d28_54 : dk bc34 54 (.aload_n 3) 1 := by decide +kernel
theorem d28_55 : dk bc34 55 (.aconst_null) 1 := by decide +kernel
theorem d28_56 : dk bc34 56 (.invokevirtual 186) 3 := by decide +kernel
theorem d28_59 : dk bc34 59 (.aastore) 1 := by decide +kernel
theorem d28_60 : dk bc34 60 (.goto 199) 3 := by decide +kernel
theorem d28_259 : dk bc34 259 (.aload_n 0) 1 := by decide +kernel
theorem d28_260 : dk bc34 260 (.dup) 1 := by decide +kernel
theorem d28_261 : dk bc34 261 (.getfield 202) 3 := by decide +kernel
theorem d28_264 : dk bc34 264 (.iconst 1) 1 := by decide +kernel
theorem d28_265 : dk bc34 265 (.iadd) 1 := by decide +kernel
theorem d28_266 : dk bc34 266 (.putfield 202) 3 := by decide +kernel
theorem d28_269 : dk bc34 269 (.aload_n 0) 1 := by decide +kernel
theorem d28_270 : dk bc34 270 (.dup) 1 := by decide +kernel
theorem d28_271 : dk bc34 271 (.getfield 156) 3 := by decide +kernel
theorem d28_274 : dk bc34 274 (.iconst 1) 1 := by decide +kernel
theorem d28_275 : dk bc34 275 (.iadd) 1 := by decide +kernel
theorem d28_276 : dk bc34 276 (.dup_x1) 1 := by decide +kernel
theorem d28_277 : dk bc34 277 (.putfield 156) 3 := by decide +kernel
theorem d28_280 : dk bc34 280 (.aload_n 0) 1 := by decide +kernel
theorem d28_281 : dk bc34 281 (.getfield 88) 3 := by decide +kernel
theorem d28_284 : dk bc34 284 (.if_icmp .le 8) 3 := by decide +kernel
theorem d28_292 : dk bc34 292 (.aload_n 0) 1 := by decide +kernel
theorem d28_293 : dk bc34 293 (.iload 5) 2 := by decide +kernel
theorem d28_295 : dk bc34 295 (.invokevirtual 205) 3 := by decide +kernel
theorem d28_298 : dk bc34 298 (.aconst_null) 1 := by decide +kernel
theorem d28_299 : dk bc34 299 (.areturn) 1 := by decide +kernel
theorem pn_28 : plainName "java/util/HashMap" = true := by first | (simp [plainName, overriddenIn]; done) | decide +kernel
theorem pd_19 : parseMethodDescriptor "()[Ljava/util/HashMap$Node;" = some ⟨[], some (.array (.object "java/util/HashMap$Node"))⟩ := by decide +kernel
theorem pd_20 : parseMethodDescriptor "(ILjava/lang/Object;Ljava/lang/Object;Ljava/util/HashMap$Node;)Ljava/util/HashMap$Node;" = some ⟨[.int, (.object "java/lang/Object"), (.object "java/lang/Object"), (.object "java/util/HashMap$Node")], some (.object "java/util/HashMap$Node")⟩ := by decide +kernel
theorem pd_22 : parseMethodDescriptor "(Z)V" = some ⟨[.boolean], none⟩ := by decide +kernel
theorem ef_28 (m : MethodId) (x0 : Addr) (x1 : Int32) (x2 : Addr) (x3 : Addr) (x4 : Int32) (x5 : Int32) : entryFrame m #[(.ref x0), (.int x1), (.ref x2), (.ref x3), (.int x4), (.int x5)] 13 = mkF m 0 #[.val (.ref x0), .val (.int x1), .val (.ref x2), .val (.ref x3), .val (.int x4), .val (.int x5), .unset, .unset, .unset, .unset, .unset, .unset, .unset] [] := by first | (simp [entryFrame, mkF, argsToLocals, Value.category]; done) | rfl
def Q28 (Z : State) (r0 : Addr) (p1 : Int32) (r2 : Addr) (r3 : Addr) (h0 : Heap) (n0 : Nat) (v : Option Value) (h : Heap) (L : List Loc) : Prop := v = some .null ∧ Fr n0 L ∧ Keep h0 h [r0] ∧ ∃ (tab nd : Addr) (kt : ClassId), n0 ≤ tab ∧ h0.size ≤ tab ∧ n0 ≤ nd ∧ h0.size ≤ nd ∧ tab ≠ nd ∧ Fld Z h r0 "java/util/HashMap" "table" "[Ljava/util/HashMap$Node;" (.ref tab) ∧ Arh Z h tab kt (.object "java/util/HashMap$Node") 16 [(((15 : Int32) &&& p1), .ref nd)] [] .null ∧ Exa Z h nd "java/util/HashMap$Node" ∧ Fld Z h nd "java/util/HashMap$Node" "hash" "I" (.int p1) ∧ Fld Z h nd "java/util/HashMap$Node" "key" "Ljava/lang/Object;" (.ref r2)
set_option maxRecDepth 65536 in
set_option maxHeartbeats 40000000 in
theorem rm28 (l : Launch) (Z : State) (a0 : Array Value) (hw : ∀ d ∈ tables_1, d.before a0 Z = true) (ws : List Jvm.Cond) (r0 : Addr) (p1 : Int32) (r2 : Addr) (r3 : Addr) (h0 : Heap) (n0 : Nat) (Z0 : n0 ≤ h0.size) (E0 : Exa Z h0 r0 "java/util/HashMap") (Ft : Fld Z h0 r0 "java/util/HashMap" "table" "[Ljava/util/HashMap$Node;" .null) (Fh : Fld Z h0 r0 "java/util/HashMap" "threshold" "I" (.int 0)) (Fm : Fld Z h0 r0 "java/util/HashMap" "modCount" "I" (.int 0)) (Fs : Fld Z h0 r0 "java/util/HashMap" "size" "I" (.int 0)) (hc0 : own_ch p1) (g_r0 : n0 ≤ r0) :
    MetFree l Y34 (head1 (Jvm.Cond.code Y34 jdk_69_method_16_code 13 (some (.object "java/lang/Object")) :: ws) (⟨3, 2, 20, 47⟩ : Room)) (fun a U => a = #[(.ref r0), (.int p1), (.ref r2), (.ref r3), (.int 0), (.int 1)] ∧ Z.Warmed39 U.vm ∧ U.heap = h0) (fun _ _ _ _ _ => True) (fun _ U o U' => ∃ v L, o = .returned v ∧ Q28 Z r0 p1 r2 r3 h0 n0 v U'.heap L ∧ FrameEnd U o U' L (⟨3, 2, 20, 47⟩ : Room).cells (⟨3, 2, 20, 47⟩ : Room).slots) := by
  refine MetFree.of_bodySF (plainFor_of_name pn_28) hisR ?_
  intro p e s m args below meth c s₁ Bd hml0 hP hK
  obtain ⟨rfl, hZ, hh⟩ := hP
  have hx := Bd.exec
  have hby := Bd.bytes
  have hml : c.maxLocals = 13 := hml0
  have hown : s.vm.findClass "java/util/HashMap" = some m.cls := findClass_of_methodNamed Bd.named
  have hnm := (name_of_methodNamed Bd.named Bd.method).1
  have hlk : meth.locks = false := by first | exact BodyLoose.notSynchronized Bd | exact Body.notSynchronized Bd
  have X0 : Stand p l e (⟨3, 2, 20, 47⟩ : Room) s m #[(.ref r0), (.int p1), (.ref r2), (.ref r3), (.int 0), (.int 1)] below meth c s₁ [] 0 0 := Stand.of_body Bd
  have e0 : s₁.heap = h0 := by rw [← hh, Bd.state]; rfl
  have N0 := Fr.nil n0
  have k0 : own_R p e below (s₁.setTop (entryFrame m #[(.ref r0), (.int p1), (.ref r2), (.ref r3), (.int 0), (.int 1)] 13)) (s₁.setTop (mkF m 0 #[vR r0, vI p1, vR r2, vR r3, vI 0, vI 1, .unset, .unset, .unset, .unset, .unset, .unset, .unset] [])) := fun t k => castTop (ef_28 m r0 p1 r2 r3 (0 : Int32) (1 : Int32)) k
  obtain ⟨A0, hA0⟩ : ∃ z, z = s₁.setTop (entryFrame m #[(.ref r0), (.int p1), (.ref r2), (.ref r3), (.int 0), (.int 1)] 13) := ⟨_, rfl⟩
  rw [← hA0] at k0
  have kz : ∀ t, Steps p.tables e below A0 t → Steps p.tables e below (s₁.setTop (entryFrame m #[(.ref r0), (.int p1), (.ref r2), (.ref r3), (.int 0), (.int 1)] 13)) t := fun t q => hA0 ▸ q
  have ks1 : own_R p e below (A0) (s₁.setTop (mkF m 1 #[vR r0, vI p1, vR r2, vR r3, vI 0, vI 1, .unset, .unset, .unset, .unset, .unset, .unset, .unset] [(.ref r0)])) := fun t k => k0 t (by
    refine XS.aloadN X0.here hx rfl (hb hby d28_0) rfl rfl ?_
    exact k)
  obtain ⟨T2, X2, e2, st2⟩ := getF X0 hx hZ hown (host := "") (Or.inl (own_w hw 173 rfl)) Via.refl e0 Ft (g := (mkF m 1 #[vR r0, vI p1, vR r2, vR r3, vI 0, vI 1, .unset, .unset, .unset, .unset, .unset, .unset, .unset] [(.ref r0)])) rfl rfl (hb hby d28_1)
  have ks3 := own_c ks1 st2
  have ks4 : own_R p e below (A0) (T2.setTop (mkF m 20 #[vR r0, vI p1, vR r2, vR r3, vI 0, vI 1, .val .null, .unset, .unset, .unset, .unset, .unset, .unset] [(.ref r0)])) := fun t k => ks3 t (by
    refine XS.dup X2.here hx rfl (hb hby d28_4) rfl rfl ?_
    refine XS.astore X2.here hx rfl (hb hby d28_5) rfl rfl (l' := #[vR r0, vI p1, vR r2, vR r3, vI 0, vI 1, .val .null, .unset, .unset, .unset, .unset, .unset, .unset]) rfl ?_
    refine XS.ifnullYes X2.here hx rfl (pc0 := 7) (pc' := 19) rfl (hb hby d28_7) rfl (by decide) (by decide) ?_
    show Steps p.tables e below (T2.setTop (mkF m 19 #[vR r0, vI p1, vR r2, vR r3, vI 0, vI 1, .val .null, .unset, .unset, .unset, .unset, .unset, .unset] [])) _
    refine XS.aloadN X2.here hx rfl (hb hby d28_19) rfl rfl ?_
    exact k)
  obtain ⟨cq5, kq5, q5a, q5b, q5c⟩ := isOf hZ e2 E0
  obtain ⟨_, _, ⟨T5, L5, k5, n5⟩, -, X5, ⟨Lc5, hQ5, lq5, yq5, zq5⟩, st5⟩ := X2.virtualBack hx (y := Y30) (z := Y30) hown (mvT hZ (own_w hw 175 rfl)) (mvT hZ (own_w hw 176 rfl)) (notFace_of_selects (args := #[]) (mvT hZ (own_w hw 178 rfl))) (mvT hZ (own_w hw 178 rfl)) (mvT hZ (own_w hw 177 rfl)) (by decide) (backOf (W := 0) (rm29 l Z a0 hw [] r0 h0 n0 Z0 E0 Ft Fh Fm Fs g_r0) hZ (own_w hw 179 rfl) (own_w hw 119 rfl) (by decide) (by decide)) q5a q5c (g := (mkF m 20 #[vR r0, vI p1, vR r2, vR r3, vI 0, vI 1, .val .null, .unset, .unset, .unset, .unset, .unset, .unset] [(.ref r0)])) rfl (by rw [hml]; rfl) (Steps.refl _) (argsL := []) (rest := []) (lenOf pd_19 rfl) rfl (by show 2 * 0 + _ ≤ _; exact Nat.le_of_eq rfl) (hb hby d28_20) (fun _ _ => ⟨rfl, e2, (by decide : 0 + 1 ≤ _), (by decide : 0 + 16 ≤ _)⟩)
  dsimp only [Pt.U, Pt.locs, Pt.cells, Pt.slots] at X5 lq5 yq5 zq5 st5 hQ5
  obtain rfl : k5 = 1 := yq5
  obtain rfl : n5 = 16 := zq5
  obtain ⟨bq5, kq5, rfl, Nq5, Kq5, g_bq5, szq5, Ft5, Fh5, Fm5, Fs5, Vq5, Oq5⟩ := hQ5
  have N5 := Fr.app N0 Nq5
  have KH5 : Keep h0 T5.heap [r0] := (Keep.refl h0 [r0]).trans Kq5 (allS (Or.inl (List.mem_of_getElem? (i := 0) rfl)) all0)
  have Zn5 : n0 ≤ T5.heap.size := Nat.le_trans Z0 Kq5.1
  have ne_r0_bq5 := nls E0.lt szq5
  have sz_bq5 : h0.size ≤ bq5 := Nat.le_trans (Keep.refl h0 [r0]).1 szq5
  have N5' : Fr n0 L5 := by rw [lq5]; exact N5
  have ks6 := own_ct ks4 st5
  have ks7 : own_R p e below (A0) (T5.setTop (mkF m 26 #[vR r0, vI p1, vR r2, vR r3, vI 0, vI 1, vR bq5, .unset, .unset, .unset, .unset, .unset, .unset] [(.ref bq5)])) := fun t k => ks6 t (by
    refine XS.dup X5.here hx rfl (hb hby d28_23) rfl rfl ?_
    refine XS.astore X5.here hx rfl (hb hby d28_24) rfl rfl (l' := #[vR r0, vI p1, vR r2, vR r3, vI 0, vI 1, vR bq5, .unset, .unset, .unset, .unset, .unset, .unset]) rfl ?_
    exact k)
  obtain ⟨cl8, Ar8, qa8, S8, Na8, Ha8, Ga8⟩ := id Vq5
  have ks9 : own_R p e below (A0) (T5.setTop (mkF m 56 #[vR r0, vI p1, vR r2, vR r3, vI 0, vI 1, vR bq5, .val .null, vI 16, vI ((15 : Int32) &&& p1), .unset, .unset, .unset] [.null, (.ref r3), (.ref r2), (.int p1), (.ref r0), (.int ((15 : Int32) &&& p1)), (.ref bq5)])) := fun t k => ks7 t (by
    refine X5.arraylength hx Ar8.1 (State.isArrayOf_alike hZ.alike Ar8.2.1) (g := (mkF m 26 #[vR r0, vI p1, vR r2, vR r3, vI 0, vI 1, vR bq5, .unset, .unset, .unset, .unset, .unset, .unset] [(.ref bq5)])) rfl rfl (hb hby d28_26) _ ?_
    rw [len_of S8 Na8]
    refine XS.istore X5.here hx rfl (hb hby d28_27) rfl (l' := #[vR r0, vI p1, vR r2, vR r3, vI 0, vI 1, vR bq5, .unset, vI 16, .unset, .unset, .unset, .unset]) rfl ?_
    refine XS.aload X5.here hx rfl (hb hby d28_29) rfl rfl ?_
    show Steps p.tables e below (T5.setTop (mkF m 31 #[vR r0, vI p1, vR r2, vR r3, vI 0, vI 1, vR bq5, .unset, vI 16, .unset, .unset, .unset, .unset] [(.ref bq5)])) _
    refine XS.iload X5.here hx rfl (hb hby d28_31) rfl ?_
    refine XS.iconst X5.here hx rfl (hb hby d28_33) ?_
    refine XS.isub X5.here hx rfl (hb hby d28_34) rfl ?_
    refine XS.iloadN X5.here hx rfl (hb hby d28_35) rfl ?_
    show Steps p.tables e below (T5.setTop (mkF m 36 #[vR r0, vI p1, vR r2, vR r3, vI 0, vI 1, vR bq5, .unset, vI 16, .unset, .unset, .unset, .unset] [(.int p1), (.int 15), (.ref bq5)])) _
    refine XS.iand X5.here hx rfl (hb hby d28_36) rfl ?_
    refine XS.dup X5.here hx rfl (hb hby d28_37) rfl rfl ?_
    refine XS.istore X5.here hx rfl (hb hby d28_38) rfl (l' := #[vR r0, vI p1, vR r2, vR r3, vI 0, vI 1, vR bq5, .unset, vI 16, vI ((15 : Int32) &&& p1), .unset, .unset, .unset]) rfl ?_
    refine X5.aaload hx (j := ((15 : Int32) &&& p1)) (v := .null) Ar8.1 (State.isArrayOf_alike hZ.alike Ar8.2.1) rfl Ar8.2.2 (inb_of S8 (own_ch_in hc0)) (Has.at Ha8 (inb_of S8 (own_ch_in hc0)) rfl) (g := (mkF m 40 #[vR r0, vI p1, vR r2, vR r3, vI 0, vI 1, vR bq5, .unset, vI 16, vI ((15 : Int32) &&& p1), .unset, .unset, .unset] [(.int ((15 : Int32) &&& p1)), (.ref bq5)])) rfl rfl (hb hby d28_40) _ ?_
    show Steps p.tables e below (T5.setTop (mkF m 41 #[vR r0, vI p1, vR r2, vR r3, vI 0, vI 1, vR bq5, .unset, vI 16, vI ((15 : Int32) &&& p1), .unset, .unset, .unset] [.null])) _
    refine XS.dup X5.here hx rfl (hb hby d28_41) rfl rfl ?_
    refine XS.astore X5.here hx rfl (hb hby d28_42) rfl rfl (l' := #[vR r0, vI p1, vR r2, vR r3, vI 0, vI 1, vR bq5, .val .null, vI 16, vI ((15 : Int32) &&& p1), .unset, .unset, .unset]) rfl ?_
    refine XS.ifnonnullNo X5.here hx rfl (hb hby d28_44) rfl ?_
    refine XS.aload X5.here hx rfl (hb hby d28_47) rfl rfl ?_
    show Steps p.tables e below (T5.setTop (mkF m 49 #[vR r0, vI p1, vR r2, vR r3, vI 0, vI 1, vR bq5, .val .null, vI 16, vI ((15 : Int32) &&& p1), .unset, .unset, .unset] [(.ref bq5)])) _
    refine XS.iload X5.here hx rfl (hb hby d28_49) rfl ?_
    refine XS.aloadN X5.here hx rfl (hb hby d28_51) rfl rfl ?_
    refine XS.iloadN X5.here hx rfl (hb hby d28_52) rfl ?_
    refine XS.aloadN X5.here hx rfl (hb hby d28_53) rfl rfl ?_
    show Steps p.tables e below (T5.setTop (mkF m 54 #[vR r0, vI p1, vR r2, vR r3, vI 0, vI 1, vR bq5, .val .null, vI 16, vI ((15 : Int32) &&& p1), .unset, .unset, .unset] [(.ref r2), (.int p1), (.ref r0), (.int ((15 : Int32) &&& p1)), (.ref bq5)])) _
    refine XS.aloadN X5.here hx rfl (hb hby d28_54) rfl rfl ?_
    refine XS.aconstNull X5.here hx rfl (hb hby d28_55) ?_
    exact k)
  have f11 := E0.keep KH5
  obtain ⟨cq10, kq10, q10a, q10b, q10c⟩ := isOf hZ rfl f11
  obtain ⟨_, _, ⟨T10, L10, k10, n10⟩, -, X10, ⟨Lc10, hQ10, lq10, yq10, zq10⟩, st10⟩ := X5.virtualBack hx (y := Y32) (z := Y32) hown (mvT hZ (own_w hw 184 rfl)) (mvT hZ (own_w hw 185 rfl)) (notFace_of_selects (args := #[]) (mvT hZ (own_w hw 187 rfl))) (mvT hZ (own_w hw 187 rfl)) (mvT hZ (own_w hw 186 rfl)) (by decide) (backOf (W := 2) (rm30 l Z a0 hw [] r0 p1 r2 r3 T5.heap n0 Zn5 ) hZ (own_w hw 188 rfl) (own_w hw 119 rfl) (by decide) (by decide)) q10a q10c (g := (mkF m 56 #[vR r0, vI p1, vR r2, vR r3, vI 0, vI 1, vR bq5, .val .null, vI 16, vI ((15 : Int32) &&& p1), .unset, .unset, .unset] [.null, (.ref r3), (.ref r2), (.int p1), (.ref r0), (.int ((15 : Int32) &&& p1)), (.ref bq5)])) rfl (by rw [hml]; rfl) (Steps.refl _) (argsL := [(.int p1), (.ref r2), (.ref r3), .null]) (rest := [(.int ((15 : Int32) &&& p1)), (.ref bq5)]) (lenOf pd_20 rfl) rfl (by show 2 * 0 + _ ≤ _; exact Nat.le_of_eq rfl) (hb hby d28_56) (fun _ _ => ⟨rfl, rfl, (by decide : 1 + 1 ≤ _), (by decide : 16 + 4 ≤ _)⟩)
  dsimp only [Pt.U, Pt.locs, Pt.cells, Pt.slots] at X10 lq10 yq10 zq10 st10 hQ10
  obtain rfl : k10 = 2 := yq10
  obtain rfl : n10 = 20 := zq10
  obtain ⟨bq10, rfl, Nq10, Kq10, g_bq10, szq10, Ex10, Fh10, Fk10⟩ := hQ10
  have N10 := Fr.app N5' Nq10
  have KH10 : Keep h0 T10.heap [r0] := KH5.trans Kq10 all0
  have Zn10 : n0 ≤ T10.heap.size := Nat.le_trans Zn5 Kq10.1
  have ne_r0_bq10 := nls f11.lt szq10
  have ne_bq5_bq10 := nls Vq5.lt szq10
  have sz_bq10 : h0.size ≤ bq10 := Nat.le_trans KH5.1 szq10
  have N10' : Fr n0 L10 := by rw [lq10]; exact N10
  have ks12 := own_ct ks9 st10
  have f13 := (Vq5.keep Kq10 nin0)
  obtain ⟨cl14, Ar14, qa14, S14, Na14, Ha14, Ga14⟩ := f13.arh
  have hin14 := inb_of S14 (own_ch_in hc0)
  obtain ⟨T15, h15, X15, e15, W15, st15⟩ := stR X10 hx hZ rfl Ar14 (j := ((15 : Int32) &&& p1)) hin14 rfl (Sto.ofV Ar14 qa14 Oq5 (Ins.self Ex10)) (g := (mkF m 59 #[vR r0, vI p1, vR r2, vR r3, vI 0, vI 1, vR bq5, .val .null, vI 16, vI ((15 : Int32) &&& p1), .unset, .unset, .unset] [(.ref bq10), (.int ((15 : Int32) &&& p1)), (.ref bq5)])) rfl rfl (hb hby d28_59)
  have V15 : Arh Z h15 bq5 kq5 (.object "java/util/HashMap$Node") 16 [(((15 : Int32) &&& p1), .ref bq10)] [] .null := Arh.push Ar14 qa14 S14 Na14 Ha14 Ga14 rfl W15 hin14
  have KH15 : Keep h0 h15 [r0] := KH10.wr W15 (Or.inr sz_bq5)
  have Zn15 : n0 ≤ h15.size := Nat.le_trans Zn10 (Keep.of_wr W15).1
  have N15 := Fr.snoc X15 N10' g_bq5
  have ks16 := own_c ks12 st15
  have ks17 : own_R p e below (A0) (T15.setTop (mkF m 261 #[vR r0, vI p1, vR r2, vR r3, vI 0, vI 1, vR bq5, .val .null, vI 16, vI ((15 : Int32) &&& p1), .unset, .unset, .unset] [(.ref r0), (.ref r0)])) := fun t k => ks16 t (by
    refine XS.goto X15.here hx rfl (pc0 := 60) (pc' := 259) rfl (hb hby d28_60) (by decide) (by decide) ?_
    refine XS.aloadN X15.here hx rfl (hb hby d28_259) rfl rfl ?_
    refine XS.dup X15.here hx rfl (hb hby d28_260) rfl rfl ?_
    exact k)
  have f18 := ((Fm5.keep Kq10 nin0).other W15 (Or.inl ne_r0_bq5))
  obtain ⟨T19, X19, e19, st19⟩ := getF X15 hx hZ hown (host := "") (Or.inl (own_w hw 204 rfl)) Via.refl e15 f18 (g := (mkF m 261 #[vR r0, vI p1, vR r2, vR r3, vI 0, vI 1, vR bq5, .val .null, vI 16, vI ((15 : Int32) &&& p1), .unset, .unset, .unset] [(.ref r0), (.ref r0)])) rfl rfl (hb hby d28_261)
  have ks20 := own_c ks17 st19
  have ks21 : own_R p e below (A0) (T19.setTop (mkF m 266 #[vR r0, vI p1, vR r2, vR r3, vI 0, vI 1, vR bq5, .val .null, vI 16, vI ((15 : Int32) &&& p1), .unset, .unset, .unset] [(.int 1), (.ref r0)])) := fun t k => ks20 t (by
    refine XS.iconst X19.here hx rfl (hb hby d28_264) ?_
    refine XS.iadd X19.here hx rfl (hb hby d28_265) rfl ?_
    exact k)
  have f22 := E0.keep KH15
  obtain ⟨T23, h23, X23, e23, W23, st23⟩ := putF X19 hx hZ hown (host := "") (Or.inl (own_w hw 204 rfl)) Via.refl e19 f18 f22 (Or.inl (own_w hw 205 rfl)) (own_w hw 118 rfl) (ty := .int) (by decide) rfl rfl (g := (mkF m 266 #[vR r0, vI p1, vR r2, vR r3, vI 0, vI 1, vR bq5, .val .null, vI 16, vI ((15 : Int32) &&& p1), .unset, .unset, .unset] [(.int 1), (.ref r0)])) rfl rfl (hb hby d28_266)
  have Fw23 := f18.same W23
  have KH23 : Keep h0 h23 [r0] := KH15.wr W23 (Or.inl (List.mem_of_getElem? (i := 0) rfl))
  have Zn23 : n0 ≤ h23.size := Nat.le_trans Zn15 (Keep.of_wr W23).1
  have N23 := Fr.snoc X23 N15 g_r0
  have ks24 := own_c ks21 st23
  have ks25 : own_R p e below (A0) (T23.setTop (mkF m 271 #[vR r0, vI p1, vR r2, vR r3, vI 0, vI 1, vR bq5, .val .null, vI 16, vI ((15 : Int32) &&& p1), .unset, .unset, .unset] [(.ref r0), (.ref r0)])) := fun t k => ks24 t (by
    refine XS.aloadN X23.here hx rfl (hb hby d28_269) rfl rfl ?_
    refine XS.dup X23.here hx rfl (hb hby d28_270) rfl rfl ?_
    exact k)
  have f26 := (((Fs5.keep Kq10 nin0).other W15 (Or.inl ne_r0_bq5)).other W23 (Or.inr (slot_ne (Or.inl (own_w hw 207 rfl)) (Or.inl (own_w hw 205 rfl)) (by decide) (t := .int) (t' := .int) (by decide) (by decide))))
  obtain ⟨T27, X27, e27, st27⟩ := getF X23 hx hZ hown (host := "") (Or.inl (own_w hw 206 rfl)) Via.refl e23 f26 (g := (mkF m 271 #[vR r0, vI p1, vR r2, vR r3, vI 0, vI 1, vR bq5, .val .null, vI 16, vI ((15 : Int32) &&& p1), .unset, .unset, .unset] [(.ref r0), (.ref r0)])) rfl rfl (hb hby d28_271)
  have ks28 := own_c ks25 st27
  have ks29 : own_R p e below (A0) (T27.setTop (mkF m 277 #[vR r0, vI p1, vR r2, vR r3, vI 0, vI 1, vR bq5, .val .null, vI 16, vI ((15 : Int32) &&& p1), .unset, .unset, .unset] [(.int 1), (.ref r0), (.int 1)])) := fun t k => ks28 t (by
    refine XS.iconst X27.here hx rfl (hb hby d28_274) ?_
    refine XS.iadd X27.here hx rfl (hb hby d28_275) rfl ?_
    refine XS.dupX1 X27.here hx rfl (hb hby d28_276) rfl rfl rfl ?_
    exact k)
  have f30 := E0.keep KH23
  obtain ⟨T31, h31, X31, e31, W31, st31⟩ := putF X27 hx hZ hown (host := "") (Or.inl (own_w hw 206 rfl)) Via.refl e27 f26 f30 (Or.inl (own_w hw 207 rfl)) (own_w hw 118 rfl) (ty := .int) (by decide) rfl rfl (g := (mkF m 277 #[vR r0, vI p1, vR r2, vR r3, vI 0, vI 1, vR bq5, .val .null, vI 16, vI ((15 : Int32) &&& p1), .unset, .unset, .unset] [(.int 1), (.ref r0), (.int 1)])) rfl rfl (hb hby d28_277)
  have Fw31 := f26.same W31
  have KH31 : Keep h0 h31 [r0] := KH23.wr W31 (Or.inl (List.mem_of_getElem? (i := 0) rfl))
  have Zn31 : n0 ≤ h31.size := Nat.le_trans Zn23 (Keep.of_wr W31).1
  have N31 := Fr.snoc X31 N23 g_r0
  have ks32 := own_c ks29 st31
  have ks33 : own_R p e below (A0) (T31.setTop (mkF m 281 #[vR r0, vI p1, vR r2, vR r3, vI 0, vI 1, vR bq5, .val .null, vI 16, vI ((15 : Int32) &&& p1), .unset, .unset, .unset] [(.ref r0), (.int 1)])) := fun t k => ks32 t (by
    refine XS.aloadN X31.here hx rfl (hb hby d28_280) rfl rfl ?_
    exact k)
  have f34 := ((((Fh5.keep Kq10 nin0).other W15 (Or.inl ne_r0_bq5)).other W23 (Or.inr (slot_ne (Or.inl (own_w hw 181 rfl)) (Or.inl (own_w hw 205 rfl)) (by decide) (t := .int) (t' := .int) (by decide) (by decide)))).other W31 (Or.inr (slot_ne (Or.inl (own_w hw 181 rfl)) (Or.inl (own_w hw 207 rfl)) (by decide) (t := .int) (t' := .int) (by decide) (by decide))))
  obtain ⟨T35, X35, e35, st35⟩ := getF X31 hx hZ hown (host := "") (Or.inl (own_w hw 180 rfl)) Via.refl e31 f34 (g := (mkF m 281 #[vR r0, vI p1, vR r2, vR r3, vI 0, vI 1, vR bq5, .val .null, vI 16, vI ((15 : Int32) &&& p1), .unset, .unset, .unset] [(.ref r0), (.int 1)])) rfl rfl (hb hby d28_281)
  have ks36 := own_c ks33 st35
  have ks37 : own_R p e below (A0) (T35.setTop (mkF m 295 #[vR r0, vI p1, vR r2, vR r3, vI 0, vI 1, vR bq5, .val .null, vI 16, vI ((15 : Int32) &&& p1), .unset, .unset, .unset] [(.int 1), (.ref r0)])) := fun t k => ks36 t (by
    refine XS.icmpYes X35.here hx rfl (pc0 := 284) (pc' := 292) rfl (hb hby d28_284) rfl (flt (by decide)).2.2.2 (by decide) (by decide) ?_
    refine XS.aloadN X35.here hx rfl (hb hby d28_292) rfl rfl ?_
    refine XS.iload X35.here hx rfl (hb hby d28_293) rfl ?_
    exact k)
  have f39 := E0.keep KH31
  obtain ⟨cq38, kq38, q38a, q38b, q38c⟩ := isOf hZ e35 f39
  obtain ⟨_, _, ⟨T38, L38, k38, n38⟩, -, X38, ⟨Lc38, hQ38, lq38, yq38, zq38⟩, st38⟩ := X35.virtualBack hx (y := Y33) (z := Y33) hown (mvT hZ (own_w hw 208 rfl)) (mvT hZ (own_w hw 209 rfl)) (notFace_of_selects (args := #[]) (mvT hZ (own_w hw 211 rfl))) (mvT hZ (own_w hw 211 rfl)) (mvT hZ (own_w hw 210 rfl)) (by decide) (backOf (W := 0) (rm32 l Z a0 hw [] r0 h31 n0 Zn31 ) hZ (own_w hw 212 rfl) (own_w hw 119 rfl) (by decide) (by decide)) q38a q38c (g := (mkF m 295 #[vR r0, vI p1, vR r2, vR r3, vI 0, vI 1, vR bq5, .val .null, vI 16, vI ((15 : Int32) &&& p1), .unset, .unset, .unset] [(.int 1), (.ref r0)])) rfl (by rw [hml]; rfl) (Steps.refl _) (argsL := [(.int 1)]) (rest := []) (lenOf pd_22 rfl) rfl (by show 2 * 0 + _ ≤ _; exact Nat.le_of_eq rfl) (hb hby d28_295) (fun _ _ => ⟨rfl, e35, (by decide : 2 + 0 ≤ _), (by decide : 20 + 0 ≤ _)⟩)
  dsimp only [Pt.U, Pt.locs, Pt.cells, Pt.slots] at X38 lq38 yq38 zq38 st38 hQ38
  obtain rfl : k38 = 2 := yq38
  obtain rfl : n38 = 20 := zq38
  obtain ⟨rfl, Nq38, eq38⟩ := hQ38
  have N38 := Fr.app N31 Nq38
  have N38' : Fr n0 L38 := by rw [lq38]; exact N38
  have ks40 := own_ct ks37 st38
  have ks41 : own_R p e below (A0) (T38.setTop (mkF m 299 #[vR r0, vI p1, vR r2, vR r3, vI 0, vI 1, vR bq5, .val .null, vI 16, vI ((15 : Int32) &&& p1), .unset, .unset, .unset] [.null])) := fun t k => ks40 t (by
    refine XS.aconstNull X38.here hx rfl (hb hby d28_298) ?_
    exact k)
  obtain ⟨fs, hr, hrun, hended, hW, hsame⟩ := X38.leave (v := some .null) (fun h => by rw [Bd.returns] at h; cases h) hlk
  refine ⟨_, _, kz _ (ks41 _ ?_), hrun, hended, _, _, rfl, ?_, ⟨_, rfl⟩, hW, hsame.mono (by decide) (by decide)⟩
  · exact retOut X38 hx Bd.returns rfl (Or.inr (Or.inr (Or.inr (Or.inr ⟨rfl, rfl, rfl⟩)))) (hb hby d28_299) hr
  · show Q28 Z r0 p1 r2 r3 h0 n0 _ T38.heap _
    rw [eq38]
    have f42 := ((((Ft5.keep Kq10 nin0).other W15 (Or.inl ne_r0_bq5)).other W23 (Or.inr (slot_ne (Or.inl (own_w hw 174 rfl)) (Or.inl (own_w hw 205 rfl)) (by decide) (t := (.array (.object "java/util/HashMap$Node"))) (t' := .int) (by decide) (by decide)))).other W31 (Or.inr (slot_ne (Or.inl (own_w hw 174 rfl)) (Or.inl (own_w hw 207 rfl)) (by decide) (t := (.array (.object "java/util/HashMap$Node"))) (t' := .int) (by decide) (by decide))))
    have f43 := (((Ex10.wr W15).wr W23).wr W31)
    have f44 := (((Fh10.other W15 (Or.inl (Ne.symm ne_bq5_bq10))).other W23 (Or.inl (Ne.symm ne_r0_bq10))).other W31 (Or.inl (Ne.symm ne_r0_bq10)))
    have f45 := (((Fk10.other W15 (Or.inl (Ne.symm ne_bq5_bq10))).other W23 (Or.inl (Ne.symm ne_r0_bq10))).other W31 (Or.inl (Ne.symm ne_r0_bq10)))
    exact ⟨rfl, N38', KH31, bq5, bq10, _, g_bq5, sz_bq5, g_bq10, sz_bq10, ne_bq5_bq10, f42, ((V15.other W23 (Ne.symm ne_r0_bq5)).other W31 (Ne.symm ne_r0_bq5)), f43, f44, f45⟩
theorem own_T_keep {Z : State} {h h' : Heap} {s t : Addr} {k : ClassId} {c : Int32} {ws : List Addr} (H : own_T Z h s t k c) (K : Keep h h' ws) (q1 : s ∉ ws) (q2 : t ∉ ws) : own_T Z h' s t k c := by
  obtain ⟨E, Cd, F, V, ⟨x, z, Hh, Hz, hd⟩, n, hc⟩ := H
  exact ⟨E.keep K, Cd.keep K q1, F.keep K q1, V.keep K q2, ⟨x, z, Hh.keep K q1, Hz.keep K q1, hd⟩, n, hc⟩
theorem d23_0 : dk bc35 0 (.aload_n 0) 1 := by decide +kernel
theorem d23_1 : dk bc35 1 (.aload_n 1) 1 := by decide +kernel
theorem d23_2 : dk bc35 2 (.invokestatic 149) 3 := by decide +kernel
theorem d23_5 : dk bc35 5 (.aload_n 1) 1 := by decide +kernel
theorem d23_6 : dk bc35 6 (.aload_n 2) 1 := by decide +kernel
theorem d23_7 : dk bc35 7 (.iconst 0) 1 := by decide +kernel
theorem d23_8 : dk bc35 8 (.iconst 1) 1 := by decide +kernel
theorem d23_9 : dk bc35 9 (.invokevirtual 152) 3 := by decide +kernel
theorem d23_12 : dk bc35 12 (.areturn) 1 := by decide +kernel
theorem pn_23 : plainName "java/util/HashMap" = true := by first | (simp [plainName, overriddenIn]; done) | decide +kernel
theorem pd_14 : parseMethodDescriptor "(Ljava/lang/Object;)I" = some ⟨[(.object "java/lang/Object")], some .int⟩ := by decide +kernel
theorem pd_18 : parseMethodDescriptor "(ILjava/lang/Object;Ljava/lang/Object;ZZ)Ljava/lang/Object;" = some ⟨[.int, (.object "java/lang/Object"), (.object "java/lang/Object"), .boolean, .boolean], some (.object "java/lang/Object")⟩ := by decide +kernel
theorem ef_23 (m : MethodId) (x0 : Addr) (x1 : Addr) (x2 : Addr) : entryFrame m #[(.ref x0), (.ref x1), (.ref x2)] 3 = mkF m 0 #[.val (.ref x0), .val (.ref x1), .val (.ref x2)] [] := by first | (simp [entryFrame, mkF, argsToLocals, Value.category]; done) | rfl
def Q23 (Z : State) (r0 : Addr) (r1 : Addr) (r2 : Addr) (y9 : Int32) (t1 : Addr) (kt1 : ClassId) (y1 : Int32) (h0 : Heap) (n0 : Nat) (v : Option Value) (h : Heap) (L : List Loc) : Prop := v = some .null ∧ Fr n0 L ∧ Keep h0 h [r0, r1] ∧ own_T Z h r1 t1 kt1 y1 ∧ ∃ (tab nd : Addr) (kt : ClassId), n0 ≤ tab ∧ h0.size ≤ tab ∧ n0 ≤ nd ∧ h0.size ≤ nd ∧ tab ≠ nd ∧ Fld Z h r0 "java/util/HashMap" "table" "[Ljava/util/HashMap$Node;" (.ref tab) ∧ Arh Z h tab kt (.object "java/util/HashMap$Node") 16 [(((15 : Int32) &&& y1), .ref nd)] [] .null ∧ Exa Z h nd "java/util/HashMap$Node" ∧ Fld Z h nd "java/util/HashMap$Node" "hash" "I" (.int y1) ∧ Fld Z h nd "java/util/HashMap$Node" "key" "Ljava/lang/Object;" (.ref r1)
set_option maxRecDepth 65536 in
set_option maxHeartbeats 40000000 in
theorem rm23 (l : Launch) (Z : State) (a0 : Array Value) (hw : ∀ d ∈ tables_1, d.before a0 Z = true) (ws : List Jvm.Cond) (r0 : Addr) (r1 : Addr) (r2 : Addr) (y9 : Int32) (t1 : Addr) (kt1 : ClassId) (y1 : Int32) (h0 : Heap) (n0 : Nat) (Z0 : n0 ≤ h0.size) (S9 : own_S9 Z h0 y9) (P9 : ¬ y9 = (0 : Int32)) (E0 : Exa Z h0 r0 "java/util/HashMap") (Ft : Fld Z h0 r0 "java/util/HashMap" "table" "[Ljava/util/HashMap$Node;" .null) (Fh : Fld Z h0 r0 "java/util/HashMap" "threshold" "I" (.int 0)) (Fm : Fld Z h0 r0 "java/util/HashMap" "modCount" "I" (.int 0)) (Fs : Fld Z h0 r0 "java/util/HashMap" "size" "I" (.int 0)) (hT : own_T Z h0 r1 t1 kt1 y1) (g_r0 : n0 ≤ r0) (g_r1 : n0 ≤ r1) (n01 : r0 ≠ r1) (n0t : r0 ≠ t1) :
    MetFree l Y35 (head1 (Jvm.Cond.code Y35 jdk_69_method_15_code 3 (some (.object "java/lang/Object")) :: ws) (⟨4, 2, 20, 71⟩ : Room)) (fun a U => a = #[(.ref r0), (.ref r1), (.ref r2)] ∧ Z.Warmed39 U.vm ∧ U.heap = h0) (fun _ _ _ _ _ => True) (fun _ U o U' => ∃ v L, o = .returned v ∧ Q23 Z r0 r1 r2 y9 t1 kt1 y1 h0 n0 v U'.heap L ∧ FrameEnd U o U' L (⟨4, 2, 20, 71⟩ : Room).cells (⟨4, 2, 20, 71⟩ : Room).slots) := by
  refine MetFree.of_bodySF (plainFor_of_name pn_23) hisR ?_
  intro p e s m args below meth c s₁ Bd hml0 hP hK
  obtain ⟨rfl, hZ, hh⟩ := hP
  have hx := Bd.exec
  have hby := Bd.bytes
  have hml : c.maxLocals = 3 := hml0
  have hown : s.vm.findClass "java/util/HashMap" = some m.cls := findClass_of_methodNamed Bd.named
  have hnm := (name_of_methodNamed Bd.named Bd.method).1
  have hlk : meth.locks = false := by first | exact BodyLoose.notSynchronized Bd | exact Body.notSynchronized Bd
  have X0 : Stand p l e (⟨4, 2, 20, 71⟩ : Room) s m #[(.ref r0), (.ref r1), (.ref r2)] below meth c s₁ [] 0 0 := Stand.of_body Bd
  have e0 : s₁.heap = h0 := by rw [← hh, Bd.state]; rfl
  have N0 := Fr.nil n0
  have k0 : own_R p e below (s₁.setTop (entryFrame m #[(.ref r0), (.ref r1), (.ref r2)] 3)) (s₁.setTop (mkF m 0 #[vR r0, vR r1, vR r2] [])) := fun t k => castTop (ef_23 m r0 r1 r2) k
  obtain ⟨A0, hA0⟩ : ∃ z, z = s₁.setTop (entryFrame m #[(.ref r0), (.ref r1), (.ref r2)] 3) := ⟨_, rfl⟩
  rw [← hA0] at k0
  have kz : ∀ t, Steps p.tables e below A0 t → Steps p.tables e below (s₁.setTop (entryFrame m #[(.ref r0), (.ref r1), (.ref r2)] 3)) t := fun t q => hA0 ▸ q
  obtain ⟨E1, Cd1, F1, V1, hs1, nt1, hc1⟩ := id hT
  have hc0 := hc1
  have ks1 : own_R p e below (A0) (s₁.setTop (mkF m 2 #[vR r0, vR r1, vR r2] [(.ref r1), (.ref r0)])) := fun t k => k0 t (by
    refine XS.aloadN X0.here hx rfl (hb hby d23_0) rfl rfl ?_
    refine XS.aloadN X0.here hx rfl (hb hby d23_1) rfl rfl ?_
    exact k)
  obtain ⟨_, _, ⟨T2, L2, k2, n2⟩, -, X2, ⟨Lc2, hQ2, lq2, yq2, zq2⟩, st2⟩ := Jvm.LawKit.callS X0 hx (y := Y23) hown (mvT hZ (own_w hw 147 rfl)) (mvT hZ (own_w hw 148 rfl)) (mvT hZ (own_w hw 119 rfl)) (mvT hZ (own_w hw 149 rfl)) (by decide) (backOf (W := 1) (rm24 l Z a0 hw [] r1 y9 t1 kt1 y1 h0 n0 Z0 S9 P9 hT g_r1) hZ (own_w hw 149 rfl) (own_w hw 119 rfl) (by decide) (by decide)) (g := (mkF m 2 #[vR r0, vR r1, vR r2] [(.ref r1), (.ref r0)])) rfl (by rw [hml]; rfl) (argsL := [(.ref r1)]) (rest := [(.ref r0)]) (lenOf pd_14 rfl) rfl (by show 2 * 0 + _ ≤ _; exact Nat.le_of_eq rfl) (hb hby d23_2) (fun _ _ => ⟨rfl, e0, (by decide : 0 + 0 ≤ _), (by decide : 0 + 0 ≤ _)⟩)
  dsimp only [Pt.U, Pt.locs, Pt.cells, Pt.slots] at X2 lq2 yq2 zq2 st2 hQ2
  obtain rfl : k2 = 0 := yq2
  obtain rfl : n2 = 0 := zq2
  obtain ⟨rfl, Nq2, Kq2, Tq2⟩ := hQ2
  have N2 := Fr.app N0 Nq2
  have KH2 : Keep h0 T2.heap [r0, r1] := (Keep.refl h0 [r0, r1]).trans Kq2 (allS (Or.inl (List.mem_of_getElem? (i := 1) rfl)) all0)
  have Zn2 : n0 ≤ T2.heap.size := Nat.le_trans Z0 Kq2.1
  obtain ⟨Eo2, Co2, Fo2, Vo2, -, -, -⟩ := id Tq2
  have N2' : Fr n0 L2 := by rw [lq2]; exact N2
  have ks3 := own_c ks1 st2
  have ks4 : own_R p e below (A0) (T2.setTop (mkF m 9 #[vR r0, vR r1, vR r2] [(.int 1), (.int 0), (.ref r2), (.ref r1), (.int y1), (.ref r0)])) := fun t k => ks3 t (by
    refine XS.aloadN X2.here hx rfl (hb hby d23_5) rfl rfl ?_
    refine XS.aloadN X2.here hx rfl (hb hby d23_6) rfl rfl ?_
    refine XS.iconst X2.here hx rfl (hb hby d23_7) ?_
    show Steps p.tables e below (T2.setTop (mkF m 8 #[vR r0, vR r1, vR r2] [(.int 0), (.ref r2), (.ref r1), (.int y1), (.ref r0)])) _
    refine XS.iconst X2.here hx rfl (hb hby d23_8) ?_
    exact k)
  have f6 := E0.keep KH2
  have f7 := (Ft.keep Kq2 (ninS n01 nin0))
  have f8 := (Fh.keep Kq2 (ninS n01 nin0))
  have f9 := (Fm.keep Kq2 (ninS n01 nin0))
  have f10 := (Fs.keep Kq2 (ninS n01 nin0))
  obtain ⟨cq5, kq5, q5a, q5b, q5c⟩ := isOf hZ rfl f6
  obtain ⟨_, _, ⟨T5, L5, k5, n5⟩, -, X5, ⟨Lc5, hQ5, lq5, yq5, zq5⟩, st5⟩ := X2.virtualBack hx (y := Y34) (z := Y34) hown (mvT hZ (own_w hw 168 rfl)) (mvT hZ (own_w hw 169 rfl)) (notFace_of_selects (args := #[]) (mvT hZ (own_w hw 171 rfl))) (mvT hZ (own_w hw 171 rfl)) (mvT hZ (own_w hw 170 rfl)) (by decide) (backOf (W := 0) (rm28 l Z a0 hw [] r0 y1 r1 r2 T2.heap n0 Zn2 f6 f7 f8 f9 f10 hc0 g_r0) hZ (own_w hw 172 rfl) (own_w hw 119 rfl) (by decide) (by decide)) q5a q5c (g := (mkF m 9 #[vR r0, vR r1, vR r2] [(.int 1), (.int 0), (.ref r2), (.ref r1), (.int y1), (.ref r0)])) rfl (by rw [hml]; rfl) (Steps.refl _) (argsL := [(.int y1), (.ref r1), (.ref r2), (.int 0), (.int 1)]) (rest := []) (lenOf pd_18 rfl) rfl (by show 2 * 0 + _ ≤ _; exact Nat.le_of_eq rfl) (hb hby d23_9) (fun _ _ => ⟨rfl, rfl, (by decide : 0 + 2 ≤ _), (by decide : 0 + 20 ≤ _)⟩)
  dsimp only [Pt.U, Pt.locs, Pt.cells, Pt.slots] at X5 lq5 yq5 zq5 st5 hQ5
  obtain rfl : k5 = 2 := yq5
  obtain rfl : n5 = 20 := zq5
  obtain ⟨rfl, Nq5, Kq5, tab5, nd5, kt5, g_tab5, sq_tab5, g_nd5, sq_nd5, nq5, Ft5, Va5, En5, Fh5, Fk5⟩ := hQ5
  have N5 := Fr.app N2' Nq5
  have KH5 : Keep h0 T5.heap [r0, r1] := KH2.trans Kq5 (allS (Or.inl (List.mem_of_getElem? (i := 0) rfl)) all0)
  have Zn5 : n0 ≤ T5.heap.size := Nat.le_trans Zn2 Kq5.1
  have ne_r0_tab5 := nls f6.lt sq_tab5
  have ne_r1_tab5 := nls Eo2.lt sq_tab5
  have ne_t1_tab5 := nls Vo2.lt sq_tab5
  have sz_tab5 : h0.size ≤ tab5 := Nat.le_trans KH2.1 sq_tab5
  have ne_r0_nd5 := nls f6.lt sq_nd5
  have ne_r1_nd5 := nls Eo2.lt sq_nd5
  have ne_t1_nd5 := nls Vo2.lt sq_nd5
  have sz_nd5 : h0.size ≤ nd5 := Nat.le_trans KH2.1 sq_nd5
  have N5' : Fr n0 L5 := by rw [lq5]; exact N5
  have ks11 := own_ct ks4 st5
  obtain ⟨fs, hr, hrun, hended, hW, hsame⟩ := X5.leave (v := some .null) (fun h => by rw [Bd.returns] at h; cases h) hlk
  refine ⟨_, _, kz _ (ks11 _ ?_), hrun, hended, _, _, rfl, ?_, ⟨_, rfl⟩, hW, hsame.mono (by decide) (by decide)⟩
  · exact retOut X5 hx Bd.returns rfl (Or.inr (Or.inr (Or.inr (Or.inr ⟨rfl, rfl, rfl⟩)))) (hb hby d23_12) hr
  · show Q23 Z r0 r1 r2 y9 t1 kt1 y1 h0 n0 _ T5.heap _
    exact ⟨rfl, N5', KH5, (own_T_keep Tq2 Kq5 (ninS (Ne.symm n01) nin0) (ninS (Ne.symm n0t) nin0)), tab5, nd5, _, g_tab5, sz_tab5, g_nd5, sz_nd5, nq5, Ft5, Va5, En5, Fh5, Fk5⟩
theorem d22_0 : dk bc36 0 (.aload_n 0) 1 := by decide +kernel
theorem d22_1 : dk bc36 1 (.getfield 10) 3 := by decide +kernel
theorem d22_4 : dk bc36 4 (.aload_n 1) 1 := by decide +kernel
theorem d22_5 : dk bc36 5 (.getstatic 64) 3 := by decide +kernel
theorem d22_8 : dk bc36 8 (.invokevirtual 68) 3 := by decide +kernel
theorem d22_11 : dk bc36 11 (.ifnonnull 7) 3 := by decide +kernel
theorem d22_14 : dk bc36 14 (.iconst 1) 1 := by decide +kernel
theorem d22_15 : dk bc36 15 (.goto 4) 3 := by decide +kernel
theorem d22_19 : dk bc36 19 (.ireturn) 1 := by decide +kernel
theorem pn_22 : plainName "java/util/HashSet" = true := by first | (simp [plainName, overriddenIn]; done) | decide +kernel
theorem pd_13 : parseMethodDescriptor "(Ljava/lang/Object;Ljava/lang/Object;)Ljava/lang/Object;" = some ⟨[(.object "java/lang/Object"), (.object "java/lang/Object")], some (.object "java/lang/Object")⟩ := by decide +kernel
theorem ef_22 (m : MethodId) (x0 : Addr) (x1 : Addr) : entryFrame m #[(.ref x0), (.ref x1)] 2 = mkF m 0 #[.val (.ref x0), .val (.ref x1)] [] := by first | (simp [entryFrame, mkF, argsToLocals, Value.category]; done) | rfl
def Q22 (Z : State) (r0 : Addr) (r1 : Addr) (y9 : Int32) (hm : Addr) (pv : Addr) (t1 : Addr) (kt1 : ClassId) (y1 : Int32) (h0 : Heap) (n0 : Nat) (v : Option Value) (h : Heap) (L : List Loc) : Prop := v = some (.int 1) ∧ Fr n0 L ∧ Keep h0 h [hm, r1] ∧ own_T Z h r1 t1 kt1 y1 ∧ ∃ (tab nd : Addr) (kt : ClassId), n0 ≤ tab ∧ h0.size ≤ tab ∧ n0 ≤ nd ∧ h0.size ≤ nd ∧ tab ≠ nd ∧ Fld Z h hm "java/util/HashMap" "table" "[Ljava/util/HashMap$Node;" (.ref tab) ∧ Arh Z h tab kt (.object "java/util/HashMap$Node") 16 [(((15 : Int32) &&& y1), .ref nd)] [] .null ∧ Exa Z h nd "java/util/HashMap$Node" ∧ Fld Z h nd "java/util/HashMap$Node" "hash" "I" (.int y1) ∧ Fld Z h nd "java/util/HashMap$Node" "key" "Ljava/lang/Object;" (.ref r1)
set_option maxRecDepth 65536 in
set_option maxHeartbeats 40000000 in
theorem rm22 (l : Launch) (Z : State) (a0 : Array Value) (hw : ∀ d ∈ tables_1, d.before a0 Z = true) (ws : List Jvm.Cond) (r0 : Addr) (r1 : Addr) (y9 : Int32) (hm : Addr) (pv : Addr) (t1 : Addr) (kt1 : ClassId) (y1 : Int32) (h0 : Heap) (n0 : Nat) (Z0 : n0 ≤ h0.size) (S9 : own_S9 Z h0 y9) (P9 : ¬ y9 = (0 : Int32)) (E0 : Exa Z h0 hm "java/util/HashMap") (Ft : Fld Z h0 hm "java/util/HashMap" "table" "[Ljava/util/HashMap$Node;" .null) (Fh : Fld Z h0 hm "java/util/HashMap" "threshold" "I" (.int 0)) (Fm : Fld Z h0 hm "java/util/HashMap" "modCount" "I" (.int 0)) (Fs : Fld Z h0 hm "java/util/HashMap" "size" "I" (.int 0)) (hT : own_T Z h0 r1 t1 kt1 y1) (g_hm : n0 ≤ hm) (g_r1 : n0 ≤ r1) (n01 : hm ≠ r1) (n0t : hm ≠ t1) (Fp : Fld Z h0 r0 "java/util/HashSet" "map" "Ljava/util/HashMap;" (.ref hm)) (Sp : Sta Z h0 "java/util/HashSet" "PRESENT" "Ljava/lang/Object;" (.ref pv)) :
    MetFree l Y36 (head1 (Jvm.Cond.code Y36 jdk_93_method_10_code 2 (some .boolean) :: ws) (⟨5, 2, 20, 85⟩ : Room)) (fun a U => a = #[(.ref r0), (.ref r1)] ∧ Z.Warmed39 U.vm ∧ U.heap = h0) (fun _ _ _ _ _ => True) (fun _ U o U' => ∃ v L, o = .returned v ∧ Q22 Z r0 r1 y9 hm pv t1 kt1 y1 h0 n0 v U'.heap L ∧ FrameEnd U o U' L (⟨5, 2, 20, 85⟩ : Room).cells (⟨5, 2, 20, 85⟩ : Room).slots) := by
  refine MetFree.of_bodySF (plainFor_of_name pn_22) hisR ?_
  intro p e s m args below meth c s₁ Bd hml0 hP hK
  obtain ⟨rfl, hZ, hh⟩ := hP
  have hx := Bd.exec
  have hby := Bd.bytes
  have hml : c.maxLocals = 2 := hml0
  have hown : s.vm.findClass "java/util/HashSet" = some m.cls := findClass_of_methodNamed Bd.named
  have hnm := (name_of_methodNamed Bd.named Bd.method).1
  have hlk : meth.locks = false := by first | exact BodyLoose.notSynchronized Bd | exact Body.notSynchronized Bd
  have X0 : Stand p l e (⟨5, 2, 20, 85⟩ : Room) s m #[(.ref r0), (.ref r1)] below meth c s₁ [] 0 0 := Stand.of_body Bd
  have e0 : s₁.heap = h0 := by rw [← hh, Bd.state]; rfl
  have N0 := Fr.nil n0
  have k0 : own_R p e below (s₁.setTop (entryFrame m #[(.ref r0), (.ref r1)] 2)) (s₁.setTop (mkF m 0 #[vR r0, vR r1] [])) := fun t k => castTop (ef_22 m r0 r1) k
  obtain ⟨A0, hA0⟩ : ∃ z, z = s₁.setTop (entryFrame m #[(.ref r0), (.ref r1)] 2) := ⟨_, rfl⟩
  rw [← hA0] at k0
  have kz : ∀ t, Steps p.tables e below A0 t → Steps p.tables e below (s₁.setTop (entryFrame m #[(.ref r0), (.ref r1)] 2)) t := fun t q => hA0 ▸ q
  obtain ⟨E1, Cd1, F1, V1, hs1, nt1, hc1⟩ := id hT
  have ks1 : own_R p e below (A0) (s₁.setTop (mkF m 1 #[vR r0, vR r1] [(.ref r0)])) := fun t k => k0 t (by
    refine XS.aloadN X0.here hx rfl (hb hby d22_0) rfl rfl ?_
    exact k)
  obtain ⟨T2, X2, e2, st2⟩ := getF X0 hx hZ hown (host := "") (Or.inl (own_w hw 134 rfl)) Via.refl e0 Fp (g := (mkF m 1 #[vR r0, vR r1] [(.ref r0)])) rfl rfl (hb hby d22_1)
  have ks3 := own_c ks1 st2
  have ks4 : own_R p e below (A0) (T2.setTop (mkF m 5 #[vR r0, vR r1] [(.ref r1), (.ref hm)])) := fun t k => ks3 t (by
    refine XS.aloadN X2.here hx rfl (hb hby d22_4) rfl rfl ?_
    exact k)
  obtain ⟨T5, X5, e5, st5⟩ := getS2 X2 hx hZ hown (host := "") (Or.inl (own_w hw 141 rfl)) Via.refl e2 Sp (g := (mkF m 5 #[vR r0, vR r1] [(.ref r1), (.ref hm)])) rfl (hb hby d22_5)
  have ks6 := own_c ks4 st5
  obtain ⟨cq7, kq7, q7a, q7b, q7c⟩ := isOf hZ e5 E0
  obtain ⟨_, _, ⟨T7, L7, k7, n7⟩, -, X7, ⟨Lc7, hQ7, lq7, yq7, zq7⟩, st7⟩ := X5.virtualBack hx (y := Y35) (z := Y35) hown (mvT hZ (own_w hw 142 rfl)) (mvT hZ (own_w hw 143 rfl)) (notFace_of_selects (args := #[]) (mvT hZ (own_w hw 145 rfl))) (mvT hZ (own_w hw 145 rfl)) (mvT hZ (own_w hw 144 rfl)) (by decide) (backOf (W := 0) (rm23 l Z a0 hw [] hm r1 pv y9 t1 kt1 y1 h0 n0 Z0 S9 P9 E0 Ft Fh Fm Fs hT g_hm g_r1 n01 n0t) hZ (own_w hw 146 rfl) (own_w hw 119 rfl) (by decide) (by decide)) q7a q7c (g := (mkF m 8 #[vR r0, vR r1] [(.ref pv), (.ref r1), (.ref hm)])) rfl (by rw [hml]; rfl) (Steps.refl _) (argsL := [(.ref r1), (.ref pv)]) (rest := []) (lenOf pd_13 rfl) rfl (by show 2 * 0 + _ ≤ _; exact Nat.le_of_eq rfl) (hb hby d22_8) (fun _ _ => ⟨rfl, e5, (by decide : 0 + 2 ≤ _), (by decide : 0 + 20 ≤ _)⟩)
  dsimp only [Pt.U, Pt.locs, Pt.cells, Pt.slots] at X7 lq7 yq7 zq7 st7 hQ7
  obtain rfl : k7 = 2 := yq7
  obtain rfl : n7 = 20 := zq7
  obtain ⟨rfl, Nq7, Kq7, Tq7, tab7, nd7, kt7, g_tab7, sq_tab7, g_nd7, sq_nd7, nq7, Ft7, Va7, En7, Fh7, Fk7⟩ := hQ7
  have N7 := Fr.app N0 Nq7
  have KH7 : Keep h0 T7.heap [hm, r1] := (Keep.refl h0 [hm, r1]).trans Kq7 (allS (Or.inl (List.mem_of_getElem? (i := 0) rfl)) (allS (Or.inl (List.mem_of_getElem? (i := 1) rfl)) all0))
  have Zn7 : n0 ≤ T7.heap.size := Nat.le_trans Z0 Kq7.1
  have ne_hm_tab7 := nls E0.lt sq_tab7
  have ne_r1_tab7 := nls E1.lt sq_tab7
  have ne_t1_tab7 := nls V1.lt sq_tab7
  have sz_tab7 : h0.size ≤ tab7 := Nat.le_trans (Keep.refl h0 [hm, r1]).1 sq_tab7
  have ne_hm_nd7 := nls E0.lt sq_nd7
  have ne_r1_nd7 := nls E1.lt sq_nd7
  have ne_t1_nd7 := nls V1.lt sq_nd7
  have sz_nd7 : h0.size ≤ nd7 := Nat.le_trans (Keep.refl h0 [hm, r1]).1 sq_nd7
  have N7' : Fr n0 L7 := by rw [lq7]; exact N7
  have ks8 := own_ct ks6 st7
  have ks9 : own_R p e below (A0) (T7.setTop (mkF m 19 #[vR r0, vR r1] [(.int 1)])) := fun t k => ks8 t (by
    refine XS.ifnonnullNo X7.here hx rfl (hb hby d22_11) rfl ?_
    refine XS.iconst X7.here hx rfl (hb hby d22_14) ?_
    refine XS.goto X7.here hx rfl (pc0 := 15) (pc' := 19) rfl (hb hby d22_15) (by decide) (by decide) ?_
    exact k)
  obtain ⟨fs, hr, hrun, hended, hW, hsame⟩ := X7.leave (v := some (.int 1)) (fun h => by rw [Bd.returns] at h; cases h) hlk
  refine ⟨_, _, kz _ (ks9 _ ?_), hrun, hended, _, _, rfl, ?_, ⟨_, rfl⟩, hW, hsame.mono (by decide) (by decide)⟩
  · exact retN X7 hx (t := .boolean) Bd.returns (by simp) (hb hby d22_19) hr
  · show Q22 Z r0 r1 y9 hm pv t1 kt1 y1 h0 n0 _ T7.heap _
    exact ⟨rfl, N7', KH7, Tq7, tab7, nd7, _, g_tab7, sz_tab7, g_nd7, sz_nd7, nq7, Ft7, Va7, En7, Fh7, Fk7⟩
theorem d43_0 : dk bc37 0 (.aload_n 0) 1 := by decide +kernel
theorem d43_1 : dk bc37 1 (.getfield 105) 3 := by decide +kernel
theorem d43_4 : dk bc37 4 (.dup) 1 := by decide +kernel
theorem d43_5 : dk bc37 5 (.astore_n 2) 1 := by decide +kernel
theorem d43_6 : dk bc37 6 (.ifnull 142) 3 := by decide +kernel
theorem d43_148 : dk bc37 148 (.aconst_null) 1 := by decide +kernel
theorem d43_149 : dk bc37 149 (.areturn) 1 := by decide +kernel
theorem pn_43 : plainName "java/util/HashMap" = true := by first | (simp [plainName, overriddenIn]; done) | decide +kernel
theorem ef_43_e (m : MethodId) (x0 : Addr) (x1 : Addr) : entryFrame m #[(.ref x0), (.ref x1)] 8 = mkF m 0 #[.val (.ref x0), .val (.ref x1), .unset, .unset, .unset, .unset, .unset, .unset] [] := by first | (simp [entryFrame, mkF, argsToLocals, Value.category]; done) | rfl
def Q43_e (Z : State) (r0 : Addr) (r1 : Addr) (h0 : Heap) (n0 : Nat) (v : Option Value) (h : Heap) (L : List Loc) : Prop := v = some .null ∧ Fr n0 L ∧ h = h0
set_option maxRecDepth 65536 in
set_option maxHeartbeats 40000000 in
theorem rm43_e (l : Launch) (Z : State) (a0 : Array Value) (hw : ∀ d ∈ tables_1, d.before a0 Z = true) (ws : List Jvm.Cond) (r0 : Addr) (r1 : Addr) (h0 : Heap) (n0 : Nat) (Z0 : n0 ≤ h0.size) (Ft : Fld Z h0 r0 "java/util/HashMap" "table" "[Ljava/util/HashMap$Node;" .null) :
    MetFree l Y37 (head1 (Jvm.Cond.code Y37 jdk_69_method_13_code 8 (some (.object "java/util/HashMap$Node")) :: ws) (⟨0, 0, 0, 0⟩ : Room)) (fun a U => a = #[(.ref r0), (.ref r1)] ∧ Z.Warmed39 U.vm ∧ U.heap = h0) (fun _ _ _ _ _ => True) (fun _ U o U' => ∃ v L, o = .returned v ∧ Q43_e Z r0 r1 h0 n0 v U'.heap L ∧ FrameEnd U o U' L (⟨0, 0, 0, 0⟩ : Room).cells (⟨0, 0, 0, 0⟩ : Room).slots) := by
  refine MetFree.of_bodySF (plainFor_of_name pn_43) hisR ?_
  intro p e s m args below meth c s₁ Bd hml0 hP hK
  obtain ⟨rfl, hZ, hh⟩ := hP
  have hx := Bd.exec
  have hby := Bd.bytes
  have hml : c.maxLocals = 8 := hml0
  have hown : s.vm.findClass "java/util/HashMap" = some m.cls := findClass_of_methodNamed Bd.named
  have hnm := (name_of_methodNamed Bd.named Bd.method).1
  have hlk : meth.locks = false := by first | exact BodyLoose.notSynchronized Bd | exact Body.notSynchronized Bd
  have X0 : Stand p l e (⟨0, 0, 0, 0⟩ : Room) s m #[(.ref r0), (.ref r1)] below meth c s₁ [] 0 0 := Stand.of_body Bd
  have e0 : s₁.heap = h0 := by rw [← hh, Bd.state]; rfl
  have N0 := Fr.nil n0
  have k0 : own_R p e below (s₁.setTop (entryFrame m #[(.ref r0), (.ref r1)] 8)) (s₁.setTop (mkF m 0 #[vR r0, vR r1, .unset, .unset, .unset, .unset, .unset, .unset] [])) := fun t k => castTop (ef_43_e m r0 r1) k
  obtain ⟨A0, hA0⟩ : ∃ z, z = s₁.setTop (entryFrame m #[(.ref r0), (.ref r1)] 8) := ⟨_, rfl⟩
  rw [← hA0] at k0
  have kz : ∀ t, Steps p.tables e below A0 t → Steps p.tables e below (s₁.setTop (entryFrame m #[(.ref r0), (.ref r1)] 8)) t := fun t q => hA0 ▸ q
  have ks1 : own_R p e below (A0) (s₁.setTop (mkF m 1 #[vR r0, vR r1, .unset, .unset, .unset, .unset, .unset, .unset] [(.ref r0)])) := fun t k => k0 t (by
    refine XS.aloadN X0.here hx rfl (hb hby d43_0) rfl rfl ?_
    exact k)
  obtain ⟨T2, X2, e2, st2⟩ := getF X0 hx hZ hown (host := "") (Or.inl (own_w hw 173 rfl)) Via.refl e0 Ft (g := (mkF m 1 #[vR r0, vR r1, .unset, .unset, .unset, .unset, .unset, .unset] [(.ref r0)])) rfl rfl (hb hby d43_1)
  have ks3 := own_c ks1 st2
  have ks4 : own_R p e below (A0) (T2.setTop (mkF m 149 #[vR r0, vR r1, .val .null, .unset, .unset, .unset, .unset, .unset] [.null])) := fun t k => ks3 t (by
    refine XS.dup X2.here hx rfl (hb hby d43_4) rfl rfl ?_
    refine XS.astoreN X2.here hx rfl (hb hby d43_5) rfl rfl (l' := #[vR r0, vR r1, .val .null, .unset, .unset, .unset, .unset, .unset]) rfl ?_
    refine XS.ifnullYes X2.here hx rfl (pc0 := 6) (pc' := 148) rfl (hb hby d43_6) rfl (by decide) (by decide) ?_
    show Steps p.tables e below (T2.setTop (mkF m 148 #[vR r0, vR r1, .val .null, .unset, .unset, .unset, .unset, .unset] [])) _
    refine XS.aconstNull X2.here hx rfl (hb hby d43_148) ?_
    exact k)
  obtain ⟨fs, hr, hrun, hended, hW, hsame⟩ := X2.leave (v := some .null) (fun h => by rw [Bd.returns] at h; cases h) hlk
  refine ⟨_, _, kz _ (ks4 _ ?_), hrun, hended, _, _, rfl, ?_, ⟨_, rfl⟩, hW, hsame.mono (by decide) (by decide)⟩
  · exact retOut X2 hx Bd.returns rfl (Or.inr (Or.inr (Or.inr (Or.inr ⟨rfl, rfl, rfl⟩)))) (hb hby d43_149) hr
  · show Q43_e Z r0 r1 h0 n0 _ T2.heap _
    rw [e2]
    exact ⟨rfl, N0, rfl⟩
theorem d43_9 : dk bc37 9 (.aload_n 2) 1 := by decide +kernel
theorem d43_10 : dk bc37 10 (.arraylength) 1 := by decide +kernel
theorem d43_11 : dk bc37 11 (.dup) 1 := by decide +kernel
theorem d43_12 : dk bc37 12 (.istore 5) 2 := by decide +kernel
theorem d43_14 : dk bc37 14 (.ifCond .le 134) 3 := by decide +kernel
theorem d43_17 : dk bc37 17 (.aload_n 2) 1 := by decide +kernel
theorem d43_18 : dk bc37 18 (.iload 5) 2 := by decide +kernel
theorem d43_20 : dk bc37 20 (.iconst 1) 1 := by decide +kernel
theorem d43_21 : dk bc37 21 (.isub) 1 := by decide +kernel
theorem d43_22 : dk bc37 22 (.aload_n 1) 1 := by decide +kernel
theorem d43_23 : dk bc37 23 (.invokestatic 149) 3 := by decide +kernel
theorem d43_26 : dk bc37 26 (.dup) 1 := by decide +kernel
theorem d43_27 : dk bc37 27 (.istore 6) 2 := by decide +kernel
theorem d43_29 : dk bc37 29 (.iand) 1 := by decide +kernel
theorem d43_30 : dk bc37 30 (.aaload) 1 := by decide +kernel
theorem d43_31 : dk bc37 31 (.dup) 1 := by decide +kernel
theorem d43_32 : dk bc37 32 (.astore_n 3) 1 := by decide +kernel
theorem d43_33 : dk bc37 33 (.ifnull 115) 3 := by decide +kernel
theorem d43_36 : dk bc37 36 (.aload_n 3) 1 := by decide +kernel
theorem d43_37 : dk bc37 37 (.getfield 168) 3 := by decide +kernel
theorem d43_40 : dk bc37 40 (.iload 6) 2 := by decide +kernel
theorem d43_42 : dk bc37 42 (.if_icmp .ne 29) 3 := by decide +kernel
theorem d43_45 : dk bc37 45 (.aload_n 3) 1 := by decide +kernel
theorem d43_46 : dk bc37 46 (.getfield 170) 3 := by decide +kernel
theorem d43_49 : dk bc37 49 (.dup) 1 := by decide +kernel
theorem d43_50 : dk bc37 50 (.astore 7) 2 := by decide +kernel
theorem d43_52 : dk bc37 52 (.aload_n 1) 1 := by decide +kernel
theorem d43_53 : dk bc37 53 (.if_acmp .eq 16) 3 := by decide +kernel
theorem d43_56 : dk bc37 56 (.aload_n 1) 1 := by decide +kernel
theorem d43_57 : dk bc37 57 (.ifnull 14) 3 := by decide +kernel
theorem d43_60 : dk bc37 60 (.aload_n 1) 1 := by decide +kernel
theorem d43_61 : dk bc37 61 (.aload 7) 2 := by decide +kernel
theorem d43_63 : dk bc37 63 (.invokevirtual 173) 3 := by decide +kernel
theorem d43_66 : dk bc37 66 (.ifCond .eq 5) 3 := by decide +kernel
theorem d43_69 : dk bc37 69 (.aload_n 3) 1 := by decide +kernel
theorem d43_70 : dk bc37 70 (.areturn) 1 := by decide +kernel
theorem ef_43_h (m : MethodId) (x0 : Addr) (x1 : Addr) : entryFrame m #[(.ref x0), (.ref x1)] 8 = mkF m 0 #[.val (.ref x0), .val (.ref x1), .unset, .unset, .unset, .unset, .unset, .unset] [] := by first | (simp [entryFrame, mkF, argsToLocals, Value.category]; done) | rfl
def Q43_h (Z : State) (r0 : Addr) (r1 : Addr) (y9 : Int32) (tab : Addr) (ktb : ClassId) (nd : Addr) (sk : Addr) (tk : Addr) (ktk : ClassId) (yk : Int32) (t1 : Addr) (kt1 : ClassId) (h0 : Heap) (n0 : Nat) (v : Option Value) (h : Heap) (L : List Loc) : Prop := v = some (.ref nd) ∧ Fr n0 L ∧ Keep h0 h [r1] ∧ own_T Z h r1 t1 kt1 yk
set_option maxRecDepth 65536 in
set_option maxHeartbeats 40000000 in
theorem rm43_h (l : Launch) (Z : State) (a0 : Array Value) (hw : ∀ d ∈ tables_1, d.before a0 Z = true) (ws : List Jvm.Cond) (r0 : Addr) (r1 : Addr) (y9 : Int32) (tab : Addr) (ktb : ClassId) (nd : Addr) (sk : Addr) (tk : Addr) (ktk : ClassId) (yk : Int32) (t1 : Addr) (kt1 : ClassId) (h0 : Heap) (n0 : Nat) (Z0 : n0 ≤ h0.size) (S9 : own_S9 Z h0 y9) (P9 : ¬ y9 = (0 : Int32)) (Ft : Fld Z h0 r0 "java/util/HashMap" "table" "[Ljava/util/HashMap$Node;" (.ref tab)) (Va : Arh Z h0 tab ktb (.object "java/util/HashMap$Node") 16 [(((15 : Int32) &&& yk), .ref nd)] [] .null) (En : Exa Z h0 nd "java/util/HashMap$Node") (Fh : Fld Z h0 nd "java/util/HashMap$Node" "hash" "I" (.int yk)) (Fk : Fld Z h0 nd "java/util/HashMap$Node" "key" "Ljava/lang/Object;" (.ref sk)) (hKq : Exa Z h0 sk "java/lang/String" ∧ own_Cd Z h0 sk 0 ∧ own_Fv Z h0 sk tk ∧ Arv Z h0 tk ktk .byte 1 [.int (yk.toInt8.toInt32)] (.int 0)) (hT : own_T Z h0 r1 t1 kt1 yk) (g_r1 : n0 ≤ r1) (n_r0 : r0 ≠ r1) (n_tab : tab ≠ r1) (n_nd : nd ≠ r1) (n_sk : sk ≠ r1) (n_tk : tk ≠ r1) :
    MetFree l Y37 (head1 (Jvm.Cond.code Y37 jdk_69_method_13_code 8 (some (.object "java/util/HashMap$Node")) :: ws) (⟨3, 0, 0, 40⟩ : Room)) (fun a U => a = #[(.ref r0), (.ref r1)] ∧ Z.Warmed39 U.vm ∧ U.heap = h0) (fun _ _ _ _ _ => True) (fun _ U o U' => ∃ v L, o = .returned v ∧ Q43_h Z r0 r1 y9 tab ktb nd sk tk ktk yk t1 kt1 h0 n0 v U'.heap L ∧ FrameEnd U o U' L (⟨3, 0, 0, 40⟩ : Room).cells (⟨3, 0, 0, 40⟩ : Room).slots) := by
  refine MetFree.of_bodySF (plainFor_of_name pn_43) hisR ?_
  intro p e s m args below meth c s₁ Bd hml0 hP hK
  obtain ⟨rfl, hZ, hh⟩ := hP
  have hx := Bd.exec
  have hby := Bd.bytes
  have hml : c.maxLocals = 8 := hml0
  have hown : s.vm.findClass "java/util/HashMap" = some m.cls := findClass_of_methodNamed Bd.named
  have hnm := (name_of_methodNamed Bd.named Bd.method).1
  have hlk : meth.locks = false := by first | exact BodyLoose.notSynchronized Bd | exact Body.notSynchronized Bd
  have X0 : Stand p l e (⟨3, 0, 0, 40⟩ : Room) s m #[(.ref r0), (.ref r1)] below meth c s₁ [] 0 0 := Stand.of_body Bd
  have e0 : s₁.heap = h0 := by rw [← hh, Bd.state]; rfl
  have N0 := Fr.nil n0
  have k0 : own_R p e below (s₁.setTop (entryFrame m #[(.ref r0), (.ref r1)] 8)) (s₁.setTop (mkF m 0 #[vR r0, vR r1, .unset, .unset, .unset, .unset, .unset, .unset] [])) := fun t k => castTop (ef_43_h m r0 r1) k
  obtain ⟨A0, hA0⟩ : ∃ z, z = s₁.setTop (entryFrame m #[(.ref r0), (.ref r1)] 8) := ⟨_, rfl⟩
  rw [← hA0] at k0
  have kz : ∀ t, Steps p.tables e below A0 t → Steps p.tables e below (s₁.setTop (entryFrame m #[(.ref r0), (.ref r1)] 8)) t := fun t q => hA0 ▸ q
  obtain ⟨E1, Cd1, F1, V1, hs1, nt1, hc1⟩ := id hT
  obtain ⟨Ek, Cdk, Fvk, Vk⟩ := hKq
  have ks1 : own_R p e below (A0) (s₁.setTop (mkF m 1 #[vR r0, vR r1, .unset, .unset, .unset, .unset, .unset, .unset] [(.ref r0)])) := fun t k => k0 t (by
    refine XS.aloadN X0.here hx rfl (hb hby d43_0) rfl rfl ?_
    exact k)
  obtain ⟨T2, X2, e2, st2⟩ := getF X0 hx hZ hown (host := "") (Or.inl (own_w hw 173 rfl)) Via.refl e0 Ft (g := (mkF m 1 #[vR r0, vR r1, .unset, .unset, .unset, .unset, .unset, .unset] [(.ref r0)])) rfl rfl (hb hby d43_1)
  have ks3 := own_c ks1 st2
  have ks4 : own_R p e below (A0) (T2.setTop (mkF m 10 #[vR r0, vR r1, vR tab, .unset, .unset, .unset, .unset, .unset] [(.ref tab)])) := fun t k => ks3 t (by
    refine XS.dup X2.here hx rfl (hb hby d43_4) rfl rfl ?_
    refine XS.astoreN X2.here hx rfl (hb hby d43_5) rfl rfl (l' := #[vR r0, vR r1, vR tab, .unset, .unset, .unset, .unset, .unset]) rfl ?_
    refine XS.ifnullNo X2.here hx rfl (hb hby d43_6) rfl ?_
    show Steps p.tables e below (T2.setTop (mkF m 9 #[vR r0, vR r1, vR tab, .unset, .unset, .unset, .unset, .unset] [])) _
    refine XS.aloadN X2.here hx rfl (hb hby d43_9) rfl rfl ?_
    exact k)
  obtain ⟨cl5, Ar5, qa5, S5, Na5, Ha5, Ga5⟩ := id Va
  have ks6 : own_R p e below (A0) (T2.setTop (mkF m 23 #[vR r0, vR r1, vR tab, .unset, .unset, vI 16, .unset, .unset] [(.ref r1), (.int 15), (.ref tab)])) := fun t k => ks4 t (by
    refine X2.arraylength hx (by rw [e2]; exact Ar5.1) (State.isArrayOf_alike hZ.alike Ar5.2.1) (g := (mkF m 10 #[vR r0, vR r1, vR tab, .unset, .unset, .unset, .unset, .unset] [(.ref tab)])) rfl rfl (hb hby d43_10) _ ?_
    rw [len_of S5 Na5]
    refine XS.dup X2.here hx rfl (hb hby d43_11) rfl rfl ?_
    refine XS.istore X2.here hx rfl (hb hby d43_12) rfl (l' := #[vR r0, vR r1, vR tab, .unset, .unset, vI 16, .unset, .unset]) rfl ?_
    show Steps p.tables e below (T2.setTop (mkF m 14 #[vR r0, vR r1, vR tab, .unset, .unset, vI 16, .unset, .unset] [(.int 16)])) _
    refine XS.ifNo X2.here hx rfl (hb hby d43_14) rfl ((if0 _ _).trans (tlt (by decide)).2.2.2) ?_
    refine XS.aloadN X2.here hx rfl (hb hby d43_17) rfl rfl ?_
    refine XS.iload X2.here hx rfl (hb hby d43_18) rfl ?_
    refine XS.iconst X2.here hx rfl (hb hby d43_20) ?_
    show Steps p.tables e below (T2.setTop (mkF m 21 #[vR r0, vR r1, vR tab, .unset, .unset, vI 16, .unset, .unset] [(.int 1), (.int 16), (.ref tab)])) _
    refine XS.isub X2.here hx rfl (hb hby d43_21) rfl ?_
    refine XS.aloadN X2.here hx rfl (hb hby d43_22) rfl rfl ?_
    exact k)
  obtain ⟨_, _, ⟨T7, L7, k7, n7⟩, -, X7, ⟨Lc7, hQ7, lq7, yq7, zq7⟩, st7⟩ := Jvm.LawKit.callS X2 hx (y := Y23) hown (mvT hZ (own_w hw 147 rfl)) (mvT hZ (own_w hw 148 rfl)) (mvT hZ (own_w hw 119 rfl)) (mvT hZ (own_w hw 149 rfl)) (by decide) (backOf (W := 2) (rm24 l Z a0 hw [] r1 y9 t1 kt1 yk h0 n0 Z0 S9 P9 hT g_r1) hZ (own_w hw 149 rfl) (own_w hw 119 rfl) (by decide) (by decide)) (g := (mkF m 23 #[vR r0, vR r1, vR tab, .unset, .unset, vI 16, .unset, .unset] [(.ref r1), (.int 15), (.ref tab)])) rfl (by rw [hml]; rfl) (argsL := [(.ref r1)]) (rest := [(.int 15), (.ref tab)]) (lenOf pd_14 rfl) rfl (by show 2 * 0 + _ ≤ _; exact Nat.le_of_eq rfl) (hb hby d43_23) (fun _ _ => ⟨rfl, e2, (by decide : 0 + 0 ≤ _), (by decide : 0 + 0 ≤ _)⟩)
  dsimp only [Pt.U, Pt.locs, Pt.cells, Pt.slots] at X7 lq7 yq7 zq7 st7 hQ7
  obtain rfl : k7 = 0 := yq7
  obtain rfl : n7 = 0 := zq7
  obtain ⟨rfl, Nq7, Kq7, Tq7⟩ := hQ7
  have N7 := Fr.app N0 Nq7
  have KH7 : Keep h0 T7.heap [r1] := (Keep.refl h0 [r1]).trans Kq7 (allS (Or.inl (List.mem_of_getElem? (i := 0) rfl)) all0)
  have Zn7 : n0 ≤ T7.heap.size := Nat.le_trans Z0 Kq7.1
  obtain ⟨Eo7, Co7, Fo7, Vo7, -, -, -⟩ := id Tq7
  have N7' : Fr n0 L7 := by rw [lq7]; exact N7
  have ks8 := own_c ks6 st7
  have ks9 : own_R p e below (A0) (T7.setTop (mkF m 30 #[vR r0, vR r1, vR tab, .unset, .unset, vI 16, vI yk, .unset] [(.int ((15 : Int32) &&& yk)), (.ref tab)])) := fun t k => ks8 t (by
    refine XS.dup X7.here hx rfl (hb hby d43_26) rfl rfl ?_
    refine XS.istore X7.here hx rfl (hb hby d43_27) rfl (l' := #[vR r0, vR r1, vR tab, .unset, .unset, vI 16, vI yk, .unset]) rfl ?_
    refine XS.iand X7.here hx rfl (hb hby d43_29) rfl ?_
    exact k)
  have f10 := Va.keep KH7 (ninS n_tab nin0)
  obtain ⟨cl11, Ar11, qa11, S11, Na11, Ha11, Ga11⟩ := id f10
  have ks12 : own_R p e below (A0) (T7.setTop (mkF m 37 #[vR r0, vR r1, vR tab, vR nd, .unset, vI 16, vI yk, .unset] [(.ref nd)])) := fun t k => ks9 t (by
    refine X7.aaload hx (j := ((15 : Int32) &&& yk)) (v := .ref nd) Ar11.1 (State.isArrayOf_alike hZ.alike Ar11.2.1) rfl Ar11.2.2 (inb_of S11 (own_ch_in hc1)) (atH Ha11 (inb_of S11 (own_ch_in hc1)) (getH_hit (own_ch_in hc1).1 rfl)) (g := (mkF m 30 #[vR r0, vR r1, vR tab, .unset, .unset, vI 16, vI yk, .unset] [(.int ((15 : Int32) &&& yk)), (.ref tab)])) rfl rfl (hb hby d43_30) _ ?_
    refine XS.dup X7.here hx rfl (hb hby d43_31) rfl rfl ?_
    refine XS.astoreN X7.here hx rfl (hb hby d43_32) rfl rfl (l' := #[vR r0, vR r1, vR tab, vR nd, .unset, vI 16, vI yk, .unset]) rfl ?_
    show Steps p.tables e below (T7.setTop (mkF m 33 #[vR r0, vR r1, vR tab, vR nd, .unset, vI 16, vI yk, .unset] [(.ref nd)])) _
    refine XS.ifnullNo X7.here hx rfl (hb hby d43_33) rfl ?_
    refine XS.aloadN X7.here hx rfl (hb hby d43_36) rfl rfl ?_
    exact k)
  have f13 := Fh.keep KH7 (ninS n_nd nin0)
  obtain ⟨T14, X14, e14, st14⟩ := getF X7 hx hZ hown (host := "") (Or.inl (own_w hw 296 rfl)) Via.refl rfl f13 (g := (mkF m 37 #[vR r0, vR r1, vR tab, vR nd, .unset, vI 16, vI yk, .unset] [(.ref nd)])) rfl rfl (hb hby d43_37)
  have ks15 := own_c ks12 st14
  have ks16 : own_R p e below (A0) (T14.setTop (mkF m 46 #[vR r0, vR r1, vR tab, vR nd, .unset, vI 16, vI yk, .unset] [(.ref nd)])) := fun t k => ks15 t (by
    refine XS.iload X14.here hx rfl (hb hby d43_40) rfl ?_
    refine XS.icmpNo X14.here hx rfl (hb hby d43_42) rfl (teq rfl).2 ?_
    refine XS.aloadN X14.here hx rfl (hb hby d43_45) rfl rfl ?_
    exact k)
  have f17 := Fk.keep KH7 (ninS n_nd nin0)
  obtain ⟨T18, X18, e18, st18⟩ := getF X14 hx hZ hown (host := "") (Or.inl (own_w hw 297 rfl)) Via.refl e14 f17 (g := (mkF m 46 #[vR r0, vR r1, vR tab, vR nd, .unset, vI 16, vI yk, .unset] [(.ref nd)])) rfl rfl (hb hby d43_46)
  have ks19 := own_c ks16 st18
  have ks20 : own_R p e below (A0) (T18.setTop (mkF m 63 #[vR r0, vR r1, vR tab, vR nd, .unset, vI 16, vI yk, vR sk] [(.ref sk), (.ref r1)])) := fun t k => ks19 t (by
    refine XS.dup X18.here hx rfl (hb hby d43_49) rfl rfl ?_
    refine XS.astore X18.here hx rfl (hb hby d43_50) rfl rfl (l' := #[vR r0, vR r1, vR tab, vR nd, .unset, vI 16, vI yk, vR sk]) rfl ?_
    refine XS.aloadN X18.here hx rfl (hb hby d43_52) rfl rfl ?_
    refine Jvm.RoadKit.acmp (g := (mkF m 53 #[vR r0, vR r1, vR tab, vR nd, .unset, vI 16, vI yk, vR sk] [(.ref r1), (.ref sk)])) X18 hx rfl rfl rfl (pc0 := 53) (pc' := 56) (same := false) rfl (hb hby d43_53) rfl (decide_eq_false fun q => n_sk (Value.ref.inj q)) (by decide) (by decide) ?_
    refine XS.aloadN X18.here hx rfl (hb hby d43_56) rfl rfl ?_
    refine XS.ifnullNo X18.here hx rfl (hb hby d43_57) rfl ?_
    refine XS.aloadN X18.here hx rfl (hb hby d43_60) rfl rfl ?_
    show Steps p.tables e below (T18.setTop (mkF m 61 #[vR r0, vR r1, vR tab, vR nd, .unset, vI 16, vI yk, vR sk] [(.ref r1)])) _
    refine XS.aload X18.here hx rfl (hb hby d43_61) rfl rfl ?_
    exact k)
  have f22 := (own_sta_keepW S9 Kq7 (allS (own_ns_exa E1) all0))
  have f23 := Ek.keep KH7
  have f24 := Cdk.keep KH7 (ninS n_sk nin0)
  have f25 := Fvk.keep KH7 (ninS n_sk nin0)
  have f26 := Vk.keep KH7 (ninS n_tk nin0)
  obtain ⟨cq21, kq21, q21a, q21b, q21c⟩ := isOf hZ e18 Eo7
  obtain ⟨_, _, ⟨T21, L21, k21, n21⟩, -, X21, ⟨Lc21, hQ21, lq21, yq21, zq21⟩, st21⟩ := X18.virtualBack hx (y := (⟨"java/lang/Object", "equals", "(Ljava/lang/Object;)Z"⟩ : MethodName)) (z := Y25) hown (mvT hZ (own_w hw 298 rfl)) (mvT hZ (own_w hw 299 rfl)) (own_nf (args := #[]) (mvT hZ (own_w hw 322 rfl)) rfl) (mvT hZ (own_w hw 301 rfl)) (mvT hZ (own_w hw 302 rfl)) (by decide) (backOf (W := 0) (rm47 l Z a0 hw [] r1 sk y9 t1 kt1 yk tk _ T7.heap n0 Zn7 f22 P9 Tq7 ⟨f23, f24, f25, f26⟩ (Ne.symm n_sk)) hZ (own_w hw 303 rfl) (own_w hw 5 rfl) (by decide) (by decide)) q21a q21c (g := (mkF m 63 #[vR r0, vR r1, vR tab, vR nd, .unset, vI 16, vI yk, vR sk] [(.ref sk), (.ref r1)])) rfl (by rw [hml]; rfl) (Steps.refl _) (argsL := [(.ref sk)]) (rest := []) (lenOf pd_9 rfl) rfl (by show 2 * 0 + _ ≤ _; exact Nat.le_of_eq rfl) (hb hby d43_63) (fun _ _ => ⟨rfl, e18, (by decide : 0 + 0 ≤ _), (by decide : 0 + 0 ≤ _)⟩)
  dsimp only [Pt.U, Pt.locs, Pt.cells, Pt.slots] at X21 lq21 yq21 zq21 st21 hQ21
  obtain rfl : k21 = 0 := yq21
  obtain rfl : n21 = 0 := zq21
  obtain ⟨rfl, Nq21, eq21⟩ := hQ21
  have N21 := Fr.app N7' Nq21
  have N21' : Fr n0 L21 := by rw [lq21]; exact N21
  have ks27 := own_ct ks20 st21
  have ks28 : own_R p e below (A0) (T21.setTop (mkF m 70 #[vR r0, vR r1, vR tab, vR nd, .unset, vI 16, vI yk, vR sk] [(.ref nd)])) := fun t k => ks27 t (by
    refine XS.ifNo X21.here hx rfl (hb hby d43_66) rfl ((if0 _ _).trans (feq (by decide)).1) ?_
    refine XS.aloadN X21.here hx rfl (hb hby d43_69) rfl rfl ?_
    exact k)
  obtain ⟨fs, hr, hrun, hended, hW, hsame⟩ := X21.leave (v := some (.ref nd)) (fun h => by rw [Bd.returns] at h; cases h) hlk
  refine ⟨_, _, kz _ (ks28 _ ?_), hrun, hended, _, _, rfl, ?_, ⟨_, rfl⟩, hW, hsame.mono (by decide) (by decide)⟩
  · exact retOut X21 hx Bd.returns rfl (Or.inr (Or.inr (Or.inr (Or.inr ⟨rfl, rfl, rfl⟩)))) (hb hby d43_70) hr
  · show Q43_h Z r0 r1 y9 tab ktb nd sk tk ktk yk t1 kt1 h0 n0 _ T21.heap _
    rw [eq21]
    exact ⟨rfl, N21', KH7, Tq7⟩
theorem ef_43_m (m : MethodId) (x0 : Addr) (x1 : Addr) : entryFrame m #[(.ref x0), (.ref x1)] 8 = mkF m 0 #[.val (.ref x0), .val (.ref x1), .unset, .unset, .unset, .unset, .unset, .unset] [] := by first | (simp [entryFrame, mkF, argsToLocals, Value.category]; done) | rfl
def Q43_m (Z : State) (r0 : Addr) (r1 : Addr) (y9 : Int32) (tab : Addr) (ktb : ClassId) (nd : Addr) (sk : Addr) (tk : Addr) (ktk : ClassId) (yk : Int32) (t1 : Addr) (kt1 : ClassId) (y1 : Int32) (h0 : Heap) (n0 : Nat) (v : Option Value) (h : Heap) (L : List Loc) : Prop := v = some .null ∧ Fr n0 L ∧ Keep h0 h [r1] ∧ own_T Z h r1 t1 kt1 y1
set_option maxRecDepth 65536 in
set_option maxHeartbeats 40000000 in
theorem rm43_m (l : Launch) (Z : State) (a0 : Array Value) (hw : ∀ d ∈ tables_1, d.before a0 Z = true) (ws : List Jvm.Cond) (r0 : Addr) (r1 : Addr) (y9 : Int32) (tab : Addr) (ktb : ClassId) (nd : Addr) (sk : Addr) (tk : Addr) (ktk : ClassId) (yk : Int32) (t1 : Addr) (kt1 : ClassId) (y1 : Int32) (h0 : Heap) (n0 : Nat) (Z0 : n0 ≤ h0.size) (S9 : own_S9 Z h0 y9) (P9 : ¬ y9 = (0 : Int32)) (Ft : Fld Z h0 r0 "java/util/HashMap" "table" "[Ljava/util/HashMap$Node;" (.ref tab)) (Va : Arh Z h0 tab ktb (.object "java/util/HashMap$Node") 16 [(((15 : Int32) &&& yk), .ref nd)] [] .null) (En : Exa Z h0 nd "java/util/HashMap$Node") (Fh : Fld Z h0 nd "java/util/HashMap$Node" "hash" "I" (.int yk)) (Fk : Fld Z h0 nd "java/util/HashMap$Node" "key" "Ljava/lang/Object;" (.ref sk)) (hKq : Exa Z h0 sk "java/lang/String" ∧ own_Cd Z h0 sk 0 ∧ own_Fv Z h0 sk tk ∧ Arv Z h0 tk ktk .byte 1 [.int (yk.toInt8.toInt32)] (.int 0)) (hT : own_T Z h0 r1 t1 kt1 y1) (g_r1 : n0 ≤ r1) (n_r0 : r0 ≠ r1) (n_tab : tab ≠ r1) (n_nd : nd ≠ r1) (n_sk : sk ≠ r1) (n_tk : tk ≠ r1) (hne : ¬ ((15 : Int32) &&& y1) = ((15 : Int32) &&& yk)) :
    MetFree l Y37 (head1 (Jvm.Cond.code Y37 jdk_69_method_13_code 8 (some (.object "java/util/HashMap$Node")) :: ws) (⟨3, 0, 0, 40⟩ : Room)) (fun a U => a = #[(.ref r0), (.ref r1)] ∧ Z.Warmed39 U.vm ∧ U.heap = h0) (fun _ _ _ _ _ => True) (fun _ U o U' => ∃ v L, o = .returned v ∧ Q43_m Z r0 r1 y9 tab ktb nd sk tk ktk yk t1 kt1 y1 h0 n0 v U'.heap L ∧ FrameEnd U o U' L (⟨3, 0, 0, 40⟩ : Room).cells (⟨3, 0, 0, 40⟩ : Room).slots) := by
  refine MetFree.of_bodySF (plainFor_of_name pn_43) hisR ?_
  intro p e s m args below meth c s₁ Bd hml0 hP hK
  obtain ⟨rfl, hZ, hh⟩ := hP
  have hx := Bd.exec
  have hby := Bd.bytes
  have hml : c.maxLocals = 8 := hml0
  have hown : s.vm.findClass "java/util/HashMap" = some m.cls := findClass_of_methodNamed Bd.named
  have hnm := (name_of_methodNamed Bd.named Bd.method).1
  have hlk : meth.locks = false := by first | exact BodyLoose.notSynchronized Bd | exact Body.notSynchronized Bd
  have X0 : Stand p l e (⟨3, 0, 0, 40⟩ : Room) s m #[(.ref r0), (.ref r1)] below meth c s₁ [] 0 0 := Stand.of_body Bd
  have e0 : s₁.heap = h0 := by rw [← hh, Bd.state]; rfl
  have N0 := Fr.nil n0
  have k0 : own_R p e below (s₁.setTop (entryFrame m #[(.ref r0), (.ref r1)] 8)) (s₁.setTop (mkF m 0 #[vR r0, vR r1, .unset, .unset, .unset, .unset, .unset, .unset] [])) := fun t k => castTop (ef_43_m m r0 r1) k
  obtain ⟨A0, hA0⟩ : ∃ z, z = s₁.setTop (entryFrame m #[(.ref r0), (.ref r1)] 8) := ⟨_, rfl⟩
  rw [← hA0] at k0
  have kz : ∀ t, Steps p.tables e below A0 t → Steps p.tables e below (s₁.setTop (entryFrame m #[(.ref r0), (.ref r1)] 8)) t := fun t q => hA0 ▸ q
  obtain ⟨E1, Cd1, F1, V1, hs1, nt1, hc1⟩ := id hT
  obtain ⟨Ek, Cdk, Fvk, Vk⟩ := hKq
  have ks1 : own_R p e below (A0) (s₁.setTop (mkF m 1 #[vR r0, vR r1, .unset, .unset, .unset, .unset, .unset, .unset] [(.ref r0)])) := fun t k => k0 t (by
    refine XS.aloadN X0.here hx rfl (hb hby d43_0) rfl rfl ?_
    exact k)
  obtain ⟨T2, X2, e2, st2⟩ := getF X0 hx hZ hown (host := "") (Or.inl (own_w hw 173 rfl)) Via.refl e0 Ft (g := (mkF m 1 #[vR r0, vR r1, .unset, .unset, .unset, .unset, .unset, .unset] [(.ref r0)])) rfl rfl (hb hby d43_1)
  have ks3 := own_c ks1 st2
  have ks4 : own_R p e below (A0) (T2.setTop (mkF m 10 #[vR r0, vR r1, vR tab, .unset, .unset, .unset, .unset, .unset] [(.ref tab)])) := fun t k => ks3 t (by
    refine XS.dup X2.here hx rfl (hb hby d43_4) rfl rfl ?_
    refine XS.astoreN X2.here hx rfl (hb hby d43_5) rfl rfl (l' := #[vR r0, vR r1, vR tab, .unset, .unset, .unset, .unset, .unset]) rfl ?_
    refine XS.ifnullNo X2.here hx rfl (hb hby d43_6) rfl ?_
    show Steps p.tables e below (T2.setTop (mkF m 9 #[vR r0, vR r1, vR tab, .unset, .unset, .unset, .unset, .unset] [])) _
    refine XS.aloadN X2.here hx rfl (hb hby d43_9) rfl rfl ?_
    exact k)
  obtain ⟨cl5, Ar5, qa5, S5, Na5, Ha5, Ga5⟩ := id Va
  have ks6 : own_R p e below (A0) (T2.setTop (mkF m 23 #[vR r0, vR r1, vR tab, .unset, .unset, vI 16, .unset, .unset] [(.ref r1), (.int 15), (.ref tab)])) := fun t k => ks4 t (by
    refine X2.arraylength hx (by rw [e2]; exact Ar5.1) (State.isArrayOf_alike hZ.alike Ar5.2.1) (g := (mkF m 10 #[vR r0, vR r1, vR tab, .unset, .unset, .unset, .unset, .unset] [(.ref tab)])) rfl rfl (hb hby d43_10) _ ?_
    rw [len_of S5 Na5]
    refine XS.dup X2.here hx rfl (hb hby d43_11) rfl rfl ?_
    refine XS.istore X2.here hx rfl (hb hby d43_12) rfl (l' := #[vR r0, vR r1, vR tab, .unset, .unset, vI 16, .unset, .unset]) rfl ?_
    show Steps p.tables e below (T2.setTop (mkF m 14 #[vR r0, vR r1, vR tab, .unset, .unset, vI 16, .unset, .unset] [(.int 16)])) _
    refine XS.ifNo X2.here hx rfl (hb hby d43_14) rfl ((if0 _ _).trans (tlt (by decide)).2.2.2) ?_
    refine XS.aloadN X2.here hx rfl (hb hby d43_17) rfl rfl ?_
    refine XS.iload X2.here hx rfl (hb hby d43_18) rfl ?_
    refine XS.iconst X2.here hx rfl (hb hby d43_20) ?_
    show Steps p.tables e below (T2.setTop (mkF m 21 #[vR r0, vR r1, vR tab, .unset, .unset, vI 16, .unset, .unset] [(.int 1), (.int 16), (.ref tab)])) _
    refine XS.isub X2.here hx rfl (hb hby d43_21) rfl ?_
    refine XS.aloadN X2.here hx rfl (hb hby d43_22) rfl rfl ?_
    exact k)
  obtain ⟨_, _, ⟨T7, L7, k7, n7⟩, -, X7, ⟨Lc7, hQ7, lq7, yq7, zq7⟩, st7⟩ := Jvm.LawKit.callS X2 hx (y := Y23) hown (mvT hZ (own_w hw 147 rfl)) (mvT hZ (own_w hw 148 rfl)) (mvT hZ (own_w hw 119 rfl)) (mvT hZ (own_w hw 149 rfl)) (by decide) (backOf (W := 2) (rm24 l Z a0 hw [] r1 y9 t1 kt1 y1 h0 n0 Z0 S9 P9 hT g_r1) hZ (own_w hw 149 rfl) (own_w hw 119 rfl) (by decide) (by decide)) (g := (mkF m 23 #[vR r0, vR r1, vR tab, .unset, .unset, vI 16, .unset, .unset] [(.ref r1), (.int 15), (.ref tab)])) rfl (by rw [hml]; rfl) (argsL := [(.ref r1)]) (rest := [(.int 15), (.ref tab)]) (lenOf pd_14 rfl) rfl (by show 2 * 0 + _ ≤ _; exact Nat.le_of_eq rfl) (hb hby d43_23) (fun _ _ => ⟨rfl, e2, (by decide : 0 + 0 ≤ _), (by decide : 0 + 0 ≤ _)⟩)
  dsimp only [Pt.U, Pt.locs, Pt.cells, Pt.slots] at X7 lq7 yq7 zq7 st7 hQ7
  obtain rfl : k7 = 0 := yq7
  obtain rfl : n7 = 0 := zq7
  obtain ⟨rfl, Nq7, Kq7, Tq7⟩ := hQ7
  have N7 := Fr.app N0 Nq7
  have KH7 : Keep h0 T7.heap [r1] := (Keep.refl h0 [r1]).trans Kq7 (allS (Or.inl (List.mem_of_getElem? (i := 0) rfl)) all0)
  have Zn7 : n0 ≤ T7.heap.size := Nat.le_trans Z0 Kq7.1
  obtain ⟨Eo7, Co7, Fo7, Vo7, -, -, -⟩ := id Tq7
  have N7' : Fr n0 L7 := by rw [lq7]; exact N7
  have ks8 := own_c ks6 st7
  have ks9 : own_R p e below (A0) (T7.setTop (mkF m 30 #[vR r0, vR r1, vR tab, .unset, .unset, vI 16, vI y1, .unset] [(.int ((15 : Int32) &&& y1)), (.ref tab)])) := fun t k => ks8 t (by
    refine XS.dup X7.here hx rfl (hb hby d43_26) rfl rfl ?_
    refine XS.istore X7.here hx rfl (hb hby d43_27) rfl (l' := #[vR r0, vR r1, vR tab, .unset, .unset, vI 16, vI y1, .unset]) rfl ?_
    refine XS.iand X7.here hx rfl (hb hby d43_29) rfl ?_
    exact k)
  have f10 := Va.keep KH7 (ninS n_tab nin0)
  obtain ⟨cl11, Ar11, qa11, S11, Na11, Ha11, Ga11⟩ := id f10
  have ks12 : own_R p e below (A0) (T7.setTop (mkF m 149 #[vR r0, vR r1, vR tab, .val .null, .unset, vI 16, vI y1, .unset] [.null])) := fun t k => ks9 t (by
    refine X7.aaload hx (j := ((15 : Int32) &&& y1)) (v := .null) Ar11.1 (State.isArrayOf_alike hZ.alike Ar11.2.1) rfl Ar11.2.2 (inb_of S11 (own_ch_in hc1)) (atH Ha11 (inb_of S11 (own_ch_in hc1)) (getH_miss (own_ch_in hc1).1 hne rfl)) (g := (mkF m 30 #[vR r0, vR r1, vR tab, .unset, .unset, vI 16, vI y1, .unset] [(.int ((15 : Int32) &&& y1)), (.ref tab)])) rfl rfl (hb hby d43_30) _ ?_
    refine XS.dup X7.here hx rfl (hb hby d43_31) rfl rfl ?_
    refine XS.astoreN X7.here hx rfl (hb hby d43_32) rfl rfl (l' := #[vR r0, vR r1, vR tab, .val .null, .unset, vI 16, vI y1, .unset]) rfl ?_
    show Steps p.tables e below (T7.setTop (mkF m 33 #[vR r0, vR r1, vR tab, .val .null, .unset, vI 16, vI y1, .unset] [.null])) _
    refine XS.ifnullYes X7.here hx rfl (pc0 := 33) (pc' := 148) rfl (hb hby d43_33) rfl (by decide) (by decide) ?_
    refine XS.aconstNull X7.here hx rfl (hb hby d43_148) ?_
    exact k)
  obtain ⟨fs, hr, hrun, hended, hW, hsame⟩ := X7.leave (v := some .null) (fun h => by rw [Bd.returns] at h; cases h) hlk
  refine ⟨_, _, kz _ (ks12 _ ?_), hrun, hended, _, _, rfl, ?_, ⟨_, rfl⟩, hW, hsame.mono (by decide) (by decide)⟩
  · exact retOut X7 hx Bd.returns rfl (Or.inr (Or.inr (Or.inr (Or.inr ⟨rfl, rfl, rfl⟩)))) (hb hby d43_149) hr
  · show Q43_m Z r0 r1 y9 tab ktb nd sk tk ktk yk t1 kt1 y1 h0 n0 _ T7.heap _
    exact ⟨rfl, N7', KH7, Tq7⟩
theorem d42_0 : dk bc38 0 (.aload_n 0) 1 := by decide +kernel
theorem d42_1 : dk bc38 1 (.aload_n 1) 1 := by decide +kernel
theorem d42_2 : dk bc38 2 (.invokevirtual 158) 3 := by decide +kernel
theorem d42_5 : dk bc38 5 (.ifnull 7) 3 := by decide +kernel
theorem d42_8 : dk bc38 8 (.iconst 1) 1 := by decide +kernel
theorem d42_9 : dk bc38 9 (.goto 4) 3 := by decide +kernel
theorem d42_13 : dk bc38 13 (.ireturn) 1 := by decide +kernel
theorem pn_42 : plainName "java/util/HashMap" = true := by first | (simp [plainName, overriddenIn]; done) | decide +kernel
theorem pd_27 : parseMethodDescriptor "(Ljava/lang/Object;)Ljava/util/HashMap$Node;" = some ⟨[(.object "java/lang/Object")], some (.object "java/util/HashMap$Node")⟩ := by decide +kernel
theorem ef_42_h (m : MethodId) (x0 : Addr) (x1 : Addr) : entryFrame m #[(.ref x0), (.ref x1)] 2 = mkF m 0 #[.val (.ref x0), .val (.ref x1)] [] := by first | (simp [entryFrame, mkF, argsToLocals, Value.category]; done) | rfl
def Q42_h (Z : State) (r0 : Addr) (r1 : Addr) (y9 : Int32) (tab : Addr) (ktb : ClassId) (nd : Addr) (sk : Addr) (tk : Addr) (ktk : ClassId) (yk : Int32) (t1 : Addr) (kt1 : ClassId) (h0 : Heap) (n0 : Nat) (v : Option Value) (h : Heap) (L : List Loc) : Prop := v = some (.int 1) ∧ Fr n0 L ∧ Keep h0 h [r1] ∧ own_T Z h r1 t1 kt1 yk
set_option maxRecDepth 65536 in
set_option maxHeartbeats 40000000 in
theorem rm42_h (l : Launch) (Z : State) (a0 : Array Value) (hw : ∀ d ∈ tables_1, d.before a0 Z = true) (ws : List Jvm.Cond) (r0 : Addr) (r1 : Addr) (y9 : Int32) (tab : Addr) (ktb : ClassId) (nd : Addr) (sk : Addr) (tk : Addr) (ktk : ClassId) (yk : Int32) (t1 : Addr) (kt1 : ClassId) (h0 : Heap) (n0 : Nat) (Z0 : n0 ≤ h0.size) (E0 : Exa Z h0 r0 "java/util/HashMap") (S9 : own_S9 Z h0 y9) (P9 : ¬ y9 = (0 : Int32)) (Ft : Fld Z h0 r0 "java/util/HashMap" "table" "[Ljava/util/HashMap$Node;" (.ref tab)) (Va : Arh Z h0 tab ktb (.object "java/util/HashMap$Node") 16 [(((15 : Int32) &&& yk), .ref nd)] [] .null) (En : Exa Z h0 nd "java/util/HashMap$Node") (Fh : Fld Z h0 nd "java/util/HashMap$Node" "hash" "I" (.int yk)) (Fk : Fld Z h0 nd "java/util/HashMap$Node" "key" "Ljava/lang/Object;" (.ref sk)) (hKq : Exa Z h0 sk "java/lang/String" ∧ own_Cd Z h0 sk 0 ∧ own_Fv Z h0 sk tk ∧ Arv Z h0 tk ktk .byte 1 [.int (yk.toInt8.toInt32)] (.int 0)) (hT : own_T Z h0 r1 t1 kt1 yk) (g_r1 : n0 ≤ r1) (n_r0 : r0 ≠ r1) (n_tab : tab ≠ r1) (n_nd : nd ≠ r1) (n_sk : sk ≠ r1) (n_tk : tk ≠ r1) :
    MetFree l Y38 (head1 (Jvm.Cond.code Y38 jdk_69_method_14_code 2 (some .boolean) :: ws) (⟨4, 0, 0, 59⟩ : Room)) (fun a U => a = #[(.ref r0), (.ref r1)] ∧ Z.Warmed39 U.vm ∧ U.heap = h0) (fun _ _ _ _ _ => True) (fun _ U o U' => ∃ v L, o = .returned v ∧ Q42_h Z r0 r1 y9 tab ktb nd sk tk ktk yk t1 kt1 h0 n0 v U'.heap L ∧ FrameEnd U o U' L (⟨4, 0, 0, 59⟩ : Room).cells (⟨4, 0, 0, 59⟩ : Room).slots) := by
  refine MetFree.of_bodySF (plainFor_of_name pn_42) hisR ?_
  intro p e s m args below meth c s₁ Bd hml0 hP hK
  obtain ⟨rfl, hZ, hh⟩ := hP
  have hx := Bd.exec
  have hby := Bd.bytes
  have hml : c.maxLocals = 2 := hml0
  have hown : s.vm.findClass "java/util/HashMap" = some m.cls := findClass_of_methodNamed Bd.named
  have hnm := (name_of_methodNamed Bd.named Bd.method).1
  have hlk : meth.locks = false := by first | exact BodyLoose.notSynchronized Bd | exact Body.notSynchronized Bd
  have X0 : Stand p l e (⟨4, 0, 0, 59⟩ : Room) s m #[(.ref r0), (.ref r1)] below meth c s₁ [] 0 0 := Stand.of_body Bd
  have e0 : s₁.heap = h0 := by rw [← hh, Bd.state]; rfl
  have N0 := Fr.nil n0
  have k0 : own_R p e below (s₁.setTop (entryFrame m #[(.ref r0), (.ref r1)] 2)) (s₁.setTop (mkF m 0 #[vR r0, vR r1] [])) := fun t k => castTop (ef_42_h m r0 r1) k
  obtain ⟨A0, hA0⟩ : ∃ z, z = s₁.setTop (entryFrame m #[(.ref r0), (.ref r1)] 2) := ⟨_, rfl⟩
  rw [← hA0] at k0
  have kz : ∀ t, Steps p.tables e below A0 t → Steps p.tables e below (s₁.setTop (entryFrame m #[(.ref r0), (.ref r1)] 2)) t := fun t q => hA0 ▸ q
  have ks1 : own_R p e below (A0) (s₁.setTop (mkF m 2 #[vR r0, vR r1] [(.ref r1), (.ref r0)])) := fun t k => k0 t (by
    refine XS.aloadN X0.here hx rfl (hb hby d42_0) rfl rfl ?_
    refine XS.aloadN X0.here hx rfl (hb hby d42_1) rfl rfl ?_
    exact k)
  obtain ⟨cq2, kq2, q2a, q2b, q2c⟩ := isOf hZ e0 E0
  obtain ⟨_, _, ⟨T2, L2, k2, n2⟩, -, X2, ⟨Lc2, hQ2, lq2, yq2, zq2⟩, st2⟩ := X0.virtualBack hx (y := Y37) (z := Y37) hown (mvT hZ (own_w hw 276 rfl)) (mvT hZ (own_w hw 277 rfl)) (notFace_of_selects (args := #[]) (mvT hZ (own_w hw 279 rfl))) (mvT hZ (own_w hw 279 rfl)) (mvT hZ (own_w hw 278 rfl)) (by decide) (backOf (W := 0) (rm43_h l Z a0 hw [] r0 r1 y9 tab ktb nd sk tk ktk yk t1 kt1 h0 n0 Z0 S9 P9 Ft Va En Fh Fk hKq hT g_r1 n_r0 n_tab n_nd n_sk n_tk) hZ (own_w hw 280 rfl) (own_w hw 119 rfl) (by decide) (by decide)) q2a q2c (g := (mkF m 2 #[vR r0, vR r1] [(.ref r1), (.ref r0)])) rfl (by rw [hml]; rfl) (Steps.refl _) (argsL := [(.ref r1)]) (rest := []) (lenOf pd_27 rfl) rfl (by show 2 * 0 + _ ≤ _; exact Nat.le_of_eq rfl) (hb hby d42_2) (fun _ _ => ⟨rfl, e0, (by decide : 0 + 0 ≤ _), (by decide : 0 + 0 ≤ _)⟩)
  dsimp only [Pt.U, Pt.locs, Pt.cells, Pt.slots] at X2 lq2 yq2 zq2 st2 hQ2
  obtain rfl : k2 = 0 := yq2
  obtain rfl : n2 = 0 := zq2
  obtain ⟨rfl, Nq2, Kq2, Tq2⟩ := hQ2
  have N2 := Fr.app N0 Nq2
  have KH2 : Keep h0 T2.heap [r1] := (Keep.refl h0 [r1]).trans Kq2 (allS (Or.inl (List.mem_of_getElem? (i := 0) rfl)) all0)
  have Zn2 : n0 ≤ T2.heap.size := Nat.le_trans Z0 Kq2.1
  have N2' : Fr n0 L2 := by rw [lq2]; exact N2
  have ks3 := own_ct ks1 st2
  have ks4 : own_R p e below (A0) (T2.setTop (mkF m 13 #[vR r0, vR r1] [(.int 1)])) := fun t k => ks3 t (by
    refine XS.ifnullNo X2.here hx rfl (hb hby d42_5) rfl ?_
    refine XS.iconst X2.here hx rfl (hb hby d42_8) ?_
    refine XS.goto X2.here hx rfl (pc0 := 9) (pc' := 13) rfl (hb hby d42_9) (by decide) (by decide) ?_
    exact k)
  obtain ⟨fs, hr, hrun, hended, hW, hsame⟩ := X2.leave (v := some (.int 1)) (fun h => by rw [Bd.returns] at h; cases h) hlk
  refine ⟨_, _, kz _ (ks4 _ ?_), hrun, hended, _, _, rfl, ?_, ⟨_, rfl⟩, hW, hsame.mono (by decide) (by decide)⟩
  · exact retN X2 hx (t := .boolean) Bd.returns (by simp) (hb hby d42_13) hr
  · show Q42_h Z r0 r1 y9 tab ktb nd sk tk ktk yk t1 kt1 h0 n0 _ T2.heap _
    exact ⟨rfl, N2', KH2, Tq2⟩
theorem d41_0 : dk bc39 0 (.aload_n 0) 1 := by decide +kernel
theorem d41_1 : dk bc39 1 (.getfield 10) 3 := by decide +kernel
theorem d41_4 : dk bc39 4 (.aload_n 1) 1 := by decide +kernel
theorem d41_5 : dk bc39 5 (.invokevirtual 60) 3 := by decide +kernel
theorem d41_8 : dk bc39 8 (.ireturn) 1 := by decide +kernel
theorem pn_41 : plainName "java/util/HashSet" = true := by first | (simp [plainName, overriddenIn]; done) | decide +kernel
theorem ef_41_h (m : MethodId) (x0 : Addr) (x1 : Addr) : entryFrame m #[(.ref x0), (.ref x1)] 2 = mkF m 0 #[.val (.ref x0), .val (.ref x1)] [] := by first | (simp [entryFrame, mkF, argsToLocals, Value.category]; done) | rfl
def Q41_h (Z : State) (r0 : Addr) (r1 : Addr) (hm : Addr) (y9 : Int32) (tab : Addr) (ktb : ClassId) (nd : Addr) (sk : Addr) (tk : Addr) (ktk : ClassId) (yk : Int32) (t1 : Addr) (kt1 : ClassId) (h0 : Heap) (n0 : Nat) (v : Option Value) (h : Heap) (L : List Loc) : Prop := v = some (.int 1) ∧ Fr n0 L ∧ Keep h0 h [r1] ∧ own_T Z h r1 t1 kt1 yk
set_option maxRecDepth 65536 in
set_option maxHeartbeats 40000000 in
theorem rm41_h (l : Launch) (Z : State) (a0 : Array Value) (hw : ∀ d ∈ tables_1, d.before a0 Z = true) (ws : List Jvm.Cond) (r0 : Addr) (r1 : Addr) (hm : Addr) (y9 : Int32) (tab : Addr) (ktb : ClassId) (nd : Addr) (sk : Addr) (tk : Addr) (ktk : ClassId) (yk : Int32) (t1 : Addr) (kt1 : ClassId) (h0 : Heap) (n0 : Nat) (Z0 : n0 ≤ h0.size) (E0 : Exa Z h0 hm "java/util/HashMap") (Fp : Fld Z h0 r0 "java/util/HashSet" "map" "Ljava/util/HashMap;" (.ref hm)) (S9 : own_S9 Z h0 y9) (P9 : ¬ y9 = (0 : Int32)) (Ft : Fld Z h0 hm "java/util/HashMap" "table" "[Ljava/util/HashMap$Node;" (.ref tab)) (Va : Arh Z h0 tab ktb (.object "java/util/HashMap$Node") 16 [(((15 : Int32) &&& yk), .ref nd)] [] .null) (En : Exa Z h0 nd "java/util/HashMap$Node") (Fh : Fld Z h0 nd "java/util/HashMap$Node" "hash" "I" (.int yk)) (Fk : Fld Z h0 nd "java/util/HashMap$Node" "key" "Ljava/lang/Object;" (.ref sk)) (hKq : Exa Z h0 sk "java/lang/String" ∧ own_Cd Z h0 sk 0 ∧ own_Fv Z h0 sk tk ∧ Arv Z h0 tk ktk .byte 1 [.int (yk.toInt8.toInt32)] (.int 0)) (hT : own_T Z h0 r1 t1 kt1 yk) (g_r1 : n0 ≤ r1) (n_hm : hm ≠ r1) (n_tab : tab ≠ r1) (n_nd : nd ≠ r1) (n_sk : sk ≠ r1) (n_tk : tk ≠ r1) :
    MetFree l Y39 (head1 (Jvm.Cond.code Y39 jdk_93_method_9_code 2 (some .boolean) :: ws) (⟨5, 0, 0, 72⟩ : Room)) (fun a U => a = #[(.ref r0), (.ref r1)] ∧ Z.Warmed39 U.vm ∧ U.heap = h0) (fun _ _ _ _ _ => True) (fun _ U o U' => ∃ v L, o = .returned v ∧ Q41_h Z r0 r1 hm y9 tab ktb nd sk tk ktk yk t1 kt1 h0 n0 v U'.heap L ∧ FrameEnd U o U' L (⟨5, 0, 0, 72⟩ : Room).cells (⟨5, 0, 0, 72⟩ : Room).slots) := by
  refine MetFree.of_bodySF (plainFor_of_name pn_41) hisR ?_
  intro p e s m args below meth c s₁ Bd hml0 hP hK
  obtain ⟨rfl, hZ, hh⟩ := hP
  have hx := Bd.exec
  have hby := Bd.bytes
  have hml : c.maxLocals = 2 := hml0
  have hown : s.vm.findClass "java/util/HashSet" = some m.cls := findClass_of_methodNamed Bd.named
  have hnm := (name_of_methodNamed Bd.named Bd.method).1
  have hlk : meth.locks = false := by first | exact BodyLoose.notSynchronized Bd | exact Body.notSynchronized Bd
  have X0 : Stand p l e (⟨5, 0, 0, 72⟩ : Room) s m #[(.ref r0), (.ref r1)] below meth c s₁ [] 0 0 := Stand.of_body Bd
  have e0 : s₁.heap = h0 := by rw [← hh, Bd.state]; rfl
  have N0 := Fr.nil n0
  have k0 : own_R p e below (s₁.setTop (entryFrame m #[(.ref r0), (.ref r1)] 2)) (s₁.setTop (mkF m 0 #[vR r0, vR r1] [])) := fun t k => castTop (ef_41_h m r0 r1) k
  obtain ⟨A0, hA0⟩ : ∃ z, z = s₁.setTop (entryFrame m #[(.ref r0), (.ref r1)] 2) := ⟨_, rfl⟩
  rw [← hA0] at k0
  have kz : ∀ t, Steps p.tables e below A0 t → Steps p.tables e below (s₁.setTop (entryFrame m #[(.ref r0), (.ref r1)] 2)) t := fun t q => hA0 ▸ q
  have ks1 : own_R p e below (A0) (s₁.setTop (mkF m 1 #[vR r0, vR r1] [(.ref r0)])) := fun t k => k0 t (by
    refine XS.aloadN X0.here hx rfl (hb hby d41_0) rfl rfl ?_
    exact k)
  obtain ⟨T2, X2, e2, st2⟩ := getF X0 hx hZ hown (host := "") (Or.inl (own_w hw 134 rfl)) Via.refl e0 Fp (g := (mkF m 1 #[vR r0, vR r1] [(.ref r0)])) rfl rfl (hb hby d41_1)
  have ks3 := own_c ks1 st2
  have ks4 : own_R p e below (A0) (T2.setTop (mkF m 5 #[vR r0, vR r1] [(.ref r1), (.ref hm)])) := fun t k => ks3 t (by
    refine XS.aloadN X2.here hx rfl (hb hby d41_4) rfl rfl ?_
    exact k)
  obtain ⟨cq5, kq5, q5a, q5b, q5c⟩ := isOf hZ e2 E0
  obtain ⟨_, _, ⟨T5, L5, k5, n5⟩, -, X5, ⟨Lc5, hQ5, lq5, yq5, zq5⟩, st5⟩ := X2.virtualBack hx (y := Y38) (z := Y38) hown (mvT hZ (own_w hw 271 rfl)) (mvT hZ (own_w hw 272 rfl)) (notFace_of_selects (args := #[]) (mvT hZ (own_w hw 274 rfl))) (mvT hZ (own_w hw 274 rfl)) (mvT hZ (own_w hw 273 rfl)) (by decide) (backOf (W := 0) (rm42_h l Z a0 hw [] hm r1 y9 tab ktb nd sk tk ktk yk t1 kt1 h0 n0 Z0 E0 S9 P9 Ft Va En Fh Fk hKq hT g_r1 n_hm n_tab n_nd n_sk n_tk) hZ (own_w hw 275 rfl) (own_w hw 119 rfl) (by decide) (by decide)) q5a q5c (g := (mkF m 5 #[vR r0, vR r1] [(.ref r1), (.ref hm)])) rfl (by rw [hml]; rfl) (Steps.refl _) (argsL := [(.ref r1)]) (rest := []) (lenOf pd_9 rfl) rfl (by show 2 * 0 + _ ≤ _; exact Nat.le_of_eq rfl) (hb hby d41_5) (fun _ _ => ⟨rfl, e2, (by decide : 0 + 0 ≤ _), (by decide : 0 + 0 ≤ _)⟩)
  dsimp only [Pt.U, Pt.locs, Pt.cells, Pt.slots] at X5 lq5 yq5 zq5 st5 hQ5
  obtain rfl : k5 = 0 := yq5
  obtain rfl : n5 = 0 := zq5
  obtain ⟨rfl, Nq5, Kq5, Tq5⟩ := hQ5
  have N5 := Fr.app N0 Nq5
  have KH5 : Keep h0 T5.heap [r1] := (Keep.refl h0 [r1]).trans Kq5 (allS (Or.inl (List.mem_of_getElem? (i := 0) rfl)) all0)
  have Zn5 : n0 ≤ T5.heap.size := Nat.le_trans Z0 Kq5.1
  have N5' : Fr n0 L5 := by rw [lq5]; exact N5
  have ks6 := own_ct ks4 st5
  obtain ⟨fs, hr, hrun, hended, hW, hsame⟩ := X5.leave (v := some (.int 1)) (fun h => by rw [Bd.returns] at h; cases h) hlk
  refine ⟨_, _, kz _ (ks6 _ ?_), hrun, hended, _, _, rfl, ?_, ⟨_, rfl⟩, hW, hsame.mono (by decide) (by decide)⟩
  · exact retN X5 hx (t := .boolean) Bd.returns (by simp) (hb hby d41_8) hr
  · show Q41_h Z r0 r1 hm y9 tab ktb nd sk tk ktk yk t1 kt1 h0 n0 _ T5.heap _
    exact ⟨rfl, N5', KH5, Tq5⟩
theorem d42_12 : dk bc38 12 (.iconst 0) 1 := by decide +kernel
theorem ef_42_m (m : MethodId) (x0 : Addr) (x1 : Addr) : entryFrame m #[(.ref x0), (.ref x1)] 2 = mkF m 0 #[.val (.ref x0), .val (.ref x1)] [] := by first | (simp [entryFrame, mkF, argsToLocals, Value.category]; done) | rfl
def Q42_m (Z : State) (r0 : Addr) (r1 : Addr) (y9 : Int32) (tab : Addr) (ktb : ClassId) (nd : Addr) (sk : Addr) (tk : Addr) (ktk : ClassId) (yk : Int32) (t1 : Addr) (kt1 : ClassId) (y1 : Int32) (h0 : Heap) (n0 : Nat) (v : Option Value) (h : Heap) (L : List Loc) : Prop := v = some (.int 0) ∧ Fr n0 L ∧ Keep h0 h [r1] ∧ own_T Z h r1 t1 kt1 y1
set_option maxRecDepth 65536 in
set_option maxHeartbeats 40000000 in
theorem rm42_m (l : Launch) (Z : State) (a0 : Array Value) (hw : ∀ d ∈ tables_1, d.before a0 Z = true) (ws : List Jvm.Cond) (r0 : Addr) (r1 : Addr) (y9 : Int32) (tab : Addr) (ktb : ClassId) (nd : Addr) (sk : Addr) (tk : Addr) (ktk : ClassId) (yk : Int32) (t1 : Addr) (kt1 : ClassId) (y1 : Int32) (h0 : Heap) (n0 : Nat) (Z0 : n0 ≤ h0.size) (E0 : Exa Z h0 r0 "java/util/HashMap") (S9 : own_S9 Z h0 y9) (P9 : ¬ y9 = (0 : Int32)) (Ft : Fld Z h0 r0 "java/util/HashMap" "table" "[Ljava/util/HashMap$Node;" (.ref tab)) (Va : Arh Z h0 tab ktb (.object "java/util/HashMap$Node") 16 [(((15 : Int32) &&& yk), .ref nd)] [] .null) (En : Exa Z h0 nd "java/util/HashMap$Node") (Fh : Fld Z h0 nd "java/util/HashMap$Node" "hash" "I" (.int yk)) (Fk : Fld Z h0 nd "java/util/HashMap$Node" "key" "Ljava/lang/Object;" (.ref sk)) (hKq : Exa Z h0 sk "java/lang/String" ∧ own_Cd Z h0 sk 0 ∧ own_Fv Z h0 sk tk ∧ Arv Z h0 tk ktk .byte 1 [.int (yk.toInt8.toInt32)] (.int 0)) (hT : own_T Z h0 r1 t1 kt1 y1) (g_r1 : n0 ≤ r1) (n_r0 : r0 ≠ r1) (n_tab : tab ≠ r1) (n_nd : nd ≠ r1) (n_sk : sk ≠ r1) (n_tk : tk ≠ r1) (hne : ¬ ((15 : Int32) &&& y1) = ((15 : Int32) &&& yk)) :
    MetFree l Y38 (head1 (Jvm.Cond.code Y38 jdk_69_method_14_code 2 (some .boolean) :: ws) (⟨4, 0, 0, 59⟩ : Room)) (fun a U => a = #[(.ref r0), (.ref r1)] ∧ Z.Warmed39 U.vm ∧ U.heap = h0) (fun _ _ _ _ _ => True) (fun _ U o U' => ∃ v L, o = .returned v ∧ Q42_m Z r0 r1 y9 tab ktb nd sk tk ktk yk t1 kt1 y1 h0 n0 v U'.heap L ∧ FrameEnd U o U' L (⟨4, 0, 0, 59⟩ : Room).cells (⟨4, 0, 0, 59⟩ : Room).slots) := by
  refine MetFree.of_bodySF (plainFor_of_name pn_42) hisR ?_
  intro p e s m args below meth c s₁ Bd hml0 hP hK
  obtain ⟨rfl, hZ, hh⟩ := hP
  have hx := Bd.exec
  have hby := Bd.bytes
  have hml : c.maxLocals = 2 := hml0
  have hown : s.vm.findClass "java/util/HashMap" = some m.cls := findClass_of_methodNamed Bd.named
  have hnm := (name_of_methodNamed Bd.named Bd.method).1
  have hlk : meth.locks = false := by first | exact BodyLoose.notSynchronized Bd | exact Body.notSynchronized Bd
  have X0 : Stand p l e (⟨4, 0, 0, 59⟩ : Room) s m #[(.ref r0), (.ref r1)] below meth c s₁ [] 0 0 := Stand.of_body Bd
  have e0 : s₁.heap = h0 := by rw [← hh, Bd.state]; rfl
  have N0 := Fr.nil n0
  have k0 : own_R p e below (s₁.setTop (entryFrame m #[(.ref r0), (.ref r1)] 2)) (s₁.setTop (mkF m 0 #[vR r0, vR r1] [])) := fun t k => castTop (ef_42_m m r0 r1) k
  obtain ⟨A0, hA0⟩ : ∃ z, z = s₁.setTop (entryFrame m #[(.ref r0), (.ref r1)] 2) := ⟨_, rfl⟩
  rw [← hA0] at k0
  have kz : ∀ t, Steps p.tables e below A0 t → Steps p.tables e below (s₁.setTop (entryFrame m #[(.ref r0), (.ref r1)] 2)) t := fun t q => hA0 ▸ q
  have ks1 : own_R p e below (A0) (s₁.setTop (mkF m 2 #[vR r0, vR r1] [(.ref r1), (.ref r0)])) := fun t k => k0 t (by
    refine XS.aloadN X0.here hx rfl (hb hby d42_0) rfl rfl ?_
    refine XS.aloadN X0.here hx rfl (hb hby d42_1) rfl rfl ?_
    exact k)
  obtain ⟨cq2, kq2, q2a, q2b, q2c⟩ := isOf hZ e0 E0
  obtain ⟨_, _, ⟨T2, L2, k2, n2⟩, -, X2, ⟨Lc2, hQ2, lq2, yq2, zq2⟩, st2⟩ := X0.virtualBack hx (y := Y37) (z := Y37) hown (mvT hZ (own_w hw 276 rfl)) (mvT hZ (own_w hw 277 rfl)) (notFace_of_selects (args := #[]) (mvT hZ (own_w hw 279 rfl))) (mvT hZ (own_w hw 279 rfl)) (mvT hZ (own_w hw 278 rfl)) (by decide) (backOf (W := 0) (rm43_m l Z a0 hw [] r0 r1 y9 tab ktb nd sk tk ktk yk t1 kt1 y1 h0 n0 Z0 S9 P9 Ft Va En Fh Fk hKq hT g_r1 n_r0 n_tab n_nd n_sk n_tk hne) hZ (own_w hw 280 rfl) (own_w hw 119 rfl) (by decide) (by decide)) q2a q2c (g := (mkF m 2 #[vR r0, vR r1] [(.ref r1), (.ref r0)])) rfl (by rw [hml]; rfl) (Steps.refl _) (argsL := [(.ref r1)]) (rest := []) (lenOf pd_27 rfl) rfl (by show 2 * 0 + _ ≤ _; exact Nat.le_of_eq rfl) (hb hby d42_2) (fun _ _ => ⟨rfl, e0, (by decide : 0 + 0 ≤ _), (by decide : 0 + 0 ≤ _)⟩)
  dsimp only [Pt.U, Pt.locs, Pt.cells, Pt.slots] at X2 lq2 yq2 zq2 st2 hQ2
  obtain rfl : k2 = 0 := yq2
  obtain rfl : n2 = 0 := zq2
  obtain ⟨rfl, Nq2, Kq2, Tq2⟩ := hQ2
  have N2 := Fr.app N0 Nq2
  have KH2 : Keep h0 T2.heap [r1] := (Keep.refl h0 [r1]).trans Kq2 (allS (Or.inl (List.mem_of_getElem? (i := 0) rfl)) all0)
  have Zn2 : n0 ≤ T2.heap.size := Nat.le_trans Z0 Kq2.1
  have N2' : Fr n0 L2 := by rw [lq2]; exact N2
  have ks3 := own_ct ks1 st2
  have ks4 : own_R p e below (A0) (T2.setTop (mkF m 13 #[vR r0, vR r1] [(.int 0)])) := fun t k => ks3 t (by
    refine XS.ifnullYes X2.here hx rfl (pc0 := 5) (pc' := 12) rfl (hb hby d42_5) rfl (by decide) (by decide) ?_
    refine XS.iconst X2.here hx rfl (hb hby d42_12) ?_
    exact k)
  obtain ⟨fs, hr, hrun, hended, hW, hsame⟩ := X2.leave (v := some (.int 0)) (fun h => by rw [Bd.returns] at h; cases h) hlk
  refine ⟨_, _, kz _ (ks4 _ ?_), hrun, hended, _, _, rfl, ?_, ⟨_, rfl⟩, hW, hsame.mono (by decide) (by decide)⟩
  · exact retN X2 hx (t := .boolean) Bd.returns (by simp) (hb hby d42_13) hr
  · show Q42_m Z r0 r1 y9 tab ktb nd sk tk ktk yk t1 kt1 y1 h0 n0 _ T2.heap _
    exact ⟨rfl, N2', KH2, Tq2⟩
theorem ef_41_m (m : MethodId) (x0 : Addr) (x1 : Addr) : entryFrame m #[(.ref x0), (.ref x1)] 2 = mkF m 0 #[.val (.ref x0), .val (.ref x1)] [] := by first | (simp [entryFrame, mkF, argsToLocals, Value.category]; done) | rfl
def Q41_m (Z : State) (r0 : Addr) (r1 : Addr) (hm : Addr) (y9 : Int32) (tab : Addr) (ktb : ClassId) (nd : Addr) (sk : Addr) (tk : Addr) (ktk : ClassId) (yk : Int32) (t1 : Addr) (kt1 : ClassId) (y1 : Int32) (h0 : Heap) (n0 : Nat) (v : Option Value) (h : Heap) (L : List Loc) : Prop := v = some (.int 0) ∧ Fr n0 L ∧ Keep h0 h [r1] ∧ own_T Z h r1 t1 kt1 y1
set_option maxRecDepth 65536 in
set_option maxHeartbeats 40000000 in
theorem rm41_m (l : Launch) (Z : State) (a0 : Array Value) (hw : ∀ d ∈ tables_1, d.before a0 Z = true) (ws : List Jvm.Cond) (r0 : Addr) (r1 : Addr) (hm : Addr) (y9 : Int32) (tab : Addr) (ktb : ClassId) (nd : Addr) (sk : Addr) (tk : Addr) (ktk : ClassId) (yk : Int32) (t1 : Addr) (kt1 : ClassId) (y1 : Int32) (h0 : Heap) (n0 : Nat) (Z0 : n0 ≤ h0.size) (E0 : Exa Z h0 hm "java/util/HashMap") (Fp : Fld Z h0 r0 "java/util/HashSet" "map" "Ljava/util/HashMap;" (.ref hm)) (S9 : own_S9 Z h0 y9) (P9 : ¬ y9 = (0 : Int32)) (Ft : Fld Z h0 hm "java/util/HashMap" "table" "[Ljava/util/HashMap$Node;" (.ref tab)) (Va : Arh Z h0 tab ktb (.object "java/util/HashMap$Node") 16 [(((15 : Int32) &&& yk), .ref nd)] [] .null) (En : Exa Z h0 nd "java/util/HashMap$Node") (Fh : Fld Z h0 nd "java/util/HashMap$Node" "hash" "I" (.int yk)) (Fk : Fld Z h0 nd "java/util/HashMap$Node" "key" "Ljava/lang/Object;" (.ref sk)) (hKq : Exa Z h0 sk "java/lang/String" ∧ own_Cd Z h0 sk 0 ∧ own_Fv Z h0 sk tk ∧ Arv Z h0 tk ktk .byte 1 [.int (yk.toInt8.toInt32)] (.int 0)) (hT : own_T Z h0 r1 t1 kt1 y1) (g_r1 : n0 ≤ r1) (n_hm : hm ≠ r1) (n_tab : tab ≠ r1) (n_nd : nd ≠ r1) (n_sk : sk ≠ r1) (n_tk : tk ≠ r1) (hne : ¬ ((15 : Int32) &&& y1) = ((15 : Int32) &&& yk)) :
    MetFree l Y39 (head1 (Jvm.Cond.code Y39 jdk_93_method_9_code 2 (some .boolean) :: ws) (⟨5, 0, 0, 72⟩ : Room)) (fun a U => a = #[(.ref r0), (.ref r1)] ∧ Z.Warmed39 U.vm ∧ U.heap = h0) (fun _ _ _ _ _ => True) (fun _ U o U' => ∃ v L, o = .returned v ∧ Q41_m Z r0 r1 hm y9 tab ktb nd sk tk ktk yk t1 kt1 y1 h0 n0 v U'.heap L ∧ FrameEnd U o U' L (⟨5, 0, 0, 72⟩ : Room).cells (⟨5, 0, 0, 72⟩ : Room).slots) := by
  refine MetFree.of_bodySF (plainFor_of_name pn_41) hisR ?_
  intro p e s m args below meth c s₁ Bd hml0 hP hK
  obtain ⟨rfl, hZ, hh⟩ := hP
  have hx := Bd.exec
  have hby := Bd.bytes
  have hml : c.maxLocals = 2 := hml0
  have hown : s.vm.findClass "java/util/HashSet" = some m.cls := findClass_of_methodNamed Bd.named
  have hnm := (name_of_methodNamed Bd.named Bd.method).1
  have hlk : meth.locks = false := by first | exact BodyLoose.notSynchronized Bd | exact Body.notSynchronized Bd
  have X0 : Stand p l e (⟨5, 0, 0, 72⟩ : Room) s m #[(.ref r0), (.ref r1)] below meth c s₁ [] 0 0 := Stand.of_body Bd
  have e0 : s₁.heap = h0 := by rw [← hh, Bd.state]; rfl
  have N0 := Fr.nil n0
  have k0 : own_R p e below (s₁.setTop (entryFrame m #[(.ref r0), (.ref r1)] 2)) (s₁.setTop (mkF m 0 #[vR r0, vR r1] [])) := fun t k => castTop (ef_41_m m r0 r1) k
  obtain ⟨A0, hA0⟩ : ∃ z, z = s₁.setTop (entryFrame m #[(.ref r0), (.ref r1)] 2) := ⟨_, rfl⟩
  rw [← hA0] at k0
  have kz : ∀ t, Steps p.tables e below A0 t → Steps p.tables e below (s₁.setTop (entryFrame m #[(.ref r0), (.ref r1)] 2)) t := fun t q => hA0 ▸ q
  have ks1 : own_R p e below (A0) (s₁.setTop (mkF m 1 #[vR r0, vR r1] [(.ref r0)])) := fun t k => k0 t (by
    refine XS.aloadN X0.here hx rfl (hb hby d41_0) rfl rfl ?_
    exact k)
  obtain ⟨T2, X2, e2, st2⟩ := getF X0 hx hZ hown (host := "") (Or.inl (own_w hw 134 rfl)) Via.refl e0 Fp (g := (mkF m 1 #[vR r0, vR r1] [(.ref r0)])) rfl rfl (hb hby d41_1)
  have ks3 := own_c ks1 st2
  have ks4 : own_R p e below (A0) (T2.setTop (mkF m 5 #[vR r0, vR r1] [(.ref r1), (.ref hm)])) := fun t k => ks3 t (by
    refine XS.aloadN X2.here hx rfl (hb hby d41_4) rfl rfl ?_
    exact k)
  obtain ⟨cq5, kq5, q5a, q5b, q5c⟩ := isOf hZ e2 E0
  obtain ⟨_, _, ⟨T5, L5, k5, n5⟩, -, X5, ⟨Lc5, hQ5, lq5, yq5, zq5⟩, st5⟩ := X2.virtualBack hx (y := Y38) (z := Y38) hown (mvT hZ (own_w hw 271 rfl)) (mvT hZ (own_w hw 272 rfl)) (notFace_of_selects (args := #[]) (mvT hZ (own_w hw 274 rfl))) (mvT hZ (own_w hw 274 rfl)) (mvT hZ (own_w hw 273 rfl)) (by decide) (backOf (W := 0) (rm42_m l Z a0 hw [] hm r1 y9 tab ktb nd sk tk ktk yk t1 kt1 y1 h0 n0 Z0 E0 S9 P9 Ft Va En Fh Fk hKq hT g_r1 n_hm n_tab n_nd n_sk n_tk hne) hZ (own_w hw 275 rfl) (own_w hw 119 rfl) (by decide) (by decide)) q5a q5c (g := (mkF m 5 #[vR r0, vR r1] [(.ref r1), (.ref hm)])) rfl (by rw [hml]; rfl) (Steps.refl _) (argsL := [(.ref r1)]) (rest := []) (lenOf pd_9 rfl) rfl (by show 2 * 0 + _ ≤ _; exact Nat.le_of_eq rfl) (hb hby d41_5) (fun _ _ => ⟨rfl, e2, (by decide : 0 + 0 ≤ _), (by decide : 0 + 0 ≤ _)⟩)
  dsimp only [Pt.U, Pt.locs, Pt.cells, Pt.slots] at X5 lq5 yq5 zq5 st5 hQ5
  obtain rfl : k5 = 0 := yq5
  obtain rfl : n5 = 0 := zq5
  obtain ⟨rfl, Nq5, Kq5, Tq5⟩ := hQ5
  have N5 := Fr.app N0 Nq5
  have KH5 : Keep h0 T5.heap [r1] := (Keep.refl h0 [r1]).trans Kq5 (allS (Or.inl (List.mem_of_getElem? (i := 0) rfl)) all0)
  have Zn5 : n0 ≤ T5.heap.size := Nat.le_trans Z0 Kq5.1
  have N5' : Fr n0 L5 := by rw [lq5]; exact N5
  have ks6 := own_ct ks4 st5
  obtain ⟨fs, hr, hrun, hended, hW, hsame⟩ := X5.leave (v := some (.int 0)) (fun h => by rw [Bd.returns] at h; cases h) hlk
  refine ⟨_, _, kz _ (ks6 _ ?_), hrun, hended, _, _, rfl, ?_, ⟨_, rfl⟩, hW, hsame.mono (by decide) (by decide)⟩
  · exact retN X5 hx (t := .boolean) Bd.returns (by simp) (hb hby d41_8) hr
  · show Q41_m Z r0 r1 hm y9 tab ktb nd sk tk ktk yk t1 kt1 y1 h0 n0 _ T5.heap _
    exact ⟨rfl, N5', KH5, Tq5⟩
theorem ef_42_e (m : MethodId) (x0 : Addr) (x1 : Addr) : entryFrame m #[(.ref x0), (.ref x1)] 2 = mkF m 0 #[.val (.ref x0), .val (.ref x1)] [] := by first | (simp [entryFrame, mkF, argsToLocals, Value.category]; done) | rfl
def Q42_e (Z : State) (r0 : Addr) (r1 : Addr) (h0 : Heap) (n0 : Nat) (v : Option Value) (h : Heap) (L : List Loc) : Prop := v = some (.int 0) ∧ Fr n0 L ∧ h = h0
set_option maxRecDepth 65536 in
set_option maxHeartbeats 40000000 in
theorem rm42_e (l : Launch) (Z : State) (a0 : Array Value) (hw : ∀ d ∈ tables_1, d.before a0 Z = true) (ws : List Jvm.Cond) (r0 : Addr) (r1 : Addr) (h0 : Heap) (n0 : Nat) (Z0 : n0 ≤ h0.size) (E0 : Exa Z h0 r0 "java/util/HashMap") (Ft : Fld Z h0 r0 "java/util/HashMap" "table" "[Ljava/util/HashMap$Node;" .null) :
    MetFree l Y38 (head1 (Jvm.Cond.code Y38 jdk_69_method_14_code 2 (some .boolean) :: ws) (⟨1, 0, 0, 19⟩ : Room)) (fun a U => a = #[(.ref r0), (.ref r1)] ∧ Z.Warmed39 U.vm ∧ U.heap = h0) (fun _ _ _ _ _ => True) (fun _ U o U' => ∃ v L, o = .returned v ∧ Q42_e Z r0 r1 h0 n0 v U'.heap L ∧ FrameEnd U o U' L (⟨1, 0, 0, 19⟩ : Room).cells (⟨1, 0, 0, 19⟩ : Room).slots) := by
  refine MetFree.of_bodySF (plainFor_of_name pn_42) hisR ?_
  intro p e s m args below meth c s₁ Bd hml0 hP hK
  obtain ⟨rfl, hZ, hh⟩ := hP
  have hx := Bd.exec
  have hby := Bd.bytes
  have hml : c.maxLocals = 2 := hml0
  have hown : s.vm.findClass "java/util/HashMap" = some m.cls := findClass_of_methodNamed Bd.named
  have hnm := (name_of_methodNamed Bd.named Bd.method).1
  have hlk : meth.locks = false := by first | exact BodyLoose.notSynchronized Bd | exact Body.notSynchronized Bd
  have X0 : Stand p l e (⟨1, 0, 0, 19⟩ : Room) s m #[(.ref r0), (.ref r1)] below meth c s₁ [] 0 0 := Stand.of_body Bd
  have e0 : s₁.heap = h0 := by rw [← hh, Bd.state]; rfl
  have N0 := Fr.nil n0
  have k0 : own_R p e below (s₁.setTop (entryFrame m #[(.ref r0), (.ref r1)] 2)) (s₁.setTop (mkF m 0 #[vR r0, vR r1] [])) := fun t k => castTop (ef_42_e m r0 r1) k
  obtain ⟨A0, hA0⟩ : ∃ z, z = s₁.setTop (entryFrame m #[(.ref r0), (.ref r1)] 2) := ⟨_, rfl⟩
  rw [← hA0] at k0
  have kz : ∀ t, Steps p.tables e below A0 t → Steps p.tables e below (s₁.setTop (entryFrame m #[(.ref r0), (.ref r1)] 2)) t := fun t q => hA0 ▸ q
  have ks1 : own_R p e below (A0) (s₁.setTop (mkF m 2 #[vR r0, vR r1] [(.ref r1), (.ref r0)])) := fun t k => k0 t (by
    refine XS.aloadN X0.here hx rfl (hb hby d42_0) rfl rfl ?_
    refine XS.aloadN X0.here hx rfl (hb hby d42_1) rfl rfl ?_
    exact k)
  obtain ⟨cq2, kq2, q2a, q2b, q2c⟩ := isOf hZ e0 E0
  obtain ⟨_, _, ⟨T2, L2, k2, n2⟩, -, X2, ⟨Lc2, hQ2, lq2, yq2, zq2⟩, st2⟩ := X0.virtualBack hx (y := Y37) (z := Y37) hown (mvT hZ (own_w hw 276 rfl)) (mvT hZ (own_w hw 277 rfl)) (notFace_of_selects (args := #[]) (mvT hZ (own_w hw 279 rfl))) (mvT hZ (own_w hw 279 rfl)) (mvT hZ (own_w hw 278 rfl)) (by decide) (backOf (W := 0) (rm43_e l Z a0 hw [] r0 r1 h0 n0 Z0 Ft) hZ (own_w hw 280 rfl) (own_w hw 119 rfl) (by decide) (by decide)) q2a q2c (g := (mkF m 2 #[vR r0, vR r1] [(.ref r1), (.ref r0)])) rfl (by rw [hml]; rfl) (Steps.refl _) (argsL := [(.ref r1)]) (rest := []) (lenOf pd_27 rfl) rfl (by show 2 * 0 + _ ≤ _; exact Nat.le_of_eq rfl) (hb hby d42_2) (fun _ _ => ⟨rfl, e0, (by decide : 0 + 0 ≤ _), (by decide : 0 + 0 ≤ _)⟩)
  dsimp only [Pt.U, Pt.locs, Pt.cells, Pt.slots] at X2 lq2 yq2 zq2 st2 hQ2
  obtain rfl : k2 = 0 := yq2
  obtain rfl : n2 = 0 := zq2
  obtain ⟨rfl, Nq2, eq2⟩ := hQ2
  have N2 := Fr.app N0 Nq2
  have N2' : Fr n0 L2 := by rw [lq2]; exact N2
  have ks3 := own_ct ks1 st2
  have ks4 : own_R p e below (A0) (T2.setTop (mkF m 13 #[vR r0, vR r1] [(.int 0)])) := fun t k => ks3 t (by
    refine XS.ifnullYes X2.here hx rfl (pc0 := 5) (pc' := 12) rfl (hb hby d42_5) rfl (by decide) (by decide) ?_
    refine XS.iconst X2.here hx rfl (hb hby d42_12) ?_
    exact k)
  obtain ⟨fs, hr, hrun, hended, hW, hsame⟩ := X2.leave (v := some (.int 0)) (fun h => by rw [Bd.returns] at h; cases h) hlk
  refine ⟨_, _, kz _ (ks4 _ ?_), hrun, hended, _, _, rfl, ?_, ⟨_, rfl⟩, hW, hsame.mono (by decide) (by decide)⟩
  · exact retN X2 hx (t := .boolean) Bd.returns (by simp) (hb hby d42_13) hr
  · show Q42_e Z r0 r1 h0 n0 _ T2.heap _
    rw [eq2]
    exact ⟨rfl, N2', rfl⟩
theorem ef_41_e (m : MethodId) (x0 : Addr) (x1 : Addr) : entryFrame m #[(.ref x0), (.ref x1)] 2 = mkF m 0 #[.val (.ref x0), .val (.ref x1)] [] := by first | (simp [entryFrame, mkF, argsToLocals, Value.category]; done) | rfl
def Q41_e (Z : State) (r0 : Addr) (r1 : Addr) (hm : Addr) (h0 : Heap) (n0 : Nat) (v : Option Value) (h : Heap) (L : List Loc) : Prop := v = some (.int 0) ∧ Fr n0 L ∧ h = h0
set_option maxRecDepth 65536 in
set_option maxHeartbeats 40000000 in
theorem rm41_e (l : Launch) (Z : State) (a0 : Array Value) (hw : ∀ d ∈ tables_1, d.before a0 Z = true) (ws : List Jvm.Cond) (r0 : Addr) (r1 : Addr) (hm : Addr) (h0 : Heap) (n0 : Nat) (Z0 : n0 ≤ h0.size) (E0 : Exa Z h0 hm "java/util/HashMap") (Fp : Fld Z h0 r0 "java/util/HashSet" "map" "Ljava/util/HashMap;" (.ref hm)) (Ft : Fld Z h0 hm "java/util/HashMap" "table" "[Ljava/util/HashMap$Node;" .null) :
    MetFree l Y39 (head1 (Jvm.Cond.code Y39 jdk_93_method_9_code 2 (some .boolean) :: ws) (⟨2, 0, 0, 32⟩ : Room)) (fun a U => a = #[(.ref r0), (.ref r1)] ∧ Z.Warmed39 U.vm ∧ U.heap = h0) (fun _ _ _ _ _ => True) (fun _ U o U' => ∃ v L, o = .returned v ∧ Q41_e Z r0 r1 hm h0 n0 v U'.heap L ∧ FrameEnd U o U' L (⟨2, 0, 0, 32⟩ : Room).cells (⟨2, 0, 0, 32⟩ : Room).slots) := by
  refine MetFree.of_bodySF (plainFor_of_name pn_41) hisR ?_
  intro p e s m args below meth c s₁ Bd hml0 hP hK
  obtain ⟨rfl, hZ, hh⟩ := hP
  have hx := Bd.exec
  have hby := Bd.bytes
  have hml : c.maxLocals = 2 := hml0
  have hown : s.vm.findClass "java/util/HashSet" = some m.cls := findClass_of_methodNamed Bd.named
  have hnm := (name_of_methodNamed Bd.named Bd.method).1
  have hlk : meth.locks = false := by first | exact BodyLoose.notSynchronized Bd | exact Body.notSynchronized Bd
  have X0 : Stand p l e (⟨2, 0, 0, 32⟩ : Room) s m #[(.ref r0), (.ref r1)] below meth c s₁ [] 0 0 := Stand.of_body Bd
  have e0 : s₁.heap = h0 := by rw [← hh, Bd.state]; rfl
  have N0 := Fr.nil n0
  have k0 : own_R p e below (s₁.setTop (entryFrame m #[(.ref r0), (.ref r1)] 2)) (s₁.setTop (mkF m 0 #[vR r0, vR r1] [])) := fun t k => castTop (ef_41_e m r0 r1) k
  obtain ⟨A0, hA0⟩ : ∃ z, z = s₁.setTop (entryFrame m #[(.ref r0), (.ref r1)] 2) := ⟨_, rfl⟩
  rw [← hA0] at k0
  have kz : ∀ t, Steps p.tables e below A0 t → Steps p.tables e below (s₁.setTop (entryFrame m #[(.ref r0), (.ref r1)] 2)) t := fun t q => hA0 ▸ q
  have ks1 : own_R p e below (A0) (s₁.setTop (mkF m 1 #[vR r0, vR r1] [(.ref r0)])) := fun t k => k0 t (by
    refine XS.aloadN X0.here hx rfl (hb hby d41_0) rfl rfl ?_
    exact k)
  obtain ⟨T2, X2, e2, st2⟩ := getF X0 hx hZ hown (host := "") (Or.inl (own_w hw 134 rfl)) Via.refl e0 Fp (g := (mkF m 1 #[vR r0, vR r1] [(.ref r0)])) rfl rfl (hb hby d41_1)
  have ks3 := own_c ks1 st2
  have ks4 : own_R p e below (A0) (T2.setTop (mkF m 5 #[vR r0, vR r1] [(.ref r1), (.ref hm)])) := fun t k => ks3 t (by
    refine XS.aloadN X2.here hx rfl (hb hby d41_4) rfl rfl ?_
    exact k)
  obtain ⟨cq5, kq5, q5a, q5b, q5c⟩ := isOf hZ e2 E0
  obtain ⟨_, _, ⟨T5, L5, k5, n5⟩, -, X5, ⟨Lc5, hQ5, lq5, yq5, zq5⟩, st5⟩ := X2.virtualBack hx (y := Y38) (z := Y38) hown (mvT hZ (own_w hw 271 rfl)) (mvT hZ (own_w hw 272 rfl)) (notFace_of_selects (args := #[]) (mvT hZ (own_w hw 274 rfl))) (mvT hZ (own_w hw 274 rfl)) (mvT hZ (own_w hw 273 rfl)) (by decide) (backOf (W := 0) (rm42_e l Z a0 hw [] hm r1 h0 n0 Z0 E0 Ft) hZ (own_w hw 275 rfl) (own_w hw 119 rfl) (by decide) (by decide)) q5a q5c (g := (mkF m 5 #[vR r0, vR r1] [(.ref r1), (.ref hm)])) rfl (by rw [hml]; rfl) (Steps.refl _) (argsL := [(.ref r1)]) (rest := []) (lenOf pd_9 rfl) rfl (by show 2 * 0 + _ ≤ _; exact Nat.le_of_eq rfl) (hb hby d41_5) (fun _ _ => ⟨rfl, e2, (by decide : 0 + 0 ≤ _), (by decide : 0 + 0 ≤ _)⟩)
  dsimp only [Pt.U, Pt.locs, Pt.cells, Pt.slots] at X5 lq5 yq5 zq5 st5 hQ5
  obtain rfl : k5 = 0 := yq5
  obtain rfl : n5 = 0 := zq5
  obtain ⟨rfl, Nq5, eq5⟩ := hQ5
  have N5 := Fr.app N0 Nq5
  have N5' : Fr n0 L5 := by rw [lq5]; exact N5
  have ks6 := own_ct ks4 st5
  obtain ⟨fs, hr, hrun, hended, hW, hsame⟩ := X5.leave (v := some (.int 0)) (fun h => by rw [Bd.returns] at h; cases h) hlk
  refine ⟨_, _, kz _ (ks6 _ ?_), hrun, hended, _, _, rfl, ?_, ⟨_, rfl⟩, hW, hsame.mono (by decide) (by decide)⟩
  · exact retN X5 hx (t := .boolean) Bd.returns (by simp) (hb hby d41_8) hr
  · show Q41_e Z r0 r1 hm h0 n0 _ T5.heap _
    rw [eq5]
    exact ⟨rfl, N5', rfl⟩
theorem d38_0 : dk bc40 0 (.iload_n 0) 1 := by decide +kernel
theorem d38_1 : dk bc40 1 (.ifCond .lt 8) 3 := by decide +kernel
theorem d38_4 : dk bc40 4 (.iload_n 0) 1 := by decide +kernel
theorem d38_5 : dk bc40 5 (.iload_n 1) 1 := by decide +kernel
theorem d38_6 : dk bc40 6 (.if_icmp .lt 10) 3 := by decide +kernel
theorem d38_16 : dk bc40 16 (.iload_n 0) 1 := by decide +kernel
theorem d38_17 : dk bc40 17 (.ireturn) 1 := by decide +kernel
theorem pn_38 : plainName "jdk/internal/util/Preconditions" = true := by first | (simp [plainName, overriddenIn]; done) | decide +kernel
theorem ef_38 (m : MethodId) (x0 : Int32) (x1 : Int32) : entryFrame m #[(.int x0), (.int x1), .null] 3 = mkF m 0 #[.val (.int x0), .val (.int x1), .val .null] [] := by first | (simp [entryFrame, mkF, argsToLocals, Value.category]; done) | rfl
def Q38 (Z : State) (p0 : Int32) (p1 : Int32) (h0 : Heap) (n0 : Nat) (v : Option Value) (h : Heap) (L : List Loc) : Prop := v = some (.int p0) ∧ Fr n0 L ∧ h = h0
set_option maxRecDepth 65536 in
set_option maxHeartbeats 40000000 in
theorem rm38 (l : Launch) (Z : State) (a0 : Array Value) (hw : ∀ d ∈ tables_1, d.before a0 Z = true) (ws : List Jvm.Cond) (p0 : Int32) (p1 : Int32) (h0 : Heap) (n0 : Nat) (Z0 : n0 ≤ h0.size) (H0 : ¬ p0 < (0 : Int32)) (H1 : p0 < p1) :
    MetFree l Y40 (head1 (Jvm.Cond.code Y40 jdk_41_method_11_code 3 (some .int) :: ws) (⟨0, 0, 0, 0⟩ : Room)) (fun a U => a = #[(.int p0), (.int p1), .null] ∧ Z.Warmed39 U.vm ∧ U.heap = h0) (fun _ _ _ _ _ => True) (fun _ U o U' => ∃ v L, o = .returned v ∧ Q38 Z p0 p1 h0 n0 v U'.heap L ∧ FrameEnd U o U' L (⟨0, 0, 0, 0⟩ : Room).cells (⟨0, 0, 0, 0⟩ : Room).slots) := by
  refine MetFree.of_bodySF (plainFor_of_name pn_38) hisR ?_
  intro p e s m args below meth c s₁ Bd hml0 hP hK
  obtain ⟨rfl, hZ, hh⟩ := hP
  have hx := Bd.exec
  have hby := Bd.bytes
  have hml : c.maxLocals = 3 := hml0
  have hown : s.vm.findClass "jdk/internal/util/Preconditions" = some m.cls := findClass_of_methodNamed Bd.named
  have hnm := (name_of_methodNamed Bd.named Bd.method).1
  have hlk : meth.locks = false := by first | exact BodyLoose.notSynchronized Bd | exact Body.notSynchronized Bd
  have X0 : Stand p l e (⟨0, 0, 0, 0⟩ : Room) s m #[(.int p0), (.int p1), .null] below meth c s₁ [] 0 0 := Stand.of_body Bd
  have e0 : s₁.heap = h0 := by rw [← hh, Bd.state]; rfl
  have N0 := Fr.nil n0
  have k0 : own_R p e below (s₁.setTop (entryFrame m #[(.int p0), (.int p1), .null] 3)) (s₁.setTop (mkF m 0 #[vI p0, vI p1, .val .null] [])) := fun t k => castTop (ef_38 m p0 p1) k
  obtain ⟨A0, hA0⟩ : ∃ z, z = s₁.setTop (entryFrame m #[(.int p0), (.int p1), .null] 3) := ⟨_, rfl⟩
  rw [← hA0] at k0
  have kz : ∀ t, Steps p.tables e below A0 t → Steps p.tables e below (s₁.setTop (entryFrame m #[(.int p0), (.int p1), .null] 3)) t := fun t q => hA0 ▸ q
  have ks1 : own_R p e below (A0) (s₁.setTop (mkF m 17 #[vI p0, vI p1, .val .null] [(.int p0)])) := fun t k => k0 t (by
    refine XS.iloadN X0.here hx rfl (hb hby d38_0) rfl ?_
    refine XS.ifNo X0.here hx rfl (hb hby d38_1) rfl ((if0 _ _).trans (flt H0).1) ?_
    refine XS.iloadN X0.here hx rfl (hb hby d38_4) rfl ?_
    show Steps p.tables e below (s₁.setTop (mkF m 5 #[vI p0, vI p1, .val .null] [(.int p0)])) _
    refine XS.iloadN X0.here hx rfl (hb hby d38_5) rfl ?_
    refine XS.icmpYes X0.here hx rfl (pc0 := 6) (pc' := 16) rfl (hb hby d38_6) rfl (tlt H1).1 (by decide) (by decide) ?_
    refine XS.iloadN X0.here hx rfl (hb hby d38_16) rfl ?_
    exact k)
  obtain ⟨fs, hr, hrun, hended, hW, hsame⟩ := X0.leave (v := some (.int p0)) (fun h => by rw [Bd.returns] at h; cases h) hlk
  refine ⟨_, _, kz _ (ks1 _ ?_), hrun, hended, _, _, rfl, ?_, ⟨_, rfl⟩, hW, hsame.mono (by decide) (by decide)⟩
  · exact retI X0 hx Bd.returns (hb hby d38_17) hr
  · show Q38 Z p0 p1 h0 n0 _ s₁.heap _
    rw [e0]
    exact ⟨rfl, N0, rfl⟩
theorem d37_0 : dk bc41 0 (.iload_n 0) 1 := by decide +kernel
theorem d37_1 : dk bc41 1 (.iload_n 1) 1 := by decide +kernel
theorem d37_2 : dk bc41 2 (.aconst_null) 1 := by decide +kernel
theorem d37_3 : dk bc41 3 (.invokestatic 105) 3 := by decide +kernel
theorem d37_6 : dk bc41 6 (.ireturn) 1 := by decide +kernel
theorem pn_37 : plainName "java/util/Objects" = true := by first | (simp [plainName, overriddenIn]; done) | decide +kernel
theorem pd_25 : parseMethodDescriptor "(IILjava/util/function/BiFunction;)I" = some ⟨[.int, .int, (.object "java/util/function/BiFunction")], some .int⟩ := by decide +kernel
theorem ef_37 (m : MethodId) (x0 : Int32) (x1 : Int32) : entryFrame m #[(.int x0), (.int x1)] 2 = mkF m 0 #[.val (.int x0), .val (.int x1)] [] := by first | (simp [entryFrame, mkF, argsToLocals, Value.category]; done) | rfl
def Q37 (Z : State) (p0 : Int32) (p1 : Int32) (h0 : Heap) (n0 : Nat) (v : Option Value) (h : Heap) (L : List Loc) : Prop := v = some (.int p0) ∧ Fr n0 L ∧ h = h0
set_option maxRecDepth 65536 in
set_option maxHeartbeats 40000000 in
theorem rm37 (l : Launch) (Z : State) (a0 : Array Value) (hw : ∀ d ∈ tables_1, d.before a0 Z = true) (ws : List Jvm.Cond) (p0 : Int32) (p1 : Int32) (h0 : Heap) (n0 : Nat) (Z0 : n0 ≤ h0.size) (H0 : ¬ p0 < (0 : Int32)) (H1 : p0 < p1) :
    MetFree l Y41 (head1 (Jvm.Cond.code Y41 jdk_31_method_17_code 2 (some .int) :: ws) (⟨1, 0, 0, 14⟩ : Room)) (fun a U => a = #[(.int p0), (.int p1)] ∧ Z.Warmed39 U.vm ∧ U.heap = h0) (fun _ _ _ _ _ => True) (fun _ U o U' => ∃ v L, o = .returned v ∧ Q37 Z p0 p1 h0 n0 v U'.heap L ∧ FrameEnd U o U' L (⟨1, 0, 0, 14⟩ : Room).cells (⟨1, 0, 0, 14⟩ : Room).slots) := by
  refine MetFree.of_bodySF (plainFor_of_name pn_37) hisR ?_
  intro p e s m args below meth c s₁ Bd hml0 hP hK
  obtain ⟨rfl, hZ, hh⟩ := hP
  have hx := Bd.exec
  have hby := Bd.bytes
  have hml : c.maxLocals = 2 := hml0
  have hown : s.vm.findClass "java/util/Objects" = some m.cls := findClass_of_methodNamed Bd.named
  have hnm := (name_of_methodNamed Bd.named Bd.method).1
  have hlk : meth.locks = false := by first | exact BodyLoose.notSynchronized Bd | exact Body.notSynchronized Bd
  have X0 : Stand p l e (⟨1, 0, 0, 14⟩ : Room) s m #[(.int p0), (.int p1)] below meth c s₁ [] 0 0 := Stand.of_body Bd
  have e0 : s₁.heap = h0 := by rw [← hh, Bd.state]; rfl
  have N0 := Fr.nil n0
  have k0 : own_R p e below (s₁.setTop (entryFrame m #[(.int p0), (.int p1)] 2)) (s₁.setTop (mkF m 0 #[vI p0, vI p1] [])) := fun t k => castTop (ef_37 m p0 p1) k
  obtain ⟨A0, hA0⟩ : ∃ z, z = s₁.setTop (entryFrame m #[(.int p0), (.int p1)] 2) := ⟨_, rfl⟩
  rw [← hA0] at k0
  have kz : ∀ t, Steps p.tables e below A0 t → Steps p.tables e below (s₁.setTop (entryFrame m #[(.int p0), (.int p1)] 2)) t := fun t q => hA0 ▸ q
  have ks1 : own_R p e below (A0) (s₁.setTop (mkF m 3 #[vI p0, vI p1] [.null, (.int p1), (.int p0)])) := fun t k => k0 t (by
    refine XS.iloadN X0.here hx rfl (hb hby d37_0) rfl ?_
    refine XS.iloadN X0.here hx rfl (hb hby d37_1) rfl ?_
    refine XS.aconstNull X0.here hx rfl (hb hby d37_2) ?_
    exact k)
  obtain ⟨_, _, ⟨T2, L2, k2, n2⟩, -, X2, ⟨Lc2, hQ2, lq2, yq2, zq2⟩, st2⟩ := Jvm.LawKit.callS X0 hx (y := Y40) hown (mvT hZ (own_w hw 246 rfl)) (mvT hZ (own_w hw 247 rfl)) (mvT hZ (own_w hw 248 rfl)) (mvT hZ (own_w hw 249 rfl)) (by decide) (backOf (W := 0) (rm38 l Z a0 hw [] p0 p1 h0 n0 Z0 H0 H1) hZ (own_w hw 249 rfl) (own_w hw 248 rfl) (by decide) (by decide)) (g := (mkF m 3 #[vI p0, vI p1] [.null, (.int p1), (.int p0)])) rfl (by rw [hml]; rfl) (argsL := [(.int p0), (.int p1), .null]) (rest := []) (lenOf pd_25 rfl) rfl (by show 2 * 0 + _ ≤ _; exact Nat.le_of_eq rfl) (hb hby d37_3) (fun _ _ => ⟨rfl, e0, (by decide : 0 + 0 ≤ _), (by decide : 0 + 0 ≤ _)⟩)
  dsimp only [Pt.U, Pt.locs, Pt.cells, Pt.slots] at X2 lq2 yq2 zq2 st2 hQ2
  obtain rfl : k2 = 0 := yq2
  obtain rfl : n2 = 0 := zq2
  obtain ⟨rfl, Nq2, eq2⟩ := hQ2
  have N2 := Fr.app N0 Nq2
  have N2' : Fr n0 L2 := by rw [lq2]; exact N2
  have ks3 := own_c ks1 st2
  obtain ⟨fs, hr, hrun, hended, hW, hsame⟩ := X2.leave (v := some (.int p0)) (fun h => by rw [Bd.returns] at h; cases h) hlk
  refine ⟨_, _, kz _ (ks3 _ ?_), hrun, hended, _, _, rfl, ?_, ⟨_, rfl⟩, hW, hsame.mono (by decide) (by decide)⟩
  · exact retI X2 hx Bd.returns (hb hby d37_6) hr
  · show Q37 Z p0 p1 h0 n0 _ T2.heap _
    rw [eq2]
    exact ⟨rfl, N2', rfl⟩
theorem d35_0 : dk bc42 0 (.aload_n 0) 1 := by decide +kernel
theorem d35_1 : dk bc42 1 (.getfield 48) 3 := by decide +kernel
theorem d35_4 : dk bc42 4 (.ireturn) 1 := by decide +kernel
theorem pn_35 : plainName "java/util/ArrayList" = true := by first | (simp [plainName, overriddenIn]; done) | decide +kernel
theorem ef_35 (m : MethodId) (x0 : Addr) : entryFrame m #[(.ref x0)] 1 = mkF m 0 #[.val (.ref x0)] [] := by first | (simp [entryFrame, mkF, argsToLocals, Value.category]; done) | rfl
def Q35 (Z : State) (r0 : Addr) (sz : Int32) (h0 : Heap) (n0 : Nat) (v : Option Value) (h : Heap) (L : List Loc) : Prop := v = some (.int sz) ∧ Fr n0 L ∧ h = h0
set_option maxRecDepth 65536 in
set_option maxHeartbeats 40000000 in
theorem rm35 (l : Launch) (Z : State) (a0 : Array Value) (hw : ∀ d ∈ tables_1, d.before a0 Z = true) (ws : List Jvm.Cond) (r0 : Addr) (sz : Int32) (h0 : Heap) (n0 : Nat) (Z0 : n0 ≤ h0.size) (Fz : Fld Z h0 r0 "java/util/ArrayList" "size" "I" (.int sz)) :
    MetFree l Y42 (head1 (Jvm.Cond.code Y42 jdk_38_method_8_code 1 (some .int) :: ws) (⟨0, 0, 0, 0⟩ : Room)) (fun a U => a = #[(.ref r0)] ∧ Z.Warmed39 U.vm ∧ U.heap = h0) (fun _ _ _ _ _ => True) (fun _ U o U' => ∃ v L, o = .returned v ∧ Q35 Z r0 sz h0 n0 v U'.heap L ∧ FrameEnd U o U' L (⟨0, 0, 0, 0⟩ : Room).cells (⟨0, 0, 0, 0⟩ : Room).slots) := by
  refine MetFree.of_bodySF (plainFor_of_name pn_35) hisR ?_
  intro p e s m args below meth c s₁ Bd hml0 hP hK
  obtain ⟨rfl, hZ, hh⟩ := hP
  have hx := Bd.exec
  have hby := Bd.bytes
  have hml : c.maxLocals = 1 := hml0
  have hown : s.vm.findClass "java/util/ArrayList" = some m.cls := findClass_of_methodNamed Bd.named
  have hnm := (name_of_methodNamed Bd.named Bd.method).1
  have hlk : meth.locks = false := by first | exact BodyLoose.notSynchronized Bd | exact Body.notSynchronized Bd
  have X0 : Stand p l e (⟨0, 0, 0, 0⟩ : Room) s m #[(.ref r0)] below meth c s₁ [] 0 0 := Stand.of_body Bd
  have e0 : s₁.heap = h0 := by rw [← hh, Bd.state]; rfl
  have N0 := Fr.nil n0
  have k0 : own_R p e below (s₁.setTop (entryFrame m #[(.ref r0)] 1)) (s₁.setTop (mkF m 0 #[vR r0] [])) := fun t k => castTop (ef_35 m r0) k
  obtain ⟨A0, hA0⟩ : ∃ z, z = s₁.setTop (entryFrame m #[(.ref r0)] 1) := ⟨_, rfl⟩
  rw [← hA0] at k0
  have kz : ∀ t, Steps p.tables e below A0 t → Steps p.tables e below (s₁.setTop (entryFrame m #[(.ref r0)] 1)) t := fun t q => hA0 ▸ q
  have ks1 : own_R p e below (A0) (s₁.setTop (mkF m 1 #[vR r0] [(.ref r0)])) := fun t k => k0 t (by
    refine XS.aloadN X0.here hx rfl (hb hby d35_0) rfl rfl ?_
    exact k)
  obtain ⟨T2, X2, e2, st2⟩ := getF X0 hx hZ hown (host := "") (Or.inl (own_w hw 80 rfl)) Via.refl e0 Fz (g := (mkF m 1 #[vR r0] [(.ref r0)])) rfl rfl (hb hby d35_1)
  have ks3 := own_c ks1 st2
  obtain ⟨fs, hr, hrun, hended, hW, hsame⟩ := X2.leave (v := some (.int sz)) (fun h => by rw [Bd.returns] at h; cases h) hlk
  refine ⟨_, _, kz _ (ks3 _ ?_), hrun, hended, _, _, rfl, ?_, ⟨_, rfl⟩, hW, hsame.mono (by decide) (by decide)⟩
  · exact retI X2 hx Bd.returns (hb hby d35_4) hr
  · show Q35 Z r0 sz h0 n0 _ T2.heap _
    rw [e2]
    exact ⟨rfl, N0, rfl⟩
theorem d39_0 : dk bc43 0 (.aload_n 0) 1 := by decide +kernel
theorem d39_1 : dk bc43 1 (.getfield 9) 3 := by decide +kernel
theorem d39_4 : dk bc43 4 (.iload_n 1) 1 := by decide +kernel
theorem d39_5 : dk bc43 5 (.aaload) 1 := by decide +kernel
theorem d39_6 : dk bc43 6 (.areturn) 1 := by decide +kernel
theorem pn_39 : plainName "java/util/ArrayList" = true := by first | (simp [plainName, overriddenIn]; done) | decide +kernel
theorem ef_39 (m : MethodId) (x0 : Addr) (x1 : Int32) : entryFrame m #[(.ref x0), (.int x1)] 2 = mkF m 0 #[.val (.ref x0), .val (.int x1)] [] := by first | (simp [entryFrame, mkF, argsToLocals, Value.category]; done) | rfl
def Q39 (Z : State) (r0 : Addr) (p1 : Int32) (ed : Addr) (ked : ClassId) (cap : Int32) (es : List Value) (x : Addr) (h0 : Heap) (n0 : Nat) (v : Option Value) (h : Heap) (L : List Loc) : Prop := v = some (.ref x) ∧ Fr n0 L ∧ h = h0
set_option maxRecDepth 65536 in
set_option maxHeartbeats 40000000 in
theorem rm39 (l : Launch) (Z : State) (a0 : Array Value) (hw : ∀ d ∈ tables_1, d.before a0 Z = true) (ws : List Jvm.Cond) (r0 : Addr) (p1 : Int32) (ed : Addr) (ked : ClassId) (cap : Int32) (es : List Value) (x : Addr) (h0 : Heap) (n0 : Nat) (Z0 : n0 ≤ h0.size) (E0 : Exa Z h0 r0 "java/util/ArrayList") (Fe : Fld Z h0 r0 "java/util/ArrayList" "elementData" "[Ljava/lang/Object;" (.ref ed)) (Vd : Arv Z h0 ed ked (.object "java/lang/Object") cap es .null) (H0 : ¬ p1 < (0 : Int32)) (Hc : p1 < cap) (hv : es.getD p1.toNatClampNeg .null = .ref x) :
    MetFree l Y43 (head1 (Jvm.Cond.code Y43 jdk_38_method_18_code 2 (some (.object "java/lang/Object")) :: ws) (⟨0, 0, 0, 0⟩ : Room)) (fun a U => a = #[(.ref r0), (.int p1)] ∧ Z.Warmed39 U.vm ∧ U.heap = h0) (fun _ _ _ _ _ => True) (fun _ U o U' => ∃ v L, o = .returned v ∧ Q39 Z r0 p1 ed ked cap es x h0 n0 v U'.heap L ∧ FrameEnd U o U' L (⟨0, 0, 0, 0⟩ : Room).cells (⟨0, 0, 0, 0⟩ : Room).slots) := by
  refine MetFree.of_bodySF (plainFor_of_name pn_39) hisR ?_
  intro p e s m args below meth c s₁ Bd hml0 hP hK
  obtain ⟨rfl, hZ, hh⟩ := hP
  have hx := Bd.exec
  have hby := Bd.bytes
  have hml : c.maxLocals = 2 := hml0
  have hown : s.vm.findClass "java/util/ArrayList" = some m.cls := findClass_of_methodNamed Bd.named
  have hnm := (name_of_methodNamed Bd.named Bd.method).1
  have hlk : meth.locks = false := by first | exact BodyLoose.notSynchronized Bd | exact Body.notSynchronized Bd
  have X0 : Stand p l e (⟨0, 0, 0, 0⟩ : Room) s m #[(.ref r0), (.int p1)] below meth c s₁ [] 0 0 := Stand.of_body Bd
  have e0 : s₁.heap = h0 := by rw [← hh, Bd.state]; rfl
  have N0 := Fr.nil n0
  have k0 : own_R p e below (s₁.setTop (entryFrame m #[(.ref r0), (.int p1)] 2)) (s₁.setTop (mkF m 0 #[vR r0, vI p1] [])) := fun t k => castTop (ef_39 m r0 p1) k
  obtain ⟨A0, hA0⟩ : ∃ z, z = s₁.setTop (entryFrame m #[(.ref r0), (.int p1)] 2) := ⟨_, rfl⟩
  rw [← hA0] at k0
  have kz : ∀ t, Steps p.tables e below A0 t → Steps p.tables e below (s₁.setTop (entryFrame m #[(.ref r0), (.int p1)] 2)) t := fun t q => hA0 ▸ q
  have ks1 : own_R p e below (A0) (s₁.setTop (mkF m 1 #[vR r0, vI p1] [(.ref r0)])) := fun t k => k0 t (by
    refine XS.aloadN X0.here hx rfl (hb hby d39_0) rfl rfl ?_
    exact k)
  obtain ⟨T2, X2, e2, st2⟩ := getF X0 hx hZ hown (host := "") (Or.inl (own_w hw 68 rfl)) Via.refl e0 Fe (g := (mkF m 1 #[vR r0, vI p1] [(.ref r0)])) rfl rfl (hb hby d39_1)
  have ks3 := own_c ks1 st2
  have ks4 : own_R p e below (A0) (T2.setTop (mkF m 5 #[vR r0, vI p1] [(.int p1), (.ref ed)])) := fun t k => ks3 t (by
    refine XS.iloadN X2.here hx rfl (hb hby d39_4) rfl ?_
    exact k)
  obtain ⟨cl5, Ar5, qa5, S5, Na5, Ha5, Ga5⟩ := id Vd
  have ks6 : own_R p e below (A0) (T2.setTop (mkF m 6 #[vR r0, vI p1] [(.ref x)])) := fun t k => ks4 t (by
    refine X2.aaload hx (j := p1) (v := .ref x) (by rw [e2]; exact Ar5.1) (State.isArrayOf_alike hZ.alike Ar5.2.1) rfl Ar5.2.2 (inb_of S5 ⟨H0, Hc⟩) (Has.at Ha5 (inb_of S5 ⟨H0, Hc⟩) hv) (g := (mkF m 5 #[vR r0, vI p1] [(.int p1), (.ref ed)])) rfl rfl (hb hby d39_5) _ ?_
    exact k)
  obtain ⟨fs, hr, hrun, hended, hW, hsame⟩ := X2.leave (v := some (.ref x)) (fun h => by rw [Bd.returns] at h; cases h) hlk
  refine ⟨_, _, kz _ (ks6 _ ?_), hrun, hended, _, _, rfl, ?_, ⟨_, rfl⟩, hW, hsame.mono (by decide) (by decide)⟩
  · exact retOut X2 hx Bd.returns rfl (Or.inr (Or.inr (Or.inr (Or.inr ⟨rfl, rfl, rfl⟩)))) (hb hby d39_6) hr
  · show Q39 Z r0 p1 ed ked cap es x h0 n0 _ T2.heap _
    rw [e2]
    exact ⟨rfl, N0, rfl⟩
theorem d36_0 : dk bc44 0 (.iload_n 1) 1 := by decide +kernel
theorem d36_1 : dk bc44 1 (.aload_n 0) 1 := by decide +kernel
theorem d36_2 : dk bc44 2 (.getfield 48) 3 := by decide +kernel
theorem d36_5 : dk bc44 5 (.invokestatic 118) 3 := by decide +kernel
theorem d36_8 : dk bc44 8 (.pop) 1 := by decide +kernel
theorem d36_9 : dk bc44 9 (.aload_n 0) 1 := by decide +kernel
theorem d36_10 : dk bc44 10 (.iload_n 1) 1 := by decide +kernel
theorem d36_11 : dk bc44 11 (.invokevirtual 123) 3 := by decide +kernel
theorem d36_14 : dk bc44 14 (.areturn) 1 := by decide +kernel
theorem pn_36 : plainName "java/util/ArrayList" = true := by first | (simp [plainName, overriddenIn]; done) | decide +kernel
theorem pd_24 : parseMethodDescriptor "(I)Ljava/lang/Object;" = some ⟨[.int], some (.object "java/lang/Object")⟩ := by decide +kernel
theorem ef_36 (m : MethodId) (x0 : Addr) (x1 : Int32) : entryFrame m #[(.ref x0), (.int x1)] 2 = mkF m 0 #[.val (.ref x0), .val (.int x1)] [] := by first | (simp [entryFrame, mkF, argsToLocals, Value.category]; done) | rfl
def Q36 (Z : State) (r0 : Addr) (p1 : Int32) (ed : Addr) (ked : ClassId) (cap : Int32) (es : List Value) (x : Addr) (sz : Int32) (h0 : Heap) (n0 : Nat) (v : Option Value) (h : Heap) (L : List Loc) : Prop := v = some (.ref x) ∧ Fr n0 L ∧ h = h0
set_option maxRecDepth 65536 in
set_option maxHeartbeats 40000000 in
theorem rm36 (l : Launch) (Z : State) (a0 : Array Value) (hw : ∀ d ∈ tables_1, d.before a0 Z = true) (ws : List Jvm.Cond) (r0 : Addr) (p1 : Int32) (ed : Addr) (ked : ClassId) (cap : Int32) (es : List Value) (x : Addr) (sz : Int32) (h0 : Heap) (n0 : Nat) (Z0 : n0 ≤ h0.size) (E0 : Exa Z h0 r0 "java/util/ArrayList") (Fe : Fld Z h0 r0 "java/util/ArrayList" "elementData" "[Ljava/lang/Object;" (.ref ed)) (Vd : Arv Z h0 ed ked (.object "java/lang/Object") cap es .null) (H0 : ¬ p1 < (0 : Int32)) (Hc : p1 < cap) (hv : es.getD p1.toNatClampNeg .null = .ref x) (Fz : Fld Z h0 r0 "java/util/ArrayList" "size" "I" (.int sz)) (H1 : p1 < sz) :
    MetFree l Y44 (head1 (Jvm.Cond.code Y44 jdk_38_method_20_code 2 (some (.object "java/lang/Object")) :: ws) (⟨2, 0, 0, 27⟩ : Room)) (fun a U => a = #[(.ref r0), (.int p1)] ∧ Z.Warmed39 U.vm ∧ U.heap = h0) (fun _ _ _ _ _ => True) (fun _ U o U' => ∃ v L, o = .returned v ∧ Q36 Z r0 p1 ed ked cap es x sz h0 n0 v U'.heap L ∧ FrameEnd U o U' L (⟨2, 0, 0, 27⟩ : Room).cells (⟨2, 0, 0, 27⟩ : Room).slots) := by
  refine MetFree.of_bodySF (plainFor_of_name pn_36) hisR ?_
  intro p e s m args below meth c s₁ Bd hml0 hP hK
  obtain ⟨rfl, hZ, hh⟩ := hP
  have hx := Bd.exec
  have hby := Bd.bytes
  have hml : c.maxLocals = 2 := hml0
  have hown : s.vm.findClass "java/util/ArrayList" = some m.cls := findClass_of_methodNamed Bd.named
  have hnm := (name_of_methodNamed Bd.named Bd.method).1
  have hlk : meth.locks = false := by first | exact BodyLoose.notSynchronized Bd | exact Body.notSynchronized Bd
  have X0 : Stand p l e (⟨2, 0, 0, 27⟩ : Room) s m #[(.ref r0), (.int p1)] below meth c s₁ [] 0 0 := Stand.of_body Bd
  have e0 : s₁.heap = h0 := by rw [← hh, Bd.state]; rfl
  have N0 := Fr.nil n0
  have k0 : own_R p e below (s₁.setTop (entryFrame m #[(.ref r0), (.int p1)] 2)) (s₁.setTop (mkF m 0 #[vR r0, vI p1] [])) := fun t k => castTop (ef_36 m r0 p1) k
  obtain ⟨A0, hA0⟩ : ∃ z, z = s₁.setTop (entryFrame m #[(.ref r0), (.int p1)] 2) := ⟨_, rfl⟩
  rw [← hA0] at k0
  have kz : ∀ t, Steps p.tables e below A0 t → Steps p.tables e below (s₁.setTop (entryFrame m #[(.ref r0), (.int p1)] 2)) t := fun t q => hA0 ▸ q
  have ks1 : own_R p e below (A0) (s₁.setTop (mkF m 2 #[vR r0, vI p1] [(.ref r0), (.int p1)])) := fun t k => k0 t (by
    refine XS.iloadN X0.here hx rfl (hb hby d36_0) rfl ?_
    refine XS.aloadN X0.here hx rfl (hb hby d36_1) rfl rfl ?_
    exact k)
  obtain ⟨T2, X2, e2, st2⟩ := getF X0 hx hZ hown (host := "") (Or.inl (own_w hw 80 rfl)) Via.refl e0 Fz (g := (mkF m 2 #[vR r0, vI p1] [(.ref r0), (.int p1)])) rfl rfl (hb hby d36_2)
  have ks3 := own_c ks1 st2
  obtain ⟨_, _, ⟨T4, L4, k4, n4⟩, -, X4, ⟨Lc4, hQ4, lq4, yq4, zq4⟩, st4⟩ := Jvm.LawKit.callS X2 hx (y := Y41) hown (mvT hZ (own_w hw 242 rfl)) (mvT hZ (own_w hw 243 rfl)) (mvT hZ (own_w hw 244 rfl)) (mvT hZ (own_w hw 245 rfl)) (by decide) (backOf (W := 0) (rm37 l Z a0 hw [] p1 sz h0 n0 Z0 H0 H1) hZ (own_w hw 245 rfl) (own_w hw 244 rfl) (by decide) (by decide)) (g := (mkF m 5 #[vR r0, vI p1] [(.int sz), (.int p1)])) rfl (by rw [hml]; rfl) (argsL := [(.int p1), (.int sz)]) (rest := []) (lenOf pd_6 rfl) rfl (by show 2 * 0 + _ ≤ _; exact Nat.le_of_eq rfl) (hb hby d36_5) (fun _ _ => ⟨rfl, e2, (by decide : 0 + 0 ≤ _), (by decide : 0 + 0 ≤ _)⟩)
  dsimp only [Pt.U, Pt.locs, Pt.cells, Pt.slots] at X4 lq4 yq4 zq4 st4 hQ4
  obtain rfl : k4 = 0 := yq4
  obtain rfl : n4 = 0 := zq4
  obtain ⟨rfl, Nq4, eq4⟩ := hQ4
  have N4 := Fr.app N0 Nq4
  have N4' : Fr n0 L4 := by rw [lq4]; exact N4
  have ks5 := own_c ks3 st4
  have ks6 : own_R p e below (A0) (T4.setTop (mkF m 11 #[vR r0, vI p1] [(.int p1), (.ref r0)])) := fun t k => ks5 t (by
    refine XS.pop X4.here hx rfl (hb hby d36_8) rfl rfl ?_
    refine XS.aloadN X4.here hx rfl (hb hby d36_9) rfl rfl ?_
    refine XS.iloadN X4.here hx rfl (hb hby d36_10) rfl ?_
    exact k)
  obtain ⟨cq7, kq7, q7a, q7b, q7c⟩ := isOf hZ eq4 E0
  obtain ⟨_, _, ⟨T7, L7, k7, n7⟩, -, X7, ⟨Lc7, hQ7, lq7, yq7, zq7⟩, st7⟩ := X4.virtualBack hx (y := Y43) (z := Y43) hown (mvT hZ (own_w hw 250 rfl)) (mvT hZ (own_w hw 251 rfl)) (notFace_of_selects (args := #[]) (mvT hZ (own_w hw 253 rfl))) (mvT hZ (own_w hw 253 rfl)) (mvT hZ (own_w hw 252 rfl)) (by decide) (backOf (W := 0) (rm39 l Z a0 hw [] r0 p1 ed ked cap es x h0 n0 Z0 E0 Fe Vd H0 Hc hv) hZ (own_w hw 254 rfl) (own_w hw 48 rfl) (by decide) (by decide)) q7a q7c (g := (mkF m 11 #[vR r0, vI p1] [(.int p1), (.ref r0)])) rfl (by rw [hml]; rfl) (Steps.refl _) (argsL := [(.int p1)]) (rest := []) (lenOf pd_24 rfl) rfl (by show 2 * 0 + _ ≤ _; exact Nat.le_of_eq rfl) (hb hby d36_11) (fun _ _ => ⟨rfl, eq4, (by decide : 0 + 0 ≤ _), (by decide : 0 + 0 ≤ _)⟩)
  dsimp only [Pt.U, Pt.locs, Pt.cells, Pt.slots] at X7 lq7 yq7 zq7 st7 hQ7
  obtain rfl : k7 = 0 := yq7
  obtain rfl : n7 = 0 := zq7
  obtain ⟨rfl, Nq7, eq7⟩ := hQ7
  have N7 := Fr.app N4' Nq7
  have N7' : Fr n0 L7 := by rw [lq7]; exact N7
  have ks8 := own_ct ks6 st7
  obtain ⟨fs, hr, hrun, hended, hW, hsame⟩ := X7.leave (v := some (.ref x)) (fun h => by rw [Bd.returns] at h; cases h) hlk
  refine ⟨_, _, kz _ (ks8 _ ?_), hrun, hended, _, _, rfl, ?_, ⟨_, rfl⟩, hW, hsame.mono (by decide) (by decide)⟩
  · exact retOut X7 hx Bd.returns rfl (Or.inr (Or.inr (Or.inr (Or.inr ⟨rfl, rfl, rfl⟩)))) (hb hby d36_14) hr
  · show Q36 Z r0 p1 ed ked cap es x sz h0 n0 _ T7.heap _
    rw [eq7]
    exact ⟨rfl, N7', rfl⟩
def own_bit (p0 : Int32) (p1 : Int32) : Int32 := (((p0.toUInt32 >>> (p1 &&& 31).toUInt32).toInt32) &&& (1 : Int32))
theorem d45_0 : dk bc45 0 (.iload_n 0) 1 := by decide +kernel
theorem d45_1 : dk bc45 1 (.iload_n 1) 1 := by decide +kernel
theorem d45_2 : dk bc45 2 (.iushr) 1 := by decide +kernel
theorem d45_3 : dk bc45 3 (.iconst 1) 1 := by decide +kernel
theorem d45_4 : dk bc45 4 (.iand) 1 := by decide +kernel
theorem d45_5 : dk bc45 5 (.ireturn) 1 := by decide +kernel
theorem pn_45 : plainName "com/example/carved_corpus/carvedcorpus/cli/EvaluationGetRelevantAtCutoffPinLaw" = true := by first | (simp [plainName, overriddenIn]; done) | decide +kernel
theorem ef_45 (m : MethodId) (x0 : Int32) (x1 : Int32) : entryFrame m #[(.int x0), (.int x1)] 2 = mkF m 0 #[.val (.int x0), .val (.int x1)] [] := by first | (simp [entryFrame, mkF, argsToLocals, Value.category]; done) | rfl
def Q45 (Z : State) (p0 : Int32) (p1 : Int32) (h0 : Heap) (n0 : Nat) (v : Option Value) (h : Heap) (L : List Loc) : Prop := v = some (.int (own_bit p0 p1)) ∧ Fr n0 L ∧ h = h0
set_option maxRecDepth 65536 in
set_option maxHeartbeats 40000000 in
theorem rm45 (l : Launch) (Z : State) (a0 : Array Value) (hw : ∀ d ∈ tables_1, d.before a0 Z = true) (ws : List Jvm.Cond) (p0 : Int32) (p1 : Int32) (h0 : Heap) (n0 : Nat) (Z0 : n0 ≤ h0.size) :
    MetFree l Y45 (head1 (Jvm.Cond.code Y45 method_5_code 2 (some .int) :: ws) (⟨0, 0, 0, 0⟩ : Room)) (fun a U => a = #[(.int p0), (.int p1)] ∧ Z.Warmed39 U.vm ∧ U.heap = h0) (fun _ _ _ _ _ => True) (fun _ U o U' => ∃ v L, o = .returned v ∧ Q45 Z p0 p1 h0 n0 v U'.heap L ∧ FrameEnd U o U' L (⟨0, 0, 0, 0⟩ : Room).cells (⟨0, 0, 0, 0⟩ : Room).slots) := by
  refine MetFree.of_bodySF (plainFor_of_name pn_45) hisR ?_
  intro p e s m args below meth c s₁ Bd hml0 hP hK
  obtain ⟨rfl, hZ, hh⟩ := hP
  have hx := Bd.exec
  have hby := Bd.bytes
  have hml : c.maxLocals = 2 := hml0
  have hown : s.vm.findClass "com/example/carved_corpus/carvedcorpus/cli/EvaluationGetRelevantAtCutoffPinLaw" = some m.cls := findClass_of_methodNamed Bd.named
  have hnm := (name_of_methodNamed Bd.named Bd.method).1
  have hlk : meth.locks = false := by first | exact BodyLoose.notSynchronized Bd | exact Body.notSynchronized Bd
  have X0 : Stand p l e (⟨0, 0, 0, 0⟩ : Room) s m #[(.int p0), (.int p1)] below meth c s₁ [] 0 0 := Stand.of_body Bd
  have e0 : s₁.heap = h0 := by rw [← hh, Bd.state]; rfl
  have N0 := Fr.nil n0
  have k0 : own_R p e below (s₁.setTop (entryFrame m #[(.int p0), (.int p1)] 2)) (s₁.setTop (mkF m 0 #[vI p0, vI p1] [])) := fun t k => castTop (ef_45 m p0 p1) k
  obtain ⟨A0, hA0⟩ : ∃ z, z = s₁.setTop (entryFrame m #[(.int p0), (.int p1)] 2) := ⟨_, rfl⟩
  rw [← hA0] at k0
  have kz : ∀ t, Steps p.tables e below A0 t → Steps p.tables e below (s₁.setTop (entryFrame m #[(.int p0), (.int p1)] 2)) t := fun t q => hA0 ▸ q
  have ks1 : own_R p e below (A0) (s₁.setTop (mkF m 5 #[vI p0, vI p1] [(.int (((p0.toUInt32 >>> (p1 &&& 31).toUInt32).toInt32) &&& (1 : Int32)))])) := fun t k => k0 t (by
    refine XS.iloadN X0.here hx rfl (hb hby d45_0) rfl ?_
    refine XS.iloadN X0.here hx rfl (hb hby d45_1) rfl ?_
    refine XS.iushr X0.here hx rfl (hb hby d45_2) rfl ?_
    show Steps p.tables e below (s₁.setTop (mkF m 3 #[vI p0, vI p1] [(.int ((p0.toUInt32 >>> (p1 &&& 31).toUInt32).toInt32))])) _
    refine XS.iconst X0.here hx rfl (hb hby d45_3) ?_
    refine XS.iand X0.here hx rfl (hb hby d45_4) rfl ?_
    exact k)
  obtain ⟨fs, hr, hrun, hended, hW, hsame⟩ := X0.leave (v := some (.int (((p0.toUInt32 >>> (p1 &&& 31).toUInt32).toInt32) &&& (1 : Int32)))) (fun h => by rw [Bd.returns] at h; cases h) hlk
  refine ⟨_, _, kz _ (ks1 _ ?_), hrun, hended, _, _, rfl, ?_, ⟨_, rfl⟩, hW, hsame.mono (by decide) (by decide)⟩
  · exact retI X0 hx Bd.returns (hb hby d45_5) hr
  · show Q45 Z p0 p1 h0 n0 _ s₁.heap _
    rw [e0]
    refine ⟨?_, N0, rfl⟩
    rw [own_bit]
def own_min (p0 : Int32) (p1 : Int32) : Int32 := (if p1 < p0 then p1 else p0)
theorem d7_9 : dk bc11 9 (.iload_n 1) 1 := by decide +kernel
theorem ef_7g (m : MethodId) (x0 : Int32) (x1 : Int32) : entryFrame m #[(.int x0), (.int x1)] 2 = mkF m 0 #[.val (.int x0), .val (.int x1)] [] := by first | (simp [entryFrame, mkF, argsToLocals, Value.category]; done) | rfl
def Q7g (Z : State) (p0 : Int32) (p1 : Int32) (h0 : Heap) (n0 : Nat) (v : Option Value) (h : Heap) (L : List Loc) : Prop := v = some (.int (own_min p0 p1)) ∧ Fr n0 L ∧ h = h0
set_option maxRecDepth 65536 in
set_option maxHeartbeats 40000000 in
theorem rm7g (l : Launch) (Z : State) (a0 : Array Value) (hw : ∀ d ∈ tables_1, d.before a0 Z = true) (ws : List Jvm.Cond) (p0 : Int32) (p1 : Int32) (h0 : Heap) (n0 : Nat) (Z0 : n0 ≤ h0.size) :
    MetFree l Y11 (head1 (Jvm.Cond.code Y11 jdk_29_method_69_code 2 (some .int) :: ws) (⟨0, 0, 0, 0⟩ : Room)) (fun a U => a = #[(.int p0), (.int p1)] ∧ Z.Warmed39 U.vm ∧ U.heap = h0) (fun _ _ _ _ _ => True) (fun _ U o U' => ∃ v L, o = .returned v ∧ Q7g Z p0 p1 h0 n0 v U'.heap L ∧ FrameEnd U o U' L (⟨0, 0, 0, 0⟩ : Room).cells (⟨0, 0, 0, 0⟩ : Room).slots) := by
  refine MetFree.of_bodySF (Jvm.Free.JP.mathPlain rfl (by decide +kernel)) hisR ?_
  intro p e s m args below meth c s₁ Bd hml0 hP hK
  obtain ⟨rfl, hZ, hh⟩ := hP
  have hx := Bd.exec
  have hby := Bd.bytes
  have hml : c.maxLocals = 2 := hml0
  have hown : s.vm.findClass "java/lang/Math" = some m.cls := findClass_of_methodNamed Bd.named
  have hnm := (name_of_methodNamed Bd.named Bd.method).1
  have hlk : meth.locks = false := by first | exact BodyLoose.notSynchronized Bd | exact Body.notSynchronized Bd
  have X0 : Stand p l e (⟨0, 0, 0, 0⟩ : Room) s m #[(.int p0), (.int p1)] below meth c s₁ [] 0 0 := Stand.of_body Bd
  have e0 : s₁.heap = h0 := by rw [← hh, Bd.state]; rfl
  have N0 := Fr.nil n0
  have k0 : own_R p e below (s₁.setTop (entryFrame m #[(.int p0), (.int p1)] 2)) (s₁.setTop (mkF m 0 #[vI p0, vI p1] [])) := fun t k => castTop (ef_7g m p0 p1) k
  obtain ⟨A0, hA0⟩ : ∃ z, z = s₁.setTop (entryFrame m #[(.int p0), (.int p1)] 2) := ⟨_, rfl⟩
  rw [← hA0] at k0
  have kz : ∀ t, Steps p.tables e below A0 t → Steps p.tables e below (s₁.setTop (entryFrame m #[(.int p0), (.int p1)] 2)) t := fun t q => hA0 ▸ q
  have ks1 : own_R p e below (A0) (s₁.setTop (mkF m 2 #[vI p0, vI p1] [(.int p1), (.int p0)])) := fun t k => k0 t (by
    refine XS.iloadN X0.here hx rfl (hb hby d7_0) rfl ?_
    refine XS.iloadN X0.here hx rfl (hb hby d7_1) rfl ?_
    exact k)
  by_cases hc2 : p1 < p0
  · skip
    have ks3 : own_R p e below (A0) (s₁.setTop (mkF m 10 #[vI p0, vI p1] [(.int p1)])) := fun t k => ks1 t (by
      refine XS.icmpYes X0.here hx rfl (pc0 := 2) (pc' := 9) rfl (hb hby d7_2) rfl (tlt hc2).2.2.1 (by decide) (by decide) ?_
      refine XS.iloadN X0.here hx rfl (hb hby d7_9) rfl ?_
      exact k)
    obtain ⟨fs, hr, hrun, hended, hW, hsame⟩ := X0.leave (v := some (.int p1)) (fun h => by rw [Bd.returns] at h; cases h) hlk
    refine ⟨_, _, kz _ (ks3 _ ?_), hrun, hended, _, _, rfl, ?_, ⟨_, rfl⟩, hW, hsame.mono (by decide) (by decide)⟩
    · exact retI X0 hx Bd.returns (hb hby d7_10) hr
    · show Q7g Z p0 p1 h0 n0 _ s₁.heap _
      rw [e0]
      refine ⟨?_, N0, rfl⟩
      rw [own_min, if_pos hc2]
  · skip
    have ks4 : own_R p e below (A0) (s₁.setTop (mkF m 10 #[vI p0, vI p1] [(.int p0)])) := fun t k => ks1 t (by
      refine XS.icmpNo X0.here hx rfl (hb hby d7_2) rfl (flt hc2).2.2.1 ?_
      refine XS.iloadN X0.here hx rfl (hb hby d7_5) rfl ?_
      refine XS.goto X0.here hx rfl (pc0 := 6) (pc' := 10) rfl (hb hby d7_6) (by decide) (by decide) ?_
      exact k)
    obtain ⟨fs, hr, hrun, hended, hW, hsame⟩ := X0.leave (v := some (.int p0)) (fun h => by rw [Bd.returns] at h; cases h) hlk
    refine ⟨_, _, kz _ (ks4 _ ?_), hrun, hended, _, _, rfl, ?_, ⟨_, rfl⟩, hW, hsame.mono (by decide) (by decide)⟩
    · exact retI X0 hx Bd.returns (hb hby d7_10) hr
    · show Q7g Z p0 p1 h0 n0 _ s₁.heap _
      rw [e0]
      refine ⟨?_, N0, rfl⟩
      rw [own_min, if_neg hc2]
def own_count (p0 : Int32) (p1 : Int32) : Int64 := (((((((((((((((((((((own_bit (p0 &&& (((1 : Int32) <<< ((own_min p1 (20 : Int32)) &&& 31)) - (1 : Int32))) (0 : Int32)) + (own_bit (p0 &&& (((1 : Int32) <<< ((own_min p1 (20 : Int32)) &&& 31)) - (1 : Int32))) (1 : Int32))) + (own_bit (p0 &&& (((1 : Int32) <<< ((own_min p1 (20 : Int32)) &&& 31)) - (1 : Int32))) (2 : Int32))) + (own_bit (p0 &&& (((1 : Int32) <<< ((own_min p1 (20 : Int32)) &&& 31)) - (1 : Int32))) (3 : Int32))) + (own_bit (p0 &&& (((1 : Int32) <<< ((own_min p1 (20 : Int32)) &&& 31)) - (1 : Int32))) (4 : Int32))) + (own_bit (p0 &&& (((1 : Int32) <<< ((own_min p1 (20 : Int32)) &&& 31)) - (1 : Int32))) (5 : Int32))) + (own_bit (p0 &&& (((1 : Int32) <<< ((own_min p1 (20 : Int32)) &&& 31)) - (1 : Int32))) (6 : Int32))) + (own_bit (p0 &&& (((1 : Int32) <<< ((own_min p1 (20 : Int32)) &&& 31)) - (1 : Int32))) (7 : Int32))) + (own_bit (p0 &&& (((1 : Int32) <<< ((own_min p1 (20 : Int32)) &&& 31)) - (1 : Int32))) (8 : Int32))) + (own_bit (p0 &&& (((1 : Int32) <<< ((own_min p1 (20 : Int32)) &&& 31)) - (1 : Int32))) (9 : Int32))) + (own_bit (p0 &&& (((1 : Int32) <<< ((own_min p1 (20 : Int32)) &&& 31)) - (1 : Int32))) (10 : Int32))) + (own_bit (p0 &&& (((1 : Int32) <<< ((own_min p1 (20 : Int32)) &&& 31)) - (1 : Int32))) (11 : Int32))) + (own_bit (p0 &&& (((1 : Int32) <<< ((own_min p1 (20 : Int32)) &&& 31)) - (1 : Int32))) (12 : Int32))) + (own_bit (p0 &&& (((1 : Int32) <<< ((own_min p1 (20 : Int32)) &&& 31)) - (1 : Int32))) (13 : Int32))) + (own_bit (p0 &&& (((1 : Int32) <<< ((own_min p1 (20 : Int32)) &&& 31)) - (1 : Int32))) (14 : Int32))) + (own_bit (p0 &&& (((1 : Int32) <<< ((own_min p1 (20 : Int32)) &&& 31)) - (1 : Int32))) (15 : Int32))) + (own_bit (p0 &&& (((1 : Int32) <<< ((own_min p1 (20 : Int32)) &&& 31)) - (1 : Int32))) (16 : Int32))) + (own_bit (p0 &&& (((1 : Int32) <<< ((own_min p1 (20 : Int32)) &&& 31)) - (1 : Int32))) (17 : Int32))) + (own_bit (p0 &&& (((1 : Int32) <<< ((own_min p1 (20 : Int32)) &&& 31)) - (1 : Int32))) (18 : Int32))) + (own_bit (p0 &&& (((1 : Int32) <<< ((own_min p1 (20 : Int32)) &&& 31)) - (1 : Int32))) (19 : Int32))).toInt64)
theorem d44_0 : dk bc46 0 (.iload_n 1) 1 := by decide +kernel
theorem d44_1 : dk bc46 1 (.bipush 20) 2 := by decide +kernel
theorem d44_3 : dk bc46 3 (.invokestatic 19) 3 := by decide +kernel
theorem d44_6 : dk bc46 6 (.istore_n 2) 1 := by decide +kernel
theorem d44_7 : dk bc46 7 (.iload_n 0) 1 := by decide +kernel
theorem d44_8 : dk bc46 8 (.iconst 1) 1 := by decide +kernel
theorem d44_9 : dk bc46 9 (.iload_n 2) 1 := by decide +kernel
theorem d44_10 : dk bc46 10 (.ishl) 1 := by decide +kernel
theorem d44_11 : dk bc46 11 (.iconst 1) 1 := by decide +kernel
theorem d44_12 : dk bc46 12 (.isub) 1 := by decide +kernel
theorem d44_13 : dk bc46 13 (.iand) 1 := by decide +kernel
theorem d44_14 : dk bc46 14 (.istore_n 3) 1 := by decide +kernel
theorem d44_15 : dk bc46 15 (.iload_n 3) 1 := by decide +kernel
theorem d44_16 : dk bc46 16 (.iconst 0) 1 := by decide +kernel
theorem d44_17 : dk bc46 17 (.invokestatic 60) 3 := by decide +kernel
theorem d44_20 : dk bc46 20 (.iload_n 3) 1 := by decide +kernel
theorem d44_21 : dk bc46 21 (.iconst 1) 1 := by decide +kernel
theorem d44_22 : dk bc46 22 (.invokestatic 60) 3 := by decide +kernel
theorem d44_25 : dk bc46 25 (.iadd) 1 := by decide +kernel
theorem d44_26 : dk bc46 26 (.iload_n 3) 1 := by decide +kernel
theorem d44_27 : dk bc46 27 (.iconst 2) 1 := by decide +kernel
theorem d44_28 : dk bc46 28 (.invokestatic 60) 3 := by decide +kernel
theorem d44_31 : dk bc46 31 (.iadd) 1 := by decide +kernel
theorem d44_32 : dk bc46 32 (.iload_n 3) 1 := by decide +kernel
theorem d44_33 : dk bc46 33 (.iconst 3) 1 := by decide +kernel
theorem d44_34 : dk bc46 34 (.invokestatic 60) 3 := by decide +kernel
theorem d44_37 : dk bc46 37 (.iadd) 1 := by decide +kernel
theorem d44_38 : dk bc46 38 (.iload_n 3) 1 := by decide +kernel
theorem d44_39 : dk bc46 39 (.iconst 4) 1 := by decide +kernel
theorem d44_40 : dk bc46 40 (.invokestatic 60) 3 := by decide +kernel
theorem d44_43 : dk bc46 43 (.iadd) 1 := by decide +kernel
theorem d44_44 : dk bc46 44 (.iload_n 3) 1 := by decide +kernel
theorem d44_45 : dk bc46 45 (.iconst 5) 1 := by decide +kernel
theorem d44_46 : dk bc46 46 (.invokestatic 60) 3 := by decide +kernel
theorem d44_49 : dk bc46 49 (.iadd) 1 := by decide +kernel
theorem d44_50 : dk bc46 50 (.iload_n 3) 1 := by decide +kernel
theorem d44_51 : dk bc46 51 (.bipush 6) 2 := by decide +kernel
theorem d44_53 : dk bc46 53 (.invokestatic 60) 3 := by decide +kernel
theorem d44_56 : dk bc46 56 (.iadd) 1 := by decide +kernel
theorem d44_57 : dk bc46 57 (.iload_n 3) 1 := by decide +kernel
theorem d44_58 : dk bc46 58 (.bipush 7) 2 := by decide +kernel
theorem d44_60 : dk bc46 60 (.invokestatic 60) 3 := by decide +kernel
theorem d44_63 : dk bc46 63 (.iadd) 1 := by decide +kernel
theorem d44_64 : dk bc46 64 (.iload_n 3) 1 := by decide +kernel
theorem d44_65 : dk bc46 65 (.bipush 8) 2 := by decide +kernel
theorem d44_67 : dk bc46 67 (.invokestatic 60) 3 := by decide +kernel
theorem d44_70 : dk bc46 70 (.iadd) 1 := by decide +kernel
theorem d44_71 : dk bc46 71 (.iload_n 3) 1 := by decide +kernel
theorem d44_72 : dk bc46 72 (.bipush 9) 2 := by decide +kernel
theorem d44_74 : dk bc46 74 (.invokestatic 60) 3 := by decide +kernel
theorem d44_77 : dk bc46 77 (.iadd) 1 := by decide +kernel
theorem d44_78 : dk bc46 78 (.iload_n 3) 1 := by decide +kernel
theorem d44_79 : dk bc46 79 (.bipush 10) 2 := by decide +kernel
theorem d44_81 : dk bc46 81 (.invokestatic 60) 3 := by decide +kernel
theorem d44_84 : dk bc46 84 (.iadd) 1 := by decide +kernel
theorem d44_85 : dk bc46 85 (.iload_n 3) 1 := by decide +kernel
theorem d44_86 : dk bc46 86 (.bipush 11) 2 := by decide +kernel
theorem d44_88 : dk bc46 88 (.invokestatic 60) 3 := by decide +kernel
theorem d44_91 : dk bc46 91 (.iadd) 1 := by decide +kernel
theorem d44_92 : dk bc46 92 (.iload_n 3) 1 := by decide +kernel
theorem d44_93 : dk bc46 93 (.bipush 12) 2 := by decide +kernel
theorem d44_95 : dk bc46 95 (.invokestatic 60) 3 := by decide +kernel
theorem d44_98 : dk bc46 98 (.iadd) 1 := by decide +kernel
theorem d44_99 : dk bc46 99 (.iload_n 3) 1 := by decide +kernel
theorem d44_100 : dk bc46 100 (.bipush 13) 2 := by decide +kernel
theorem d44_102 : dk bc46 102 (.invokestatic 60) 3 := by decide +kernel
theorem d44_105 : dk bc46 105 (.iadd) 1 := by decide +kernel
theorem d44_106 : dk bc46 106 (.iload_n 3) 1 := by decide +kernel
theorem d44_107 : dk bc46 107 (.bipush 14) 2 := by decide +kernel
theorem d44_109 : dk bc46 109 (.invokestatic 60) 3 := by decide +kernel
theorem d44_112 : dk bc46 112 (.iadd) 1 := by decide +kernel
theorem d44_113 : dk bc46 113 (.iload_n 3) 1 := by decide +kernel
theorem d44_114 : dk bc46 114 (.bipush 15) 2 := by decide +kernel
theorem d44_116 : dk bc46 116 (.invokestatic 60) 3 := by decide +kernel
theorem d44_119 : dk bc46 119 (.iadd) 1 := by decide +kernel
theorem d44_120 : dk bc46 120 (.iload_n 3) 1 := by decide +kernel
theorem d44_121 : dk bc46 121 (.bipush 16) 2 := by decide +kernel
theorem d44_123 : dk bc46 123 (.invokestatic 60) 3 := by decide +kernel
theorem d44_126 : dk bc46 126 (.iadd) 1 := by decide +kernel
theorem d44_127 : dk bc46 127 (.iload_n 3) 1 := by decide +kernel
theorem d44_128 : dk bc46 128 (.bipush 17) 2 := by decide +kernel
theorem d44_130 : dk bc46 130 (.invokestatic 60) 3 := by decide +kernel
theorem d44_133 : dk bc46 133 (.iadd) 1 := by decide +kernel
theorem d44_134 : dk bc46 134 (.iload_n 3) 1 := by decide +kernel
theorem d44_135 : dk bc46 135 (.bipush 18) 2 := by decide +kernel
theorem d44_137 : dk bc46 137 (.invokestatic 60) 3 := by decide +kernel
theorem d44_140 : dk bc46 140 (.iadd) 1 := by decide +kernel
theorem d44_141 : dk bc46 141 (.iload_n 3) 1 := by decide +kernel
theorem d44_142 : dk bc46 142 (.bipush 19) 2 := by decide +kernel
theorem d44_144 : dk bc46 144 (.invokestatic 60) 3 := by decide +kernel
theorem d44_147 : dk bc46 147 (.iadd) 1 := by decide +kernel
theorem d44_148 : dk bc46 148 (.i2l) 1 := by decide +kernel
theorem d44_149 : dk bc46 149 (.lreturn) 1 := by decide +kernel
theorem pn_44 : plainName "com/example/carved_corpus/carvedcorpus/cli/EvaluationGetRelevantAtCutoffPinLaw" = true := by first | (simp [plainName, overriddenIn]; done) | decide +kernel
theorem ef_44 (m : MethodId) (x0 : Int32) (x1 : Int32) : entryFrame m #[(.int x0), (.int x1)] 4 = mkF m 0 #[.val (.int x0), .val (.int x1), .unset, .unset] [] := by first | (simp [entryFrame, mkF, argsToLocals, Value.category]; done) | rfl
def Q44 (Z : State) (p0 : Int32) (p1 : Int32) (h0 : Heap) (n0 : Nat) (v : Option Value) (h : Heap) (L : List Loc) : Prop := v = some (.long (own_count p0 p1)) ∧ Fr n0 L ∧ h = h0
set_option maxRecDepth 65536 in
set_option maxHeartbeats 40000000 in
theorem rm44 (l : Launch) (Z : State) (a0 : Array Value) (hw : ∀ d ∈ tables_1, d.before a0 Z = true) (ws : List Jvm.Cond) (p0 : Int32) (p1 : Int32) (h0 : Heap) (n0 : Nat) (Z0 : n0 ≤ h0.size) :
    MetFree l Y46 (head1 (Jvm.Cond.code Y46 method_6_code 4 (some .long) :: ws) (⟨1, 0, 0, 14⟩ : Room)) (fun a U => a = #[(.int p0), (.int p1)] ∧ Z.Warmed39 U.vm ∧ U.heap = h0) (fun _ _ _ _ _ => True) (fun _ U o U' => ∃ v L, o = .returned v ∧ Q44 Z p0 p1 h0 n0 v U'.heap L ∧ FrameEnd U o U' L (⟨1, 0, 0, 14⟩ : Room).cells (⟨1, 0, 0, 14⟩ : Room).slots) := by
  refine MetFree.of_bodySF (plainFor_of_name pn_44) hisR ?_
  intro p e s m args below meth c s₁ Bd hml0 hP hK
  obtain ⟨rfl, hZ, hh⟩ := hP
  have hx := Bd.exec
  have hby := Bd.bytes
  have hml : c.maxLocals = 4 := hml0
  have hown : s.vm.findClass "com/example/carved_corpus/carvedcorpus/cli/EvaluationGetRelevantAtCutoffPinLaw" = some m.cls := findClass_of_methodNamed Bd.named
  have hnm := (name_of_methodNamed Bd.named Bd.method).1
  have hlk : meth.locks = false := by first | exact BodyLoose.notSynchronized Bd | exact Body.notSynchronized Bd
  have X0 : Stand p l e (⟨1, 0, 0, 14⟩ : Room) s m #[(.int p0), (.int p1)] below meth c s₁ [] 0 0 := Stand.of_body Bd
  have e0 : s₁.heap = h0 := by rw [← hh, Bd.state]; rfl
  have N0 := Fr.nil n0
  have k0 : own_R p e below (s₁.setTop (entryFrame m #[(.int p0), (.int p1)] 4)) (s₁.setTop (mkF m 0 #[vI p0, vI p1, .unset, .unset] [])) := fun t k => castTop (ef_44 m p0 p1) k
  obtain ⟨A0, hA0⟩ : ∃ z, z = s₁.setTop (entryFrame m #[(.int p0), (.int p1)] 4) := ⟨_, rfl⟩
  rw [← hA0] at k0
  have kz : ∀ t, Steps p.tables e below A0 t → Steps p.tables e below (s₁.setTop (entryFrame m #[(.int p0), (.int p1)] 4)) t := fun t q => hA0 ▸ q
  have ks1 : own_R p e below (A0) (s₁.setTop (mkF m 3 #[vI p0, vI p1, .unset, .unset] [(.int 20), (.int p1)])) := fun t k => k0 t (by
    refine XS.iloadN X0.here hx rfl (hb hby d44_0) rfl ?_
    refine XS.bipush X0.here hx rfl (hb hby d44_1) ?_
    exact k)
  obtain ⟨_, _, ⟨T2, L2, k2, n2⟩, -, X2, ⟨Lc2, hQ2, lq2, yq2, zq2⟩, st2⟩ := Jvm.LawKit.callS X0 hx (y := Y11) hown (mvT hZ (own_w hw 38 rfl)) (mvT hZ (own_w hw 39 rfl)) (mvT hZ (own_w hw 40 rfl)) (mvT hZ (own_w hw 41 rfl)) (by decide) (backOf (W := 0) (rm7g l Z a0 hw [] p1 (20 : Int32) h0 n0 Z0 ) hZ (own_w hw 41 rfl) (own_w hw 40 rfl) (by decide) (by decide)) (g := (mkF m 3 #[vI p0, vI p1, .unset, .unset] [(.int 20), (.int p1)])) rfl (by rw [hml]; rfl) (argsL := [(.int p1), (.int 20)]) (rest := []) (lenOf pd_6 rfl) rfl (by show 2 * 0 + _ ≤ _; exact Nat.le_of_eq rfl) (hb hby d44_3) (fun _ _ => ⟨rfl, e0, (by decide : 0 + 0 ≤ _), (by decide : 0 + 0 ≤ _)⟩)
  dsimp only [Pt.U, Pt.locs, Pt.cells, Pt.slots] at X2 lq2 yq2 zq2 st2 hQ2
  obtain rfl : k2 = 0 := yq2
  obtain rfl : n2 = 0 := zq2
  obtain ⟨rfl, Nq2, eq2⟩ := hQ2
  have N2 := Fr.app N0 Nq2
  have N2' : Fr n0 L2 := by rw [lq2]; exact N2
  have ks3 := own_c ks1 st2
  have ks4 : own_R p e below (A0) (T2.setTop (mkF m 6 #[vI p0, vI p1, .unset, .unset] [(.int (own_min p1 (20 : Int32)))])) := ks3
  obtain ⟨v5, hv5⟩ : ∃ z : Int32, z = (own_min p1 (20 : Int32)) := ⟨_, rfl⟩
  rw [← hv5] at ks4
  have ks6 : own_R p e below (A0) (T2.setTop (mkF m 14 #[vI p0, vI p1, vI v5, .unset] [(.int (p0 &&& (((1 : Int32) <<< (v5 &&& 31)) - (1 : Int32))))])) := fun t k => ks4 t (by
    refine XS.istoreN X2.here hx rfl (hb hby d44_6) rfl (l' := #[vI p0, vI p1, vI v5, .unset]) rfl ?_
    refine XS.iloadN X2.here hx rfl (hb hby d44_7) rfl ?_
    refine XS.iconst X2.here hx rfl (hb hby d44_8) ?_
    show Steps p.tables e below (T2.setTop (mkF m 9 #[vI p0, vI p1, vI v5, .unset] [(.int 1), (.int p0)])) _
    refine XS.iloadN X2.here hx rfl (hb hby d44_9) rfl ?_
    refine XS.ishl X2.here hx rfl (hb hby d44_10) rfl ?_
    refine XS.iconst X2.here hx rfl (hb hby d44_11) ?_
    refine XS.isub X2.here hx rfl (hb hby d44_12) rfl ?_
    show Steps p.tables e below (T2.setTop (mkF m 13 #[vI p0, vI p1, vI v5, .unset] [(.int (((1 : Int32) <<< (v5 &&& 31)) - (1 : Int32))), (.int p0)])) _
    refine XS.iand X2.here hx rfl (hb hby d44_13) rfl ?_
    exact k)
  obtain ⟨v7, hv7⟩ : ∃ z : Int32, z = (p0 &&& (((1 : Int32) <<< (v5 &&& 31)) - (1 : Int32))) := ⟨_, rfl⟩
  rw [← hv7] at ks6
  have ks8 : own_R p e below (A0) (T2.setTop (mkF m 17 #[vI p0, vI p1, vI v5, vI v7] [(.int 0), (.int v7)])) := fun t k => ks6 t (by
    refine XS.istoreN X2.here hx rfl (hb hby d44_14) rfl (l' := #[vI p0, vI p1, vI v5, vI v7]) rfl ?_
    refine XS.iloadN X2.here hx rfl (hb hby d44_15) rfl ?_
    refine XS.iconst X2.here hx rfl (hb hby d44_16) ?_
    exact k)
  obtain ⟨_, _, ⟨T9, L9, k9, n9⟩, -, X9, ⟨Lc9, hQ9, lq9, yq9, zq9⟩, st9⟩ := Jvm.LawKit.callS X2 hx (y := Y45) hown (mvT hZ (own_w hw 286 rfl)) (mvT hZ (own_w hw 287 rfl)) (mvT hZ (own_w hw 44 rfl)) (mvT hZ (own_w hw 288 rfl)) (by decide) (backOf (W := 0) (rm45 l Z a0 hw [] v7 (0 : Int32) h0 n0 Z0 ) hZ (own_w hw 288 rfl) (own_w hw 44 rfl) (by decide) (by decide)) (g := (mkF m 17 #[vI p0, vI p1, vI v5, vI v7] [(.int 0), (.int v7)])) rfl (by rw [hml]; rfl) (argsL := [(.int v7), (.int 0)]) (rest := []) (lenOf pd_6 rfl) rfl (by show 2 * 0 + _ ≤ _; exact Nat.le_of_eq rfl) (hb hby d44_17) (fun _ _ => ⟨rfl, eq2, (by decide : 0 + 0 ≤ _), (by decide : 0 + 0 ≤ _)⟩)
  dsimp only [Pt.U, Pt.locs, Pt.cells, Pt.slots] at X9 lq9 yq9 zq9 st9 hQ9
  obtain rfl : k9 = 0 := yq9
  obtain rfl : n9 = 0 := zq9
  obtain ⟨rfl, Nq9, eq9⟩ := hQ9
  have N9 := Fr.app N2' Nq9
  have N9' : Fr n0 L9 := by rw [lq9]; exact N9
  have ks10 := own_c ks8 st9
  have ks11 : own_R p e below (A0) (T9.setTop (mkF m 22 #[vI p0, vI p1, vI v5, vI v7] [(.int 1), (.int v7), (.int (own_bit v7 (0 : Int32)))])) := fun t k => ks10 t (by
    refine XS.iloadN X9.here hx rfl (hb hby d44_20) rfl ?_
    refine XS.iconst X9.here hx rfl (hb hby d44_21) ?_
    exact k)
  obtain ⟨_, _, ⟨T12, L12, k12, n12⟩, -, X12, ⟨Lc12, hQ12, lq12, yq12, zq12⟩, st12⟩ := Jvm.LawKit.callS X9 hx (y := Y45) hown (mvT hZ (own_w hw 286 rfl)) (mvT hZ (own_w hw 287 rfl)) (mvT hZ (own_w hw 44 rfl)) (mvT hZ (own_w hw 288 rfl)) (by decide) (backOf (W := 1) (rm45 l Z a0 hw [] v7 (1 : Int32) h0 n0 Z0 ) hZ (own_w hw 288 rfl) (own_w hw 44 rfl) (by decide) (by decide)) (g := (mkF m 22 #[vI p0, vI p1, vI v5, vI v7] [(.int 1), (.int v7), (.int (own_bit v7 (0 : Int32)))])) rfl (by rw [hml]; rfl) (argsL := [(.int v7), (.int 1)]) (rest := [(.int (own_bit v7 (0 : Int32)))]) (lenOf pd_6 rfl) rfl (by show 2 * 0 + _ ≤ _; exact Nat.le_of_eq rfl) (hb hby d44_22) (fun _ _ => ⟨rfl, eq9, (by decide : 0 + 0 ≤ _), (by decide : 0 + 0 ≤ _)⟩)
  dsimp only [Pt.U, Pt.locs, Pt.cells, Pt.slots] at X12 lq12 yq12 zq12 st12 hQ12
  obtain rfl : k12 = 0 := yq12
  obtain rfl : n12 = 0 := zq12
  obtain ⟨rfl, Nq12, eq12⟩ := hQ12
  have N12 := Fr.app N9' Nq12
  have N12' : Fr n0 L12 := by rw [lq12]; exact N12
  have ks13 := own_c ks11 st12
  have ks14 : own_R p e below (A0) (T12.setTop (mkF m 26 #[vI p0, vI p1, vI v5, vI v7] [(.int ((own_bit v7 (0 : Int32)) + (own_bit v7 (1 : Int32))))])) := fun t k => ks13 t (by
    refine XS.iadd X12.here hx rfl (hb hby d44_25) rfl ?_
    exact k)
  obtain ⟨v15, hv15⟩ : ∃ z : Int32, z = ((own_bit v7 (0 : Int32)) + (own_bit v7 (1 : Int32))) := ⟨_, rfl⟩
  rw [← hv15] at ks14
  have ks16 : own_R p e below (A0) (T12.setTop (mkF m 28 #[vI p0, vI p1, vI v5, vI v7] [(.int 2), (.int v7), (.int v15)])) := fun t k => ks14 t (by
    refine XS.iloadN X12.here hx rfl (hb hby d44_26) rfl ?_
    refine XS.iconst X12.here hx rfl (hb hby d44_27) ?_
    exact k)
  obtain ⟨_, _, ⟨T17, L17, k17, n17⟩, -, X17, ⟨Lc17, hQ17, lq17, yq17, zq17⟩, st17⟩ := Jvm.LawKit.callS X12 hx (y := Y45) hown (mvT hZ (own_w hw 286 rfl)) (mvT hZ (own_w hw 287 rfl)) (mvT hZ (own_w hw 44 rfl)) (mvT hZ (own_w hw 288 rfl)) (by decide) (backOf (W := 1) (rm45 l Z a0 hw [] v7 (2 : Int32) h0 n0 Z0 ) hZ (own_w hw 288 rfl) (own_w hw 44 rfl) (by decide) (by decide)) (g := (mkF m 28 #[vI p0, vI p1, vI v5, vI v7] [(.int 2), (.int v7), (.int v15)])) rfl (by rw [hml]; rfl) (argsL := [(.int v7), (.int 2)]) (rest := [(.int v15)]) (lenOf pd_6 rfl) rfl (by show 2 * 0 + _ ≤ _; exact Nat.le_of_eq rfl) (hb hby d44_28) (fun _ _ => ⟨rfl, eq12, (by decide : 0 + 0 ≤ _), (by decide : 0 + 0 ≤ _)⟩)
  dsimp only [Pt.U, Pt.locs, Pt.cells, Pt.slots] at X17 lq17 yq17 zq17 st17 hQ17
  obtain rfl : k17 = 0 := yq17
  obtain rfl : n17 = 0 := zq17
  obtain ⟨rfl, Nq17, eq17⟩ := hQ17
  have N17 := Fr.app N12' Nq17
  have N17' : Fr n0 L17 := by rw [lq17]; exact N17
  have ks18 := own_c ks16 st17
  have ks19 : own_R p e below (A0) (T17.setTop (mkF m 32 #[vI p0, vI p1, vI v5, vI v7] [(.int (v15 + (own_bit v7 (2 : Int32))))])) := fun t k => ks18 t (by
    refine XS.iadd X17.here hx rfl (hb hby d44_31) rfl ?_
    exact k)
  obtain ⟨v20, hv20⟩ : ∃ z : Int32, z = (v15 + (own_bit v7 (2 : Int32))) := ⟨_, rfl⟩
  rw [← hv20] at ks19
  have ks21 : own_R p e below (A0) (T17.setTop (mkF m 34 #[vI p0, vI p1, vI v5, vI v7] [(.int 3), (.int v7), (.int v20)])) := fun t k => ks19 t (by
    refine XS.iloadN X17.here hx rfl (hb hby d44_32) rfl ?_
    refine XS.iconst X17.here hx rfl (hb hby d44_33) ?_
    exact k)
  obtain ⟨_, _, ⟨T22, L22, k22, n22⟩, -, X22, ⟨Lc22, hQ22, lq22, yq22, zq22⟩, st22⟩ := Jvm.LawKit.callS X17 hx (y := Y45) hown (mvT hZ (own_w hw 286 rfl)) (mvT hZ (own_w hw 287 rfl)) (mvT hZ (own_w hw 44 rfl)) (mvT hZ (own_w hw 288 rfl)) (by decide) (backOf (W := 1) (rm45 l Z a0 hw [] v7 (3 : Int32) h0 n0 Z0 ) hZ (own_w hw 288 rfl) (own_w hw 44 rfl) (by decide) (by decide)) (g := (mkF m 34 #[vI p0, vI p1, vI v5, vI v7] [(.int 3), (.int v7), (.int v20)])) rfl (by rw [hml]; rfl) (argsL := [(.int v7), (.int 3)]) (rest := [(.int v20)]) (lenOf pd_6 rfl) rfl (by show 2 * 0 + _ ≤ _; exact Nat.le_of_eq rfl) (hb hby d44_34) (fun _ _ => ⟨rfl, eq17, (by decide : 0 + 0 ≤ _), (by decide : 0 + 0 ≤ _)⟩)
  dsimp only [Pt.U, Pt.locs, Pt.cells, Pt.slots] at X22 lq22 yq22 zq22 st22 hQ22
  obtain rfl : k22 = 0 := yq22
  obtain rfl : n22 = 0 := zq22
  obtain ⟨rfl, Nq22, eq22⟩ := hQ22
  have N22 := Fr.app N17' Nq22
  have N22' : Fr n0 L22 := by rw [lq22]; exact N22
  have ks23 := own_c ks21 st22
  have ks24 : own_R p e below (A0) (T22.setTop (mkF m 38 #[vI p0, vI p1, vI v5, vI v7] [(.int (v20 + (own_bit v7 (3 : Int32))))])) := fun t k => ks23 t (by
    refine XS.iadd X22.here hx rfl (hb hby d44_37) rfl ?_
    exact k)
  obtain ⟨v25, hv25⟩ : ∃ z : Int32, z = (v20 + (own_bit v7 (3 : Int32))) := ⟨_, rfl⟩
  rw [← hv25] at ks24
  have ks26 : own_R p e below (A0) (T22.setTop (mkF m 40 #[vI p0, vI p1, vI v5, vI v7] [(.int 4), (.int v7), (.int v25)])) := fun t k => ks24 t (by
    refine XS.iloadN X22.here hx rfl (hb hby d44_38) rfl ?_
    refine XS.iconst X22.here hx rfl (hb hby d44_39) ?_
    exact k)
  obtain ⟨_, _, ⟨T27, L27, k27, n27⟩, -, X27, ⟨Lc27, hQ27, lq27, yq27, zq27⟩, st27⟩ := Jvm.LawKit.callS X22 hx (y := Y45) hown (mvT hZ (own_w hw 286 rfl)) (mvT hZ (own_w hw 287 rfl)) (mvT hZ (own_w hw 44 rfl)) (mvT hZ (own_w hw 288 rfl)) (by decide) (backOf (W := 1) (rm45 l Z a0 hw [] v7 (4 : Int32) h0 n0 Z0 ) hZ (own_w hw 288 rfl) (own_w hw 44 rfl) (by decide) (by decide)) (g := (mkF m 40 #[vI p0, vI p1, vI v5, vI v7] [(.int 4), (.int v7), (.int v25)])) rfl (by rw [hml]; rfl) (argsL := [(.int v7), (.int 4)]) (rest := [(.int v25)]) (lenOf pd_6 rfl) rfl (by show 2 * 0 + _ ≤ _; exact Nat.le_of_eq rfl) (hb hby d44_40) (fun _ _ => ⟨rfl, eq22, (by decide : 0 + 0 ≤ _), (by decide : 0 + 0 ≤ _)⟩)
  dsimp only [Pt.U, Pt.locs, Pt.cells, Pt.slots] at X27 lq27 yq27 zq27 st27 hQ27
  obtain rfl : k27 = 0 := yq27
  obtain rfl : n27 = 0 := zq27
  obtain ⟨rfl, Nq27, eq27⟩ := hQ27
  have N27 := Fr.app N22' Nq27
  have N27' : Fr n0 L27 := by rw [lq27]; exact N27
  have ks28 := own_c ks26 st27
  have ks29 : own_R p e below (A0) (T27.setTop (mkF m 44 #[vI p0, vI p1, vI v5, vI v7] [(.int (v25 + (own_bit v7 (4 : Int32))))])) := fun t k => ks28 t (by
    refine XS.iadd X27.here hx rfl (hb hby d44_43) rfl ?_
    exact k)
  obtain ⟨v30, hv30⟩ : ∃ z : Int32, z = (v25 + (own_bit v7 (4 : Int32))) := ⟨_, rfl⟩
  rw [← hv30] at ks29
  have ks31 : own_R p e below (A0) (T27.setTop (mkF m 46 #[vI p0, vI p1, vI v5, vI v7] [(.int 5), (.int v7), (.int v30)])) := fun t k => ks29 t (by
    refine XS.iloadN X27.here hx rfl (hb hby d44_44) rfl ?_
    refine XS.iconst X27.here hx rfl (hb hby d44_45) ?_
    exact k)
  obtain ⟨_, _, ⟨T32, L32, k32, n32⟩, -, X32, ⟨Lc32, hQ32, lq32, yq32, zq32⟩, st32⟩ := Jvm.LawKit.callS X27 hx (y := Y45) hown (mvT hZ (own_w hw 286 rfl)) (mvT hZ (own_w hw 287 rfl)) (mvT hZ (own_w hw 44 rfl)) (mvT hZ (own_w hw 288 rfl)) (by decide) (backOf (W := 1) (rm45 l Z a0 hw [] v7 (5 : Int32) h0 n0 Z0 ) hZ (own_w hw 288 rfl) (own_w hw 44 rfl) (by decide) (by decide)) (g := (mkF m 46 #[vI p0, vI p1, vI v5, vI v7] [(.int 5), (.int v7), (.int v30)])) rfl (by rw [hml]; rfl) (argsL := [(.int v7), (.int 5)]) (rest := [(.int v30)]) (lenOf pd_6 rfl) rfl (by show 2 * 0 + _ ≤ _; exact Nat.le_of_eq rfl) (hb hby d44_46) (fun _ _ => ⟨rfl, eq27, (by decide : 0 + 0 ≤ _), (by decide : 0 + 0 ≤ _)⟩)
  dsimp only [Pt.U, Pt.locs, Pt.cells, Pt.slots] at X32 lq32 yq32 zq32 st32 hQ32
  obtain rfl : k32 = 0 := yq32
  obtain rfl : n32 = 0 := zq32
  obtain ⟨rfl, Nq32, eq32⟩ := hQ32
  have N32 := Fr.app N27' Nq32
  have N32' : Fr n0 L32 := by rw [lq32]; exact N32
  have ks33 := own_c ks31 st32
  have ks34 : own_R p e below (A0) (T32.setTop (mkF m 50 #[vI p0, vI p1, vI v5, vI v7] [(.int (v30 + (own_bit v7 (5 : Int32))))])) := fun t k => ks33 t (by
    refine XS.iadd X32.here hx rfl (hb hby d44_49) rfl ?_
    exact k)
  obtain ⟨v35, hv35⟩ : ∃ z : Int32, z = (v30 + (own_bit v7 (5 : Int32))) := ⟨_, rfl⟩
  rw [← hv35] at ks34
  have ks36 : own_R p e below (A0) (T32.setTop (mkF m 53 #[vI p0, vI p1, vI v5, vI v7] [(.int 6), (.int v7), (.int v35)])) := fun t k => ks34 t (by
    refine XS.iloadN X32.here hx rfl (hb hby d44_50) rfl ?_
    refine XS.bipush X32.here hx rfl (hb hby d44_51) ?_
    exact k)
  obtain ⟨_, _, ⟨T37, L37, k37, n37⟩, -, X37, ⟨Lc37, hQ37, lq37, yq37, zq37⟩, st37⟩ := Jvm.LawKit.callS X32 hx (y := Y45) hown (mvT hZ (own_w hw 286 rfl)) (mvT hZ (own_w hw 287 rfl)) (mvT hZ (own_w hw 44 rfl)) (mvT hZ (own_w hw 288 rfl)) (by decide) (backOf (W := 1) (rm45 l Z a0 hw [] v7 (6 : Int32) h0 n0 Z0 ) hZ (own_w hw 288 rfl) (own_w hw 44 rfl) (by decide) (by decide)) (g := (mkF m 53 #[vI p0, vI p1, vI v5, vI v7] [(.int 6), (.int v7), (.int v35)])) rfl (by rw [hml]; rfl) (argsL := [(.int v7), (.int 6)]) (rest := [(.int v35)]) (lenOf pd_6 rfl) rfl (by show 2 * 0 + _ ≤ _; exact Nat.le_of_eq rfl) (hb hby d44_53) (fun _ _ => ⟨rfl, eq32, (by decide : 0 + 0 ≤ _), (by decide : 0 + 0 ≤ _)⟩)
  dsimp only [Pt.U, Pt.locs, Pt.cells, Pt.slots] at X37 lq37 yq37 zq37 st37 hQ37
  obtain rfl : k37 = 0 := yq37
  obtain rfl : n37 = 0 := zq37
  obtain ⟨rfl, Nq37, eq37⟩ := hQ37
  have N37 := Fr.app N32' Nq37
  have N37' : Fr n0 L37 := by rw [lq37]; exact N37
  have ks38 := own_c ks36 st37
  have ks39 : own_R p e below (A0) (T37.setTop (mkF m 57 #[vI p0, vI p1, vI v5, vI v7] [(.int (v35 + (own_bit v7 (6 : Int32))))])) := fun t k => ks38 t (by
    refine XS.iadd X37.here hx rfl (hb hby d44_56) rfl ?_
    exact k)
  obtain ⟨v40, hv40⟩ : ∃ z : Int32, z = (v35 + (own_bit v7 (6 : Int32))) := ⟨_, rfl⟩
  rw [← hv40] at ks39
  have ks41 : own_R p e below (A0) (T37.setTop (mkF m 60 #[vI p0, vI p1, vI v5, vI v7] [(.int 7), (.int v7), (.int v40)])) := fun t k => ks39 t (by
    refine XS.iloadN X37.here hx rfl (hb hby d44_57) rfl ?_
    refine XS.bipush X37.here hx rfl (hb hby d44_58) ?_
    exact k)
  obtain ⟨_, _, ⟨T42, L42, k42, n42⟩, -, X42, ⟨Lc42, hQ42, lq42, yq42, zq42⟩, st42⟩ := Jvm.LawKit.callS X37 hx (y := Y45) hown (mvT hZ (own_w hw 286 rfl)) (mvT hZ (own_w hw 287 rfl)) (mvT hZ (own_w hw 44 rfl)) (mvT hZ (own_w hw 288 rfl)) (by decide) (backOf (W := 1) (rm45 l Z a0 hw [] v7 (7 : Int32) h0 n0 Z0 ) hZ (own_w hw 288 rfl) (own_w hw 44 rfl) (by decide) (by decide)) (g := (mkF m 60 #[vI p0, vI p1, vI v5, vI v7] [(.int 7), (.int v7), (.int v40)])) rfl (by rw [hml]; rfl) (argsL := [(.int v7), (.int 7)]) (rest := [(.int v40)]) (lenOf pd_6 rfl) rfl (by show 2 * 0 + _ ≤ _; exact Nat.le_of_eq rfl) (hb hby d44_60) (fun _ _ => ⟨rfl, eq37, (by decide : 0 + 0 ≤ _), (by decide : 0 + 0 ≤ _)⟩)
  dsimp only [Pt.U, Pt.locs, Pt.cells, Pt.slots] at X42 lq42 yq42 zq42 st42 hQ42
  obtain rfl : k42 = 0 := yq42
  obtain rfl : n42 = 0 := zq42
  obtain ⟨rfl, Nq42, eq42⟩ := hQ42
  have N42 := Fr.app N37' Nq42
  have N42' : Fr n0 L42 := by rw [lq42]; exact N42
  have ks43 := own_c ks41 st42
  have ks44 : own_R p e below (A0) (T42.setTop (mkF m 64 #[vI p0, vI p1, vI v5, vI v7] [(.int (v40 + (own_bit v7 (7 : Int32))))])) := fun t k => ks43 t (by
    refine XS.iadd X42.here hx rfl (hb hby d44_63) rfl ?_
    exact k)
  obtain ⟨v45, hv45⟩ : ∃ z : Int32, z = (v40 + (own_bit v7 (7 : Int32))) := ⟨_, rfl⟩
  rw [← hv45] at ks44
  have ks46 : own_R p e below (A0) (T42.setTop (mkF m 67 #[vI p0, vI p1, vI v5, vI v7] [(.int 8), (.int v7), (.int v45)])) := fun t k => ks44 t (by
    refine XS.iloadN X42.here hx rfl (hb hby d44_64) rfl ?_
    refine XS.bipush X42.here hx rfl (hb hby d44_65) ?_
    exact k)
  obtain ⟨_, _, ⟨T47, L47, k47, n47⟩, -, X47, ⟨Lc47, hQ47, lq47, yq47, zq47⟩, st47⟩ := Jvm.LawKit.callS X42 hx (y := Y45) hown (mvT hZ (own_w hw 286 rfl)) (mvT hZ (own_w hw 287 rfl)) (mvT hZ (own_w hw 44 rfl)) (mvT hZ (own_w hw 288 rfl)) (by decide) (backOf (W := 1) (rm45 l Z a0 hw [] v7 (8 : Int32) h0 n0 Z0 ) hZ (own_w hw 288 rfl) (own_w hw 44 rfl) (by decide) (by decide)) (g := (mkF m 67 #[vI p0, vI p1, vI v5, vI v7] [(.int 8), (.int v7), (.int v45)])) rfl (by rw [hml]; rfl) (argsL := [(.int v7), (.int 8)]) (rest := [(.int v45)]) (lenOf pd_6 rfl) rfl (by show 2 * 0 + _ ≤ _; exact Nat.le_of_eq rfl) (hb hby d44_67) (fun _ _ => ⟨rfl, eq42, (by decide : 0 + 0 ≤ _), (by decide : 0 + 0 ≤ _)⟩)
  dsimp only [Pt.U, Pt.locs, Pt.cells, Pt.slots] at X47 lq47 yq47 zq47 st47 hQ47
  obtain rfl : k47 = 0 := yq47
  obtain rfl : n47 = 0 := zq47
  obtain ⟨rfl, Nq47, eq47⟩ := hQ47
  have N47 := Fr.app N42' Nq47
  have N47' : Fr n0 L47 := by rw [lq47]; exact N47
  have ks48 := own_c ks46 st47
  have ks49 : own_R p e below (A0) (T47.setTop (mkF m 71 #[vI p0, vI p1, vI v5, vI v7] [(.int (v45 + (own_bit v7 (8 : Int32))))])) := fun t k => ks48 t (by
    refine XS.iadd X47.here hx rfl (hb hby d44_70) rfl ?_
    exact k)
  obtain ⟨v50, hv50⟩ : ∃ z : Int32, z = (v45 + (own_bit v7 (8 : Int32))) := ⟨_, rfl⟩
  rw [← hv50] at ks49
  have ks51 : own_R p e below (A0) (T47.setTop (mkF m 74 #[vI p0, vI p1, vI v5, vI v7] [(.int 9), (.int v7), (.int v50)])) := fun t k => ks49 t (by
    refine XS.iloadN X47.here hx rfl (hb hby d44_71) rfl ?_
    refine XS.bipush X47.here hx rfl (hb hby d44_72) ?_
    exact k)
  obtain ⟨_, _, ⟨T52, L52, k52, n52⟩, -, X52, ⟨Lc52, hQ52, lq52, yq52, zq52⟩, st52⟩ := Jvm.LawKit.callS X47 hx (y := Y45) hown (mvT hZ (own_w hw 286 rfl)) (mvT hZ (own_w hw 287 rfl)) (mvT hZ (own_w hw 44 rfl)) (mvT hZ (own_w hw 288 rfl)) (by decide) (backOf (W := 1) (rm45 l Z a0 hw [] v7 (9 : Int32) h0 n0 Z0 ) hZ (own_w hw 288 rfl) (own_w hw 44 rfl) (by decide) (by decide)) (g := (mkF m 74 #[vI p0, vI p1, vI v5, vI v7] [(.int 9), (.int v7), (.int v50)])) rfl (by rw [hml]; rfl) (argsL := [(.int v7), (.int 9)]) (rest := [(.int v50)]) (lenOf pd_6 rfl) rfl (by show 2 * 0 + _ ≤ _; exact Nat.le_of_eq rfl) (hb hby d44_74) (fun _ _ => ⟨rfl, eq47, (by decide : 0 + 0 ≤ _), (by decide : 0 + 0 ≤ _)⟩)
  dsimp only [Pt.U, Pt.locs, Pt.cells, Pt.slots] at X52 lq52 yq52 zq52 st52 hQ52
  obtain rfl : k52 = 0 := yq52
  obtain rfl : n52 = 0 := zq52
  obtain ⟨rfl, Nq52, eq52⟩ := hQ52
  have N52 := Fr.app N47' Nq52
  have N52' : Fr n0 L52 := by rw [lq52]; exact N52
  have ks53 := own_c ks51 st52
  have ks54 : own_R p e below (A0) (T52.setTop (mkF m 78 #[vI p0, vI p1, vI v5, vI v7] [(.int (v50 + (own_bit v7 (9 : Int32))))])) := fun t k => ks53 t (by
    refine XS.iadd X52.here hx rfl (hb hby d44_77) rfl ?_
    exact k)
  obtain ⟨v55, hv55⟩ : ∃ z : Int32, z = (v50 + (own_bit v7 (9 : Int32))) := ⟨_, rfl⟩
  rw [← hv55] at ks54
  have ks56 : own_R p e below (A0) (T52.setTop (mkF m 81 #[vI p0, vI p1, vI v5, vI v7] [(.int 10), (.int v7), (.int v55)])) := fun t k => ks54 t (by
    refine XS.iloadN X52.here hx rfl (hb hby d44_78) rfl ?_
    refine XS.bipush X52.here hx rfl (hb hby d44_79) ?_
    exact k)
  obtain ⟨_, _, ⟨T57, L57, k57, n57⟩, -, X57, ⟨Lc57, hQ57, lq57, yq57, zq57⟩, st57⟩ := Jvm.LawKit.callS X52 hx (y := Y45) hown (mvT hZ (own_w hw 286 rfl)) (mvT hZ (own_w hw 287 rfl)) (mvT hZ (own_w hw 44 rfl)) (mvT hZ (own_w hw 288 rfl)) (by decide) (backOf (W := 1) (rm45 l Z a0 hw [] v7 (10 : Int32) h0 n0 Z0 ) hZ (own_w hw 288 rfl) (own_w hw 44 rfl) (by decide) (by decide)) (g := (mkF m 81 #[vI p0, vI p1, vI v5, vI v7] [(.int 10), (.int v7), (.int v55)])) rfl (by rw [hml]; rfl) (argsL := [(.int v7), (.int 10)]) (rest := [(.int v55)]) (lenOf pd_6 rfl) rfl (by show 2 * 0 + _ ≤ _; exact Nat.le_of_eq rfl) (hb hby d44_81) (fun _ _ => ⟨rfl, eq52, (by decide : 0 + 0 ≤ _), (by decide : 0 + 0 ≤ _)⟩)
  dsimp only [Pt.U, Pt.locs, Pt.cells, Pt.slots] at X57 lq57 yq57 zq57 st57 hQ57
  obtain rfl : k57 = 0 := yq57
  obtain rfl : n57 = 0 := zq57
  obtain ⟨rfl, Nq57, eq57⟩ := hQ57
  have N57 := Fr.app N52' Nq57
  have N57' : Fr n0 L57 := by rw [lq57]; exact N57
  have ks58 := own_c ks56 st57
  have ks59 : own_R p e below (A0) (T57.setTop (mkF m 85 #[vI p0, vI p1, vI v5, vI v7] [(.int (v55 + (own_bit v7 (10 : Int32))))])) := fun t k => ks58 t (by
    refine XS.iadd X57.here hx rfl (hb hby d44_84) rfl ?_
    exact k)
  obtain ⟨v60, hv60⟩ : ∃ z : Int32, z = (v55 + (own_bit v7 (10 : Int32))) := ⟨_, rfl⟩
  rw [← hv60] at ks59
  have ks61 : own_R p e below (A0) (T57.setTop (mkF m 88 #[vI p0, vI p1, vI v5, vI v7] [(.int 11), (.int v7), (.int v60)])) := fun t k => ks59 t (by
    refine XS.iloadN X57.here hx rfl (hb hby d44_85) rfl ?_
    refine XS.bipush X57.here hx rfl (hb hby d44_86) ?_
    exact k)
  obtain ⟨_, _, ⟨T62, L62, k62, n62⟩, -, X62, ⟨Lc62, hQ62, lq62, yq62, zq62⟩, st62⟩ := Jvm.LawKit.callS X57 hx (y := Y45) hown (mvT hZ (own_w hw 286 rfl)) (mvT hZ (own_w hw 287 rfl)) (mvT hZ (own_w hw 44 rfl)) (mvT hZ (own_w hw 288 rfl)) (by decide) (backOf (W := 1) (rm45 l Z a0 hw [] v7 (11 : Int32) h0 n0 Z0 ) hZ (own_w hw 288 rfl) (own_w hw 44 rfl) (by decide) (by decide)) (g := (mkF m 88 #[vI p0, vI p1, vI v5, vI v7] [(.int 11), (.int v7), (.int v60)])) rfl (by rw [hml]; rfl) (argsL := [(.int v7), (.int 11)]) (rest := [(.int v60)]) (lenOf pd_6 rfl) rfl (by show 2 * 0 + _ ≤ _; exact Nat.le_of_eq rfl) (hb hby d44_88) (fun _ _ => ⟨rfl, eq57, (by decide : 0 + 0 ≤ _), (by decide : 0 + 0 ≤ _)⟩)
  dsimp only [Pt.U, Pt.locs, Pt.cells, Pt.slots] at X62 lq62 yq62 zq62 st62 hQ62
  obtain rfl : k62 = 0 := yq62
  obtain rfl : n62 = 0 := zq62
  obtain ⟨rfl, Nq62, eq62⟩ := hQ62
  have N62 := Fr.app N57' Nq62
  have N62' : Fr n0 L62 := by rw [lq62]; exact N62
  have ks63 := own_c ks61 st62
  have ks64 : own_R p e below (A0) (T62.setTop (mkF m 92 #[vI p0, vI p1, vI v5, vI v7] [(.int (v60 + (own_bit v7 (11 : Int32))))])) := fun t k => ks63 t (by
    refine XS.iadd X62.here hx rfl (hb hby d44_91) rfl ?_
    exact k)
  obtain ⟨v65, hv65⟩ : ∃ z : Int32, z = (v60 + (own_bit v7 (11 : Int32))) := ⟨_, rfl⟩
  rw [← hv65] at ks64
  have ks66 : own_R p e below (A0) (T62.setTop (mkF m 95 #[vI p0, vI p1, vI v5, vI v7] [(.int 12), (.int v7), (.int v65)])) := fun t k => ks64 t (by
    refine XS.iloadN X62.here hx rfl (hb hby d44_92) rfl ?_
    refine XS.bipush X62.here hx rfl (hb hby d44_93) ?_
    exact k)
  obtain ⟨_, _, ⟨T67, L67, k67, n67⟩, -, X67, ⟨Lc67, hQ67, lq67, yq67, zq67⟩, st67⟩ := Jvm.LawKit.callS X62 hx (y := Y45) hown (mvT hZ (own_w hw 286 rfl)) (mvT hZ (own_w hw 287 rfl)) (mvT hZ (own_w hw 44 rfl)) (mvT hZ (own_w hw 288 rfl)) (by decide) (backOf (W := 1) (rm45 l Z a0 hw [] v7 (12 : Int32) h0 n0 Z0 ) hZ (own_w hw 288 rfl) (own_w hw 44 rfl) (by decide) (by decide)) (g := (mkF m 95 #[vI p0, vI p1, vI v5, vI v7] [(.int 12), (.int v7), (.int v65)])) rfl (by rw [hml]; rfl) (argsL := [(.int v7), (.int 12)]) (rest := [(.int v65)]) (lenOf pd_6 rfl) rfl (by show 2 * 0 + _ ≤ _; exact Nat.le_of_eq rfl) (hb hby d44_95) (fun _ _ => ⟨rfl, eq62, (by decide : 0 + 0 ≤ _), (by decide : 0 + 0 ≤ _)⟩)
  dsimp only [Pt.U, Pt.locs, Pt.cells, Pt.slots] at X67 lq67 yq67 zq67 st67 hQ67
  obtain rfl : k67 = 0 := yq67
  obtain rfl : n67 = 0 := zq67
  obtain ⟨rfl, Nq67, eq67⟩ := hQ67
  have N67 := Fr.app N62' Nq67
  have N67' : Fr n0 L67 := by rw [lq67]; exact N67
  have ks68 := own_c ks66 st67
  have ks69 : own_R p e below (A0) (T67.setTop (mkF m 99 #[vI p0, vI p1, vI v5, vI v7] [(.int (v65 + (own_bit v7 (12 : Int32))))])) := fun t k => ks68 t (by
    refine XS.iadd X67.here hx rfl (hb hby d44_98) rfl ?_
    exact k)
  obtain ⟨v70, hv70⟩ : ∃ z : Int32, z = (v65 + (own_bit v7 (12 : Int32))) := ⟨_, rfl⟩
  rw [← hv70] at ks69
  have ks71 : own_R p e below (A0) (T67.setTop (mkF m 102 #[vI p0, vI p1, vI v5, vI v7] [(.int 13), (.int v7), (.int v70)])) := fun t k => ks69 t (by
    refine XS.iloadN X67.here hx rfl (hb hby d44_99) rfl ?_
    refine XS.bipush X67.here hx rfl (hb hby d44_100) ?_
    exact k)
  obtain ⟨_, _, ⟨T72, L72, k72, n72⟩, -, X72, ⟨Lc72, hQ72, lq72, yq72, zq72⟩, st72⟩ := Jvm.LawKit.callS X67 hx (y := Y45) hown (mvT hZ (own_w hw 286 rfl)) (mvT hZ (own_w hw 287 rfl)) (mvT hZ (own_w hw 44 rfl)) (mvT hZ (own_w hw 288 rfl)) (by decide) (backOf (W := 1) (rm45 l Z a0 hw [] v7 (13 : Int32) h0 n0 Z0 ) hZ (own_w hw 288 rfl) (own_w hw 44 rfl) (by decide) (by decide)) (g := (mkF m 102 #[vI p0, vI p1, vI v5, vI v7] [(.int 13), (.int v7), (.int v70)])) rfl (by rw [hml]; rfl) (argsL := [(.int v7), (.int 13)]) (rest := [(.int v70)]) (lenOf pd_6 rfl) rfl (by show 2 * 0 + _ ≤ _; exact Nat.le_of_eq rfl) (hb hby d44_102) (fun _ _ => ⟨rfl, eq67, (by decide : 0 + 0 ≤ _), (by decide : 0 + 0 ≤ _)⟩)
  dsimp only [Pt.U, Pt.locs, Pt.cells, Pt.slots] at X72 lq72 yq72 zq72 st72 hQ72
  obtain rfl : k72 = 0 := yq72
  obtain rfl : n72 = 0 := zq72
  obtain ⟨rfl, Nq72, eq72⟩ := hQ72
  have N72 := Fr.app N67' Nq72
  have N72' : Fr n0 L72 := by rw [lq72]; exact N72
  have ks73 := own_c ks71 st72
  have ks74 : own_R p e below (A0) (T72.setTop (mkF m 106 #[vI p0, vI p1, vI v5, vI v7] [(.int (v70 + (own_bit v7 (13 : Int32))))])) := fun t k => ks73 t (by
    refine XS.iadd X72.here hx rfl (hb hby d44_105) rfl ?_
    exact k)
  obtain ⟨v75, hv75⟩ : ∃ z : Int32, z = (v70 + (own_bit v7 (13 : Int32))) := ⟨_, rfl⟩
  rw [← hv75] at ks74
  have ks76 : own_R p e below (A0) (T72.setTop (mkF m 109 #[vI p0, vI p1, vI v5, vI v7] [(.int 14), (.int v7), (.int v75)])) := fun t k => ks74 t (by
    refine XS.iloadN X72.here hx rfl (hb hby d44_106) rfl ?_
    refine XS.bipush X72.here hx rfl (hb hby d44_107) ?_
    exact k)
  obtain ⟨_, _, ⟨T77, L77, k77, n77⟩, -, X77, ⟨Lc77, hQ77, lq77, yq77, zq77⟩, st77⟩ := Jvm.LawKit.callS X72 hx (y := Y45) hown (mvT hZ (own_w hw 286 rfl)) (mvT hZ (own_w hw 287 rfl)) (mvT hZ (own_w hw 44 rfl)) (mvT hZ (own_w hw 288 rfl)) (by decide) (backOf (W := 1) (rm45 l Z a0 hw [] v7 (14 : Int32) h0 n0 Z0 ) hZ (own_w hw 288 rfl) (own_w hw 44 rfl) (by decide) (by decide)) (g := (mkF m 109 #[vI p0, vI p1, vI v5, vI v7] [(.int 14), (.int v7), (.int v75)])) rfl (by rw [hml]; rfl) (argsL := [(.int v7), (.int 14)]) (rest := [(.int v75)]) (lenOf pd_6 rfl) rfl (by show 2 * 0 + _ ≤ _; exact Nat.le_of_eq rfl) (hb hby d44_109) (fun _ _ => ⟨rfl, eq72, (by decide : 0 + 0 ≤ _), (by decide : 0 + 0 ≤ _)⟩)
  dsimp only [Pt.U, Pt.locs, Pt.cells, Pt.slots] at X77 lq77 yq77 zq77 st77 hQ77
  obtain rfl : k77 = 0 := yq77
  obtain rfl : n77 = 0 := zq77
  obtain ⟨rfl, Nq77, eq77⟩ := hQ77
  have N77 := Fr.app N72' Nq77
  have N77' : Fr n0 L77 := by rw [lq77]; exact N77
  have ks78 := own_c ks76 st77
  have ks79 : own_R p e below (A0) (T77.setTop (mkF m 113 #[vI p0, vI p1, vI v5, vI v7] [(.int (v75 + (own_bit v7 (14 : Int32))))])) := fun t k => ks78 t (by
    refine XS.iadd X77.here hx rfl (hb hby d44_112) rfl ?_
    exact k)
  obtain ⟨v80, hv80⟩ : ∃ z : Int32, z = (v75 + (own_bit v7 (14 : Int32))) := ⟨_, rfl⟩
  rw [← hv80] at ks79
  have ks81 : own_R p e below (A0) (T77.setTop (mkF m 116 #[vI p0, vI p1, vI v5, vI v7] [(.int 15), (.int v7), (.int v80)])) := fun t k => ks79 t (by
    refine XS.iloadN X77.here hx rfl (hb hby d44_113) rfl ?_
    refine XS.bipush X77.here hx rfl (hb hby d44_114) ?_
    exact k)
  obtain ⟨_, _, ⟨T82, L82, k82, n82⟩, -, X82, ⟨Lc82, hQ82, lq82, yq82, zq82⟩, st82⟩ := Jvm.LawKit.callS X77 hx (y := Y45) hown (mvT hZ (own_w hw 286 rfl)) (mvT hZ (own_w hw 287 rfl)) (mvT hZ (own_w hw 44 rfl)) (mvT hZ (own_w hw 288 rfl)) (by decide) (backOf (W := 1) (rm45 l Z a0 hw [] v7 (15 : Int32) h0 n0 Z0 ) hZ (own_w hw 288 rfl) (own_w hw 44 rfl) (by decide) (by decide)) (g := (mkF m 116 #[vI p0, vI p1, vI v5, vI v7] [(.int 15), (.int v7), (.int v80)])) rfl (by rw [hml]; rfl) (argsL := [(.int v7), (.int 15)]) (rest := [(.int v80)]) (lenOf pd_6 rfl) rfl (by show 2 * 0 + _ ≤ _; exact Nat.le_of_eq rfl) (hb hby d44_116) (fun _ _ => ⟨rfl, eq77, (by decide : 0 + 0 ≤ _), (by decide : 0 + 0 ≤ _)⟩)
  dsimp only [Pt.U, Pt.locs, Pt.cells, Pt.slots] at X82 lq82 yq82 zq82 st82 hQ82
  obtain rfl : k82 = 0 := yq82
  obtain rfl : n82 = 0 := zq82
  obtain ⟨rfl, Nq82, eq82⟩ := hQ82
  have N82 := Fr.app N77' Nq82
  have N82' : Fr n0 L82 := by rw [lq82]; exact N82
  have ks83 := own_c ks81 st82
  have ks84 : own_R p e below (A0) (T82.setTop (mkF m 120 #[vI p0, vI p1, vI v5, vI v7] [(.int (v80 + (own_bit v7 (15 : Int32))))])) := fun t k => ks83 t (by
    refine XS.iadd X82.here hx rfl (hb hby d44_119) rfl ?_
    exact k)
  obtain ⟨v85, hv85⟩ : ∃ z : Int32, z = (v80 + (own_bit v7 (15 : Int32))) := ⟨_, rfl⟩
  rw [← hv85] at ks84
  have ks86 : own_R p e below (A0) (T82.setTop (mkF m 123 #[vI p0, vI p1, vI v5, vI v7] [(.int 16), (.int v7), (.int v85)])) := fun t k => ks84 t (by
    refine XS.iloadN X82.here hx rfl (hb hby d44_120) rfl ?_
    refine XS.bipush X82.here hx rfl (hb hby d44_121) ?_
    exact k)
  obtain ⟨_, _, ⟨T87, L87, k87, n87⟩, -, X87, ⟨Lc87, hQ87, lq87, yq87, zq87⟩, st87⟩ := Jvm.LawKit.callS X82 hx (y := Y45) hown (mvT hZ (own_w hw 286 rfl)) (mvT hZ (own_w hw 287 rfl)) (mvT hZ (own_w hw 44 rfl)) (mvT hZ (own_w hw 288 rfl)) (by decide) (backOf (W := 1) (rm45 l Z a0 hw [] v7 (16 : Int32) h0 n0 Z0 ) hZ (own_w hw 288 rfl) (own_w hw 44 rfl) (by decide) (by decide)) (g := (mkF m 123 #[vI p0, vI p1, vI v5, vI v7] [(.int 16), (.int v7), (.int v85)])) rfl (by rw [hml]; rfl) (argsL := [(.int v7), (.int 16)]) (rest := [(.int v85)]) (lenOf pd_6 rfl) rfl (by show 2 * 0 + _ ≤ _; exact Nat.le_of_eq rfl) (hb hby d44_123) (fun _ _ => ⟨rfl, eq82, (by decide : 0 + 0 ≤ _), (by decide : 0 + 0 ≤ _)⟩)
  dsimp only [Pt.U, Pt.locs, Pt.cells, Pt.slots] at X87 lq87 yq87 zq87 st87 hQ87
  obtain rfl : k87 = 0 := yq87
  obtain rfl : n87 = 0 := zq87
  obtain ⟨rfl, Nq87, eq87⟩ := hQ87
  have N87 := Fr.app N82' Nq87
  have N87' : Fr n0 L87 := by rw [lq87]; exact N87
  have ks88 := own_c ks86 st87
  have ks89 : own_R p e below (A0) (T87.setTop (mkF m 127 #[vI p0, vI p1, vI v5, vI v7] [(.int (v85 + (own_bit v7 (16 : Int32))))])) := fun t k => ks88 t (by
    refine XS.iadd X87.here hx rfl (hb hby d44_126) rfl ?_
    exact k)
  obtain ⟨v90, hv90⟩ : ∃ z : Int32, z = (v85 + (own_bit v7 (16 : Int32))) := ⟨_, rfl⟩
  rw [← hv90] at ks89
  have ks91 : own_R p e below (A0) (T87.setTop (mkF m 130 #[vI p0, vI p1, vI v5, vI v7] [(.int 17), (.int v7), (.int v90)])) := fun t k => ks89 t (by
    refine XS.iloadN X87.here hx rfl (hb hby d44_127) rfl ?_
    refine XS.bipush X87.here hx rfl (hb hby d44_128) ?_
    exact k)
  obtain ⟨_, _, ⟨T92, L92, k92, n92⟩, -, X92, ⟨Lc92, hQ92, lq92, yq92, zq92⟩, st92⟩ := Jvm.LawKit.callS X87 hx (y := Y45) hown (mvT hZ (own_w hw 286 rfl)) (mvT hZ (own_w hw 287 rfl)) (mvT hZ (own_w hw 44 rfl)) (mvT hZ (own_w hw 288 rfl)) (by decide) (backOf (W := 1) (rm45 l Z a0 hw [] v7 (17 : Int32) h0 n0 Z0 ) hZ (own_w hw 288 rfl) (own_w hw 44 rfl) (by decide) (by decide)) (g := (mkF m 130 #[vI p0, vI p1, vI v5, vI v7] [(.int 17), (.int v7), (.int v90)])) rfl (by rw [hml]; rfl) (argsL := [(.int v7), (.int 17)]) (rest := [(.int v90)]) (lenOf pd_6 rfl) rfl (by show 2 * 0 + _ ≤ _; exact Nat.le_of_eq rfl) (hb hby d44_130) (fun _ _ => ⟨rfl, eq87, (by decide : 0 + 0 ≤ _), (by decide : 0 + 0 ≤ _)⟩)
  dsimp only [Pt.U, Pt.locs, Pt.cells, Pt.slots] at X92 lq92 yq92 zq92 st92 hQ92
  obtain rfl : k92 = 0 := yq92
  obtain rfl : n92 = 0 := zq92
  obtain ⟨rfl, Nq92, eq92⟩ := hQ92
  have N92 := Fr.app N87' Nq92
  have N92' : Fr n0 L92 := by rw [lq92]; exact N92
  have ks93 := own_c ks91 st92
  have ks94 : own_R p e below (A0) (T92.setTop (mkF m 134 #[vI p0, vI p1, vI v5, vI v7] [(.int (v90 + (own_bit v7 (17 : Int32))))])) := fun t k => ks93 t (by
    refine XS.iadd X92.here hx rfl (hb hby d44_133) rfl ?_
    exact k)
  obtain ⟨v95, hv95⟩ : ∃ z : Int32, z = (v90 + (own_bit v7 (17 : Int32))) := ⟨_, rfl⟩
  rw [← hv95] at ks94
  have ks96 : own_R p e below (A0) (T92.setTop (mkF m 137 #[vI p0, vI p1, vI v5, vI v7] [(.int 18), (.int v7), (.int v95)])) := fun t k => ks94 t (by
    refine XS.iloadN X92.here hx rfl (hb hby d44_134) rfl ?_
    refine XS.bipush X92.here hx rfl (hb hby d44_135) ?_
    exact k)
  obtain ⟨_, _, ⟨T97, L97, k97, n97⟩, -, X97, ⟨Lc97, hQ97, lq97, yq97, zq97⟩, st97⟩ := Jvm.LawKit.callS X92 hx (y := Y45) hown (mvT hZ (own_w hw 286 rfl)) (mvT hZ (own_w hw 287 rfl)) (mvT hZ (own_w hw 44 rfl)) (mvT hZ (own_w hw 288 rfl)) (by decide) (backOf (W := 1) (rm45 l Z a0 hw [] v7 (18 : Int32) h0 n0 Z0 ) hZ (own_w hw 288 rfl) (own_w hw 44 rfl) (by decide) (by decide)) (g := (mkF m 137 #[vI p0, vI p1, vI v5, vI v7] [(.int 18), (.int v7), (.int v95)])) rfl (by rw [hml]; rfl) (argsL := [(.int v7), (.int 18)]) (rest := [(.int v95)]) (lenOf pd_6 rfl) rfl (by show 2 * 0 + _ ≤ _; exact Nat.le_of_eq rfl) (hb hby d44_137) (fun _ _ => ⟨rfl, eq92, (by decide : 0 + 0 ≤ _), (by decide : 0 + 0 ≤ _)⟩)
  dsimp only [Pt.U, Pt.locs, Pt.cells, Pt.slots] at X97 lq97 yq97 zq97 st97 hQ97
  obtain rfl : k97 = 0 := yq97
  obtain rfl : n97 = 0 := zq97
  obtain ⟨rfl, Nq97, eq97⟩ := hQ97
  have N97 := Fr.app N92' Nq97
  have N97' : Fr n0 L97 := by rw [lq97]; exact N97
  have ks98 := own_c ks96 st97
  have ks99 : own_R p e below (A0) (T97.setTop (mkF m 141 #[vI p0, vI p1, vI v5, vI v7] [(.int (v95 + (own_bit v7 (18 : Int32))))])) := fun t k => ks98 t (by
    refine XS.iadd X97.here hx rfl (hb hby d44_140) rfl ?_
    exact k)
  obtain ⟨v100, hv100⟩ : ∃ z : Int32, z = (v95 + (own_bit v7 (18 : Int32))) := ⟨_, rfl⟩
  rw [← hv100] at ks99
  have ks101 : own_R p e below (A0) (T97.setTop (mkF m 144 #[vI p0, vI p1, vI v5, vI v7] [(.int 19), (.int v7), (.int v100)])) := fun t k => ks99 t (by
    refine XS.iloadN X97.here hx rfl (hb hby d44_141) rfl ?_
    refine XS.bipush X97.here hx rfl (hb hby d44_142) ?_
    exact k)
  obtain ⟨_, _, ⟨T102, L102, k102, n102⟩, -, X102, ⟨Lc102, hQ102, lq102, yq102, zq102⟩, st102⟩ := Jvm.LawKit.callS X97 hx (y := Y45) hown (mvT hZ (own_w hw 286 rfl)) (mvT hZ (own_w hw 287 rfl)) (mvT hZ (own_w hw 44 rfl)) (mvT hZ (own_w hw 288 rfl)) (by decide) (backOf (W := 1) (rm45 l Z a0 hw [] v7 (19 : Int32) h0 n0 Z0 ) hZ (own_w hw 288 rfl) (own_w hw 44 rfl) (by decide) (by decide)) (g := (mkF m 144 #[vI p0, vI p1, vI v5, vI v7] [(.int 19), (.int v7), (.int v100)])) rfl (by rw [hml]; rfl) (argsL := [(.int v7), (.int 19)]) (rest := [(.int v100)]) (lenOf pd_6 rfl) rfl (by show 2 * 0 + _ ≤ _; exact Nat.le_of_eq rfl) (hb hby d44_144) (fun _ _ => ⟨rfl, eq97, (by decide : 0 + 0 ≤ _), (by decide : 0 + 0 ≤ _)⟩)
  dsimp only [Pt.U, Pt.locs, Pt.cells, Pt.slots] at X102 lq102 yq102 zq102 st102 hQ102
  obtain rfl : k102 = 0 := yq102
  obtain rfl : n102 = 0 := zq102
  obtain ⟨rfl, Nq102, eq102⟩ := hQ102
  have N102 := Fr.app N97' Nq102
  have N102' : Fr n0 L102 := by rw [lq102]; exact N102
  have ks103 := own_c ks101 st102
  have ks104 : own_R p e below (A0) (T102.setTop (mkF m 148 #[vI p0, vI p1, vI v5, vI v7] [(.int (v100 + (own_bit v7 (19 : Int32))))])) := fun t k => ks103 t (by
    refine XS.iadd X102.here hx rfl (hb hby d44_147) rfl ?_
    exact k)
  obtain ⟨v105, hv105⟩ : ∃ z : Int32, z = (v100 + (own_bit v7 (19 : Int32))) := ⟨_, rfl⟩
  rw [← hv105] at ks104
  have ks106 : own_R p e below (A0) (T102.setTop (mkF m 149 #[vI p0, vI p1, vI v5, vI v7] [(.long (v105.toInt64))])) := fun t k => ks104 t (by
    refine XS.i2l X102.here hx rfl (hb hby d44_148) rfl ?_
    exact k)
  obtain ⟨fs, hr, hrun, hended, hW, hsame⟩ := X102.leave (v := some (.long (v105.toInt64))) (fun h => by rw [Bd.returns] at h; cases h) hlk
  refine ⟨_, _, kz _ (ks106 _ ?_), hrun, hended, _, _, rfl, ?_, ⟨_, rfl⟩, hW, hsame.mono (by decide) (by decide)⟩
  · exact retOut X102 hx Bd.returns rfl (Or.inr (Or.inl ⟨rfl, rfl, _, rfl⟩)) (hb hby d44_149) hr
  · show Q44 Z p0 p1 h0 n0 _ T102.heap _
    rw [eq102]
    subst hv105
    subst hv100
    subst hv95
    subst hv90
    subst hv85
    subst hv80
    subst hv75
    subst hv70
    subst hv65
    subst hv60
    subst hv55
    subst hv50
    subst hv45
    subst hv40
    subst hv35
    subst hv30
    subst hv25
    subst hv20
    subst hv15
    subst hv7
    subst hv5
    refine ⟨?_, N102', rfl⟩
    rw [own_count]
def own_sm (m : Int32) : Nat → Int64
  | 0 => 0
  | j + 1 => own_sm m j + (if own_bt m (Int32.ofNat j) = (0 : Int32) then 0 else if j < 20 then 1 else 0)
theorem own_band (a b i : Int32) : own_bit (a &&& b) i = (own_bit a i &&& own_bit b i) := by
  unfold own_bit
  apply Int32.toBitVec_inj.mp
  simp [BitVec.ushiftRight_and_distrib]
  ext q hq
  simp
  generalize a.toBitVec.getLsbD _ = x
  generalize b.toBitVec.getLsbD _ = y
  cases x <;> cases y <;> simp
def own_nb (m : Int32) (i : Nat) : Nat := if own_bt m (Int32.ofNat i) = (0 : Int32) then 0 else 1
theorem own_b01 (x : Int32) : (x &&& (1 : Int32)) = 0 ∨ (x &&& (1 : Int32)) = 1 := by
  have h : (x &&& (1 : Int32)).toBitVec = 0#32 ∨ (x &&& (1 : Int32)).toBitVec = 1#32 := by
    simp only [Int32.toBitVec_and, show (1 : Int32).toBitVec = 1#32 from rfl]
    cases hx : x.toBitVec.getLsbD 0
    · left; ext q hq; simp; rintro h rfl; exact absurd (hx.symm.trans h) (by decide)
    · right; ext q hq; simp; rintro rfl; exact hx
  rcases h with h | h
  · left; exact Int32.toBitVec_inj.mp h
  · right; exact Int32.toBitVec_inj.mp h
theorem own_nbe (m : Int32) (i : Nat) : own_bit m (Int32.ofNat i) = Int32.ofNat (own_nb m i) := by
  unfold own_nb
  rcases own_b01 ((m.toUInt32 >>> ((Int32.ofNat i) &&& 31).toUInt32).toInt32) with h | h
  · rw [if_pos (show own_bt m (Int32.ofNat i) = 0 from h)]; exact h
  · have q : own_bt m (Int32.ofNat i) = 1 := h
    rw [if_neg (by rw [q]; decide)]; exact h
theorem own_nb1 (m : Int32) (i : Nat) : own_nb m i ≤ 1 := by unfold own_nb; split <;> decide
theorem own_msk : ∀ k : Fin 23, ∀ i : Fin 20, own_bit (((1 : Int32) <<< ((own_min (Int32.ofNat k.val) (20 : Int32)) &&& 31)) - (1 : Int32)) (Int32.ofNat i.val) = Int32.ofNat (if i.val < k.val then 1 else 0) := by decide +kernel
def own_fk (m : Int32) (k i : Nat) : Nat := if i < k then own_nb m i else 0
theorem own_fk1 (m : Int32) (k i : Nat) : own_fk m k i ≤ 1 := by unfold own_fk; split; exact own_nb1 m i; decide
theorem own_mk (m : Int32) (k : Fin 23) (i : Fin 20) : own_bit (m &&& (((1 : Int32) <<< ((own_min (Int32.ofNat k.val) (20 : Int32)) &&& 31)) - (1 : Int32))) (Int32.ofNat i.val) = Int32.ofNat (own_fk m k.val i.val) := by
  rw [own_band, own_msk, own_nbe]
  unfold own_fk
  have q : own_nb m i.val = 0 ∨ own_nb m i.val = 1 := by have := own_nb1 m i.val; omega
  rcases q with q | q <;> rw [q] <;> split <;> decide
def own_sN (m : Int32) : Nat → Nat
  | 0 => 0
  | j + 1 => own_sN m j + (if j < 20 then own_nb m j else 0)
theorem own_smN (m : Int32) : ∀ k, own_sm m k = Int64.ofNat (own_sN m k)
  | 0 => rfl
  | j + 1 => by
    rw [own_sm, own_sN, own_smN m j, Int64.ofNat_add]
    congr 1
    unfold own_nb
    split <;> split <;> rfl
theorem own_sum20 (m : Int32) (k : Fin 23) : own_fk m k 0 + own_fk m k 1 + own_fk m k 2 + own_fk m k 3 + own_fk m k 4 + own_fk m k 5 + own_fk m k 6 + own_fk m k 7 + own_fk m k 8 + own_fk m k 9 + own_fk m k 10 + own_fk m k 11 + own_fk m k 12 + own_fk m k 13 + own_fk m k 14 + own_fk m k 15 + own_fk m k 16 + own_fk m k 17 + own_fk m k 18 + own_fk m k 19 = own_sN m k := by
  obtain ⟨k, hk⟩ := k
  simp only
  iterate 23 (cases k with | zero => (simp [own_fk, own_sN]; done) | succ k => ?_)
  omega
theorem own_cv : ∀ N : Fin 21, (Int32.ofNat N.val).toInt64 = Int64.ofNat N.val := by decide
theorem own_cnt {m len : Int32} (h0 : ¬ len < 0) (h1 : ¬ (22 : Int32) < len) : own_count m len = own_sm m len.toNatClampNeg := by
  obtain ⟨k, rfl⟩ := own_nat h0 h1
  have hk : (Int32.ofNat k.val).toNatClampNeg = k.val := by revert k; decide
  rw [hk, own_smN, ← own_sum20, own_count]
  have e := own_mk m k
  have e0 := e 0; have e1 := e 1; have e2 := e 2; have e3 := e 3; have e4 := e 4; have e5 := e 5; have e6 := e 6; have e7 := e 7; have e8 := e 8; have e9 := e 9
  have f0 := e 10; have f1 := e 11; have f2 := e 12; have f3 := e 13; have f4 := e 14; have f5 := e 15; have f6 := e 16; have f7 := e 17; have f8 := e 18; have f9 := e 19
  have hb := own_fk1 m k.val
  generalize (m &&& (((1 : Int32) <<< ((own_min (Int32.ofNat k.val) (20 : Int32)) &&& 31)) - (1 : Int32))) = x at *
  rw [show own_bit x 0 = Int32.ofNat (own_fk m k.val 0) from e0, show own_bit x 1 = Int32.ofNat (own_fk m k.val 1) from e1, show own_bit x 2 = Int32.ofNat (own_fk m k.val 2) from e2, show own_bit x 3 = Int32.ofNat (own_fk m k.val 3) from e3, show own_bit x 4 = Int32.ofNat (own_fk m k.val 4) from e4, show own_bit x 5 = Int32.ofNat (own_fk m k.val 5) from e5, show own_bit x 6 = Int32.ofNat (own_fk m k.val 6) from e6, show own_bit x 7 = Int32.ofNat (own_fk m k.val 7) from e7, show own_bit x 8 = Int32.ofNat (own_fk m k.val 8) from e8, show own_bit x 9 = Int32.ofNat (own_fk m k.val 9) from e9,
    show own_bit x 10 = Int32.ofNat (own_fk m k.val 10) from f0, show own_bit x 11 = Int32.ofNat (own_fk m k.val 11) from f1, show own_bit x 12 = Int32.ofNat (own_fk m k.val 12) from f2, show own_bit x 13 = Int32.ofNat (own_fk m k.val 13) from f3, show own_bit x 14 = Int32.ofNat (own_fk m k.val 14) from f4, show own_bit x 15 = Int32.ofNat (own_fk m k.val 15) from f5, show own_bit x 16 = Int32.ofNat (own_fk m k.val 16) from f6, show own_bit x 17 = Int32.ofNat (own_fk m k.val 17) from f7, show own_bit x 18 = Int32.ofNat (own_fk m k.val 18) from f8, show own_bit x 19 = Int32.ofNat (own_fk m k.val 19) from f9]
  simp only [← Int32.ofNat_add]
  exact own_cv ⟨_, by
    have := hb 0; have := hb 1; have := hb 2; have := hb 3; have := hb 4; have := hb 5; have := hb 6; have := hb 7; have := hb 8; have := hb 9
    have := hb 10; have := hb 11; have := hb 12; have := hb 13; have := hb 14; have := hb 15; have := hb 16; have := hb 17; have := hb 18; have := hb 19
    omega⟩
theorem own_a31 (x : Int32) : ∃ j : Fin 32, (x &&& (31 : Int32)) = Int32.ofNat j.val := by
  refine ⟨⟨(x &&& 31).toBitVec.toNat, ?_⟩, ?_⟩
  · rw [Int32.toBitVec_and, BitVec.toNat_and]
    exact Nat.lt_of_le_of_lt Nat.and_le_right (by decide)
  · apply Int32.toBitVec_inj.mp; simp
theorem own_a255 (x : Int32) : ∃ j : Fin 256, (x &&& (255 : Int32)) = Int32.ofNat j.val := by
  refine ⟨⟨(x &&& 255).toBitVec.toNat, ?_⟩, ?_⟩
  · rw [Int32.toBitVec_and, BitVec.toNat_and]
    exact Nat.lt_of_le_of_lt Nat.and_le_right (by decide)
  · apply Int32.toBitVec_inj.mp; simp
theorem own_mr (x : Int32) : ¬ own_min (x &&& (31 : Int32)) (22 : Int32) < 0 ∧ ¬ (22 : Int32) < own_min (x &&& (31 : Int32)) (22 : Int32) := by
  obtain ⟨j, e⟩ := own_a31 x
  rw [e]; clear e; revert j; decide
theorem own_rc (x : Int32) : own_ch ((x &&& (255 : Int32)).toUInt32.toUInt16.toUInt32.toInt32) ∧ ¬ (255 : Int32) < ((x &&& (255 : Int32)).toUInt32.toUInt16.toUInt32.toInt32) := by
  obtain ⟨j, e⟩ := own_a255 x
  have q : ∀ j : Fin 256, ((Int32.ofNat j.val).toUInt32.toUInt16.toUInt32.toInt32) = Int32.ofNat j.val ∧ ¬ (255 : Int32) < Int32.ofNat j.val := by decide +kernel
  rw [e, (q j).1]; exact ⟨⟨j, rfl⟩, (q j).2⟩
theorem own_nc_ (x : Int32) : (own_ch (((x &&& (255 : Int32)) ^^^ (1 : Int32)).toUInt32.toUInt16.toUInt32.toInt32) ∧ ¬ (255 : Int32) < (((x &&& (255 : Int32)) ^^^ (1 : Int32)).toUInt32.toUInt16.toUInt32.toInt32)) ∧ ¬ ((15 : Int32) &&& (((x &&& (255 : Int32)) ^^^ (1 : Int32)).toUInt32.toUInt16.toUInt32.toInt32)) = ((15 : Int32) &&& ((x &&& (255 : Int32)).toUInt32.toUInt16.toUInt32.toInt32)) := by
  obtain ⟨j, e⟩ := own_a255 x
  have q : ∀ j : Fin 256, ((j.val ^^^ 1) < 256 ∧ (((Int32.ofNat j.val) ^^^ (1 : Int32)).toUInt32.toUInt16.toUInt32.toInt32) = Int32.ofNat (j.val ^^^ 1) ∧ ¬ (255 : Int32) < Int32.ofNat (j.val ^^^ 1)) ∧ ¬ ((15 : Int32) &&& (((Int32.ofNat j.val) ^^^ (1 : Int32)).toUInt32.toUInt16.toUInt32.toInt32)) = ((15 : Int32) &&& ((Int32.ofNat j.val).toUInt32.toUInt16.toUInt32.toInt32)) := by decide +kernel
  rw [e]
  obtain ⟨⟨h0, h1, h2⟩, h3⟩ := q j
  exact ⟨⟨⟨⟨_, h0⟩, h1⟩, h1 ▸ h2⟩, h3⟩
theorem own_i32n {j : Nat} (h : j < 24) : (Int32.ofNat j).toNatClampNeg = j := (own_i32 ⟨j, h⟩).2
theorem own_i32z {j : Nat} (h : j < 24) : ¬ Int32.ofNat j < 0 := (own_i32 ⟨j, h⟩).1
theorem own_i32r {j k : Nat} (h : j < 24) (h' : k < 24) : Int32.ofNat j < Int32.ofNat k ↔ j < k := (own_i32l ⟨j, h⟩ ⟨k, h'⟩).1
theorem own_rkl {kk j : Nat} {rk : Int32} (hrk : rk = Int32.ofNat (j + 1)) (hj : j ≤ 22) (hk : kk ≤ 22) : Int32.ofNat kk < rk ↔ kk < j + 1 := by rw [hrk]; exact own_i32r (by omega) (by omega)
theorem own_rk1 {j : Nat} {rk : Int32} (hrk : rk = Int32.ofNat (j + 1)) : (rk - (1 : Int32)) = Int32.ofNat j := by rw [hrk, own_szs]; exact Int32.add_sub_cancel _ _
theorem own_capl {k j : Nat} {cap : Int32} (h : k = 0 ∨ own_cap k cap) (hj : j < k) : Int32.ofNat j < cap := by
  rcases h with h | ⟨rfl, -, h⟩ | ⟨rfl, -, h⟩ | ⟨rfl, -, h⟩
  · omega
  · exact (own_i32r (j := j) (k := 10) (by omega) (by omega)).mpr (by omega)
  · exact (own_i32r (j := j) (k := 15) (by omega) (by omega)).mpr (by omega)
  · exact (own_i32r (j := j) (k := 22) (by omega) (by omega)).mpr (by omega)
theorem own_vs_get (m : Int32) (r n : Addr) {j k : Nat} (hj : j < k) : (own_vs m r n k).getD j .null = .ref (own_el m r n j) := by simp [own_vs, List.getD_eq_getElem?_getD, hj]
def own_fr (f : Int32) : Prop := ∃ k : Fin 24, f = Int32.ofNat k.val
theorem own_q1 {f : Int32} (h : own_fr f) (h0 : (0 : Int32) < f) : Jvm.Free.Fl.Fin64 (FP.ddiv FP.dconst1 (FP.i2d f)) := by
  obtain ⟨k, rfl⟩ := h
  have q : ∀ k : Fin 24, (0 : Int32) < Int32.ofNat k.val → FP.ddiv FP.dconst1 (FP.i2d (Int32.ofNat k.val)) &&& 0x7fffffffffffffff < 0x7ff0000000000000 := by decide +kernel
  exact q k h0
theorem own_q2 (a : Int64) {b : Int32} (h : b = 1 ∨ b = 2) : Jvm.Free.Fl.NoNaN64 (FP.ddiv (FP.l2d a) (FP.i2d b)) := by
  rcases h with rfl | rfl
  · exact Jvm.Free.Fl.ddiv_out (Jvm.Free.Fl.l2d_fin a).noNaN (Jvm.Free.Fl.i2d_fin _) (by unfold Jvm.Free.Fl.Nz64; decide +kernel)
  · exact Jvm.Free.Fl.ddiv_out (Jvm.Free.Fl.l2d_fin a).noNaN (Jvm.Free.Fl.i2d_fin _) (by unfold Jvm.Free.Fl.Nz64; decide +kernel)
theorem own_nn0 : Jvm.Free.Fl.NoNaN64 0 := by unfold Jvm.Free.Fl.NoNaN64; decide
theorem own_sm0 {m : Int32} {j : Nat} (h : own_bt m (Int32.ofNat j) = (0 : Int32)) : own_sm m (j + 1) = own_sm m j := by rw [own_sm, if_pos h, Int64.add_zero]
theorem own_sm1 {m : Int32} {j : Nat} (h : ¬ own_bt m (Int32.ofNat j) = (0 : Int32)) (hj : j < 20) : own_sm m (j + 1) = own_sm m j + 1 := by rw [own_sm, if_neg h, if_pos hj]
theorem own_sm2 {m : Int32} {j : Nat} (h : ¬ own_bt m (Int32.ofNat j) = (0 : Int32)) (hj : ¬ j < 20) : own_sm m (j + 1) = own_sm m j := by rw [own_sm, if_neg h, if_neg hj, Int64.add_zero]
theorem own_ned {ed u x n0 n1 : Nat} (h : ed = u ∨ n1 ≤ ed) (hu : u < n0) (hg : n0 ≤ x) (hx : x < n1) : ed ≠ x := by omega
theorem own_B_open {Z : State} {h : Heap} {n1 : Nat} {l u : Addr} {ku : ClassId} {m : Int32} {r n : Addr} {k : Nat} (H : own_B Z h n1 l u m r n k) (Vu : Arv Z h u ku (.object "java/lang/Object") 0 [] .null) : ∃ ed ked cap, Exa Z h l "java/util/ArrayList" ∧ Fld Z h l "java/util/ArrayList" "elementData" "[Ljava/lang/Object;" (.ref ed) ∧ Fld Z h l "java/util/ArrayList" "size" "I" (.int (Int32.ofNat k)) ∧ Arv Z h ed ked (.object "java/lang/Object") cap (own_vs m r n k) .null ∧ (k = 0 ∨ own_cap k cap) ∧ (ed = u ∨ n1 ≤ ed) := by
  obtain ⟨hl, H⟩ := H
  rcases H with ⟨rfl, mc, E, F1, F2, F3⟩ | ⟨ed, ked, cap, mc, ⟨E, F1, F2, F3, V, O, Ed, ge, ne⟩, hc⟩
  · exact ⟨u, ku, 0, E, F1, F2, Vu, Or.inl rfl, Or.inl rfl⟩
  · exact ⟨ed, ked, cap, E, F1, F2, V, Or.inr hc, Or.inr ge⟩
theorem d40_0 : dk bc47 0 (.aload_n 0) 1 := by decide +kernel
theorem d40_1 : dk bc47 1 (.getfield 7) 3 := by decide +kernel
theorem d40_4 : dk bc47 4 (.areturn) 1 := by decide +kernel
theorem pn_40 : plainName "com/example/carved_corpus/carvedcorpus/Hit" = true := by first | (simp [plainName, overriddenIn]; done) | decide +kernel
theorem ef_40 (m : MethodId) (x0 : Addr) : entryFrame m #[(.ref x0)] 1 = mkF m 0 #[.val (.ref x0)] [] := by first | (simp [entryFrame, mkF, argsToLocals, Value.category]; done) | rfl
def Q40 (Z : State) (r0 : Addr) (x : Addr) (h0 : Heap) (n0 : Nat) (v : Option Value) (h : Heap) (L : List Loc) : Prop := v = some (.ref x) ∧ Fr n0 L ∧ h = h0
set_option maxRecDepth 65536 in
set_option maxHeartbeats 40000000 in
theorem rm40 (l : Launch) (Z : State) (a0 : Array Value) (hw : ∀ d ∈ tables_1, d.before a0 Z = true) (ws : List Jvm.Cond) (r0 : Addr) (x : Addr) (h0 : Heap) (n0 : Nat) (Z0 : n0 ≤ h0.size) (Fi : Fld Z h0 r0 "com/example/carved_corpus/carvedcorpus/Hit" "id" "Ljava/lang/String;" (.ref x)) :
    MetFree l Y47 (head1 (Jvm.Cond.code Y47 prog_1_method_2_code 1 (some (.object "java/lang/String")) :: ws) (⟨0, 0, 0, 0⟩ : Room)) (fun a U => a = #[(.ref r0)] ∧ Z.Warmed39 U.vm ∧ U.heap = h0) (fun _ _ _ _ _ => True) (fun _ U o U' => ∃ v L, o = .returned v ∧ Q40 Z r0 x h0 n0 v U'.heap L ∧ FrameEnd U o U' L (⟨0, 0, 0, 0⟩ : Room).cells (⟨0, 0, 0, 0⟩ : Room).slots) := by
  refine MetFree.of_bodySF (plainFor_of_name pn_40) hisR ?_
  intro p e s m args below meth c s₁ Bd hml0 hP hK
  obtain ⟨rfl, hZ, hh⟩ := hP
  have hx := Bd.exec
  have hby := Bd.bytes
  have hml : c.maxLocals = 1 := hml0
  have hown : s.vm.findClass "com/example/carved_corpus/carvedcorpus/Hit" = some m.cls := findClass_of_methodNamed Bd.named
  have hnm := (name_of_methodNamed Bd.named Bd.method).1
  have hlk : meth.locks = false := by first | exact BodyLoose.notSynchronized Bd | exact Body.notSynchronized Bd
  have X0 : Stand p l e (⟨0, 0, 0, 0⟩ : Room) s m #[(.ref r0)] below meth c s₁ [] 0 0 := Stand.of_body Bd
  have e0 : s₁.heap = h0 := by rw [← hh, Bd.state]; rfl
  have N0 := Fr.nil n0
  have k0 : own_R p e below (s₁.setTop (entryFrame m #[(.ref r0)] 1)) (s₁.setTop (mkF m 0 #[vR r0] [])) := fun t k => castTop (ef_40 m r0) k
  obtain ⟨A0, hA0⟩ : ∃ z, z = s₁.setTop (entryFrame m #[(.ref r0)] 1) := ⟨_, rfl⟩
  rw [← hA0] at k0
  have kz : ∀ t, Steps p.tables e below A0 t → Steps p.tables e below (s₁.setTop (entryFrame m #[(.ref r0)] 1)) t := fun t q => hA0 ▸ q
  have ks1 : own_R p e below (A0) (s₁.setTop (mkF m 1 #[vR r0] [(.ref r0)])) := fun t k => k0 t (by
    refine XS.aloadN X0.here hx rfl (hb hby d40_0) rfl rfl ?_
    exact k)
  obtain ⟨T2, X2, e2, st2⟩ := getF X0 hx hZ hown (host := "") (Or.inl (own_w hw 33 rfl)) Via.refl e0 Fi (g := (mkF m 1 #[vR r0] [(.ref r0)])) rfl rfl (hb hby d40_1)
  have ks3 := own_c ks1 st2
  obtain ⟨fs, hr, hrun, hended, hW, hsame⟩ := X2.leave (v := some (.ref x)) (fun h => by rw [Bd.returns] at h; cases h) hlk
  refine ⟨_, _, kz _ (ks3 _ ?_), hrun, hended, _, _, rfl, ?_, ⟨_, rfl⟩, hW, hsame.mono (by decide) (by decide)⟩
  · exact retOut X2 hx Bd.returns rfl (Or.inr (Or.inr (Or.inr (Or.inr ⟨rfl, rfl, rfl⟩)))) (hb hby d40_4) hr
  · show Q40 Z r0 x h0 n0 _ T2.heap _
    rw [e2]
    exact ⟨rfl, N0, rfl⟩
theorem d33_0 : dk bc48 0 (.aload_n 0) 1 := by decide +kernel
theorem d33_1 : dk bc48 1 (.invokespecial 1) 3 := by decide +kernel
theorem d33_4 : dk bc48 4 (.return_) 1 := by decide +kernel
theorem pn_33 : plainName "com/example/carved_corpus/carvedcorpus/cli/Evaluation" = true := by first | (simp [plainName, overriddenIn]; done) | decide +kernel
theorem ef_33 (m : MethodId) (x0 : Addr) : entryFrame m #[(.ref x0)] 1 = mkF m 0 #[.val (.ref x0)] [] := by first | (simp [entryFrame, mkF, argsToLocals, Value.category]; done) | rfl
def Q33 (Z : State) (r0 : Addr) (h0 : Heap) (n0 : Nat) (v : Option Value) (h : Heap) (L : List Loc) : Prop := v = none ∧ Fr n0 L ∧ h = h0
set_option maxRecDepth 65536 in
set_option maxHeartbeats 40000000 in
theorem rm33 (l : Launch) (Z : State) (a0 : Array Value) (hw : ∀ d ∈ tables_1, d.before a0 Z = true) (ws : List Jvm.Cond) (r0 : Addr) (h0 : Heap) (n0 : Nat) (Z0 : n0 ≤ h0.size) :
    MetFree l Y48 (head1 (Jvm.Cond.code Y48 prog_7_method_1_code 1 none :: ws) (⟨1, 0, 0, 12⟩ : Room)) (fun a U => a = #[(.ref r0)] ∧ Z.Warmed39 U.vm ∧ U.heap = h0) (fun _ _ _ _ _ => True) (fun _ U o U' => ∃ v L, o = .returned v ∧ Q33 Z r0 h0 n0 v U'.heap L ∧ FrameEnd U o U' L (⟨1, 0, 0, 12⟩ : Room).cells (⟨1, 0, 0, 12⟩ : Room).slots) := by
  refine MetFree.of_bodySF (plainFor_of_name pn_33) hisR ?_
  intro p e s m args below meth c s₁ Bd hml0 hP hK
  obtain ⟨rfl, hZ, hh⟩ := hP
  have hx := Bd.exec
  have hby := Bd.bytes
  have hml : c.maxLocals = 1 := hml0
  have hown : s.vm.findClass "com/example/carved_corpus/carvedcorpus/cli/Evaluation" = some m.cls := findClass_of_methodNamed Bd.named
  have hnm := (name_of_methodNamed Bd.named Bd.method).1
  have hlk : meth.locks = false := by first | exact BodyLoose.notSynchronized Bd | exact Body.notSynchronized Bd
  have X0 : Stand p l e (⟨1, 0, 0, 12⟩ : Room) s m #[(.ref r0)] below meth c s₁ [] 0 0 := Stand.of_body Bd
  have e0 : s₁.heap = h0 := by rw [← hh, Bd.state]; rfl
  have N0 := Fr.nil n0
  have k0 : own_R p e below (s₁.setTop (entryFrame m #[(.ref r0)] 1)) (s₁.setTop (mkF m 0 #[vR r0] [])) := fun t k => castTop (ef_33 m r0) k
  obtain ⟨A0, hA0⟩ : ∃ z, z = s₁.setTop (entryFrame m #[(.ref r0)] 1) := ⟨_, rfl⟩
  rw [← hA0] at k0
  have kz : ∀ t, Steps p.tables e below A0 t → Steps p.tables e below (s₁.setTop (entryFrame m #[(.ref r0)] 1)) t := fun t q => hA0 ▸ q
  have ks1 : own_R p e below (A0) (s₁.setTop (mkF m 1 #[vR r0] [(.ref r0)])) := fun t k => k0 t (by
    refine XS.aloadN X0.here hx rfl (hb hby d33_0) rfl rfl ?_
    exact k)
  obtain ⟨T2, X2, e2, st2⟩ := initO X0 hx hZ hown (own_w hw 219 rfl) (own_w hw 23 rfl) (own_w hw 24 rfl) e0 (g := (mkF m 1 #[vR r0] [(.ref r0)])) rfl (by rw [hml]; rfl) rfl (hb hby d33_1) (by decide) (W := 0) (by show 2 * 0 + _ ≤ _; exact Nat.le_of_eq rfl) (by decide)
  have ks3 := own_c ks1 st2
  obtain ⟨fs, hr, hrun, hended, hW, hsame⟩ := X2.leave (v := none) (fun _ => rfl) hlk
  refine ⟨_, _, kz _ (ks3 _ ?_), hrun, hended, _, _, rfl, ?_, ⟨_, rfl⟩, hW, hsame.mono (by decide) (by decide)⟩
  · exact X2.returnOut hx Bd.returns (hb hby d33_4) hr
  · show Q33 Z r0 h0 n0 _ T2.heap _
    rw [e2]
    exact ⟨rfl, N0, rfl⟩
theorem d46_0 : dk bc49 0 (.aload_n 0) 1 := by decide +kernel
theorem d46_1 : dk bc49 1 (.getfield 31) 3 := by decide +kernel
theorem d46_4 : dk bc49 4 (.l2d) 1 := by decide +kernel
theorem d46_5 : dk bc49 5 (.aload_n 0) 1 := by decide +kernel
theorem d46_6 : dk bc49 6 (.getfield 35) 3 := by decide +kernel
theorem d46_9 : dk bc49 9 (.i2d) 1 := by decide +kernel
theorem d46_10 : dk bc49 10 (.ddiv) 1 := by decide +kernel
theorem d46_11 : dk bc49 11 (.dreturn) 1 := by decide +kernel
theorem pn_46 : plainName "com/example/carved_corpus/carvedcorpus/cli/Evaluation" = true := by first | (simp [plainName, overriddenIn]; done) | decide +kernel
theorem ef_46 (m : MethodId) (x0 : Addr) : entryFrame m #[(.ref x0)] 1 = mkF m 0 #[.val (.ref x0)] [] := by first | (simp [entryFrame, mkF, argsToLocals, Value.category]; done) | rfl
def Q46 (Z : State) (r0 : Addr) (rel0 : Int64) (qa : Int32) (h0 : Heap) (n0 : Nat) (v : Option Value) (h : Heap) (L : List Loc) : Prop := v = some (.double (FP.ddiv (FP.l2d rel0) (FP.i2d qa))) ∧ Fr n0 L ∧ h = h0
set_option maxRecDepth 65536 in
set_option maxHeartbeats 40000000 in
theorem rm46 (l : Launch) (Z : State) (a0 : Array Value) (hw : ∀ d ∈ tables_1, d.before a0 Z = true) (ws : List Jvm.Cond) (r0 : Addr) (rel0 : Int64) (qa : Int32) (h0 : Heap) (n0 : Nat) (Z0 : n0 ≤ h0.size) (Fra : Fld Z h0 r0 "com/example/carved_corpus/carvedcorpus/cli/Evaluation" "relevantAtCutoff" "J" (.long rel0)) (Fq : Fld Z h0 r0 "com/example/carved_corpus/carvedcorpus/cli/Evaluation" "questions" "I" (.int qa)) (hnn : Jvm.Free.Fl.NoNaN64 (FP.ddiv (FP.l2d rel0) (FP.i2d qa))) :
    MetFree l Y49 (head1 (Jvm.Cond.code Y49 prog_7_method_4_code 1 (some .double) :: ws) (⟨0, 0, 0, 0⟩ : Room)) (fun a U => a = #[(.ref r0)] ∧ Z.Warmed39 U.vm ∧ U.heap = h0) (fun _ _ _ _ _ => True) (fun _ U o U' => ∃ v L, o = .returned v ∧ Q46 Z r0 rel0 qa h0 n0 v U'.heap L ∧ FrameEnd U o U' L (⟨0, 0, 0, 0⟩ : Room).cells (⟨0, 0, 0, 0⟩ : Room).slots) := by
  refine MetFree.of_bodySF (plainFor_of_name pn_46) hisR ?_
  intro p e s m args below meth c s₁ Bd hml0 hP hK
  obtain ⟨rfl, hZ, hh⟩ := hP
  have hx := Bd.exec
  have hby := Bd.bytes
  have hml : c.maxLocals = 1 := hml0
  have hown : s.vm.findClass "com/example/carved_corpus/carvedcorpus/cli/Evaluation" = some m.cls := findClass_of_methodNamed Bd.named
  have hnm := (name_of_methodNamed Bd.named Bd.method).1
  have hlk : meth.locks = false := by first | exact BodyLoose.notSynchronized Bd | exact Body.notSynchronized Bd
  have X0 : Stand p l e (⟨0, 0, 0, 0⟩ : Room) s m #[(.ref r0)] below meth c s₁ [] 0 0 := Stand.of_body Bd
  have e0 : s₁.heap = h0 := by rw [← hh, Bd.state]; rfl
  have N0 := Fr.nil n0
  have k0 : own_R p e below (s₁.setTop (entryFrame m #[(.ref r0)] 1)) (s₁.setTop (mkF m 0 #[vR r0] [])) := fun t k => castTop (ef_46 m r0) k
  obtain ⟨A0, hA0⟩ : ∃ z, z = s₁.setTop (entryFrame m #[(.ref r0)] 1) := ⟨_, rfl⟩
  rw [← hA0] at k0
  have kz : ∀ t, Steps p.tables e below A0 t → Steps p.tables e below (s₁.setTop (entryFrame m #[(.ref r0)] 1)) t := fun t q => hA0 ▸ q
  have ks1 : own_R p e below (A0) (s₁.setTop (mkF m 1 #[vR r0] [(.ref r0)])) := fun t k => k0 t (by
    refine XS.aloadN X0.here hx rfl (hb hby d46_0) rfl rfl ?_
    exact k)
  obtain ⟨T2, X2, e2, st2⟩ := getF X0 hx hZ hown (host := "") (Or.inl (own_w hw 294 rfl)) Via.refl e0 Fra (g := (mkF m 1 #[vR r0] [(.ref r0)])) rfl rfl (hb hby d46_1)
  have ks3 := own_c ks1 st2
  have ks4 : own_R p e below (A0) (T2.setTop (mkF m 6 #[vR r0] [(.ref r0), (.double (FP.l2d rel0))])) := fun t k => ks3 t (by
    refine XS.l2dS X2.here hx rfl (hb hby d46_4) rfl rfl ?_
    refine XS.aloadN X2.here hx rfl (hb hby d46_5) rfl rfl ?_
    exact k)
  obtain ⟨T5, X5, e5, st5⟩ := getF X2 hx hZ hown (host := "") (Or.inl (own_w hw 281 rfl)) Via.refl e2 Fq (g := (mkF m 6 #[vR r0] [(.ref r0), (.double (FP.l2d rel0))])) rfl rfl (hb hby d46_6)
  have ks6 := own_c ks4 st5
  have ks7 : own_R p e below (A0) (T5.setTop (mkF m 11 #[vR r0] [(.double (FP.ddiv (FP.l2d rel0) (FP.i2d qa)))])) := fun t k => ks6 t (by
    refine XS.i2dS X5.here hx rfl (hb hby d46_9) rfl rfl ?_
    refine XS.ddivS X5.here hx rfl (hb hby d46_10) rfl hnn rfl ?_
    exact k)
  obtain ⟨fs, hr, hrun, hended, hW, hsame⟩ := X5.leave (v := some (.double (FP.ddiv (FP.l2d rel0) (FP.i2d qa)))) (fun h => by rw [Bd.returns] at h; cases h) hlk
  refine ⟨_, _, kz _ (ks7 _ ?_), hrun, hended, _, _, rfl, ?_, ⟨_, rfl⟩, hW, hsame.mono (by decide) (by decide)⟩
  · exact retOut X5 hx Bd.returns rfl (Or.inr (Or.inr (Or.inl ⟨rfl, rfl, _, rfl⟩))) (hb hby d46_11) hr
  · show Q46 Z r0 rel0 qa h0 n0 _ T5.heap _
    rw [e5]
    exact ⟨rfl, N0, rfl⟩
theorem d34_0 : dk bc50 0 (.iconst 0) 1 := by decide +kernel
theorem d34_1 : dk bc50 1 (.istore_n 3) 1 := by decide +kernel
theorem d34_2 : dk bc50 2 (.iconst 1) 1 := by decide +kernel
theorem d34_3 : dk bc50 3 (.istore 4) 2 := by decide +kernel
theorem d34_5 : dk bc50 5 (.iload 4) 2 := by decide +kernel
theorem d34_7 : dk bc50 7 (.aload_n 1) 1 := by decide +kernel
theorem d34_8 : dk bc50 8 (.invokeinterface 7 1) 5 := by decide +kernel
theorem d34_13 : dk bc50 13 (.if_icmp .gt 58) 3 := by decide +kernel
theorem d34_16 : dk bc50 16 (.aload_n 2) 1 := by decide +kernel
theorem d34_17 : dk bc50 17 (.aload_n 1) 1 := by decide +kernel
theorem d34_18 : dk bc50 18 (.iload 4) 2 := by decide +kernel
theorem d34_20 : dk bc50 20 (.iconst 1) 1 := by decide +kernel
theorem d34_21 : dk bc50 21 (.isub) 1 := by decide +kernel
theorem d34_22 : dk bc50 22 (.invokeinterface 13 2) 5 := by decide +kernel
theorem d34_27 : dk bc50 27 (.checkcast 17) 3 := by decide +kernel
theorem d34_30 : dk bc50 30 (.invokevirtual 19) 3 := by decide +kernel
theorem d34_33 : dk bc50 33 (.invokeinterface 23 2) 5 := by decide +kernel
theorem d34_38 : dk bc50 38 (.ifCond .eq 27) 3 := by decide +kernel
theorem d34_41 : dk bc50 41 (.iload 4) 2 := by decide +kernel
theorem d34_43 : dk bc50 43 (.bipush 20) 2 := by decide +kernel
theorem d34_45 : dk bc50 45 (.if_icmp .gt 13) 3 := by decide +kernel
theorem d34_48 : dk bc50 48 (.aload_n 0) 1 := by decide +kernel
theorem d34_49 : dk bc50 49 (.dup) 1 := by decide +kernel
theorem d34_50 : dk bc50 50 (.getfield 31) 3 := by decide +kernel
theorem d34_53 : dk bc50 53 (.lconst 1) 1 := by decide +kernel
theorem d34_54 : dk bc50 54 (.ladd) 1 := by decide +kernel
theorem d34_55 : dk bc50 55 (.putfield 31) 3 := by decide +kernel
theorem d34_58 : dk bc50 58 (.iload_n 3) 1 := by decide +kernel
theorem d34_59 : dk bc50 59 (.ifCond .ne 6) 3 := by decide +kernel
theorem d34_62 : dk bc50 62 (.iload 4) 2 := by decide +kernel
theorem d34_64 : dk bc50 64 (.istore_n 3) 1 := by decide +kernel
theorem d34_65 : dk bc50 65 (.iinc 4 1) 3 := by decide +kernel
theorem d34_68 : dk bc50 68 (.goto (-63)) 3 := by decide +kernel
theorem d34_71 : dk bc50 71 (.aload_n 0) 1 := by decide +kernel
theorem d34_72 : dk bc50 72 (.dup) 1 := by decide +kernel
theorem d34_73 : dk bc50 73 (.getfield 35) 3 := by decide +kernel
theorem d34_76 : dk bc50 76 (.iconst 1) 1 := by decide +kernel
theorem d34_77 : dk bc50 77 (.iadd) 1 := by decide +kernel
theorem d34_78 : dk bc50 78 (.putfield 35) 3 := by decide +kernel
theorem d34_81 : dk bc50 81 (.iload_n 3) 1 := by decide +kernel
theorem d34_82 : dk bc50 82 (.ifCond .le 16) 3 := by decide +kernel
theorem d34_85 : dk bc50 85 (.aload_n 0) 1 := by decide +kernel
theorem d34_86 : dk bc50 86 (.dup) 1 := by decide +kernel
theorem d34_87 : dk bc50 87 (.getfield 39) 3 := by decide +kernel
theorem d34_90 : dk bc50 90 (.dconst 1) 1 := by decide +kernel
theorem d34_91 : dk bc50 91 (.iload_n 3) 1 := by decide +kernel
theorem d34_92 : dk bc50 92 (.i2d) 1 := by decide +kernel
theorem d34_93 : dk bc50 93 (.ddiv) 1 := by decide +kernel
theorem d34_94 : dk bc50 94 (.dadd) 1 := by decide +kernel
theorem d34_95 : dk bc50 95 (.putfield 39) 3 := by decide +kernel
theorem d34_98 : dk bc50 98 (.return_) 1 := by decide +kernel
theorem pn_34 : plainName "com/example/carved_corpus/carvedcorpus/cli/Evaluation" = true := by first | (simp [plainName, overriddenIn]; done) | decide +kernel
theorem pd_26 : parseMethodDescriptor "()Ljava/lang/String;" = some ⟨[], some (.object "java/lang/String")⟩ := by decide +kernel
theorem ef_34_R (m : MethodId) (x0 : Addr) (x1 : Addr) (x2 : Addr) : entryFrame m #[(.ref x0), (.ref x1), (.ref x2)] 5 = mkF m 0 #[.val (.ref x0), .val (.ref x1), .val (.ref x2), .unset, .unset] [] := by first | (simp [entryFrame, mkF, argsToLocals, Value.category]; done) | rfl
def Q34_R (Z : State) (r0 : Addr) (r1 : Addr) (r2 : Addr) (y9 : Int32) (ed : Addr) (ked : ClassId) (cap : Int32) (m1 : Int32) (kk : Nat) (ra : Addr) (na : Addr) (sr : Addr) (sn : Addr) (tr : Addr) (ktr : ClassId) (tn : Addr) (ktn : ClassId) (yn : Int32) (hm : Addr) (tab : Addr) (ktb : ClassId) (nd : Addr) (sk : Addr) (tk : Addr) (ktk : ClassId) (yk : Int32) (rel0 : Int64) (rel1 : Int64) (qa : Int32) (qb : Int32) (rr : UInt64) (h0 : Heap) (n0 : Nat) (v : Option Value) (h : Heap) (L : List Loc) : Prop := v = none ∧ Fr n0 L ∧ Keep h0 h [r0, sr, sn] ∧ own_T Z h sr tr ktr yk ∧ own_T Z h sn tn ktn yn ∧ Fld Z h r0 "com/example/carved_corpus/carvedcorpus/cli/Evaluation" "relevantAtCutoff" "J" (.long rel1) ∧ Fld Z h r0 "com/example/carved_corpus/carvedcorpus/cli/Evaluation" "questions" "I" (.int qb) ∧ ∃ rs : UInt64, Fld Z h r0 "com/example/carved_corpus/carvedcorpus/cli/Evaluation" "reciprocalRanks" "D" (.double rs) ∧ Jvm.Free.Fl.NoNaN64 rs
set_option maxRecDepth 65536 in
set_option maxHeartbeats 40000000 in
theorem rm34_R (l : Launch) (Z : State) (a0 : Array Value) (hw : ∀ d ∈ tables_1, d.before a0 Z = true) (ws : List Jvm.Cond) (r0 : Addr) (r1 : Addr) (r2 : Addr) (y9 : Int32) (ed : Addr) (ked : ClassId) (cap : Int32) (m1 : Int32) (kk : Nat) (ra : Addr) (na : Addr) (sr : Addr) (sn : Addr) (tr : Addr) (ktr : ClassId) (tn : Addr) (ktn : ClassId) (yn : Int32) (hm : Addr) (tab : Addr) (ktb : ClassId) (nd : Addr) (sk : Addr) (tk : Addr) (ktk : ClassId) (yk : Int32) (rel0 : Int64) (rel1 : Int64) (qa : Int32) (qb : Int32) (rr : UInt64) (h0 : Heap) (n0 : Nat) (Z0 : n0 ≤ h0.size) (S9 : own_S9 Z h0 y9) (P9 : ¬ y9 = (0 : Int32)) (E1 : Exa Z h0 r1 "java/util/ArrayList") (Fe1 : Fld Z h0 r1 "java/util/ArrayList" "elementData" "[Ljava/lang/Object;" (.ref ed)) (Fz1 : Fld Z h0 r1 "java/util/ArrayList" "size" "I" (.int (Int32.ofNat kk))) (Vd : Arv Z h0 ed ked (.object "java/lang/Object") cap (own_vs m1 ra na kk) .null) (hkk : kk ≤ 22) (hcap : kk = 0 ∨ own_cap kk cap) (Ehr : Exa Z h0 ra "com/example/carved_corpus/carvedcorpus/Hit") (Fhr : Fld Z h0 ra "com/example/carved_corpus/carvedcorpus/Hit" "id" "Ljava/lang/String;" (.ref sr)) (Ehn : Exa Z h0 na "com/example/carved_corpus/carvedcorpus/Hit") (Fhn : Fld Z h0 na "com/example/carved_corpus/carvedcorpus/Hit" "id" "Ljava/lang/String;" (.ref sn)) (Tr : own_T Z h0 sr tr ktr yk) (Tn : own_T Z h0 sn tn ktn yn) (Es : Exa Z h0 r2 "java/util/HashSet") (Fp : Fld Z h0 r2 "java/util/HashSet" "map" "Ljava/util/HashMap;" (.ref hm)) (E0 : Exa Z h0 hm "java/util/HashMap") (Ft : Fld Z h0 hm "java/util/HashMap" "table" "[Ljava/util/HashMap$Node;" (.ref tab)) (Va : Arh Z h0 tab ktb (.object "java/util/HashMap$Node") 16 [(((15 : Int32) &&& yk), .ref nd)] [] .null) (En : Exa Z h0 nd "java/util/HashMap$Node") (Fh : Fld Z h0 nd "java/util/HashMap$Node" "hash" "I" (.int yk)) (Fk : Fld Z h0 nd "java/util/HashMap$Node" "key" "Ljava/lang/Object;" (.ref sk)) (hKq : Exa Z h0 sk "java/lang/String" ∧ own_Cd Z h0 sk 0 ∧ own_Fv Z h0 sk tk ∧ Arv Z h0 tk ktk .byte 1 [.int (yk.toInt8.toInt32)] (.int 0)) (hne : ¬ ((15 : Int32) &&& yn) = ((15 : Int32) &&& yk)) (Ev : Exa Z h0 r0 "com/example/carved_corpus/carvedcorpus/cli/Evaluation") (Fra : Fld Z h0 r0 "com/example/carved_corpus/carvedcorpus/cli/Evaluation" "relevantAtCutoff" "J" (.long rel0)) (Fq : Fld Z h0 r0 "com/example/carved_corpus/carvedcorpus/cli/Evaluation" "questions" "I" (.int qa)) (hq1 : (qa + (1 : Int32)) = qb) (g_r0 : n0 ≤ r0) (Frr : Fld Z h0 r0 "com/example/carved_corpus/carvedcorpus/cli/Evaluation" "reciprocalRanks" "D" (.double rr)) (hrr : Jvm.Free.Fl.NoNaN64 rr) (hrel : (rel0 + own_sm m1 kk) = rel1) (g_sr : n0 ≤ sr) (g_sn : n0 ≤ sn) (n_r1_r0 : r1 ≠ r0) (n_ed_r0 : ed ≠ r0) (n_r2_r0 : r2 ≠ r0) (n_hm_r0 : hm ≠ r0) (n_tab_r0 : tab ≠ r0) (n_nd_r0 : nd ≠ r0) (n_sk_r0 : sk ≠ r0) (n_tk_r0 : tk ≠ r0) (n_ra_r0 : ra ≠ r0) (n_na_r0 : na ≠ r0) (n_sr_r0 : sr ≠ r0) (n_tr_r0 : tr ≠ r0) (n_sn_r0 : sn ≠ r0) (n_tn_r0 : tn ≠ r0) (n_r1_sr : r1 ≠ sr) (n_ed_sr : ed ≠ sr) (n_r2_sr : r2 ≠ sr) (n_hm_sr : hm ≠ sr) (n_tab_sr : tab ≠ sr) (n_nd_sr : nd ≠ sr) (n_sk_sr : sk ≠ sr) (n_tk_sr : tk ≠ sr) (n_ra_sr : ra ≠ sr) (n_na_sr : na ≠ sr) (n_sn_sr : sn ≠ sr) (n_tn_sr : tn ≠ sr) (n_r1_sn : r1 ≠ sn) (n_ed_sn : ed ≠ sn) (n_r2_sn : r2 ≠ sn) (n_hm_sn : hm ≠ sn) (n_tab_sn : tab ≠ sn) (n_nd_sn : nd ≠ sn) (n_sk_sn : sk ≠ sn) (n_tk_sn : tk ≠ sn) (n_ra_sn : ra ≠ sn) (n_na_sn : na ≠ sn) (n_tr_sn : tr ≠ sn) :
    MetFree l Y50 (head1 (Jvm.Cond.code Y50 prog_7_method_2_code 5 none :: ws) (⟨6, 0, 0, 85⟩ : Room)) (fun a U => a = #[(.ref r0), (.ref r1), (.ref r2)] ∧ Z.Warmed39 U.vm ∧ U.heap = h0) (fun _ _ _ _ _ => True) (fun _ U o U' => ∃ v L, o = .returned v ∧ Q34_R Z r0 r1 r2 y9 ed ked cap m1 kk ra na sr sn tr ktr tn ktn yn hm tab ktb nd sk tk ktk yk rel0 rel1 qa qb rr h0 n0 v U'.heap L ∧ FrameEnd U o U' L (⟨6, 0, 0, 85⟩ : Room).cells (⟨6, 0, 0, 85⟩ : Room).slots) := by
  refine MetFree.of_bodySF (plainFor_of_name pn_34) hisR ?_
  intro p e s m args below meth c s₁ Bd hml0 hP hK
  obtain ⟨rfl, hZ, hh⟩ := hP
  have hx := Bd.exec
  have hby := Bd.bytes
  have hml : c.maxLocals = 5 := hml0
  have hown : s.vm.findClass "com/example/carved_corpus/carvedcorpus/cli/Evaluation" = some m.cls := findClass_of_methodNamed Bd.named
  have hnm := (name_of_methodNamed Bd.named Bd.method).1
  have hlk : meth.locks = false := by first | exact BodyLoose.notSynchronized Bd | exact Body.notSynchronized Bd
  have X0 : Stand p l e (⟨6, 0, 0, 85⟩ : Room) s m #[(.ref r0), (.ref r1), (.ref r2)] below meth c s₁ [] 0 0 := Stand.of_body Bd
  have e0 : s₁.heap = h0 := by rw [← hh, Bd.state]; rfl
  have N0 := Fr.nil n0
  have k0 : own_R p e below (s₁.setTop (entryFrame m #[(.ref r0), (.ref r1), (.ref r2)] 5)) (s₁.setTop (mkF m 0 #[vR r0, vR r1, vR r2, .unset, .unset] [])) := fun t k => castTop (ef_34_R m r0 r1 r2) k
  obtain ⟨A0, hA0⟩ : ∃ z, z = s₁.setTop (entryFrame m #[(.ref r0), (.ref r1), (.ref r2)] 5) := ⟨_, rfl⟩
  rw [← hA0] at k0
  have kz : ∀ t, Steps p.tables e below A0 t → Steps p.tables e below (s₁.setTop (entryFrame m #[(.ref r0), (.ref r1), (.ref r2)] 5)) t := fun t q => hA0 ▸ q
  obtain ⟨Ek, Cdk, Fvk, Vk⟩ := hKq
  have Esr := Tr.1
  have Esn := Tn.1
  have ks1 : own_R p e below (A0) (s₁.setTop (mkF m 5 #[vR r0, vR r1, vR r2, vI 0, vI 1] [])) := fun t k => k0 t (by
    refine XS.iconst X0.here hx rfl (hb hby d34_0) ?_
    refine XS.istoreN X0.here hx rfl (hb hby d34_1) rfl (l' := #[vR r0, vR r1, vR r2, vI 0, .unset]) rfl ?_
    refine XS.iconst X0.here hx rfl (hb hby d34_2) ?_
    show Steps p.tables e below (s₁.setTop (mkF m 3 #[vR r0, vR r1, vR r2, vI 0, .unset] [(.int 1)])) _
    refine XS.istore X0.here hx rfl (hb hby d34_3) rfl (l' := #[vR r0, vR r1, vR r2, vI 0, vI 1]) rfl ?_
    exact k)
  have loop : ∀ (d j : Nat) (T0 : State) (L0 : List Loc) (hl : Heap) (fs0 rk : Int32), j + d = kk → rk = Int32.ofNat (j + 1) → own_fr fs0 → Stand p l e (⟨6, 0, 0, 85⟩ : Room) s m #[(.ref r0), (.ref r1), (.ref r2)] below meth c T0 L0 0 0 → T0.heap = hl → Fr n0 L0 → n0 ≤ hl.size → Keep h0 hl [r0, sr, sn] → Fld Z hl r0 "com/example/carved_corpus/carvedcorpus/cli/Evaluation" "relevantAtCutoff" "J" (.long (rel0 + own_sm m1 j)) → Fld Z hl r0 "com/example/carved_corpus/carvedcorpus/cli/Evaluation" "questions" "I" (.int qa) → Fld Z hl r0 "com/example/carved_corpus/carvedcorpus/cli/Evaluation" "reciprocalRanks" "D" (.double rr) → own_T Z hl sr tr ktr yk → own_T Z hl sn tn ktn yn → own_R p e below A0 (T0.setTop (mkF m 5 #[vR r0, vR r1, vR r2, vI fs0, vI rk] [])) → ∃ T' L' h' fs1, own_fr fs1 ∧ Stand p l e (⟨6, 0, 0, 85⟩ : Room) s m #[(.ref r0), (.ref r1), (.ref r2)] below meth c T' L' 0 0 ∧ T'.heap = h' ∧ Fr n0 L' ∧ n0 ≤ h'.size ∧ Keep h0 h' [r0, sr, sn] ∧ Fld Z h' r0 "com/example/carved_corpus/carvedcorpus/cli/Evaluation" "relevantAtCutoff" "J" (.long (rel0 + own_sm m1 kk)) ∧ Fld Z h' r0 "com/example/carved_corpus/carvedcorpus/cli/Evaluation" "questions" "I" (.int qa) ∧ Fld Z h' r0 "com/example/carved_corpus/carvedcorpus/cli/Evaluation" "reciprocalRanks" "D" (.double rr) ∧ own_T Z h' sr tr ktr yk ∧ own_T Z h' sn tn ktn yn ∧ own_R p e below A0 (T'.setTop (mkF m 71 #[vR r0, vR r1, vR r2, vI fs1, vI (Int32.ofNat (kk + 1))] [])) := by
    intro d
    induction d with
    | zero =>
      intro j T0 L0 hl fs0 rk hj hrk hfs Xl el Nl Znl KHl Frl Fql Fdl Trl Tnl kl
      have S9l := own_sta_keepW S9 KHl (allS (own_ns_exa Ev) (allS (own_ns_exa Esr) (allS (own_ns_exa Esn) all0)))
      have hgt : (Int32.ofNat kk) < rk := (own_rkl hrk (by omega) hkk).mpr (by omega)
      have ks2 : own_R p e below (A0) (T0.setTop (mkF m 8 #[vR r0, vR r1, vR r2, vI fs0, vI rk] [(.ref r1), (.int rk)])) := fun t k => kl t (by
        refine XS.iload Xl.here hx rfl (hb hby d34_5) rfl ?_
        refine XS.aloadN Xl.here hx rfl (hb hby d34_7) rfl rfl ?_
        exact k)
      have f4 := Fz1.keep KHl (ninS n_r1_r0 (ninS n_r1_sr (ninS n_r1_sn nin0)))
      have f5 := E1.keep KHl
      obtain ⟨cq3, kq3, q3a, q3b, q3c⟩ := isOf hZ el f5
      obtain ⟨_, _, ⟨T3, L3, k3, n3⟩, -, X3, ⟨Lc3, hQ3, lq3, yq3, zq3⟩, st3⟩ := Xl.interfaceBack hx (xi := Y51) (y := Y42) hown (mvT hZ (own_w hw 225 rfl)) (mvT hZ (own_w hw 226 rfl)) (mvT hZ (own_w hw 227 rfl)) (mvT hZ (own_w hw 228 rfl)) (mvT hZ (own_w hw 229 rfl)) (mvT hZ (own_w hw 230 rfl)) (mvT hZ (own_w hw 231 rfl)) (mvT hZ (own_w hw 232 rfl)) (by decide) (backOf (W := 1) (rm35 l Z a0 hw [] r1 (Int32.ofNat kk) hl n0 Znl f4) hZ (own_w hw 233 rfl) (own_w hw 48 rfl) (by decide) (by decide)) q3a q3b q3c (g := (mkF m 8 #[vR r0, vR r1, vR r2, vI fs0, vI rk] [(.ref r1), (.int rk)])) rfl (by rw [hml]; rfl) (Steps.refl _) (argsL := []) (rest := [(.int rk)]) (lenOf pd_15 rfl) rfl (by show 2 * 0 + _ ≤ _; exact Nat.le_of_eq rfl) (hb hby d34_8) (fun _ _ => ⟨rfl, el, (by decide : 0 + 0 ≤ _), (by decide : 0 + 0 ≤ _)⟩)
      dsimp only [Pt.U, Pt.locs, Pt.cells, Pt.slots] at X3 lq3 yq3 zq3 st3 hQ3
      obtain rfl : k3 = 0 := yq3
      obtain rfl : n3 = 0 := zq3
      obtain ⟨rfl, Nq3, eq3⟩ := hQ3
      have N3 := Fr.app Nl Nq3
      have N3' : Fr n0 L3 := by rw [lq3]; exact N3
      have ks6 := own_ct ks2 st3
      have ks7 : own_R p e below (A0) (T3.setTop (mkF m 71 #[vR r0, vR r1, vR r2, vI fs0, vI rk] [])) := fun t k => ks6 t (by
        refine XS.icmpYes X3.here hx rfl (pc0 := 13) (pc' := 71) rfl (hb hby d34_13) rfl (tlt hgt).2.2.1 (by decide) (by decide) ?_
        exact k)
      have ejk : j = kk := by omega
      exact ⟨_, _, _, fs0, hfs, X3, eq3, N3', Znl, KHl, (by rw [← ejk]; exact Frl), Fql, Fdl, Trl, Tnl, (by rw [← ejk, ← hrk]; exact ks7)⟩
    | succ d ih =>
      intro j T0 L0 hl fs0 rk hj hrk hfs Xl el Nl Znl KHl Frl Fql Fdl Trl Tnl kl
      have S9l := own_sta_keepW S9 KHl (allS (own_ns_exa Ev) (allS (own_ns_exa Esr) (allS (own_ns_exa Esn) all0)))
      have hgt : ¬ (Int32.ofNat kk) < rk := fun q => absurd ((own_rkl hrk (by omega) hkk).mp q) (by omega)
      have ks8 : own_R p e below (A0) (T0.setTop (mkF m 8 #[vR r0, vR r1, vR r2, vI fs0, vI rk] [(.ref r1), (.int rk)])) := fun t k => kl t (by
        refine XS.iload Xl.here hx rfl (hb hby d34_5) rfl ?_
        refine XS.aloadN Xl.here hx rfl (hb hby d34_7) rfl rfl ?_
        exact k)
      have f10 := Fz1.keep KHl (ninS n_r1_r0 (ninS n_r1_sr (ninS n_r1_sn nin0)))
      have f11 := E1.keep KHl
      obtain ⟨cq9, kq9, q9a, q9b, q9c⟩ := isOf hZ el f11
      obtain ⟨_, _, ⟨T9, L9, k9, n9⟩, -, X9, ⟨Lc9, hQ9, lq9, yq9, zq9⟩, st9⟩ := Xl.interfaceBack hx (xi := Y51) (y := Y42) hown (mvT hZ (own_w hw 225 rfl)) (mvT hZ (own_w hw 226 rfl)) (mvT hZ (own_w hw 227 rfl)) (mvT hZ (own_w hw 228 rfl)) (mvT hZ (own_w hw 229 rfl)) (mvT hZ (own_w hw 230 rfl)) (mvT hZ (own_w hw 231 rfl)) (mvT hZ (own_w hw 232 rfl)) (by decide) (backOf (W := 1) (rm35 l Z a0 hw [] r1 (Int32.ofNat kk) hl n0 Znl f10) hZ (own_w hw 233 rfl) (own_w hw 48 rfl) (by decide) (by decide)) q9a q9b q9c (g := (mkF m 8 #[vR r0, vR r1, vR r2, vI fs0, vI rk] [(.ref r1), (.int rk)])) rfl (by rw [hml]; rfl) (Steps.refl _) (argsL := []) (rest := [(.int rk)]) (lenOf pd_15 rfl) rfl (by show 2 * 0 + _ ≤ _; exact Nat.le_of_eq rfl) (hb hby d34_8) (fun _ _ => ⟨rfl, el, (by decide : 0 + 0 ≤ _), (by decide : 0 + 0 ≤ _)⟩)
      dsimp only [Pt.U, Pt.locs, Pt.cells, Pt.slots] at X9 lq9 yq9 zq9 st9 hQ9
      obtain rfl : k9 = 0 := yq9
      obtain rfl : n9 = 0 := zq9
      obtain ⟨rfl, Nq9, eq9⟩ := hQ9
      have N9 := Fr.app Nl Nq9
      have N9' : Fr n0 L9 := by rw [lq9]; exact N9
      have ks12 := own_ct ks8 st9
      have ks13 : own_R p e below (A0) (T9.setTop (mkF m 16 #[vR r0, vR r1, vR r2, vI fs0, vI rk] [])) := fun t k => ks12 t (by
        refine XS.icmpNo X9.here hx rfl (hb hby d34_13) rfl (flt hgt).2.2.1 ?_
        exact k)
      have hp := own_rk1 hrk
      have hjk : j < kk := by omega
      have H0 : ¬ (rk - (1 : Int32)) < (0 : Int32) := by rw [hp]; exact own_i32z (by omega)
      have H1 : (rk - (1 : Int32)) < (Int32.ofNat kk) := by rw [hp]; exact (own_i32r (by omega) (by omega)).mpr hjk
      have Hc : (rk - (1 : Int32)) < cap := by rw [hp]; exact own_capl hcap hjk
      by_cases hbt : own_bt m1 (Int32.ofNat j) = (0 : Int32)
      · skip
        have hv : (own_vs m1 ra na kk).getD (rk - (1 : Int32)).toNatClampNeg .null = .ref na := by rw [hp, own_i32n (by omega), own_vs_get m1 ra na hjk, own_el, if_pos hbt]
        have ks14 : own_R p e below (A0) (T9.setTop (mkF m 22 #[vR r0, vR r1, vR r2, vI fs0, vI rk] [(.int (rk - (1 : Int32))), (.ref r1), (.ref r2)])) := fun t k => ks13 t (by
          refine XS.aloadN X9.here hx rfl (hb hby d34_16) rfl rfl ?_
          refine XS.aloadN X9.here hx rfl (hb hby d34_17) rfl rfl ?_
          refine XS.iload X9.here hx rfl (hb hby d34_18) rfl ?_
          show Steps p.tables e below (T9.setTop (mkF m 20 #[vR r0, vR r1, vR r2, vI fs0, vI rk] [(.int rk), (.ref r1), (.ref r2)])) _
          refine XS.iconst X9.here hx rfl (hb hby d34_20) ?_
          refine XS.isub X9.here hx rfl (hb hby d34_21) rfl ?_
          exact k)
        have f16 := Fe1.keep KHl (ninS n_r1_r0 (ninS n_r1_sr (ninS n_r1_sn nin0)))
        have f17 := Vd.keep KHl (ninS n_ed_r0 (ninS n_ed_sr (ninS n_ed_sn nin0)))
        obtain ⟨cq15, kq15, q15a, q15b, q15c⟩ := isOf hZ eq9 f11
        obtain ⟨_, _, ⟨T15, L15, k15, n15⟩, -, X15, ⟨Lc15, hQ15, lq15, yq15, zq15⟩, st15⟩ := X9.interfaceBack hx (xi := Y52) (y := Y44) hown (mvT hZ (own_w hw 234 rfl)) (mvT hZ (own_w hw 235 rfl)) (mvT hZ (own_w hw 236 rfl)) (mvT hZ (own_w hw 237 rfl)) (mvT hZ (own_w hw 238 rfl)) (mvT hZ (own_w hw 239 rfl)) (mvT hZ (own_w hw 240 rfl)) (mvT hZ (own_w hw 232 rfl)) (by decide) (backOf (W := 1) (rm36 l Z a0 hw [] r1 (rk - (1 : Int32)) ed ked cap (own_vs m1 ra na kk) na (Int32.ofNat kk) hl n0 Znl f11 f16 f17 H0 Hc hv f10 H1) hZ (own_w hw 241 rfl) (own_w hw 48 rfl) (by decide) (by decide)) q15a q15b q15c (g := (mkF m 22 #[vR r0, vR r1, vR r2, vI fs0, vI rk] [(.int (rk - (1 : Int32))), (.ref r1), (.ref r2)])) rfl (by rw [hml]; rfl) (Steps.refl _) (argsL := [(.int (rk - (1 : Int32)))]) (rest := [(.ref r2)]) (lenOf pd_24 rfl) rfl (by show 2 * 0 + _ ≤ _; exact Nat.le_of_eq rfl) (hb hby d34_22) (fun _ _ => ⟨rfl, eq9, (by decide : 0 + 0 ≤ _), (by decide : 0 + 0 ≤ _)⟩)
        dsimp only [Pt.U, Pt.locs, Pt.cells, Pt.slots] at X15 lq15 yq15 zq15 st15 hQ15
        obtain rfl : k15 = 0 := yq15
        obtain rfl : n15 = 0 := zq15
        obtain ⟨rfl, Nq15, eq15⟩ := hQ15
        have N15 := Fr.app N9' Nq15
        have N15' : Fr n0 L15 := by rw [lq15]; exact N15
        have ks18 := own_ct ks14 st15
        have f19 := Ehn.keep KHl
        obtain ⟨T20, X20, e20, st20⟩ := castY X15 hx hZ hown (own_w hw 255 rfl) eq15 (Ins.self f19) (g := (mkF m 27 #[vR r0, vR r1, vR r2, vI fs0, vI rk] [(.ref na), (.ref r2)])) rfl rfl (hb hby d34_27)
        have ks21 := own_c ks18 st20
        have f23 := Fhn.keep KHl (ninS n_na_r0 (ninS n_na_sr (ninS n_na_sn nin0)))
        obtain ⟨cq22, kq22, q22a, q22b, q22c⟩ := isOf hZ e20 f19
        obtain ⟨_, _, ⟨T22, L22, k22, n22⟩, -, X22, ⟨Lc22, hQ22, lq22, yq22, zq22⟩, st22⟩ := X20.virtualBack hx (y := Y47) (z := Y47) hown (mvT hZ (own_w hw 257 rfl)) (mvT hZ (own_w hw 258 rfl)) (notFace_of_selects (args := #[]) (mvT hZ (own_w hw 260 rfl))) (mvT hZ (own_w hw 260 rfl)) (mvT hZ (own_w hw 259 rfl)) (by decide) (backOf (W := 1) (rm40 l Z a0 hw [] na sn hl n0 Znl f23) hZ (own_w hw 261 rfl) (own_w hw 2 rfl) (by decide) (by decide)) q22a q22c (g := (mkF m 30 #[vR r0, vR r1, vR r2, vI fs0, vI rk] [(.ref na), (.ref r2)])) rfl (by rw [hml]; rfl) (Steps.refl _) (argsL := []) (rest := [(.ref r2)]) (lenOf pd_26 rfl) rfl (by show 2 * 0 + _ ≤ _; exact Nat.le_of_eq rfl) (hb hby d34_30) (fun _ _ => ⟨rfl, e20, (by decide : 0 + 0 ≤ _), (by decide : 0 + 0 ≤ _)⟩)
        dsimp only [Pt.U, Pt.locs, Pt.cells, Pt.slots] at X22 lq22 yq22 zq22 st22 hQ22
        obtain rfl : k22 = 0 := yq22
        obtain rfl : n22 = 0 := zq22
        obtain ⟨rfl, Nq22, eq22⟩ := hQ22
        have N22 := Fr.app N15' Nq22
        have N22' : Fr n0 L22 := by rw [lq22]; exact N22
        have ks24 := own_ct ks21 st22
        have f26 := Ek.keep KHl
        have f27 := Cdk.keep KHl (ninS n_sk_r0 (ninS n_sk_sr (ninS n_sk_sn nin0)))
        have f28 := Fvk.keep KHl (ninS n_sk_r0 (ninS n_sk_sr (ninS n_sk_sn nin0)))
        have f29 := Vk.keep KHl (ninS n_tk_r0 (ninS n_tk_sr (ninS n_tk_sn nin0)))
        have f30 := E0.keep KHl
        have f31 := Fp.keep KHl (ninS n_r2_r0 (ninS n_r2_sr (ninS n_r2_sn nin0)))
        have f32 := Ft.keep KHl (ninS n_hm_r0 (ninS n_hm_sr (ninS n_hm_sn nin0)))
        have f33 := Va.keep KHl (ninS n_tab_r0 (ninS n_tab_sr (ninS n_tab_sn nin0)))
        have f34 := En.keep KHl
        have f35 := Fh.keep KHl (ninS n_nd_r0 (ninS n_nd_sr (ninS n_nd_sn nin0)))
        have f36 := Fk.keep KHl (ninS n_nd_r0 (ninS n_nd_sr (ninS n_nd_sn nin0)))
        have f37 := Es.keep KHl
        obtain ⟨cq25, kq25, q25a, q25b, q25c⟩ := isOf hZ eq22 f37
        obtain ⟨_, _, ⟨T25, L25, k25, n25⟩, -, X25, ⟨Lc25, hQ25, lq25, yq25, zq25⟩, st25⟩ := X22.interfaceBack hx (xi := Y53) (y := Y39) hown (mvT hZ (own_w hw 262 rfl)) (mvT hZ (own_w hw 263 rfl)) (mvT hZ (own_w hw 264 rfl)) (mvT hZ (own_w hw 265 rfl)) (mvT hZ (own_w hw 266 rfl)) (mvT hZ (own_w hw 267 rfl)) (mvT hZ (own_w hw 268 rfl)) (mvT hZ (own_w hw 269 rfl)) (by decide) (backOf (W := 0) (rm41_m l Z a0 hw [] r2 sn hm y9 tab ktb nd sk tk ktk yk tn ktn yn hl n0 Znl f30 f31 S9l P9 f32 f33 f34 f35 f36 ⟨f26, f27, f28, f29⟩ Tnl g_sn n_hm_sn n_tab_sn n_nd_sn n_sk_sn n_tk_sn hne) hZ (own_w hw 270 rfl) (own_w hw 105 rfl) (by decide) (by decide)) q25a q25b q25c (g := (mkF m 33 #[vR r0, vR r1, vR r2, vI fs0, vI rk] [(.ref sn), (.ref r2)])) rfl (by rw [hml]; rfl) (Steps.refl _) (argsL := [(.ref sn)]) (rest := []) (lenOf pd_9 rfl) rfl (by show 2 * 0 + _ ≤ _; exact Nat.le_of_eq rfl) (hb hby d34_33) (fun _ _ => ⟨rfl, eq22, (by decide : 0 + 0 ≤ _), (by decide : 0 + 0 ≤ _)⟩)
        dsimp only [Pt.U, Pt.locs, Pt.cells, Pt.slots] at X25 lq25 yq25 zq25 st25 hQ25
        obtain rfl : k25 = 0 := yq25
        obtain rfl : n25 = 0 := zq25
        have f38 := Esn.keep KHl
        obtain ⟨rfl, Nq25, Kq25, Tq25⟩ := hQ25
        have N25 := Fr.app N22' Nq25
        have KH25 : Keep h0 T25.heap [r0, sr, sn] := KHl.trans Kq25 (allS (Or.inl (List.mem_of_getElem? (i := 2) rfl)) all0)
        have Zn25 : n0 ≤ T25.heap.size := Nat.le_trans Znl Kq25.1
        have N25' : Fr n0 L25 := by rw [lq25]; exact N25
        have ks39 := own_ct ks24 st25
        have ks40 : own_R p e below (A0) (T25.setTop (mkF m 5 #[vR r0, vR r1, vR r2, vI fs0, vI (rk + (1 : Int32))] [])) := fun t k => ks39 t (by
          refine XS.ifYes X25.here hx rfl (pc0 := 38) (pc' := 65) rfl (hb hby d34_38) rfl ((if0 _ _).trans (teq (by decide)).1) (by decide) (by decide) ?_
          refine XS.iinc X25.here hx rfl (hb hby d34_65) rfl (l' := #[vR r0, vR r1, vR r2, vI fs0, vI (rk + (1 : Int32))]) rfl ?_
          refine XS.goto X25.here hx rfl (pc0 := 68) (pc' := 5) rfl (hb hby d34_68) (by decide) (by decide) ?_
          exact k)
        have f41 := (Frl.keep Kq25 (ninS (Ne.symm n_sn_r0) nin0))
        have f42 := (Fql.keep Kq25 (ninS (Ne.symm n_sn_r0) nin0))
        have f43 := (Fdl.keep Kq25 (ninS (Ne.symm n_sn_r0) nin0))
        have Tk44 := own_T_keep Trl Kq25 (ninS (Ne.symm n_sn_sr) nin0) (ninS n_tr_sn nin0)
        have Fr' : Fld Z T25.heap r0 "com/example/carved_corpus/carvedcorpus/cli/Evaluation" "relevantAtCutoff" "J" (.long (rel0 + own_sm m1 (j + 1))) := by rw [own_sm0 hbt]; exact f41
        exact ih (j + 1) _ _ _ fs0 (rk + (1 : Int32)) (by omega) (by rw [hrk]; exact own_szs.symm) hfs X25 rfl N25' Zn25 KH25 Fr' f42 f43 Tk44 Tq25 ks40
      · skip
        have hv : (own_vs m1 ra na kk).getD (rk - (1 : Int32)).toNatClampNeg .null = .ref ra := by rw [hp, own_i32n (by omega), own_vs_get m1 ra na hjk, own_el, if_neg hbt]
        have ks45 : own_R p e below (A0) (T9.setTop (mkF m 22 #[vR r0, vR r1, vR r2, vI fs0, vI rk] [(.int (rk - (1 : Int32))), (.ref r1), (.ref r2)])) := fun t k => ks13 t (by
          refine XS.aloadN X9.here hx rfl (hb hby d34_16) rfl rfl ?_
          refine XS.aloadN X9.here hx rfl (hb hby d34_17) rfl rfl ?_
          refine XS.iload X9.here hx rfl (hb hby d34_18) rfl ?_
          show Steps p.tables e below (T9.setTop (mkF m 20 #[vR r0, vR r1, vR r2, vI fs0, vI rk] [(.int rk), (.ref r1), (.ref r2)])) _
          refine XS.iconst X9.here hx rfl (hb hby d34_20) ?_
          refine XS.isub X9.here hx rfl (hb hby d34_21) rfl ?_
          exact k)
        have f47 := Fe1.keep KHl (ninS n_r1_r0 (ninS n_r1_sr (ninS n_r1_sn nin0)))
        have f48 := Vd.keep KHl (ninS n_ed_r0 (ninS n_ed_sr (ninS n_ed_sn nin0)))
        obtain ⟨cq46, kq46, q46a, q46b, q46c⟩ := isOf hZ eq9 f11
        obtain ⟨_, _, ⟨T46, L46, k46, n46⟩, -, X46, ⟨Lc46, hQ46, lq46, yq46, zq46⟩, st46⟩ := X9.interfaceBack hx (xi := Y52) (y := Y44) hown (mvT hZ (own_w hw 234 rfl)) (mvT hZ (own_w hw 235 rfl)) (mvT hZ (own_w hw 236 rfl)) (mvT hZ (own_w hw 237 rfl)) (mvT hZ (own_w hw 238 rfl)) (mvT hZ (own_w hw 239 rfl)) (mvT hZ (own_w hw 240 rfl)) (mvT hZ (own_w hw 232 rfl)) (by decide) (backOf (W := 1) (rm36 l Z a0 hw [] r1 (rk - (1 : Int32)) ed ked cap (own_vs m1 ra na kk) ra (Int32.ofNat kk) hl n0 Znl f11 f47 f48 H0 Hc hv f10 H1) hZ (own_w hw 241 rfl) (own_w hw 48 rfl) (by decide) (by decide)) q46a q46b q46c (g := (mkF m 22 #[vR r0, vR r1, vR r2, vI fs0, vI rk] [(.int (rk - (1 : Int32))), (.ref r1), (.ref r2)])) rfl (by rw [hml]; rfl) (Steps.refl _) (argsL := [(.int (rk - (1 : Int32)))]) (rest := [(.ref r2)]) (lenOf pd_24 rfl) rfl (by show 2 * 0 + _ ≤ _; exact Nat.le_of_eq rfl) (hb hby d34_22) (fun _ _ => ⟨rfl, eq9, (by decide : 0 + 0 ≤ _), (by decide : 0 + 0 ≤ _)⟩)
        dsimp only [Pt.U, Pt.locs, Pt.cells, Pt.slots] at X46 lq46 yq46 zq46 st46 hQ46
        obtain rfl : k46 = 0 := yq46
        obtain rfl : n46 = 0 := zq46
        obtain ⟨rfl, Nq46, eq46⟩ := hQ46
        have N46 := Fr.app N9' Nq46
        have N46' : Fr n0 L46 := by rw [lq46]; exact N46
        have ks49 := own_ct ks45 st46
        have f50 := Ehr.keep KHl
        obtain ⟨T51, X51, e51, st51⟩ := castY X46 hx hZ hown (own_w hw 255 rfl) eq46 (Ins.self f50) (g := (mkF m 27 #[vR r0, vR r1, vR r2, vI fs0, vI rk] [(.ref ra), (.ref r2)])) rfl rfl (hb hby d34_27)
        have ks52 := own_c ks49 st51
        have f54 := Fhr.keep KHl (ninS n_ra_r0 (ninS n_ra_sr (ninS n_ra_sn nin0)))
        obtain ⟨cq53, kq53, q53a, q53b, q53c⟩ := isOf hZ e51 f50
        obtain ⟨_, _, ⟨T53, L53, k53, n53⟩, -, X53, ⟨Lc53, hQ53, lq53, yq53, zq53⟩, st53⟩ := X51.virtualBack hx (y := Y47) (z := Y47) hown (mvT hZ (own_w hw 257 rfl)) (mvT hZ (own_w hw 258 rfl)) (notFace_of_selects (args := #[]) (mvT hZ (own_w hw 260 rfl))) (mvT hZ (own_w hw 260 rfl)) (mvT hZ (own_w hw 259 rfl)) (by decide) (backOf (W := 1) (rm40 l Z a0 hw [] ra sr hl n0 Znl f54) hZ (own_w hw 261 rfl) (own_w hw 2 rfl) (by decide) (by decide)) q53a q53c (g := (mkF m 30 #[vR r0, vR r1, vR r2, vI fs0, vI rk] [(.ref ra), (.ref r2)])) rfl (by rw [hml]; rfl) (Steps.refl _) (argsL := []) (rest := [(.ref r2)]) (lenOf pd_26 rfl) rfl (by show 2 * 0 + _ ≤ _; exact Nat.le_of_eq rfl) (hb hby d34_30) (fun _ _ => ⟨rfl, e51, (by decide : 0 + 0 ≤ _), (by decide : 0 + 0 ≤ _)⟩)
        dsimp only [Pt.U, Pt.locs, Pt.cells, Pt.slots] at X53 lq53 yq53 zq53 st53 hQ53
        obtain rfl : k53 = 0 := yq53
        obtain rfl : n53 = 0 := zq53
        obtain ⟨rfl, Nq53, eq53⟩ := hQ53
        have N53 := Fr.app N46' Nq53
        have N53' : Fr n0 L53 := by rw [lq53]; exact N53
        have ks55 := own_ct ks52 st53
        have f57 := Ek.keep KHl
        have f58 := Cdk.keep KHl (ninS n_sk_r0 (ninS n_sk_sr (ninS n_sk_sn nin0)))
        have f59 := Fvk.keep KHl (ninS n_sk_r0 (ninS n_sk_sr (ninS n_sk_sn nin0)))
        have f60 := Vk.keep KHl (ninS n_tk_r0 (ninS n_tk_sr (ninS n_tk_sn nin0)))
        have f61 := E0.keep KHl
        have f62 := Fp.keep KHl (ninS n_r2_r0 (ninS n_r2_sr (ninS n_r2_sn nin0)))
        have f63 := Ft.keep KHl (ninS n_hm_r0 (ninS n_hm_sr (ninS n_hm_sn nin0)))
        have f64 := Va.keep KHl (ninS n_tab_r0 (ninS n_tab_sr (ninS n_tab_sn nin0)))
        have f65 := En.keep KHl
        have f66 := Fh.keep KHl (ninS n_nd_r0 (ninS n_nd_sr (ninS n_nd_sn nin0)))
        have f67 := Fk.keep KHl (ninS n_nd_r0 (ninS n_nd_sr (ninS n_nd_sn nin0)))
        have f68 := Es.keep KHl
        obtain ⟨cq56, kq56, q56a, q56b, q56c⟩ := isOf hZ eq53 f68
        obtain ⟨_, _, ⟨T56, L56, k56, n56⟩, -, X56, ⟨Lc56, hQ56, lq56, yq56, zq56⟩, st56⟩ := X53.interfaceBack hx (xi := Y53) (y := Y39) hown (mvT hZ (own_w hw 262 rfl)) (mvT hZ (own_w hw 263 rfl)) (mvT hZ (own_w hw 264 rfl)) (mvT hZ (own_w hw 265 rfl)) (mvT hZ (own_w hw 266 rfl)) (mvT hZ (own_w hw 267 rfl)) (mvT hZ (own_w hw 268 rfl)) (mvT hZ (own_w hw 269 rfl)) (by decide) (backOf (W := 0) (rm41_h l Z a0 hw [] r2 sr hm y9 tab ktb nd sk tk ktk yk tr ktr hl n0 Znl f61 f62 S9l P9 f63 f64 f65 f66 f67 ⟨f57, f58, f59, f60⟩ Trl g_sr n_hm_sr n_tab_sr n_nd_sr n_sk_sr n_tk_sr) hZ (own_w hw 270 rfl) (own_w hw 105 rfl) (by decide) (by decide)) q56a q56b q56c (g := (mkF m 33 #[vR r0, vR r1, vR r2, vI fs0, vI rk] [(.ref sr), (.ref r2)])) rfl (by rw [hml]; rfl) (Steps.refl _) (argsL := [(.ref sr)]) (rest := []) (lenOf pd_9 rfl) rfl (by show 2 * 0 + _ ≤ _; exact Nat.le_of_eq rfl) (hb hby d34_33) (fun _ _ => ⟨rfl, eq53, (by decide : 0 + 0 ≤ _), (by decide : 0 + 0 ≤ _)⟩)
        dsimp only [Pt.U, Pt.locs, Pt.cells, Pt.slots] at X56 lq56 yq56 zq56 st56 hQ56
        obtain rfl : k56 = 0 := yq56
        obtain rfl : n56 = 0 := zq56
        have f69 := Esr.keep KHl
        obtain ⟨rfl, Nq56, Kq56, Tq56⟩ := hQ56
        have N56 := Fr.app N53' Nq56
        have KH56 : Keep h0 T56.heap [r0, sr, sn] := KHl.trans Kq56 (allS (Or.inl (List.mem_of_getElem? (i := 1) rfl)) all0)
        have Zn56 : n0 ≤ T56.heap.size := Nat.le_trans Znl Kq56.1
        have N56' : Fr n0 L56 := by rw [lq56]; exact N56
        have ks70 := own_ct ks55 st56
        have ks71 : own_R p e below (A0) (T56.setTop (mkF m 45 #[vR r0, vR r1, vR r2, vI fs0, vI rk] [(.int 20), (.int rk)])) := fun t k => ks70 t (by
          refine XS.ifNo X56.here hx rfl (hb hby d34_38) rfl ((if0 _ _).trans (feq (by decide)).1) ?_
          refine XS.iload X56.here hx rfl (hb hby d34_41) rfl ?_
          refine XS.bipush X56.here hx rfl (hb hby d34_43) ?_
          exact k)
        by_cases hc72 : (20 : Int32) < rk
        · skip
          have ks75 : own_R p e below (A0) (T56.setTop (mkF m 59 #[vR r0, vR r1, vR r2, vI fs0, vI rk] [(.int fs0)])) := fun t k => ks71 t (by
            refine XS.icmpYes X56.here hx rfl (pc0 := 45) (pc' := 58) rfl (hb hby d34_45) rfl (tlt hc72).2.2.1 (by decide) (by decide) ?_
            refine XS.iloadN X56.here hx rfl (hb hby d34_58) rfl ?_
            exact k)
          obtain ⟨v74, hv74⟩ : ∃ z : Int32, z = (if fs0 = (0 : Int32) then rk else fs0) := ⟨_, rfl⟩
          have ks76 : own_R p e below (A0) (T56.setTop (mkF m 65 #[vR r0, vR r1, vR r2, vI v74, vI rk] [])) := fun t k => ks75 t (by
            by_cases hc73 : fs0 = (0 : Int32)
            · skip
              have qq77 : v74 = rk := by rw [hv74, if_pos hc73]
              rw [qq77] at k
              refine XS.ifNo X56.here hx rfl (hb hby d34_59) rfl ((if0 _ _).trans (teq hc73).2) ?_
              refine XS.iload X56.here hx rfl (hb hby d34_62) rfl ?_
              refine XS.istoreN X56.here hx rfl (hb hby d34_64) rfl (l' := #[vR r0, vR r1, vR r2, vI rk, vI rk]) rfl ?_
              exact k
            · skip
              have qq78 : v74 = fs0 := by rw [hv74, if_neg hc73]
              rw [qq78] at k
              refine XS.ifYes X56.here hx rfl (pc0 := 59) (pc' := 65) rfl (hb hby d34_59) rfl ((if0 _ _).trans (feq hc73).2) (by decide) (by decide) ?_
              exact k)
          have ks79 : own_R p e below (A0) (T56.setTop (mkF m 5 #[vR r0, vR r1, vR r2, vI v74, vI (rk + (1 : Int32))] [])) := fun t k => ks76 t (by
            refine XS.iinc X56.here hx rfl (hb hby d34_65) rfl (l' := #[vR r0, vR r1, vR r2, vI v74, vI (rk + (1 : Int32))]) rfl ?_
            refine XS.goto X56.here hx rfl (pc0 := 68) (pc' := 5) rfl (hb hby d34_68) (by decide) (by decide) ?_
            exact k)
          have f80 := (Frl.keep Kq56 (ninS (Ne.symm n_sr_r0) nin0))
          have f81 := (Fql.keep Kq56 (ninS (Ne.symm n_sr_r0) nin0))
          have f82 := (Fdl.keep Kq56 (ninS (Ne.symm n_sr_r0) nin0))
          have Tk83 := own_T_keep Tnl Kq56 (ninS n_sn_sr nin0) (ninS n_tn_sr nin0)
          have h20 : ¬ j < 20 := by have := (own_rkl (kk := 20) hrk (by omega) (by omega)).mp hc72; omega
          have Fr' : Fld Z T56.heap r0 "com/example/carved_corpus/carvedcorpus/cli/Evaluation" "relevantAtCutoff" "J" (.long (rel0 + own_sm m1 (j + 1))) := by rw [own_sm2 hbt h20]; exact f80
          have hfs' : own_fr v74 := by rw [hv74]; split; exact ⟨⟨j + 1, by omega⟩, hrk⟩; exact hfs
          exact ih (j + 1) _ _ _ v74 (rk + (1 : Int32)) (by omega) (by rw [hrk]; exact own_szs.symm) hfs' X56 rfl N56' Zn56 KH56 Fr' f81 f82 Tq56 Tk83 ks79
        · skip
          have ks84 : own_R p e below (A0) (T56.setTop (mkF m 50 #[vR r0, vR r1, vR r2, vI fs0, vI rk] [(.ref r0), (.ref r0)])) := fun t k => ks71 t (by
            refine XS.icmpNo X56.here hx rfl (hb hby d34_45) rfl (flt hc72).2.2.1 ?_
            refine XS.aloadN X56.here hx rfl (hb hby d34_48) rfl rfl ?_
            refine XS.dup X56.here hx rfl (hb hby d34_49) rfl rfl ?_
            exact k)
          have f85 := (Frl.keep Kq56 (ninS (Ne.symm n_sr_r0) nin0))
          obtain ⟨T86, X86, e86, st86⟩ := getF X56 hx hZ hown (host := "") (Or.inl (own_w hw 294 rfl)) Via.refl rfl f85 (g := (mkF m 50 #[vR r0, vR r1, vR r2, vI fs0, vI rk] [(.ref r0), (.ref r0)])) rfl rfl (hb hby d34_50)
          have ks87 := own_c ks84 st86
          have ks88 : own_R p e below (A0) (T86.setTop (mkF m 55 #[vR r0, vR r1, vR r2, vI fs0, vI rk] [(.long ((rel0 + own_sm m1 j) + (1 : Int64))), (.ref r0)])) := fun t k => ks87 t (by
            refine XS.lconst X86.here hx rfl (hb hby d34_53) ?_
            refine XS.ladd X86.here hx rfl (hb hby d34_54) rfl ?_
            exact k)
          have f89 := Ev.keep KH56
          obtain ⟨T90, h90, X90, e90, W90, st90⟩ := putF X86 hx hZ hown (host := "") (Or.inl (own_w hw 294 rfl)) Via.refl e86 f85 f89 (Or.inl (own_w hw 295 rfl)) (own_w hw 214 rfl) (ty := .long) (by decide) rfl rfl (g := (mkF m 55 #[vR r0, vR r1, vR r2, vI fs0, vI rk] [(.long ((rel0 + own_sm m1 j) + (1 : Int64))), (.ref r0)])) rfl rfl (hb hby d34_55)
          have Fw90 := f85.same W90
          have KH90 : Keep h0 h90 [r0, sr, sn] := KH56.wr W90 (Or.inl (List.mem_of_getElem? (i := 0) rfl))
          have Zn90 : n0 ≤ h90.size := Nat.le_trans Zn56 (Keep.of_wr W90).1
          have N90 := Fr.snoc X90 N56' g_r0
          have ks91 := own_c ks88 st90
          have ks94 : own_R p e below (A0) (T90.setTop (mkF m 59 #[vR r0, vR r1, vR r2, vI fs0, vI rk] [(.int fs0)])) := fun t k => ks91 t (by
            refine XS.iloadN X90.here hx rfl (hb hby d34_58) rfl ?_
            exact k)
          obtain ⟨v93, hv93⟩ : ∃ z : Int32, z = (if fs0 = (0 : Int32) then rk else fs0) := ⟨_, rfl⟩
          have ks95 : own_R p e below (A0) (T90.setTop (mkF m 65 #[vR r0, vR r1, vR r2, vI v93, vI rk] [])) := fun t k => ks94 t (by
            by_cases hc92 : fs0 = (0 : Int32)
            · skip
              have qq96 : v93 = rk := by rw [hv93, if_pos hc92]
              rw [qq96] at k
              refine XS.ifNo X90.here hx rfl (hb hby d34_59) rfl ((if0 _ _).trans (teq hc92).2) ?_
              refine XS.iload X90.here hx rfl (hb hby d34_62) rfl ?_
              refine XS.istoreN X90.here hx rfl (hb hby d34_64) rfl (l' := #[vR r0, vR r1, vR r2, vI rk, vI rk]) rfl ?_
              exact k
            · skip
              have qq97 : v93 = fs0 := by rw [hv93, if_neg hc92]
              rw [qq97] at k
              refine XS.ifYes X90.here hx rfl (pc0 := 59) (pc' := 65) rfl (hb hby d34_59) rfl ((if0 _ _).trans (feq hc92).2) (by decide) (by decide) ?_
              exact k)
          have ks98 : own_R p e below (A0) (T90.setTop (mkF m 5 #[vR r0, vR r1, vR r2, vI v93, vI (rk + (1 : Int32))] [])) := fun t k => ks95 t (by
            refine XS.iinc X90.here hx rfl (hb hby d34_65) rfl (l' := #[vR r0, vR r1, vR r2, vI v93, vI (rk + (1 : Int32))]) rfl ?_
            refine XS.goto X90.here hx rfl (pc0 := 68) (pc' := 5) rfl (hb hby d34_68) (by decide) (by decide) ?_
            exact k)
          have f99 := ((Fql.keep Kq56 (ninS (Ne.symm n_sr_r0) nin0)).other W90 (Or.inr (slot_ne (Or.inl (own_w hw 282 rfl)) (Or.inl (own_w hw 295 rfl)) (by decide) (t := .int) (t' := .long) (by decide) (by decide))))
          have f100 := ((Fdl.keep Kq56 (ninS (Ne.symm n_sr_r0) nin0)).other W90 (Or.inr (slot_ne (Or.inl (own_w hw 308 rfl)) (Or.inl (own_w hw 295 rfl)) (by decide) (t := .double) (t' := .long) (by decide) (by decide))))
          have Tk101 := own_T_keep Tq56 (Keep.of_wr W90) (ninS n_sr_r0 nin0) (ninS n_tr_r0 nin0)
          have Tk102 := own_T_keep Tnl Kq56 (ninS n_sn_sr nin0) (ninS n_tn_sr nin0)
          have Tk103 := own_T_keep Tk102 (Keep.of_wr W90) (ninS n_sn_r0 nin0) (ninS n_tn_r0 nin0)
          have h20 : j < 20 := by have := mt (own_rkl (kk := 20) hrk (by omega) (by omega)).mpr hc72; omega
          have Fr' : Fld Z h90 r0 "com/example/carved_corpus/carvedcorpus/cli/Evaluation" "relevantAtCutoff" "J" (.long (rel0 + own_sm m1 (j + 1))) := by rw [own_sm1 hbt h20, ← Int64.add_assoc]; exact Fw90
          have hfs' : own_fr v93 := by rw [hv93]; split; exact ⟨⟨j + 1, by omega⟩, hrk⟩; exact hfs
          exact ih (j + 1) _ _ _ v93 (rk + (1 : Int32)) (by omega) (by rw [hrk]; exact own_szs.symm) hfs' X90 e90 N90 Zn90 KH90 Fr' f99 f100 Tk101 Tk103 ks98
  obtain ⟨T71, L71, h71, fs1, hfs1, X71, e71, N71, Zn71, KH71, Fr71, Fq71, Fd71, Tr71, Tn71, K71⟩ := loop kk 0 _ _ _ 0 1 (Nat.zero_add kk) rfl ⟨0, rfl⟩ X0 e0 N0 Z0 (Keep.refl h0 [r0, sr, sn]) (by rw [show own_sm m1 0 = 0 from rfl, Int64.add_zero]; exact Fra) Fq Frr Tr Tn ks1
  rw [hrel] at Fr71
  have ks104 : own_R p e below (A0) (T71.setTop (mkF m 73 #[vR r0, vR r1, vR r2, vI fs1, vI (Int32.ofNat (kk + 1))] [(.ref r0), (.ref r0)])) := fun t k => K71 t (by
    refine XS.aloadN X71.here hx rfl (hb hby d34_71) rfl rfl ?_
    refine XS.dup X71.here hx rfl (hb hby d34_72) rfl rfl ?_
    exact k)
  obtain ⟨T105, X105, e105, st105⟩ := getF X71 hx hZ hown (host := "") (Or.inl (own_w hw 281 rfl)) Via.refl e71 Fq71 (g := (mkF m 73 #[vR r0, vR r1, vR r2, vI fs1, vI (Int32.ofNat (kk + 1))] [(.ref r0), (.ref r0)])) rfl rfl (hb hby d34_73)
  have ks106 := own_c ks104 st105
  have ks107 : own_R p e below (A0) (T105.setTop (mkF m 78 #[vR r0, vR r1, vR r2, vI fs1, vI (Int32.ofNat (kk + 1))] [(.int (qa + (1 : Int32))), (.ref r0)])) := fun t k => ks106 t (by
    refine XS.iconst X105.here hx rfl (hb hby d34_76) ?_
    refine XS.iadd X105.here hx rfl (hb hby d34_77) rfl ?_
    exact k)
  have f108 := Ev.keep KH71
  obtain ⟨T109, h109, X109, e109, W109, st109⟩ := putF X105 hx hZ hown (host := "") (Or.inl (own_w hw 281 rfl)) Via.refl e105 Fq71 f108 (Or.inl (own_w hw 282 rfl)) (own_w hw 214 rfl) (ty := .int) (by decide) rfl rfl (g := (mkF m 78 #[vR r0, vR r1, vR r2, vI fs1, vI (Int32.ofNat (kk + 1))] [(.int (qa + (1 : Int32))), (.ref r0)])) rfl rfl (hb hby d34_78)
  have Fw109 := Fq71.same W109
  have KH109 : Keep h0 h109 [r0, sr, sn] := KH71.wr W109 (Or.inl (List.mem_of_getElem? (i := 0) rfl))
  have Zn109 : n0 ≤ h109.size := Nat.le_trans Zn71 (Keep.of_wr W109).1
  have N109 := Fr.snoc X109 N71 g_r0
  have ks110 := own_c ks107 st109
  have ks111 : own_R p e below (A0) (T109.setTop (mkF m 82 #[vR r0, vR r1, vR r2, vI fs1, vI (Int32.ofNat (kk + 1))] [(.int fs1)])) := fun t k => ks110 t (by
    refine XS.iloadN X109.here hx rfl (hb hby d34_81) rfl ?_
    exact k)
  by_cases hc112 : (0 : Int32) < fs1
  · skip
    have ks113 : own_R p e below (A0) (T109.setTop (mkF m 87 #[vR r0, vR r1, vR r2, vI fs1, vI (Int32.ofNat (kk + 1))] [(.ref r0), (.ref r0)])) := fun t k => ks111 t (by
      refine XS.ifNo X109.here hx rfl (hb hby d34_82) rfl ((if0 _ _).trans (tlt hc112).2.2.2) ?_
      refine XS.aloadN X109.here hx rfl (hb hby d34_85) rfl rfl ?_
      refine XS.dup X109.here hx rfl (hb hby d34_86) rfl rfl ?_
      exact k)
    have f114 := (Fd71.other W109 (Or.inr (slot_ne (Or.inl (own_w hw 308 rfl)) (Or.inl (own_w hw 282 rfl)) (by decide) (t := .double) (t' := .int) (by decide) (by decide))))
    obtain ⟨T115, X115, e115, st115⟩ := getF X109 hx hZ hown (host := "") (Or.inl (own_w hw 307 rfl)) Via.refl e109 f114 (g := (mkF m 87 #[vR r0, vR r1, vR r2, vI fs1, vI (Int32.ofNat (kk + 1))] [(.ref r0), (.ref r0)])) rfl rfl (hb hby d34_87)
    have ks116 := own_c ks113 st115
    have ks117 : own_R p e below (A0) (T115.setTop (mkF m 95 #[vR r0, vR r1, vR r2, vI fs1, vI (Int32.ofNat (kk + 1))] [(.double (FP.dadd rr (FP.ddiv FP.dconst1 (FP.i2d fs1)))), (.ref r0)])) := fun t k => ks116 t (by
      refine XS.dconst1 X115.here hx rfl (hb hby d34_90) rfl ?_
      refine XS.iloadN X115.here hx rfl (hb hby d34_91) rfl ?_
      refine XS.i2dS X115.here hx rfl (hb hby d34_92) rfl rfl ?_
      show Steps p.tables e below (T115.setTop (mkF m 93 #[vR r0, vR r1, vR r2, vI fs1, vI (Int32.ofNat (kk + 1))] [(.double (FP.i2d fs1)), (.double FP.dconst1), (.double rr), (.ref r0)])) _
      refine XS.ddivS X115.here hx rfl (hb hby d34_93) rfl (own_q1 hfs1 hc112).noNaN rfl ?_
      refine XS.daddS X115.here hx rfl (hb hby d34_94) rfl (Jvm.Free.Fl.dadd_out hrr (own_q1 hfs1 hc112)) rfl ?_
      exact k)
    have f118 := Ev.keep KH109
    obtain ⟨T119, h119, X119, e119, W119, st119⟩ := putF X115 hx hZ hown (host := "") (Or.inl (own_w hw 307 rfl)) Via.refl e115 f114 f118 (Or.inl (own_w hw 308 rfl)) (own_w hw 214 rfl) (ty := .double) (by decide) rfl rfl (g := (mkF m 95 #[vR r0, vR r1, vR r2, vI fs1, vI (Int32.ofNat (kk + 1))] [(.double (FP.dadd rr (FP.ddiv FP.dconst1 (FP.i2d fs1)))), (.ref r0)])) rfl rfl (hb hby d34_95)
    have Fw119 := f114.same W119
    have KH119 : Keep h0 h119 [r0, sr, sn] := KH109.wr W119 (Or.inl (List.mem_of_getElem? (i := 0) rfl))
    have Zn119 : n0 ≤ h119.size := Nat.le_trans Zn109 (Keep.of_wr W119).1
    have N119 := Fr.snoc X119 N109 g_r0
    have ks120 := own_c ks117 st119
    obtain ⟨fs, hr, hrun, hended, hW, hsame⟩ := X119.leave (v := none) (fun _ => rfl) hlk
    refine ⟨_, _, kz _ (ks120 _ ?_), hrun, hended, _, _, rfl, ?_, ⟨_, rfl⟩, hW, hsame.mono (by decide) (by decide)⟩
    · exact X119.returnOut hx Bd.returns (hb hby d34_98) hr
    · show Q34_R Z r0 r1 r2 y9 ed ked cap m1 kk ra na sr sn tr ktr tn ktn yn hm tab ktb nd sk tk ktk yk rel0 rel1 qa qb rr h0 n0 _ T119.heap _
      rw [e119]
      have Tk121 := own_T_keep Tr71 (Keep.of_wr W109) (ninS n_sr_r0 nin0) (ninS n_tr_r0 nin0)
      have Tk122 := own_T_keep Tk121 (Keep.of_wr W119) (ninS n_sr_r0 nin0) (ninS n_tr_r0 nin0)
      have Tk123 := own_T_keep Tn71 (Keep.of_wr W109) (ninS n_sn_r0 nin0) (ninS n_tn_r0 nin0)
      have Tk124 := own_T_keep Tk123 (Keep.of_wr W119) (ninS n_sn_r0 nin0) (ninS n_tn_r0 nin0)
      have f125 := ((Fr71.other W109 (Or.inr (slot_ne (Or.inl (own_w hw 295 rfl)) (Or.inl (own_w hw 282 rfl)) (by decide) (t := .long) (t' := .int) (by decide) (by decide)))).other W119 (Or.inr (slot_ne (Or.inl (own_w hw 295 rfl)) (Or.inl (own_w hw 308 rfl)) (by decide) (t := .long) (t' := .double) (by decide) (by decide))))
      have f126 := (Fw109.other W119 (Or.inr (slot_ne (Or.inl (own_w hw 282 rfl)) (Or.inl (own_w hw 308 rfl)) (by decide) (t := .int) (t' := .double) (by decide) (by decide))))
      exact ⟨rfl, N119, KH119, Tk122, Tk124, f125, (by rw [← hq1]; exact f126), _, Fw119, (Jvm.Free.Fl.dadd_out hrr (own_q1 hfs1 hc112))⟩
  · skip
    have ks127 : own_R p e below (A0) (T109.setTop (mkF m 98 #[vR r0, vR r1, vR r2, vI fs1, vI (Int32.ofNat (kk + 1))] [])) := fun t k => ks111 t (by
      refine XS.ifYes X109.here hx rfl (pc0 := 82) (pc' := 98) rfl (hb hby d34_82) rfl ((if0 _ _).trans (flt hc112).2.2.2) (by decide) (by decide) ?_
      exact k)
    obtain ⟨fs, hr, hrun, hended, hW, hsame⟩ := X109.leave (v := none) (fun _ => rfl) hlk
    refine ⟨_, _, kz _ (ks127 _ ?_), hrun, hended, _, _, rfl, ?_, ⟨_, rfl⟩, hW, hsame.mono (by decide) (by decide)⟩
    · exact X109.returnOut hx Bd.returns (hb hby d34_98) hr
    · show Q34_R Z r0 r1 r2 y9 ed ked cap m1 kk ra na sr sn tr ktr tn ktn yn hm tab ktb nd sk tk ktk yk rel0 rel1 qa qb rr h0 n0 _ T109.heap _
      rw [e109]
      have Tk128 := own_T_keep Tr71 (Keep.of_wr W109) (ninS n_sr_r0 nin0) (ninS n_tr_r0 nin0)
      have Tk129 := own_T_keep Tn71 (Keep.of_wr W109) (ninS n_sn_r0 nin0) (ninS n_tn_r0 nin0)
      have f130 := (Fr71.other W109 (Or.inr (slot_ne (Or.inl (own_w hw 295 rfl)) (Or.inl (own_w hw 282 rfl)) (by decide) (t := .long) (t' := .int) (by decide) (by decide))))
      have f131 := (Fd71.other W109 (Or.inr (slot_ne (Or.inl (own_w hw 308 rfl)) (Or.inl (own_w hw 282 rfl)) (by decide) (t := .double) (t' := .int) (by decide) (by decide))))
      exact ⟨rfl, N109, KH109, Tk128, Tk129, f130, (by rw [← hq1]; exact Fw109), _, f131, hrr⟩
theorem ef_34_E (m : MethodId) (x0 : Addr) (x1 : Addr) (x2 : Addr) : entryFrame m #[(.ref x0), (.ref x1), (.ref x2)] 5 = mkF m 0 #[.val (.ref x0), .val (.ref x1), .val (.ref x2), .unset, .unset] [] := by first | (simp [entryFrame, mkF, argsToLocals, Value.category]; done) | rfl
def Q34_E (Z : State) (r0 : Addr) (r1 : Addr) (r2 : Addr) (ed : Addr) (ked : ClassId) (cap : Int32) (m1 : Int32) (kk : Nat) (ra : Addr) (na : Addr) (sr : Addr) (sn : Addr) (hm : Addr) (rel0 : Int64) (qa : Int32) (qb : Int32) (h0 : Heap) (n0 : Nat) (v : Option Value) (h : Heap) (L : List Loc) : Prop := v = none ∧ Fr n0 L ∧ Keep h0 h [r0] ∧ Fld Z h r0 "com/example/carved_corpus/carvedcorpus/cli/Evaluation" "relevantAtCutoff" "J" (.long rel0) ∧ Fld Z h r0 "com/example/carved_corpus/carvedcorpus/cli/Evaluation" "questions" "I" (.int qb)
set_option maxRecDepth 65536 in
set_option maxHeartbeats 40000000 in
theorem rm34_E (l : Launch) (Z : State) (a0 : Array Value) (hw : ∀ d ∈ tables_1, d.before a0 Z = true) (ws : List Jvm.Cond) (r0 : Addr) (r1 : Addr) (r2 : Addr) (ed : Addr) (ked : ClassId) (cap : Int32) (m1 : Int32) (kk : Nat) (ra : Addr) (na : Addr) (sr : Addr) (sn : Addr) (hm : Addr) (rel0 : Int64) (qa : Int32) (qb : Int32) (h0 : Heap) (n0 : Nat) (Z0 : n0 ≤ h0.size) (E1 : Exa Z h0 r1 "java/util/ArrayList") (Fe1 : Fld Z h0 r1 "java/util/ArrayList" "elementData" "[Ljava/lang/Object;" (.ref ed)) (Fz1 : Fld Z h0 r1 "java/util/ArrayList" "size" "I" (.int (Int32.ofNat kk))) (Vd : Arv Z h0 ed ked (.object "java/lang/Object") cap (own_vs m1 ra na kk) .null) (hkk : kk ≤ 22) (hcap : kk = 0 ∨ own_cap kk cap) (Ehr : Exa Z h0 ra "com/example/carved_corpus/carvedcorpus/Hit") (Fhr : Fld Z h0 ra "com/example/carved_corpus/carvedcorpus/Hit" "id" "Ljava/lang/String;" (.ref sr)) (Ehn : Exa Z h0 na "com/example/carved_corpus/carvedcorpus/Hit") (Fhn : Fld Z h0 na "com/example/carved_corpus/carvedcorpus/Hit" "id" "Ljava/lang/String;" (.ref sn)) (Es : Exa Z h0 r2 "java/util/HashSet") (Fp : Fld Z h0 r2 "java/util/HashSet" "map" "Ljava/util/HashMap;" (.ref hm)) (E0 : Exa Z h0 hm "java/util/HashMap") (Ft : Fld Z h0 hm "java/util/HashMap" "table" "[Ljava/util/HashMap$Node;" .null) (Ev : Exa Z h0 r0 "com/example/carved_corpus/carvedcorpus/cli/Evaluation") (Fra : Fld Z h0 r0 "com/example/carved_corpus/carvedcorpus/cli/Evaluation" "relevantAtCutoff" "J" (.long rel0)) (Fq : Fld Z h0 r0 "com/example/carved_corpus/carvedcorpus/cli/Evaluation" "questions" "I" (.int qa)) (hq1 : (qa + (1 : Int32)) = qb) (g_r0 : n0 ≤ r0) :
    MetFree l Y50 (head1 (Jvm.Cond.code Y50 prog_7_method_2_code 5 none :: ws) (⟨3, 0, 0, 45⟩ : Room)) (fun a U => a = #[(.ref r0), (.ref r1), (.ref r2)] ∧ Z.Warmed39 U.vm ∧ U.heap = h0) (fun _ _ _ _ _ => True) (fun _ U o U' => ∃ v L, o = .returned v ∧ Q34_E Z r0 r1 r2 ed ked cap m1 kk ra na sr sn hm rel0 qa qb h0 n0 v U'.heap L ∧ FrameEnd U o U' L (⟨3, 0, 0, 45⟩ : Room).cells (⟨3, 0, 0, 45⟩ : Room).slots) := by
  refine MetFree.of_bodySF (plainFor_of_name pn_34) hisR ?_
  intro p e s m args below meth c s₁ Bd hml0 hP hK
  obtain ⟨rfl, hZ, hh⟩ := hP
  have hx := Bd.exec
  have hby := Bd.bytes
  have hml : c.maxLocals = 5 := hml0
  have hown : s.vm.findClass "com/example/carved_corpus/carvedcorpus/cli/Evaluation" = some m.cls := findClass_of_methodNamed Bd.named
  have hnm := (name_of_methodNamed Bd.named Bd.method).1
  have hlk : meth.locks = false := by first | exact BodyLoose.notSynchronized Bd | exact Body.notSynchronized Bd
  have X0 : Stand p l e (⟨3, 0, 0, 45⟩ : Room) s m #[(.ref r0), (.ref r1), (.ref r2)] below meth c s₁ [] 0 0 := Stand.of_body Bd
  have e0 : s₁.heap = h0 := by rw [← hh, Bd.state]; rfl
  have N0 := Fr.nil n0
  have k0 : own_R p e below (s₁.setTop (entryFrame m #[(.ref r0), (.ref r1), (.ref r2)] 5)) (s₁.setTop (mkF m 0 #[vR r0, vR r1, vR r2, .unset, .unset] [])) := fun t k => castTop (ef_34_E m r0 r1 r2) k
  obtain ⟨A0, hA0⟩ : ∃ z, z = s₁.setTop (entryFrame m #[(.ref r0), (.ref r1), (.ref r2)] 5) := ⟨_, rfl⟩
  rw [← hA0] at k0
  have kz : ∀ t, Steps p.tables e below A0 t → Steps p.tables e below (s₁.setTop (entryFrame m #[(.ref r0), (.ref r1), (.ref r2)] 5)) t := fun t q => hA0 ▸ q
  have ks1 : own_R p e below (A0) (s₁.setTop (mkF m 5 #[vR r0, vR r1, vR r2, vI 0, vI 1] [])) := fun t k => k0 t (by
    refine XS.iconst X0.here hx rfl (hb hby d34_0) ?_
    refine XS.istoreN X0.here hx rfl (hb hby d34_1) rfl (l' := #[vR r0, vR r1, vR r2, vI 0, .unset]) rfl ?_
    refine XS.iconst X0.here hx rfl (hb hby d34_2) ?_
    show Steps p.tables e below (s₁.setTop (mkF m 3 #[vR r0, vR r1, vR r2, vI 0, .unset] [(.int 1)])) _
    refine XS.istore X0.here hx rfl (hb hby d34_3) rfl (l' := #[vR r0, vR r1, vR r2, vI 0, vI 1]) rfl ?_
    exact k)
  have loop : ∀ (d j : Nat) (T0 : State) (L0 : List Loc) (rk : Int32), j + d = kk → rk = Int32.ofNat (j + 1) → Stand p l e (⟨3, 0, 0, 45⟩ : Room) s m #[(.ref r0), (.ref r1), (.ref r2)] below meth c T0 L0 0 0 → T0.heap = h0 → Fr n0 L0 → own_R p e below A0 (T0.setTop (mkF m 5 #[vR r0, vR r1, vR r2, vI 0, vI rk] [])) → ∃ T' L', Stand p l e (⟨3, 0, 0, 45⟩ : Room) s m #[(.ref r0), (.ref r1), (.ref r2)] below meth c T' L' 0 0 ∧ T'.heap = h0 ∧ Fr n0 L' ∧ own_R p e below A0 (T'.setTop (mkF m 71 #[vR r0, vR r1, vR r2, vI 0, vI (Int32.ofNat (kk + 1))] [])) := by
    intro d
    induction d with
    | zero =>
      intro j T0 L0 rk hj hrk Xl el Nl kl
      have hgt : (Int32.ofNat kk) < rk := (own_rkl hrk (by omega) hkk).mpr (by omega)
      have ks2 : own_R p e below (A0) (T0.setTop (mkF m 8 #[vR r0, vR r1, vR r2, vI 0, vI rk] [(.ref r1), (.int rk)])) := fun t k => kl t (by
        refine XS.iload Xl.here hx rfl (hb hby d34_5) rfl ?_
        refine XS.aloadN Xl.here hx rfl (hb hby d34_7) rfl rfl ?_
        exact k)
      obtain ⟨cq3, kq3, q3a, q3b, q3c⟩ := isOf hZ el E1
      obtain ⟨_, _, ⟨T3, L3, k3, n3⟩, -, X3, ⟨Lc3, hQ3, lq3, yq3, zq3⟩, st3⟩ := Xl.interfaceBack hx (xi := Y51) (y := Y42) hown (mvT hZ (own_w hw 225 rfl)) (mvT hZ (own_w hw 226 rfl)) (mvT hZ (own_w hw 227 rfl)) (mvT hZ (own_w hw 228 rfl)) (mvT hZ (own_w hw 229 rfl)) (mvT hZ (own_w hw 230 rfl)) (mvT hZ (own_w hw 231 rfl)) (mvT hZ (own_w hw 232 rfl)) (by decide) (backOf (W := 1) (rm35 l Z a0 hw [] r1 (Int32.ofNat kk) h0 n0 Z0 Fz1) hZ (own_w hw 233 rfl) (own_w hw 48 rfl) (by decide) (by decide)) q3a q3b q3c (g := (mkF m 8 #[vR r0, vR r1, vR r2, vI 0, vI rk] [(.ref r1), (.int rk)])) rfl (by rw [hml]; rfl) (Steps.refl _) (argsL := []) (rest := [(.int rk)]) (lenOf pd_15 rfl) rfl (by show 2 * 0 + _ ≤ _; exact Nat.le_of_eq rfl) (hb hby d34_8) (fun _ _ => ⟨rfl, el, (by decide : 0 + 0 ≤ _), (by decide : 0 + 0 ≤ _)⟩)
      dsimp only [Pt.U, Pt.locs, Pt.cells, Pt.slots] at X3 lq3 yq3 zq3 st3 hQ3
      obtain rfl : k3 = 0 := yq3
      obtain rfl : n3 = 0 := zq3
      obtain ⟨rfl, Nq3, eq3⟩ := hQ3
      have N3 := Fr.app Nl Nq3
      have N3' : Fr n0 L3 := by rw [lq3]; exact N3
      have ks4 := own_ct ks2 st3
      have ks5 : own_R p e below (A0) (T3.setTop (mkF m 71 #[vR r0, vR r1, vR r2, vI 0, vI rk] [])) := fun t k => ks4 t (by
        refine XS.icmpYes X3.here hx rfl (pc0 := 13) (pc' := 71) rfl (hb hby d34_13) rfl (tlt hgt).2.2.1 (by decide) (by decide) ?_
        exact k)
      have ejk : j = kk := by omega
      exact ⟨_, _, X3, eq3, N3', (by rw [← ejk, ← hrk]; exact ks5)⟩
    | succ d ih =>
      intro j T0 L0 rk hj hrk Xl el Nl kl
      have hgt : ¬ (Int32.ofNat kk) < rk := fun q => absurd ((own_rkl hrk (by omega) hkk).mp q) (by omega)
      have ks6 : own_R p e below (A0) (T0.setTop (mkF m 8 #[vR r0, vR r1, vR r2, vI 0, vI rk] [(.ref r1), (.int rk)])) := fun t k => kl t (by
        refine XS.iload Xl.here hx rfl (hb hby d34_5) rfl ?_
        refine XS.aloadN Xl.here hx rfl (hb hby d34_7) rfl rfl ?_
        exact k)
      obtain ⟨cq7, kq7, q7a, q7b, q7c⟩ := isOf hZ el E1
      obtain ⟨_, _, ⟨T7, L7, k7, n7⟩, -, X7, ⟨Lc7, hQ7, lq7, yq7, zq7⟩, st7⟩ := Xl.interfaceBack hx (xi := Y51) (y := Y42) hown (mvT hZ (own_w hw 225 rfl)) (mvT hZ (own_w hw 226 rfl)) (mvT hZ (own_w hw 227 rfl)) (mvT hZ (own_w hw 228 rfl)) (mvT hZ (own_w hw 229 rfl)) (mvT hZ (own_w hw 230 rfl)) (mvT hZ (own_w hw 231 rfl)) (mvT hZ (own_w hw 232 rfl)) (by decide) (backOf (W := 1) (rm35 l Z a0 hw [] r1 (Int32.ofNat kk) h0 n0 Z0 Fz1) hZ (own_w hw 233 rfl) (own_w hw 48 rfl) (by decide) (by decide)) q7a q7b q7c (g := (mkF m 8 #[vR r0, vR r1, vR r2, vI 0, vI rk] [(.ref r1), (.int rk)])) rfl (by rw [hml]; rfl) (Steps.refl _) (argsL := []) (rest := [(.int rk)]) (lenOf pd_15 rfl) rfl (by show 2 * 0 + _ ≤ _; exact Nat.le_of_eq rfl) (hb hby d34_8) (fun _ _ => ⟨rfl, el, (by decide : 0 + 0 ≤ _), (by decide : 0 + 0 ≤ _)⟩)
      dsimp only [Pt.U, Pt.locs, Pt.cells, Pt.slots] at X7 lq7 yq7 zq7 st7 hQ7
      obtain rfl : k7 = 0 := yq7
      obtain rfl : n7 = 0 := zq7
      obtain ⟨rfl, Nq7, eq7⟩ := hQ7
      have N7 := Fr.app Nl Nq7
      have N7' : Fr n0 L7 := by rw [lq7]; exact N7
      have ks8 := own_ct ks6 st7
      have ks9 : own_R p e below (A0) (T7.setTop (mkF m 16 #[vR r0, vR r1, vR r2, vI 0, vI rk] [])) := fun t k => ks8 t (by
        refine XS.icmpNo X7.here hx rfl (hb hby d34_13) rfl (flt hgt).2.2.1 ?_
        exact k)
      have hp := own_rk1 hrk
      have hjk : j < kk := by omega
      have H0 : ¬ (rk - (1 : Int32)) < (0 : Int32) := by rw [hp]; exact own_i32z (by omega)
      have H1 : (rk - (1 : Int32)) < (Int32.ofNat kk) := by rw [hp]; exact (own_i32r (by omega) (by omega)).mpr hjk
      have Hc : (rk - (1 : Int32)) < cap := by rw [hp]; exact own_capl hcap hjk
      by_cases hbt : own_bt m1 (Int32.ofNat j) = (0 : Int32)
      · skip
        have hv : (own_vs m1 ra na kk).getD (rk - (1 : Int32)).toNatClampNeg .null = .ref na := by rw [hp, own_i32n (by omega), own_vs_get m1 ra na hjk, own_el, if_pos hbt]
        have ks10 : own_R p e below (A0) (T7.setTop (mkF m 22 #[vR r0, vR r1, vR r2, vI 0, vI rk] [(.int (rk - (1 : Int32))), (.ref r1), (.ref r2)])) := fun t k => ks9 t (by
          refine XS.aloadN X7.here hx rfl (hb hby d34_16) rfl rfl ?_
          refine XS.aloadN X7.here hx rfl (hb hby d34_17) rfl rfl ?_
          refine XS.iload X7.here hx rfl (hb hby d34_18) rfl ?_
          show Steps p.tables e below (T7.setTop (mkF m 20 #[vR r0, vR r1, vR r2, vI 0, vI rk] [(.int rk), (.ref r1), (.ref r2)])) _
          refine XS.iconst X7.here hx rfl (hb hby d34_20) ?_
          refine XS.isub X7.here hx rfl (hb hby d34_21) rfl ?_
          exact k)
        obtain ⟨cq11, kq11, q11a, q11b, q11c⟩ := isOf hZ eq7 E1
        obtain ⟨_, _, ⟨T11, L11, k11, n11⟩, -, X11, ⟨Lc11, hQ11, lq11, yq11, zq11⟩, st11⟩ := X7.interfaceBack hx (xi := Y52) (y := Y44) hown (mvT hZ (own_w hw 234 rfl)) (mvT hZ (own_w hw 235 rfl)) (mvT hZ (own_w hw 236 rfl)) (mvT hZ (own_w hw 237 rfl)) (mvT hZ (own_w hw 238 rfl)) (mvT hZ (own_w hw 239 rfl)) (mvT hZ (own_w hw 240 rfl)) (mvT hZ (own_w hw 232 rfl)) (by decide) (backOf (W := 1) (rm36 l Z a0 hw [] r1 (rk - (1 : Int32)) ed ked cap (own_vs m1 ra na kk) na (Int32.ofNat kk) h0 n0 Z0 E1 Fe1 Vd H0 Hc hv Fz1 H1) hZ (own_w hw 241 rfl) (own_w hw 48 rfl) (by decide) (by decide)) q11a q11b q11c (g := (mkF m 22 #[vR r0, vR r1, vR r2, vI 0, vI rk] [(.int (rk - (1 : Int32))), (.ref r1), (.ref r2)])) rfl (by rw [hml]; rfl) (Steps.refl _) (argsL := [(.int (rk - (1 : Int32)))]) (rest := [(.ref r2)]) (lenOf pd_24 rfl) rfl (by show 2 * 0 + _ ≤ _; exact Nat.le_of_eq rfl) (hb hby d34_22) (fun _ _ => ⟨rfl, eq7, (by decide : 0 + 0 ≤ _), (by decide : 0 + 0 ≤ _)⟩)
        dsimp only [Pt.U, Pt.locs, Pt.cells, Pt.slots] at X11 lq11 yq11 zq11 st11 hQ11
        obtain rfl : k11 = 0 := yq11
        obtain rfl : n11 = 0 := zq11
        obtain ⟨rfl, Nq11, eq11⟩ := hQ11
        have N11 := Fr.app N7' Nq11
        have N11' : Fr n0 L11 := by rw [lq11]; exact N11
        have ks12 := own_ct ks10 st11
        obtain ⟨T13, X13, e13, st13⟩ := castY X11 hx hZ hown (own_w hw 255 rfl) eq11 (Ins.self Ehn) (g := (mkF m 27 #[vR r0, vR r1, vR r2, vI 0, vI rk] [(.ref na), (.ref r2)])) rfl rfl (hb hby d34_27)
        have ks14 := own_c ks12 st13
        obtain ⟨cq15, kq15, q15a, q15b, q15c⟩ := isOf hZ e13 Ehn
        obtain ⟨_, _, ⟨T15, L15, k15, n15⟩, -, X15, ⟨Lc15, hQ15, lq15, yq15, zq15⟩, st15⟩ := X13.virtualBack hx (y := Y47) (z := Y47) hown (mvT hZ (own_w hw 257 rfl)) (mvT hZ (own_w hw 258 rfl)) (notFace_of_selects (args := #[]) (mvT hZ (own_w hw 260 rfl))) (mvT hZ (own_w hw 260 rfl)) (mvT hZ (own_w hw 259 rfl)) (by decide) (backOf (W := 1) (rm40 l Z a0 hw [] na sn h0 n0 Z0 Fhn) hZ (own_w hw 261 rfl) (own_w hw 2 rfl) (by decide) (by decide)) q15a q15c (g := (mkF m 30 #[vR r0, vR r1, vR r2, vI 0, vI rk] [(.ref na), (.ref r2)])) rfl (by rw [hml]; rfl) (Steps.refl _) (argsL := []) (rest := [(.ref r2)]) (lenOf pd_26 rfl) rfl (by show 2 * 0 + _ ≤ _; exact Nat.le_of_eq rfl) (hb hby d34_30) (fun _ _ => ⟨rfl, e13, (by decide : 0 + 0 ≤ _), (by decide : 0 + 0 ≤ _)⟩)
        dsimp only [Pt.U, Pt.locs, Pt.cells, Pt.slots] at X15 lq15 yq15 zq15 st15 hQ15
        obtain rfl : k15 = 0 := yq15
        obtain rfl : n15 = 0 := zq15
        obtain ⟨rfl, Nq15, eq15⟩ := hQ15
        have N15 := Fr.app N11' Nq15
        have N15' : Fr n0 L15 := by rw [lq15]; exact N15
        have ks16 := own_ct ks14 st15
        obtain ⟨cq17, kq17, q17a, q17b, q17c⟩ := isOf hZ eq15 Es
        obtain ⟨_, _, ⟨T17, L17, k17, n17⟩, -, X17, ⟨Lc17, hQ17, lq17, yq17, zq17⟩, st17⟩ := X15.interfaceBack hx (xi := Y53) (y := Y39) hown (mvT hZ (own_w hw 262 rfl)) (mvT hZ (own_w hw 263 rfl)) (mvT hZ (own_w hw 264 rfl)) (mvT hZ (own_w hw 265 rfl)) (mvT hZ (own_w hw 266 rfl)) (mvT hZ (own_w hw 267 rfl)) (mvT hZ (own_w hw 268 rfl)) (mvT hZ (own_w hw 269 rfl)) (by decide) (backOf (W := 0) (rm41_e l Z a0 hw [] r2 sn hm h0 n0 Z0 E0 Fp Ft) hZ (own_w hw 270 rfl) (own_w hw 105 rfl) (by decide) (by decide)) q17a q17b q17c (g := (mkF m 33 #[vR r0, vR r1, vR r2, vI 0, vI rk] [(.ref sn), (.ref r2)])) rfl (by rw [hml]; rfl) (Steps.refl _) (argsL := [(.ref sn)]) (rest := []) (lenOf pd_9 rfl) rfl (by show 2 * 0 + _ ≤ _; exact Nat.le_of_eq rfl) (hb hby d34_33) (fun _ _ => ⟨rfl, eq15, (by decide : 0 + 0 ≤ _), (by decide : 0 + 0 ≤ _)⟩)
        dsimp only [Pt.U, Pt.locs, Pt.cells, Pt.slots] at X17 lq17 yq17 zq17 st17 hQ17
        obtain rfl : k17 = 0 := yq17
        obtain rfl : n17 = 0 := zq17
        obtain ⟨rfl, Nq17, eq17⟩ := hQ17
        have N17 := Fr.app N15' Nq17
        have N17' : Fr n0 L17 := by rw [lq17]; exact N17
        have ks18 := own_ct ks16 st17
        have ks19 : own_R p e below (A0) (T17.setTop (mkF m 5 #[vR r0, vR r1, vR r2, vI 0, vI (rk + (1 : Int32))] [])) := fun t k => ks18 t (by
          refine XS.ifYes X17.here hx rfl (pc0 := 38) (pc' := 65) rfl (hb hby d34_38) rfl ((if0 _ _).trans (teq (by decide)).1) (by decide) (by decide) ?_
          refine XS.iinc X17.here hx rfl (hb hby d34_65) rfl (l' := #[vR r0, vR r1, vR r2, vI 0, vI (rk + (1 : Int32))]) rfl ?_
          refine XS.goto X17.here hx rfl (pc0 := 68) (pc' := 5) rfl (hb hby d34_68) (by decide) (by decide) ?_
          exact k)
        exact ih (j + 1) _ _ (rk + (1 : Int32)) (by omega) (by rw [hrk]; exact own_szs.symm) X17 eq17 N17' ks19
      · skip
        have hv : (own_vs m1 ra na kk).getD (rk - (1 : Int32)).toNatClampNeg .null = .ref ra := by rw [hp, own_i32n (by omega), own_vs_get m1 ra na hjk, own_el, if_neg hbt]
        have ks20 : own_R p e below (A0) (T7.setTop (mkF m 22 #[vR r0, vR r1, vR r2, vI 0, vI rk] [(.int (rk - (1 : Int32))), (.ref r1), (.ref r2)])) := fun t k => ks9 t (by
          refine XS.aloadN X7.here hx rfl (hb hby d34_16) rfl rfl ?_
          refine XS.aloadN X7.here hx rfl (hb hby d34_17) rfl rfl ?_
          refine XS.iload X7.here hx rfl (hb hby d34_18) rfl ?_
          show Steps p.tables e below (T7.setTop (mkF m 20 #[vR r0, vR r1, vR r2, vI 0, vI rk] [(.int rk), (.ref r1), (.ref r2)])) _
          refine XS.iconst X7.here hx rfl (hb hby d34_20) ?_
          refine XS.isub X7.here hx rfl (hb hby d34_21) rfl ?_
          exact k)
        obtain ⟨cq21, kq21, q21a, q21b, q21c⟩ := isOf hZ eq7 E1
        obtain ⟨_, _, ⟨T21, L21, k21, n21⟩, -, X21, ⟨Lc21, hQ21, lq21, yq21, zq21⟩, st21⟩ := X7.interfaceBack hx (xi := Y52) (y := Y44) hown (mvT hZ (own_w hw 234 rfl)) (mvT hZ (own_w hw 235 rfl)) (mvT hZ (own_w hw 236 rfl)) (mvT hZ (own_w hw 237 rfl)) (mvT hZ (own_w hw 238 rfl)) (mvT hZ (own_w hw 239 rfl)) (mvT hZ (own_w hw 240 rfl)) (mvT hZ (own_w hw 232 rfl)) (by decide) (backOf (W := 1) (rm36 l Z a0 hw [] r1 (rk - (1 : Int32)) ed ked cap (own_vs m1 ra na kk) ra (Int32.ofNat kk) h0 n0 Z0 E1 Fe1 Vd H0 Hc hv Fz1 H1) hZ (own_w hw 241 rfl) (own_w hw 48 rfl) (by decide) (by decide)) q21a q21b q21c (g := (mkF m 22 #[vR r0, vR r1, vR r2, vI 0, vI rk] [(.int (rk - (1 : Int32))), (.ref r1), (.ref r2)])) rfl (by rw [hml]; rfl) (Steps.refl _) (argsL := [(.int (rk - (1 : Int32)))]) (rest := [(.ref r2)]) (lenOf pd_24 rfl) rfl (by show 2 * 0 + _ ≤ _; exact Nat.le_of_eq rfl) (hb hby d34_22) (fun _ _ => ⟨rfl, eq7, (by decide : 0 + 0 ≤ _), (by decide : 0 + 0 ≤ _)⟩)
        dsimp only [Pt.U, Pt.locs, Pt.cells, Pt.slots] at X21 lq21 yq21 zq21 st21 hQ21
        obtain rfl : k21 = 0 := yq21
        obtain rfl : n21 = 0 := zq21
        obtain ⟨rfl, Nq21, eq21⟩ := hQ21
        have N21 := Fr.app N7' Nq21
        have N21' : Fr n0 L21 := by rw [lq21]; exact N21
        have ks22 := own_ct ks20 st21
        obtain ⟨T23, X23, e23, st23⟩ := castY X21 hx hZ hown (own_w hw 255 rfl) eq21 (Ins.self Ehr) (g := (mkF m 27 #[vR r0, vR r1, vR r2, vI 0, vI rk] [(.ref ra), (.ref r2)])) rfl rfl (hb hby d34_27)
        have ks24 := own_c ks22 st23
        obtain ⟨cq25, kq25, q25a, q25b, q25c⟩ := isOf hZ e23 Ehr
        obtain ⟨_, _, ⟨T25, L25, k25, n25⟩, -, X25, ⟨Lc25, hQ25, lq25, yq25, zq25⟩, st25⟩ := X23.virtualBack hx (y := Y47) (z := Y47) hown (mvT hZ (own_w hw 257 rfl)) (mvT hZ (own_w hw 258 rfl)) (notFace_of_selects (args := #[]) (mvT hZ (own_w hw 260 rfl))) (mvT hZ (own_w hw 260 rfl)) (mvT hZ (own_w hw 259 rfl)) (by decide) (backOf (W := 1) (rm40 l Z a0 hw [] ra sr h0 n0 Z0 Fhr) hZ (own_w hw 261 rfl) (own_w hw 2 rfl) (by decide) (by decide)) q25a q25c (g := (mkF m 30 #[vR r0, vR r1, vR r2, vI 0, vI rk] [(.ref ra), (.ref r2)])) rfl (by rw [hml]; rfl) (Steps.refl _) (argsL := []) (rest := [(.ref r2)]) (lenOf pd_26 rfl) rfl (by show 2 * 0 + _ ≤ _; exact Nat.le_of_eq rfl) (hb hby d34_30) (fun _ _ => ⟨rfl, e23, (by decide : 0 + 0 ≤ _), (by decide : 0 + 0 ≤ _)⟩)
        dsimp only [Pt.U, Pt.locs, Pt.cells, Pt.slots] at X25 lq25 yq25 zq25 st25 hQ25
        obtain rfl : k25 = 0 := yq25
        obtain rfl : n25 = 0 := zq25
        obtain ⟨rfl, Nq25, eq25⟩ := hQ25
        have N25 := Fr.app N21' Nq25
        have N25' : Fr n0 L25 := by rw [lq25]; exact N25
        have ks26 := own_ct ks24 st25
        obtain ⟨cq27, kq27, q27a, q27b, q27c⟩ := isOf hZ eq25 Es
        obtain ⟨_, _, ⟨T27, L27, k27, n27⟩, -, X27, ⟨Lc27, hQ27, lq27, yq27, zq27⟩, st27⟩ := X25.interfaceBack hx (xi := Y53) (y := Y39) hown (mvT hZ (own_w hw 262 rfl)) (mvT hZ (own_w hw 263 rfl)) (mvT hZ (own_w hw 264 rfl)) (mvT hZ (own_w hw 265 rfl)) (mvT hZ (own_w hw 266 rfl)) (mvT hZ (own_w hw 267 rfl)) (mvT hZ (own_w hw 268 rfl)) (mvT hZ (own_w hw 269 rfl)) (by decide) (backOf (W := 0) (rm41_e l Z a0 hw [] r2 sr hm h0 n0 Z0 E0 Fp Ft) hZ (own_w hw 270 rfl) (own_w hw 105 rfl) (by decide) (by decide)) q27a q27b q27c (g := (mkF m 33 #[vR r0, vR r1, vR r2, vI 0, vI rk] [(.ref sr), (.ref r2)])) rfl (by rw [hml]; rfl) (Steps.refl _) (argsL := [(.ref sr)]) (rest := []) (lenOf pd_9 rfl) rfl (by show 2 * 0 + _ ≤ _; exact Nat.le_of_eq rfl) (hb hby d34_33) (fun _ _ => ⟨rfl, eq25, (by decide : 0 + 0 ≤ _), (by decide : 0 + 0 ≤ _)⟩)
        dsimp only [Pt.U, Pt.locs, Pt.cells, Pt.slots] at X27 lq27 yq27 zq27 st27 hQ27
        obtain rfl : k27 = 0 := yq27
        obtain rfl : n27 = 0 := zq27
        obtain ⟨rfl, Nq27, eq27⟩ := hQ27
        have N27 := Fr.app N25' Nq27
        have N27' : Fr n0 L27 := by rw [lq27]; exact N27
        have ks28 := own_ct ks26 st27
        have ks29 : own_R p e below (A0) (T27.setTop (mkF m 5 #[vR r0, vR r1, vR r2, vI 0, vI (rk + (1 : Int32))] [])) := fun t k => ks28 t (by
          refine XS.ifYes X27.here hx rfl (pc0 := 38) (pc' := 65) rfl (hb hby d34_38) rfl ((if0 _ _).trans (teq (by decide)).1) (by decide) (by decide) ?_
          refine XS.iinc X27.here hx rfl (hb hby d34_65) rfl (l' := #[vR r0, vR r1, vR r2, vI 0, vI (rk + (1 : Int32))]) rfl ?_
          refine XS.goto X27.here hx rfl (pc0 := 68) (pc' := 5) rfl (hb hby d34_68) (by decide) (by decide) ?_
          exact k)
        exact ih (j + 1) _ _ (rk + (1 : Int32)) (by omega) (by rw [hrk]; exact own_szs.symm) X27 eq27 N27' ks29
  obtain ⟨T71, L71, X71, e71, N71, K71⟩ := loop kk 0 _ _ 1 (Nat.zero_add kk) rfl X0 e0 N0 ks1
  have ks30 : own_R p e below (A0) (T71.setTop (mkF m 73 #[vR r0, vR r1, vR r2, vI 0, vI (Int32.ofNat (kk + 1))] [(.ref r0), (.ref r0)])) := fun t k => K71 t (by
    refine XS.aloadN X71.here hx rfl (hb hby d34_71) rfl rfl ?_
    refine XS.dup X71.here hx rfl (hb hby d34_72) rfl rfl ?_
    exact k)
  obtain ⟨T31, X31, e31, st31⟩ := getF X71 hx hZ hown (host := "") (Or.inl (own_w hw 281 rfl)) Via.refl e71 Fq (g := (mkF m 73 #[vR r0, vR r1, vR r2, vI 0, vI (Int32.ofNat (kk + 1))] [(.ref r0), (.ref r0)])) rfl rfl (hb hby d34_73)
  have ks32 := own_c ks30 st31
  have ks33 : own_R p e below (A0) (T31.setTop (mkF m 78 #[vR r0, vR r1, vR r2, vI 0, vI (Int32.ofNat (kk + 1))] [(.int (qa + (1 : Int32))), (.ref r0)])) := fun t k => ks32 t (by
    refine XS.iconst X31.here hx rfl (hb hby d34_76) ?_
    refine XS.iadd X31.here hx rfl (hb hby d34_77) rfl ?_
    exact k)
  obtain ⟨T34, h34, X34, e34, W34, st34⟩ := putF X31 hx hZ hown (host := "") (Or.inl (own_w hw 281 rfl)) Via.refl e31 Fq Ev (Or.inl (own_w hw 282 rfl)) (own_w hw 214 rfl) (ty := .int) (by decide) rfl rfl (g := (mkF m 78 #[vR r0, vR r1, vR r2, vI 0, vI (Int32.ofNat (kk + 1))] [(.int (qa + (1 : Int32))), (.ref r0)])) rfl rfl (hb hby d34_78)
  have Fw34 := Fq.same W34
  have KH34 : Keep h0 h34 [r0] := (Keep.refl h0 [r0]).wr W34 (Or.inl (List.mem_of_getElem? (i := 0) rfl))
  have Zn34 : n0 ≤ h34.size := Nat.le_trans Z0 (Keep.of_wr W34).1
  have N34 := Fr.snoc X34 N71 g_r0
  have ks35 := own_c ks33 st34
  have ks36 : own_R p e below (A0) (T34.setTop (mkF m 98 #[vR r0, vR r1, vR r2, vI 0, vI (Int32.ofNat (kk + 1))] [])) := fun t k => ks35 t (by
    refine XS.iloadN X34.here hx rfl (hb hby d34_81) rfl ?_
    refine XS.ifYes X34.here hx rfl (pc0 := 82) (pc' := 98) rfl (hb hby d34_82) rfl ((if0 _ _).trans (flt (by decide)).2.2.2) (by decide) (by decide) ?_
    exact k)
  obtain ⟨fs, hr, hrun, hended, hW, hsame⟩ := X34.leave (v := none) (fun _ => rfl) hlk
  refine ⟨_, _, kz _ (ks36 _ ?_), hrun, hended, _, _, rfl, ?_, ⟨_, rfl⟩, hW, hsame.mono (by decide) (by decide)⟩
  · exact X34.returnOut hx Bd.returns (hb hby d34_98) hr
  · show Q34_E Z r0 r1 r2 ed ked cap m1 kk ra na sr sn hm rel0 qa qb h0 n0 _ T34.heap _
    rw [e34]
    have f37 := (Fra.other W34 (Or.inr (slot_ne (Or.inl (own_w hw 295 rfl)) (Or.inl (own_w hw 282 rfl)) (by decide) (t := .long) (t' := .int) (by decide) (by decide))))
    exact ⟨rfl, N34, KH34, f37, (by rw [← hq1]; exact Fw34)⟩
theorem pn_0 : plainName "com/example/carved_corpus/carvedcorpus/cli/EvaluationGetRelevantAtCutoffPinLaw" = true := by first | (simp [plainName, overriddenIn]; done) | decide +kernel
theorem pd_0 : parseMethodDescriptor "(C)Ljava/lang/String;" = some ⟨[.char], some (.object "java/lang/String")⟩ := by decide +kernel
theorem pd_23 : parseMethodDescriptor "(Ljava/util/List;Ljava/util/Set;)V" = some ⟨[(.object "java/util/List"), (.object "java/util/Set")], none⟩ := by decide +kernel
theorem pd_28 : parseMethodDescriptor "(II)J" = some ⟨[.int, .int], some .long⟩ := by decide +kernel
theorem pd_29 : parseMethodDescriptor "()D" = some ⟨[], some .double⟩ := by decide +kernel
theorem pd_5 : parseMethodDescriptor "(Ljava/lang/String;F)V" = some ⟨[(.object "java/lang/String"), .float], none⟩ := by decide +kernel
theorem pd_7 : parseMethodDescriptor "(IILcom/example/carved_corpus/carvedcorpus/Hit;Lcom/example/carved_corpus/carvedcorpus/Hit;)Ljava/util/ArrayList;" = some ⟨[.int, .int, (.object "com/example/carved_corpus/carvedcorpus/Hit"), (.object "com/example/carved_corpus/carvedcorpus/Hit")], some (.object "java/util/ArrayList")⟩ := by decide +kernel
theorem ef_0 (m : MethodId) (x0 : Int32) (x1 : Int32) (x2 : Int32) (x3 : Int32) (x4 : Int32) : entryFrame m #[(.int x0), (.int x1), (.int x2), (.int x3), (.int x4)] maxLocals = mkF m 0 #[.val (.int x0), .val (.int x1), .val (.int x2), .val (.int x3), .val (.int x4), .unset, .unset, .unset, .unset, .unset, .unset, .unset, .unset, .unset, .unset, .unset, .unset, .unset, .unset, .unset, .unset, .unset, .unset] [] := by first | (simp [entryFrame, mkF, argsToLocals, Value.category, maxLocals]; done) | rfl
def Q0 (Z : State) (p0 : Int32) (p1 : Int32) (p2 : Int32) (p3 : Int32) (p4 : Int32) (y9 : Int32) (u : Addr) (ku : ClassId) (mo : Addr) (pv : Addr) (h0 : Heap) (n0 : Nat) (v : Option Value) (h : Heap) (L : List Loc) : Prop := v = some (.int (1 : Int32)) ∧ Fr n0 L
set_option maxRecDepth 65536 in
set_option maxHeartbeats 40000000 in
theorem rm0 (l : Launch) (Z : State) (a0 : Array Value) (hw : ∀ d ∈ tables_1, d.before a0 Z = true) (ws : List Jvm.Cond) (p0 : Int32) (p1 : Int32) (p2 : Int32) (p3 : Int32) (p4 : Int32) (y9 : Int32) (u : Addr) (ku : ClassId) (mo : Addr) (pv : Addr) (h0 : Heap) (n0 : Nat) (Z0 : n0 ≤ h0.size) (S9 : own_S9 Z h0 y9) (P9 : ¬ y9 = (0 : Int32)) (Oq0 : Old Z n0 h0) (Sd0 : Sta Z Z.heap "java/util/ArrayList" "DEFAULTCAPACITY_EMPTY_ELEMENTDATA" "[Ljava/lang/Object;" (.ref u)) (Vu0 : Arv Z Z.heap u ku (.object "java/lang/Object") 0 [] .null) (Mo : Mir Z "[Ljava/lang/Object;" mo) (Sp : Sta Z h0 "java/util/HashSet" "PRESENT" "Ljava/lang/Object;" (.ref pv)) :
    MetFree l x (head1 (Jvm.Cond.code x code maxLocals ret :: ws) room_1) (fun a U => a = #[(.int p0), (.int p1), (.int p2), (.int p3), (.int p4)] ∧ Z.Warmed39 U.vm ∧ U.heap = h0) (fun _ _ _ _ _ => True) (fun _ U o U' => ∃ v L, o = .returned v ∧ Q0 Z p0 p1 p2 p3 p4 y9 u ku mo pv h0 n0 v U'.heap L ∧ FrameEnd U o U' L 56 384) := by
  refine MetFree.of_bodySF (plainFor_of_name pn_0) hisR ?_
  intro p e s m args below meth c s₁ Bd hml0 hP hK
  obtain ⟨rfl, hZ, hh⟩ := hP
  have hx := Bd.exec
  have hby := Bd.bytes
  have hml : c.maxLocals = 23 := hml0
  have hown : s.vm.findClass "com/example/carved_corpus/carvedcorpus/cli/EvaluationGetRelevantAtCutoffPinLaw" = some m.cls := findClass_of_methodNamed Bd.named
  have hnm := (name_of_methodNamed Bd.named Bd.method).1
  have hlk : meth.locks = false := by first | exact BodyLoose.notSynchronized Bd | exact Body.notSynchronized Bd
  have X0 : Stand p l e room_1 s m #[(.int p0), (.int p1), (.int p2), (.int p3), (.int p4)] below meth c s₁ [] 0 0 := Stand.of_body Bd
  have e0 : s₁.heap = h0 := by rw [← hh, Bd.state]; rfl
  have N0 := Fr.nil n0
  have k0 : own_R p e below (s₁.setTop (entryFrame m #[(.int p0), (.int p1), (.int p2), (.int p3), (.int p4)] maxLocals)) (s₁.setTop (mkF m 0 #[vI p0, vI p1, vI p2, vI p3, vI p4, .unset, .unset, .unset, .unset, .unset, .unset, .unset, .unset, .unset, .unset, .unset, .unset, .unset, .unset, .unset, .unset, .unset, .unset] [])) := fun t k => castTop (ef_0 m p0 p1 p2 p3 p4) k
  obtain ⟨A0, hA0⟩ : ∃ z, z = s₁.setTop (entryFrame m #[(.int p0), (.int p1), (.int p2), (.int p3), (.int p4)] maxLocals) := ⟨_, rfl⟩
  rw [← hA0] at k0
  have kz : ∀ t, Steps p.tables e below A0 t → Steps p.tables e below (s₁.setTop (entryFrame m #[(.int p0), (.int p1), (.int p2), (.int p3), (.int p4)] maxLocals)) t := fun t q => hA0 ▸ q
  have hun : u < n0 := Oq0.1 ▸ Vu0.lt
  have ks1 : own_R p e below (A0) (s₁.setTop (mkF m 6 #[vI p0, vI p1, vI p2, vI p3, vI p4, .unset, .unset, .unset, .unset, .unset, .unset, .unset, .unset, .unset, .unset, .unset, .unset, .unset, .unset, .unset, .unset, .unset, .unset] [(.int ((p3 &&& (255 : Int32)).toUInt32.toUInt16.toUInt32.toInt32))])) := fun t k => k0 t (by
    refine XS.iloadN X0.here hx rfl (hb hby at_0) rfl ?_
    refine XS.sipush X0.here hx rfl (hb hby at_1) ?_
    refine XS.iand X0.here hx rfl (hb hby at_4) rfl ?_
    show Steps p.tables e below (s₁.setTop (mkF m 5 #[vI p0, vI p1, vI p2, vI p3, vI p4, .unset, .unset, .unset, .unset, .unset, .unset, .unset, .unset, .unset, .unset, .unset, .unset, .unset, .unset, .unset, .unset, .unset, .unset] [(.int (p3 &&& (255 : Int32)))])) _
    refine XS.i2c X0.here hx rfl (hb hby at_5) rfl ?_
    exact k)
  obtain ⟨v2, hv2⟩ : ∃ z : Int32, z = ((p3 &&& (255 : Int32)).toUInt32.toUInt16.toUInt32.toInt32) := ⟨_, rfl⟩
  rw [← hv2] at ks1
  have ks3 : own_R p e below (A0) (s₁.setTop (mkF m 16 #[vI p0, vI p1, vI p2, vI p3, vI p4, vI v2, .unset, .unset, .unset, .unset, .unset, .unset, .unset, .unset, .unset, .unset, .unset, .unset, .unset, .unset, .unset, .unset, .unset] [(.int (((p3 &&& (255 : Int32)) ^^^ (1 : Int32)).toUInt32.toUInt16.toUInt32.toInt32))])) := fun t k => ks1 t (by
    refine XS.istore X0.here hx rfl (hb hby at_6) rfl (l' := #[vI p0, vI p1, vI p2, vI p3, vI p4, vI v2, .unset, .unset, .unset, .unset, .unset, .unset, .unset, .unset, .unset, .unset, .unset, .unset, .unset, .unset, .unset, .unset, .unset]) rfl ?_
    refine XS.iloadN X0.here hx rfl (hb hby at_8) rfl ?_
    refine XS.sipush X0.here hx rfl (hb hby at_9) ?_
    show Steps p.tables e below (s₁.setTop (mkF m 12 #[vI p0, vI p1, vI p2, vI p3, vI p4, vI v2, .unset, .unset, .unset, .unset, .unset, .unset, .unset, .unset, .unset, .unset, .unset, .unset, .unset, .unset, .unset, .unset, .unset] [(.int 255), (.int p3)])) _
    refine XS.iand X0.here hx rfl (hb hby at_12) rfl ?_
    refine XS.iconst X0.here hx rfl (hb hby at_13) ?_
    refine XS.ixor X0.here hx rfl (hb hby at_14) rfl ?_
    refine XS.i2c X0.here hx rfl (hb hby at_15) rfl ?_
    exact k)
  obtain ⟨v4, hv4⟩ : ∃ z : Int32, z = (((p3 &&& (255 : Int32)) ^^^ (1 : Int32)).toUInt32.toUInt16.toUInt32.toInt32) := ⟨_, rfl⟩
  rw [← hv4] at ks3
  have ks5 : own_R p e below (A0) (s₁.setTop (mkF m 18 #[vI p0, vI p1, vI p2, vI p3, vI p4, vI v2, vI v4, .unset, .unset, .unset, .unset, .unset, .unset, .unset, .unset, .unset, .unset, .unset, .unset, .unset, .unset, .unset, .unset] [])) := fun t k => ks3 t (by
    refine XS.istore X0.here hx rfl (hb hby at_16) rfl (l' := #[vI p0, vI p1, vI p2, vI p3, vI p4, vI v2, vI v4, .unset, .unset, .unset, .unset, .unset, .unset, .unset, .unset, .unset, .unset, .unset, .unset, .unset, .unset, .unset, .unset]) rfl ?_
    exact k)
  have hcr : own_ch v2 := by rw [hv2]; exact (own_rc p3).1
  have hPr : ¬ (255 : Int32) < v2 := by rw [hv2]; exact (own_rc p3).2
  have hcn : own_ch v4 := by rw [hv4]; exact (own_nc_ p3).1.1
  have hPn : ¬ (255 : Int32) < v4 := by rw [hv4]; exact (own_nc_ p3).1.2
  have hne : ¬ ((15 : Int32) &&& v4) = ((15 : Int32) &&& v2) := by rw [hv4, hv2]; exact (own_nc_ p3).2
  obtain ⟨T6, h6, X6, e6, E6, A6, D6, -, st6⟩ := newO X0 hx hZ hown (own_w hw 0 rfl) (own_w hw 1 rfl) (own_w hw 2 rfl) e0 (g := (mkF m 18 #[vI p0, vI p1, vI p2, vI p3, vI p4, vI v2, vI v4, .unset, .unset, .unset, .unset, .unset, .unset, .unset, .unset, .unset, .unset, .unset, .unset, .unset, .unset, .unset, .unset] [])) rfl (hb hby at_18) (by decide) (by decide)
  obtain ⟨b6, g6⟩ : ∃ z, z = h0.size := ⟨_, rfl⟩
  rw [← g6] at A6 D6 st6
  have g_b6 : n0 ≤ b6 := Nat.le_trans Z0 (Nat.le_of_eq g6.symm)
  have sz_b6 : h0.size ≤ b6 := Nat.le_trans (Keep.refl h0 []).1 (Nat.le_of_eq g6.symm)
  have KH6 : Keep h0 h6 [] := (Keep.refl h0 []).ext E6
  have Zn6 : n0 ≤ h6.size := Nat.le_trans Z0 E6.1
  have F_id_b6 : Fld Z h6 b6 "com/example/carved_corpus/carvedcorpus/Hit" "id" "Ljava/lang/String;" .null := D6 (Or.inr (own_w hw 34 rfl)) (ty := (.object "java/lang/String")) (by decide)
  have F_score_b6 : Fld Z h6 b6 "com/example/carved_corpus/carvedcorpus/Hit" "score" "F" (.float (0 : UInt32)) := D6 (Or.inr (own_w hw 36 rfl)) (ty := .float) (by decide)
  have ks7 := own_c ks5 st6
  have ks8 : own_R p e below (A0) (T6.setTop (mkF m 24 #[vI p0, vI p1, vI p2, vI p3, vI p4, vI v2, vI v4, .unset, .unset, .unset, .unset, .unset, .unset, .unset, .unset, .unset, .unset, .unset, .unset, .unset, .unset, .unset, .unset] [(.int v2), (.ref b6), (.ref b6)])) := fun t k => ks7 t (by
    refine XS.dup X6.here hx rfl (hb hby at_21) rfl rfl ?_
    refine XS.iload X6.here hx rfl (hb hby at_22) rfl ?_
    exact k)
  have f10 := own_sta_keep S9 KH6
  obtain ⟨_, _, ⟨T9, L9, k9, n9⟩, -, X9, ⟨Lc9, hQ9, lq9, yq9, zq9⟩, st9⟩ := Jvm.LawKit.callS X6 hx (y := Y4) hown (mvT hZ (own_w hw 3 rfl)) (mvT hZ (own_w hw 4 rfl)) (mvT hZ (own_w hw 5 rfl)) (mvT hZ (own_w hw 6 rfl)) (by decide) (backOf (W := 2) (rm1 l Z a0 hw [] v2 y9 h6 n0 Zn6 f10 P9 hPr) hZ (own_w hw 6 rfl) (own_w hw 5 rfl) (by decide) (by decide)) (g := (mkF m 24 #[vI p0, vI p1, vI p2, vI p3, vI p4, vI v2, vI v4, .unset, .unset, .unset, .unset, .unset, .unset, .unset, .unset, .unset, .unset, .unset, .unset, .unset, .unset, .unset, .unset] [(.int v2), (.ref b6), (.ref b6)])) rfl (by rw [hml]; rfl) (argsL := [(.int v2)]) (rest := [(.ref b6), (.ref b6)]) (lenOf pd_0 rfl) rfl (by show 2 * 0 + _ ≤ _; exact Nat.le_of_eq rfl) (hb hby at_24) (fun _ _ => ⟨rfl, e6, (by decide : 1 + 2 ≤ _), (by decide : 2 + 5 ≤ _)⟩)
  dsimp only [Pt.U, Pt.locs, Pt.cells, Pt.slots] at X9 lq9 yq9 zq9 st9 hQ9
  obtain rfl : k9 = 3 := yq9
  obtain rfl : n9 = 7 := zq9
  obtain ⟨bq9, tq9, kq9, rfl, Nq9, Kq9, g_bq9, szq9, g_tq9, sq_tq9, nq9, Eq9, Fc9, Fv9, Fh9, Fi9, Vq9⟩ := hQ9
  have N9 := Fr.app N0 Nq9
  have KH9 : Keep h0 T9.heap [] := KH6.trans Kq9 all0
  have Zn9 : n0 ≤ T9.heap.size := Nat.le_trans Zn6 Kq9.1
  have ne_b6_bq9 := nls A6.lt szq9
  have sz_bq9 : h0.size ≤ bq9 := Nat.le_trans KH6.1 szq9
  have ne_b6_tq9 := nls A6.lt sq_tq9
  have sz_tq9 : h0.size ≤ tq9 := Nat.le_trans KH6.1 sq_tq9
  have N9' : Fr n0 L9 := by rw [lq9]; exact N9
  have ks11 := own_c ks8 st9
  have Tm12 : own_T Z T9.heap bq9 tq9 kq9 v2 := ⟨Eq9, Fc9, Fv9, Vq9, ⟨_, _, Fh9, Fi9, Or.inl ⟨rfl, rfl⟩⟩, nq9, hcr⟩
  have ks13 : own_R p e below (A0) (T9.setTop (mkF m 28 #[vI p0, vI p1, vI p2, vI p3, vI p4, vI v2, vI v4, .unset, .unset, .unset, .unset, .unset, .unset, .unset, .unset, .unset, .unset, .unset, .unset, .unset, .unset, .unset, .unset] [(.float FP.fconst1), (.ref bq9), (.ref b6), (.ref b6)])) := fun t k => ks11 t (by
    refine XS.fconst1 X9.here hx rfl (hb hby at_27) rfl ?_
    exact k)
  have f15 := (A6.keep Kq9)
  have f16 := (F_id_b6.keep Kq9 nin0)
  have f17 := (F_score_b6.keep Kq9 nin0)
  obtain ⟨_, _, ⟨T14, L14, k14, n14⟩, -, X14, ⟨Lc14, hQ14, lq14, yq14, zq14⟩, st14⟩ := X9.specialBack hx (y := Y5) rfl hown (mvT hZ (own_w hw 29 rfl)) (mvT hZ (own_w hw 30 rfl)) (mvT hZ (own_w hw 31 rfl)) (by decide) (backOf (W := 1) (rm6 l Z a0 hw [] b6 bq9 FP.fconst1 T9.heap n0 Zn9 f15 f16 f17 g_b6) hZ (own_w hw 31 rfl) (own_w hw 2 rfl) (by decide) (by decide)) (g := (mkF m 28 #[vI p0, vI p1, vI p2, vI p3, vI p4, vI v2, vI v4, .unset, .unset, .unset, .unset, .unset, .unset, .unset, .unset, .unset, .unset, .unset, .unset, .unset, .unset, .unset, .unset] [(.float FP.fconst1), (.ref bq9), (.ref b6), (.ref b6)])) rfl (by rw [hml]; rfl) (Steps.refl _) (a := b6) (argsL := [(.ref bq9), (.float FP.fconst1)]) (rest := [(.ref b6)]) (lenOf pd_5 rfl) rfl (by show 2 * 0 + _ ≤ _; exact Nat.le_of_eq rfl) (hb hby at_28) (fun _ _ => ⟨rfl, rfl, (by decide : 3 + 0 ≤ _), (by decide : 7 + 0 ≤ _)⟩)
  dsimp only [Pt.U, Pt.locs, Pt.cells, Pt.slots] at X14 lq14 yq14 zq14 st14 hQ14
  obtain rfl : k14 = 3 := yq14
  obtain rfl : n14 = 7 := zq14
  obtain ⟨rfl, Nq14, Kq14, Fi14⟩ := hQ14
  have N14 := Fr.app N9' Nq14
  have KH14 : Keep h0 T14.heap [] := KH9.trans Kq14 (allS (Or.inr sz_b6) all0)
  have Zn14 : n0 ≤ T14.heap.size := Nat.le_trans Zn9 Kq14.1
  have N14' : Fr n0 L14 := by rw [lq14]; exact N14
  have ks18 := own_ct ks13 st14
  have ks19 : own_R p e below (A0) (T14.setTop (mkF m 33 #[vI p0, vI p1, vI p2, vI p3, vI p4, vI v2, vI v4, vR b6, .unset, .unset, .unset, .unset, .unset, .unset, .unset, .unset, .unset, .unset, .unset, .unset, .unset, .unset, .unset] [])) := fun t k => ks18 t (by
    refine XS.astore X14.here hx rfl (hb hby at_31) rfl rfl (l' := #[vI p0, vI p1, vI p2, vI p3, vI p4, vI v2, vI v4, vR b6, .unset, .unset, .unset, .unset, .unset, .unset, .unset, .unset, .unset, .unset, .unset, .unset, .unset, .unset, .unset]) rfl ?_
    exact k)
  have f20 := (f15.keep Kq14)
  have f21 := (Eq9.keep Kq14)
  have f22 := (Vq9.keep Kq14 (ninS (Ne.symm ne_b6_tq9) nin0))
  obtain ⟨T23, h23, X23, e23, E23, A23, D23, -, st23⟩ := newO X14 hx hZ hown (own_w hw 0 rfl) (own_w hw 1 rfl) (own_w hw 2 rfl) rfl (g := (mkF m 33 #[vI p0, vI p1, vI p2, vI p3, vI p4, vI v2, vI v4, vR b6, .unset, .unset, .unset, .unset, .unset, .unset, .unset, .unset, .unset, .unset, .unset, .unset, .unset, .unset, .unset] [])) rfl (hb hby at_33) (by decide) (by decide)
  obtain ⟨b23, g23⟩ : ∃ z, z = T14.heap.size := ⟨_, rfl⟩
  rw [← g23] at A23 D23 st23
  have ne_b6_b23 := nlg f20.lt g23
  have ne_bq9_b23 := nlg f21.lt g23
  have ne_tq9_b23 := nlg f22.lt g23
  have g_b23 : n0 ≤ b23 := Nat.le_trans Zn14 (Nat.le_of_eq g23.symm)
  have sz_b23 : h0.size ≤ b23 := Nat.le_trans KH14.1 (Nat.le_of_eq g23.symm)
  have KH23 : Keep h0 h23 [] := KH14.ext E23
  have Zn23 : n0 ≤ h23.size := Nat.le_trans Zn14 E23.1
  have F_id_b23 : Fld Z h23 b23 "com/example/carved_corpus/carvedcorpus/Hit" "id" "Ljava/lang/String;" .null := D23 (Or.inr (own_w hw 34 rfl)) (ty := (.object "java/lang/String")) (by decide)
  have F_score_b23 : Fld Z h23 b23 "com/example/carved_corpus/carvedcorpus/Hit" "score" "F" (.float (0 : UInt32)) := D23 (Or.inr (own_w hw 36 rfl)) (ty := .float) (by decide)
  have ks24 := own_c ks19 st23
  have ks25 : own_R p e below (A0) (T23.setTop (mkF m 39 #[vI p0, vI p1, vI p2, vI p3, vI p4, vI v2, vI v4, vR b6, .unset, .unset, .unset, .unset, .unset, .unset, .unset, .unset, .unset, .unset, .unset, .unset, .unset, .unset, .unset] [(.int v4), (.ref b23), (.ref b23)])) := fun t k => ks24 t (by
    refine XS.dup X23.here hx rfl (hb hby at_36) rfl rfl ?_
    refine XS.iload X23.here hx rfl (hb hby at_37) rfl ?_
    exact k)
  have f27 := own_sta_keep S9 KH23
  obtain ⟨_, _, ⟨T26, L26, k26, n26⟩, -, X26, ⟨Lc26, hQ26, lq26, yq26, zq26⟩, st26⟩ := Jvm.LawKit.callS X23 hx (y := Y4) hown (mvT hZ (own_w hw 3 rfl)) (mvT hZ (own_w hw 4 rfl)) (mvT hZ (own_w hw 5 rfl)) (mvT hZ (own_w hw 6 rfl)) (by decide) (backOf (W := 2) (rm1 l Z a0 hw [] v4 y9 h23 n0 Zn23 f27 P9 hPn) hZ (own_w hw 6 rfl) (own_w hw 5 rfl) (by decide) (by decide)) (g := (mkF m 39 #[vI p0, vI p1, vI p2, vI p3, vI p4, vI v2, vI v4, vR b6, .unset, .unset, .unset, .unset, .unset, .unset, .unset, .unset, .unset, .unset, .unset, .unset, .unset, .unset, .unset] [(.int v4), (.ref b23), (.ref b23)])) rfl (by rw [hml]; rfl) (argsL := [(.int v4)]) (rest := [(.ref b23), (.ref b23)]) (lenOf pd_0 rfl) rfl (by show 2 * 0 + _ ≤ _; exact Nat.le_of_eq rfl) (hb hby at_39) (fun _ _ => ⟨rfl, e23, (by decide : 4 + 2 ≤ _), (by decide : 9 + 5 ≤ _)⟩)
  dsimp only [Pt.U, Pt.locs, Pt.cells, Pt.slots] at X26 lq26 yq26 zq26 st26 hQ26
  obtain rfl : k26 = 6 := yq26
  obtain rfl : n26 = 14 := zq26
  have f28 := (f20.ext E23)
  have f29 := (f21.ext E23)
  have f30 := (f22.ext E23)
  obtain ⟨bq26, tq26, kq26, rfl, Nq26, Kq26, g_bq26, szq26, g_tq26, sq_tq26, nq26, Eq26, Fc26, Fv26, Fh26, Fi26, Vq26⟩ := hQ26
  have N26 := Fr.app N14' Nq26
  have KH26 : Keep h0 T26.heap [] := KH23.trans Kq26 all0
  have Zn26 : n0 ≤ T26.heap.size := Nat.le_trans Zn23 Kq26.1
  have ne_b6_bq26 := nls f28.lt szq26
  have ne_bq9_bq26 := nls f29.lt szq26
  have ne_tq9_bq26 := nls f30.lt szq26
  have ne_b23_bq26 := nls A23.lt szq26
  have sz_bq26 : h0.size ≤ bq26 := Nat.le_trans KH23.1 szq26
  have ne_b6_tq26 := nls f28.lt sq_tq26
  have ne_bq9_tq26 := nls f29.lt sq_tq26
  have ne_tq9_tq26 := nls f30.lt sq_tq26
  have ne_b23_tq26 := nls A23.lt sq_tq26
  have sz_tq26 : h0.size ≤ tq26 := Nat.le_trans KH23.1 sq_tq26
  have N26' : Fr n0 L26 := by rw [lq26]; exact N26
  have ks31 := own_c ks25 st26
  have Tm32 : own_T Z T26.heap bq26 tq26 kq26 v4 := ⟨Eq26, Fc26, Fv26, Vq26, ⟨_, _, Fh26, Fi26, Or.inl ⟨rfl, rfl⟩⟩, nq26, hcn⟩
  have ks33 : own_R p e below (A0) (T26.setTop (mkF m 44 #[vI p0, vI p1, vI p2, vI p3, vI p4, vI v2, vI v4, vR b6, .unset, .unset, .unset, .unset, .unset, .unset, .unset, .unset, .unset, .unset, .unset, .unset, .unset, .unset, .unset] [(.float (1056964608 : UInt32)), (.ref bq26), (.ref b23), (.ref b23)])) := fun t k => ks31 t (by
    refine X26.ldcFloatC hx hown (mvT hZ (own_w hw 37 rfl)) (g := (mkF m 42 #[vI p0, vI p1, vI p2, vI p3, vI p4, vI v2, vI v4, vR b6, .unset, .unset, .unset, .unset, .unset, .unset, .unset, .unset, .unset, .unset, .unset, .unset, .unset, .unset, .unset] [(.ref bq26), (.ref b23), (.ref b23)])) rfl (hb hby at_42) _ ?_
    exact k)
  have f35 := (A23.keep Kq26)
  have f36 := (F_id_b23.keep Kq26 nin0)
  have f37 := (F_score_b23.keep Kq26 nin0)
  obtain ⟨_, _, ⟨T34, L34, k34, n34⟩, -, X34, ⟨Lc34, hQ34, lq34, yq34, zq34⟩, st34⟩ := X26.specialBack hx (y := Y5) rfl hown (mvT hZ (own_w hw 29 rfl)) (mvT hZ (own_w hw 30 rfl)) (mvT hZ (own_w hw 31 rfl)) (by decide) (backOf (W := 1) (rm6 l Z a0 hw [] b23 bq26 (1056964608 : UInt32) T26.heap n0 Zn26 f35 f36 f37 g_b23) hZ (own_w hw 31 rfl) (own_w hw 2 rfl) (by decide) (by decide)) (g := (mkF m 44 #[vI p0, vI p1, vI p2, vI p3, vI p4, vI v2, vI v4, vR b6, .unset, .unset, .unset, .unset, .unset, .unset, .unset, .unset, .unset, .unset, .unset, .unset, .unset, .unset, .unset] [(.float (1056964608 : UInt32)), (.ref bq26), (.ref b23), (.ref b23)])) rfl (by rw [hml]; rfl) (Steps.refl _) (a := b23) (argsL := [(.ref bq26), (.float (1056964608 : UInt32))]) (rest := [(.ref b23)]) (lenOf pd_5 rfl) rfl (by show 2 * 0 + _ ≤ _; exact Nat.le_of_eq rfl) (hb hby at_44) (fun _ _ => ⟨rfl, rfl, (by decide : 6 + 0 ≤ _), (by decide : 14 + 0 ≤ _)⟩)
  dsimp only [Pt.U, Pt.locs, Pt.cells, Pt.slots] at X34 lq34 yq34 zq34 st34 hQ34
  obtain rfl : k34 = 6 := yq34
  obtain rfl : n34 = 14 := zq34
  obtain ⟨rfl, Nq34, Kq34, Fi34⟩ := hQ34
  have N34 := Fr.app N26' Nq34
  have KH34 : Keep h0 T34.heap [] := KH26.trans Kq34 (allS (Or.inr sz_b23) all0)
  have Zn34 : n0 ≤ T34.heap.size := Nat.le_trans Zn26 Kq34.1
  have N34' : Fr n0 L34 := by rw [lq34]; exact N34
  have ks38 := own_ct ks33 st34
  have ks39 : own_R p e below (A0) (T34.setTop (mkF m 55 #[vI p0, vI p1, vI p2, vI p3, vI p4, vI v2, vI v4, vR b6, vR b23, .unset, .unset, .unset, .unset, .unset, .unset, .unset, .unset, .unset, .unset, .unset, .unset, .unset, .unset] [(.int 22), (.int (p2 &&& (31 : Int32)))])) := fun t k => ks38 t (by
    refine XS.astore X34.here hx rfl (hb hby at_47) rfl rfl (l' := #[vI p0, vI p1, vI p2, vI p3, vI p4, vI v2, vI v4, vR b6, vR b23, .unset, .unset, .unset, .unset, .unset, .unset, .unset, .unset, .unset, .unset, .unset, .unset, .unset, .unset]) rfl ?_
    refine XS.iloadN X34.here hx rfl (hb hby at_49) rfl ?_
    refine XS.bipush X34.here hx rfl (hb hby at_50) ?_
    show Steps p.tables e below (T34.setTop (mkF m 52 #[vI p0, vI p1, vI p2, vI p3, vI p4, vI v2, vI v4, vR b6, vR b23, .unset, .unset, .unset, .unset, .unset, .unset, .unset, .unset, .unset, .unset, .unset, .unset, .unset, .unset] [(.int 31), (.int p2)])) _
    refine XS.iand X34.here hx rfl (hb hby at_52) rfl ?_
    refine XS.bipush X34.here hx rfl (hb hby at_53) ?_
    exact k)
  obtain ⟨_, _, ⟨T40, L40, k40, n40⟩, -, X40, ⟨Lc40, hQ40, lq40, yq40, zq40⟩, st40⟩ := Jvm.LawKit.callS X34 hx (y := Y11) hown (mvT hZ (own_w hw 38 rfl)) (mvT hZ (own_w hw 39 rfl)) (mvT hZ (own_w hw 40 rfl)) (mvT hZ (own_w hw 41 rfl)) (by decide) (backOf (W := 0) (rm7g l Z a0 hw [] (p2 &&& (31 : Int32)) (22 : Int32) T34.heap n0 Zn34 ) hZ (own_w hw 41 rfl) (own_w hw 40 rfl) (by decide) (by decide)) (g := (mkF m 55 #[vI p0, vI p1, vI p2, vI p3, vI p4, vI v2, vI v4, vR b6, vR b23, .unset, .unset, .unset, .unset, .unset, .unset, .unset, .unset, .unset, .unset, .unset, .unset, .unset, .unset] [(.int 22), (.int (p2 &&& (31 : Int32)))])) rfl (by rw [hml]; rfl) (argsL := [(.int (p2 &&& (31 : Int32))), (.int 22)]) (rest := []) (lenOf pd_6 rfl) rfl (by show 2 * 0 + _ ≤ _; exact Nat.le_of_eq rfl) (hb hby at_55) (fun _ _ => ⟨rfl, rfl, (by decide : 6 + 0 ≤ _), (by decide : 14 + 0 ≤ _)⟩)
  dsimp only [Pt.U, Pt.locs, Pt.cells, Pt.slots] at X40 lq40 yq40 zq40 st40 hQ40
  obtain rfl : k40 = 6 := yq40
  obtain rfl : n40 = 14 := zq40
  obtain ⟨rfl, Nq40, eq40⟩ := hQ40
  have N40 := Fr.app N34' Nq40
  have N40' : Fr n0 L40 := by rw [lq40]; exact N40
  have ks41 := own_c ks39 st40
  have ks42 : own_R p e below (A0) (T40.setTop (mkF m 58 #[vI p0, vI p1, vI p2, vI p3, vI p4, vI v2, vI v4, vR b6, vR b23, .unset, .unset, .unset, .unset, .unset, .unset, .unset, .unset, .unset, .unset, .unset, .unset, .unset, .unset] [(.int (own_min (p2 &&& (31 : Int32)) (22 : Int32)))])) := ks41
  obtain ⟨v43, hv43⟩ : ∃ z : Int32, z = (own_min (p2 &&& (31 : Int32)) (22 : Int32)) := ⟨_, rfl⟩
  rw [← hv43] at ks42
  have ks44 : own_R p e below (A0) (T40.setTop (mkF m 68 #[vI p0, vI p1, vI p2, vI p3, vI p4, vI v2, vI v4, vR b6, vR b23, vI v43, .unset, .unset, .unset, .unset, .unset, .unset, .unset, .unset, .unset, .unset, .unset, .unset, .unset] [(.int 22), (.int (((p2.toUInt32 >>> ((5 : Int32) &&& 31).toUInt32).toInt32) &&& (31 : Int32)))])) := fun t k => ks42 t (by
    refine XS.istore X40.here hx rfl (hb hby at_58) rfl (l' := #[vI p0, vI p1, vI p2, vI p3, vI p4, vI v2, vI v4, vR b6, vR b23, vI v43, .unset, .unset, .unset, .unset, .unset, .unset, .unset, .unset, .unset, .unset, .unset, .unset, .unset]) rfl ?_
    refine XS.iloadN X40.here hx rfl (hb hby at_60) rfl ?_
    refine XS.iconst X40.here hx rfl (hb hby at_61) ?_
    show Steps p.tables e below (T40.setTop (mkF m 62 #[vI p0, vI p1, vI p2, vI p3, vI p4, vI v2, vI v4, vR b6, vR b23, vI v43, .unset, .unset, .unset, .unset, .unset, .unset, .unset, .unset, .unset, .unset, .unset, .unset, .unset] [(.int 5), (.int p2)])) _
    refine XS.iushr X40.here hx rfl (hb hby at_62) rfl ?_
    refine XS.bipush X40.here hx rfl (hb hby at_63) ?_
    refine XS.iand X40.here hx rfl (hb hby at_65) rfl ?_
    refine XS.bipush X40.here hx rfl (hb hby at_66) ?_
    exact k)
  obtain ⟨_, _, ⟨T45, L45, k45, n45⟩, -, X45, ⟨Lc45, hQ45, lq45, yq45, zq45⟩, st45⟩ := Jvm.LawKit.callS X40 hx (y := Y11) hown (mvT hZ (own_w hw 38 rfl)) (mvT hZ (own_w hw 39 rfl)) (mvT hZ (own_w hw 40 rfl)) (mvT hZ (own_w hw 41 rfl)) (by decide) (backOf (W := 0) (rm7g l Z a0 hw [] (((p2.toUInt32 >>> ((5 : Int32) &&& 31).toUInt32).toInt32) &&& (31 : Int32)) (22 : Int32) T34.heap n0 Zn34 ) hZ (own_w hw 41 rfl) (own_w hw 40 rfl) (by decide) (by decide)) (g := (mkF m 68 #[vI p0, vI p1, vI p2, vI p3, vI p4, vI v2, vI v4, vR b6, vR b23, vI v43, .unset, .unset, .unset, .unset, .unset, .unset, .unset, .unset, .unset, .unset, .unset, .unset, .unset] [(.int 22), (.int (((p2.toUInt32 >>> ((5 : Int32) &&& 31).toUInt32).toInt32) &&& (31 : Int32)))])) rfl (by rw [hml]; rfl) (argsL := [(.int (((p2.toUInt32 >>> ((5 : Int32) &&& 31).toUInt32).toInt32) &&& (31 : Int32))), (.int 22)]) (rest := []) (lenOf pd_6 rfl) rfl (by show 2 * 0 + _ ≤ _; exact Nat.le_of_eq rfl) (hb hby at_68) (fun _ _ => ⟨rfl, eq40, (by decide : 6 + 0 ≤ _), (by decide : 14 + 0 ≤ _)⟩)
  dsimp only [Pt.U, Pt.locs, Pt.cells, Pt.slots] at X45 lq45 yq45 zq45 st45 hQ45
  obtain rfl : k45 = 6 := yq45
  obtain rfl : n45 = 14 := zq45
  obtain ⟨rfl, Nq45, eq45⟩ := hQ45
  have N45 := Fr.app N40' Nq45
  have N45' : Fr n0 L45 := by rw [lq45]; exact N45
  have ks46 := own_c ks44 st45
  have ks47 : own_R p e below (A0) (T45.setTop (mkF m 71 #[vI p0, vI p1, vI p2, vI p3, vI p4, vI v2, vI v4, vR b6, vR b23, vI v43, .unset, .unset, .unset, .unset, .unset, .unset, .unset, .unset, .unset, .unset, .unset, .unset, .unset] [(.int (own_min (((p2.toUInt32 >>> ((5 : Int32) &&& 31).toUInt32).toInt32) &&& (31 : Int32)) (22 : Int32)))])) := ks46
  obtain ⟨v48, hv48⟩ : ∃ z : Int32, z = (own_min (((p2.toUInt32 >>> ((5 : Int32) &&& 31).toUInt32).toInt32) &&& (31 : Int32)) (22 : Int32)) := ⟨_, rfl⟩
  rw [← hv48] at ks47
  have ks49 : own_R p e below (A0) (T45.setTop (mkF m 73 #[vI p0, vI p1, vI p2, vI p3, vI p4, vI v2, vI v4, vR b6, vR b23, vI v43, vI v48, .unset, .unset, .unset, .unset, .unset, .unset, .unset, .unset, .unset, .unset, .unset, .unset] [])) := fun t k => ks47 t (by
    refine XS.istore X45.here hx rfl (hb hby at_71) rfl (l' := #[vI p0, vI p1, vI p2, vI p3, vI p4, vI v2, vI v4, vR b6, vR b23, vI v43, vI v48, .unset, .unset, .unset, .unset, .unset, .unset, .unset, .unset, .unset, .unset, .unset, .unset]) rfl ?_
    exact k)
  have hl0a : ¬ v43 < 0 := by rw [hv43]; exact (own_mr _).1
  have hl1a : ¬ (22 : Int32) < v43 := by rw [hv43]; exact (own_mr _).2
  have hl0b : ¬ v48 < 0 := by rw [hv48]; exact (own_mr _).1
  have hl1b : ¬ (22 : Int32) < v48 := by rw [hv48]; exact (own_mr _).2
  have ks52 : own_R p e below (A0) (T45.setTop (mkF m 77 #[vI p0, vI p1, vI p2, vI p3, vI p4, vI v2, vI v4, vR b6, vR b23, vI v43, vI v48, .unset, .unset, .unset, .unset, .unset, .unset, .unset, .unset, .unset, .unset, .unset, .unset] [(.int (p4 &&& (2 : Int32)))])) := fun t k => ks49 t (by
    refine XS.iload X45.here hx rfl (hb hby at_73) rfl ?_
    refine XS.iconst X45.here hx rfl (hb hby at_75) ?_
    refine XS.iand X45.here hx rfl (hb hby at_76) rfl ?_
    exact k)
  obtain ⟨v51, hv51⟩ : ∃ z : Int32, z = (if (p4 &&& (2 : Int32)) = (0 : Int32) then (0 : Int32) else (1 : Int32)) := ⟨_, rfl⟩
  have ks53 : own_R p e below (A0) (T45.setTop (mkF m 85 #[vI p0, vI p1, vI p2, vI p3, vI p4, vI v2, vI v4, vR b6, vR b23, vI v43, vI v48, .unset, .unset, .unset, .unset, .unset, .unset, .unset, .unset, .unset, .unset, .unset, .unset] [(.int v51)])) := fun t k => ks52 t (by
    by_cases hc50 : (p4 &&& (2 : Int32)) = (0 : Int32)
    · skip
      have qq54 : v51 = (0 : Int32) := by rw [hv51, if_pos hc50]
      rw [qq54] at k
      refine XS.ifYes X45.here hx rfl (pc0 := 77) (pc' := 84) rfl (hb hby at_77) rfl ((if0 _ _).trans (teq hc50).1) (by decide) (by decide) ?_
      refine XS.iconst X45.here hx rfl (hb hby at_84) ?_
      exact k
    · skip
      have qq55 : v51 = (1 : Int32) := by rw [hv51, if_neg hc50]
      rw [qq55] at k
      refine XS.ifNo X45.here hx rfl (hb hby at_77) rfl ((if0 _ _).trans (feq hc50).1) ?_
      refine XS.iconst X45.here hx rfl (hb hby at_80) ?_
      refine XS.goto X45.here hx rfl (pc0 := 81) (pc' := 85) rfl (hb hby at_81) (by decide) (by decide) ?_
      exact k)
  have ks58 : own_R p e below (A0) (T45.setTop (mkF m 91 #[vI p0, vI p1, vI p2, vI p3, vI p4, vI v2, vI v4, vR b6, vR b23, vI v43, vI v48, vI v51, .unset, .unset, .unset, .unset, .unset, .unset, .unset, .unset, .unset, .unset, .unset] [(.int (p4 &&& (1 : Int32)))])) := fun t k => ks53 t (by
    refine XS.istore X45.here hx rfl (hb hby at_85) rfl (l' := #[vI p0, vI p1, vI p2, vI p3, vI p4, vI v2, vI v4, vR b6, vR b23, vI v43, vI v48, vI v51, .unset, .unset, .unset, .unset, .unset, .unset, .unset, .unset, .unset, .unset, .unset]) rfl ?_
    refine XS.iload X45.here hx rfl (hb hby at_87) rfl ?_
    refine XS.iconst X45.here hx rfl (hb hby at_89) ?_
    show Steps p.tables e below (T45.setTop (mkF m 90 #[vI p0, vI p1, vI p2, vI p3, vI p4, vI v2, vI v4, vR b6, vR b23, vI v43, vI v48, vI v51, .unset, .unset, .unset, .unset, .unset, .unset, .unset, .unset, .unset, .unset, .unset] [(.int 1), (.int p4)])) _
    refine XS.iand X45.here hx rfl (hb hby at_90) rfl ?_
    exact k)
  obtain ⟨v57, hv57⟩ : ∃ z : Int32, z = (if (p4 &&& (1 : Int32)) = (0 : Int32) then (0 : Int32) else (1 : Int32)) := ⟨_, rfl⟩
  have ks59 : own_R p e below (A0) (T45.setTop (mkF m 99 #[vI p0, vI p1, vI p2, vI p3, vI p4, vI v2, vI v4, vR b6, vR b23, vI v43, vI v48, vI v51, .unset, .unset, .unset, .unset, .unset, .unset, .unset, .unset, .unset, .unset, .unset] [(.int v57)])) := fun t k => ks58 t (by
    by_cases hc56 : (p4 &&& (1 : Int32)) = (0 : Int32)
    · skip
      have qq60 : v57 = (0 : Int32) := by rw [hv57, if_pos hc56]
      rw [qq60] at k
      refine XS.ifYes X45.here hx rfl (pc0 := 91) (pc' := 98) rfl (hb hby at_91) rfl ((if0 _ _).trans (teq hc56).1) (by decide) (by decide) ?_
      refine XS.iconst X45.here hx rfl (hb hby at_98) ?_
      exact k
    · skip
      have qq61 : v57 = (1 : Int32) := by rw [hv57, if_neg hc56]
      rw [qq61] at k
      refine XS.ifNo X45.here hx rfl (hb hby at_91) rfl ((if0 _ _).trans (feq hc56).1) ?_
      refine XS.iconst X45.here hx rfl (hb hby at_94) ?_
      refine XS.goto X45.here hx rfl (pc0 := 95) (pc' := 99) rfl (hb hby at_95) (by decide) (by decide) ?_
      exact k)
  have ks62 : own_R p e below (A0) (T45.setTop (mkF m 108 #[vI p0, vI p1, vI p2, vI p3, vI p4, vI v2, vI v4, vR b6, vR b23, vI v43, vI v48, vI v51, vI v57, .unset, .unset, .unset, .unset, .unset, .unset, .unset, .unset, .unset, .unset] [(.ref b23), (.ref b6), (.int v43), (.int p0)])) := fun t k => ks59 t (by
    refine XS.istore X45.here hx rfl (hb hby at_99) rfl (l' := #[vI p0, vI p1, vI p2, vI p3, vI p4, vI v2, vI v4, vR b6, vR b23, vI v43, vI v48, vI v51, vI v57, .unset, .unset, .unset, .unset, .unset, .unset, .unset, .unset, .unset, .unset]) rfl ?_
    refine XS.iloadN X45.here hx rfl (hb hby at_101) rfl ?_
    refine XS.iload X45.here hx rfl (hb hby at_102) rfl ?_
    show Steps p.tables e below (T45.setTop (mkF m 104 #[vI p0, vI p1, vI p2, vI p3, vI p4, vI v2, vI v4, vR b6, vR b23, vI v43, vI v48, vI v51, vI v57, .unset, .unset, .unset, .unset, .unset, .unset, .unset, .unset, .unset, .unset] [(.int v43), (.int p0)])) _
    refine XS.aload X45.here hx rfl (hb hby at_104) rfl rfl ?_
    refine XS.aload X45.here hx rfl (hb hby at_106) rfl rfl ?_
    exact k)
  have f64 := ((f28.keep Kq26).keep Kq34)
  have f65 := (f35.keep Kq34)
  obtain ⟨_, _, ⟨T63, L63, k63, n63⟩, -, X63, ⟨Lc63, hQ63, lq63, yq63, zq63⟩, st63⟩ := Jvm.LawKit.callS X45 hx (y := Y19) hown (mvT hZ (own_w hw 42 rfl)) (mvT hZ (own_w hw 43 rfl)) (mvT hZ (own_w hw 44 rfl)) (mvT hZ (own_w hw 45 rfl)) (by decide) (backOf (W := 0) (rm8 l Z a0 hw [] p0 v43 b6 b23 u ku mo T34.heap n0 Zn34 (Oq0.keep KH34 all0) Sd0 Vu0 Mo hl0a hl1a f64 f65) hZ (own_w hw 45 rfl) (own_w hw 44 rfl) (by decide) (by decide)) (g := (mkF m 108 #[vI p0, vI p1, vI p2, vI p3, vI p4, vI v2, vI v4, vR b6, vR b23, vI v43, vI v48, vI v51, vI v57, .unset, .unset, .unset, .unset, .unset, .unset, .unset, .unset, .unset, .unset] [(.ref b23), (.ref b6), (.int v43), (.int p0)])) rfl (by rw [hml]; rfl) (argsL := [(.int p0), (.int v43), (.ref b6), (.ref b23)]) (rest := []) (lenOf pd_7 rfl) rfl (by show 2 * 0 + _ ≤ _; exact Nat.le_of_eq rfl) (hb hby at_108) (fun _ _ => ⟨rfl, eq45, (by decide : 6 + 4 ≤ _), (by decide : 14 + 50 ≤ _)⟩)
  dsimp only [Pt.U, Pt.locs, Pt.cells, Pt.slots] at X63 lq63 yq63 zq63 st63 hQ63
  obtain rfl : k63 = 10 := yq63
  obtain rfl : n63 = 64 := zq63
  have f66 := ((f29.keep Kq26).keep Kq34)
  have f67 := (Eq26.keep Kq34)
  have f68 := ((f30.keep Kq26 nin0).keep Kq34 (ninS ne_tq9_b23 nin0))
  have f69 := (Vq26.keep Kq34 (ninS (Ne.symm ne_b23_tq26) nin0))
  obtain ⟨bq63, rfl, Nq63, Kq63, g_bq63, szq63, Ol63, BB63⟩ := hQ63
  have N63 := Fr.app N45' Nq63
  have KH63 : Keep h0 T63.heap [] := KH34.trans Kq63 all0
  have Zn63 : n0 ≤ T63.heap.size := Nat.le_trans Zn34 Kq63.1
  have ne_b6_bq63 := nls f64.lt szq63
  have ne_bq9_bq63 := nls f66.lt szq63
  have ne_tq9_bq63 := nls f68.lt szq63
  have ne_b23_bq63 := nls f65.lt szq63
  have ne_bq26_bq63 := nls f67.lt szq63
  have ne_tq26_bq63 := nls f69.lt szq63
  have sz_bq63 : h0.size ≤ bq63 := Nat.le_trans KH34.1 szq63
  obtain ⟨ed63, ked63, cap63, Eb63, Fe63, Fz63, Vb63, hcap63, hed63⟩ := own_B_open BB63 (Vu0.ext Ol63.2)
  have ne_ed63_bq9 : ed63 ≠ bq9 := own_ned hed63 hun g_bq9 f66.lt
  have ne_ed63_bq26 : ed63 ≠ bq26 := own_ned hed63 hun g_bq26 f67.lt
  have N63' : Fr n0 L63 := by rw [lq63]; exact N63
  have ks70 := own_c ks62 st63
  have ks71 : own_R p e below (A0) (T63.setTop (mkF m 120 #[vI p0, vI p1, vI p2, vI p3, vI p4, vI v2, vI v4, vR b6, vR b23, vI v43, vI v48, vI v51, vI v57, vR bq63, .unset, .unset, .unset, .unset, .unset, .unset, .unset, .unset, .unset] [(.ref b23), (.ref b6), (.int v48), (.int p1)])) := fun t k => ks70 t (by
    refine XS.astore X63.here hx rfl (hb hby at_111) rfl rfl (l' := #[vI p0, vI p1, vI p2, vI p3, vI p4, vI v2, vI v4, vR b6, vR b23, vI v43, vI v48, vI v51, vI v57, vR bq63, .unset, .unset, .unset, .unset, .unset, .unset, .unset, .unset, .unset]) rfl ?_
    refine XS.iloadN X63.here hx rfl (hb hby at_113) rfl ?_
    refine XS.iload X63.here hx rfl (hb hby at_114) rfl ?_
    show Steps p.tables e below (T63.setTop (mkF m 116 #[vI p0, vI p1, vI p2, vI p3, vI p4, vI v2, vI v4, vR b6, vR b23, vI v43, vI v48, vI v51, vI v57, vR bq63, .unset, .unset, .unset, .unset, .unset, .unset, .unset, .unset, .unset] [(.int v48), (.int p1)])) _
    refine XS.aload X63.here hx rfl (hb hby at_116) rfl rfl ?_
    refine XS.aload X63.here hx rfl (hb hby at_118) rfl rfl ?_
    exact k)
  have f73 := (f64.keep Kq63)
  have f74 := (f65.keep Kq63)
  obtain ⟨_, _, ⟨T72, L72, k72, n72⟩, -, X72, ⟨Lc72, hQ72, lq72, yq72, zq72⟩, st72⟩ := Jvm.LawKit.callS X63 hx (y := Y19) hown (mvT hZ (own_w hw 42 rfl)) (mvT hZ (own_w hw 43 rfl)) (mvT hZ (own_w hw 44 rfl)) (mvT hZ (own_w hw 45 rfl)) (by decide) (backOf (W := 0) (rm8 l Z a0 hw [] p1 v48 b6 b23 u ku mo T63.heap n0 Zn63 (Oq0.keep KH63 all0) Sd0 Vu0 Mo hl0b hl1b f73 f74) hZ (own_w hw 45 rfl) (own_w hw 44 rfl) (by decide) (by decide)) (g := (mkF m 120 #[vI p0, vI p1, vI p2, vI p3, vI p4, vI v2, vI v4, vR b6, vR b23, vI v43, vI v48, vI v51, vI v57, vR bq63, .unset, .unset, .unset, .unset, .unset, .unset, .unset, .unset, .unset] [(.ref b23), (.ref b6), (.int v48), (.int p1)])) rfl (by rw [hml]; rfl) (argsL := [(.int p1), (.int v48), (.ref b6), (.ref b23)]) (rest := []) (lenOf pd_7 rfl) rfl (by show 2 * 0 + _ ≤ _; exact Nat.le_of_eq rfl) (hb hby at_120) (fun _ _ => ⟨rfl, rfl, (by decide : 10 + 4 ≤ _), (by decide : 64 + 50 ≤ _)⟩)
  dsimp only [Pt.U, Pt.locs, Pt.cells, Pt.slots] at X72 lq72 yq72 zq72 st72 hQ72
  obtain rfl : k72 = 14 := yq72
  obtain rfl : n72 = 114 := zq72
  have f75 := (f66.keep Kq63)
  have f76 := (f67.keep Kq63)
  have f77 := (f68.keep Kq63 nin0)
  have f78 := (f69.keep Kq63 nin0)
  obtain ⟨bq72, rfl, Nq72, Kq72, g_bq72, szq72, Ol72, BB72⟩ := hQ72
  have N72 := Fr.app N63' Nq72
  have KH72 : Keep h0 T72.heap [] := KH63.trans Kq72 all0
  have Zn72 : n0 ≤ T72.heap.size := Nat.le_trans Zn63 Kq72.1
  have ne_b6_bq72 := nls f73.lt szq72
  have ne_bq9_bq72 := nls f75.lt szq72
  have ne_tq9_bq72 := nls f77.lt szq72
  have ne_b23_bq72 := nls f74.lt szq72
  have ne_bq26_bq72 := nls f76.lt szq72
  have ne_tq26_bq72 := nls f78.lt szq72
  have ne_bq63_bq72 := nls Eb63.lt szq72
  have ne_ed63_bq72 := nls Vb63.lt szq72
  have sz_bq72 : h0.size ≤ bq72 := Nat.le_trans KH63.1 szq72
  obtain ⟨ed72, ked72, cap72, Eb72, Fe72, Fz72, Vb72, hcap72, hed72⟩ := own_B_open BB72 (Vu0.ext Ol72.2)
  have ne_ed72_bq9 : ed72 ≠ bq9 := own_ned hed72 hun g_bq9 f75.lt
  have ne_ed72_bq26 : ed72 ≠ bq26 := own_ned hed72 hun g_bq26 f76.lt
  have N72' : Fr n0 L72 := by rw [lq72]; exact N72
  have ks79 := own_c ks71 st72
  have ks80 : own_R p e below (A0) (T72.setTop (mkF m 125 #[vI p0, vI p1, vI p2, vI p3, vI p4, vI v2, vI v4, vR b6, vR b23, vI v43, vI v48, vI v51, vI v57, vR bq63, vR bq72, .unset, .unset, .unset, .unset, .unset, .unset, .unset, .unset] [])) := fun t k => ks79 t (by
    refine XS.astore X72.here hx rfl (hb hby at_123) rfl rfl (l' := #[vI p0, vI p1, vI p2, vI p3, vI p4, vI v2, vI v4, vR b6, vR b23, vI v43, vI v48, vI v51, vI v57, vR bq63, vR bq72, .unset, .unset, .unset, .unset, .unset, .unset, .unset, .unset]) rfl ?_
    exact k)
  have f81 := (f73.keep Kq72)
  have f82 := (f75.keep Kq72)
  have f83 := (f77.keep Kq72 nin0)
  have f84 := (f74.keep Kq72)
  have f85 := (f76.keep Kq72)
  have f86 := (f78.keep Kq72 nin0)
  have f87 := (Eb63.keep Kq72)
  have f88 := (Vb63.keep Kq72 nin0)
  obtain ⟨T89, h89, X89, e89, E89, A89, D89, -, st89⟩ := newO X72 hx hZ hown (own_w hw 103 rfl) (own_w hw 104 rfl) (own_w hw 105 rfl) rfl (g := (mkF m 125 #[vI p0, vI p1, vI p2, vI p3, vI p4, vI v2, vI v4, vR b6, vR b23, vI v43, vI v48, vI v51, vI v57, vR bq63, vR bq72, .unset, .unset, .unset, .unset, .unset, .unset, .unset, .unset] [])) rfl (hb hby at_125) (by decide) (by decide)
  obtain ⟨b89, g89⟩ : ∃ z, z = T72.heap.size := ⟨_, rfl⟩
  rw [← g89] at A89 D89 st89
  have ne_b6_b89 := nlg f81.lt g89
  have ne_bq9_b89 := nlg f82.lt g89
  have ne_tq9_b89 := nlg f83.lt g89
  have ne_b23_b89 := nlg f84.lt g89
  have ne_bq26_b89 := nlg f85.lt g89
  have ne_tq26_b89 := nlg f86.lt g89
  have ne_bq63_b89 := nlg f87.lt g89
  have ne_ed63_b89 := nlg f88.lt g89
  have ne_bq72_b89 := nlg Eb72.lt g89
  have ne_ed72_b89 := nlg Vb72.lt g89
  have g_b89 : n0 ≤ b89 := Nat.le_trans Zn72 (Nat.le_of_eq g89.symm)
  have sz_b89 : h0.size ≤ b89 := Nat.le_trans KH72.1 (Nat.le_of_eq g89.symm)
  have KH89 : Keep h0 h89 [] := KH72.ext E89
  have Zn89 : n0 ≤ h89.size := Nat.le_trans Zn72 E89.1
  have F_map_b89 : Fld Z h89 b89 "java/util/HashSet" "map" "Ljava/util/HashMap;" .null := D89 (Or.inl (own_w hw 135 rfl)) (ty := (.object "java/util/HashMap")) (by decide)
  have ks90 := own_c ks80 st89
  have ks91 : own_R p e below (A0) (T89.setTop (mkF m 129 #[vI p0, vI p1, vI p2, vI p3, vI p4, vI v2, vI v4, vR b6, vR b23, vI v43, vI v48, vI v51, vI v57, vR bq63, vR bq72, .unset, .unset, .unset, .unset, .unset, .unset, .unset, .unset] [(.ref b89), (.ref b89)])) := fun t k => ks90 t (by
    refine XS.dup X89.here hx rfl (hb hby at_128) rfl rfl ?_
    exact k)
  obtain ⟨_, _, ⟨T92, L92, k92, n92⟩, -, X92, ⟨Lc92, hQ92, lq92, yq92, zq92⟩, st92⟩ := X89.specialBack hx (y := Y29) rfl hown (mvT hZ (own_w hw 106 rfl)) (mvT hZ (own_w hw 107 rfl)) (mvT hZ (own_w hw 108 rfl)) (by decide) (backOf (W := 1) (rm18 l Z a0 hw [] b89 h89 n0 Zn89 A89 F_map_b89 g_b89) hZ (own_w hw 108 rfl) (own_w hw 105 rfl) (by decide) (by decide)) (g := (mkF m 129 #[vI p0, vI p1, vI p2, vI p3, vI p4, vI v2, vI v4, vR b6, vR b23, vI v43, vI v48, vI v51, vI v57, vR bq63, vR bq72, .unset, .unset, .unset, .unset, .unset, .unset, .unset, .unset] [(.ref b89), (.ref b89)])) rfl (by rw [hml]; rfl) (Steps.refl _) (a := b89) (argsL := []) (rest := [(.ref b89)]) (lenOf pd_4 rfl) rfl (by show 2 * 0 + _ ≤ _; exact Nat.le_of_eq rfl) (hb hby at_129) (fun _ _ => ⟨rfl, e89, (by decide : 15 + 1 ≤ _), (by decide : 115 + 8 ≤ _)⟩)
  dsimp only [Pt.U, Pt.locs, Pt.cells, Pt.slots] at X92 lq92 yq92 zq92 st92 hQ92
  obtain rfl : k92 = 16 := yq92
  obtain rfl : n92 = 123 := zq92
  have f93 := (f81.ext E89)
  have f94 := (f82.ext E89)
  have f95 := (f83.ext E89)
  have f96 := (f84.ext E89)
  have f97 := (f85.ext E89)
  have f98 := (f86.ext E89)
  have f99 := (f87.ext E89)
  have f100 := (f88.ext E89)
  have f101 := (Eb72.ext E89)
  have f102 := (Vb72.ext E89)
  obtain ⟨bq92, rfl, Nq92, Kq92, g_bq92, szq92, Fp92, Eh92, Ft92, Fh92, Fm92, Fs92⟩ := hQ92
  have N92 := Fr.app N72' Nq92
  have KH92 : Keep h0 T92.heap [] := KH89.trans Kq92 (allS (Or.inr sz_b89) all0)
  have Zn92 : n0 ≤ T92.heap.size := Nat.le_trans Zn89 Kq92.1
  have ne_b6_bq92 := nls f93.lt szq92
  have ne_bq9_bq92 := nls f94.lt szq92
  have ne_tq9_bq92 := nls f95.lt szq92
  have ne_b23_bq92 := nls f96.lt szq92
  have ne_bq26_bq92 := nls f97.lt szq92
  have ne_tq26_bq92 := nls f98.lt szq92
  have ne_bq63_bq92 := nls f99.lt szq92
  have ne_ed63_bq92 := nls f100.lt szq92
  have ne_bq72_bq92 := nls f101.lt szq92
  have ne_ed72_bq92 := nls f102.lt szq92
  have ne_b89_bq92 := nls A89.lt szq92
  have sz_bq92 : h0.size ≤ bq92 := Nat.le_trans KH89.1 szq92
  have N92' : Fr n0 L92 := by rw [lq92]; exact N92
  have ks103 := own_ct ks91 st92
  have ks104 : own_R p e below (A0) (T92.setTop (mkF m 138 #[vI p0, vI p1, vI p2, vI p3, vI p4, vI v2, vI v4, vR b6, vR b23, vI v43, vI v48, vI v51, vI v57, vR bq63, vR bq72, vR b89, .unset, .unset, .unset, .unset, .unset, .unset, .unset] [(.int v2), (.ref b89)])) := fun t k => ks103 t (by
    refine XS.astore X92.here hx rfl (hb hby at_132) rfl rfl (l' := #[vI p0, vI p1, vI p2, vI p3, vI p4, vI v2, vI v4, vR b6, vR b23, vI v43, vI v48, vI v51, vI v57, vR bq63, vR bq72, vR b89, .unset, .unset, .unset, .unset, .unset, .unset, .unset]) rfl ?_
    refine XS.aload X92.here hx rfl (hb hby at_134) rfl rfl ?_
    refine XS.iload X92.here hx rfl (hb hby at_136) rfl ?_
    exact k)
  have f106 := own_sta_keep S9 KH92
  obtain ⟨_, _, ⟨T105, L105, k105, n105⟩, -, X105, ⟨Lc105, hQ105, lq105, yq105, zq105⟩, st105⟩ := Jvm.LawKit.callS X92 hx (y := Y4) hown (mvT hZ (own_w hw 3 rfl)) (mvT hZ (own_w hw 4 rfl)) (mvT hZ (own_w hw 5 rfl)) (mvT hZ (own_w hw 6 rfl)) (by decide) (backOf (W := 1) (rm1 l Z a0 hw [] v2 y9 T92.heap n0 Zn92 f106 P9 hPr) hZ (own_w hw 6 rfl) (own_w hw 5 rfl) (by decide) (by decide)) (g := (mkF m 138 #[vI p0, vI p1, vI p2, vI p3, vI p4, vI v2, vI v4, vR b6, vR b23, vI v43, vI v48, vI v51, vI v57, vR bq63, vR bq72, vR b89, .unset, .unset, .unset, .unset, .unset, .unset, .unset] [(.int v2), (.ref b89)])) rfl (by rw [hml]; rfl) (argsL := [(.int v2)]) (rest := [(.ref b89)]) (lenOf pd_0 rfl) rfl (by show 2 * 0 + _ ≤ _; exact Nat.le_of_eq rfl) (hb hby at_138) (fun _ _ => ⟨rfl, rfl, (by decide : 16 + 2 ≤ _), (by decide : 123 + 5 ≤ _)⟩)
  dsimp only [Pt.U, Pt.locs, Pt.cells, Pt.slots] at X105 lq105 yq105 zq105 st105 hQ105
  obtain rfl : k105 = 18 := yq105
  obtain rfl : n105 = 128 := zq105
  have f107 := (f93.keep Kq92)
  have f108 := (f94.keep Kq92)
  have f109 := (f95.keep Kq92 (ninS ne_tq9_b89 nin0))
  have f110 := (f96.keep Kq92)
  have f111 := (f97.keep Kq92)
  have f112 := (f98.keep Kq92 (ninS ne_tq26_b89 nin0))
  have f113 := (f99.keep Kq92)
  have f114 := (f100.keep Kq92 (ninS ne_ed63_b89 nin0))
  have f115 := (f101.keep Kq92)
  have f116 := (f102.keep Kq92 (ninS ne_ed72_b89 nin0))
  have f117 := (A89.keep Kq92)
  obtain ⟨bq105, tq105, kq105, rfl, Nq105, Kq105, g_bq105, szq105, g_tq105, sq_tq105, nq105, Eq105, Fc105, Fv105, Fh105, Fi105, Vq105⟩ := hQ105
  have N105 := Fr.app N92' Nq105
  have KH105 : Keep h0 T105.heap [] := KH92.trans Kq105 all0
  have Zn105 : n0 ≤ T105.heap.size := Nat.le_trans Zn92 Kq105.1
  have ne_b6_bq105 := nls f107.lt szq105
  have ne_bq9_bq105 := nls f108.lt szq105
  have ne_tq9_bq105 := nls f109.lt szq105
  have ne_b23_bq105 := nls f110.lt szq105
  have ne_bq26_bq105 := nls f111.lt szq105
  have ne_tq26_bq105 := nls f112.lt szq105
  have ne_bq63_bq105 := nls f113.lt szq105
  have ne_ed63_bq105 := nls f114.lt szq105
  have ne_bq72_bq105 := nls f115.lt szq105
  have ne_ed72_bq105 := nls f116.lt szq105
  have ne_b89_bq105 := nls f117.lt szq105
  have ne_bq92_bq105 := nls Eh92.lt szq105
  have sz_bq105 : h0.size ≤ bq105 := Nat.le_trans KH92.1 szq105
  have ne_b6_tq105 := nls f107.lt sq_tq105
  have ne_bq9_tq105 := nls f108.lt sq_tq105
  have ne_tq9_tq105 := nls f109.lt sq_tq105
  have ne_b23_tq105 := nls f110.lt sq_tq105
  have ne_bq26_tq105 := nls f111.lt sq_tq105
  have ne_tq26_tq105 := nls f112.lt sq_tq105
  have ne_bq63_tq105 := nls f113.lt sq_tq105
  have ne_ed63_tq105 := nls f114.lt sq_tq105
  have ne_bq72_tq105 := nls f115.lt sq_tq105
  have ne_ed72_tq105 := nls f116.lt sq_tq105
  have ne_b89_tq105 := nls f117.lt sq_tq105
  have ne_bq92_tq105 := nls Eh92.lt sq_tq105
  have sz_tq105 : h0.size ≤ tq105 := Nat.le_trans KH92.1 sq_tq105
  have N105' : Fr n0 L105 := by rw [lq105]; exact N105
  have ks118 := own_c ks104 st105
  have Tm119 : own_T Z T105.heap bq105 tq105 kq105 v2 := ⟨Eq105, Fc105, Fv105, Vq105, ⟨_, _, Fh105, Fi105, Or.inl ⟨rfl, rfl⟩⟩, nq105, hcr⟩
  have f121 := own_sta_keep S9 KH105
  have f122 := (Eh92.keep Kq105)
  have f123 := (Ft92.keep Kq105 nin0)
  have f124 := (Fh92.keep Kq105 nin0)
  have f125 := (Fm92.keep Kq105 nin0)
  have f126 := (Fs92.keep Kq105 nin0)
  have f127 := (Fp92.keep Kq105 nin0)
  have f128 := own_sta_keep Sp KH105
  have f129 := (f117.keep Kq105)
  obtain ⟨cq120, kq120, q120a, q120b, q120c⟩ := isOf hZ rfl f129
  obtain ⟨_, _, ⟨T120, L120, k120, n120⟩, -, X120, ⟨Lc120, hQ120, lq120, yq120, zq120⟩, st120⟩ := X105.virtualBack hx (y := Y36) (z := Y36) hown (mvT hZ (own_w hw 136 rfl)) (mvT hZ (own_w hw 137 rfl)) (notFace_of_selects (args := #[]) (mvT hZ (own_w hw 139 rfl))) (mvT hZ (own_w hw 139 rfl)) (mvT hZ (own_w hw 138 rfl)) (by decide) (backOf (W := 0) (rm22 l Z a0 hw [] b89 bq105 y9 bq92 pv tq105 kq105 v2 T105.heap n0 Zn105 f121 P9 f122 f123 f124 f125 f126 Tm119 g_bq92 g_bq105 ne_bq92_bq105 ne_bq92_tq105 f127 f128) hZ (own_w hw 140 rfl) (own_w hw 105 rfl) (by decide) (by decide)) q120a q120c (g := (mkF m 141 #[vI p0, vI p1, vI p2, vI p3, vI p4, vI v2, vI v4, vR b6, vR b23, vI v43, vI v48, vI v51, vI v57, vR bq63, vR bq72, vR b89, .unset, .unset, .unset, .unset, .unset, .unset, .unset] [(.ref bq105), (.ref b89)])) rfl (by rw [hml]; rfl) (Steps.refl _) (argsL := [(.ref bq105)]) (rest := []) (lenOf pd_9 rfl) rfl (by show 2 * 0 + _ ≤ _; exact Nat.le_of_eq rfl) (hb hby at_141) (fun _ _ => ⟨rfl, rfl, (by decide : 18 + 2 ≤ _), (by decide : 128 + 20 ≤ _)⟩)
  dsimp only [Pt.U, Pt.locs, Pt.cells, Pt.slots] at X120 lq120 yq120 zq120 st120 hQ120
  obtain rfl : k120 = 20 := yq120
  obtain rfl : n120 = 148 := zq120
  have f130 := (f107.keep Kq105)
  have f131 := (f108.keep Kq105)
  have f132 := (f109.keep Kq105 nin0)
  have f133 := (f110.keep Kq105)
  have f134 := (f111.keep Kq105)
  have f135 := (f112.keep Kq105 nin0)
  have f136 := (f113.keep Kq105)
  have f137 := (f114.keep Kq105 nin0)
  have f138 := (f115.keep Kq105)
  have f139 := (f116.keep Kq105 nin0)
  obtain ⟨rfl, Nq120, Kq120, Tq120, tab120, nd120, kt120, g_tab120, sq_tab120, g_nd120, sq_nd120, nq120, Ft120, Va120, En120, Fh120, Fk120⟩ := hQ120
  have N120 := Fr.app N105' Nq120
  have KH120 : Keep h0 T120.heap [] := KH105.trans Kq120 (allS (Or.inr sz_bq92) (allS (Or.inr sz_bq105) all0))
  have Zn120 : n0 ≤ T120.heap.size := Nat.le_trans Zn105 Kq120.1
  have ne_b6_tab120 := nls f130.lt sq_tab120
  have ne_bq9_tab120 := nls f131.lt sq_tab120
  have ne_tq9_tab120 := nls f132.lt sq_tab120
  have ne_b23_tab120 := nls f133.lt sq_tab120
  have ne_bq26_tab120 := nls f134.lt sq_tab120
  have ne_tq26_tab120 := nls f135.lt sq_tab120
  have ne_bq63_tab120 := nls f136.lt sq_tab120
  have ne_ed63_tab120 := nls f137.lt sq_tab120
  have ne_bq72_tab120 := nls f138.lt sq_tab120
  have ne_ed72_tab120 := nls f139.lt sq_tab120
  have ne_b89_tab120 := nls f129.lt sq_tab120
  have ne_bq92_tab120 := nls f122.lt sq_tab120
  have ne_bq105_tab120 := nls Eq105.lt sq_tab120
  have ne_tq105_tab120 := nls Vq105.lt sq_tab120
  have sz_tab120 : h0.size ≤ tab120 := Nat.le_trans KH105.1 sq_tab120
  have ne_b6_nd120 := nls f130.lt sq_nd120
  have ne_bq9_nd120 := nls f131.lt sq_nd120
  have ne_tq9_nd120 := nls f132.lt sq_nd120
  have ne_b23_nd120 := nls f133.lt sq_nd120
  have ne_bq26_nd120 := nls f134.lt sq_nd120
  have ne_tq26_nd120 := nls f135.lt sq_nd120
  have ne_bq63_nd120 := nls f136.lt sq_nd120
  have ne_ed63_nd120 := nls f137.lt sq_nd120
  have ne_bq72_nd120 := nls f138.lt sq_nd120
  have ne_ed72_nd120 := nls f139.lt sq_nd120
  have ne_b89_nd120 := nls f129.lt sq_nd120
  have ne_bq92_nd120 := nls f122.lt sq_nd120
  have ne_bq105_nd120 := nls Eq105.lt sq_nd120
  have ne_tq105_nd120 := nls Vq105.lt sq_nd120
  have sz_nd120 : h0.size ≤ nd120 := Nat.le_trans KH105.1 sq_nd120
  obtain ⟨Eo120, Co120, Fo120, Vo120, -, -, -⟩ := id Tq120
  have N120' : Fr n0 L120 := by rw [lq120]; exact N120
  have ks140 := own_ct ks118 st120
  have ks141 : own_R p e below (A0) (T120.setTop (mkF m 145 #[vI p0, vI p1, vI p2, vI p3, vI p4, vI v2, vI v4, vR b6, vR b23, vI v43, vI v48, vI v51, vI v57, vR bq63, vR bq72, vR b89, .unset, .unset, .unset, .unset, .unset, .unset, .unset] [])) := fun t k => ks140 t (by
    refine XS.pop X120.here hx rfl (hb hby at_144) rfl rfl ?_
    exact k)
  have f142 := (f130.keep Kq120)
  have f143 := (f131.keep Kq120)
  have f144 := (f132.keep Kq120 (ninS ne_tq9_bq92 (ninS ne_tq9_bq105 nin0)))
  have f145 := (f133.keep Kq120)
  have f146 := (f134.keep Kq120)
  have f147 := (f135.keep Kq120 (ninS ne_tq26_bq92 (ninS ne_tq26_bq105 nin0)))
  have f148 := (f136.keep Kq120)
  have f149 := (f137.keep Kq120 (ninS ne_ed63_bq92 (ninS ne_ed63_bq105 nin0)))
  have f150 := (f138.keep Kq120)
  have f151 := (f139.keep Kq120 (ninS ne_ed72_bq92 (ninS ne_ed72_bq105 nin0)))
  have f152 := (f129.keep Kq120)
  have f153 := (f122.keep Kq120)
  obtain ⟨T154, h154, X154, e154, E154, A154, D154, -, st154⟩ := newO X120 hx hZ hown (own_w hw 103 rfl) (own_w hw 104 rfl) (own_w hw 105 rfl) rfl (g := (mkF m 145 #[vI p0, vI p1, vI p2, vI p3, vI p4, vI v2, vI v4, vR b6, vR b23, vI v43, vI v48, vI v51, vI v57, vR bq63, vR bq72, vR b89, .unset, .unset, .unset, .unset, .unset, .unset, .unset] [])) rfl (hb hby at_145) (by decide) (by decide)
  obtain ⟨b154, g154⟩ : ∃ z, z = T120.heap.size := ⟨_, rfl⟩
  rw [← g154] at A154 D154 st154
  have ne_b6_b154 := nlg f142.lt g154
  have ne_bq9_b154 := nlg f143.lt g154
  have ne_tq9_b154 := nlg f144.lt g154
  have ne_b23_b154 := nlg f145.lt g154
  have ne_bq26_b154 := nlg f146.lt g154
  have ne_tq26_b154 := nlg f147.lt g154
  have ne_bq63_b154 := nlg f148.lt g154
  have ne_ed63_b154 := nlg f149.lt g154
  have ne_bq72_b154 := nlg f150.lt g154
  have ne_ed72_b154 := nlg f151.lt g154
  have ne_b89_b154 := nlg f152.lt g154
  have ne_bq92_b154 := nlg f153.lt g154
  have ne_bq105_b154 := nlg Eo120.lt g154
  have ne_tq105_b154 := nlg Vo120.lt g154
  have ne_nd120_b154 := nlg En120.lt g154
  have ne_tab120_b154 := nlg Va120.lt g154
  have g_b154 : n0 ≤ b154 := Nat.le_trans Zn120 (Nat.le_of_eq g154.symm)
  have sz_b154 : h0.size ≤ b154 := Nat.le_trans KH120.1 (Nat.le_of_eq g154.symm)
  have KH154 : Keep h0 h154 [] := KH120.ext E154
  have Zn154 : n0 ≤ h154.size := Nat.le_trans Zn120 E154.1
  have F_map_b154 : Fld Z h154 b154 "java/util/HashSet" "map" "Ljava/util/HashMap;" .null := D154 (Or.inl (own_w hw 135 rfl)) (ty := (.object "java/util/HashMap")) (by decide)
  have ks155 := own_c ks141 st154
  have ks156 : own_R p e below (A0) (T154.setTop (mkF m 149 #[vI p0, vI p1, vI p2, vI p3, vI p4, vI v2, vI v4, vR b6, vR b23, vI v43, vI v48, vI v51, vI v57, vR bq63, vR bq72, vR b89, .unset, .unset, .unset, .unset, .unset, .unset, .unset] [(.ref b154), (.ref b154)])) := fun t k => ks155 t (by
    refine XS.dup X154.here hx rfl (hb hby at_148) rfl rfl ?_
    exact k)
  obtain ⟨_, _, ⟨T157, L157, k157, n157⟩, -, X157, ⟨Lc157, hQ157, lq157, yq157, zq157⟩, st157⟩ := X154.specialBack hx (y := Y29) rfl hown (mvT hZ (own_w hw 106 rfl)) (mvT hZ (own_w hw 107 rfl)) (mvT hZ (own_w hw 108 rfl)) (by decide) (backOf (W := 1) (rm18 l Z a0 hw [] b154 h154 n0 Zn154 A154 F_map_b154 g_b154) hZ (own_w hw 108 rfl) (own_w hw 105 rfl) (by decide) (by decide)) (g := (mkF m 149 #[vI p0, vI p1, vI p2, vI p3, vI p4, vI v2, vI v4, vR b6, vR b23, vI v43, vI v48, vI v51, vI v57, vR bq63, vR bq72, vR b89, .unset, .unset, .unset, .unset, .unset, .unset, .unset] [(.ref b154), (.ref b154)])) rfl (by rw [hml]; rfl) (Steps.refl _) (a := b154) (argsL := []) (rest := [(.ref b154)]) (lenOf pd_4 rfl) rfl (by show 2 * 0 + _ ≤ _; exact Nat.le_of_eq rfl) (hb hby at_149) (fun _ _ => ⟨rfl, e154, (by decide : 21 + 1 ≤ _), (by decide : 149 + 8 ≤ _)⟩)
  dsimp only [Pt.U, Pt.locs, Pt.cells, Pt.slots] at X157 lq157 yq157 zq157 st157 hQ157
  obtain rfl : k157 = 22 := yq157
  obtain rfl : n157 = 157 := zq157
  have f158 := (f142.ext E154)
  have f159 := (f143.ext E154)
  have f160 := (f144.ext E154)
  have f161 := (f145.ext E154)
  have f162 := (f146.ext E154)
  have f163 := (f147.ext E154)
  have f164 := (f148.ext E154)
  have f165 := (f149.ext E154)
  have f166 := (f150.ext E154)
  have f167 := (f151.ext E154)
  have f168 := (f152.ext E154)
  have f169 := (f153.ext E154)
  have f170 := (Eo120.ext E154)
  have f171 := (Vo120.ext E154)
  have f172 := (En120.ext E154)
  have f173 := (Va120.ext E154)
  obtain ⟨bq157, rfl, Nq157, Kq157, g_bq157, szq157, Fp157, Eh157, Ft157, Fh157, Fm157, Fs157⟩ := hQ157
  have N157 := Fr.app N120' Nq157
  have KH157 : Keep h0 T157.heap [] := KH154.trans Kq157 (allS (Or.inr sz_b154) all0)
  have Zn157 : n0 ≤ T157.heap.size := Nat.le_trans Zn154 Kq157.1
  have ne_b6_bq157 := nls f158.lt szq157
  have ne_bq9_bq157 := nls f159.lt szq157
  have ne_tq9_bq157 := nls f160.lt szq157
  have ne_b23_bq157 := nls f161.lt szq157
  have ne_bq26_bq157 := nls f162.lt szq157
  have ne_tq26_bq157 := nls f163.lt szq157
  have ne_bq63_bq157 := nls f164.lt szq157
  have ne_ed63_bq157 := nls f165.lt szq157
  have ne_bq72_bq157 := nls f166.lt szq157
  have ne_ed72_bq157 := nls f167.lt szq157
  have ne_b89_bq157 := nls f168.lt szq157
  have ne_bq92_bq157 := nls f169.lt szq157
  have ne_bq105_bq157 := nls f170.lt szq157
  have ne_tq105_bq157 := nls f171.lt szq157
  have ne_nd120_bq157 := nls f172.lt szq157
  have ne_tab120_bq157 := nls f173.lt szq157
  have ne_b154_bq157 := nls A154.lt szq157
  have sz_bq157 : h0.size ≤ bq157 := Nat.le_trans KH154.1 szq157
  have N157' : Fr n0 L157 := by rw [lq157]; exact N157
  have ks174 := own_ct ks156 st157
  have ks175 : own_R p e below (A0) (T157.setTop (mkF m 154 #[vI p0, vI p1, vI p2, vI p3, vI p4, vI v2, vI v4, vR b6, vR b23, vI v43, vI v48, vI v51, vI v57, vR bq63, vR bq72, vR b89, vR b154, .unset, .unset, .unset, .unset, .unset, .unset] [])) := fun t k => ks174 t (by
    refine XS.astore X157.here hx rfl (hb hby at_152) rfl rfl (l' := #[vI p0, vI p1, vI p2, vI p3, vI p4, vI v2, vI v4, vR b6, vR b23, vI v43, vI v48, vI v51, vI v57, vR bq63, vR bq72, vR b89, vR b154, .unset, .unset, .unset, .unset, .unset, .unset]) rfl ?_
    exact k)
  have f176 := (f158.keep Kq157)
  have f177 := (f159.keep Kq157)
  have f178 := (f160.keep Kq157 (ninS ne_tq9_b154 nin0))
  have f179 := (f161.keep Kq157)
  have f180 := (f162.keep Kq157)
  have f181 := (f163.keep Kq157 (ninS ne_tq26_b154 nin0))
  have f182 := (f164.keep Kq157)
  have f183 := (f165.keep Kq157 (ninS ne_ed63_b154 nin0))
  have f184 := (f166.keep Kq157)
  have f185 := (f167.keep Kq157 (ninS ne_ed72_b154 nin0))
  have f186 := (f168.keep Kq157)
  have f187 := (f169.keep Kq157)
  have f188 := (f170.keep Kq157)
  have f189 := (f171.keep Kq157 (ninS ne_tq105_b154 nin0))
  have f190 := (f172.keep Kq157)
  have f191 := (f173.keep Kq157 (ninS ne_tab120_b154 nin0))
  have f192 := (A154.keep Kq157)
  obtain ⟨T193, h193, X193, e193, E193, A193, D193, -, st193⟩ := newO X157 hx hZ hown (own_w hw 213 rfl) (own_w hw 214 rfl) (own_w hw 215 rfl) rfl (g := (mkF m 154 #[vI p0, vI p1, vI p2, vI p3, vI p4, vI v2, vI v4, vR b6, vR b23, vI v43, vI v48, vI v51, vI v57, vR bq63, vR bq72, vR b89, vR b154, .unset, .unset, .unset, .unset, .unset, .unset] [])) rfl (hb hby at_154) (by decide) (by decide)
  obtain ⟨b193, g193⟩ : ∃ z, z = T157.heap.size := ⟨_, rfl⟩
  rw [← g193] at A193 D193 st193
  have ne_b6_b193 := nlg f176.lt g193
  have ne_bq9_b193 := nlg f177.lt g193
  have ne_tq9_b193 := nlg f178.lt g193
  have ne_b23_b193 := nlg f179.lt g193
  have ne_bq26_b193 := nlg f180.lt g193
  have ne_tq26_b193 := nlg f181.lt g193
  have ne_bq63_b193 := nlg f182.lt g193
  have ne_ed63_b193 := nlg f183.lt g193
  have ne_bq72_b193 := nlg f184.lt g193
  have ne_ed72_b193 := nlg f185.lt g193
  have ne_b89_b193 := nlg f186.lt g193
  have ne_bq92_b193 := nlg f187.lt g193
  have ne_bq105_b193 := nlg f188.lt g193
  have ne_tq105_b193 := nlg f189.lt g193
  have ne_nd120_b193 := nlg f190.lt g193
  have ne_tab120_b193 := nlg f191.lt g193
  have ne_b154_b193 := nlg f192.lt g193
  have ne_bq157_b193 := nlg Eh157.lt g193
  have g_b193 : n0 ≤ b193 := Nat.le_trans Zn157 (Nat.le_of_eq g193.symm)
  have sz_b193 : h0.size ≤ b193 := Nat.le_trans KH157.1 (Nat.le_of_eq g193.symm)
  have KH193 : Keep h0 h193 [] := KH157.ext E193
  have Zn193 : n0 ≤ h193.size := Nat.le_trans Zn157 E193.1
  have F_questions_b193 : Fld Z h193 b193 "com/example/carved_corpus/carvedcorpus/cli/Evaluation" "questions" "I" (.int 0) := D193 (Or.inl (own_w hw 282 rfl)) (ty := .int) (by decide)
  have F_relevantAtCutoff_b193 : Fld Z h193 b193 "com/example/carved_corpus/carvedcorpus/cli/Evaluation" "relevantAtCutoff" "J" (.long (0 : Int64)) := D193 (Or.inl (own_w hw 295 rfl)) (ty := .long) (by decide)
  have F_reciprocalRanks_b193 : Fld Z h193 b193 "com/example/carved_corpus/carvedcorpus/cli/Evaluation" "reciprocalRanks" "D" (.double (0 : UInt64)) := D193 (Or.inl (own_w hw 308 rfl)) (ty := .double) (by decide)
  have ks194 := own_c ks175 st193
  have ks195 : own_R p e below (A0) (T193.setTop (mkF m 158 #[vI p0, vI p1, vI p2, vI p3, vI p4, vI v2, vI v4, vR b6, vR b23, vI v43, vI v48, vI v51, vI v57, vR bq63, vR bq72, vR b89, vR b154, .unset, .unset, .unset, .unset, .unset, .unset] [(.ref b193), (.ref b193)])) := fun t k => ks194 t (by
    refine XS.dup X193.here hx rfl (hb hby at_157) rfl rfl ?_
    exact k)
  obtain ⟨_, _, ⟨T196, L196, k196, n196⟩, -, X196, ⟨Lc196, hQ196, lq196, yq196, zq196⟩, st196⟩ := X193.specialBack hx (y := Y48) rfl hown (mvT hZ (own_w hw 216 rfl)) (mvT hZ (own_w hw 217 rfl)) (mvT hZ (own_w hw 218 rfl)) (by decide) (backOf (W := 1) (rm33 l Z a0 hw [] b193 h193 n0 Zn193 ) hZ (own_w hw 218 rfl) (own_w hw 215 rfl) (by decide) (by decide)) (g := (mkF m 158 #[vI p0, vI p1, vI p2, vI p3, vI p4, vI v2, vI v4, vR b6, vR b23, vI v43, vI v48, vI v51, vI v57, vR bq63, vR bq72, vR b89, vR b154, .unset, .unset, .unset, .unset, .unset, .unset] [(.ref b193), (.ref b193)])) rfl (by rw [hml]; rfl) (Steps.refl _) (a := b193) (argsL := []) (rest := [(.ref b193)]) (lenOf pd_4 rfl) rfl (by show 2 * 0 + _ ≤ _; exact Nat.le_of_eq rfl) (hb hby at_158) (fun _ _ => ⟨rfl, e193, (by decide : 23 + 0 ≤ _), (by decide : 160 + 0 ≤ _)⟩)
  dsimp only [Pt.U, Pt.locs, Pt.cells, Pt.slots] at X196 lq196 yq196 zq196 st196 hQ196
  obtain rfl : k196 = 23 := yq196
  obtain rfl : n196 = 160 := zq196
  obtain ⟨rfl, Nq196, eq196⟩ := hQ196
  have N196 := Fr.app N157' Nq196
  have N196' : Fr n0 L196 := by rw [lq196]; exact N196
  have ks197 := own_ct ks195 st196
  have ks198 : own_R p e below (A0) (T196.setTop (mkF m 169 #[vI p0, vI p1, vI p2, vI p3, vI p4, vI v2, vI v4, vR b6, vR b23, vI v43, vI v48, vI v51, vI v57, vR bq63, vR bq72, vR b89, vR b154, vR b193, .unset, .unset, .unset, .unset, .unset] [(.ref b89), (.ref bq63), (.ref b193)])) := fun t k => ks197 t (by
    refine XS.astore X196.here hx rfl (hb hby at_161) rfl rfl (l' := #[vI p0, vI p1, vI p2, vI p3, vI p4, vI v2, vI v4, vR b6, vR b23, vI v43, vI v48, vI v51, vI v57, vR bq63, vR bq72, vR b89, vR b154, vR b193, .unset, .unset, .unset, .unset, .unset]) rfl ?_
    refine XS.aload X196.here hx rfl (hb hby at_163) rfl rfl ?_
    refine XS.aload X196.here hx rfl (hb hby at_165) rfl rfl ?_
    show Steps p.tables e below (T196.setTop (mkF m 167 #[vI p0, vI p1, vI p2, vI p3, vI p4, vI v2, vI v4, vR b6, vR b23, vI v43, vI v48, vI v51, vI v57, vR bq63, vR bq72, vR b89, vR b154, vR b193, .unset, .unset, .unset, .unset, .unset] [(.ref bq63), (.ref b193)])) _
    refine XS.aload X196.here hx rfl (hb hby at_167) rfl rfl ?_
    exact k)
  have f200 := (f182.ext E193)
  have f201 := ((((((((Fe63.keep Kq72 nin0).ext E89).keep Kq92 (ninS ne_bq63_b89 nin0)).keep Kq105 nin0).keep Kq120 (ninS ne_bq63_bq92 (ninS ne_bq63_bq105 nin0))).ext E154).keep Kq157 (ninS ne_bq63_b154 nin0)).ext E193)
  have f202 := ((((((((Fz63.keep Kq72 nin0).ext E89).keep Kq92 (ninS ne_bq63_b89 nin0)).keep Kq105 nin0).keep Kq120 (ninS ne_bq63_bq92 (ninS ne_bq63_bq105 nin0))).ext E154).keep Kq157 (ninS ne_bq63_b154 nin0)).ext E193)
  have f203 := (f183.ext E193)
  have f204 := (f176.ext E193)
  have f205 := ((((((((((((Fi14.ext E23).keep Kq26 nin0).keep Kq34 (ninS ne_b6_b23 nin0)).keep Kq63 nin0).keep Kq72 nin0).ext E89).keep Kq92 (ninS ne_b6_b89 nin0)).keep Kq105 nin0).keep Kq120 (ninS ne_b6_bq92 (ninS ne_b6_bq105 nin0))).ext E154).keep Kq157 (ninS ne_b6_b154 nin0)).ext E193)
  have f206 := (f179.ext E193)
  have f207 := (((((((((Fi34.keep Kq63 nin0).keep Kq72 nin0).ext E89).keep Kq92 (ninS ne_b23_b89 nin0)).keep Kq105 nin0).keep Kq120 (ninS ne_b23_bq92 (ninS ne_b23_bq105 nin0))).ext E154).keep Kq157 (ninS ne_b23_b154 nin0)).ext E193)
  have Tk208 := own_T_keep Tm12 Kq14 (ninS (Ne.symm ne_b6_bq9) nin0) (ninS (Ne.symm ne_b6_tq9) nin0)
  have Tk209 := own_T_keep Tk208 ((Keep.refl _ []).ext E23) nin0 nin0
  have Tk210 := own_T_keep Tk209 Kq26 nin0 nin0
  have Tk211 := own_T_keep Tk210 Kq34 (ninS ne_bq9_b23 nin0) (ninS ne_tq9_b23 nin0)
  have Tk212 := own_T_keep Tk211 Kq63 nin0 nin0
  have Tk213 := own_T_keep Tk212 Kq72 nin0 nin0
  have Tk214 := own_T_keep Tk213 ((Keep.refl _ []).ext E89) nin0 nin0
  have Tk215 := own_T_keep Tk214 Kq92 (ninS ne_bq9_b89 nin0) (ninS ne_tq9_b89 nin0)
  have Tk216 := own_T_keep Tk215 Kq105 nin0 nin0
  have Tk217 := own_T_keep Tk216 Kq120 (ninS ne_bq9_bq92 (ninS ne_bq9_bq105 nin0)) (ninS ne_tq9_bq92 (ninS ne_tq9_bq105 nin0))
  have Tk218 := own_T_keep Tk217 ((Keep.refl _ []).ext E154) nin0 nin0
  have Tk219 := own_T_keep Tk218 Kq157 (ninS ne_bq9_b154 nin0) (ninS ne_tq9_b154 nin0)
  have Tk220 := own_T_keep Tk219 ((Keep.refl _ []).ext E193) nin0 nin0
  have Tk221 := own_T_keep Tm32 Kq34 (ninS (Ne.symm ne_b23_bq26) nin0) (ninS (Ne.symm ne_b23_tq26) nin0)
  have Tk222 := own_T_keep Tk221 Kq63 nin0 nin0
  have Tk223 := own_T_keep Tk222 Kq72 nin0 nin0
  have Tk224 := own_T_keep Tk223 ((Keep.refl _ []).ext E89) nin0 nin0
  have Tk225 := own_T_keep Tk224 Kq92 (ninS ne_bq26_b89 nin0) (ninS ne_tq26_b89 nin0)
  have Tk226 := own_T_keep Tk225 Kq105 nin0 nin0
  have Tk227 := own_T_keep Tk226 Kq120 (ninS ne_bq26_bq92 (ninS ne_bq26_bq105 nin0)) (ninS ne_tq26_bq92 (ninS ne_tq26_bq105 nin0))
  have Tk228 := own_T_keep Tk227 ((Keep.refl _ []).ext E154) nin0 nin0
  have Tk229 := own_T_keep Tk228 Kq157 (ninS ne_bq26_b154 nin0) (ninS ne_tq26_b154 nin0)
  have Tk230 := own_T_keep Tk229 ((Keep.refl _ []).ext E193) nin0 nin0
  have f231 := (f188.ext E193)
  have f232 := (((Co120.ext E154).keep Kq157 (ninS ne_bq105_b154 nin0)).ext E193)
  have f233 := (((Fo120.ext E154).keep Kq157 (ninS ne_bq105_b154 nin0)).ext E193)
  have f234 := (f189.ext E193)
  have f235 := own_sta_keep S9 KH193
  have f236 := (f186.ext E193)
  have f237 := ((((f127.keep Kq120 (ninS ne_b89_bq92 (ninS ne_b89_bq105 nin0))).ext E154).keep Kq157 (ninS ne_b89_b154 nin0)).ext E193)
  have f238 := (f187.ext E193)
  have f239 := (((Ft120.ext E154).keep Kq157 (ninS ne_bq92_b154 nin0)).ext E193)
  have f240 := (f191.ext E193)
  have f241 := (f190.ext E193)
  have f242 := (((Fh120.ext E154).keep Kq157 (ninS ne_nd120_b154 nin0)).ext E193)
  have f243 := (((Fk120.ext E154).keep Kq157 (ninS ne_nd120_b154 nin0)).ext E193)
  obtain ⟨cq199, kq199, q199a, q199b, q199c⟩ := isOf hZ eq196 A193
  obtain ⟨_, _, ⟨T199, L199, k199, n199⟩, -, X199, ⟨Lc199, hQ199, lq199, yq199, zq199⟩, st199⟩ := X196.virtualBack hx (y := Y50) (z := Y50) hown (mvT hZ (own_w hw 220 rfl)) (mvT hZ (own_w hw 221 rfl)) (notFace_of_selects (args := #[]) (mvT hZ (own_w hw 223 rfl))) (mvT hZ (own_w hw 223 rfl)) (mvT hZ (own_w hw 222 rfl)) (by decide) (backOf (W := 0) (rm34_R l Z a0 hw [] b193 bq63 b89 y9 ed63 ked63 cap63 p0 v43.toNatClampNeg b6 b23 bq9 bq26 tq9 kq9 tq26 kq26 v4 bq92 tab120 kt120 nd120 bq105 tq105 kq105 v2 (0 : Int64) (own_count p0 v43) (0 : Int32) (1 : Int32) (0 : UInt64) h193 n0 Zn193 f235 P9 f200 f201 f202 f203 (own_mn (i := 0) rfl (by decide) hl0a hl1a).2 hcap63 f204 f205 f206 f207 Tk220 Tk230 f236 f237 f238 f239 f240 f241 f242 f243 ⟨f231, f232, f233, f234⟩ hne A193 F_relevantAtCutoff_b193 F_questions_b193 (by decide) g_b193 F_reciprocalRanks_b193 own_nn0 (by rw [own_cnt (m := p0) hl0a hl1a, Int64.zero_add]) g_bq9 g_bq26 ne_bq63_b193 ne_ed63_b193 ne_b89_b193 ne_bq92_b193 ne_tab120_b193 ne_nd120_b193 ne_bq105_b193 ne_tq105_b193 ne_b6_b193 ne_b23_b193 ne_bq9_b193 ne_tq9_b193 ne_bq26_b193 ne_tq26_b193 (Ne.symm ne_bq9_bq63) ne_ed63_bq9 (Ne.symm ne_bq9_b89) (Ne.symm ne_bq9_bq92) (Ne.symm ne_bq9_tab120) (Ne.symm ne_bq9_nd120) (Ne.symm ne_bq9_bq105) (Ne.symm ne_bq9_tq105) ne_b6_bq9 (Ne.symm ne_bq9_b23) (Ne.symm ne_bq9_bq26) (Ne.symm ne_bq9_tq26) (Ne.symm ne_bq26_bq63) ne_ed63_bq26 (Ne.symm ne_bq26_b89) (Ne.symm ne_bq26_bq92) (Ne.symm ne_bq26_tab120) (Ne.symm ne_bq26_nd120) (Ne.symm ne_bq26_bq105) (Ne.symm ne_bq26_tq105) ne_b6_bq26 ne_b23_bq26 ne_tq9_bq26) hZ (own_w hw 224 rfl) (own_w hw 215 rfl) (by decide) (by decide)) q199a q199c (g := (mkF m 169 #[vI p0, vI p1, vI p2, vI p3, vI p4, vI v2, vI v4, vR b6, vR b23, vI v43, vI v48, vI v51, vI v57, vR bq63, vR bq72, vR b89, vR b154, vR b193, .unset, .unset, .unset, .unset, .unset] [(.ref b89), (.ref bq63), (.ref b193)])) rfl (by rw [hml]; rfl) (Steps.refl _) (argsL := [(.ref bq63), (.ref b89)]) (rest := []) (lenOf pd_23 rfl) rfl (by show 2 * 0 + _ ≤ _; exact Nat.le_of_eq rfl) (hb hby at_169) (fun _ _ => ⟨rfl, eq196, (by decide : 23 + 0 ≤ _), (by decide : 160 + 0 ≤ _)⟩)
  dsimp only [Pt.U, Pt.locs, Pt.cells, Pt.slots] at X199 lq199 yq199 zq199 st199 hQ199
  obtain rfl : k199 = 23 := yq199
  obtain rfl : n199 = 160 := zq199
  have f244 := (f177.ext E193)
  have f245 := (f180.ext E193)
  obtain ⟨rfl, Nq199, Kq199, Tr199, Tn199, Fr199, Fq199, rs199, Fd199, hrr199⟩ := hQ199
  have N199 := Fr.app N196' Nq199
  have KH199 : Keep h0 T199.heap [] := KH193.trans Kq199 (allS (Or.inr sz_b193) (allS (Or.inr sz_bq9) (allS (Or.inr sz_bq26) all0)))
  have Zn199 : n0 ≤ T199.heap.size := Nat.le_trans Zn193 Kq199.1
  have N199' : Fr n0 L199 := by rw [lq199]; exact N199
  have ks246 := own_ct ks198 st199
  have ks247 : own_R p e below (A0) (T199.setTop (mkF m 175 #[vI p0, vI p1, vI p2, vI p3, vI p4, vI v2, vI v4, vR b6, vR b23, vI v43, vI v48, vI v51, vI v57, vR bq63, vR bq72, vR b89, vR b154, vR b193, .unset, .unset, .unset, .unset, .unset] [(.int v43), (.int p0)])) := fun t k => ks246 t (by
    refine XS.iloadN X199.here hx rfl (hb hby at_172) rfl ?_
    refine XS.iload X199.here hx rfl (hb hby at_173) rfl ?_
    exact k)
  obtain ⟨_, _, ⟨T248, L248, k248, n248⟩, -, X248, ⟨Lc248, hQ248, lq248, yq248, zq248⟩, st248⟩ := Jvm.LawKit.callS X199 hx (y := Y46) hown (mvT hZ (own_w hw 283 rfl)) (mvT hZ (own_w hw 284 rfl)) (mvT hZ (own_w hw 44 rfl)) (mvT hZ (own_w hw 285 rfl)) (by decide) (backOf (W := 0) (rm44 l Z a0 hw [] p0 v43 T199.heap n0 Zn199 ) hZ (own_w hw 285 rfl) (own_w hw 44 rfl) (by decide) (by decide)) (g := (mkF m 175 #[vI p0, vI p1, vI p2, vI p3, vI p4, vI v2, vI v4, vR b6, vR b23, vI v43, vI v48, vI v51, vI v57, vR bq63, vR bq72, vR b89, vR b154, vR b193, .unset, .unset, .unset, .unset, .unset] [(.int v43), (.int p0)])) rfl (by rw [hml]; rfl) (argsL := [(.int p0), (.int v43)]) (rest := []) (lenOf pd_28 rfl) rfl (by show 2 * 0 + _ ≤ _; exact Nat.le_of_eq rfl) (hb hby at_175) (fun _ _ => ⟨rfl, rfl, (by decide : 23 + 0 ≤ _), (by decide : 160 + 0 ≤ _)⟩)
  dsimp only [Pt.U, Pt.locs, Pt.cells, Pt.slots] at X248 lq248 yq248 zq248 st248 hQ248
  obtain rfl : k248 = 23 := yq248
  obtain rfl : n248 = 160 := zq248
  obtain ⟨rfl, Nq248, eq248⟩ := hQ248
  have N248 := Fr.app N199' Nq248
  have N248' : Fr n0 L248 := by rw [lq248]; exact N248
  have ks249 := own_c ks247 st248
  have ks250 : own_R p e below (A0) (T248.setTop (mkF m 185 #[vI p0, vI p1, vI p2, vI p3, vI p4, vI v2, vI v4, vR b6, vR b23, vI v43, vI v48, vI v51, vI v57, vR bq63, vR bq72, vR b89, vR b154, vR b193, vJ (own_count p0 v43), .second, vI 1, .unset, .unset] [(.int v51)])) := fun t k => ks249 t (by
    refine XS.lstore X248.here hx rfl (hb hby at_178) rfl (l' := #[vI p0, vI p1, vI p2, vI p3, vI p4, vI v2, vI v4, vR b6, vR b23, vI v43, vI v48, vI v51, vI v57, vR bq63, vR bq72, vR b89, vR b154, vR b193, vJ (own_count p0 v43), .second, .unset, .unset, .unset]) rfl ?_
    refine XS.iconst X248.here hx rfl (hb hby at_180) ?_
    refine XS.istore X248.here hx rfl (hb hby at_181) rfl (l' := #[vI p0, vI p1, vI p2, vI p3, vI p4, vI v2, vI v4, vR b6, vR b23, vI v43, vI v48, vI v51, vI v57, vR bq63, vR bq72, vR b89, vR b154, vR b193, vJ (own_count p0 v43), .second, vI 1, .unset, .unset]) rfl ?_
    show Steps p.tables e below (T248.setTop (mkF m 183 #[vI p0, vI p1, vI p2, vI p3, vI p4, vI v2, vI v4, vR b6, vR b23, vI v43, vI v48, vI v51, vI v57, vR bq63, vR bq72, vR b89, vR b154, vR b193, vJ (own_count p0 v43), .second, vI 1, .unset, .unset] [])) _
    refine XS.iload X248.here hx rfl (hb hby at_183) rfl ?_
    exact k)
  by_cases hc251 : v51 = (0 : Int32)
  · skip
    have ks252 : own_R p e below (A0) (T248.setTop (mkF m 228 #[vI p0, vI p1, vI p2, vI p3, vI p4, vI v2, vI v4, vR b6, vR b23, vI v43, vI v48, vI v51, vI v57, vR bq63, vR bq72, vR b89, vR b154, vR b193, vJ (own_count p0 v43), .second, vI 1, .unset, .unset] [(.ref b193)])) := fun t k => ks250 t (by
      refine XS.ifYes X248.here hx rfl (pc0 := 185) (pc' := 226) rfl (hb hby at_185) rfl ((if0 _ _).trans (teq hc251).1) (by decide) (by decide) ?_
      refine XS.aload X248.here hx rfl (hb hby at_226) rfl rfl ?_
      exact k)
    have f254 := (A193.keep Kq199)
    obtain ⟨cq253, kq253, q253a, q253b, q253c⟩ := isOf hZ eq248 f254
    obtain ⟨_, _, ⟨T253, L253, k253, n253⟩, -, X253, ⟨Lc253, hQ253, lq253, yq253, zq253⟩, st253⟩ := X248.virtualBack hx (y := Y49) (z := Y49) hown (mvT hZ (own_w hw 289 rfl)) (mvT hZ (own_w hw 290 rfl)) (notFace_of_selects (args := #[]) (mvT hZ (own_w hw 292 rfl))) (mvT hZ (own_w hw 292 rfl)) (mvT hZ (own_w hw 291 rfl)) (by decide) (backOf (W := 0) (rm46 l Z a0 hw [] b193 (own_count p0 v43) (1 : Int32) T199.heap n0 Zn199 Fr199 Fq199 (own_q2 _ (by decide))) hZ (own_w hw 293 rfl) (own_w hw 215 rfl) (by decide) (by decide)) q253a q253c (g := (mkF m 228 #[vI p0, vI p1, vI p2, vI p3, vI p4, vI v2, vI v4, vR b6, vR b23, vI v43, vI v48, vI v51, vI v57, vR bq63, vR bq72, vR b89, vR b154, vR b193, vJ (own_count p0 v43), .second, vI 1, .unset, .unset] [(.ref b193)])) rfl (by rw [hml]; rfl) (Steps.refl _) (argsL := []) (rest := []) (lenOf pd_29 rfl) rfl (by show 2 * 0 + _ ≤ _; exact Nat.le_of_eq rfl) (hb hby at_228) (fun _ _ => ⟨rfl, eq248, (by decide : 23 + 0 ≤ _), (by decide : 160 + 0 ≤ _)⟩)
    dsimp only [Pt.U, Pt.locs, Pt.cells, Pt.slots] at X253 lq253 yq253 zq253 st253 hQ253
    obtain rfl : k253 = 23 := yq253
    obtain rfl : n253 = 160 := zq253
    obtain ⟨rfl, Nq253, eq253⟩ := hQ253
    have N253 := Fr.app N248' Nq253
    have N253' : Fr n0 L253 := by rw [lq253]; exact N253
    have ks255 := own_ct ks252 st253
    have ks256 : own_R p e below (A0) (T253.setTop (mkF m 243 #[vI p0, vI p1, vI p2, vI p3, vI p4, vI v2, vI v4, vR b6, vR b23, vI v43, vI v48, vI v51, vI v57, vR bq63, vR bq72, vR b89, vR b154, vR b193, vJ (own_count p0 v43), .second, vI 1, .val (.double (FP.ddiv (FP.l2d (own_count p0 v43)) (FP.i2d (1 : Int32)))), .second] [(.int (cmpValue (FP.dcmp (FP.ddiv (FP.l2d (own_count p0 v43)) (FP.i2d (1 : Int32))) (FP.ddiv (FP.l2d (own_count p0 v43)) (FP.i2d (1 : Int32)))) .l))])) := fun t k => ks255 t (by
      refine XS.dstore X253.here hx rfl (hb hby at_231) rfl (l' := #[vI p0, vI p1, vI p2, vI p3, vI p4, vI v2, vI v4, vR b6, vR b23, vI v43, vI v48, vI v51, vI v57, vR bq63, vR bq72, vR b89, vR b154, vR b193, vJ (own_count p0 v43), .second, vI 1, .val (.double (FP.ddiv (FP.l2d (own_count p0 v43)) (FP.i2d (1 : Int32)))), .second]) rfl ?_
      refine XS.dload X253.here hx rfl (hb hby at_233) rfl ?_
      refine XS.lload X253.here hx rfl (hb hby at_235) rfl ?_
      show Steps p.tables e below (T253.setTop (mkF m 237 #[vI p0, vI p1, vI p2, vI p3, vI p4, vI v2, vI v4, vR b6, vR b23, vI v43, vI v48, vI v51, vI v57, vR bq63, vR bq72, vR b89, vR b154, vR b193, vJ (own_count p0 v43), .second, vI 1, .val (.double (FP.ddiv (FP.l2d (own_count p0 v43)) (FP.i2d (1 : Int32)))), .second] [(.long (own_count p0 v43)), (.double (FP.ddiv (FP.l2d (own_count p0 v43)) (FP.i2d (1 : Int32))))])) _
      refine XS.l2dS X253.here hx rfl (hb hby at_237) rfl rfl ?_
      refine XS.iload X253.here hx rfl (hb hby at_238) rfl ?_
      refine XS.i2dS X253.here hx rfl (hb hby at_240) rfl rfl ?_
      refine XS.ddivS X253.here hx rfl (hb hby at_241) rfl (own_q2 _ (by decide)) rfl ?_
      show Steps p.tables e below (T253.setTop (mkF m 242 #[vI p0, vI p1, vI p2, vI p3, vI p4, vI v2, vI v4, vR b6, vR b23, vI v43, vI v48, vI v51, vI v57, vR bq63, vR bq72, vR b89, vR b154, vR b193, vJ (own_count p0 v43), .second, vI 1, .val (.double (FP.ddiv (FP.l2d (own_count p0 v43)) (FP.i2d (1 : Int32)))), .second] [(.double (FP.ddiv (FP.l2d (own_count p0 v43)) (FP.i2d (1 : Int32)))), (.double (FP.ddiv (FP.l2d (own_count p0 v43)) (FP.i2d (1 : Int32))))])) _
      refine XS.dcmpS X253.here hx rfl (hb hby at_242) rfl rfl ?_
      exact k)
    have hz257 : (cmpValue (FP.dcmp (FP.ddiv (FP.l2d (own_count p0 v43)) (FP.i2d (1 : Int32))) (FP.ddiv (FP.l2d (own_count p0 v43)) (FP.i2d (1 : Int32)))) .l) = (0 : Int32) := (dcmpV_self (own_q2 _ (by decide)) .l)
    rw [hz257] at ks256
    have ks258 : own_R p e below (A0) (T253.setTop (mkF m 251 #[vI p0, vI p1, vI p2, vI p3, vI p4, vI v2, vI v4, vR b6, vR b23, vI v43, vI v48, vI v51, vI v57, vR bq63, vR bq72, vR b89, vR b154, vR b193, vJ (own_count p0 v43), .second, vI 1, .val (.double (FP.ddiv (FP.l2d (own_count p0 v43)) (FP.i2d (1 : Int32)))), .second] [(.int 1)])) := fun t k => ks256 t (by
      refine XS.ifNo X253.here hx rfl (hb hby at_243) rfl ((if0 _ _).trans (teq (by decide)).2) ?_
      refine XS.iconst X253.here hx rfl (hb hby at_246) ?_
      refine XS.goto X253.here hx rfl (pc0 := 247) (pc' := 251) rfl (hb hby at_247) (by decide) (by decide) ?_
      exact k)
    obtain ⟨fs, hr, hrun, hended, hW, hsame⟩ := X253.leave (v := some (.int 1)) (fun h => by rw [Bd.returns] at h; cases h) hlk
    refine ⟨_, _, kz _ (ks258 _ ?_), hrun, hended, _, _, rfl, ?_, ⟨_, rfl⟩, hW, hsame.mono (by decide) (by decide)⟩
    · exact retN X253 hx (t := .boolean) Bd.returns (by simp) (hb hby at_251) hr
    · show Q0 Z p0 p1 p2 p3 p4 y9 u ku mo pv h0 n0 _ T253.heap _
      rw [eq253]
      exact ⟨rfl, N253'⟩
  · skip
    have ks259 : own_R p e below (A0) (T248.setTop (mkF m 194 #[vI p0, vI p1, vI p2, vI p3, vI p4, vI v2, vI v4, vR b6, vR b23, vI v43, vI v48, vI v51, vI v57, vR bq63, vR bq72, vR b89, vR b154, vR b193, vJ (own_count p0 v43), .second, vI 1, .unset, .unset] [(.int v57), (.ref bq72), (.ref b193)])) := fun t k => ks250 t (by
      refine XS.ifNo X248.here hx rfl (hb hby at_185) rfl ((if0 _ _).trans (feq hc251).1) ?_
      refine XS.aload X248.here hx rfl (hb hby at_188) rfl rfl ?_
      refine XS.aload X248.here hx rfl (hb hby at_190) rfl rfl ?_
      show Steps p.tables e below (T248.setTop (mkF m 192 #[vI p0, vI p1, vI p2, vI p3, vI p4, vI v2, vI v4, vR b6, vR b23, vI v43, vI v48, vI v51, vI v57, vR bq63, vR bq72, vR b89, vR b154, vR b193, vJ (own_count p0 v43), .second, vI 1, .unset, .unset] [(.ref bq72), (.ref b193)])) _
      refine XS.iload X248.here hx rfl (hb hby at_192) rfl ?_
      exact k)
    by_cases hc260 : v57 = (0 : Int32)
    · skip
      have ks261 : own_R p e below (A0) (T248.setTop (mkF m 204 #[vI p0, vI p1, vI p2, vI p3, vI p4, vI v2, vI v4, vR b6, vR b23, vI v43, vI v48, vI v51, vI v57, vR bq63, vR bq72, vR b89, vR b154, vR b193, vJ (own_count p0 v43), .second, vI 1, .unset, .unset] [(.ref b154), (.ref bq72), (.ref b193)])) := fun t k => ks259 t (by
        refine XS.ifYes X248.here hx rfl (pc0 := 194) (pc' := 202) rfl (hb hby at_194) rfl ((if0 _ _).trans (teq hc260).1) (by decide) (by decide) ?_
        refine XS.aload X248.here hx rfl (hb hby at_202) rfl rfl ?_
        exact k)
      have f263 := ((f184.ext E193).keep Kq199)
      have f264 := ((((((((Fe72.ext E89).keep Kq92 (ninS ne_bq72_b89 nin0)).keep Kq105 nin0).keep Kq120 (ninS ne_bq72_bq92 (ninS ne_bq72_bq105 nin0))).ext E154).keep Kq157 (ninS ne_bq72_b154 nin0)).ext E193).keep Kq199 (ninS ne_bq72_b193 (ninS (Ne.symm ne_bq9_bq72) (ninS (Ne.symm ne_bq26_bq72) nin0))))
      have f265 := ((((((((Fz72.ext E89).keep Kq92 (ninS ne_bq72_b89 nin0)).keep Kq105 nin0).keep Kq120 (ninS ne_bq72_bq92 (ninS ne_bq72_bq105 nin0))).ext E154).keep Kq157 (ninS ne_bq72_b154 nin0)).ext E193).keep Kq199 (ninS ne_bq72_b193 (ninS (Ne.symm ne_bq9_bq72) (ninS (Ne.symm ne_bq26_bq72) nin0))))
      have f266 := ((f185.ext E193).keep Kq199 (ninS ne_ed72_b193 (ninS ne_ed72_bq9 (ninS ne_ed72_bq26 nin0))))
      have f267 := (f204.keep Kq199)
      have f268 := (f205.keep Kq199 (ninS ne_b6_b193 (ninS ne_b6_bq9 (ninS ne_b6_bq26 nin0))))
      have f269 := (f206.keep Kq199)
      have f270 := (f207.keep Kq199 (ninS ne_b23_b193 (ninS (Ne.symm ne_bq9_b23) (ninS ne_b23_bq26 nin0))))
      have f271 := ((f192.ext E193).keep Kq199)
      have f272 := ((Fp157.ext E193).keep Kq199 (ninS ne_b154_b193 (ninS (Ne.symm ne_bq9_b154) (ninS (Ne.symm ne_bq26_b154) nin0))))
      have f273 := ((Eh157.ext E193).keep Kq199)
      have f274 := ((Ft157.ext E193).keep Kq199 (ninS ne_bq157_b193 (ninS (Ne.symm ne_bq9_bq157) (ninS (Ne.symm ne_bq26_bq157) nin0))))
      have f275 := (A193.keep Kq199)
      obtain ⟨cq262, kq262, q262a, q262b, q262c⟩ := isOf hZ eq248 f275
      obtain ⟨_, _, ⟨T262, L262, k262, n262⟩, -, X262, ⟨Lc262, hQ262, lq262, yq262, zq262⟩, st262⟩ := X248.virtualBack hx (y := Y50) (z := Y50) hown (mvT hZ (own_w hw 220 rfl)) (mvT hZ (own_w hw 221 rfl)) (notFace_of_selects (args := #[]) (mvT hZ (own_w hw 223 rfl))) (mvT hZ (own_w hw 223 rfl)) (mvT hZ (own_w hw 222 rfl)) (by decide) (backOf (W := 0) (rm34_E l Z a0 hw [] b193 bq72 b154 ed72 ked72 cap72 p1 v48.toNatClampNeg b6 b23 bq9 bq26 bq157 (own_count p0 v43) (1 : Int32) (2 : Int32) T199.heap n0 Zn199 f263 f264 f265 f266 (own_mn (i := 0) rfl (by decide) hl0b hl1b).2 hcap72 f267 f268 f269 f270 f271 f272 f273 f274 f275 Fr199 Fq199 (by decide) g_b193) hZ (own_w hw 224 rfl) (own_w hw 215 rfl) (by decide) (by decide)) q262a q262c (g := (mkF m 204 #[vI p0, vI p1, vI p2, vI p3, vI p4, vI v2, vI v4, vR b6, vR b23, vI v43, vI v48, vI v51, vI v57, vR bq63, vR bq72, vR b89, vR b154, vR b193, vJ (own_count p0 v43), .second, vI 1, .unset, .unset] [(.ref b154), (.ref bq72), (.ref b193)])) rfl (by rw [hml]; rfl) (Steps.refl _) (argsL := [(.ref bq72), (.ref b154)]) (rest := []) (lenOf pd_23 rfl) rfl (by show 2 * 0 + _ ≤ _; exact Nat.le_of_eq rfl) (hb hby at_204) (fun _ _ => ⟨rfl, eq248, (by decide : 23 + 0 ≤ _), (by decide : 160 + 0 ≤ _)⟩)
      dsimp only [Pt.U, Pt.locs, Pt.cells, Pt.slots] at X262 lq262 yq262 zq262 st262 hQ262
      obtain rfl : k262 = 23 := yq262
      obtain rfl : n262 = 160 := zq262
      obtain ⟨rfl, Nq262, Kq262, Fr262, Fq262⟩ := hQ262
      have N262 := Fr.app N248' Nq262
      have KH262 : Keep h0 T262.heap [] := KH199.trans Kq262 (allS (Or.inr sz_b193) all0)
      have Zn262 : n0 ≤ T262.heap.size := Nat.le_trans Zn199 Kq262.1
      have N262' : Fr n0 L262 := by rw [lq262]; exact N262
      have ks276 := own_ct ks261 st262
      have ks277 : own_R p e below (A0) (T262.setTop (mkF m 228 #[vI p0, vI p1, vI p2, vI p3, vI p4, vI v2, vI v4, vR b6, vR b23, vI v43, vI v48, vI v51, vI v57, vR bq63, vR bq72, vR b89, vR b154, vR b193, vJ (own_count p0 v43), .second, vI 2, .unset, .unset] [(.ref b193)])) := fun t k => ks276 t (by
        refine XS.iconst X262.here hx rfl (hb hby at_207) ?_
        refine XS.istore X262.here hx rfl (hb hby at_208) rfl (l' := #[vI p0, vI p1, vI p2, vI p3, vI p4, vI v2, vI v4, vR b6, vR b23, vI v43, vI v48, vI v51, vI v57, vR bq63, vR bq72, vR b89, vR b154, vR b193, vJ (own_count p0 v43), .second, vI 2, .unset, .unset]) rfl ?_
        refine XS.iload X262.here hx rfl (hb hby at_210) rfl ?_
        show Steps p.tables e below (T262.setTop (mkF m 212 #[vI p0, vI p1, vI p2, vI p3, vI p4, vI v2, vI v4, vR b6, vR b23, vI v43, vI v48, vI v51, vI v57, vR bq63, vR bq72, vR b89, vR b154, vR b193, vJ (own_count p0 v43), .second, vI 2, .unset, .unset] [(.int v57)])) _
        refine XS.ifYes X262.here hx rfl (pc0 := 212) (pc' := 226) rfl (hb hby at_212) rfl ((if0 _ _).trans (teq hc260).1) (by decide) (by decide) ?_
        refine XS.aload X262.here hx rfl (hb hby at_226) rfl rfl ?_
        exact k)
      have f279 := (f275.keep Kq262)
      obtain ⟨cq278, kq278, q278a, q278b, q278c⟩ := isOf hZ rfl f279
      obtain ⟨_, _, ⟨T278, L278, k278, n278⟩, -, X278, ⟨Lc278, hQ278, lq278, yq278, zq278⟩, st278⟩ := X262.virtualBack hx (y := Y49) (z := Y49) hown (mvT hZ (own_w hw 289 rfl)) (mvT hZ (own_w hw 290 rfl)) (notFace_of_selects (args := #[]) (mvT hZ (own_w hw 292 rfl))) (mvT hZ (own_w hw 292 rfl)) (mvT hZ (own_w hw 291 rfl)) (by decide) (backOf (W := 0) (rm46 l Z a0 hw [] b193 (own_count p0 v43) (2 : Int32) T262.heap n0 Zn262 Fr262 Fq262 (own_q2 _ (by decide))) hZ (own_w hw 293 rfl) (own_w hw 215 rfl) (by decide) (by decide)) q278a q278c (g := (mkF m 228 #[vI p0, vI p1, vI p2, vI p3, vI p4, vI v2, vI v4, vR b6, vR b23, vI v43, vI v48, vI v51, vI v57, vR bq63, vR bq72, vR b89, vR b154, vR b193, vJ (own_count p0 v43), .second, vI 2, .unset, .unset] [(.ref b193)])) rfl (by rw [hml]; rfl) (Steps.refl _) (argsL := []) (rest := []) (lenOf pd_29 rfl) rfl (by show 2 * 0 + _ ≤ _; exact Nat.le_of_eq rfl) (hb hby at_228) (fun _ _ => ⟨rfl, rfl, (by decide : 23 + 0 ≤ _), (by decide : 160 + 0 ≤ _)⟩)
      dsimp only [Pt.U, Pt.locs, Pt.cells, Pt.slots] at X278 lq278 yq278 zq278 st278 hQ278
      obtain rfl : k278 = 23 := yq278
      obtain rfl : n278 = 160 := zq278
      obtain ⟨rfl, Nq278, eq278⟩ := hQ278
      have N278 := Fr.app N262' Nq278
      have N278' : Fr n0 L278 := by rw [lq278]; exact N278
      have ks280 := own_ct ks277 st278
      have ks281 : own_R p e below (A0) (T278.setTop (mkF m 243 #[vI p0, vI p1, vI p2, vI p3, vI p4, vI v2, vI v4, vR b6, vR b23, vI v43, vI v48, vI v51, vI v57, vR bq63, vR bq72, vR b89, vR b154, vR b193, vJ (own_count p0 v43), .second, vI 2, .val (.double (FP.ddiv (FP.l2d (own_count p0 v43)) (FP.i2d (2 : Int32)))), .second] [(.int (cmpValue (FP.dcmp (FP.ddiv (FP.l2d (own_count p0 v43)) (FP.i2d (2 : Int32))) (FP.ddiv (FP.l2d (own_count p0 v43)) (FP.i2d (2 : Int32)))) .l))])) := fun t k => ks280 t (by
        refine XS.dstore X278.here hx rfl (hb hby at_231) rfl (l' := #[vI p0, vI p1, vI p2, vI p3, vI p4, vI v2, vI v4, vR b6, vR b23, vI v43, vI v48, vI v51, vI v57, vR bq63, vR bq72, vR b89, vR b154, vR b193, vJ (own_count p0 v43), .second, vI 2, .val (.double (FP.ddiv (FP.l2d (own_count p0 v43)) (FP.i2d (2 : Int32)))), .second]) rfl ?_
        refine XS.dload X278.here hx rfl (hb hby at_233) rfl ?_
        refine XS.lload X278.here hx rfl (hb hby at_235) rfl ?_
        show Steps p.tables e below (T278.setTop (mkF m 237 #[vI p0, vI p1, vI p2, vI p3, vI p4, vI v2, vI v4, vR b6, vR b23, vI v43, vI v48, vI v51, vI v57, vR bq63, vR bq72, vR b89, vR b154, vR b193, vJ (own_count p0 v43), .second, vI 2, .val (.double (FP.ddiv (FP.l2d (own_count p0 v43)) (FP.i2d (2 : Int32)))), .second] [(.long (own_count p0 v43)), (.double (FP.ddiv (FP.l2d (own_count p0 v43)) (FP.i2d (2 : Int32))))])) _
        refine XS.l2dS X278.here hx rfl (hb hby at_237) rfl rfl ?_
        refine XS.iload X278.here hx rfl (hb hby at_238) rfl ?_
        refine XS.i2dS X278.here hx rfl (hb hby at_240) rfl rfl ?_
        refine XS.ddivS X278.here hx rfl (hb hby at_241) rfl (own_q2 _ (by decide)) rfl ?_
        show Steps p.tables e below (T278.setTop (mkF m 242 #[vI p0, vI p1, vI p2, vI p3, vI p4, vI v2, vI v4, vR b6, vR b23, vI v43, vI v48, vI v51, vI v57, vR bq63, vR bq72, vR b89, vR b154, vR b193, vJ (own_count p0 v43), .second, vI 2, .val (.double (FP.ddiv (FP.l2d (own_count p0 v43)) (FP.i2d (2 : Int32)))), .second] [(.double (FP.ddiv (FP.l2d (own_count p0 v43)) (FP.i2d (2 : Int32)))), (.double (FP.ddiv (FP.l2d (own_count p0 v43)) (FP.i2d (2 : Int32))))])) _
        refine XS.dcmpS X278.here hx rfl (hb hby at_242) rfl rfl ?_
        exact k)
      have hz282 : (cmpValue (FP.dcmp (FP.ddiv (FP.l2d (own_count p0 v43)) (FP.i2d (2 : Int32))) (FP.ddiv (FP.l2d (own_count p0 v43)) (FP.i2d (2 : Int32)))) .l) = (0 : Int32) := (dcmpV_self (own_q2 _ (by decide)) .l)
      rw [hz282] at ks281
      have ks283 : own_R p e below (A0) (T278.setTop (mkF m 251 #[vI p0, vI p1, vI p2, vI p3, vI p4, vI v2, vI v4, vR b6, vR b23, vI v43, vI v48, vI v51, vI v57, vR bq63, vR bq72, vR b89, vR b154, vR b193, vJ (own_count p0 v43), .second, vI 2, .val (.double (FP.ddiv (FP.l2d (own_count p0 v43)) (FP.i2d (2 : Int32)))), .second] [(.int 1)])) := fun t k => ks281 t (by
        refine XS.ifNo X278.here hx rfl (hb hby at_243) rfl ((if0 _ _).trans (teq (by decide)).2) ?_
        refine XS.iconst X278.here hx rfl (hb hby at_246) ?_
        refine XS.goto X278.here hx rfl (pc0 := 247) (pc' := 251) rfl (hb hby at_247) (by decide) (by decide) ?_
        exact k)
      obtain ⟨fs, hr, hrun, hended, hW, hsame⟩ := X278.leave (v := some (.int 1)) (fun h => by rw [Bd.returns] at h; cases h) hlk
      refine ⟨_, _, kz _ (ks283 _ ?_), hrun, hended, _, _, rfl, ?_, ⟨_, rfl⟩, hW, hsame.mono (by decide) (by decide)⟩
      · exact retN X278 hx (t := .boolean) Bd.returns (by simp) (hb hby at_251) hr
      · show Q0 Z p0 p1 p2 p3 p4 y9 u ku mo pv h0 n0 _ T278.heap _
        rw [eq278]
        exact ⟨rfl, N278'⟩
    · skip
      have ks284 : own_R p e below (A0) (T248.setTop (mkF m 204 #[vI p0, vI p1, vI p2, vI p3, vI p4, vI v2, vI v4, vR b6, vR b23, vI v43, vI v48, vI v51, vI v57, vR bq63, vR bq72, vR b89, vR b154, vR b193, vJ (own_count p0 v43), .second, vI 1, .unset, .unset] [(.ref b89), (.ref bq72), (.ref b193)])) := fun t k => ks259 t (by
        refine XS.ifNo X248.here hx rfl (hb hby at_194) rfl ((if0 _ _).trans (feq hc260).1) ?_
        refine XS.aload X248.here hx rfl (hb hby at_197) rfl rfl ?_
        refine XS.goto X248.here hx rfl (pc0 := 199) (pc' := 204) rfl (hb hby at_199) (by decide) (by decide) ?_
        exact k)
      have f286 := ((f184.ext E193).keep Kq199)
      have f287 := ((((((((Fe72.ext E89).keep Kq92 (ninS ne_bq72_b89 nin0)).keep Kq105 nin0).keep Kq120 (ninS ne_bq72_bq92 (ninS ne_bq72_bq105 nin0))).ext E154).keep Kq157 (ninS ne_bq72_b154 nin0)).ext E193).keep Kq199 (ninS ne_bq72_b193 (ninS (Ne.symm ne_bq9_bq72) (ninS (Ne.symm ne_bq26_bq72) nin0))))
      have f288 := ((((((((Fz72.ext E89).keep Kq92 (ninS ne_bq72_b89 nin0)).keep Kq105 nin0).keep Kq120 (ninS ne_bq72_bq92 (ninS ne_bq72_bq105 nin0))).ext E154).keep Kq157 (ninS ne_bq72_b154 nin0)).ext E193).keep Kq199 (ninS ne_bq72_b193 (ninS (Ne.symm ne_bq9_bq72) (ninS (Ne.symm ne_bq26_bq72) nin0))))
      have f289 := ((f185.ext E193).keep Kq199 (ninS ne_ed72_b193 (ninS ne_ed72_bq9 (ninS ne_ed72_bq26 nin0))))
      have f290 := (f204.keep Kq199)
      have f291 := (f205.keep Kq199 (ninS ne_b6_b193 (ninS ne_b6_bq9 (ninS ne_b6_bq26 nin0))))
      have f292 := (f206.keep Kq199)
      have f293 := (f207.keep Kq199 (ninS ne_b23_b193 (ninS (Ne.symm ne_bq9_b23) (ninS ne_b23_bq26 nin0))))
      have f294 := (f231.keep Kq199)
      have f295 := (f232.keep Kq199 (ninS ne_bq105_b193 (ninS (Ne.symm ne_bq9_bq105) (ninS (Ne.symm ne_bq26_bq105) nin0))))
      have f296 := (f233.keep Kq199 (ninS ne_bq105_b193 (ninS (Ne.symm ne_bq9_bq105) (ninS (Ne.symm ne_bq26_bq105) nin0))))
      have f297 := (f234.keep Kq199 (ninS ne_tq105_b193 (ninS (Ne.symm ne_bq9_tq105) (ninS (Ne.symm ne_bq26_tq105) nin0))))
      have f298 := own_sta_keep S9 KH199
      have f299 := (f236.keep Kq199)
      have f300 := (f237.keep Kq199 (ninS ne_b89_b193 (ninS (Ne.symm ne_bq9_b89) (ninS (Ne.symm ne_bq26_b89) nin0))))
      have f301 := (f238.keep Kq199)
      have f302 := (f239.keep Kq199 (ninS ne_bq92_b193 (ninS (Ne.symm ne_bq9_bq92) (ninS (Ne.symm ne_bq26_bq92) nin0))))
      have f303 := (f240.keep Kq199 (ninS ne_tab120_b193 (ninS (Ne.symm ne_bq9_tab120) (ninS (Ne.symm ne_bq26_tab120) nin0))))
      have f304 := (f241.keep Kq199)
      have f305 := (f242.keep Kq199 (ninS ne_nd120_b193 (ninS (Ne.symm ne_bq9_nd120) (ninS (Ne.symm ne_bq26_nd120) nin0))))
      have f306 := (f243.keep Kq199 (ninS ne_nd120_b193 (ninS (Ne.symm ne_bq9_nd120) (ninS (Ne.symm ne_bq26_nd120) nin0))))
      have f307 := (A193.keep Kq199)
      obtain ⟨cq285, kq285, q285a, q285b, q285c⟩ := isOf hZ eq248 f307
      obtain ⟨_, _, ⟨T285, L285, k285, n285⟩, -, X285, ⟨Lc285, hQ285, lq285, yq285, zq285⟩, st285⟩ := X248.virtualBack hx (y := Y50) (z := Y50) hown (mvT hZ (own_w hw 220 rfl)) (mvT hZ (own_w hw 221 rfl)) (notFace_of_selects (args := #[]) (mvT hZ (own_w hw 223 rfl))) (mvT hZ (own_w hw 223 rfl)) (mvT hZ (own_w hw 222 rfl)) (by decide) (backOf (W := 0) (rm34_R l Z a0 hw [] b193 bq72 b89 y9 ed72 ked72 cap72 p1 v48.toNatClampNeg b6 b23 bq9 bq26 tq9 kq9 tq26 kq26 v4 bq92 tab120 kt120 nd120 bq105 tq105 kq105 v2 (own_count p0 v43) ((own_count p0 v43) + (own_count p1 v48)) (1 : Int32) (2 : Int32) rs199 T199.heap n0 Zn199 f298 P9 f286 f287 f288 f289 (own_mn (i := 0) rfl (by decide) hl0b hl1b).2 hcap72 f290 f291 f292 f293 Tr199 Tn199 f299 f300 f301 f302 f303 f304 f305 f306 ⟨f294, f295, f296, f297⟩ hne f307 Fr199 Fq199 (by decide) g_b193 Fd199 hrr199 (by rw [own_cnt (m := p1) hl0b hl1b]) g_bq9 g_bq26 ne_bq72_b193 ne_ed72_b193 ne_b89_b193 ne_bq92_b193 ne_tab120_b193 ne_nd120_b193 ne_bq105_b193 ne_tq105_b193 ne_b6_b193 ne_b23_b193 ne_bq9_b193 ne_tq9_b193 ne_bq26_b193 ne_tq26_b193 (Ne.symm ne_bq9_bq72) ne_ed72_bq9 (Ne.symm ne_bq9_b89) (Ne.symm ne_bq9_bq92) (Ne.symm ne_bq9_tab120) (Ne.symm ne_bq9_nd120) (Ne.symm ne_bq9_bq105) (Ne.symm ne_bq9_tq105) ne_b6_bq9 (Ne.symm ne_bq9_b23) (Ne.symm ne_bq9_bq26) (Ne.symm ne_bq9_tq26) (Ne.symm ne_bq26_bq72) ne_ed72_bq26 (Ne.symm ne_bq26_b89) (Ne.symm ne_bq26_bq92) (Ne.symm ne_bq26_tab120) (Ne.symm ne_bq26_nd120) (Ne.symm ne_bq26_bq105) (Ne.symm ne_bq26_tq105) ne_b6_bq26 ne_b23_bq26 ne_tq9_bq26) hZ (own_w hw 224 rfl) (own_w hw 215 rfl) (by decide) (by decide)) q285a q285c (g := (mkF m 204 #[vI p0, vI p1, vI p2, vI p3, vI p4, vI v2, vI v4, vR b6, vR b23, vI v43, vI v48, vI v51, vI v57, vR bq63, vR bq72, vR b89, vR b154, vR b193, vJ (own_count p0 v43), .second, vI 1, .unset, .unset] [(.ref b89), (.ref bq72), (.ref b193)])) rfl (by rw [hml]; rfl) (Steps.refl _) (argsL := [(.ref bq72), (.ref b89)]) (rest := []) (lenOf pd_23 rfl) rfl (by show 2 * 0 + _ ≤ _; exact Nat.le_of_eq rfl) (hb hby at_204) (fun _ _ => ⟨rfl, eq248, (by decide : 23 + 0 ≤ _), (by decide : 160 + 0 ≤ _)⟩)
      dsimp only [Pt.U, Pt.locs, Pt.cells, Pt.slots] at X285 lq285 yq285 zq285 st285 hQ285
      obtain rfl : k285 = 23 := yq285
      obtain rfl : n285 = 160 := zq285
      have f308 := (f244.keep Kq199)
      have f309 := (f245.keep Kq199)
      obtain ⟨rfl, Nq285, Kq285, Tr285, Tn285, Fr285, Fq285, rs285, Fd285, hrr285⟩ := hQ285
      have N285 := Fr.app N248' Nq285
      have KH285 : Keep h0 T285.heap [] := KH199.trans Kq285 (allS (Or.inr sz_b193) (allS (Or.inr sz_bq9) (allS (Or.inr sz_bq26) all0)))
      have Zn285 : n0 ≤ T285.heap.size := Nat.le_trans Zn199 Kq285.1
      have N285' : Fr n0 L285 := by rw [lq285]; exact N285
      have ks310 := own_ct ks284 st285
      have ks311 : own_R p e below (A0) (T285.setTop (mkF m 220 #[vI p0, vI p1, vI p2, vI p3, vI p4, vI v2, vI v4, vR b6, vR b23, vI v43, vI v48, vI v51, vI v57, vR bq63, vR bq72, vR b89, vR b154, vR b193, vJ (own_count p0 v43), .second, vI 2, .unset, .unset] [(.int v48), (.int p1), (.long (own_count p0 v43))])) := fun t k => ks310 t (by
        refine XS.iconst X285.here hx rfl (hb hby at_207) ?_
        refine XS.istore X285.here hx rfl (hb hby at_208) rfl (l' := #[vI p0, vI p1, vI p2, vI p3, vI p4, vI v2, vI v4, vR b6, vR b23, vI v43, vI v48, vI v51, vI v57, vR bq63, vR bq72, vR b89, vR b154, vR b193, vJ (own_count p0 v43), .second, vI 2, .unset, .unset]) rfl ?_
        refine XS.iload X285.here hx rfl (hb hby at_210) rfl ?_
        show Steps p.tables e below (T285.setTop (mkF m 212 #[vI p0, vI p1, vI p2, vI p3, vI p4, vI v2, vI v4, vR b6, vR b23, vI v43, vI v48, vI v51, vI v57, vR bq63, vR bq72, vR b89, vR b154, vR b193, vJ (own_count p0 v43), .second, vI 2, .unset, .unset] [(.int v57)])) _
        refine XS.ifNo X285.here hx rfl (hb hby at_212) rfl ((if0 _ _).trans (feq hc260).1) ?_
        refine XS.lload X285.here hx rfl (hb hby at_215) rfl ?_
        refine XS.iloadN X285.here hx rfl (hb hby at_217) rfl ?_
        refine XS.iload X285.here hx rfl (hb hby at_218) rfl ?_
        exact k)
      obtain ⟨_, _, ⟨T312, L312, k312, n312⟩, -, X312, ⟨Lc312, hQ312, lq312, yq312, zq312⟩, st312⟩ := Jvm.LawKit.callS X285 hx (y := Y46) hown (mvT hZ (own_w hw 283 rfl)) (mvT hZ (own_w hw 284 rfl)) (mvT hZ (own_w hw 44 rfl)) (mvT hZ (own_w hw 285 rfl)) (by decide) (backOf (W := 2) (rm44 l Z a0 hw [] p1 v48 T285.heap n0 Zn285 ) hZ (own_w hw 285 rfl) (own_w hw 44 rfl) (by decide) (by decide)) (g := (mkF m 220 #[vI p0, vI p1, vI p2, vI p3, vI p4, vI v2, vI v4, vR b6, vR b23, vI v43, vI v48, vI v51, vI v57, vR bq63, vR bq72, vR b89, vR b154, vR b193, vJ (own_count p0 v43), .second, vI 2, .unset, .unset] [(.int v48), (.int p1), (.long (own_count p0 v43))])) rfl (by rw [hml]; rfl) (argsL := [(.int p1), (.int v48)]) (rest := [(.long (own_count p0 v43))]) (lenOf pd_28 rfl) rfl (by show 2 * 0 + _ ≤ _; exact Nat.le_of_eq rfl) (hb hby at_220) (fun _ _ => ⟨rfl, rfl, (by decide : 23 + 0 ≤ _), (by decide : 160 + 0 ≤ _)⟩)
      dsimp only [Pt.U, Pt.locs, Pt.cells, Pt.slots] at X312 lq312 yq312 zq312 st312 hQ312
      obtain rfl : k312 = 23 := yq312
      obtain rfl : n312 = 160 := zq312
      obtain ⟨rfl, Nq312, eq312⟩ := hQ312
      have N312 := Fr.app N285' Nq312
      have N312' : Fr n0 L312 := by rw [lq312]; exact N312
      have ks313 := own_c ks311 st312
      have ks314 : own_R p e below (A0) (T312.setTop (mkF m 224 #[vI p0, vI p1, vI p2, vI p3, vI p4, vI v2, vI v4, vR b6, vR b23, vI v43, vI v48, vI v51, vI v57, vR bq63, vR bq72, vR b89, vR b154, vR b193, vJ (own_count p0 v43), .second, vI 2, .unset, .unset] [(.long ((own_count p0 v43) + (own_count p1 v48)))])) := fun t k => ks313 t (by
        refine XS.ladd X312.here hx rfl (hb hby at_223) rfl ?_
        exact k)
      obtain ⟨v315, hv315⟩ : ∃ z : Int64, z = ((own_count p0 v43) + (own_count p1 v48)) := ⟨_, rfl⟩
      rw [← hv315] at ks314
      have ks316 : own_R p e below (A0) (T312.setTop (mkF m 228 #[vI p0, vI p1, vI p2, vI p3, vI p4, vI v2, vI v4, vR b6, vR b23, vI v43, vI v48, vI v51, vI v57, vR bq63, vR bq72, vR b89, vR b154, vR b193, vJ v315, .second, vI 2, .unset, .unset] [(.ref b193)])) := fun t k => ks314 t (by
        refine XS.lstore X312.here hx rfl (hb hby at_224) rfl (l' := #[vI p0, vI p1, vI p2, vI p3, vI p4, vI v2, vI v4, vR b6, vR b23, vI v43, vI v48, vI v51, vI v57, vR bq63, vR bq72, vR b89, vR b154, vR b193, vJ v315, .second, vI 2, .unset, .unset]) rfl ?_
        refine XS.aload X312.here hx rfl (hb hby at_226) rfl rfl ?_
        exact k)
      have f318 := (f307.keep Kq285)
      obtain ⟨cq317, kq317, q317a, q317b, q317c⟩ := isOf hZ eq312 f318
      obtain ⟨_, _, ⟨T317, L317, k317, n317⟩, -, X317, ⟨Lc317, hQ317, lq317, yq317, zq317⟩, st317⟩ := X312.virtualBack hx (y := Y49) (z := Y49) hown (mvT hZ (own_w hw 289 rfl)) (mvT hZ (own_w hw 290 rfl)) (notFace_of_selects (args := #[]) (mvT hZ (own_w hw 292 rfl))) (mvT hZ (own_w hw 292 rfl)) (mvT hZ (own_w hw 291 rfl)) (by decide) (backOf (W := 0) (rm46 l Z a0 hw [] b193 ((own_count p0 v43) + (own_count p1 v48)) (2 : Int32) T285.heap n0 Zn285 Fr285 Fq285 (own_q2 _ (by decide))) hZ (own_w hw 293 rfl) (own_w hw 215 rfl) (by decide) (by decide)) q317a q317c (g := (mkF m 228 #[vI p0, vI p1, vI p2, vI p3, vI p4, vI v2, vI v4, vR b6, vR b23, vI v43, vI v48, vI v51, vI v57, vR bq63, vR bq72, vR b89, vR b154, vR b193, vJ v315, .second, vI 2, .unset, .unset] [(.ref b193)])) rfl (by rw [hml]; rfl) (Steps.refl _) (argsL := []) (rest := []) (lenOf pd_29 rfl) rfl (by show 2 * 0 + _ ≤ _; exact Nat.le_of_eq rfl) (hb hby at_228) (fun _ _ => ⟨rfl, eq312, (by decide : 23 + 0 ≤ _), (by decide : 160 + 0 ≤ _)⟩)
      dsimp only [Pt.U, Pt.locs, Pt.cells, Pt.slots] at X317 lq317 yq317 zq317 st317 hQ317
      obtain rfl : k317 = 23 := yq317
      obtain rfl : n317 = 160 := zq317
      obtain ⟨rfl, Nq317, eq317⟩ := hQ317
      have N317 := Fr.app N312' Nq317
      have N317' : Fr n0 L317 := by rw [lq317]; exact N317
      have ks319 := own_ct ks316 st317
      have ks320 : own_R p e below (A0) (T317.setTop (mkF m 243 #[vI p0, vI p1, vI p2, vI p3, vI p4, vI v2, vI v4, vR b6, vR b23, vI v43, vI v48, vI v51, vI v57, vR bq63, vR bq72, vR b89, vR b154, vR b193, vJ v315, .second, vI 2, .val (.double (FP.ddiv (FP.l2d ((own_count p0 v43) + (own_count p1 v48))) (FP.i2d (2 : Int32)))), .second] [(.int (cmpValue (FP.dcmp (FP.ddiv (FP.l2d ((own_count p0 v43) + (own_count p1 v48))) (FP.i2d (2 : Int32))) (FP.ddiv (FP.l2d v315) (FP.i2d (2 : Int32)))) .l))])) := fun t k => ks319 t (by
        refine XS.dstore X317.here hx rfl (hb hby at_231) rfl (l' := #[vI p0, vI p1, vI p2, vI p3, vI p4, vI v2, vI v4, vR b6, vR b23, vI v43, vI v48, vI v51, vI v57, vR bq63, vR bq72, vR b89, vR b154, vR b193, vJ v315, .second, vI 2, .val (.double (FP.ddiv (FP.l2d ((own_count p0 v43) + (own_count p1 v48))) (FP.i2d (2 : Int32)))), .second]) rfl ?_
        refine XS.dload X317.here hx rfl (hb hby at_233) rfl ?_
        refine XS.lload X317.here hx rfl (hb hby at_235) rfl ?_
        show Steps p.tables e below (T317.setTop (mkF m 237 #[vI p0, vI p1, vI p2, vI p3, vI p4, vI v2, vI v4, vR b6, vR b23, vI v43, vI v48, vI v51, vI v57, vR bq63, vR bq72, vR b89, vR b154, vR b193, vJ v315, .second, vI 2, .val (.double (FP.ddiv (FP.l2d ((own_count p0 v43) + (own_count p1 v48))) (FP.i2d (2 : Int32)))), .second] [(.long v315), (.double (FP.ddiv (FP.l2d ((own_count p0 v43) + (own_count p1 v48))) (FP.i2d (2 : Int32))))])) _
        refine XS.l2dS X317.here hx rfl (hb hby at_237) rfl rfl ?_
        refine XS.iload X317.here hx rfl (hb hby at_238) rfl ?_
        refine XS.i2dS X317.here hx rfl (hb hby at_240) rfl rfl ?_
        refine XS.ddivS X317.here hx rfl (hb hby at_241) rfl (own_q2 _ (by decide)) rfl ?_
        show Steps p.tables e below (T317.setTop (mkF m 242 #[vI p0, vI p1, vI p2, vI p3, vI p4, vI v2, vI v4, vR b6, vR b23, vI v43, vI v48, vI v51, vI v57, vR bq63, vR bq72, vR b89, vR b154, vR b193, vJ v315, .second, vI 2, .val (.double (FP.ddiv (FP.l2d ((own_count p0 v43) + (own_count p1 v48))) (FP.i2d (2 : Int32)))), .second] [(.double (FP.ddiv (FP.l2d v315) (FP.i2d (2 : Int32)))), (.double (FP.ddiv (FP.l2d ((own_count p0 v43) + (own_count p1 v48))) (FP.i2d (2 : Int32))))])) _
        refine XS.dcmpS X317.here hx rfl (hb hby at_242) rfl rfl ?_
        exact k)
      have hz321 : (cmpValue (FP.dcmp (FP.ddiv (FP.l2d ((own_count p0 v43) + (own_count p1 v48))) (FP.i2d (2 : Int32))) (FP.ddiv (FP.l2d v315) (FP.i2d (2 : Int32)))) .l) = (0 : Int32) := by rw [hv315]; exact (dcmpV_self (own_q2 _ (by decide)) .l)
      rw [hz321] at ks320
      have ks322 : own_R p e below (A0) (T317.setTop (mkF m 251 #[vI p0, vI p1, vI p2, vI p3, vI p4, vI v2, vI v4, vR b6, vR b23, vI v43, vI v48, vI v51, vI v57, vR bq63, vR bq72, vR b89, vR b154, vR b193, vJ v315, .second, vI 2, .val (.double (FP.ddiv (FP.l2d ((own_count p0 v43) + (own_count p1 v48))) (FP.i2d (2 : Int32)))), .second] [(.int 1)])) := fun t k => ks320 t (by
        refine XS.ifNo X317.here hx rfl (hb hby at_243) rfl ((if0 _ _).trans (teq (by decide)).2) ?_
        refine XS.iconst X317.here hx rfl (hb hby at_246) ?_
        refine XS.goto X317.here hx rfl (pc0 := 247) (pc' := 251) rfl (hb hby at_247) (by decide) (by decide) ?_
        exact k)
      obtain ⟨fs, hr, hrun, hended, hW, hsame⟩ := X317.leave (v := some (.int 1)) (fun h => by rw [Bd.returns] at h; cases h) hlk
      refine ⟨_, _, kz _ (ks322 _ ?_), hrun, hended, _, _, rfl, ?_, ⟨_, rfl⟩, hW, hsame.mono (by decide) (by decide)⟩
      · exact retN X317 hx (t := .boolean) Bd.returns (by simp) (hb hby at_251) hr
      · show Q0 Z p0 p1 p2 p3 p4 y9 u ku mo pv h0 n0 _ T317.heap _
        rw [eq317]
        exact ⟨rfl, N317'⟩
set_option maxRecDepth 65536 in
set_option maxHeartbeats 40000000 in
theorem comes_1 {Post : Tables → Env → Array Value → State → Outcome → State → Prop} (hpost : ∀ tb e args s v u, (limb_1_1.after args s (.returned v) u = true ∧ limb_1_2.after args s (.returned v) u = true ∧ True) → FrameEnd s (.returned v) u (Jvm.fieldLocs frame_1_writes args s ++ Jvm.arrayLocs frame_1_arrays args s ++ Jvm.staticLocs frame_1_statics s) 56 384 → Post tb e args s (.returned v) u) :
    ArmFor flags0 classFile x code maxLocals ret World_1 tables_1 room_1 Calls_1 rest_1 Pre_1 Post := by
  intro l hfl _ _ p e ha hc hk s m args below hf hA hF happ hP
  obtain ⟨hcalls, hrest, hpre⟩ := hP
  obtain ⟨-, -, -, hnamed, -, -, -, hat⟩ := (Spec.applies_iff hf).mp happ
  obtain ⟨hg, hn⟩ := and_e (Cond.before_iff.mp (show (Jvm.Cond.and given_1 narrow_1).before args s = true from hpre))
  obtain ⟨g1, g2⟩ := and_e hg
  obtain ⟨g3, g4⟩ := and_e g2
  obtain ⟨g5, g6⟩ := and_e g4
  obtain ⟨g7, g8⟩ := and_e g6
  obtain ⟨g9, g10⟩ := and_e g8
  obtain ⟨w0, w1, w2, w3, w4, rfl⟩ : ∃ w0 w1 w2 w3 w4 : Value, args = #[w0, w1, w2, w3, w4] := by
    have hs : args.size = 5 := by simpa [Cond.value, given_1] using g1
    obtain ⟨L⟩ := args
    match L, hs with
    | [w0, w1, w2, w3, w4], _ => exact ⟨w0, w1, w2, w3, w4, rfl⟩
  have hw := fun d (hd : d ∈ tables_1) => atoms_spec (ws := Jvm.Cond.code x code maxLocals ret :: tables_1) hat d (List.mem_cons_of_mem _ hd)
  have hfit : Fit s := fun {y c} hc i hi => by
    obtain ⟨ha, rfl⟩ := Array.getElem?_eq_some_iff.mp hc
    have q := List.all_eq_true.mp ((Array.all_eq_true_iff_forall_mem.mp hF) _ (Array.getElem_mem ha)) i (List.mem_range.mpr hi)
    simpa [Array.getElem?_eq_getElem hi] using q
  obtain ⟨hsets, hown0⟩ := atoms_of _ (rest_1_c_eq ▸ (show rest_1_c.before _ s = true from hrest))
  have hr0 := Cond.before_iff.mp hown0
  obtain ⟨i0, ei0⟩ := is_v g3
  obtain rfl : w0 = (.int i0) := Option.some.inj ei0
  obtain ⟨i1, ei1⟩ := is_v g5
  obtain rfl : w1 = (.int i1) := Option.some.inj ei1
  obtain ⟨i2, ei2⟩ := is_v g7
  obtain rfl : w2 = (.int i2) := Option.some.inj ei2
  obtain ⟨i3, ei3⟩ := is_v g9
  obtain rfl : w3 = (.int i3) := Option.some.inj ei3
  obtain ⟨i4, ei4⟩ := is_v g10
  obtain rfl : w4 = (.int i4) := Option.some.inj ei4
  obtain ⟨y9, ev9⟩ := is_v (Cond.before_iff.mp (hsets _ (List.mem_of_getElem? (i := 1) rfl)))
  have S9 := Sta.start ev9 (Or.inl (hsets _ (List.mem_of_getElem? (i := 0) rfl)))
  have P9 : ¬ y9 = (0 : Int32) := gotF (Cond.eq_ints ev9 (Term.int_eval 0)) (not_v (Cond.before_iff.mp (hsets _ (List.mem_of_getElem? (i := 2) rfl))))
  obtain ⟨u1, evu⟩ := arr_v (Cond.before_iff.mp (hsets _ (List.mem_of_getElem? (i := 15) rfl)))
  obtain ⟨clu, Aru⟩ := Arr.start evu (Cond.before_iff.mp (hsets _ (List.mem_of_getElem? (i := 15) rfl)))
  have Sd0 : Sta s s.heap "java/util/ArrayList" "DEFAULTCAPACITY_EMPTY_ELEMENTDATA" "[Ljava/lang/Object;" (.ref u1) := Sta.start evu (Or.inr ⟨(own_w hw 48 rfl), (hsets _ (List.mem_of_getElem? (i := 11) rfl))⟩)
  obtain ⟨lsu, leu⟩ := own_len (Cond.before_iff.mp (hsets _ (List.mem_of_getElem? (i := 17) rfl))) evu Aru
  have Vu0 : Arv s s.heap u1 clu.cls (.object "java/lang/Object") 0 [] .null := Arv.start hfit Aru lsu leu (by decide) rfl trivial
  obtain ⟨pv, evp⟩ := exa_v (Cond.before_iff.mp (hsets _ (List.mem_of_getElem? (i := 20) rfl)))
  have Sp : Sta s s.heap "java/util/HashSet" "PRESENT" "Ljava/lang/Object;" (.ref pv) := Sta.start evp (Or.inl (hsets _ (List.mem_of_getElem? (i := 19) rfl)))
  obtain ⟨mo, Mo⟩ := own_mir_start hcalls.1
  obtain ⟨n, o, h1, h2, h3, _, L, rfl, ⟨rfl, N⟩, hq⟩ := rm0 l s _ hw tables_1 i0 i1 i2 i3 i4 y9 u1 _ mo pv s.heap s.heap.size (Nat.le_refl _) S9 P9 (Old.start s) Sd0 Vu0 Mo Sp p e ha hc hk s m _ below hf ((Spec.applies_iff_loose hf).mp happ).1 ⟨rfl, State.Warmed39.refl s, rfl⟩ trivial
  refine ⟨n, _, h1, h2, h3, hpost _ _ _ _ _ _ ⟨Cond.after_iff.mpr rfl, Cond.after_iff.mpr (eq_i res_at (Term.int_eval (1)) rfl), trivial⟩ ⟨hq.1, hq.2.1, (hq.2.2.sift fun y hy => Or.inr (N y hy)).mono (by decide) (by decide)⟩⟩
theorem main_1_1 : Claimed_1_1 := comes_1 fun _ _ _ _ _ _ h hF => ⟨h.1, hF⟩
theorem main_1_2 : Claimed_1_2 := comes_1 fun _ _ _ _ _ _ h hF => ⟨h.2.1, hF⟩
end Jvm.Pilot.@@N@@
namespace Jvm.Pilot.@@N@@
open Jvm Jvm.ClassFile Sem Op Lib Jvm.Free Jvm.Stand Jvm.Pilot.@@N@@.Jvm.D
/-! MADE BY PROGRAM (witnessworld.py) out of the Statement's table words and the real class files: 41 classes; the members and pool entries that the words name. The judged class is class 1, her method 1. -/
namespace start1
open Jvm.ClassFile
def u (s : String) : CpInfo := .utf8 (stringToUtf16 s)
/-- a pool by its gaps: so many unusable entries, then the entry; so many at the end -/
def gap : Nat → List CpInfo → List CpInfo
  | 0, r => r
  | n + 1, r => .unusable :: gap n r
def poolList (es : List (Nat × CpInfo)) (last : Nat) : List CpInfo := es.foldr (fun e r => gap e.1 (e.2 :: r)) (gap last [])
def pool (es : List (Nat × CpInfo)) (last : Nat) : Array CpInfo := ⟨poolList es last⟩
def fileOf (pool : Array CpInfo) (this : Nat) (attrs : Array Attribute := #[]) (ms : Array MethodInfo := #[]) (fl : Nat := 33) (sup : Nat := 0) (ifs : Array Nat := #[]) (fds : Array FieldInfo := #[]) : ClassFile where
  minorVersion := 0
  majorVersion := 65
  constantPool := pool
  accessFlags := fl
  thisClass := this
  superClass := sup
  interfaces := ifs
  fields := fds
  methods := ms
  attributes := attrs
def plain (name : String) (sup : Option ClassId) : Class where
  name := name
  kind := .ordinary
  loader := none
  accessFlags := 33
  super := sup
  interfaces := #[]
  cf := none
  fields := #[]
  methods := #[]
  instanceTypes := #[]
  staticTypes := #[]
  resolved := #[]
  callSites := []
  init := .initialized
  statics := none
  mirror := none

def pool0 : Array CpInfo := pool [(5, u "<init>"), (0, u "()V"), (1, .class_ 10), (1, u "java/lang/Object"), (0, u "getClass"), (0, u "()Ljava/lang/Class;"), (14, u "hashCode"), (0, u "()I"), (63, u "equals"), (0, u "(Ljava/lang/Object;)Z")] 30

def k0c0 : Code := { maxStack := 0, maxLocals := 1, code := object_method_1_code, exceptionTable := #[], attributes := #[] }
def k0m0 : Method := { name := "<init>", desc := "()V", sig := { parameters := [], returnType := none }, accessFlags := 1, code := some k0c0 }
def k0m1 : Method := { name := "getClass", desc := "()Ljava/lang/Class;", sig := { parameters := [], returnType := some (.object "java/lang/Class") }, accessFlags := 273, code := none }
def k0m2 : Method := { name := "hashCode", desc := "()I", sig := { parameters := [], returnType := some .int }, accessFlags := 257, code := none }
def k0c3 : Code := { maxStack := 2, maxLocals := 2, code := ⟨#[]⟩, exceptionTable := #[], attributes := #[] }
def k0m3 : Method := { name := "equals", desc := "(Ljava/lang/Object;)Z", sig := { parameters := [(.object "java/lang/Object")], returnType := some .boolean }, accessFlags := 1, code := some k0c3 }
/-- java/lang/Object -/
def k0 : Class := { plain "java/lang/Object" none with
  accessFlags := 33
  interfaces := #[]
  cf := some (fileOf pool0 8 #[] #[{ accessFlags := 1, nameIndex := 5, descriptorIndex := 6, attributes := #[] }, { accessFlags := 273, nameIndex := 11, descriptorIndex := 12, attributes := #[] }, { accessFlags := 257, nameIndex := 27, descriptorIndex := 28, attributes := #[] }, { accessFlags := 1, nameIndex := 92, descriptorIndex := 93, attributes := #[] }] 33 0 #[] #[])
  fields := #[]
  methods := #[k0m0, k0m1, k0m2, k0m3]
  instanceTypes := #[]
  staticTypes := #[]
  resolved := Array.replicate 124 none
  statics := none }

def pool1 : Array CpInfo := pool [(2, .class_ 4), (0, .nameAndType 5 6), (0, u "java/lang/Object"), (0, u "<init>"), (0, u "()V"), (0, .class_ 8), (0, u "com/example/carved_corpus/carvedcorpus/Hit"), (0, .methodref 10 11), (0, .class_ 12), (0, .nameAndType 13 14), (0, u "java/lang/String"), (0, u "valueOf"), (0, u "(C)Ljava/lang/String;"), (0, .methodref 7 16), (0, .nameAndType 5 17), (0, u "(Ljava/lang/String;F)V"), (0, .float 1056964608), (0, .methodref 20 21), (0, .class_ 22), (0, .nameAndType 23 24), (0, u "java/lang/Math"), (0, u "min"), (0, u "(II)I"), (0, .methodref 26 27), (0, .class_ 28), (0, .nameAndType 29 30), (0, u "com/example/carved_corpus/carvedcorpus/cli/EvaluationGetRelevantAtCutoffPinLaw"), (0, u "build"), (0, u "(IILcom/example/carved_corpus/carvedcorpus/Hit;Lcom/example/carved_corpus/carvedcorpus/Hit;)Ljava/util/ArrayList;"), (0, .class_ 32), (0, u "java/util/HashSet"), (0, .methodref 31 3), (0, .methodref 31 35), (0, .nameAndType 36 37), (0, u "add"), (0, u "(Ljava/lang/Object;)Z"), (0, .class_ 39), (0, u "com/example/carved_corpus/carvedcorpus/cli/Evaluation"), (0, .methodref 38 3), (0, .methodref 38 42), (0, .nameAndType 36 43), (0, u "(Ljava/util/List;Ljava/util/Set;)V"), (0, .methodref 26 45), (0, .nameAndType 46 47), (0, u "count"), (0, u "(II)J"), (0, .methodref 38 49), (0, .nameAndType 50 51), (0, u "getRelevantAtCutoff"), (0, u "()D"), (0, .class_ 53), (0, u "java/util/ArrayList"), (0, .methodref 52 3), (0, .methodref 26 56), (0, .nameAndType 57 58), (0, u "put"), (0, u "(Ljava/util/ArrayList;IIILcom/example/carved_corpus/carvedcorpus/Hit;Lcom/example/carved_corpus/carvedcorpus/Hit;)V"), (0, .methodref 52 35), (0, .methodref 26 61), (0, .nameAndType 62 24), (0, u "bit"), (2, u "law"), (0, u "(IIIII)Z")] 8

def k1m0 : Method := { name := "<init>", desc := "()V", sig := { parameters := [], returnType := none }, accessFlags := 2, code := none }
def k1c1 : Code := { maxStack := 6, maxLocals := 23, code := code, exceptionTable := #[], attributes := #[] }
def k1m1 : Method := { name := "law", desc := "(IIIII)Z", sig := { parameters := [.int, .int, .int, .int, .int], returnType := some .boolean }, accessFlags := 9, code := some k1c1 }
def k1c2 : Code := { maxStack := 6, maxLocals := 5, code := method_3_code, exceptionTable := #[], attributes := #[] }
def k1m2 : Method := { name := "build", desc := "(IILcom/example/carved_corpus/carvedcorpus/Hit;Lcom/example/carved_corpus/carvedcorpus/Hit;)Ljava/util/ArrayList;", sig := { parameters := [.int, .int, (.object "com/example/carved_corpus/carvedcorpus/Hit"), (.object "com/example/carved_corpus/carvedcorpus/Hit")], returnType := some (.object "java/util/ArrayList") }, accessFlags := 10, code := some k1c2 }
def k1c3 : Code := { maxStack := 3, maxLocals := 6, code := method_4_code, exceptionTable := #[], attributes := #[] }
def k1m3 : Method := { name := "put", desc := "(Ljava/util/ArrayList;IIILcom/example/carved_corpus/carvedcorpus/Hit;Lcom/example/carved_corpus/carvedcorpus/Hit;)V", sig := { parameters := [(.object "java/util/ArrayList"), .int, .int, .int, (.object "com/example/carved_corpus/carvedcorpus/Hit"), (.object "com/example/carved_corpus/carvedcorpus/Hit")], returnType := none }, accessFlags := 10, code := some k1c3 }
def k1c4 : Code := { maxStack := 2, maxLocals := 2, code := method_5_code, exceptionTable := #[], attributes := #[] }
def k1m4 : Method := { name := "bit", desc := "(II)I", sig := { parameters := [.int, .int], returnType := some .int }, accessFlags := 10, code := some k1c4 }
def k1c5 : Code := { maxStack := 3, maxLocals := 4, code := method_6_code, exceptionTable := #[], attributes := #[] }
def k1m5 : Method := { name := "count", desc := "(II)J", sig := { parameters := [.int, .int], returnType := some .long }, accessFlags := 10, code := some k1c5 }
/-- com/example/carved_corpus/carvedcorpus/cli/EvaluationGetRelevantAtCutoffPinLaw -/
def k1 : Class := { plain "com/example/carved_corpus/carvedcorpus/cli/EvaluationGetRelevantAtCutoffPinLaw" (some 0) with
  accessFlags := 49
  interfaces := #[]
  cf := some (fileOf pool1 26 #[] #[{ accessFlags := 2, nameIndex := 5, descriptorIndex := 6, attributes := #[] }, { accessFlags := 9, nameIndex := 65, descriptorIndex := 66, attributes := #[] }, { accessFlags := 10, nameIndex := 29, descriptorIndex := 30, attributes := #[] }, { accessFlags := 10, nameIndex := 57, descriptorIndex := 58, attributes := #[] }, { accessFlags := 10, nameIndex := 62, descriptorIndex := 24, attributes := #[] }, { accessFlags := 10, nameIndex := 46, descriptorIndex := 47, attributes := #[] }] 49 2 #[] #[])
  fields := #[]
  methods := #[k1m0, k1m1, k1m2, k1m3, k1m4, k1m5]
  instanceTypes := #[]
  staticTypes := #[]
  resolved := Array.replicate 75 none
  statics := none }

def pool2 : Array CpInfo := pool [(1, .methodref 2 3), (0, .class_ 4), (0, .nameAndType 5 6), (0, u "java/lang/Object"), (0, u "<init>"), (0, u "()V"), (0, .fieldref 8 9), (0, .class_ 10), (0, .nameAndType 11 12), (0, u "com/example/carved_corpus/carvedcorpus/Hit"), (0, u "id"), (0, u "Ljava/lang/String;"), (0, .fieldref 8 14), (0, .nameAndType 15 16), (0, u "score"), (0, u "F"), (0, u "(Ljava/lang/String;F)V"), (2, u "getId"), (0, u "()Ljava/lang/String;")] 4

def k2c0 : Code := { maxStack := 2, maxLocals := 3, code := prog_1_method_1_code, exceptionTable := #[], attributes := #[] }
def k2m0 : Method := { name := "<init>", desc := "(Ljava/lang/String;F)V", sig := { parameters := [(.object "java/lang/String"), .float], returnType := none }, accessFlags := 1, code := some k2c0 }
def k2c1 : Code := { maxStack := 1, maxLocals := 1, code := prog_1_method_2_code, exceptionTable := #[], attributes := #[] }
def k2m1 : Method := { name := "getId", desc := "()Ljava/lang/String;", sig := { parameters := [], returnType := some (.object "java/lang/String") }, accessFlags := 1, code := some k2c1 }
/-- com/example/carved_corpus/carvedcorpus/Hit -/
def k2 : Class := { plain "com/example/carved_corpus/carvedcorpus/Hit" (some 0) with
  accessFlags := 33
  interfaces := #[]
  cf := some (fileOf pool2 8 #[] #[{ accessFlags := 1, nameIndex := 5, descriptorIndex := 17, attributes := #[] }, { accessFlags := 1, nameIndex := 20, descriptorIndex := 21, attributes := #[] }] 33 2 #[] #[{ accessFlags := 18, nameIndex := 11, descriptorIndex := 12, attributes := #[] }, { accessFlags := 18, nameIndex := 15, descriptorIndex := 16, attributes := #[] }])
  fields := #[{ name := "id", type := (.object "java/lang/String"), accessFlags := 18, slot := 0, constantValue := 0 }, { name := "score", type := .float, accessFlags := 18, slot := 1, constantValue := 0 }]
  methods := #[k2m0, k2m1]
  instanceTypes := #[(.object "java/lang/String"), .float]
  staticTypes := #[]
  resolved := Array.replicate 26 none
  statics := none }

def pool3 : Array CpInfo := pool [(1, .class_ 2), (0, u "java/io/Serializable"), (0, .class_ 4), (0, u "java/lang/Object")] 2

/-- java/io/Serializable -/
def k3 : Class := { plain "java/io/Serializable" (some 0) with
  accessFlags := 1537
  interfaces := #[]
  cf := some (fileOf pool3 1 #[] #[] 1537 3 #[] #[])
  fields := #[]
  methods := #[]
  instanceTypes := #[]
  staticTypes := #[]
  resolved := Array.replicate 7 none
  statics := none }

def pool4 : Array CpInfo := pool [(1, .class_ 2), (0, u "java/lang/Comparable"), (0, .class_ 4), (0, u "java/lang/Object")] 7

/-- java/lang/Comparable -/
def k4 : Class := { plain "java/lang/Comparable" (some 0) with
  accessFlags := 1537
  interfaces := #[]
  cf := some (fileOf pool4 1 #[] #[] 1537 3 #[] #[])
  fields := #[]
  methods := #[]
  instanceTypes := #[]
  staticTypes := #[]
  resolved := Array.replicate 12 none
  statics := none }

def pool5 : Array CpInfo := pool [(2, .class_ 4), (1, u "java/lang/CharSequence"), (42, .class_ 48), (0, u "java/lang/CharSequence$1CodePointIterator"), (10, .class_ 60), (0, u "java/lang/CharSequence$1CharIterator"), (5, .class_ 67), (0, u "java/lang/Object")] 63

/-- java/lang/CharSequence -/
def k5 : Class := { plain "java/lang/CharSequence" (some 0) with
  accessFlags := 1537
  interfaces := #[]
  cf := some (fileOf pool5 2 #[.nestMembers #[47, 59]] #[] 1537 66 #[] #[])
  fields := #[]
  methods := #[]
  instanceTypes := #[]
  staticTypes := #[]
  resolved := Array.replicate 131 none
  statics := none }

def pool6 : Array CpInfo := pool [(1, .class_ 2), (0, u "java/lang/constant/Constable"), (0, .class_ 4), (0, u "java/lang/Object")] 6

/-- java/lang/constant/Constable -/
def k6 : Class := { plain "java/lang/constant/Constable" (some 0) with
  accessFlags := 1537
  interfaces := #[]
  cf := some (fileOf pool6 1 #[] #[] 1537 3 #[] #[])
  fields := #[]
  methods := #[]
  instanceTypes := #[]
  staticTypes := #[]
  resolved := Array.replicate 11 none
  statics := none }

def pool7 : Array CpInfo := pool [(1, .class_ 2), (0, u "java/lang/constant/ConstantDesc"), (0, .class_ 4), (0, u "java/lang/Object")] 32

/-- java/lang/constant/ConstantDesc -/
def k7 : Class := { plain "java/lang/constant/ConstantDesc" (some 0) with
  accessFlags := 1537
  interfaces := #[]
  cf := some (fileOf pool7 1 #[] #[] 1537 3 #[] #[])
  fields := #[]
  methods := #[]
  instanceTypes := #[]
  staticTypes := #[]
  resolved := Array.replicate 37 none
  statics := none }

def pool8 : Array CpInfo := pool [(1, .methodref 2 3), (0, .class_ 4), (0, .nameAndType 5 6), (0, u "java/lang/Object"), (0, u "<init>"), (0, u "()V"), (2, .fieldref 10 11), (0, .class_ 12), (0, .nameAndType 13 14), (0, u "java/lang/String"), (0, u "value"), (0, u "[B"), (0, .fieldref 10 16), (0, .nameAndType 17 18), (0, u "coder"), (0, u "B"), (0, .fieldref 10 20), (0, .nameAndType 21 22), (0, u "hash"), (0, u "I"), (0, .fieldref 10 24), (0, .nameAndType 25 26), (0, u "hashIsZero"), (0, u "Z"), (11, .fieldref 10 39), (0, .nameAndType 40 26), (0, u "COMPACT_STRINGS"), (12, u "toBytes"), (53, .class_ 109), (1, u "java/lang/StringLatin1"), (32, u "()Z"), (66, .methodref 10 210), (0, .nameAndType 5 211), (0, u "([BB)V"), (122, u "()I"), (34, u "(C)Z"), (122, .methodref 10 493), (0, .nameAndType 494 142), (0, u "isLatin1"), (46, .methodref 107 542), (0, .nameAndType 543 544), (0, u "equals"), (0, u "([B[B)Z"), (28, u "(Ljava/lang/Object;)Z"), (1, .class_ 576), (0, u "java/lang/CharSequence"), (22, u "CASE_INSENSITIVE_ORDER"), (0, u "Ljava/util/Comparator;"), (27, .methodref 107 629), (0, .nameAndType 630 631), (0, u "hashCode"), (0, u "([B)I"), (150, u "valueOf"), (0, u "(C)Ljava/lang/String;"), (231, .methodref 107 1016), (0, .nameAndType 1017 369), (0, u "canEncode"), (0, .methodref 107 1019), (0, .nameAndType 53 1020), (0, u "(C)[B"), (80, u "serialPersistentFields"), (0, u "[Ljava/io/ObjectStreamField;"), (0, .class_ 1104), (0, u "java/lang/String$CaseInsensitiveComparator"), (1, .class_ 1107), (0, u "java/io/Serializable"), (0, .class_ 1109), (0, u "java/lang/Comparable"), (0, .class_ 1111), (0, u "java/lang/constant/Constable"), (0, .class_ 1113), (0, u "java/lang/constant/ConstantDesc"), (2, u "serialVersionUID"), (0, u "J"), (3, u "REPL"), (0, u "C"), (2, u "LATIN1"), (1, u "UTF16")] 323

def k8m0 : Method := { name := "<init>", desc := "()V", sig := { parameters := [], returnType := none }, accessFlags := 1, code := none }
def k8c1 : Code := { maxStack := 2, maxLocals := 3, code := jdk_42_method_66_code, exceptionTable := #[], attributes := #[] }
def k8m1 : Method := { name := "equals", desc := "(Ljava/lang/Object;)Z", sig := { parameters := [(.object "java/lang/Object")], returnType := some .boolean }, accessFlags := 1, code := some k8c1 }
def k8c2 : Code := { maxStack := 2, maxLocals := 2, code := jdk_42_method_78_code, exceptionTable := #[], attributes := #[] }
def k8m2 : Method := { name := "hashCode", desc := "()I", sig := { parameters := [], returnType := some .int }, accessFlags := 1, code := some k8c2 }
def k8c3 : Code := { maxStack := 4, maxLocals := 1, code := jdk_42_method_139_code, exceptionTable := #[], attributes := #[] }
def k8m3 : Method := { name := "valueOf", desc := "(C)Ljava/lang/String;", sig := { parameters := [.char], returnType := some (.object "java/lang/String") }, accessFlags := 9, code := some k8c3 }
def k8c4 : Code := { maxStack := 2, maxLocals := 3, code := jdk_42_method_151_code, exceptionTable := #[], attributes := #[] }
def k8m4 : Method := { name := "<init>", desc := "([BB)V", sig := { parameters := [(.array .byte), .byte], returnType := none }, accessFlags := 0, code := some k8c4 }
def k8c5 : Code := { maxStack := 1, maxLocals := 1, code := jdk_42_method_154_code, exceptionTable := #[], attributes := #[] }
def k8m5 : Method := { name := "isLatin1", desc := "()Z", sig := { parameters := [], returnType := some .boolean }, accessFlags := 0, code := some k8c5 }
/-- java/lang/String -/
def k8 : Class := { plain "java/lang/String" (some 0) with
  accessFlags := 49
  interfaces := #[3, 4, 5, 6, 7]
  cf := some (fileOf pool8 10 #[.nestMembers #[1103]] #[{ accessFlags := 1, nameIndex := 5, descriptorIndex := 6, attributes := #[] }, { accessFlags := 1, nameIndex := 543, descriptorIndex := 573, attributes := #[] }, { accessFlags := 1, nameIndex := 630, descriptorIndex := 334, attributes := #[] }, { accessFlags := 9, nameIndex := 782, descriptorIndex := 783, attributes := #[] }, { accessFlags := 0, nameIndex := 5, descriptorIndex := 211, attributes := #[] }, { accessFlags := 0, nameIndex := 494, descriptorIndex := 142, attributes := #[] }] 49 2 #[1106, 1108, 575, 1110, 1112] #[{ accessFlags := 18, nameIndex := 13, descriptorIndex := 14, attributes := #[] }, { accessFlags := 18, nameIndex := 17, descriptorIndex := 18, attributes := #[] }, { accessFlags := 2, nameIndex := 21, descriptorIndex := 22, attributes := #[] }, { accessFlags := 2, nameIndex := 25, descriptorIndex := 26, attributes := #[] }, { accessFlags := 26, nameIndex := 1116, descriptorIndex := 1117, attributes := #[] }, { accessFlags := 24, nameIndex := 40, descriptorIndex := 26, attributes := #[] }, { accessFlags := 26, nameIndex := 1101, descriptorIndex := 1102, attributes := #[] }, { accessFlags := 26, nameIndex := 1121, descriptorIndex := 1122, attributes := #[] }, { accessFlags := 25, nameIndex := 599, descriptorIndex := 600, attributes := #[] }, { accessFlags := 24, nameIndex := 1125, descriptorIndex := 18, attributes := #[] }, { accessFlags := 24, nameIndex := 1127, descriptorIndex := 18, attributes := #[] }])
  fields := #[{ name := "value", type := (.array .byte), accessFlags := 18, slot := 0, constantValue := 0 }, { name := "coder", type := .byte, accessFlags := 18, slot := 1, constantValue := 0 }, { name := "hash", type := .int, accessFlags := 2, slot := 2, constantValue := 0 }, { name := "hashIsZero", type := .boolean, accessFlags := 2, slot := 3, constantValue := 0 }, { name := "serialVersionUID", type := .long, accessFlags := 26, slot := 0, constantValue := 0 }, { name := "COMPACT_STRINGS", type := .boolean, accessFlags := 24, slot := 1, constantValue := 0 }, { name := "serialPersistentFields", type := (.array (.object "java/io/ObjectStreamField")), accessFlags := 26, slot := 2, constantValue := 0 }, { name := "REPL", type := .char, accessFlags := 26, slot := 3, constantValue := 0 }, { name := "CASE_INSENSITIVE_ORDER", type := (.object "java/util/Comparator"), accessFlags := 25, slot := 4, constantValue := 0 }, { name := "LATIN1", type := .byte, accessFlags := 24, slot := 5, constantValue := 0 }, { name := "UTF16", type := .byte, accessFlags := 24, slot := 6, constantValue := 0 }]
  methods := #[k8m0, k8m1, k8m2, k8m3, k8m4, k8m5]
  instanceTypes := #[(.array .byte), .byte, .int, .boolean]
  staticTypes := #[.long, .boolean, (.array (.object "java/io/ObjectStreamField")), .char, (.object "java/util/Comparator"), .byte, .byte]
  resolved := Array.replicate 1451 none
  statics := some 0 }

def pool9 : Array CpInfo := pool [(4, .class_ 6), (1, u "java/lang/Object"), (0, u "<init>"), (0, u "()V"), (5, .class_ 16), (1, u "java/lang/StringLatin1"), (40, u "([B)I"), (32, u "canEncode"), (14, u "(C)Z"), (15, u "$assertionsDisabled"), (0, u "Z"), (98, .class_ 223), (1, u "java/lang/StringLatin1$LinesSpliterator"), (57, u "equals"), (0, u "([B[B)Z"), (15, u "hashCode"), (81, u "toBytes"), (1, u "(C)[B"), (7, .class_ 391), (0, u "java/lang/StringLatin1$CharsSpliterator")] 3

def k9m0 : Method := { name := "<init>", desc := "()V", sig := { parameters := [], returnType := none }, accessFlags := 0, code := none }
def k9c1 : Code := { maxStack := 2, maxLocals := 1, code := jdk_43_method_3_code, exceptionTable := #[], attributes := #[] }
def k9m1 : Method := { name := "canEncode", desc := "(C)Z", sig := { parameters := [.char], returnType := some .boolean }, accessFlags := 9, code := some k9c1 }
def k9c2 : Code := { maxStack := 3, maxLocals := 3, code := jdk_43_method_13_code, exceptionTable := #[], attributes := #[] }
def k9m2 : Method := { name := "equals", desc := "([B[B)Z", sig := { parameters := [(.array .byte), (.array .byte)], returnType := some .boolean }, accessFlags := 9, code := some k9c2 }
def k9c3 : Code := { maxStack := 5, maxLocals := 1, code := jdk_43_method_21_code, exceptionTable := #[], attributes := #[] }
def k9m3 : Method := { name := "hashCode", desc := "([B)I", sig := { parameters := [(.array .byte)], returnType := some .int }, accessFlags := 9, code := some k9c3 }
def k9c4 : Code := { maxStack := 4, maxLocals := 1, code := jdk_43_method_46_code, exceptionTable := #[], attributes := #[] }
def k9m4 : Method := { name := "toBytes", desc := "(C)[B", sig := { parameters := [.char], returnType := some (.array .byte) }, accessFlags := 9, code := some k9c4 }
/-- java/lang/StringLatin1 -/
def k9 : Class := { plain "java/lang/StringLatin1" (some 0) with
  accessFlags := 48
  interfaces := #[]
  cf := some (fileOf pool9 14 #[.nestMembers #[390, 221]] #[{ accessFlags := 0, nameIndex := 7, descriptorIndex := 8, attributes := #[] }, { accessFlags := 9, nameIndex := 90, descriptorIndex := 105, attributes := #[] }, { accessFlags := 9, nameIndex := 281, descriptorIndex := 282, attributes := #[] }, { accessFlags := 9, nameIndex := 298, descriptorIndex := 57, attributes := #[] }, { accessFlags := 9, nameIndex := 380, descriptorIndex := 382, attributes := #[] }] 48 4 #[] #[{ accessFlags := 4120, nameIndex := 121, descriptorIndex := 122, attributes := #[] }])
  fields := #[{ name := "$assertionsDisabled", type := .boolean, accessFlags := 4120, slot := 0, constantValue := 0 }]
  methods := #[k9m0, k9m1, k9m2, k9m3, k9m4]
  instanceTypes := #[]
  staticTypes := #[.boolean]
  resolved := Array.replicate 395 none
  statics := none }

def pool10 : Array CpInfo := pool [(1, .class_ 2), (0, u "java/lang/Math"), (1, .class_ 6), (1, u "java/lang/Object"), (0, u "<init>"), (0, u "()V"), (89, .class_ 100), (1, u "java/lang/Math$RandomNumberGeneratorHolder"), (71, u "negativeZeroFloatBits"), (0, u "J"), (2, u "negativeZeroDoubleBits"), (21, u "max"), (2, u "min"), (43, u "$assertionsDisabled"), (0, u "Z"), (88, u "(II)I"), (2, u "twoToTheDoubleScaleDown"), (0, u "D"), (4, u "twoToTheDoubleScaleUp"), (9, u "E"), (3, u "PI"), (2, u "TAU"), (2, u "DEGREES_TO_RADIANS"), (0, u "RADIANS_TO_DEGREES")] 94

def k10m0 : Method := { name := "<init>", desc := "()V", sig := { parameters := [], returnType := none }, accessFlags := 2, code := none }
def k10c1 : Code := { maxStack := 2, maxLocals := 2, code := jdk_29_method_65_code, exceptionTable := #[], attributes := #[] }
def k10m1 : Method := { name := "max", desc := "(II)I", sig := { parameters := [.int, .int], returnType := some .int }, accessFlags := 9, code := some k10c1 }
def k10c2 : Code := { maxStack := 2, maxLocals := 2, code := jdk_29_method_69_code, exceptionTable := #[], attributes := #[] }
def k10m2 : Method := { name := "min", desc := "(II)I", sig := { parameters := [.int, .int], returnType := some .int }, accessFlags := 9, code := some k10c2 }
/-- java/lang/Math -/
def k10 : Class := { plain "java/lang/Math" (some 0) with
  accessFlags := 49
  interfaces := #[]
  cf := some (fileOf pool10 1 #[.nestMembers #[98]] #[{ accessFlags := 2, nameIndex := 7, descriptorIndex := 8, attributes := #[] }, { accessFlags := 9, nameIndex := 198, descriptorIndex := 335, attributes := #[] }, { accessFlags := 9, nameIndex := 201, descriptorIndex := 335, attributes := #[] }] 49 4 #[] #[{ accessFlags := 25, nameIndex := 354, descriptorIndex := 339, attributes := #[] }, { accessFlags := 25, nameIndex := 358, descriptorIndex := 339, attributes := #[] }, { accessFlags := 25, nameIndex := 361, descriptorIndex := 339, attributes := #[] }, { accessFlags := 26, nameIndex := 364, descriptorIndex := 339, attributes := #[] }, { accessFlags := 26, nameIndex := 365, descriptorIndex := 339, attributes := #[] }, { accessFlags := 26, nameIndex := 172, descriptorIndex := 173, attributes := #[] }, { accessFlags := 26, nameIndex := 176, descriptorIndex := 173, attributes := #[] }, { accessFlags := 8, nameIndex := 344, descriptorIndex := 339, attributes := #[] }, { accessFlags := 8, nameIndex := 338, descriptorIndex := 339, attributes := #[] }, { accessFlags := 4120, nameIndex := 245, descriptorIndex := 246, attributes := #[] }])
  fields := #[{ name := "E", type := .double, accessFlags := 25, slot := 0, constantValue := 0 }, { name := "PI", type := .double, accessFlags := 25, slot := 1, constantValue := 0 }, { name := "TAU", type := .double, accessFlags := 25, slot := 2, constantValue := 0 }, { name := "DEGREES_TO_RADIANS", type := .double, accessFlags := 26, slot := 3, constantValue := 0 }, { name := "RADIANS_TO_DEGREES", type := .double, accessFlags := 26, slot := 4, constantValue := 0 }, { name := "negativeZeroFloatBits", type := .long, accessFlags := 26, slot := 5, constantValue := 0 }, { name := "negativeZeroDoubleBits", type := .long, accessFlags := 26, slot := 6, constantValue := 0 }, { name := "twoToTheDoubleScaleUp", type := .double, accessFlags := 8, slot := 7, constantValue := 0 }, { name := "twoToTheDoubleScaleDown", type := .double, accessFlags := 8, slot := 8, constantValue := 0 }, { name := "$assertionsDisabled", type := .boolean, accessFlags := 4120, slot := 9, constantValue := 0 }]
  methods := #[k10m0, k10m1, k10m2]
  instanceTypes := #[]
  staticTypes := #[.double, .double, .double, .double, .double, .long, .long, .double, .double, .boolean]
  resolved := Array.replicate 460 none
  statics := none }

def pool11 : Array CpInfo := pool [(8, .class_ 10), (1, u "java/lang/Iterable"), (24, .class_ 36), (0, u "java/lang/Object")] 25

/-- java/lang/Iterable -/
def k11 : Class := { plain "java/lang/Iterable" (some 0) with
  accessFlags := 1537
  interfaces := #[]
  cf := some (fileOf pool11 8 #[] #[] 1537 35 #[] #[])
  fields := #[]
  methods := #[]
  instanceTypes := #[]
  staticTypes := #[]
  resolved := Array.replicate 62 none
  statics := none }

def pool12 : Array CpInfo := pool [(10, .class_ 12), (1, u "java/util/Collection"), (47, .class_ 61), (0, u "java/lang/Object"), (0, .class_ 63), (0, u "java/lang/Iterable")] 51

/-- java/util/Collection -/
def k12 : Class := { plain "java/util/Collection" (some 0) with
  accessFlags := 1537
  interfaces := #[11]
  cf := some (fileOf pool12 10 #[] #[] 1537 60 #[62] #[])
  fields := #[]
  methods := #[]
  instanceTypes := #[]
  staticTypes := #[]
  resolved := Array.replicate 115 none
  statics := none }

def pool13 : Array CpInfo := pool [(1, .methodref 2 3), (0, .class_ 4), (0, .nameAndType 5 6), (0, u "java/lang/Object"), (0, u "<init>"), (0, u "()V"), (1, .class_ 10), (1, u "java/util/AbstractCollection"), (66, .class_ 78), (0, u "java/util/Collection")] 81

def k13c0 : Code := { maxStack := 1, maxLocals := 1, code := jdk_22_method_1_code, exceptionTable := #[], attributes := #[] }
def k13m0 : Method := { name := "<init>", desc := "()V", sig := { parameters := [], returnType := none }, accessFlags := 4, code := some k13c0 }
/-- java/util/AbstractCollection -/
def k13 : Class := { plain "java/util/AbstractCollection" (some 0) with
  accessFlags := 1057
  interfaces := #[12]
  cf := some (fileOf pool13 8 #[] #[{ accessFlags := 4, nameIndex := 5, descriptorIndex := 6, attributes := #[] }] 1057 2 #[77] #[])
  fields := #[]
  methods := #[k13m0]
  instanceTypes := #[]
  staticTypes := #[]
  resolved := Array.replicate 160 none
  statics := none }

def pool14 : Array CpInfo := pool [(8, .class_ 10), (1, u "java/util/SequencedCollection"), (15, .class_ 27), (0, u "java/lang/Object"), (0, .class_ 29), (0, u "java/util/Collection")] 27

/-- java/util/SequencedCollection -/
def k14 : Class := { plain "java/util/SequencedCollection" (some 0) with
  accessFlags := 1537
  interfaces := #[12]
  cf := some (fileOf pool14 8 #[] #[] 1537 26 #[28] #[])
  fields := #[]
  methods := #[]
  instanceTypes := #[]
  staticTypes := #[]
  resolved := Array.replicate 57 none
  statics := none }

def pool15 : Array CpInfo := pool [(8, .class_ 10), (1, u "java/util/List"), (64, u "get"), (0, u "(I)Ljava/lang/Object;"), (2, u "size"), (0, u "()I"), (22, .class_ 104), (0, u "java/lang/Object"), (15, .class_ 121), (0, u "java/util/SequencedCollection")] 129

def k15m0 : Method := { name := "size", desc := "()I", sig := { parameters := [], returnType := some .int }, accessFlags := 1025, code := none }
def k15m1 : Method := { name := "get", desc := "(I)Ljava/lang/Object;", sig := { parameters := [.int], returnType := some (.object "java/lang/Object") }, accessFlags := 1025, code := none }
/-- java/util/List -/
def k15 : Class := { plain "java/util/List" (some 0) with
  accessFlags := 1537
  interfaces := #[14]
  cf := some (fileOf pool15 8 #[] #[{ accessFlags := 1025, nameIndex := 79, descriptorIndex := 80, attributes := #[] }, { accessFlags := 1025, nameIndex := 75, descriptorIndex := 76, attributes := #[] }] 1537 103 #[120] #[])
  fields := #[]
  methods := #[k15m0, k15m1]
  instanceTypes := #[]
  staticTypes := #[]
  resolved := Array.replicate 251 none
  statics := none }

def pool16 : Array CpInfo := pool [(1, .methodref 2 3), (0, .class_ 4), (0, .nameAndType 5 6), (0, u "java/util/AbstractCollection"), (0, u "<init>"), (0, u "()V"), (0, .fieldref 8 9), (0, .class_ 10), (0, .nameAndType 11 12), (0, u "java/util/AbstractList"), (0, u "modCount"), (0, u "I"), (64, .class_ 78), (0, u "java/util/AbstractList$Itr"), (3, .class_ 83), (0, u "java/util/AbstractList$ListItr"), (9, .class_ 94), (0, u "java/util/AbstractList$RandomAccessSubList"), (3, .class_ 99), (0, u "java/util/AbstractList$SubList"), (33, .class_ 134), (0, u "java/util/List"), (73, .class_ 209), (0, u "java/util/AbstractList$SubList$1"), (0, .class_ 211), (0, u "java/util/AbstractList$RandomAccessSpliterator")] 6

def k16c0 : Code := { maxStack := 2, maxLocals := 1, code := jdk_39_method_1_code, exceptionTable := #[], attributes := #[] }
def k16m0 : Method := { name := "<init>", desc := "()V", sig := { parameters := [], returnType := none }, accessFlags := 4, code := some k16c0 }
/-- java/util/AbstractList -/
def k16 : Class := { plain "java/util/AbstractList" (some 13) with
  accessFlags := 1057
  interfaces := #[15]
  cf := some (fileOf pool16 8 #[.nestMembers #[93, 98, 208, 210, 82, 77]] #[{ accessFlags := 4, nameIndex := 5, descriptorIndex := 6, attributes := #[] }] 1057 2 #[133] #[{ accessFlags := 132, nameIndex := 11, descriptorIndex := 12, attributes := #[] }])
  fields := #[{ name := "modCount", type := .int, accessFlags := 132, slot := 0, constantValue := 0 }]
  methods := #[k16m0]
  instanceTypes := #[.int]
  staticTypes := #[]
  resolved := Array.replicate 218 none
  statics := none }

def pool17 : Array CpInfo := pool [(1, .class_ 2), (0, u "java/util/RandomAccess"), (0, .class_ 4), (0, u "java/lang/Object")] 2

/-- java/util/RandomAccess -/
def k17 : Class := { plain "java/util/RandomAccess" (some 0) with
  accessFlags := 1537
  interfaces := #[]
  cf := some (fileOf pool17 1 #[] #[] 1537 3 #[] #[])
  fields := #[]
  methods := #[]
  instanceTypes := #[]
  staticTypes := #[]
  resolved := Array.replicate 7 none
  statics := none }

def pool18 : Array CpInfo := pool [(1, .class_ 2), (0, u "java/lang/Cloneable"), (0, .class_ 4), (0, u "java/lang/Object")] 2

/-- java/lang/Cloneable -/
def k18 : Class := { plain "java/lang/Cloneable" (some 0) with
  accessFlags := 1537
  interfaces := #[]
  cf := some (fileOf pool18 1 #[] #[] 1537 3 #[] #[])
  fields := #[]
  methods := #[]
  instanceTypes := #[]
  staticTypes := #[]
  resolved := Array.replicate 7 none
  statics := none }

def pool19 : Array CpInfo := pool [(1, .methodref 2 3), (0, .class_ 4), (0, .nameAndType 5 6), (0, u "java/util/AbstractList"), (0, u "<init>"), (0, u "()V"), (0, .class_ 8), (0, u "java/lang/Object"), (0, .fieldref 10 11), (0, .class_ 12), (0, .nameAndType 13 14), (0, u "java/util/ArrayList"), (0, u "elementData"), (0, u "[Ljava/lang/Object;"), (2, u "EMPTY_ELEMENTDATA"), (21, .fieldref 10 40), (0, .nameAndType 41 14), (0, u "DEFAULTCAPACITY_EMPTY_ELEMENTDATA"), (5, u "()[Ljava/lang/Object;"), (0, .fieldref 10 49), (0, .nameAndType 50 51), (0, u "size"), (0, u "I"), (6, .class_ 60), (1, u "java/util/Arrays"), (0, u "copyOf"), (1, .fieldref 10 64), (0, .nameAndType 65 51), (0, u "modCount"), (0, .methodref 58 67), (0, .nameAndType 61 68), (0, u "([Ljava/lang/Object;I)[Ljava/lang/Object;"), (0, .methodref 10 70), (0, .nameAndType 71 72), (0, u "grow"), (0, u "(I)[Ljava/lang/Object;"), (0, .methodref 74 75), (0, .class_ 76), (0, .nameAndType 77 78), (0, u "jdk/internal/util/ArraysSupport"), (0, u "newLength"), (0, u "(III)I"), (0, .methodref 80 81), (0, .class_ 82), (0, .nameAndType 83 84), (0, u "java/lang/Math"), (0, u "max"), (0, u "(II)I"), (11, u "(Ljava/lang/Object;)Z"), (21, .methodref 119 120), (0, .class_ 121), (0, .nameAndType 122 84), (0, u "java/util/Objects"), (0, u "checkIndex"), (0, .methodref 10 124), (0, .nameAndType 13 125), (0, u "(I)Ljava/lang/Object;"), (3, .methodref 10 130), (0, .nameAndType 71 47), (0, .methodref 10 132), (0, .nameAndType 133 134), (0, u "add"), (0, u "(Ljava/lang/Object;[Ljava/lang/Object;I)V"), (13, .class_ 149), (0, u "java/util/List"), (36, u "()I"), (75, .class_ 263), (0, u "java/util/ArrayList$ListItr"), (3, .class_ 268), (0, u "java/util/ArrayList$Itr"), (7, .class_ 277), (0, u "java/util/ArrayList$SubList"), (12, .class_ 291), (0, u "java/util/ArrayList$ArrayListSpliterator"), (37, .class_ 330), (0, u "java/util/RandomAccess"), (0, .class_ 332), (0, u "java/lang/Cloneable"), (0, .class_ 334), (0, u "java/io/Serializable"), (0, u "serialVersionUID"), (0, u "J"), (3, u "DEFAULT_CAPACITY"), (40, u "get"), (118, .class_ 501), (0, u "java/util/ArrayList$SubList$2"), (0, .class_ 503), (0, u "java/util/ArrayList$SubList$1")] 5

def k19c0 : Code := { maxStack := 2, maxLocals := 1, code := jdk_38_method_2_code, exceptionTable := #[], attributes := #[] }
def k19m0 : Method := { name := "<init>", desc := "()V", sig := { parameters := [], returnType := none }, accessFlags := 1, code := some k19c0 }
def k19c1 : Code := { maxStack := 4, maxLocals := 4, code := jdk_38_method_6_code, exceptionTable := #[], attributes := #[] }
def k19m1 : Method := { name := "grow", desc := "(I)[Ljava/lang/Object;", sig := { parameters := [.int], returnType := some (.array (.object "java/lang/Object")) }, accessFlags := 2, code := some k19c1 }
def k19c2 : Code := { maxStack := 3, maxLocals := 1, code := jdk_38_method_7_code, exceptionTable := #[], attributes := #[] }
def k19m2 : Method := { name := "grow", desc := "()[Ljava/lang/Object;", sig := { parameters := [], returnType := some (.array (.object "java/lang/Object")) }, accessFlags := 2, code := some k19c2 }
def k19c3 : Code := { maxStack := 1, maxLocals := 1, code := jdk_38_method_8_code, exceptionTable := #[], attributes := #[] }
def k19m3 : Method := { name := "size", desc := "()I", sig := { parameters := [], returnType := some .int }, accessFlags := 1, code := some k19c3 }
def k19c4 : Code := { maxStack := 2, maxLocals := 2, code := jdk_38_method_18_code, exceptionTable := #[], attributes := #[] }
def k19m4 : Method := { name := "elementData", desc := "(I)Ljava/lang/Object;", sig := { parameters := [.int], returnType := some (.object "java/lang/Object") }, accessFlags := 0, code := some k19c4 }
def k19c5 : Code := { maxStack := 2, maxLocals := 2, code := jdk_38_method_20_code, exceptionTable := #[], attributes := #[] }
def k19m5 : Method := { name := "get", desc := "(I)Ljava/lang/Object;", sig := { parameters := [.int], returnType := some (.object "java/lang/Object") }, accessFlags := 1, code := some k19c5 }
def k19c6 : Code := { maxStack := 3, maxLocals := 4, code := jdk_38_method_24_code, exceptionTable := #[], attributes := #[] }
def k19m6 : Method := { name := "add", desc := "(Ljava/lang/Object;[Ljava/lang/Object;I)V", sig := { parameters := [(.object "java/lang/Object"), (.array (.object "java/lang/Object")), .int], returnType := none }, accessFlags := 2, code := some k19c6 }
def k19c7 : Code := { maxStack := 4, maxLocals := 2, code := jdk_38_method_25_code, exceptionTable := #[], attributes := #[] }
def k19m7 : Method := { name := "add", desc := "(Ljava/lang/Object;)Z", sig := { parameters := [(.object "java/lang/Object")], returnType := some .boolean }, accessFlags := 1, code := some k19c7 }
/-- java/util/ArrayList -/
def k19 : Class := { plain "java/util/ArrayList" (some 16) with
  accessFlags := 33
  interfaces := #[15, 17, 18, 3]
  cf := some (fileOf pool19 10 #[.nestMembers #[290, 276, 500, 502, 262, 267]] #[{ accessFlags := 1, nameIndex := 5, descriptorIndex := 6, attributes := #[] }, { accessFlags := 2, nameIndex := 71, descriptorIndex := 72, attributes := #[] }, { accessFlags := 2, nameIndex := 71, descriptorIndex := 47, attributes := #[] }, { accessFlags := 1, nameIndex := 50, descriptorIndex := 186, attributes := #[] }, { accessFlags := 0, nameIndex := 13, descriptorIndex := 125, attributes := #[] }, { accessFlags := 1, nameIndex := 381, descriptorIndex := 125, attributes := #[] }, { accessFlags := 2, nameIndex := 133, descriptorIndex := 134, attributes := #[] }, { accessFlags := 1, nameIndex := 133, descriptorIndex := 96, attributes := #[] }] 33 2 #[148, 329, 331, 333] #[{ accessFlags := 26, nameIndex := 335, descriptorIndex := 336, attributes := #[] }, { accessFlags := 26, nameIndex := 340, descriptorIndex := 51, attributes := #[] }, { accessFlags := 26, nameIndex := 17, descriptorIndex := 14, attributes := #[] }, { accessFlags := 26, nameIndex := 41, descriptorIndex := 14, attributes := #[] }, { accessFlags := 128, nameIndex := 13, descriptorIndex := 14, attributes := #[] }, { accessFlags := 2, nameIndex := 50, descriptorIndex := 51, attributes := #[] }])
  fields := #[{ name := "serialVersionUID", type := .long, accessFlags := 26, slot := 0, constantValue := 0 }, { name := "DEFAULT_CAPACITY", type := .int, accessFlags := 26, slot := 1, constantValue := 0 }, { name := "EMPTY_ELEMENTDATA", type := (.array (.object "java/lang/Object")), accessFlags := 26, slot := 2, constantValue := 0 }, { name := "DEFAULTCAPACITY_EMPTY_ELEMENTDATA", type := (.array (.object "java/lang/Object")), accessFlags := 26, slot := 3, constantValue := 0 }, { name := "elementData", type := (.array (.object "java/lang/Object")), accessFlags := 128, slot := 1, constantValue := 0 }, { name := "size", type := .int, accessFlags := 2, slot := 2, constantValue := 0 }]
  methods := #[k19m0, k19m1, k19m2, k19m3, k19m4, k19m5, k19m6, k19m7]
  instanceTypes := #[.int, (.array (.object "java/lang/Object")), .int]
  staticTypes := #[.long, .int, (.array (.object "java/lang/Object")), (.array (.object "java/lang/Object"))]
  resolved := Array.replicate 509 none
  statics := some 1 }

def pool20 : Array CpInfo := pool [(26, .class_ 27), (0, u "java/lang/Object"), (5, .class_ 34), (0, u "java/util/Set"), (1, .class_ 38), (1, u "java/util/Collection"), (20, u "contains"), (0, u "(Ljava/lang/Object;)Z")] 83

def k20m0 : Method := { name := "contains", desc := "(Ljava/lang/Object;)Z", sig := { parameters := [(.object "java/lang/Object")], returnType := some .boolean }, accessFlags := 1025, code := none }
/-- java/util/Set -/
def k20 : Class := { plain "java/util/Set" (some 0) with
  accessFlags := 1537
  interfaces := #[12]
  cf := some (fileOf pool20 33 #[] #[{ accessFlags := 1025, nameIndex := 59, descriptorIndex := 60, attributes := #[] }] 1537 26 #[36] #[])
  fields := #[]
  methods := #[k20m0]
  instanceTypes := #[]
  staticTypes := #[]
  resolved := Array.replicate 144 none
  statics := none }

def pool21 : Array CpInfo := pool [(1, .methodref 2 3), (0, .class_ 4), (0, .nameAndType 5 6), (0, u "java/util/AbstractCollection"), (0, u "<init>"), (0, u "()V"), (0, .class_ 8), (0, u "java/util/Set"), (7, .class_ 17), (0, u "java/util/AbstractSet")] 78

def k21c0 : Code := { maxStack := 1, maxLocals := 1, code := jdk_91_method_1_code, exceptionTable := #[], attributes := #[] }
def k21m0 : Method := { name := "<init>", desc := "()V", sig := { parameters := [], returnType := none }, accessFlags := 4, code := some k21c0 }
/-- java/util/AbstractSet -/
def k21 : Class := { plain "java/util/AbstractSet" (some 13) with
  accessFlags := 1057
  interfaces := #[20]
  cf := some (fileOf pool21 16 #[] #[{ accessFlags := 4, nameIndex := 5, descriptorIndex := 6, attributes := #[] }] 1057 2 #[7] #[])
  fields := #[]
  methods := #[k21m0]
  instanceTypes := #[]
  staticTypes := #[]
  resolved := Array.replicate 96 none
  statics := none }

def pool22 : Array CpInfo := pool [(1, .methodref 2 3), (0, .class_ 4), (0, .nameAndType 5 6), (0, u "java/util/AbstractSet"), (0, u "<init>"), (0, u "()V"), (0, .class_ 8), (0, u "java/util/HashMap"), (0, .methodref 7 3), (0, .fieldref 11 12), (0, .class_ 13), (0, .nameAndType 14 15), (0, u "java/util/HashSet"), (0, u "map"), (0, u "Ljava/util/HashMap;"), (34, .class_ 52), (1, u "java/util/Set"), (7, .methodref 7 61), (0, .nameAndType 62 63), (0, u "containsKey"), (0, u "(Ljava/lang/Object;)Z"), (0, .fieldref 11 65), (0, .nameAndType 66 67), (0, u "PRESENT"), (0, u "Ljava/lang/Object;"), (0, .methodref 7 69), (0, .nameAndType 70 71), (0, u "put"), (0, u "(Ljava/lang/Object;Ljava/lang/Object;)Ljava/lang/Object;"), (154, .class_ 227), (0, u "java/lang/Cloneable"), (0, .class_ 229), (0, u "java/io/Serializable"), (0, u "serialVersionUID"), (0, u "J"), (24, u "contains"), (1, u "add")] 44

def k22c0 : Code := { maxStack := 3, maxLocals := 1, code := jdk_93_method_1_code, exceptionTable := #[], attributes := #[] }
def k22m0 : Method := { name := "<init>", desc := "()V", sig := { parameters := [], returnType := none }, accessFlags := 1, code := some k22c0 }
def k22c1 : Code := { maxStack := 2, maxLocals := 2, code := jdk_93_method_9_code, exceptionTable := #[], attributes := #[] }
def k22m1 : Method := { name := "contains", desc := "(Ljava/lang/Object;)Z", sig := { parameters := [(.object "java/lang/Object")], returnType := some .boolean }, accessFlags := 1, code := some k22c1 }
def k22c2 : Code := { maxStack := 3, maxLocals := 2, code := jdk_93_method_10_code, exceptionTable := #[], attributes := #[] }
def k22m2 : Method := { name := "add", desc := "(Ljava/lang/Object;)Z", sig := { parameters := [(.object "java/lang/Object")], returnType := some .boolean }, accessFlags := 1, code := some k22c2 }
/-- java/util/HashSet -/
def k22 : Class := { plain "java/util/HashSet" (some 21) with
  accessFlags := 33
  interfaces := #[20, 18, 3]
  cf := some (fileOf pool22 11 #[] #[{ accessFlags := 1, nameIndex := 5, descriptorIndex := 6, attributes := #[] }, { accessFlags := 1, nameIndex := 256, descriptorIndex := 63, attributes := #[] }, { accessFlags := 1, nameIndex := 258, descriptorIndex := 63, attributes := #[] }] 33 2 #[50, 226, 228] #[{ accessFlags := 24, nameIndex := 230, descriptorIndex := 231, attributes := #[] }, { accessFlags := 128, nameIndex := 14, descriptorIndex := 15, attributes := #[] }, { accessFlags := 24, nameIndex := 66, descriptorIndex := 67, attributes := #[] }])
  fields := #[{ name := "serialVersionUID", type := .long, accessFlags := 24, slot := 0, constantValue := 0 }, { name := "map", type := (.object "java/util/HashMap"), accessFlags := 128, slot := 0, constantValue := 0 }, { name := "PRESENT", type := (.object "java/lang/Object"), accessFlags := 24, slot := 1, constantValue := 0 }]
  methods := #[k22m0, k22m1, k22m2]
  instanceTypes := #[(.object "java/util/HashMap")]
  staticTypes := #[.long, (.object "java/lang/Object")]
  resolved := Array.replicate 303 none
  statics := some 2 }

def pool23 : Array CpInfo := pool [(2, .class_ 4), (1, u "java/util/Map"), (31, .class_ 37), (0, u "java/util/Map$Entry"), (55, .class_ 94), (0, u "java/lang/Object")] 168

/-- java/util/Map -/
def k23 : Class := { plain "java/util/Map" (some 0) with
  accessFlags := 1537
  interfaces := #[]
  cf := some (fileOf pool23 2 #[.nestMembers #[36]] #[] 1537 93 #[] #[])
  fields := #[]
  methods := #[]
  instanceTypes := #[]
  staticTypes := #[]
  resolved := Array.replicate 263 none
  statics := none }

def pool24 : Array CpInfo := pool [(1, .methodref 2 3), (0, .class_ 4), (0, .nameAndType 5 6), (0, u "java/lang/Object"), (0, u "<init>"), (0, u "()V"), (1, .class_ 10), (1, u "java/util/AbstractMap"), (42, .class_ 54), (0, u "java/util/Map"), (9, u "keySet"), (0, u "Ljava/util/Set;"), (0, .class_ 67), (0, u "java/util/AbstractMap$1"), (5, u "values"), (0, u "Ljava/util/Collection;"), (0, .class_ 76), (0, u "java/util/AbstractMap$2"), (104, .class_ 182), (0, u "java/util/AbstractMap$ViewCollection"), (0, .class_ 184), (0, u "java/util/AbstractMap$SimpleImmutableEntry"), (0, .class_ 186), (0, u "java/util/AbstractMap$SimpleEntry"), (0, .class_ 188), (0, u "java/util/AbstractMap$2$1"), (0, .class_ 190), (0, u "java/util/AbstractMap$1$1")] 5

def k24c0 : Code := { maxStack := 1, maxLocals := 1, code := jdk_71_method_1_code, exceptionTable := #[], attributes := #[] }
def k24m0 : Method := { name := "<init>", desc := "()V", sig := { parameters := [], returnType := none }, accessFlags := 4, code := some k24c0 }
/-- java/util/AbstractMap -/
def k24 : Class := { plain "java/util/AbstractMap" (some 0) with
  accessFlags := 1057
  interfaces := #[23]
  cf := some (fileOf pool24 8 #[.nestMembers #[181, 183, 185, 75, 187, 66, 189]] #[{ accessFlags := 4, nameIndex := 5, descriptorIndex := 6, attributes := #[] }] 1057 2 #[53] #[{ accessFlags := 128, nameIndex := 64, descriptorIndex := 65, attributes := #[] }, { accessFlags := 128, nameIndex := 73, descriptorIndex := 74, attributes := #[] }])
  fields := #[{ name := "keySet", type := (.object "java/util/Set"), accessFlags := 128, slot := 0, constantValue := 0 }, { name := "values", type := (.object "java/util/Collection"), accessFlags := 128, slot := 1, constantValue := 0 }]
  methods := #[k24m0]
  instanceTypes := #[(.object "java/util/Set"), (.object "java/util/Collection")]
  staticTypes := #[]
  resolved := Array.replicate 196 none
  statics := none }

def pool25 : Array CpInfo := pool [(1, .methodref 2 3), (0, .class_ 4), (0, .nameAndType 5 6), (0, u "java/lang/Object"), (0, u "hashCode"), (0, u "()I"), (26, u "(Ljava/lang/Object;)I"), (6, .class_ 41), (0, u "java/util/HashMap"), (1, .methodref 44 45), (0, .class_ 46), (0, .nameAndType 47 48), (0, u "java/util/AbstractMap"), (0, u "<init>"), (0, u "()V"), (32, .fieldref 40 82), (0, .nameAndType 83 84), (0, u "loadFactor"), (0, u "F"), (3, .fieldref 40 89), (0, .nameAndType 90 91), (0, u "threshold"), (0, u "I"), (0, .float 1061158912), (8, .class_ 103), (1, u "java/util/Map"), (0, u "size"), (0, .fieldref 40 106), (0, .nameAndType 107 108), (0, u "table"), (0, u "[Ljava/util/HashMap$Node;"), (8, .methodref 40 118), (0, .nameAndType 119 120), (0, u "resize"), (0, u "()[Ljava/util/HashMap$Node;"), (2, u "entrySet"), (25, .methodref 40 150), (0, .nameAndType 151 33), (0, u "hash"), (0, .methodref 40 153), (0, .nameAndType 154 155), (0, u "putVal"), (0, u "(ILjava/lang/Object;Ljava/lang/Object;ZZ)Ljava/lang/Object;"), (0, .fieldref 40 157), (0, .nameAndType 104 91), (0, .methodref 40 159), (0, .nameAndType 160 161), (0, u "getNode"), (0, u "(Ljava/lang/Object;)Ljava/util/HashMap$Node;"), (1, .class_ 165), (1, u "java/util/HashMap$Node"), (1, u "Ljava/lang/Object;"), (0, .fieldref 163 169), (0, .nameAndType 151 91), (0, .fieldref 163 171), (0, .nameAndType 172 167), (0, u "key"), (0, .methodref 2 174), (0, .nameAndType 175 176), (0, u "equals"), (0, u "(Ljava/lang/Object;)Z"), (3, .class_ 181), (0, u "java/util/HashMap$TreeNode"), (4, .methodref 40 187), (0, .nameAndType 188 189), (0, u "newNode"), (0, u "(ILjava/lang/Object;Ljava/lang/Object;Ljava/util/HashMap$Node;)Ljava/util/HashMap$Node;"), (12, .fieldref 40 203), (0, .nameAndType 204 91), (0, u "modCount"), (0, .methodref 40 206), (0, .nameAndType 207 208), (0, u "afterNodeInsertion"), (0, u "(Z)V"), (33, u "Ljava/util/Set;"), (0, .class_ 244), (0, u "java/util/HashMap$KeySet"), (18, .class_ 264), (0, u "java/util/HashMap$Values"), (3, .class_ 269), (0, u "java/util/HashMap$EntrySet"), (17, u "(Ljava/lang/Object;Ljava/lang/Object;)Ljava/lang/Object;"), (58, .class_ 348), (1, u "java/util/HashMap$UnsafeHolder"), (26, .methodref 163 376), (0, .nameAndType 47 377), (0, u "(ILjava/lang/Object;Ljava/lang/Object;Ljava/util/HashMap$Node;)V"), (14, .class_ 393), (0, u "java/lang/Cloneable"), (0, .class_ 395), (0, u "java/io/Serializable"), (0, u "serialVersionUID"), (0, u "J"), (3, u "DEFAULT_INITIAL_CAPACITY"), (1, u "MAXIMUM_CAPACITY"), (0, u "DEFAULT_LOAD_FACTOR"), (0, u "TREEIFY_THRESHOLD"), (1, u "UNTREEIFY_THRESHOLD"), (1, u "MIN_TREEIFY_CAPACITY"), (59, u "containsKey"), (0, u "put"), (125, .class_ 597), (0, u "java/util/HashMap$EntrySpliterator"), (0, .class_ 599), (0, u "java/util/HashMap$ValueSpliterator"), (0, .class_ 601), (0, u "java/util/HashMap$KeySpliterator"), (0, .class_ 603), (0, u "java/util/HashMap$HashMapSpliterator"), (0, .class_ 605), (0, u "java/util/HashMap$EntryIterator"), (0, .class_ 607), (0, u "java/util/HashMap$ValueIterator"), (0, .class_ 609), (0, u "java/util/HashMap$KeyIterator"), (0, .class_ 611), (0, u "java/util/HashMap$HashIterator")] 17

def k25c0 : Code := { maxStack := 3, maxLocals := 2, code := jdk_69_method_1_code, exceptionTable := #[], attributes := #[] }
def k25m0 : Method := { name := "hash", desc := "(Ljava/lang/Object;)I", sig := { parameters := [(.object "java/lang/Object")], returnType := some .int }, accessFlags := 24, code := some k25c0 }
def k25c1 : Code := { maxStack := 2, maxLocals := 1, code := jdk_69_method_7_code, exceptionTable := #[], attributes := #[] }
def k25m1 : Method := { name := "<init>", desc := "()V", sig := { parameters := [], returnType := none }, accessFlags := 1, code := some k25c1 }
def k25c2 : Code := { maxStack := 4, maxLocals := 8, code := jdk_69_method_13_code, exceptionTable := #[], attributes := #[] }
def k25m2 : Method := { name := "getNode", desc := "(Ljava/lang/Object;)Ljava/util/HashMap$Node;", sig := { parameters := [(.object "java/lang/Object")], returnType := some (.object "java/util/HashMap$Node") }, accessFlags := 16, code := some k25c2 }
def k25c3 : Code := { maxStack := 2, maxLocals := 2, code := jdk_69_method_14_code, exceptionTable := #[], attributes := #[] }
def k25m3 : Method := { name := "containsKey", desc := "(Ljava/lang/Object;)Z", sig := { parameters := [(.object "java/lang/Object")], returnType := some .boolean }, accessFlags := 1, code := some k25c3 }
def k25c4 : Code := { maxStack := 6, maxLocals := 3, code := jdk_69_method_15_code, exceptionTable := #[], attributes := #[] }
def k25m4 : Method := { name := "put", desc := "(Ljava/lang/Object;Ljava/lang/Object;)Ljava/lang/Object;", sig := { parameters := [(.object "java/lang/Object"), (.object "java/lang/Object")], returnType := some (.object "java/lang/Object") }, accessFlags := 1, code := some k25c4 }
def k25c5 : Code := { maxStack := 7, maxLocals := 13, code := jdk_69_method_16_code, exceptionTable := #[], attributes := #[] }
def k25m5 : Method := { name := "putVal", desc := "(ILjava/lang/Object;Ljava/lang/Object;ZZ)Ljava/lang/Object;", sig := { parameters := [.int, (.object "java/lang/Object"), (.object "java/lang/Object"), .boolean, .boolean], returnType := some (.object "java/lang/Object") }, accessFlags := 16, code := some k25c5 }
def k25c6 : Code := { maxStack := 5, maxLocals := 14, code := jdk_69_method_17_code, exceptionTable := #[], attributes := #[] }
def k25m6 : Method := { name := "resize", desc := "()[Ljava/util/HashMap$Node;", sig := { parameters := [], returnType := some (.array (.object "java/util/HashMap$Node")) }, accessFlags := 16, code := some k25c6 }
def k25c7 : Code := { maxStack := 6, maxLocals := 5, code := jdk_69_method_46_code, exceptionTable := #[], attributes := #[] }
def k25m7 : Method := { name := "newNode", desc := "(ILjava/lang/Object;Ljava/lang/Object;Ljava/util/HashMap$Node;)Ljava/util/HashMap$Node;", sig := { parameters := [.int, (.object "java/lang/Object"), (.object "java/lang/Object"), (.object "java/util/HashMap$Node")], returnType := some (.object "java/util/HashMap$Node") }, accessFlags := 0, code := some k25c7 }
def k25c8 : Code := { maxStack := 0, maxLocals := 2, code := jdk_69_method_52_code, exceptionTable := #[], attributes := #[] }
def k25m8 : Method := { name := "afterNodeInsertion", desc := "(Z)V", sig := { parameters := [.boolean], returnType := none }, accessFlags := 0, code := some k25c8 }
/-- java/util/HashMap -/
def k25 : Class := { plain "java/util/HashMap" (some 24) with
  accessFlags := 33
  interfaces := #[23, 18, 3]
  cf := some (fileOf pool25 40 #[.nestMembers #[180, 596, 598, 600, 602, 604, 606, 608, 610, 346, 268, 263, 243, 163]] #[{ accessFlags := 24, nameIndex := 151, descriptorIndex := 33, attributes := #[] }, { accessFlags := 1, nameIndex := 47, descriptorIndex := 48, attributes := #[] }, { accessFlags := 16, nameIndex := 160, descriptorIndex := 161, attributes := #[] }, { accessFlags := 1, nameIndex := 469, descriptorIndex := 176, attributes := #[] }, { accessFlags := 1, nameIndex := 470, descriptorIndex := 287, attributes := #[] }, { accessFlags := 16, nameIndex := 154, descriptorIndex := 155, attributes := #[] }, { accessFlags := 16, nameIndex := 119, descriptorIndex := 120, attributes := #[] }, { accessFlags := 0, nameIndex := 188, descriptorIndex := 189, attributes := #[] }, { accessFlags := 0, nameIndex := 207, descriptorIndex := 208, attributes := #[] }] 33 44 #[101, 392, 394] #[{ accessFlags := 26, nameIndex := 396, descriptorIndex := 397, attributes := #[] }, { accessFlags := 24, nameIndex := 401, descriptorIndex := 91, attributes := #[] }, { accessFlags := 24, nameIndex := 403, descriptorIndex := 91, attributes := #[] }, { accessFlags := 24, nameIndex := 404, descriptorIndex := 84, attributes := #[] }, { accessFlags := 24, nameIndex := 405, descriptorIndex := 91, attributes := #[] }, { accessFlags := 24, nameIndex := 407, descriptorIndex := 91, attributes := #[] }, { accessFlags := 24, nameIndex := 409, descriptorIndex := 91, attributes := #[] }, { accessFlags := 128, nameIndex := 107, descriptorIndex := 108, attributes := #[] }, { accessFlags := 128, nameIndex := 123, descriptorIndex := 242, attributes := #[] }, { accessFlags := 128, nameIndex := 104, descriptorIndex := 91, attributes := #[] }, { accessFlags := 128, nameIndex := 204, descriptorIndex := 91, attributes := #[] }, { accessFlags := 0, nameIndex := 90, descriptorIndex := 91, attributes := #[] }, { accessFlags := 16, nameIndex := 83, descriptorIndex := 84, attributes := #[] }])
  fields := #[{ name := "serialVersionUID", type := .long, accessFlags := 26, slot := 0, constantValue := 0 }, { name := "DEFAULT_INITIAL_CAPACITY", type := .int, accessFlags := 24, slot := 1, constantValue := 0 }, { name := "MAXIMUM_CAPACITY", type := .int, accessFlags := 24, slot := 2, constantValue := 0 }, { name := "DEFAULT_LOAD_FACTOR", type := .float, accessFlags := 24, slot := 3, constantValue := 0 }, { name := "TREEIFY_THRESHOLD", type := .int, accessFlags := 24, slot := 4, constantValue := 0 }, { name := "UNTREEIFY_THRESHOLD", type := .int, accessFlags := 24, slot := 5, constantValue := 0 }, { name := "MIN_TREEIFY_CAPACITY", type := .int, accessFlags := 24, slot := 6, constantValue := 0 }, { name := "table", type := (.array (.object "java/util/HashMap$Node")), accessFlags := 128, slot := 2, constantValue := 0 }, { name := "entrySet", type := (.object "java/util/Set"), accessFlags := 128, slot := 3, constantValue := 0 }, { name := "size", type := .int, accessFlags := 128, slot := 4, constantValue := 0 }, { name := "modCount", type := .int, accessFlags := 128, slot := 5, constantValue := 0 }, { name := "threshold", type := .int, accessFlags := 0, slot := 6, constantValue := 0 }, { name := "loadFactor", type := .float, accessFlags := 16, slot := 7, constantValue := 0 }]
  methods := #[k25m0, k25m1, k25m2, k25m3, k25m4, k25m5, k25m6, k25m7, k25m8]
  instanceTypes := #[(.object "java/util/Set"), (.object "java/util/Collection"), (.array (.object "java/util/HashMap$Node")), (.object "java/util/Set"), .int, .int, .int, .float]
  staticTypes := #[.long, .int, .int, .float, .int, .int, .int]
  resolved := Array.replicate 629 none
  statics := none }

def pool26 : Array CpInfo := pool [(23, .class_ 25), (1, u "java/util/Map$Entry"), (6, .class_ 34), (1, u "java/util/Map"), (34, .class_ 70), (0, u "java/lang/Object")] 107

/-- java/util/Map$Entry -/
def k26 : Class := { plain "java/util/Map$Entry" (some 0) with
  accessFlags := 1537
  interfaces := #[]
  cf := some (fileOf pool26 23 #[.nestHost 32] #[] 1537 69 #[] #[])
  fields := #[]
  methods := #[]
  instanceTypes := #[]
  staticTypes := #[]
  resolved := Array.replicate 178 none
  statics := none }

def pool27 : Array CpInfo := pool [(1, .methodref 2 3), (0, .class_ 4), (0, .nameAndType 5 6), (0, u "java/lang/Object"), (0, u "<init>"), (0, u "()V"), (0, .fieldref 8 9), (0, .class_ 10), (0, .nameAndType 11 12), (0, u "java/util/HashMap$Node"), (0, u "hash"), (0, u "I"), (0, .fieldref 8 14), (0, .nameAndType 15 16), (0, u "key"), (0, u "Ljava/lang/Object;"), (0, .fieldref 8 18), (0, .nameAndType 19 16), (0, u "value"), (0, .fieldref 8 21), (0, .nameAndType 22 23), (0, u "next"), (0, u "Ljava/util/HashMap$Node;"), (22, .class_ 47), (0, u "java/util/Map$Entry"), (15, u "(ILjava/lang/Object;Ljava/lang/Object;Ljava/util/HashMap$Node;)V"), (24, .class_ 89), (0, u "java/util/HashMap")] 5

def k27c0 : Code := { maxStack := 2, maxLocals := 5, code := jdk_70_method_1_code, exceptionTable := #[], attributes := #[] }
def k27m0 : Method := { name := "<init>", desc := "(ILjava/lang/Object;Ljava/lang/Object;Ljava/util/HashMap$Node;)V", sig := { parameters := [.int, (.object "java/lang/Object"), (.object "java/lang/Object"), (.object "java/util/HashMap$Node")], returnType := none }, accessFlags := 0, code := some k27c0 }
/-- java/util/HashMap$Node -/
def k27 : Class := { plain "java/util/HashMap$Node" (some 0) with
  accessFlags := 32
  interfaces := #[26]
  cf := some (fileOf pool27 8 #[.nestHost 88] #[{ accessFlags := 0, nameIndex := 5, descriptorIndex := 63, attributes := #[] }] 32 2 #[46] #[{ accessFlags := 16, nameIndex := 11, descriptorIndex := 12, attributes := #[] }, { accessFlags := 16, nameIndex := 15, descriptorIndex := 16, attributes := #[] }, { accessFlags := 0, nameIndex := 19, descriptorIndex := 16, attributes := #[] }, { accessFlags := 0, nameIndex := 22, descriptorIndex := 23, attributes := #[] }])
  fields := #[{ name := "hash", type := .int, accessFlags := 16, slot := 0, constantValue := 0 }, { name := "key", type := (.object "java/lang/Object"), accessFlags := 16, slot := 1, constantValue := 0 }, { name := "value", type := (.object "java/lang/Object"), accessFlags := 0, slot := 2, constantValue := 0 }, { name := "next", type := (.object "java/util/HashMap$Node"), accessFlags := 0, slot := 3, constantValue := 0 }]
  methods := #[k27m0]
  instanceTypes := #[.int, (.object "java/lang/Object"), (.object "java/lang/Object"), (.object "java/util/HashMap$Node")]
  staticTypes := #[]
  resolved := Array.replicate 95 none
  statics := none }

def pool28 : Array CpInfo := pool [(1, .methodref 2 3), (0, .class_ 4), (0, .nameAndType 5 6), (0, u "java/lang/Object"), (0, u "<init>"), (0, u "()V"), (0, .interfaceMethodref 8 9), (0, .class_ 10), (0, .nameAndType 11 12), (0, u "java/util/List"), (0, u "size"), (0, u "()I"), (0, .interfaceMethodref 8 14), (0, .nameAndType 15 16), (0, u "get"), (0, u "(I)Ljava/lang/Object;"), (0, .class_ 18), (0, u "com/example/carved_corpus/carvedcorpus/Hit"), (0, .methodref 17 20), (0, .nameAndType 21 22), (0, u "getId"), (0, u "()Ljava/lang/String;"), (0, .interfaceMethodref 24 25), (0, .class_ 26), (0, .nameAndType 27 28), (0, u "java/util/Set"), (0, u "contains"), (0, u "(Ljava/lang/Object;)Z"), (0, .class_ 30), (0, u "com/example/carved_corpus/carvedcorpus/cli/Evaluation"), (0, .fieldref 29 32), (0, .nameAndType 33 34), (0, u "relevantAtCutoff"), (0, u "J"), (0, .fieldref 29 36), (0, .nameAndType 37 38), (0, u "questions"), (0, u "I"), (0, .fieldref 29 40), (0, .nameAndType 41 42), (0, u "reciprocalRanks"), (0, u "D"), (0, u "DEPTH"), (2, u "CUTOFF"), (3, u "add"), (0, u "(Ljava/util/List;Ljava/util/Set;)V"), (4, u "getRelevantAtCutoff"), (0, u "()D")] 3

def k28c0 : Code := { maxStack := 1, maxLocals := 1, code := prog_7_method_1_code, exceptionTable := #[], attributes := #[] }
def k28m0 : Method := { name := "<init>", desc := "()V", sig := { parameters := [], returnType := none }, accessFlags := 0, code := some k28c0 }
def k28c1 : Code := { maxStack := 7, maxLocals := 5, code := prog_7_method_2_code, exceptionTable := #[], attributes := #[] }
def k28m1 : Method := { name := "add", desc := "(Ljava/util/List;Ljava/util/Set;)V", sig := { parameters := [(.object "java/util/List"), (.object "java/util/Set")], returnType := none }, accessFlags := 0, code := some k28c1 }
def k28c2 : Code := { maxStack := 4, maxLocals := 1, code := prog_7_method_4_code, exceptionTable := #[], attributes := #[] }
def k28m2 : Method := { name := "getRelevantAtCutoff", desc := "()D", sig := { parameters := [], returnType := some .double }, accessFlags := 0, code := some k28c2 }
/-- com/example/carved_corpus/carvedcorpus/cli/Evaluation -/
def k28 : Class := { plain "com/example/carved_corpus/carvedcorpus/cli/Evaluation" (some 0) with
  accessFlags := 32
  interfaces := #[]
  cf := some (fileOf pool28 29 #[] #[{ accessFlags := 0, nameIndex := 5, descriptorIndex := 6, attributes := #[] }, { accessFlags := 0, nameIndex := 50, descriptorIndex := 51, attributes := #[] }, { accessFlags := 0, nameIndex := 56, descriptorIndex := 57, attributes := #[] }] 32 2 #[] #[{ accessFlags := 24, nameIndex := 43, descriptorIndex := 38, attributes := #[] }, { accessFlags := 24, nameIndex := 46, descriptorIndex := 38, attributes := #[] }, { accessFlags := 2, nameIndex := 37, descriptorIndex := 38, attributes := #[] }, { accessFlags := 2, nameIndex := 33, descriptorIndex := 34, attributes := #[] }, { accessFlags := 2, nameIndex := 41, descriptorIndex := 42, attributes := #[] }])
  fields := #[{ name := "DEPTH", type := .int, accessFlags := 24, slot := 0, constantValue := 0 }, { name := "CUTOFF", type := .int, accessFlags := 24, slot := 1, constantValue := 0 }, { name := "questions", type := .int, accessFlags := 2, slot := 0, constantValue := 0 }, { name := "relevantAtCutoff", type := .long, accessFlags := 2, slot := 1, constantValue := 0 }, { name := "reciprocalRanks", type := .double, accessFlags := 2, slot := 2, constantValue := 0 }]
  methods := #[k28m0, k28m1, k28m2]
  instanceTypes := #[.int, .long, .double]
  staticTypes := #[.int, .int]
  resolved := Array.replicate 61 none
  statics := none }

def pool29 : Array CpInfo := pool [(2, .class_ 4), (1, u "java/lang/Object"), (0, u "<init>"), (0, u "()V"), (35, .class_ 44), (1, u "java/util/Objects"), (60, .methodref 106 107), (0, .class_ 108), (0, .nameAndType 109 110), (0, u "jdk/internal/util/Preconditions"), (0, u "checkIndex"), (0, u "(IILjava/util/function/BiFunction;)I"), (60, u "(II)I")] 12

def k29m0 : Method := { name := "<init>", desc := "()V", sig := { parameters := [], returnType := none }, accessFlags := 2, code := none }
def k29c1 : Code := { maxStack := 3, maxLocals := 2, code := jdk_31_method_17_code, exceptionTable := #[], attributes := #[] }
def k29m1 : Method := { name := "checkIndex", desc := "(II)I", sig := { parameters := [.int, .int], returnType := some .int }, accessFlags := 9, code := some k29c1 }
/-- java/util/Objects -/
def k29 : Class := { plain "java/util/Objects" (some 0) with
  accessFlags := 49
  interfaces := #[]
  cf := some (fileOf pool29 42 #[] #[{ accessFlags := 2, nameIndex := 5, descriptorIndex := 6, attributes := #[] }, { accessFlags := 9, nameIndex := 109, descriptorIndex := 171, attributes := #[] }] 49 2 #[] #[])
  fields := #[]
  methods := #[k29m0, k29m1]
  instanceTypes := #[]
  staticTypes := #[]
  resolved := Array.replicate 184 none
  statics := none }

def pool30 : Array CpInfo := pool [(2, .class_ 4), (1, u "java/lang/Object"), (0, u "<init>"), (0, u "()V"), (17, .class_ 26), (1, u "jdk/internal/util/Preconditions"), (6, u "checkIndex"), (21, .class_ 56), (0, u "jdk/internal/util/Preconditions$4"), (57, .class_ 115), (0, u "jdk/internal/util/Preconditions$1"), (7, u "SIOOBE_FORMATTER"), (0, u "Ljava/util/function/BiFunction;"), (0, .class_ 126), (0, u "jdk/internal/util/Preconditions$2"), (3, u "AIOOBE_FORMATTER"), (0, .class_ 132), (0, u "jdk/internal/util/Preconditions$3"), (3, u "IOOBE_FORMATTER"), (41, u "(IILjava/util/function/BiFunction;)I")] 15

def k30m0 : Method := { name := "<init>", desc := "()V", sig := { parameters := [], returnType := none }, accessFlags := 1, code := none }
def k30c1 : Code := { maxStack := 3, maxLocals := 3, code := jdk_41_method_11_code, exceptionTable := #[], attributes := #[] }
def k30m1 : Method := { name := "checkIndex", desc := "(IILjava/util/function/BiFunction;)I", sig := { parameters := [.int, .int, (.object "java/util/function/BiFunction")], returnType := some .int }, accessFlags := 9, code := some k30c1 }
/-- jdk/internal/util/Preconditions -/
def k30 : Class := { plain "jdk/internal/util/Preconditions" (some 0) with
  accessFlags := 33
  interfaces := #[]
  cf := some (fileOf pool30 24 #[.nestMembers #[55, 131, 125, 114]] #[{ accessFlags := 1, nameIndex := 5, descriptorIndex := 6, attributes := #[] }, { accessFlags := 9, nameIndex := 33, descriptorIndex := 178, attributes := #[] }] 33 2 #[] #[{ accessFlags := 25, nameIndex := 123, descriptorIndex := 124, attributes := #[] }, { accessFlags := 25, nameIndex := 130, descriptorIndex := 124, attributes := #[] }, { accessFlags := 25, nameIndex := 136, descriptorIndex := 124, attributes := #[] }])
  fields := #[{ name := "SIOOBE_FORMATTER", type := (.object "java/util/function/BiFunction"), accessFlags := 25, slot := 0, constantValue := 0 }, { name := "AIOOBE_FORMATTER", type := (.object "java/util/function/BiFunction"), accessFlags := 25, slot := 1, constantValue := 0 }, { name := "IOOBE_FORMATTER", type := (.object "java/util/function/BiFunction"), accessFlags := 25, slot := 2, constantValue := 0 }]
  methods := #[k30m0, k30m1]
  instanceTypes := #[]
  staticTypes := #[(.object "java/util/function/BiFunction"), (.object "java/util/function/BiFunction"), (.object "java/util/function/BiFunction")]
  resolved := Array.replicate 194 none
  statics := some 3 }

def pool31 : Array CpInfo := pool [(9, u "<init>"), (6, .class_ 18), (1, u "java/lang/Object"), (0, u "()V"), (1, .class_ 23), (1, u "jdk/internal/util/ArraysSupport"), (0, u "LOG2_ARRAY_LONG_INDEX_SCALE"), (0, u "I"), (2, u "U"), (0, u "Ljdk/internal/misc/Unsafe;"), (8, u "BIG_ENDIAN"), (0, u "Z"), (8, u "LOG2_BYTE_BIT_SIZE"), (4, u "LOG2_ARRAY_INT_INDEX_SCALE"), (54, u "JLA"), (0, u "Ljdk/internal/access/JavaLangAccess;"), (11, u "LOG2_ARRAY_BOOLEAN_INDEX_SCALE"), (9, u "LOG2_ARRAY_BYTE_INDEX_SCALE"), (5, u "LOG2_ARRAY_CHAR_INDEX_SCALE"), (5, u "LOG2_ARRAY_SHORT_INDEX_SCALE"), (18, u "LOG2_ARRAY_FLOAT_INDEX_SCALE"), (24, u "LOG2_ARRAY_DOUBLE_INDEX_SCALE"), (6, .methodref 195 196), (0, .class_ 197), (0, .nameAndType 198 199), (0, u "java/lang/Math"), (0, u "max"), (0, u "(II)I"), (0, .integer 2147483639), (76, u "T_BOOLEAN"), (2, u "T_CHAR"), (1, u "T_FLOAT"), (1, u "T_DOUBLE"), (1, u "T_BYTE"), (1, u "T_SHORT"), (1, u "T_INT"), (1, u "T_LONG"), (1, u "SOFT_MAX_ARRAY_LENGTH"), (56, u "newLength"), (0, u "(III)I")] 25

def k31m0 : Method := { name := "<init>", desc := "()V", sig := { parameters := [], returnType := none }, accessFlags := 2, code := none }
def k31c1 : Code := { maxStack := 3, maxLocals := 4, code := jdk_48_method_27_code, exceptionTable := #[], attributes := #[] }
def k31m1 : Method := { name := "newLength", desc := "(III)I", sig := { parameters := [.int, .int, .int], returnType := some .int }, accessFlags := 9, code := some k31c1 }
/-- jdk/internal/util/ArraysSupport -/
def k31 : Class := { plain "jdk/internal/util/ArraysSupport" (some 0) with
  accessFlags := 33
  interfaces := #[]
  cf := some (fileOf pool31 21 #[] #[{ accessFlags := 2, nameIndex := 9, descriptorIndex := 19, attributes := #[] }, { accessFlags := 9, nameIndex := 351, descriptorIndex := 352, attributes := #[] }] 33 16 #[] #[{ accessFlags := 24, nameIndex := 28, descriptorIndex := 29, attributes := #[] }, { accessFlags := 26, nameIndex := 38, descriptorIndex := 39, attributes := #[] }, { accessFlags := 25, nameIndex := 121, descriptorIndex := 25, attributes := #[] }, { accessFlags := 25, nameIndex := 131, descriptorIndex := 25, attributes := #[] }, { accessFlags := 25, nameIndex := 137, descriptorIndex := 25, attributes := #[] }, { accessFlags := 25, nameIndex := 143, descriptorIndex := 25, attributes := #[] }, { accessFlags := 25, nameIndex := 53, descriptorIndex := 25, attributes := #[] }, { accessFlags := 25, nameIndex := 24, descriptorIndex := 25, attributes := #[] }, { accessFlags := 25, nameIndex := 162, descriptorIndex := 25, attributes := #[] }, { accessFlags := 25, nameIndex := 187, descriptorIndex := 25, attributes := #[] }, { accessFlags := 26, nameIndex := 48, descriptorIndex := 25, attributes := #[] }, { accessFlags := 25, nameIndex := 277, descriptorIndex := 25, attributes := #[] }, { accessFlags := 25, nameIndex := 280, descriptorIndex := 25, attributes := #[] }, { accessFlags := 25, nameIndex := 282, descriptorIndex := 25, attributes := #[] }, { accessFlags := 25, nameIndex := 284, descriptorIndex := 25, attributes := #[] }, { accessFlags := 25, nameIndex := 286, descriptorIndex := 25, attributes := #[] }, { accessFlags := 25, nameIndex := 288, descriptorIndex := 25, attributes := #[] }, { accessFlags := 25, nameIndex := 290, descriptorIndex := 25, attributes := #[] }, { accessFlags := 25, nameIndex := 292, descriptorIndex := 25, attributes := #[] }, { accessFlags := 26, nameIndex := 108, descriptorIndex := 109, attributes := #[] }, { accessFlags := 25, nameIndex := 294, descriptorIndex := 25, attributes := #[] }])
  fields := #[{ name := "U", type := (.object "jdk/internal/misc/Unsafe"), accessFlags := 24, slot := 0, constantValue := 0 }, { name := "BIG_ENDIAN", type := .boolean, accessFlags := 26, slot := 1, constantValue := 0 }, { name := "LOG2_ARRAY_BOOLEAN_INDEX_SCALE", type := .int, accessFlags := 25, slot := 2, constantValue := 0 }, { name := "LOG2_ARRAY_BYTE_INDEX_SCALE", type := .int, accessFlags := 25, slot := 3, constantValue := 0 }, { name := "LOG2_ARRAY_CHAR_INDEX_SCALE", type := .int, accessFlags := 25, slot := 4, constantValue := 0 }, { name := "LOG2_ARRAY_SHORT_INDEX_SCALE", type := .int, accessFlags := 25, slot := 5, constantValue := 0 }, { name := "LOG2_ARRAY_INT_INDEX_SCALE", type := .int, accessFlags := 25, slot := 6, constantValue := 0 }, { name := "LOG2_ARRAY_LONG_INDEX_SCALE", type := .int, accessFlags := 25, slot := 7, constantValue := 0 }, { name := "LOG2_ARRAY_FLOAT_INDEX_SCALE", type := .int, accessFlags := 25, slot := 8, constantValue := 0 }, { name := "LOG2_ARRAY_DOUBLE_INDEX_SCALE", type := .int, accessFlags := 25, slot := 9, constantValue := 0 }, { name := "LOG2_BYTE_BIT_SIZE", type := .int, accessFlags := 26, slot := 10, constantValue := 0 }, { name := "T_BOOLEAN", type := .int, accessFlags := 25, slot := 11, constantValue := 0 }, { name := "T_CHAR", type := .int, accessFlags := 25, slot := 12, constantValue := 0 }, { name := "T_FLOAT", type := .int, accessFlags := 25, slot := 13, constantValue := 0 }, { name := "T_DOUBLE", type := .int, accessFlags := 25, slot := 14, constantValue := 0 }, { name := "T_BYTE", type := .int, accessFlags := 25, slot := 15, constantValue := 0 }, { name := "T_SHORT", type := .int, accessFlags := 25, slot := 16, constantValue := 0 }, { name := "T_INT", type := .int, accessFlags := 25, slot := 17, constantValue := 0 }, { name := "T_LONG", type := .int, accessFlags := 25, slot := 18, constantValue := 0 }, { name := "JLA", type := (.object "jdk/internal/access/JavaLangAccess"), accessFlags := 26, slot := 19, constantValue := 0 }, { name := "SOFT_MAX_ARRAY_LENGTH", type := .int, accessFlags := 25, slot := 20, constantValue := 0 }]
  methods := #[k31m0, k31m1]
  instanceTypes := #[]
  staticTypes := #[(.object "jdk/internal/misc/Unsafe"), .boolean, .int, .int, .int, .int, .int, .int, .int, .int, .int, .int, .int, .int, .int, .int, .int, .int, .int, (.object "jdk/internal/access/JavaLangAccess"), .int]
  resolved := Array.replicate 378 none
  statics := none }

def pool32 : Array CpInfo := pool [(2, .class_ 4), (1, u "java/lang/Object"), (0, u "<init>"), (0, u "()V"), (7, .class_ 16), (1, u "java/util/Arrays"), (57, .class_ 76), (1, u "java/util/Arrays$NaturalOrder"), (9, .methodref 2 87), (0, .nameAndType 88 89), (0, u "getClass"), (0, u "()Ljava/lang/Class;"), (20, .class_ 111), (0, u "[Ljava/lang/Object;"), (1, .class_ 115), (1, u "java/util/Arrays$LegacyMergeSort"), (1, u "Z"), (32, .methodref 151 152), (0, .class_ 153), (0, .nameAndType 154 155), (0, u "java/lang/System"), (0, u "arraycopy"), (0, u "(Ljava/lang/Object;ILjava/lang/Object;II)V"), (144, .methodref 14 301), (0, .nameAndType 302 303), (0, u "copyOf"), (0, u "([Ljava/lang/Object;ILjava/lang/Class;)[Ljava/lang/Object;"), (0, .methodref 305 306), (0, .class_ 307), (0, .nameAndType 308 309), (0, u "java/lang/Math"), (0, u "min"), (0, u "(II)I"), (65, .class_ 376), (0, u "java/util/Arrays$ArrayList"), (68, u "$assertionsDisabled"), (269, u "MIN_ARRAY_SORT_GRAN"), (0, u "I"), (2, u "INSERTIONSORT_THRESHOLD"), (140, u "([Ljava/lang/Object;I)[Ljava/lang/Object;"), (114, .class_ 976), (0, u "java/util/Arrays$ArrayItr")] 52

def k32m0 : Method := { name := "<init>", desc := "()V", sig := { parameters := [], returnType := none }, accessFlags := 2, code := none }
def k32c1 : Code := { maxStack := 3, maxLocals := 2, code := jdk_65_method_119_code, exceptionTable := #[], attributes := #[] }
def k32m1 : Method := { name := "copyOf", desc := "([Ljava/lang/Object;I)[Ljava/lang/Object;", sig := { parameters := [(.array (.object "java/lang/Object")), .int], returnType := some (.array (.object "java/lang/Object")) }, accessFlags := 9, code := some k32c1 }
def k32c2 : Code := { maxStack := 6, maxLocals := 4, code := jdk_65_method_120_code, exceptionTable := #[], attributes := #[] }
def k32m2 : Method := { name := "copyOf", desc := "([Ljava/lang/Object;ILjava/lang/Class;)[Ljava/lang/Object;", sig := { parameters := [(.array (.object "java/lang/Object")), .int, (.object "java/lang/Class")], returnType := some (.array (.object "java/lang/Object")) }, accessFlags := 9, code := some k32c2 }
/-- java/util/Arrays -/
def k32 : Class := { plain "java/util/Arrays" (some 0) with
  accessFlags := 49
  interfaces := #[]
  cf := some (fileOf pool32 14 #[.nestMembers #[975, 375, 113, 74]] #[{ accessFlags := 2, nameIndex := 5, descriptorIndex := 6, attributes := #[] }, { accessFlags := 9, nameIndex := 302, descriptorIndex := 860, attributes := #[] }, { accessFlags := 9, nameIndex := 302, descriptorIndex := 303, attributes := #[] }] 49 2 #[] #[{ accessFlags := 26, nameIndex := 715, descriptorIndex := 716, attributes := #[] }, { accessFlags := 26, nameIndex := 719, descriptorIndex := 716, attributes := #[] }, { accessFlags := 4120, nameIndex := 445, descriptorIndex := 117, attributes := #[] }])
  fields := #[{ name := "MIN_ARRAY_SORT_GRAN", type := .int, accessFlags := 26, slot := 0, constantValue := 0 }, { name := "INSERTIONSORT_THRESHOLD", type := .int, accessFlags := 26, slot := 1, constantValue := 0 }, { name := "$assertionsDisabled", type := .boolean, accessFlags := 4120, slot := 2, constantValue := 0 }]
  methods := #[k32m0, k32m1, k32m2]
  instanceTypes := #[]
  staticTypes := #[.int, .int, .boolean]
  resolved := Array.replicate 1029 none
  statics := none }

def pool33 : Array CpInfo := pool [(2, .class_ 4), (1, u "java/lang/Object"), (0, u "<init>"), (0, u "()V"), (1, .class_ 10), (1, u "java/lang/System"), (0, u "allowSecurityManager"), (0, u "I"), (16, u "cons"), (0, u "Ljava/io/Console;"), (77, .class_ 110), (1, u "java/lang/System$CallersHolder"), (43, u "initialErrStream"), (0, u "Ljava/io/PrintStream;"), (19, u "security"), (0, u "Ljava/lang/SecurityManager;"), (31, .class_ 209), (0, u "java/lang/System$1"), (7, u "props"), (0, u "Ljava/util/Properties;"), (2, u "lineSeparator"), (0, u "Ljava/lang/String;"), (96, .class_ 321), (1, u "java/lang/System$LoggerFinder"), (5, .class_ 328), (0, u "java/lang/System$Logger"), (67, u "err"), (2, u "out"), (91, u "notSupportedJnuEncoding"), (15, u "in"), (17, u "initialIn"), (0, u "Ljava/io/InputStream;"), (35, u "bootLayer"), (0, u "Ljava/lang/ModuleLayer;"), (99, .class_ 664), (0, u "java/lang/System$2"), (9, u "NEVER"), (2, u "MAYBE"), (49, u "arraycopy"), (0, u "(Ljava/lang/Object;ILjava/lang/Object;II)V"), (72, .class_ 802), (0, u "java/lang/System$Logger$Level")] 31

def k33m0 : Method := { name := "<init>", desc := "()V", sig := { parameters := [], returnType := none }, accessFlags := 2, code := none }
def k33m1 : Method := { name := "arraycopy", desc := "(Ljava/lang/Object;ILjava/lang/Object;II)V", sig := { parameters := [(.object "java/lang/Object"), .int, (.object "java/lang/Object"), .int, .int], returnType := none }, accessFlags := 265, code := none }
/-- java/lang/System -/
def k33 : Class := { plain "java/lang/System" (some 0) with
  accessFlags := 49
  interfaces := #[]
  cf := some (fileOf pool33 8 #[.nestMembers #[319, 327, 801, 108, 663, 208]] #[{ accessFlags := 2, nameIndex := 5, descriptorIndex := 6, attributes := #[] }, { accessFlags := 265, nameIndex := 727, descriptorIndex := 728, attributes := #[] }] 49 2 #[] #[{ accessFlags := 25, nameIndex := 507, descriptorIndex := 526, attributes := #[] }, { accessFlags := 25, nameIndex := 399, descriptorIndex := 155, attributes := #[] }, { accessFlags := 25, nameIndex := 396, descriptorIndex := 155, attributes := #[] }, { accessFlags := 10, nameIndex := 525, descriptorIndex := 526, attributes := #[] }, { accessFlags := 26, nameIndex := 674, descriptorIndex := 12, attributes := #[] }, { accessFlags := 26, nameIndex := 677, descriptorIndex := 12, attributes := #[] }, { accessFlags := 10, nameIndex := 11, descriptorIndex := 12, attributes := #[] }, { accessFlags := 74, nameIndex := 175, descriptorIndex := 176, attributes := #[] }, { accessFlags := 10, nameIndex := 491, descriptorIndex := 222, attributes := #[] }, { accessFlags := 74, nameIndex := 29, descriptorIndex := 30, attributes := #[] }, { accessFlags := 74, nameIndex := 154, descriptorIndex := 155, attributes := #[] }, { accessFlags := 10, nameIndex := 217, descriptorIndex := 218, attributes := #[] }, { accessFlags := 10, nameIndex := 221, descriptorIndex := 222, attributes := #[] }, { accessFlags := 8, nameIndex := 562, descriptorIndex := 563, attributes := #[] }])
  fields := #[{ name := "in", type := (.object "java/io/InputStream"), accessFlags := 25, slot := 0, constantValue := 0 }, { name := "out", type := (.object "java/io/PrintStream"), accessFlags := 25, slot := 1, constantValue := 0 }, { name := "err", type := (.object "java/io/PrintStream"), accessFlags := 25, slot := 2, constantValue := 0 }, { name := "initialIn", type := (.object "java/io/InputStream"), accessFlags := 10, slot := 3, constantValue := 0 }, { name := "NEVER", type := .int, accessFlags := 26, slot := 4, constantValue := 0 }, { name := "MAYBE", type := .int, accessFlags := 26, slot := 5, constantValue := 0 }, { name := "allowSecurityManager", type := .int, accessFlags := 10, slot := 6, constantValue := 0 }, { name := "security", type := (.object "java/lang/SecurityManager"), accessFlags := 74, slot := 7, constantValue := 0 }, { name := "notSupportedJnuEncoding", type := (.object "java/lang/String"), accessFlags := 10, slot := 8, constantValue := 0 }, { name := "cons", type := (.object "java/io/Console"), accessFlags := 74, slot := 9, constantValue := 0 }, { name := "initialErrStream", type := (.object "java/io/PrintStream"), accessFlags := 74, slot := 10, constantValue := 0 }, { name := "props", type := (.object "java/util/Properties"), accessFlags := 10, slot := 11, constantValue := 0 }, { name := "lineSeparator", type := (.object "java/lang/String"), accessFlags := 10, slot := 12, constantValue := 0 }, { name := "bootLayer", type := (.object "java/lang/ModuleLayer"), accessFlags := 8, slot := 13, constantValue := 0 }]
  methods := #[k33m0, k33m1]
  instanceTypes := #[]
  staticTypes := #[(.object "java/io/InputStream"), (.object "java/io/PrintStream"), (.object "java/io/PrintStream"), (.object "java/io/InputStream"), .int, .int, .int, (.object "java/lang/SecurityManager"), (.object "java/lang/String"), (.object "java/io/Console"), (.object "java/io/PrintStream"), (.object "java/util/Properties"), (.object "java/lang/String"), (.object "java/lang/ModuleLayer")]
  resolved := Array.replicate 834 none
  statics := none }

def pool34 : Array CpInfo := pool [(1, u "java/lang/Class"), (0, .class_ 1), (0, u "java/lang/Object"), (0, .class_ 3)] 3

/-- java/lang/Class -/
def k34 : Class := { plain "java/lang/Class" (some 0) with
  accessFlags := 49
  interfaces := #[]
  cf := some (fileOf pool34 2 #[] #[] 49 4 #[] #[])
  fields := #[]
  methods := #[]
  instanceTypes := #[]
  staticTypes := #[]
  resolved := Array.replicate 8 none
  statics := none }

/-- the primitive byte -/
def k35 : Class := { plain "byte" none with kind := .primitive 'B', accessFlags := 0x411 }
/-- [B -/
def k36 : Class := { plain "[B" (some 0) with kind := .array 35 .byte, interfaces := #[18, 3], accessFlags := 1041 }

/-- the primitive int -/
def k37 : Class := { plain "int" none with kind := .primitive 'I', accessFlags := 0x411 }
/-- [I -/
def k38 : Class := { plain "[I" (some 0) with kind := .array 37 .int, interfaces := #[18, 3], accessFlags := 1041 }

/-- [Ljava/lang/Object; -/
def k39 : Class := { plain "[Ljava/lang/Object;" (some 0) with kind := .array 0 (.object "java/lang/Object"), interfaces := #[18, 3], accessFlags := 1041, mirror := some 4 }

/-- [Ljava/util/HashMap$Node; -/
def k40 : Class := { plain "[Ljava/util/HashMap$Node;" (some 0) with kind := .array 27 (.object "java/util/HashMap$Node"), interfaces := #[18, 3], accessFlags := 1041 }

def heap : Heap := #[{ cls := 8, slots := #[.long 0, .int 1, .null, .int 0, .null, .int 0, .int 0], vm := .statics 8 },
  { cls := 19, slots := #[.long 0, .int 0, .ref 5, .ref 6], vm := .statics 19 },
  { cls := 22, slots := #[.long 0, .ref 7], vm := .statics 22 },
  { cls := 30, slots := #[.null, .null, .null], vm := .statics 30 },
  { cls := 34, slots := #[], vm := .mirror 39 },
  { cls := 39, slots := #[], vm := .none },
  { cls := 39, slots := #[], vm := .none },
  { cls := 0, slots := #[], vm := .none }]
def classes : Array Class := #[k0, k1, k2, k3, k4, k5, k6, k7, k8, k9, k10, k11, k12, k13, k14, k15, k16, k17, k18, k19, k20, k21, k22, k23, k24, k25, k26, k27, k28, k29, k30, k31, k32, k33, k34, k35, k36, k37, k38, k39, k40]
def interned : List (Array UInt16 × Addr) := []
def slotsUsed : Nat := 16
def theMethod : MethodId := ⟨1, 1⟩
def args0 : Array Value := #[.int 5, .int 6, .int 7, .int 8, .int 3]
def aboutOver (below : List Frame) : State where
  vm := { classes := classes, interned := interned.toArray }
  heap := heap
  slotsUsed := slotsUsed
  threads := #[{ frames := .invoking theMethod args0 :: below }]
def below0 : List Frame := [.native { method := ⟨0, 0⟩, args := #[] }]
def about1 : State := aboutOver below0
def p0 : Program := .bare "" "" ""
def e0 : Env := launch0.env 0 0 0
theorem w_frames : about1.frames = Frame.invoking theMethod args0 :: below0 := rfl
set_option maxRecDepth 65536 in
theorem w_args : argsFit about1.vm theMethod args0 = true := by decide +kernel
set_option maxRecDepth 65536 in
theorem w_heap : heapFits about1 = true := by decide +kernel
set_option maxRecDepth 65536 in
theorem w_runnable : about1.curStatus? = some .runnable := by decide +kernel
set_option maxRecDepth 65536 in
theorem w_alone : about1.alone = true := by decide +kernel
set_option maxRecDepth 65536 in
theorem w_named : about1.methodNamed? x = some theMethod := by decide +kernel
set_option maxRecDepth 65536 in
theorem w_hears : about1.hears theMethod below0 = true := by decide +kernel
set_option maxRecDepth 65536 in
theorem w_ripe : about1.ripe theMethod args0 below0 = true := by decide +kernel
theorem w_running : about1.status = .running := rfl
set_option maxRecDepth 65536 in
theorem w_room : about1.hasRoom e0.platform room_1 = true :=
  launch0.hasRoom_least _ room_1 (by decide +kernel) (by decide +kernel) (by decide +kernel) (by decide +kernel) (by decide +kernel) (by decide +kernel)
theorem allAtoms_all (ts : List Jvm.Cond) (a : Array Jvm.Value) (st : Jvm.State) : (allAtoms ts).before a st = ts.all (fun c => c.before a st) := by
  induction ts with
  | nil => rfl
  | cons c t ih =>
    show (Jvm.Cond.and c (allAtoms t)).before a st = _
    rw [Jvm.Cond.before_and, ih, List.all_cons]
def words1 : List Jvm.Cond := Jvm.Cond.code x code maxLocals ret :: tables_1
/-- a 'code' word, met by the world's own term for the bytes: nothing is compared byte by byte -/
theorem code_word {y : MethodName} {bytes : ByteArray} {mx : Nat} {rt : Option FieldType} {a : Array Value} {s : State} {m : MethodId} {meth : Method} {c : Code} (h1 : s.methodNamed? y = some m) (h2 : s.vm.method? m = some meth) (h3 : meth.code = some c) (h4 : c.code = bytes)
    (h5 : (c.maxLocals == mx && c.exceptionTable.isEmpty && decide (c.maxStack ≤ mostOperands) && decide (meth.sig.returnType = rt) && !meth.locks && decide (parseMethodDescriptor y.desc = some meth.sig)) = true) : (Jvm.Cond.code y bytes mx rt).before a s = true := by
  simp only [Bool.and_eq_true, beq_iff_eq, Bool.not_eq_true', decide_eq_true_eq] at h5
  obtain ⟨⟨⟨⟨⟨g1, g2⟩, g3⟩, g4⟩, g5⟩, g6⟩ := h5
  simp [Cond.before, Cond.holds, Cond.value, h1, h2, h3, h4, g1, g2, g3, g4, g5, g6]
def isCode : Jvm.Cond → Bool
  | .code _ _ _ _ => true
  | _ => false
theorem all_split {L : List Jvm.Cond} {P : Jvm.Cond → Bool} (h1 : L.all (fun c => isCode c || P c) = true) (h2 : ∀ c ∈ L.filter isCode, P c = true) : L.all P = true := by
  refine List.all_eq_true.mpr fun c hc => ?_
  have h := List.all_eq_true.mp h1 c hc
  rcases Bool.eq_false_or_eq_true (isCode c) with hi | hi
  · exact h2 c (List.mem_filter.mpr ⟨hc, hi⟩)
  · simpa [hi] using h
set_option maxRecDepth 65536 in
theorem w_c0 : (Jvm.Cond.code x code maxLocals ret).before args0 about1 = true := code_word (m := ⟨1, 1⟩) (meth := k1m1) (c := k1c1) (by decide +kernel) rfl rfl rfl (by decide +kernel)
set_option maxRecDepth 65536 in
theorem w_c1 : (Jvm.Cond.code ({ cls := "java/lang/String", name := "valueOf", desc := "(C)Ljava/lang/String;" } : Jvm.MethodName) jdk_42_method_139_code (1 : Nat) (Option.some (Jvm.ClassFile.FieldType.object "java/lang/String"))).before args0 about1 = true := code_word (m := ⟨8, 3⟩) (meth := k8m3) (c := k8c3) (by decide +kernel) rfl rfl rfl (by decide +kernel)
set_option maxRecDepth 65536 in
theorem w_c2 : (Jvm.Cond.code ({ cls := "java/lang/StringLatin1", name := "canEncode", desc := "(C)Z" } : Jvm.MethodName) jdk_43_method_3_code (1 : Nat) (Option.some Jvm.ClassFile.FieldType.boolean)).before args0 about1 = true := code_word (m := ⟨9, 1⟩) (meth := k9m1) (c := k9c1) (by decide +kernel) rfl rfl rfl (by decide +kernel)
set_option maxRecDepth 65536 in
theorem w_c3 : (Jvm.Cond.code ({ cls := "java/lang/StringLatin1", name := "toBytes", desc := "(C)[B" } : Jvm.MethodName) jdk_43_method_46_code (1 : Nat) (Option.some (Jvm.ClassFile.FieldType.array Jvm.ClassFile.FieldType.byte))).before args0 about1 = true := code_word (m := ⟨9, 4⟩) (meth := k9m4) (c := k9c4) (by decide +kernel) rfl rfl rfl (by decide +kernel)
set_option maxRecDepth 65536 in
theorem w_c4 : (Jvm.Cond.code ({ cls := "java/lang/String", name := "<init>", desc := "([BB)V" } : Jvm.MethodName) jdk_42_method_151_code (3 : Nat) (Option.none : Option Jvm.ClassFile.FieldType)).before args0 about1 = true := code_word (m := ⟨8, 4⟩) (meth := k8m4) (c := k8c4) (by decide +kernel) rfl rfl rfl (by decide +kernel)
set_option maxRecDepth 65536 in
theorem w_c5 : (Jvm.Cond.code ({ cls := "java/lang/Object", name := "<init>", desc := "()V" } : Jvm.MethodName) object_method_1_code (1 : Nat) (Option.none : Option Jvm.ClassFile.FieldType)).before args0 about1 = true := code_word (m := ⟨0, 0⟩) (meth := k0m0) (c := k0c0) (by decide +kernel) rfl rfl rfl (by decide +kernel)
set_option maxRecDepth 65536 in
theorem w_c6 : (Jvm.Cond.code ({ cls := "com/example/carved_corpus/carvedcorpus/Hit", name := "<init>", desc := "(Ljava/lang/String;F)V" } : Jvm.MethodName) prog_1_method_1_code (3 : Nat) (Option.none : Option Jvm.ClassFile.FieldType)).before args0 about1 = true := code_word (m := ⟨2, 0⟩) (meth := k2m0) (c := k2c0) (by decide +kernel) rfl rfl rfl (by decide +kernel)
set_option maxRecDepth 65536 in
theorem w_c7 : (Jvm.Cond.code ({ cls := "java/lang/Math", name := "min", desc := "(II)I" } : Jvm.MethodName) jdk_29_method_69_code (2 : Nat) (Option.some Jvm.ClassFile.FieldType.int)).before args0 about1 = true := code_word (m := ⟨10, 2⟩) (meth := k10m2) (c := k10c2) (by decide +kernel) rfl rfl rfl (by decide +kernel)
set_option maxRecDepth 65536 in
theorem w_c8 : (Jvm.Cond.code ({ cls := "com/example/carved_corpus/carvedcorpus/cli/EvaluationGetRelevantAtCutoffPinLaw", name := "build", desc := "(IILcom/example/carved_corpus/carvedcorpus/Hit;Lcom/example/carved_corpus/carvedcorpus/Hit;)Ljava/util/ArrayList;" } : Jvm.MethodName) method_3_code (5 : Nat) (Option.some (Jvm.ClassFile.FieldType.object "java/util/ArrayList"))).before args0 about1 = true := code_word (m := ⟨1, 2⟩) (meth := k1m2) (c := k1c2) (by decide +kernel) rfl rfl rfl (by decide +kernel)
set_option maxRecDepth 65536 in
theorem w_c9 : (Jvm.Cond.code ({ cls := "java/util/ArrayList", name := "<init>", desc := "()V" } : Jvm.MethodName) jdk_38_method_2_code (1 : Nat) (Option.none : Option Jvm.ClassFile.FieldType)).before args0 about1 = true := code_word (m := ⟨19, 0⟩) (meth := k19m0) (c := k19c0) (by decide +kernel) rfl rfl rfl (by decide +kernel)
set_option maxRecDepth 65536 in
theorem w_c10 : (Jvm.Cond.code ({ cls := "java/util/AbstractList", name := "<init>", desc := "()V" } : Jvm.MethodName) jdk_39_method_1_code (1 : Nat) (Option.none : Option Jvm.ClassFile.FieldType)).before args0 about1 = true := code_word (m := ⟨16, 0⟩) (meth := k16m0) (c := k16c0) (by decide +kernel) rfl rfl rfl (by decide +kernel)
set_option maxRecDepth 65536 in
theorem w_c11 : (Jvm.Cond.code ({ cls := "java/util/AbstractCollection", name := "<init>", desc := "()V" } : Jvm.MethodName) jdk_22_method_1_code (1 : Nat) (Option.none : Option Jvm.ClassFile.FieldType)).before args0 about1 = true := code_word (m := ⟨13, 0⟩) (meth := k13m0) (c := k13c0) (by decide +kernel) rfl rfl rfl (by decide +kernel)
set_option maxRecDepth 65536 in
theorem w_c12 : (Jvm.Cond.code ({ cls := "com/example/carved_corpus/carvedcorpus/cli/EvaluationGetRelevantAtCutoffPinLaw", name := "put", desc := "(Ljava/util/ArrayList;IIILcom/example/carved_corpus/carvedcorpus/Hit;Lcom/example/carved_corpus/carvedcorpus/Hit;)V" } : Jvm.MethodName) method_4_code (6 : Nat) (Option.none : Option Jvm.ClassFile.FieldType)).before args0 about1 = true := code_word (m := ⟨1, 3⟩) (meth := k1m3) (c := k1c3) (by decide +kernel) rfl rfl rfl (by decide +kernel)
set_option maxRecDepth 65536 in
theorem w_c13 : (Jvm.Cond.code ({ cls := "java/util/ArrayList", name := "add", desc := "(Ljava/lang/Object;)Z" } : Jvm.MethodName) jdk_38_method_25_code (2 : Nat) (Option.some Jvm.ClassFile.FieldType.boolean)).before args0 about1 = true := code_word (m := ⟨19, 7⟩) (meth := k19m7) (c := k19c7) (by decide +kernel) rfl rfl rfl (by decide +kernel)
set_option maxRecDepth 65536 in
theorem w_c14 : (Jvm.Cond.code ({ cls := "java/util/ArrayList", name := "add", desc := "(Ljava/lang/Object;[Ljava/lang/Object;I)V" } : Jvm.MethodName) jdk_38_method_24_code (4 : Nat) (Option.none : Option Jvm.ClassFile.FieldType)).before args0 about1 = true := code_word (m := ⟨19, 6⟩) (meth := k19m6) (c := k19c6) (by decide +kernel) rfl rfl rfl (by decide +kernel)
set_option maxRecDepth 65536 in
theorem w_c15 : (Jvm.Cond.code ({ cls := "java/util/ArrayList", name := "grow", desc := "()[Ljava/lang/Object;" } : Jvm.MethodName) jdk_38_method_7_code (1 : Nat) (Option.some (Jvm.ClassFile.FieldType.array (Jvm.ClassFile.FieldType.object "java/lang/Object")))).before args0 about1 = true := code_word (m := ⟨19, 2⟩) (meth := k19m2) (c := k19c2) (by decide +kernel) rfl rfl rfl (by decide +kernel)
set_option maxRecDepth 65536 in
theorem w_c16 : (Jvm.Cond.code ({ cls := "java/util/ArrayList", name := "grow", desc := "(I)[Ljava/lang/Object;" } : Jvm.MethodName) jdk_38_method_6_code (4 : Nat) (Option.some (Jvm.ClassFile.FieldType.array (Jvm.ClassFile.FieldType.object "java/lang/Object")))).before args0 about1 = true := code_word (m := ⟨19, 1⟩) (meth := k19m1) (c := k19c1) (by decide +kernel) rfl rfl rfl (by decide +kernel)
set_option maxRecDepth 65536 in
theorem w_c17 : (Jvm.Cond.code ({ cls := "java/lang/Math", name := "max", desc := "(II)I" } : Jvm.MethodName) jdk_29_method_65_code (2 : Nat) (Option.some Jvm.ClassFile.FieldType.int)).before args0 about1 = true := code_word (m := ⟨10, 1⟩) (meth := k10m1) (c := k10c1) (by decide +kernel) rfl rfl rfl (by decide +kernel)
set_option maxRecDepth 65536 in
theorem w_c18 : (Jvm.Cond.code ({ cls := "java/util/HashSet", name := "<init>", desc := "()V" } : Jvm.MethodName) jdk_93_method_1_code (1 : Nat) (Option.none : Option Jvm.ClassFile.FieldType)).before args0 about1 = true := code_word (m := ⟨22, 0⟩) (meth := k22m0) (c := k22c0) (by decide +kernel) rfl rfl rfl (by decide +kernel)
set_option maxRecDepth 65536 in
theorem w_c19 : (Jvm.Cond.code ({ cls := "java/util/AbstractSet", name := "<init>", desc := "()V" } : Jvm.MethodName) jdk_91_method_1_code (1 : Nat) (Option.none : Option Jvm.ClassFile.FieldType)).before args0 about1 = true := code_word (m := ⟨21, 0⟩) (meth := k21m0) (c := k21c0) (by decide +kernel) rfl rfl rfl (by decide +kernel)
set_option maxRecDepth 65536 in
theorem w_c20 : (Jvm.Cond.code ({ cls := "java/util/HashMap", name := "<init>", desc := "()V" } : Jvm.MethodName) jdk_69_method_7_code (1 : Nat) (Option.none : Option Jvm.ClassFile.FieldType)).before args0 about1 = true := code_word (m := ⟨25, 1⟩) (meth := k25m1) (c := k25c1) (by decide +kernel) rfl rfl rfl (by decide +kernel)
set_option maxRecDepth 65536 in
theorem w_c21 : (Jvm.Cond.code ({ cls := "java/util/AbstractMap", name := "<init>", desc := "()V" } : Jvm.MethodName) jdk_71_method_1_code (1 : Nat) (Option.none : Option Jvm.ClassFile.FieldType)).before args0 about1 = true := code_word (m := ⟨24, 0⟩) (meth := k24m0) (c := k24c0) (by decide +kernel) rfl rfl rfl (by decide +kernel)
set_option maxRecDepth 65536 in
theorem w_c22 : (Jvm.Cond.code ({ cls := "java/util/HashSet", name := "add", desc := "(Ljava/lang/Object;)Z" } : Jvm.MethodName) jdk_93_method_10_code (2 : Nat) (Option.some Jvm.ClassFile.FieldType.boolean)).before args0 about1 = true := code_word (m := ⟨22, 2⟩) (meth := k22m2) (c := k22c2) (by decide +kernel) rfl rfl rfl (by decide +kernel)
set_option maxRecDepth 65536 in
theorem w_c23 : (Jvm.Cond.code ({ cls := "java/util/HashMap", name := "put", desc := "(Ljava/lang/Object;Ljava/lang/Object;)Ljava/lang/Object;" } : Jvm.MethodName) jdk_69_method_15_code (3 : Nat) (Option.some (Jvm.ClassFile.FieldType.object "java/lang/Object"))).before args0 about1 = true := code_word (m := ⟨25, 4⟩) (meth := k25m4) (c := k25c4) (by decide +kernel) rfl rfl rfl (by decide +kernel)
set_option maxRecDepth 65536 in
theorem w_c24 : (Jvm.Cond.code ({ cls := "java/util/HashMap", name := "hash", desc := "(Ljava/lang/Object;)I" } : Jvm.MethodName) jdk_69_method_1_code (2 : Nat) (Option.some Jvm.ClassFile.FieldType.int)).before args0 about1 = true := code_word (m := ⟨25, 0⟩) (meth := k25m0) (c := k25c0) (by decide +kernel) rfl rfl rfl (by decide +kernel)
set_option maxRecDepth 65536 in
theorem w_c25 : (Jvm.Cond.code ({ cls := "java/lang/String", name := "hashCode", desc := "()I" } : Jvm.MethodName) jdk_42_method_78_code (2 : Nat) (Option.some Jvm.ClassFile.FieldType.int)).before args0 about1 = true := code_word (m := ⟨8, 2⟩) (meth := k8m2) (c := k8c2) (by decide +kernel) rfl rfl rfl (by decide +kernel)
set_option maxRecDepth 65536 in
theorem w_c26 : (Jvm.Cond.code ({ cls := "java/lang/String", name := "isLatin1", desc := "()Z" } : Jvm.MethodName) jdk_42_method_154_code (1 : Nat) (Option.some Jvm.ClassFile.FieldType.boolean)).before args0 about1 = true := code_word (m := ⟨8, 5⟩) (meth := k8m5) (c := k8c5) (by decide +kernel) rfl rfl rfl (by decide +kernel)
set_option maxRecDepth 65536 in
theorem w_c27 : (Jvm.Cond.code ({ cls := "java/lang/StringLatin1", name := "hashCode", desc := "([B)I" } : Jvm.MethodName) jdk_43_method_21_code (1 : Nat) (Option.some Jvm.ClassFile.FieldType.int)).before args0 about1 = true := code_word (m := ⟨9, 3⟩) (meth := k9m3) (c := k9c3) (by decide +kernel) rfl rfl rfl (by decide +kernel)
set_option maxRecDepth 65536 in
theorem w_c28 : (Jvm.Cond.code ({ cls := "java/util/HashMap", name := "putVal", desc := "(ILjava/lang/Object;Ljava/lang/Object;ZZ)Ljava/lang/Object;" } : Jvm.MethodName) jdk_69_method_16_code (13 : Nat) (Option.some (Jvm.ClassFile.FieldType.object "java/lang/Object"))).before args0 about1 = true := code_word (m := ⟨25, 5⟩) (meth := k25m5) (c := k25c5) (by decide +kernel) rfl rfl rfl (by decide +kernel)
set_option maxRecDepth 65536 in
theorem w_c29 : (Jvm.Cond.code ({ cls := "java/util/HashMap", name := "resize", desc := "()[Ljava/util/HashMap$Node;" } : Jvm.MethodName) jdk_69_method_17_code (14 : Nat) (Option.some (Jvm.ClassFile.FieldType.array (Jvm.ClassFile.FieldType.object "java/util/HashMap$Node")))).before args0 about1 = true := code_word (m := ⟨25, 6⟩) (meth := k25m6) (c := k25c6) (by decide +kernel) rfl rfl rfl (by decide +kernel)
set_option maxRecDepth 65536 in
theorem w_c30 : (Jvm.Cond.code ({ cls := "java/util/HashMap", name := "newNode", desc := "(ILjava/lang/Object;Ljava/lang/Object;Ljava/util/HashMap$Node;)Ljava/util/HashMap$Node;" } : Jvm.MethodName) jdk_69_method_46_code (5 : Nat) (Option.some (Jvm.ClassFile.FieldType.object "java/util/HashMap$Node"))).before args0 about1 = true := code_word (m := ⟨25, 7⟩) (meth := k25m7) (c := k25c7) (by decide +kernel) rfl rfl rfl (by decide +kernel)
set_option maxRecDepth 65536 in
theorem w_c31 : (Jvm.Cond.code ({ cls := "java/util/HashMap$Node", name := "<init>", desc := "(ILjava/lang/Object;Ljava/lang/Object;Ljava/util/HashMap$Node;)V" } : Jvm.MethodName) jdk_70_method_1_code (5 : Nat) (Option.none : Option Jvm.ClassFile.FieldType)).before args0 about1 = true := code_word (m := ⟨27, 0⟩) (meth := k27m0) (c := k27c0) (by decide +kernel) rfl rfl rfl (by decide +kernel)
set_option maxRecDepth 65536 in
theorem w_c32 : (Jvm.Cond.code ({ cls := "java/util/HashMap", name := "afterNodeInsertion", desc := "(Z)V" } : Jvm.MethodName) jdk_69_method_52_code (2 : Nat) (Option.none : Option Jvm.ClassFile.FieldType)).before args0 about1 = true := code_word (m := ⟨25, 8⟩) (meth := k25m8) (c := k25c8) (by decide +kernel) rfl rfl rfl (by decide +kernel)
set_option maxRecDepth 65536 in
theorem w_c33 : (Jvm.Cond.code ({ cls := "com/example/carved_corpus/carvedcorpus/cli/Evaluation", name := "<init>", desc := "()V" } : Jvm.MethodName) prog_7_method_1_code (1 : Nat) (Option.none : Option Jvm.ClassFile.FieldType)).before args0 about1 = true := code_word (m := ⟨28, 0⟩) (meth := k28m0) (c := k28c0) (by decide +kernel) rfl rfl rfl (by decide +kernel)
set_option maxRecDepth 65536 in
theorem w_c34 : (Jvm.Cond.code ({ cls := "com/example/carved_corpus/carvedcorpus/cli/Evaluation", name := "add", desc := "(Ljava/util/List;Ljava/util/Set;)V" } : Jvm.MethodName) prog_7_method_2_code (5 : Nat) (Option.none : Option Jvm.ClassFile.FieldType)).before args0 about1 = true := code_word (m := ⟨28, 1⟩) (meth := k28m1) (c := k28c1) (by decide +kernel) rfl rfl rfl (by decide +kernel)
set_option maxRecDepth 65536 in
theorem w_c35 : (Jvm.Cond.code ({ cls := "java/util/ArrayList", name := "size", desc := "()I" } : Jvm.MethodName) jdk_38_method_8_code (1 : Nat) (Option.some Jvm.ClassFile.FieldType.int)).before args0 about1 = true := code_word (m := ⟨19, 3⟩) (meth := k19m3) (c := k19c3) (by decide +kernel) rfl rfl rfl (by decide +kernel)
set_option maxRecDepth 65536 in
theorem w_c36 : (Jvm.Cond.code ({ cls := "java/util/ArrayList", name := "get", desc := "(I)Ljava/lang/Object;" } : Jvm.MethodName) jdk_38_method_20_code (2 : Nat) (Option.some (Jvm.ClassFile.FieldType.object "java/lang/Object"))).before args0 about1 = true := code_word (m := ⟨19, 5⟩) (meth := k19m5) (c := k19c5) (by decide +kernel) rfl rfl rfl (by decide +kernel)
set_option maxRecDepth 65536 in
theorem w_c37 : (Jvm.Cond.code ({ cls := "java/util/Objects", name := "checkIndex", desc := "(II)I" } : Jvm.MethodName) jdk_31_method_17_code (2 : Nat) (Option.some Jvm.ClassFile.FieldType.int)).before args0 about1 = true := code_word (m := ⟨29, 1⟩) (meth := k29m1) (c := k29c1) (by decide +kernel) rfl rfl rfl (by decide +kernel)
set_option maxRecDepth 65536 in
theorem w_c38 : (Jvm.Cond.code ({ cls := "jdk/internal/util/Preconditions", name := "checkIndex", desc := "(IILjava/util/function/BiFunction;)I" } : Jvm.MethodName) jdk_41_method_11_code (3 : Nat) (Option.some Jvm.ClassFile.FieldType.int)).before args0 about1 = true := code_word (m := ⟨30, 1⟩) (meth := k30m1) (c := k30c1) (by decide +kernel) rfl rfl rfl (by decide +kernel)
set_option maxRecDepth 65536 in
theorem w_c39 : (Jvm.Cond.code ({ cls := "java/util/ArrayList", name := "elementData", desc := "(I)Ljava/lang/Object;" } : Jvm.MethodName) jdk_38_method_18_code (2 : Nat) (Option.some (Jvm.ClassFile.FieldType.object "java/lang/Object"))).before args0 about1 = true := code_word (m := ⟨19, 4⟩) (meth := k19m4) (c := k19c4) (by decide +kernel) rfl rfl rfl (by decide +kernel)
set_option maxRecDepth 65536 in
theorem w_c40 : (Jvm.Cond.code ({ cls := "com/example/carved_corpus/carvedcorpus/Hit", name := "getId", desc := "()Ljava/lang/String;" } : Jvm.MethodName) prog_1_method_2_code (1 : Nat) (Option.some (Jvm.ClassFile.FieldType.object "java/lang/String"))).before args0 about1 = true := code_word (m := ⟨2, 1⟩) (meth := k2m1) (c := k2c1) (by decide +kernel) rfl rfl rfl (by decide +kernel)
set_option maxRecDepth 65536 in
theorem w_c41 : (Jvm.Cond.code ({ cls := "java/util/HashSet", name := "contains", desc := "(Ljava/lang/Object;)Z" } : Jvm.MethodName) jdk_93_method_9_code (2 : Nat) (Option.some Jvm.ClassFile.FieldType.boolean)).before args0 about1 = true := code_word (m := ⟨22, 1⟩) (meth := k22m1) (c := k22c1) (by decide +kernel) rfl rfl rfl (by decide +kernel)
set_option maxRecDepth 65536 in
theorem w_c42 : (Jvm.Cond.code ({ cls := "java/util/HashMap", name := "containsKey", desc := "(Ljava/lang/Object;)Z" } : Jvm.MethodName) jdk_69_method_14_code (2 : Nat) (Option.some Jvm.ClassFile.FieldType.boolean)).before args0 about1 = true := code_word (m := ⟨25, 3⟩) (meth := k25m3) (c := k25c3) (by decide +kernel) rfl rfl rfl (by decide +kernel)
set_option maxRecDepth 65536 in
theorem w_c43 : (Jvm.Cond.code ({ cls := "java/util/HashMap", name := "getNode", desc := "(Ljava/lang/Object;)Ljava/util/HashMap$Node;" } : Jvm.MethodName) jdk_69_method_13_code (8 : Nat) (Option.some (Jvm.ClassFile.FieldType.object "java/util/HashMap$Node"))).before args0 about1 = true := code_word (m := ⟨25, 2⟩) (meth := k25m2) (c := k25c2) (by decide +kernel) rfl rfl rfl (by decide +kernel)
set_option maxRecDepth 65536 in
theorem w_c44 : (Jvm.Cond.code ({ cls := "com/example/carved_corpus/carvedcorpus/cli/EvaluationGetRelevantAtCutoffPinLaw", name := "count", desc := "(II)J" } : Jvm.MethodName) method_6_code (4 : Nat) (Option.some Jvm.ClassFile.FieldType.long)).before args0 about1 = true := code_word (m := ⟨1, 5⟩) (meth := k1m5) (c := k1c5) (by decide +kernel) rfl rfl rfl (by decide +kernel)
set_option maxRecDepth 65536 in
theorem w_c45 : (Jvm.Cond.code ({ cls := "com/example/carved_corpus/carvedcorpus/cli/EvaluationGetRelevantAtCutoffPinLaw", name := "bit", desc := "(II)I" } : Jvm.MethodName) method_5_code (2 : Nat) (Option.some Jvm.ClassFile.FieldType.int)).before args0 about1 = true := code_word (m := ⟨1, 4⟩) (meth := k1m4) (c := k1c4) (by decide +kernel) rfl rfl rfl (by decide +kernel)
set_option maxRecDepth 65536 in
theorem w_c46 : (Jvm.Cond.code ({ cls := "com/example/carved_corpus/carvedcorpus/cli/Evaluation", name := "getRelevantAtCutoff", desc := "()D" } : Jvm.MethodName) prog_7_method_4_code (1 : Nat) (Option.some Jvm.ClassFile.FieldType.double)).before args0 about1 = true := code_word (m := ⟨28, 2⟩) (meth := k28m2) (c := k28c2) (by decide +kernel) rfl rfl rfl (by decide +kernel)
set_option maxRecDepth 65536 in
theorem w_c47 : (Jvm.Cond.code ({ cls := "java/lang/String", name := "equals", desc := "(Ljava/lang/Object;)Z" } : Jvm.MethodName) jdk_42_method_66_code (3 : Nat) (Option.some Jvm.ClassFile.FieldType.boolean)).before args0 about1 = true := code_word (m := ⟨8, 1⟩) (meth := k8m1) (c := k8c1) (by decide +kernel) rfl rfl rfl (by decide +kernel)
set_option maxRecDepth 65536 in
theorem w_c48 : (Jvm.Cond.code ({ cls := "java/lang/StringLatin1", name := "equals", desc := "([B[B)Z" } : Jvm.MethodName) jdk_43_method_13_code (3 : Nat) (Option.some Jvm.ClassFile.FieldType.boolean)).before args0 about1 = true := code_word (m := ⟨9, 2⟩) (meth := k9m2) (c := k9c2) (by decide +kernel) rfl rfl rfl (by decide +kernel)
set_option maxRecDepth 65536 in
theorem w_c49 : (Jvm.Cond.code ({ cls := "jdk/internal/util/ArraysSupport", name := "newLength", desc := "(III)I" } : Jvm.MethodName) jdk_48_method_27_code (4 : Nat) (Option.some Jvm.ClassFile.FieldType.int)).before args0 about1 = true := code_word (m := ⟨31, 1⟩) (meth := k31m1) (c := k31c1) (by decide +kernel) rfl rfl rfl (by decide +kernel)
set_option maxRecDepth 65536 in
theorem w_c50 : (Jvm.Cond.code ({ cls := "java/util/Arrays", name := "copyOf", desc := "([Ljava/lang/Object;I)[Ljava/lang/Object;" } : Jvm.MethodName) jdk_65_method_119_code (2 : Nat) (Option.some (Jvm.ClassFile.FieldType.array (Jvm.ClassFile.FieldType.object "java/lang/Object")))).before args0 about1 = true := code_word (m := ⟨32, 1⟩) (meth := k32m1) (c := k32c1) (by decide +kernel) rfl rfl rfl (by decide +kernel)
set_option maxRecDepth 65536 in
theorem w_c51 : (Jvm.Cond.code ({ cls := "java/util/Arrays", name := "copyOf", desc := "([Ljava/lang/Object;ILjava/lang/Class;)[Ljava/lang/Object;" } : Jvm.MethodName) jdk_65_method_120_code (4 : Nat) (Option.some (Jvm.ClassFile.FieldType.array (Jvm.ClassFile.FieldType.object "java/lang/Object")))).before args0 about1 = true := code_word (m := ⟨32, 2⟩) (meth := k32m2) (c := k32c2) (by decide +kernel) rfl rfl rfl (by decide +kernel)
def codes1 : List Jvm.Cond := [Jvm.Cond.code x code maxLocals ret, Jvm.Cond.code ({ cls := "java/lang/String", name := "valueOf", desc := "(C)Ljava/lang/String;" } : Jvm.MethodName) jdk_42_method_139_code (1 : Nat) (Option.some (Jvm.ClassFile.FieldType.object "java/lang/String")), Jvm.Cond.code ({ cls := "java/lang/StringLatin1", name := "canEncode", desc := "(C)Z" } : Jvm.MethodName) jdk_43_method_3_code (1 : Nat) (Option.some Jvm.ClassFile.FieldType.boolean), Jvm.Cond.code ({ cls := "java/lang/StringLatin1", name := "toBytes", desc := "(C)[B" } : Jvm.MethodName) jdk_43_method_46_code (1 : Nat) (Option.some (Jvm.ClassFile.FieldType.array Jvm.ClassFile.FieldType.byte)), Jvm.Cond.code ({ cls := "java/lang/String", name := "<init>", desc := "([BB)V" } : Jvm.MethodName) jdk_42_method_151_code (3 : Nat) (Option.none : Option Jvm.ClassFile.FieldType), Jvm.Cond.code ({ cls := "java/lang/Object", name := "<init>", desc := "()V" } : Jvm.MethodName) object_method_1_code (1 : Nat) (Option.none : Option Jvm.ClassFile.FieldType), Jvm.Cond.code ({ cls := "com/example/carved_corpus/carvedcorpus/Hit", name := "<init>", desc := "(Ljava/lang/String;F)V" } : Jvm.MethodName) prog_1_method_1_code (3 : Nat) (Option.none : Option Jvm.ClassFile.FieldType), Jvm.Cond.code ({ cls := "java/lang/Math", name := "min", desc := "(II)I" } : Jvm.MethodName) jdk_29_method_69_code (2 : Nat) (Option.some Jvm.ClassFile.FieldType.int), Jvm.Cond.code ({ cls := "com/example/carved_corpus/carvedcorpus/cli/EvaluationGetRelevantAtCutoffPinLaw", name := "build", desc := "(IILcom/example/carved_corpus/carvedcorpus/Hit;Lcom/example/carved_corpus/carvedcorpus/Hit;)Ljava/util/ArrayList;" } : Jvm.MethodName) method_3_code (5 : Nat) (Option.some (Jvm.ClassFile.FieldType.object "java/util/ArrayList")), Jvm.Cond.code ({ cls := "java/util/ArrayList", name := "<init>", desc := "()V" } : Jvm.MethodName) jdk_38_method_2_code (1 : Nat) (Option.none : Option Jvm.ClassFile.FieldType), Jvm.Cond.code ({ cls := "java/util/AbstractList", name := "<init>", desc := "()V" } : Jvm.MethodName) jdk_39_method_1_code (1 : Nat) (Option.none : Option Jvm.ClassFile.FieldType), Jvm.Cond.code ({ cls := "java/util/AbstractCollection", name := "<init>", desc := "()V" } : Jvm.MethodName) jdk_22_method_1_code (1 : Nat) (Option.none : Option Jvm.ClassFile.FieldType), Jvm.Cond.code ({ cls := "com/example/carved_corpus/carvedcorpus/cli/EvaluationGetRelevantAtCutoffPinLaw", name := "put", desc := "(Ljava/util/ArrayList;IIILcom/example/carved_corpus/carvedcorpus/Hit;Lcom/example/carved_corpus/carvedcorpus/Hit;)V" } : Jvm.MethodName) method_4_code (6 : Nat) (Option.none : Option Jvm.ClassFile.FieldType), Jvm.Cond.code ({ cls := "java/util/ArrayList", name := "add", desc := "(Ljava/lang/Object;)Z" } : Jvm.MethodName) jdk_38_method_25_code (2 : Nat) (Option.some Jvm.ClassFile.FieldType.boolean), Jvm.Cond.code ({ cls := "java/util/ArrayList", name := "add", desc := "(Ljava/lang/Object;[Ljava/lang/Object;I)V" } : Jvm.MethodName) jdk_38_method_24_code (4 : Nat) (Option.none : Option Jvm.ClassFile.FieldType), Jvm.Cond.code ({ cls := "java/util/ArrayList", name := "grow", desc := "()[Ljava/lang/Object;" } : Jvm.MethodName) jdk_38_method_7_code (1 : Nat) (Option.some (Jvm.ClassFile.FieldType.array (Jvm.ClassFile.FieldType.object "java/lang/Object"))), Jvm.Cond.code ({ cls := "java/util/ArrayList", name := "grow", desc := "(I)[Ljava/lang/Object;" } : Jvm.MethodName) jdk_38_method_6_code (4 : Nat) (Option.some (Jvm.ClassFile.FieldType.array (Jvm.ClassFile.FieldType.object "java/lang/Object"))), Jvm.Cond.code ({ cls := "java/lang/Math", name := "max", desc := "(II)I" } : Jvm.MethodName) jdk_29_method_65_code (2 : Nat) (Option.some Jvm.ClassFile.FieldType.int), Jvm.Cond.code ({ cls := "java/util/HashSet", name := "<init>", desc := "()V" } : Jvm.MethodName) jdk_93_method_1_code (1 : Nat) (Option.none : Option Jvm.ClassFile.FieldType), Jvm.Cond.code ({ cls := "java/util/AbstractSet", name := "<init>", desc := "()V" } : Jvm.MethodName) jdk_91_method_1_code (1 : Nat) (Option.none : Option Jvm.ClassFile.FieldType), Jvm.Cond.code ({ cls := "java/util/HashMap", name := "<init>", desc := "()V" } : Jvm.MethodName) jdk_69_method_7_code (1 : Nat) (Option.none : Option Jvm.ClassFile.FieldType), Jvm.Cond.code ({ cls := "java/util/AbstractMap", name := "<init>", desc := "()V" } : Jvm.MethodName) jdk_71_method_1_code (1 : Nat) (Option.none : Option Jvm.ClassFile.FieldType), Jvm.Cond.code ({ cls := "java/util/HashSet", name := "add", desc := "(Ljava/lang/Object;)Z" } : Jvm.MethodName) jdk_93_method_10_code (2 : Nat) (Option.some Jvm.ClassFile.FieldType.boolean), Jvm.Cond.code ({ cls := "java/util/HashMap", name := "put", desc := "(Ljava/lang/Object;Ljava/lang/Object;)Ljava/lang/Object;" } : Jvm.MethodName) jdk_69_method_15_code (3 : Nat) (Option.some (Jvm.ClassFile.FieldType.object "java/lang/Object")), Jvm.Cond.code ({ cls := "java/util/HashMap", name := "hash", desc := "(Ljava/lang/Object;)I" } : Jvm.MethodName) jdk_69_method_1_code (2 : Nat) (Option.some Jvm.ClassFile.FieldType.int), Jvm.Cond.code ({ cls := "java/lang/String", name := "hashCode", desc := "()I" } : Jvm.MethodName) jdk_42_method_78_code (2 : Nat) (Option.some Jvm.ClassFile.FieldType.int), Jvm.Cond.code ({ cls := "java/lang/String", name := "isLatin1", desc := "()Z" } : Jvm.MethodName) jdk_42_method_154_code (1 : Nat) (Option.some Jvm.ClassFile.FieldType.boolean), Jvm.Cond.code ({ cls := "java/lang/StringLatin1", name := "hashCode", desc := "([B)I" } : Jvm.MethodName) jdk_43_method_21_code (1 : Nat) (Option.some Jvm.ClassFile.FieldType.int), Jvm.Cond.code ({ cls := "java/util/HashMap", name := "putVal", desc := "(ILjava/lang/Object;Ljava/lang/Object;ZZ)Ljava/lang/Object;" } : Jvm.MethodName) jdk_69_method_16_code (13 : Nat) (Option.some (Jvm.ClassFile.FieldType.object "java/lang/Object")), Jvm.Cond.code ({ cls := "java/util/HashMap", name := "resize", desc := "()[Ljava/util/HashMap$Node;" } : Jvm.MethodName) jdk_69_method_17_code (14 : Nat) (Option.some (Jvm.ClassFile.FieldType.array (Jvm.ClassFile.FieldType.object "java/util/HashMap$Node"))), Jvm.Cond.code ({ cls := "java/util/HashMap", name := "newNode", desc := "(ILjava/lang/Object;Ljava/lang/Object;Ljava/util/HashMap$Node;)Ljava/util/HashMap$Node;" } : Jvm.MethodName) jdk_69_method_46_code (5 : Nat) (Option.some (Jvm.ClassFile.FieldType.object "java/util/HashMap$Node")), Jvm.Cond.code ({ cls := "java/util/HashMap$Node", name := "<init>", desc := "(ILjava/lang/Object;Ljava/lang/Object;Ljava/util/HashMap$Node;)V" } : Jvm.MethodName) jdk_70_method_1_code (5 : Nat) (Option.none : Option Jvm.ClassFile.FieldType), Jvm.Cond.code ({ cls := "java/util/HashMap", name := "afterNodeInsertion", desc := "(Z)V" } : Jvm.MethodName) jdk_69_method_52_code (2 : Nat) (Option.none : Option Jvm.ClassFile.FieldType), Jvm.Cond.code ({ cls := "com/example/carved_corpus/carvedcorpus/cli/Evaluation", name := "<init>", desc := "()V" } : Jvm.MethodName) prog_7_method_1_code (1 : Nat) (Option.none : Option Jvm.ClassFile.FieldType), Jvm.Cond.code ({ cls := "com/example/carved_corpus/carvedcorpus/cli/Evaluation", name := "add", desc := "(Ljava/util/List;Ljava/util/Set;)V" } : Jvm.MethodName) prog_7_method_2_code (5 : Nat) (Option.none : Option Jvm.ClassFile.FieldType), Jvm.Cond.code ({ cls := "java/util/ArrayList", name := "size", desc := "()I" } : Jvm.MethodName) jdk_38_method_8_code (1 : Nat) (Option.some Jvm.ClassFile.FieldType.int), Jvm.Cond.code ({ cls := "java/util/ArrayList", name := "get", desc := "(I)Ljava/lang/Object;" } : Jvm.MethodName) jdk_38_method_20_code (2 : Nat) (Option.some (Jvm.ClassFile.FieldType.object "java/lang/Object")), Jvm.Cond.code ({ cls := "java/util/Objects", name := "checkIndex", desc := "(II)I" } : Jvm.MethodName) jdk_31_method_17_code (2 : Nat) (Option.some Jvm.ClassFile.FieldType.int), Jvm.Cond.code ({ cls := "jdk/internal/util/Preconditions", name := "checkIndex", desc := "(IILjava/util/function/BiFunction;)I" } : Jvm.MethodName) jdk_41_method_11_code (3 : Nat) (Option.some Jvm.ClassFile.FieldType.int), Jvm.Cond.code ({ cls := "java/util/ArrayList", name := "elementData", desc := "(I)Ljava/lang/Object;" } : Jvm.MethodName) jdk_38_method_18_code (2 : Nat) (Option.some (Jvm.ClassFile.FieldType.object "java/lang/Object")), Jvm.Cond.code ({ cls := "com/example/carved_corpus/carvedcorpus/Hit", name := "getId", desc := "()Ljava/lang/String;" } : Jvm.MethodName) prog_1_method_2_code (1 : Nat) (Option.some (Jvm.ClassFile.FieldType.object "java/lang/String")), Jvm.Cond.code ({ cls := "java/util/HashSet", name := "contains", desc := "(Ljava/lang/Object;)Z" } : Jvm.MethodName) jdk_93_method_9_code (2 : Nat) (Option.some Jvm.ClassFile.FieldType.boolean), Jvm.Cond.code ({ cls := "java/util/HashMap", name := "containsKey", desc := "(Ljava/lang/Object;)Z" } : Jvm.MethodName) jdk_69_method_14_code (2 : Nat) (Option.some Jvm.ClassFile.FieldType.boolean), Jvm.Cond.code ({ cls := "java/util/HashMap", name := "getNode", desc := "(Ljava/lang/Object;)Ljava/util/HashMap$Node;" } : Jvm.MethodName) jdk_69_method_13_code (8 : Nat) (Option.some (Jvm.ClassFile.FieldType.object "java/util/HashMap$Node")), Jvm.Cond.code ({ cls := "com/example/carved_corpus/carvedcorpus/cli/EvaluationGetRelevantAtCutoffPinLaw", name := "count", desc := "(II)J" } : Jvm.MethodName) method_6_code (4 : Nat) (Option.some Jvm.ClassFile.FieldType.long), Jvm.Cond.code ({ cls := "com/example/carved_corpus/carvedcorpus/cli/EvaluationGetRelevantAtCutoffPinLaw", name := "bit", desc := "(II)I" } : Jvm.MethodName) method_5_code (2 : Nat) (Option.some Jvm.ClassFile.FieldType.int), Jvm.Cond.code ({ cls := "com/example/carved_corpus/carvedcorpus/cli/Evaluation", name := "getRelevantAtCutoff", desc := "()D" } : Jvm.MethodName) prog_7_method_4_code (1 : Nat) (Option.some Jvm.ClassFile.FieldType.double), Jvm.Cond.code ({ cls := "java/lang/String", name := "equals", desc := "(Ljava/lang/Object;)Z" } : Jvm.MethodName) jdk_42_method_66_code (3 : Nat) (Option.some Jvm.ClassFile.FieldType.boolean), Jvm.Cond.code ({ cls := "java/lang/StringLatin1", name := "equals", desc := "([B[B)Z" } : Jvm.MethodName) jdk_43_method_13_code (3 : Nat) (Option.some Jvm.ClassFile.FieldType.boolean), Jvm.Cond.code ({ cls := "jdk/internal/util/ArraysSupport", name := "newLength", desc := "(III)I" } : Jvm.MethodName) jdk_48_method_27_code (4 : Nat) (Option.some Jvm.ClassFile.FieldType.int), Jvm.Cond.code ({ cls := "java/util/Arrays", name := "copyOf", desc := "([Ljava/lang/Object;I)[Ljava/lang/Object;" } : Jvm.MethodName) jdk_65_method_119_code (2 : Nat) (Option.some (Jvm.ClassFile.FieldType.array (Jvm.ClassFile.FieldType.object "java/lang/Object"))), Jvm.Cond.code ({ cls := "java/util/Arrays", name := "copyOf", desc := "([Ljava/lang/Object;ILjava/lang/Class;)[Ljava/lang/Object;" } : Jvm.MethodName) jdk_65_method_120_code (4 : Nat) (Option.some (Jvm.ClassFile.FieldType.array (Jvm.ClassFile.FieldType.object "java/lang/Object")))]
set_option maxRecDepth 65536 in
theorem codes_eq : words1.filter isCode = codes1 := rfl
theorem w_codes : ∀ c ∈ words1.filter isCode, c.before args0 about1 = true := by
  rw [codes_eq]
  intro c hc
  simp only [codes1, List.mem_cons, List.not_mem_nil, or_false] at hc
  rcases hc with rfl | rfl | rfl | rfl | rfl | rfl | rfl | rfl | rfl | rfl | rfl | rfl | rfl | rfl | rfl | rfl | rfl | rfl | rfl | rfl | rfl | rfl | rfl | rfl | rfl | rfl | rfl | rfl | rfl | rfl | rfl | rfl | rfl | rfl | rfl | rfl | rfl | rfl | rfl | rfl | rfl | rfl | rfl | rfl | rfl | rfl | rfl | rfl | rfl | rfl | rfl | rfl
  · exact w_c0
  · exact w_c1
  · exact w_c2
  · exact w_c3
  · exact w_c4
  · exact w_c5
  · exact w_c6
  · exact w_c7
  · exact w_c8
  · exact w_c9
  · exact w_c10
  · exact w_c11
  · exact w_c12
  · exact w_c13
  · exact w_c14
  · exact w_c15
  · exact w_c16
  · exact w_c17
  · exact w_c18
  · exact w_c19
  · exact w_c20
  · exact w_c21
  · exact w_c22
  · exact w_c23
  · exact w_c24
  · exact w_c25
  · exact w_c26
  · exact w_c27
  · exact w_c28
  · exact w_c29
  · exact w_c30
  · exact w_c31
  · exact w_c32
  · exact w_c33
  · exact w_c34
  · exact w_c35
  · exact w_c36
  · exact w_c37
  · exact w_c38
  · exact w_c39
  · exact w_c40
  · exact w_c41
  · exact w_c42
  · exact w_c43
  · exact w_c44
  · exact w_c45
  · exact w_c46
  · exact w_c47
  · exact w_c48
  · exact w_c49
  · exact w_c50
  · exact w_c51
set_option maxRecDepth 65536 in
theorem w_t1 : (words1.take 24).all (fun c => isCode c || c.before args0 about1) = true := by decide +kernel
set_option maxRecDepth 65536 in
theorem w_t2 : ((words1.drop 24).take 24).all (fun c => isCode c || c.before args0 about1) = true := by decide +kernel
set_option maxRecDepth 65536 in
theorem w_t3 : (((words1.drop 24).drop 24).take 24).all (fun c => isCode c || c.before args0 about1) = true := by decide +kernel
set_option maxRecDepth 65536 in
theorem w_t4 : ((((words1.drop 24).drop 24).drop 24).take 24).all (fun c => isCode c || c.before args0 about1) = true := by decide +kernel
set_option maxRecDepth 65536 in
theorem w_t5 : (((((words1.drop 24).drop 24).drop 24).drop 24).take 24).all (fun c => isCode c || c.before args0 about1) = true := by decide +kernel
set_option maxRecDepth 65536 in
theorem w_t6 : ((((((words1.drop 24).drop 24).drop 24).drop 24).drop 24).take 24).all (fun c => isCode c || c.before args0 about1) = true := by decide +kernel
set_option maxRecDepth 65536 in
theorem w_t7 : (((((((words1.drop 24).drop 24).drop 24).drop 24).drop 24).drop 24).take 24).all (fun c => isCode c || c.before args0 about1) = true := by decide +kernel
set_option maxRecDepth 65536 in
theorem w_t8 : ((((((((words1.drop 24).drop 24).drop 24).drop 24).drop 24).drop 24).drop 24).take 24).all (fun c => isCode c || c.before args0 about1) = true := by decide +kernel
set_option maxRecDepth 65536 in
theorem w_t9 : (((((((((words1.drop 24).drop 24).drop 24).drop 24).drop 24).drop 24).drop 24).drop 24).take 24).all (fun c => isCode c || c.before args0 about1) = true := by decide +kernel
set_option maxRecDepth 65536 in
theorem w_t10 : ((((((((((words1.drop 24).drop 24).drop 24).drop 24).drop 24).drop 24).drop 24).drop 24).drop 24).take 24).all (fun c => isCode c || c.before args0 about1) = true := by decide +kernel
set_option maxRecDepth 65536 in
theorem w_t11 : (((((((((((words1.drop 24).drop 24).drop 24).drop 24).drop 24).drop 24).drop 24).drop 24).drop 24).drop 24).take 24).all (fun c => isCode c || c.before args0 about1) = true := by decide +kernel
set_option maxRecDepth 65536 in
theorem w_t12 : ((((((((((((words1.drop 24).drop 24).drop 24).drop 24).drop 24).drop 24).drop 24).drop 24).drop 24).drop 24).drop 24).take 24).all (fun c => isCode c || c.before args0 about1) = true := by decide +kernel
set_option maxRecDepth 65536 in
theorem w_t13 : (((((((((((((words1.drop 24).drop 24).drop 24).drop 24).drop 24).drop 24).drop 24).drop 24).drop 24).drop 24).drop 24).drop 24).take 24).all (fun c => isCode c || c.before args0 about1) = true := by decide +kernel
set_option maxRecDepth 65536 in
theorem w_t14 : (((((((((((((words1.drop 24).drop 24).drop 24).drop 24).drop 24).drop 24).drop 24).drop 24).drop 24).drop 24).drop 24).drop 24).drop 24).all (fun c => isCode c || c.before args0 about1) = true := by decide +kernel
theorem w_tables : (allAtoms (Jvm.Cond.code x code maxLocals ret :: tables_1)).before args0 about1 = true := by
  rw [allAtoms_all]
  show words1.all (fun c => c.before args0 about1) = true
  refine all_split ?_ w_codes
  rw [← List.take_append_drop 24 words1, List.all_append, w_t1, ← List.take_append_drop 24 (words1.drop 24), List.all_append, w_t2, ← List.take_append_drop 24 ((words1.drop 24).drop 24), List.all_append, w_t3, ← List.take_append_drop 24 (((words1.drop 24).drop 24).drop 24), List.all_append, w_t4, ← List.take_append_drop 24 ((((words1.drop 24).drop 24).drop 24).drop 24), List.all_append, w_t5, ← List.take_append_drop 24 (((((words1.drop 24).drop 24).drop 24).drop 24).drop 24), List.all_append, w_t6, ← List.take_append_drop 24 ((((((words1.drop 24).drop 24).drop 24).drop 24).drop 24).drop 24), List.all_append, w_t7, ← List.take_append_drop 24 (((((((words1.drop 24).drop 24).drop 24).drop 24).drop 24).drop 24).drop 24), List.all_append, w_t8, ← List.take_append_drop 24 ((((((((words1.drop 24).drop 24).drop 24).drop 24).drop 24).drop 24).drop 24).drop 24), List.all_append, w_t9, ← List.take_append_drop 24 (((((((((words1.drop 24).drop 24).drop 24).drop 24).drop 24).drop 24).drop 24).drop 24).drop 24), List.all_append, w_t10, ← List.take_append_drop 24 ((((((((((words1.drop 24).drop 24).drop 24).drop 24).drop 24).drop 24).drop 24).drop 24).drop 24).drop 24), List.all_append, w_t11, ← List.take_append_drop 24 (((((((((((words1.drop 24).drop 24).drop 24).drop 24).drop 24).drop 24).drop 24).drop 24).drop 24).drop 24).drop 24), List.all_append, w_t12, ← List.take_append_drop 24 ((((((((((((words1.drop 24).drop 24).drop 24).drop 24).drop 24).drop 24).drop 24).drop 24).drop 24).drop 24).drop 24).drop 24), List.all_append, w_t13, w_t14]
  rfl
set_option maxRecDepth 65536 in
theorem w_rest : rest_1_c.before args0 about1 = true := by decide +kernel
set_option maxRecDepth 65536 in
theorem w_case : (Jvm.Cond.and given_1 narrow_1).before args0 about1 = true := by decide +kernel
theorem w_applies : (headSpec (Jvm.Cond.code x code maxLocals ret :: tables_1) room_1).applies x e0.platform about1 = true :=
  (Spec.applies_iff w_frames).mpr ⟨w_running, w_runnable, w_alone, w_named, w_hears, w_ripe, w_room, w_tables⟩
theorem atStart : AtStart classFile x code maxLocals ret World_1 tables_1 room_1 Calls_1 rest_1 Pre_1 launch0 p0 e0 about1 theMethod args0 below0 :=
  ⟨lists_1, trivial, launch0.admits_env _ _ _, launch0.least_env, fairChoices_fair.cas, fairChoices_fair.clock, w_frames, w_args, w_heap, w_applies, ⟨⟨39, k39, 4, by decide +kernel, rfl, rfl, _, rfl, rfl⟩, trivial⟩, w_rest, w_case⟩
end start1
theorem witness_1 : WitnessClaimed_1 := ⟨start1.p0, start1.e0, start1.about1, start1.theMethod, start1.args0, start1.below0, start1.atStart⟩
end Jvm.Pilot.@@N@@

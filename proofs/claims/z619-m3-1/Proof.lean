import JvmDerived
import JvmDerived.Pilot.@@N@@Statement
import JvmDerived.Pilot.@@N@@Code
set_option linter.unusedVariables false
set_option linter.unusedSimpArgs false
namespace Jvm.RoadKit
open Sem ClassFile Op Lib Jvm.Stand Jvm.Free Jvm.LawKit
section New
variable {p : Program} {l : Launch} {e : Env} {R : Room} {s : State} {m : MethodId} {args : Array Value} {below : List Frame} {meth : Method} {c : Code} {T : State} {locs : List Loc} {cells slots : Nat}
theorem retI (X : Stand p l e R s m args below meth c T locs cells slots) (hx : p.tables.exec = Jvm.exec) {pc : Nat} {Ls : Array Slot} {z : Int32} {rest : List Value} (hret : meth.sig.returnType = some .int) (hd : decode c.code pc = .ok (.ireturn, 1)) {fs : List Frame}
    (hl : ∀ (f : JFrame) (acts : List Action), f.method = m → f.locked = none → f.entered = [] → (doReturn e (T.setTop f) acts (some (.int z))).1 = T.setFrames fs) : Steps p.tables e below (T.setTop (mkF m pc Ls (.int z :: rest))) (T.setFrames fs) := by
  have hm' : T.vm.method? m = some meth := X.method'
  have hn : narrow .int (.int z) = .int z := rfl
  show Steps p.tables e below (T.setTop { method := m, pc := pc, locals := Ls, stack := _ :: rest, locked := none }) _
  jvm_step X.here [X.here.top, hx, hd, hm', hret, hn]
  first | (intro acts; rw [hl _ acts rfl rfl rfl]) | rw [hl _ _ rfl rfl rfl]
  exact Steps.refl _
end New
end Jvm.RoadKit
namespace Jvm.Pilot.@@N@@
open Jvm Jvm.ClassFile Sem Op Lib Jvm.Free Jvm.Stand Jvm.LawKit Jvm.RoadKit Bundle Jvm.Pilot.@@N@@.Jvm.D
theorem own_sta_keep {Z : State} {h h' : Heap} {C n d : String} {v : Value} (F : Sta Z h C n d v) (K : Keep h h' []) : Sta Z h' C n d v := by
  obtain ⟨cf, i, k, f, st, cell, h1, h2, h3, h4, h5, r⟩ := F
  exact ⟨cf, i, k, f, st, cell, h1, h2, h3, h4, K.2.1 _ _ h5 nin0, r⟩
/-- whoever comes from B to t comes from A to t -/
abbrev own_R (p : Program) (e : Env) (below : List Frame) (A B : State) : Prop := ∀ t, Steps p.tables e below B t → Steps p.tables e below A t
theorem own_c {p : Program} {e : Env} {below : List Frame} {A B D : State} (K : own_R p e below A B) (h : ∀ t, Steps p.tables e below D t → Steps p.tables e below B t) : own_R p e below A D := fun t k => K t (h t k)
theorem own_ct {p : Program} {e : Env} {below : List Frame} {A B D : State} (K : own_R p e below A B) (h : Steps p.tables e below B D) : own_R p e below A D := fun t k => K t (h.trans k)
abbrev vI (x : Int32) : Slot := .val (.int x)
abbrev vJ (x : Int64) : Slot := .val (.long x)
abbrev vR (x : Addr) : Slot := .val (.ref x)
theorem own_w {Z : State} {a0 : Array Value} (hw : ∀ d ∈ tables_1, d.before a0 Z = true) (i : Nat) {d : Jvm.Cond} (h : tables_1[i]? = some d) : d.before a0 Z = true := hw _ (List.mem_of_getElem? h)

section OwnWords
variable {args : Array Value} {s : State} {t : Term}
theorem own_eqi {k : Int32} (h : (Jvm.Cond.eq t (.int k)).value args s none s [] = some true) : t.eval args s none [] s = some (.int k) := by
  simp only [Cond.value, Term.eval] at h
  cases ht : t.eval args s none [] s with
  | none => simp [ht] at h
  | some x => cases x <;> simp [ht] at h ⊢ <;> exact h
theorem own_eql {k : Int64} (h : (Jvm.Cond.eq t (.long k)).value args s none s [] = some true) : t.eval args s none [] s = some (.long k) := by
  simp only [Cond.value, Term.eval] at h
  cases ht : t.eval args s none [] s with
  | none => simp [ht] at h
  | some x => cases x <;> simp [ht] at h ⊢ <;> exact h
theorem own_eqr {u : Term} {x : Addr} (h : (Jvm.Cond.eq t u).value args s none s [] = some true) (hu : u.eval args s none [] s = some (.ref x)) : t.eval args s none [] s = some (.ref x) := by
  simp only [Cond.value, hu] at h
  cases ht : t.eval args s none [] s with
  | none => simp [ht] at h
  | some y => cases y <;> simp [ht] at h ⊢ <;> exact h
theorem own_len {x : Addr} {cl : Cell} {ty : FieldType} {k : Int32} (h : (Jvm.Cond.eq (.length t) (.int k)).value args s none s [] = some true) (ev : t.eval args s none [] s = some (.ref x)) (A : Arr s s.heap x cl ty) : cl.slots.size < 2 ^ 31 ∧ cl.slots.size.toInt32 = k := by
  have h1 := own_eqi h
  have h2 := A.fin (Vm.Alike.refl _)
  simp only [Term.eval, ev, Option.bind_eq_bind, Option.bind_some, h2] at h1
  split at h1
  · rename_i q; exact ⟨q, by simpa using h1⟩
  · cases h1
theorem own_elem {x : Addr} {cl : Cell} {ty : FieldType} {j : Int32} {v : Value} (h : (Term.elem t (.int j)).eval args s none [] s = some v) (ev : t.eval args s none [] s = some (.ref x)) (A : Arr s s.heap x cl ty) : cl.slots[j.toNatClampNeg]? = some v :=
  (elem_in h ev (Term.int_eval j) A.1).2
end OwnWords
section OwnRef
variable {p : Program} {l : Launch} {e : Env} {R : Room} {s : State} {m : MethodId} {args : Array Value} {below : List Frame} {meth : Method} {c : Code} {T : State} {locs : List Loc} {cells slots : Nat} {Z : State} {h : Heap} {a0 : Array Value}
/-- an entry that a word calls resolved is ready wherever the walk stands -/
theorem own_fready (X : Stand p l e R s m args below meth c T locs cells slots) (hZ : Z.Warmed39 s.vm) {own O n d : String} {index : Nat} (hown : s.vm.findClass own = some m.cls) (w : (Jvm.Cond.fieldRef own index O n d).before a0 Z = true) {cf : ClassId} {k : Class} {i : Nat} {f : Field} (h2 : Z.fieldFound? O n d = some (cf, k, i, f)) : T.vm.fieldReady m.cls index cf f := by
  have hT := wtrans hZ X.warmed
  have w1 := Cond.fieldRef_warmed39 hT w
  have ho : (Z.setVm T.vm).vm.findClass own = some m.cls := by
    show T.vm.findClass own = _
    rw [X.warmed.alike.findClass]; exact hown
  obtain ⟨c1, k1, i1, f1, q1, q2⟩ := Cond.fieldRef_spec ho w1
  obtain ⟨k2, hi, -⟩ := State.fieldFound?_setVm (s := Z) hT.alike h2
  cases hi.symm.trans q1
  exact q2
theorem own_getFR (X : Stand p l e R s m args below meth c T locs cells slots) (hx : p.tables.exec = Jvm.exec) (hZ : Z.Warmed39 s.vm) {own O n d : String} {index : Nat} (hown : s.vm.findClass own = some m.cls) (w : (Jvm.Cond.fieldRef own index O n d).before a0 Z = true) (eT : T.heap = h) {a : Addr} {v : Value} (F : Fld Z h a O n d v)
    {g : JFrame} (hg : g.method = m) {rest : List Value} (hs : g.stack = .ref a :: rest) (hd : decode c.code g.pc = .ok (.getfield index, 3)) : ∃ T', Stand p l e R s m args below meth c T' locs cells slots ∧ T'.heap = h ∧ ∀ target, Steps p.tables e below (T'.setTop { g with pc := g.pc + 3, stack := v :: rest }) target → Steps p.tables e below (T.setTop g) target := by
  obtain ⟨cell, cf, k, i, f, h1, h2, h3, h4, -, -, h7⟩ := F
  exact ⟨T, X, eT, fun t q => (X.getfieldR hx hg (own_fready X hZ hown w h2) h3 hs (by rw [eT]; exact h1) h4 h7 hd (Steps.refl _)).trans q⟩
theorem own_putFR (X : Stand p l e R s m args below meth c T locs cells slots) (hx : p.tables.exec = Jvm.exec) (hZ : Z.Warmed39 s.vm) {own O n d C : String} {index kk : Nat} {ty : FieldType} (hown : s.vm.findClass own = some m.cls) (w : (Jvm.Cond.fieldRef own index O n d).before a0 Z = true) (eT : T.heap = h) {a : Addr} {v old : Value} (F : Fld Z h a O n d old) (E : Exa Z h a C)
    (L : (Jvm.Cond.lays C O n d).before a0 Z = true) (wi : (Jvm.Cond.instantiable C kk).before a0 Z = true) (hty : parseFieldDescriptor d = some ty) (hn : narrow ty v = v) (hf : fits ty v = true) {g : JFrame} (hg : g.method = m) {rest : List Value} (hs : g.stack = v :: .ref a :: rest) (hd : decode c.code g.pc = .ok (.putfield index, 3)) :
    ∃ T' h', Stand p l e R s m args below meth c T' (locs ++ [⟨a, Jvm.RoadKit.slotOf Z O n d⟩]) cells slots ∧ T'.heap = h' ∧ Wr h h' a (Jvm.RoadKit.slotOf Z O n d) v ∧ ∀ target, Steps p.tables e below (T'.setTop { g with pc := g.pc + 3, stack := rest }) target → Steps p.tables e below (T.setTop g) target := by
  obtain ⟨cell, cf, k, i, f, h1, h2, h3, h4, h5, -, h7⟩ := F
  have hr := own_fready X hZ hown w h2
  have es : Jvm.RoadKit.slotOf Z O n d = f.slot := by simp [Jvm.RoadKit.slotOf, h2]
  have ht := (State.fieldFound?_type h2 hty).2
  have hT := wtrans hZ X.warmed
  have hfit : T.fitsSlot cell.cls cell.vm f.slot v = true := by
    obtain ⟨cell', kc, e1, e2, -, -⟩ := E
    cases h1.symm.trans e1
    obtain ⟨c1, k1, cf1, kf1, i1, f1, a1, a2, a3, -, -, a6, -⟩ := Laid.spec (a0 := a0) (Or.inl L : Laid Z a0 C O n d)
    cases h2.symm.trans a3
    cases e2.symm.trans a1
    obtain ⟨c2, k2, b1, b2, b3, -⟩ := Cond.instantiable_spec wi
    cases e2.symm.trans b1
    cases a2.symm.trans b2
    have q : Z.slotType? cell.cls cell.vm f.slot = some ty := by
      simp only [State.slotType?, a2, Option.bind_eq_bind, Option.bind_some, b3]
      cases hq : cell.vm <;> first | (rw [hq] at h5; exact Bool.noConfusion h5) | (rw [a6, ht])
    have q2 : Z.fitsSlot cell.cls cell.vm f.slot v = true := by simp [State.fitsSlot, q, hf]
    rw [← State.fitsSlot_setVm hT.alike] at q2; exact q2
  have hfin : hasFlag f.accessFlags Acc.final = false := by
    obtain ⟨_, _, _, _, _, _, -, -, b3, -, b5, -⟩ := Cond.lays_spec L
    cases h2.symm.trans b3
    exact b5
  obtain ⟨X', st⟩ := X.putfieldReady hx hr h3 (Or.inl hfin) (by rw [eT]; exact h1) h4 (Array.getElem?_eq_some_iff.mp h7).1 (by rw [ht]; exact hn) hfit hg hs hd
  rw [es]
  exact ⟨_, _, X', rfl, ⟨cell, h1, h5, (Array.getElem?_eq_some_iff.mp h7).1, by rw [← eT]; rfl⟩, st⟩
theorem own_specialBackR (X : Stand p l e R s m args below meth c T locs cells slots) (hx : p.tables.exec = Jvm.exec) (hZ : Z.Warmed39 s.vm) {own : String} {index : Nat} {y : MethodName} (hy1 : y.name = "<init>")
    (hown : s.vm.findClass own = some m.cls) (w : (Jvm.Cond.methodRef own index y).before a0 Z = true) (hinst : (Jvm.Cond.instanceMethod y).before args s = true)
    {bytes : ByteArray} {maxL : Nat} (hcode : (Jvm.Cond.code y bytes maxL none).before args s = true)
    (hy : y.cls ≠ "java/lang/invoke/MethodHandle" ∧ y.cls ≠ "java/lang/invoke/VarHandle")
    {W : Nat} {Pre : Pt → Array Value → Prop} {Post : Pt → Array Value → Option Value → Pt → Prop} (hK : Back l R p e below s args y 3 W Pre Post)
    {g : JFrame} (hg : g.method = m) (hsize : g.locals.size = c.maxLocals) {s₀ : State} (hcome : Steps p.tables e below s₀ (T.setTop g)) {a : Addr} {argsL rest : List Value}
    (hlen : ∀ sig, parseMethodDescriptor y.desc = some sig → argsL.length = sig.parameters.length) (hstack : g.stack = argsL.reverse ++ .ref a :: rest) (hW : 2 * g.monitorRoom + (rest.map fun v => v.category).sum ≤ W)
    (hdg : decode c.code g.pc = .ok (.invokespecial index, 3)) (hpre : ∀ vm₁, s.WarmedH vm₁ → Pre ⟨T.setVm vm₁, locs, cells, slots⟩ (.ref a :: argsL).toArray) :
    ∃ (v : Option Value) (vm₁ : Vm) (B : Pt), s.WarmedH vm₁ ∧ Stand p l e R s m args below meth c B.U B.locs B.cells B.slots ∧ Post ⟨T.setVm vm₁, locs, cells, slots⟩ (.ref a :: argsL).toArray v B ∧
      Steps p.tables e below s₀ (B.U.setTop { g with pc := g.pc + 3, stack := v.toList ++ rest }) := by
  obtain ⟨mk, mm, hnamed, hm, hst, hab⟩ := Cond.instanceMethod_spec hinst
  obtain ⟨mm', cM, hm', -, -, -, -, -, -, hsig⟩ := Cond.code_spec hnamed hcode
  cases hm.symm.trans hm'
  obtain ⟨hname, hdesc⟩ := name_of_methodNamed hnamed hm
  obtain ⟨kO, hkO, -⟩ := className_of_methodNamed hnamed
  have hT := wtrans hZ X.warmed
  have hnZ : Z.methodNamed? y = some mk := by
    rw [← State.methodNamed?_setVm hZ.alike]; exact hnamed
  have w1 := Cond.methodRef_warmed39 hT hnZ hy w
  have ho : (Z.setVm T.vm).vm.findClass own = some m.cls := by
    show T.vm.findClass own = _
    rw [X.warmed.alike.findClass]; exact hown
  obtain ⟨m1, c1, q1, q2, q3, q4⟩ := Cond.methodRef_named e ho w1
  have hnT : (Z.setVm T.vm).methodNamed? y = some mk := by rw [State.methodNamed?_setVm hT.alike]; exact hnZ
  cases (State.methodFound?_of_named hnT hy).symm.trans q1
  cases q3.symm.trans (findClass_of_methodNamed hnT)
  obtain ⟨kT, hkT, -⟩ := X.warmed.alike.2.2 _ _ hkO
  have hmT : T.vm.method? mk = some mm := by rw [X.warmed.alike.method?]; exact hm
  have hfound : lookupSpecial T.vm mk.cls "<init>" mm.desc = .method mk := by
    rw [X.warmed.alike.lookupSpecial, hdesc, ← hy1]; exact lookupSpecial_of_named hnamed hm hst
  have eT : T.setVm T.vm = T := rfl
  have hpre' := hpre T.vm X.warmed
  rw [eT] at hpre'
  obtain ⟨v, B, X', hpost, hsteps⟩ := hK m meth c ⟨T, locs, cells, slots⟩ { g with stack := rest } (.invokespecial index) mk (Value.ref a :: argsL).toArray X hg hsize hdg hW (X.named hnamed) hpre'
  refine ⟨v, T.vm, B, X.warmed, X', by rw [eT]; exact hpost, (hcome.trans ?_).trans hsteps⟩
  subst hg
  jvm_step X.here [hx, hdg, invokespecial.wp_init (e := e) (s := T) (k := kT) (meth := mm) (m := mk) (a := a) (args := argsL) (rest := rest) (f := g) X.here.top q4 q2 hkT hmT (by rw [hname]; exact hy1) hst hab hfound (hlen _ hsig) hstack]
  first | (intro acts; rw [doInvoke_state]; exact Steps.refl _) | (rw [doInvoke_state]; exact Steps.refl _)
theorem own_sel {y b : MethodName} (ws : (Jvm.Cond.selects y.cls b b).before a0 Z = true) (hb : b.cls = y.cls) (wi : (Jvm.Cond.instanceMethod y).before a0 Z = true) (wp : (Jvm.Cond.privateMethod y).before a0 Z = true) (hy : y.cls ≠ "java/lang/invoke/MethodHandle" ∧ y.cls ≠ "java/lang/invoke/VarHandle") : (Jvm.Cond.selects y.cls y y).before a0 Z = true := by
  obtain ⟨c1, r1, m1, h1, -, h3, -, k1, h5, h6⟩ := Cond.selects_spec ws
  have q := findClass_of_methodNamed h3
  rw [hb] at q
  cases h1.symm.trans q
  exact selects_self_of_private h1 h5 h6 (Cond.privateMethod_at wp) wi hy
end OwnRef
def own_C (Z : State) (h : Heap) (n0 : Nat) (m : Addr) : Prop := ∃ (f : Addr) (sh : Addr) (kf : ClassId) (ksh : ClassId) (sz : Int32) (x : Int64), Exa Z h m "com/example/thin_feed/thinfeed/store/LongFloorMap" ∧ Fld Z h m "com/example/thin_feed/thinfeed/store/LongFloorMap" "firsts" "[J" (.ref f) ∧ Fld Z h m "com/example/thin_feed/thinfeed/store/LongFloorMap" "shelves" "[Lcom/example/thin_feed/thinfeed/store/LongFloorMap$Shelf;" (.ref sh) ∧ Fld Z h m "com/example/thin_feed/thinfeed/store/LongFloorMap" "shelfCount" "I" (.int 0) ∧ Fld Z h m "com/example/thin_feed/thinfeed/store/LongFloorMap" "size" "I" (.int sz) ∧ Arv Z h f kf .long 1 [.long x] (.long (0 : Int64)) ∧ Arv Z h sh ksh (.object "com/example/thin_feed/thinfeed/store/LongFloorMap$Shelf") 1 [.null] .null ∧ Ovr Z ksh "com/example/thin_feed/thinfeed/store/LongFloorMap$Shelf" ∧ n0 ≤ m ∧ n0 ≤ f ∧ n0 ≤ sh ∧ m ≠ f ∧ m ≠ sh ∧ f ≠ sh
def own_F (Z : State) (h : Heap) (n0 : Nat) (m y : Addr) (n : Int32) (vs : List Value) (a b : Int64) : Prop := ∃ (f : Addr) (sh : Addr) (ob : Addr) (ka : Addr) (va : Addr) (kf : ClassId) (ksh : ClassId) (kka : ClassId) (kva : ClassId) (sz : Int32) (z : Int64), Exa Z h m "com/example/thin_feed/thinfeed/store/LongFloorMap" ∧ Fld Z h m "com/example/thin_feed/thinfeed/store/LongFloorMap" "firsts" "[J" (.ref f) ∧ Fld Z h m "com/example/thin_feed/thinfeed/store/LongFloorMap" "shelves" "[Lcom/example/thin_feed/thinfeed/store/LongFloorMap$Shelf;" (.ref sh) ∧ Fld Z h m "com/example/thin_feed/thinfeed/store/LongFloorMap" "shelfCount" "I" (.int 1) ∧ Fld Z h m "com/example/thin_feed/thinfeed/store/LongFloorMap" "size" "I" (.int sz) ∧ Arv Z h f kf .long 1 [.long a] (.long (0 : Int64)) ∧ Arv Z h sh ksh (.object "com/example/thin_feed/thinfeed/store/LongFloorMap$Shelf") 1 [.ref ob] .null ∧ Ovr Z ksh "com/example/thin_feed/thinfeed/store/LongFloorMap$Shelf" ∧ Exa Z h ob "com/example/thin_feed/thinfeed/store/LongFloorMap$Shelf" ∧ Fld Z h ob "com/example/thin_feed/thinfeed/store/LongFloorMap$Shelf" "keys" "[J" (.ref ka) ∧ Fld Z h ob "com/example/thin_feed/thinfeed/store/LongFloorMap$Shelf" "values" "[Ljava/lang/Object;" (.ref va) ∧ Fld Z h ob "com/example/thin_feed/thinfeed/store/LongFloorMap$Shelf" "size" "I" (.int n) ∧ Arv Z h ka kka .long 256 [.long a, .long b, .long z] (.long (0 : Int64)) ∧ Arv Z h va kva (.object "java/lang/Object") 256 vs .null ∧ Ovr Z kva "java/lang/Object" ∧ Exa Z h y "java/lang/Integer" ∧ n0 ≤ m ∧ n0 ≤ f ∧ n0 ≤ sh ∧ n0 ≤ ob ∧ n0 ≤ ka ∧ n0 ≤ va ∧ m ≠ f ∧ m ≠ sh ∧ m ≠ ob ∧ m ≠ ka ∧ m ≠ va ∧ f ≠ sh ∧ f ≠ ob ∧ f ≠ ka ∧ f ≠ va ∧ sh ≠ ob ∧ sh ≠ ka ∧ sh ≠ va ∧ ob ≠ ka ∧ ob ≠ va ∧ ka ≠ va
theorem own_C_keep {Z : State} {h h' : Heap} {n0 : Nat} {m : Addr} (H : own_C Z h n0 m) (K : Keep h h' []) : own_C Z h' n0 m := by
  obtain ⟨f, sh, kf, ksh, sz, x, E0, Ff, Fsh, Fc, Fz, Vf, Vs, Os, g_r0, g_f, g_sh, ne_r0_f, ne_r0_sh, ne_f_sh⟩ := H
  exact ⟨f, sh, kf, ksh, sz, x, E0.keep K, Ff.keep K nin0, Fsh.keep K nin0, Fc.keep K nin0, Fz.keep K nin0, Vf.keep K nin0, Vs.keep K nin0, Os, g_r0, g_f, g_sh, ne_r0_f, ne_r0_sh, ne_f_sh⟩
def own_M (Z : State) (h : Heap) (n0 : Nat) (m y : Addr) (S : Int64 → Prop) : Prop :=
  (own_C Z h n0 m ∧ ∀ x, ¬ S x) ∨ (∃ a b, own_F Z h n0 m y 1 [.ref y, .null, .null] a b ∧ ∀ x, S x ↔ x = a) ∨ (∃ a b, own_F Z h n0 m y 2 [.ref y, .ref y, .null] a b ∧ a < b ∧ ∀ x, S x ↔ (x = a ∨ x = b))
theorem own_view {Z : State} {h : Heap} {n0 : Nat} {m y : Addr} {S : Int64 → Prop} (H : own_M Z h n0 m y S) : ∃ (f sh : Addr) (kf ksh : ClassId) (c : Int32) (vf vs : List Value), Fld Z h m "com/example/thin_feed/thinfeed/store/LongFloorMap" "firsts" "[J" (.ref f) ∧ Fld Z h m "com/example/thin_feed/thinfeed/store/LongFloorMap" "shelves" "[Lcom/example/thin_feed/thinfeed/store/LongFloorMap$Shelf;" (.ref sh) ∧ Fld Z h m "com/example/thin_feed/thinfeed/store/LongFloorMap" "shelfCount" "I" (.int c) ∧ Arv Z h f kf .long 1 vf (.long (0 : Int64)) ∧ Arv Z h sh ksh (.object "com/example/thin_feed/thinfeed/store/LongFloorMap$Shelf") 1 vs .null ∧ ((c = 0 ∧ ∀ x, ¬ S x) ∨ (c = 1 ∧ ∃ x, S x)) := by
  rcases H with ⟨⟨f, sh, kf, ksh, sz, x, E0, Ff, Fsh, Fc, Fz, Vf, Vs, Os, g_r0, g_f, g_sh, ne_r0_f, ne_r0_sh, ne_f_sh⟩, q⟩ | ⟨a, b, ⟨f, sh, ob, ka, va, kf, ksh, kka, kva, sz, z, E0, Ff, Fsh, Fc, Fz, Vf, Vs, Os, Eo, Fk, Fv, Fn, Vk, Vv, Ov, Ey, g_r0, g_f, g_sh, g_ob, g_ka, g_va, ne_r0_f, ne_r0_sh, ne_r0_ob, ne_r0_ka, ne_r0_va, ne_f_sh, ne_f_ob, ne_f_ka, ne_f_va, ne_sh_ob, ne_sh_ka, ne_sh_va, ne_ob_ka, ne_ob_va, ne_ka_va⟩, q⟩ | ⟨a, b, ⟨f, sh, ob, ka, va, kf, ksh, kka, kva, sz, z, E0, Ff, Fsh, Fc, Fz, Vf, Vs, Os, Eo, Fk, Fv, Fn, Vk, Vv, Ov, Ey, g_r0, g_f, g_sh, g_ob, g_ka, g_va, ne_r0_f, ne_r0_sh, ne_r0_ob, ne_r0_ka, ne_r0_va, ne_f_sh, ne_f_ob, ne_f_ka, ne_f_va, ne_sh_ob, ne_sh_ka, ne_sh_va, ne_ob_ka, ne_ob_va, ne_ka_va⟩, -, q⟩
  · exact ⟨f, sh, kf, ksh, _, _, _, Ff, Fsh, Fc, Vf, Vs, Or.inl ⟨rfl, q⟩⟩
  · exact ⟨f, sh, kf, ksh, _, _, _, Ff, Fsh, Fc, Vf, Vs, Or.inr ⟨rfl, a, (q a).mpr rfl⟩⟩
  · exact ⟨f, sh, kf, ksh, _, _, _, Ff, Fsh, Fc, Vf, Vs, Or.inr ⟨rfl, a, (q a).mpr (Or.inl rfl)⟩⟩
def own_max (p0 : Int32) (p1 : Int32) : Int32 := (if p0 < p1 then p1 else p0)
theorem d11_0 : decode jdk_29_method_65_code 0 = .ok (.iload_n 0, 1) := by decide +kernel
theorem d11_1 : decode jdk_29_method_65_code 1 = .ok (.iload_n 1, 1) := by decide +kernel
theorem d11_2 : decode jdk_29_method_65_code 2 = .ok (.if_icmp .lt 7, 3) := by decide +kernel
theorem d11_5 : decode jdk_29_method_65_code 5 = .ok (.iload_n 0, 1) := by decide +kernel
theorem d11_6 : decode jdk_29_method_65_code 6 = .ok (.goto 4, 3) := by decide +kernel
theorem d11_9 : decode jdk_29_method_65_code 9 = .ok (.iload_n 1, 1) := by decide +kernel
theorem d11_10 : decode jdk_29_method_65_code 10 = .ok (.ireturn, 1) := by decide +kernel
theorem ef_11 (m : MethodId) (x0 : Int32) (x1 : Int32) : entryFrame m #[(.int x0), (.int x1)] 2 = mkF m 0 #[.val (.int x0), .val (.int x1)] [] := by first | (simp [entryFrame, mkF, argsToLocals, Value.category]; done) | rfl
def Q11 (Z : State) (p0 : Int32) (p1 : Int32) (h0 : Heap) (n0 : Nat) (v : Option Value) (h : Heap) (L : List Loc) : Prop := v = some (.int (own_max p0 p1)) ∧ Fr n0 L ∧ h = h0
set_option maxRecDepth 65536 in
set_option maxHeartbeats 40000000 in
theorem rm11 (l : Launch) (Z : State) (a0 : Array Value) (hw : ∀ d ∈ tables_1, d.before a0 Z = true) (ws : List Jvm.Cond) (p0 : Int32) (p1 : Int32) (h0 : Heap) (n0 : Nat) (Z0 : n0 ≤ h0.size) :
    MetFree l (⟨"java/lang/Math", "max", "(II)I"⟩ : MethodName) (head1 (Jvm.Cond.code (⟨"java/lang/Math", "max", "(II)I"⟩ : MethodName) jdk_29_method_65_code 2 (some .int) :: ws) ({ frames := 0, cells := 0, slots := 0, locals := 0 } : Room)) (fun a U => a = #[(.int p0), (.int p1)] ∧ Z.Warmed39 U.vm ∧ U.heap = h0) (fun _ _ _ _ _ => True) (fun _ U o U' => ∃ v L, o = .returned v ∧ Q11 Z p0 p1 h0 n0 v U'.heap L ∧ FrameEnd U o U' L ({ frames := 0, cells := 0, slots := 0, locals := 0 } : Room).cells ({ frames := 0, cells := 0, slots := 0, locals := 0 } : Room).slots) := by
  refine MetFree.of_bodySF (Jvm.Free.JP.mathPlain rfl (by decide +kernel)) hisR ?_
  intro p e s m args below meth c s₁ Bd hml0 hP hK
  obtain ⟨rfl, hZ, hh⟩ := hP
  have hx := Bd.exec
  have hby := Bd.bytes
  have hml : c.maxLocals = 2 := hml0
  have hown : s.vm.findClass "java/lang/Math" = some m.cls := findClass_of_methodNamed Bd.named
  have hnm := (name_of_methodNamed Bd.named Bd.method).1
  have hlk : meth.locks = false := by first | exact BodyLoose.notSynchronized Bd | exact Body.notSynchronized Bd
  have X0 : Stand p l e ({ frames := 0, cells := 0, slots := 0, locals := 0 } : Room) s m #[(.int p0), (.int p1)] below meth c s₁ [] 0 0 := Stand.of_body Bd
  have e0 : s₁.heap = h0 := by rw [← hh, Bd.state]; rfl
  have N0 := Fr.nil n0
  have k0 : own_R p e below (s₁.setTop (entryFrame m #[(.int p0), (.int p1)] 2)) (s₁.setTop (mkF m 0 #[vI p0, vI p1] [])) := fun t k => castTop (ef_11 m p0 p1) k
  obtain ⟨A0, hA0⟩ : ∃ z, z = s₁.setTop (entryFrame m #[(.int p0), (.int p1)] 2) := ⟨_, rfl⟩
  rw [← hA0] at k0
  have kz : ∀ t, Steps p.tables e below A0 t → Steps p.tables e below (s₁.setTop (entryFrame m #[(.int p0), (.int p1)] 2)) t := fun t q => hA0 ▸ q
  have ks1 : own_R p e below (A0) (s₁.setTop (mkF m 2 #[vI p0, vI p1] [(.int p1), (.int p0)])) := fun t k => k0 t (by
    refine XS.iloadN X0.here hx rfl (hb hby d11_0) rfl ?_
    refine XS.iloadN X0.here hx rfl (hb hby d11_1) rfl ?_
    exact k)
  by_cases hc2 : p0 < p1
  · skip
    have ks3 : own_R p e below (A0) (s₁.setTop (mkF m 10 #[vI p0, vI p1] [(.int p1)])) := fun t k => ks1 t (by
      refine XS.icmpYes X0.here hx rfl (pc0 := 2) (pc' := 9) rfl (hb hby d11_2) rfl (tlt hc2).1 (by decide) (by decide) ?_
      refine XS.iloadN X0.here hx rfl (hb hby d11_9) rfl ?_
      exact k)
    obtain ⟨fs, hr, hrun, hended, hW, hsame⟩ := X0.leave (v := some (.int p1)) (fun h => by rw [Bd.returns] at h; cases h) hlk
    refine ⟨_, _, kz _ (ks3 _ ?_), hrun, hended, _, _, rfl, ?_, ⟨_, rfl⟩, hW, hsame.mono (by decide) (by decide)⟩
    · exact retI X0 hx Bd.returns (hb hby d11_10) hr
    · show Q11 Z p0 p1 h0 n0 _ s₁.heap _
      rw [e0]
      refine ⟨?_, N0, rfl⟩
      rw [own_max, if_pos hc2]
  · skip
    have ks4 : own_R p e below (A0) (s₁.setTop (mkF m 10 #[vI p0, vI p1] [(.int p0)])) := fun t k => ks1 t (by
      refine XS.icmpNo X0.here hx rfl (hb hby d11_2) rfl (flt hc2).1 ?_
      refine XS.iloadN X0.here hx rfl (hb hby d11_5) rfl ?_
      refine XS.goto X0.here hx rfl (pc0 := 6) (pc' := 10) rfl (hb hby d11_6) (by decide) (by decide) ?_
      exact k)
    obtain ⟨fs, hr, hrun, hended, hW, hsame⟩ := X0.leave (v := some (.int p0)) (fun h => by rw [Bd.returns] at h; cases h) hlk
    refine ⟨_, _, kz _ (ks4 _ ?_), hrun, hended, _, _, rfl, ?_, ⟨_, rfl⟩, hW, hsame.mono (by decide) (by decide)⟩
    · exact retI X0 hx Bd.returns (hb hby d11_10) hr
    · show Q11 Z p0 p1 h0 n0 _ s₁.heap _
      rw [e0]
      refine ⟨?_, N0, rfl⟩
      rw [own_max, if_neg hc2]
def own_arr (p0 : Int32) (p1 : Int32) : Int64 := ((((16 : Int64) + ((p0.toInt64) * (p1.toInt64))) + (7 : Int64)) &&& (-8 : Int64))
theorem d5_0 : decode prog_24_method_2_code 0 = .ok (.ldc2_w 9, 3) := by decide +kernel
theorem d5_3 : decode prog_24_method_2_code 3 = .ok (.iload_n 0, 1) := by decide +kernel
theorem d5_4 : decode prog_24_method_2_code 4 = .ok (.i2l, 1) := by decide +kernel
theorem d5_5 : decode prog_24_method_2_code 5 = .ok (.iload_n 1, 1) := by decide +kernel
theorem d5_6 : decode prog_24_method_2_code 6 = .ok (.i2l, 1) := by decide +kernel
theorem d5_7 : decode prog_24_method_2_code 7 = .ok (.lmul, 1) := by decide +kernel
theorem d5_8 : decode prog_24_method_2_code 8 = .ok (.ladd, 1) := by decide +kernel
theorem d5_9 : decode prog_24_method_2_code 9 = .ok (.ldc2_w 11, 3) := by decide +kernel
theorem d5_12 : decode prog_24_method_2_code 12 = .ok (.ladd, 1) := by decide +kernel
theorem d5_13 : decode prog_24_method_2_code 13 = .ok (.ldc2_w 13, 3) := by decide +kernel
theorem d5_16 : decode prog_24_method_2_code 16 = .ok (.land, 1) := by decide +kernel
theorem d5_17 : decode prog_24_method_2_code 17 = .ok (.lreturn, 1) := by decide +kernel
theorem pn_5 : plainName "com/example/thin_feed/thinfeed/store/HeapBytes" = true := by first | (simp [plainName, overriddenIn]; done) | decide +kernel
theorem ef_5 (m : MethodId) (x0 : Int32) (x1 : Int32) : entryFrame m #[(.int x0), (.int x1)] 2 = mkF m 0 #[.val (.int x0), .val (.int x1)] [] := by first | (simp [entryFrame, mkF, argsToLocals, Value.category]; done) | rfl
def Q5 (Z : State) (p0 : Int32) (p1 : Int32) (h0 : Heap) (n0 : Nat) (v : Option Value) (h : Heap) (L : List Loc) : Prop := v = some (.long (own_arr p0 p1)) ∧ Fr n0 L ∧ h = h0
set_option maxRecDepth 65536 in
set_option maxHeartbeats 40000000 in
theorem rm5 (l : Launch) (Z : State) (a0 : Array Value) (hw : ∀ d ∈ tables_1, d.before a0 Z = true) (ws : List Jvm.Cond) (p0 : Int32) (p1 : Int32) (h0 : Heap) (n0 : Nat) (Z0 : n0 ≤ h0.size) :
    MetFree l (⟨"com/example/thin_feed/thinfeed/store/HeapBytes", "array", "(II)J"⟩ : MethodName) (head1 (Jvm.Cond.code (⟨"com/example/thin_feed/thinfeed/store/HeapBytes", "array", "(II)J"⟩ : MethodName) prog_24_method_2_code 2 (some .long) :: ws) ({ frames := 0, cells := 0, slots := 0, locals := 0 } : Room)) (fun a U => a = #[(.int p0), (.int p1)] ∧ Z.Warmed39 U.vm ∧ U.heap = h0) (fun _ _ _ _ _ => True) (fun _ U o U' => ∃ v L, o = .returned v ∧ Q5 Z p0 p1 h0 n0 v U'.heap L ∧ FrameEnd U o U' L ({ frames := 0, cells := 0, slots := 0, locals := 0 } : Room).cells ({ frames := 0, cells := 0, slots := 0, locals := 0 } : Room).slots) := by
  refine MetFree.of_bodySF (plainFor_of_name pn_5) hisR ?_
  intro p e s m args below meth c s₁ Bd hml0 hP hK
  obtain ⟨rfl, hZ, hh⟩ := hP
  have hx := Bd.exec
  have hby := Bd.bytes
  have hml : c.maxLocals = 2 := hml0
  have hown : s.vm.findClass "com/example/thin_feed/thinfeed/store/HeapBytes" = some m.cls := findClass_of_methodNamed Bd.named
  have hnm := (name_of_methodNamed Bd.named Bd.method).1
  have hlk : meth.locks = false := by first | exact BodyLoose.notSynchronized Bd | exact Body.notSynchronized Bd
  have X0 : Stand p l e ({ frames := 0, cells := 0, slots := 0, locals := 0 } : Room) s m #[(.int p0), (.int p1)] below meth c s₁ [] 0 0 := Stand.of_body Bd
  have e0 : s₁.heap = h0 := by rw [← hh, Bd.state]; rfl
  have N0 := Fr.nil n0
  have k0 : own_R p e below (s₁.setTop (entryFrame m #[(.int p0), (.int p1)] 2)) (s₁.setTop (mkF m 0 #[vI p0, vI p1] [])) := fun t k => castTop (ef_5 m p0 p1) k
  obtain ⟨A0, hA0⟩ : ∃ z, z = s₁.setTop (entryFrame m #[(.int p0), (.int p1)] 2) := ⟨_, rfl⟩
  rw [← hA0] at k0
  have kz : ∀ t, Steps p.tables e below A0 t → Steps p.tables e below (s₁.setTop (entryFrame m #[(.int p0), (.int p1)] 2)) t := fun t q => hA0 ▸ q
  have ks1 : own_R p e below (A0) (s₁.setTop (mkF m 17 #[vI p0, vI p1] [(.long ((((16 : Int64) + ((p0.toInt64) * (p1.toInt64))) + (7 : Int64)) &&& (-8 : Int64)))])) := fun t k => k0 t (by
    refine X0.ldc2Long hx hown (mvT hZ (own_w hw 32 rfl)) (g := (mkF m 0 #[vI p0, vI p1] [])) rfl (hb hby d5_0) _ ?_
    refine XS.iloadN X0.here hx rfl (hb hby d5_3) rfl ?_
    refine XS.i2l X0.here hx rfl (hb hby d5_4) rfl ?_
    show Steps p.tables e below (s₁.setTop (mkF m 5 #[vI p0, vI p1] [(.long (p0.toInt64)), (.long (16 : Int64))])) _
    refine XS.iloadN X0.here hx rfl (hb hby d5_5) rfl ?_
    refine XS.i2l X0.here hx rfl (hb hby d5_6) rfl ?_
    refine XS.lmul X0.here hx rfl (hb hby d5_7) rfl ?_
    refine XS.ladd X0.here hx rfl (hb hby d5_8) rfl ?_
    refine X0.ldc2Long hx hown (mvT hZ (own_w hw 33 rfl)) (g := (mkF m 9 #[vI p0, vI p1] [(.long ((16 : Int64) + ((p0.toInt64) * (p1.toInt64))))])) rfl (hb hby d5_9) _ ?_
    refine XS.ladd X0.here hx rfl (hb hby d5_12) rfl ?_
    refine X0.ldc2Long hx hown (mvT hZ (own_w hw 34 rfl)) (g := (mkF m 13 #[vI p0, vI p1] [(.long (((16 : Int64) + ((p0.toInt64) * (p1.toInt64))) + (7 : Int64)))])) rfl (hb hby d5_13) _ ?_
    refine XS.land X0.here hx rfl (hb hby d5_16) rfl ?_
    exact k)
  obtain ⟨fs, hr, hrun, hended, hW, hsame⟩ := X0.leave (v := some (.long ((((16 : Int64) + ((p0.toInt64) * (p1.toInt64))) + (7 : Int64)) &&& (-8 : Int64)))) (fun h => by rw [Bd.returns] at h; cases h) hlk
  refine ⟨_, _, kz _ (ks1 _ ?_), hrun, hended, _, _, rfl, ?_, ⟨_, rfl⟩, hW, hsame.mono (by decide) (by decide)⟩
  · exact retOut X0 hx Bd.returns rfl (Or.inr (Or.inl ⟨rfl, rfl, _, rfl⟩)) (hb hby d5_17) hr
  · show Q5 Z p0 p1 h0 n0 _ s₁.heap _
    rw [e0]
    refine ⟨?_, N0, rfl⟩
    rw [own_arr]
def own_exp (p0 : Int32) : Int64 := (if p0 = (0 : Int32) then (48 : Int64) else (3176 : Int64))
theorem d6_0 : decode method_2_code 0 = .ok (.ldc2_w 7, 3) := by decide +kernel
theorem d6_3 : decode method_2_code 3 = .ok (.lstore_n 1, 1) := by decide +kernel
theorem d6_4 : decode method_2_code 4 = .ok (.ldc2_w 9, 3) := by decide +kernel
theorem d6_7 : decode method_2_code 7 = .ok (.lstore_n 3, 1) := by decide +kernel
theorem d6_8 : decode method_2_code 8 = .ok (.iload_n 0, 1) := by decide +kernel
theorem d6_9 : decode method_2_code 9 = .ok (.ifCond .eq 7, 3) := by decide +kernel
theorem d6_12 : decode method_2_code 12 = .ok (.lload_n 1, 1) := by decide +kernel
theorem d6_13 : decode method_2_code 13 = .ok (.lload_n 3, 1) := by decide +kernel
theorem d6_14 : decode method_2_code 14 = .ok (.ladd, 1) := by decide +kernel
theorem d6_15 : decode method_2_code 15 = .ok (.lreturn, 1) := by decide +kernel
theorem d6_16 : decode method_2_code 16 = .ok (.lload_n 1, 1) := by decide +kernel
theorem d6_17 : decode method_2_code 17 = .ok (.lreturn, 1) := by decide +kernel
theorem pn_6 : plainName "com/example/thin_feed/thinfeed/store/LongFloorMapBytesPinLaw" = true := by first | (simp [plainName, overriddenIn]; done) | decide +kernel
theorem ef_6 (m : MethodId) (x0 : Int32) : entryFrame m #[(.int x0)] 5 = mkF m 0 #[.val (.int x0), .unset, .unset, .unset, .unset] [] := by first | (simp [entryFrame, mkF, argsToLocals, Value.category]; done) | rfl
def Q6 (Z : State) (p0 : Int32) (h0 : Heap) (n0 : Nat) (v : Option Value) (h : Heap) (L : List Loc) : Prop := v = some (.long (own_exp p0)) ∧ Fr n0 L ∧ h = h0
set_option maxRecDepth 65536 in
set_option maxHeartbeats 40000000 in
theorem rm6 (l : Launch) (Z : State) (a0 : Array Value) (hw : ∀ d ∈ tables_1, d.before a0 Z = true) (ws : List Jvm.Cond) (p0 : Int32) (h0 : Heap) (n0 : Nat) (Z0 : n0 ≤ h0.size) :
    MetFree l (⟨"com/example/thin_feed/thinfeed/store/LongFloorMapBytesPinLaw", "expected", "(Z)J"⟩ : MethodName) (head1 (Jvm.Cond.code (⟨"com/example/thin_feed/thinfeed/store/LongFloorMapBytesPinLaw", "expected", "(Z)J"⟩ : MethodName) method_2_code 5 (some .long) :: ws) ({ frames := 0, cells := 0, slots := 0, locals := 0 } : Room)) (fun a U => a = #[(.int p0)] ∧ Z.Warmed39 U.vm ∧ U.heap = h0) (fun _ _ _ _ _ => True) (fun _ U o U' => ∃ v L, o = .returned v ∧ Q6 Z p0 h0 n0 v U'.heap L ∧ FrameEnd U o U' L ({ frames := 0, cells := 0, slots := 0, locals := 0 } : Room).cells ({ frames := 0, cells := 0, slots := 0, locals := 0 } : Room).slots) := by
  refine MetFree.of_bodySF (plainFor_of_name pn_6) hisR ?_
  intro p e s m args below meth c s₁ Bd hml0 hP hK
  obtain ⟨rfl, hZ, hh⟩ := hP
  have hx := Bd.exec
  have hby := Bd.bytes
  have hml : c.maxLocals = 5 := hml0
  have hown : s.vm.findClass "com/example/thin_feed/thinfeed/store/LongFloorMapBytesPinLaw" = some m.cls := findClass_of_methodNamed Bd.named
  have hnm := (name_of_methodNamed Bd.named Bd.method).1
  have hlk : meth.locks = false := by first | exact BodyLoose.notSynchronized Bd | exact Body.notSynchronized Bd
  have X0 : Stand p l e ({ frames := 0, cells := 0, slots := 0, locals := 0 } : Room) s m #[(.int p0)] below meth c s₁ [] 0 0 := Stand.of_body Bd
  have e0 : s₁.heap = h0 := by rw [← hh, Bd.state]; rfl
  have N0 := Fr.nil n0
  have k0 : own_R p e below (s₁.setTop (entryFrame m #[(.int p0)] 5)) (s₁.setTop (mkF m 0 #[vI p0, .unset, .unset, .unset, .unset] [])) := fun t k => castTop (ef_6 m p0) k
  obtain ⟨A0, hA0⟩ : ∃ z, z = s₁.setTop (entryFrame m #[(.int p0)] 5) := ⟨_, rfl⟩
  rw [← hA0] at k0
  have kz : ∀ t, Steps p.tables e below A0 t → Steps p.tables e below (s₁.setTop (entryFrame m #[(.int p0)] 5)) t := fun t q => hA0 ▸ q
  have ks1 : own_R p e below (A0) (s₁.setTop (mkF m 9 #[vI p0, vJ (48 : Int64), .second, vJ (3128 : Int64), .second] [(.int p0)])) := fun t k => k0 t (by
    refine X0.ldc2Long hx hown (mvT hZ (own_w hw 42 rfl)) (g := (mkF m 0 #[vI p0, .unset, .unset, .unset, .unset] [])) rfl (hb hby d6_0) _ ?_
    refine XS.lstoreN X0.here hx rfl (hb hby d6_3) rfl (l' := #[vI p0, vJ (48 : Int64), .second, .unset, .unset]) rfl ?_
    refine X0.ldc2Long hx hown (mvT hZ (own_w hw 43 rfl)) (g := (mkF m 4 #[vI p0, vJ (48 : Int64), .second, .unset, .unset] [])) rfl (hb hby d6_4) _ ?_
    show Steps p.tables e below (s₁.setTop (mkF m 7 #[vI p0, vJ (48 : Int64), .second, .unset, .unset] [(.long (3128 : Int64))])) _
    refine XS.lstoreN X0.here hx rfl (hb hby d6_7) rfl (l' := #[vI p0, vJ (48 : Int64), .second, vJ (3128 : Int64), .second]) rfl ?_
    refine XS.iloadN X0.here hx rfl (hb hby d6_8) rfl ?_
    exact k)
  by_cases hc2 : p0 = (0 : Int32)
  · skip
    have ks3 : own_R p e below (A0) (s₁.setTop (mkF m 17 #[vI p0, vJ (48 : Int64), .second, vJ (3128 : Int64), .second] [(.long (48 : Int64))])) := fun t k => ks1 t (by
      refine XS.ifYes X0.here hx rfl (pc0 := 9) (pc' := 16) rfl (hb hby d6_9) rfl ((if0 _ _).trans (teq hc2).1) (by decide) (by decide) ?_
      refine XS.lloadN X0.here hx rfl (hb hby d6_16) rfl ?_
      exact k)
    obtain ⟨fs, hr, hrun, hended, hW, hsame⟩ := X0.leave (v := some (.long (48 : Int64))) (fun h => by rw [Bd.returns] at h; cases h) hlk
    refine ⟨_, _, kz _ (ks3 _ ?_), hrun, hended, _, _, rfl, ?_, ⟨_, rfl⟩, hW, hsame.mono (by decide) (by decide)⟩
    · exact retOut X0 hx Bd.returns rfl (Or.inr (Or.inl ⟨rfl, rfl, _, rfl⟩)) (hb hby d6_17) hr
    · show Q6 Z p0 h0 n0 _ s₁.heap _
      rw [e0]
      refine ⟨?_, N0, rfl⟩
      rw [own_exp, if_pos hc2]
  · skip
    have ks4 : own_R p e below (A0) (s₁.setTop (mkF m 15 #[vI p0, vJ (48 : Int64), .second, vJ (3128 : Int64), .second] [(.long (3176 : Int64))])) := fun t k => ks1 t (by
      refine XS.ifNo X0.here hx rfl (hb hby d6_9) rfl ((if0 _ _).trans (feq hc2).1) ?_
      refine XS.lloadN X0.here hx rfl (hb hby d6_12) rfl ?_
      refine XS.lloadN X0.here hx rfl (hb hby d6_13) rfl ?_
      show Steps p.tables e below (s₁.setTop (mkF m 14 #[vI p0, vJ (48 : Int64), .second, vJ (3128 : Int64), .second] [(.long (3128 : Int64)), (.long (48 : Int64))])) _
      refine XS.ladd X0.here hx rfl (hb hby d6_14) rfl ?_
      exact k)
    obtain ⟨fs, hr, hrun, hended, hW, hsame⟩ := X0.leave (v := some (.long (3176 : Int64))) (fun h => by rw [Bd.returns] at h; cases h) hlk
    refine ⟨_, _, kz _ (ks4 _ ?_), hrun, hended, _, _, rfl, ?_, ⟨_, rfl⟩, hW, hsame.mono (by decide) (by decide)⟩
    · exact retOut X0 hx Bd.returns rfl (Or.inr (Or.inl ⟨rfl, rfl, _, rfl⟩)) (hb hby d6_15) hr
    · show Q6 Z p0 h0 n0 _ s₁.heap _
      rw [e0]
      refine ⟨?_, N0, rfl⟩
      rw [own_exp, if_neg hc2]
theorem d14_0 : decode jdk_18_method_1_code 0 = .ok (.aload_n 0, 1) := by decide +kernel
theorem d14_1 : decode jdk_18_method_1_code 1 = .ok (.invokespecial 1, 3) := by decide +kernel
theorem d14_4 : decode jdk_18_method_1_code 4 = .ok (.return_, 1) := by decide +kernel
theorem pn_14 : plainName "java/lang/Number" = true := by first | (simp [plainName, overriddenIn]; done) | decide +kernel
theorem ef_14 (m : MethodId) (x0 : Addr) : entryFrame m #[(.ref x0)] 1 = mkF m 0 #[.val (.ref x0)] [] := by first | (simp [entryFrame, mkF, argsToLocals, Value.category]; done) | rfl
def Q14 (Z : State) (r0 : Addr) (h0 : Heap) (n0 : Nat) (v : Option Value) (h : Heap) (L : List Loc) : Prop := v = none ∧ Fr n0 L ∧ h = h0
set_option maxRecDepth 65536 in
set_option maxHeartbeats 40000000 in
theorem rm14 (l : Launch) (Z : State) (a0 : Array Value) (hw : ∀ d ∈ tables_1, d.before a0 Z = true) (ws : List Jvm.Cond) (r0 : Addr) (h0 : Heap) (n0 : Nat) (Z0 : n0 ≤ h0.size) :
    MetFree l (⟨"java/lang/Number", "<init>", "()V"⟩ : MethodName) (head1 (Jvm.Cond.code (⟨"java/lang/Number", "<init>", "()V"⟩ : MethodName) jdk_18_method_1_code 1 none :: ws) ({ frames := 1, cells := 0, slots := 0, locals := 12 } : Room)) (fun a U => a = #[(.ref r0)] ∧ Z.Warmed39 U.vm ∧ U.heap = h0) (fun _ _ _ _ _ => True) (fun _ U o U' => ∃ v L, o = .returned v ∧ Q14 Z r0 h0 n0 v U'.heap L ∧ FrameEnd U o U' L ({ frames := 1, cells := 0, slots := 0, locals := 12 } : Room).cells ({ frames := 1, cells := 0, slots := 0, locals := 12 } : Room).slots) := by
  refine MetFree.of_bodySF (plainFor_of_name pn_14) hisR ?_
  intro p e s m args below meth c s₁ Bd hml0 hP hK
  obtain ⟨rfl, hZ, hh⟩ := hP
  have hx := Bd.exec
  have hby := Bd.bytes
  have hml : c.maxLocals = 1 := hml0
  have hown : s.vm.findClass "java/lang/Number" = some m.cls := findClass_of_methodNamed Bd.named
  have hnm := (name_of_methodNamed Bd.named Bd.method).1
  have hlk : meth.locks = false := by first | exact BodyLoose.notSynchronized Bd | exact Body.notSynchronized Bd
  have X0 : Stand p l e ({ frames := 1, cells := 0, slots := 0, locals := 12 } : Room) s m #[(.ref r0)] below meth c s₁ [] 0 0 := Stand.of_body Bd
  have e0 : s₁.heap = h0 := by rw [← hh, Bd.state]; rfl
  have N0 := Fr.nil n0
  have k0 : own_R p e below (s₁.setTop (entryFrame m #[(.ref r0)] 1)) (s₁.setTop (mkF m 0 #[vR r0] [])) := fun t k => castTop (ef_14 m r0) k
  obtain ⟨A0, hA0⟩ : ∃ z, z = s₁.setTop (entryFrame m #[(.ref r0)] 1) := ⟨_, rfl⟩
  rw [← hA0] at k0
  have kz : ∀ t, Steps p.tables e below A0 t → Steps p.tables e below (s₁.setTop (entryFrame m #[(.ref r0)] 1)) t := fun t q => hA0 ▸ q
  have ks1 : own_R p e below (A0) (s₁.setTop (mkF m 1 #[vR r0] [(.ref r0)])) := fun t k => k0 t (by
    refine XS.aloadN X0.here hx rfl (hb hby d14_0) rfl rfl ?_
    exact k)
  obtain ⟨T2, X2, e2, st2⟩ := initO X0 hx hZ hown (own_w hw 101 rfl) (own_w hw 7 rfl) (own_w hw 8 rfl) e0 (g := (mkF m 1 #[vR r0] [(.ref r0)])) rfl (by rw [hml]; rfl) rfl (hb hby d14_1) (by decide) (W := 0) (by show 2 * 0 + _ ≤ _; exact Nat.le_of_eq rfl) (by decide)
  have ks3 := own_c ks1 st2
  obtain ⟨fs, hr, hrun, hended, hW, hsame⟩ := X2.leave (v := none) (fun _ => rfl) hlk
  refine ⟨_, _, kz _ (ks3 _ ?_), hrun, hended, _, _, rfl, ?_, ⟨_, rfl⟩, hW, hsame.mono (by decide) (by decide)⟩
  · exact X2.returnOut hx Bd.returns (hb hby d14_4) hr
  · show Q14 Z r0 h0 n0 _ T2.heap _
    rw [e2]
    exact ⟨rfl, N0, rfl⟩
theorem d13_0 : decode jdk_33_method_23_code 0 = .ok (.aload_n 0, 1) := by decide +kernel
theorem d13_1 : decode jdk_33_method_23_code 1 = .ok (.invokespecial 202, 3) := by decide +kernel
theorem d13_4 : decode jdk_33_method_23_code 4 = .ok (.aload_n 0, 1) := by decide +kernel
theorem d13_5 : decode jdk_33_method_23_code 5 = .ok (.iload_n 1, 1) := by decide +kernel
theorem d13_6 : decode jdk_33_method_23_code 6 = .ok (.putfield 205, 3) := by decide +kernel
theorem d13_9 : decode jdk_33_method_23_code 9 = .ok (.return_, 1) := by decide +kernel
theorem pn_13 : plainName "java/lang/Integer" = true := by first | (simp [plainName, overriddenIn]; done) | decide +kernel
theorem pd_0 : parseMethodDescriptor "()V" = some ⟨[], none⟩ := by decide +kernel
theorem ef_13 (m : MethodId) (x0 : Addr) (x1 : Int32) : entryFrame m #[(.ref x0), (.int x1)] 2 = mkF m 0 #[.val (.ref x0), .val (.int x1)] [] := by first | (simp [entryFrame, mkF, argsToLocals, Value.category]; done) | rfl
def Q13 (Z : State) (r0 : Addr) (p1 : Int32) (h0 : Heap) (n0 : Nat) (v : Option Value) (h : Heap) (L : List Loc) : Prop := v = none ∧ Fr n0 L ∧ Keep h0 h [r0] ∧ Exa Z h r0 "java/lang/Integer"
set_option maxRecDepth 65536 in
set_option maxHeartbeats 40000000 in
theorem rm13 (l : Launch) (Z : State) (a0 : Array Value) (hw : ∀ d ∈ tables_1, d.before a0 Z = true) (ws : List Jvm.Cond) (r0 : Addr) (p1 : Int32) (h0 : Heap) (n0 : Nat) (Z0 : n0 ≤ h0.size) (g_r0 : n0 ≤ r0) (E0 : Exa Z h0 r0 "java/lang/Integer") (F0 : Fld Z h0 r0 "java/lang/Integer" "value" "I" (.int (0 : Int32))) :
    MetFree l (⟨"java/lang/Integer", "<init>", "(I)V"⟩ : MethodName) (head1 (Jvm.Cond.code (⟨"java/lang/Integer", "<init>", "(I)V"⟩ : MethodName) jdk_33_method_23_code 2 none :: ws) ({ frames := 2, cells := 0, slots := 0, locals := 24 } : Room)) (fun a U => a = #[(.ref r0), (.int p1)] ∧ Z.Warmed39 U.vm ∧ U.heap = h0) (fun _ _ _ _ _ => True) (fun _ U o U' => ∃ v L, o = .returned v ∧ Q13 Z r0 p1 h0 n0 v U'.heap L ∧ FrameEnd U o U' L ({ frames := 2, cells := 0, slots := 0, locals := 24 } : Room).cells ({ frames := 2, cells := 0, slots := 0, locals := 24 } : Room).slots) := by
  refine MetFree.of_bodySF (plainFor_of_name pn_13) hisR ?_
  intro p e s m args below meth c s₁ Bd hml0 hP hK
  obtain ⟨rfl, hZ, hh⟩ := hP
  have hx := Bd.exec
  have hby := Bd.bytes
  have hml : c.maxLocals = 2 := hml0
  have hown : s.vm.findClass "java/lang/Integer" = some m.cls := findClass_of_methodNamed Bd.named
  have hnm := (name_of_methodNamed Bd.named Bd.method).1
  have hlk : meth.locks = false := by first | exact BodyLoose.notSynchronized Bd | exact Body.notSynchronized Bd
  have X0 : Stand p l e ({ frames := 2, cells := 0, slots := 0, locals := 24 } : Room) s m #[(.ref r0), (.int p1)] below meth c s₁ [] 0 0 := Stand.of_body Bd
  have e0 : s₁.heap = h0 := by rw [← hh, Bd.state]; rfl
  have N0 := Fr.nil n0
  have k0 : own_R p e below (s₁.setTop (entryFrame m #[(.ref r0), (.int p1)] 2)) (s₁.setTop (mkF m 0 #[vR r0, vI p1] [])) := fun t k => castTop (ef_13 m r0 p1) k
  obtain ⟨A0, hA0⟩ : ∃ z, z = s₁.setTop (entryFrame m #[(.ref r0), (.int p1)] 2) := ⟨_, rfl⟩
  rw [← hA0] at k0
  have kz : ∀ t, Steps p.tables e below A0 t → Steps p.tables e below (s₁.setTop (entryFrame m #[(.ref r0), (.int p1)] 2)) t := fun t q => hA0 ▸ q
  have ks1 : own_R p e below (A0) (s₁.setTop (mkF m 1 #[vR r0, vI p1] [(.ref r0)])) := fun t k => k0 t (by
    refine XS.aloadN X0.here hx rfl (hb hby d13_0) rfl rfl ?_
    exact k)
  obtain ⟨_, _, ⟨T2, L2, k2, n2⟩, -, X2, ⟨Lc2, hQ2, lq2, yq2, zq2⟩, st2⟩ := X0.specialBack hx (y := (⟨"java/lang/Number", "<init>", "()V"⟩ : MethodName)) rfl hown (mvT hZ (own_w hw 95 rfl)) (mvT hZ (own_w hw 96 rfl)) (mvT hZ (own_w hw 100 rfl)) (by decide) (backOf (W := 0) (rm14 l Z a0 hw [] r0 h0 n0 Z0 ) hZ (own_w hw 100 rfl) (own_w hw 99 rfl) (by decide) (by decide)) (g := (mkF m 1 #[vR r0, vI p1] [(.ref r0)])) rfl (by rw [hml]; rfl) (Steps.refl _) (a := r0) (argsL := []) (rest := []) (lenOf pd_0 rfl) rfl (by show 2 * 0 + _ ≤ _; exact Nat.le_of_eq rfl) (hb hby d13_1) (fun _ _ => ⟨rfl, e0, (by decide : 0 + 0 ≤ _), (by decide : 0 + 0 ≤ _)⟩)
  dsimp only [Pt.U, Pt.locs, Pt.cells, Pt.slots] at X2 lq2 yq2 zq2 st2 hQ2
  subst lq2 yq2 zq2
  obtain ⟨rfl, Nq2, eq2⟩ := hQ2
  have N2 := Fr.app N0 Nq2
  have ks3 := own_ct ks1 st2
  have ks4 : own_R p e below (A0) (T2.setTop (mkF m 6 #[vR r0, vI p1] [(.int p1), (.ref r0)])) := fun t k => ks3 t (by
    refine XS.aloadN X2.here hx rfl (hb hby d13_4) rfl rfl ?_
    refine XS.iloadN X2.here hx rfl (hb hby d13_5) rfl ?_
    exact k)
  obtain ⟨T5, h5, X5, e5, W5, st5⟩ := putF X2 hx hZ hown (host := "") (Or.inl (own_w hw 102 rfl)) Via.refl eq2 F0 E0 (Or.inr ⟨(own_w hw 103 rfl), rfl, hnm⟩) (own_w hw 90 rfl) (ty := .int) (by decide) rfl rfl (g := (mkF m 6 #[vR r0, vI p1] [(.int p1), (.ref r0)])) rfl rfl (hb hby d13_6)
  have Fw5 := F0.same W5
  have KH5 : Keep h0 h5 [r0] := (Keep.refl h0 [r0]).wr W5 (Or.inl (List.mem_of_getElem? (i := 0) rfl))
  have Zn5 : n0 ≤ h5.size := Nat.le_trans Z0 (Keep.of_wr W5).1
  have N5 := Fr.snoc X5 N2 g_r0
  have ks6 := own_c ks4 st5
  obtain ⟨fs, hr, hrun, hended, hW, hsame⟩ := X5.leave (v := none) (fun _ => rfl) hlk
  refine ⟨_, _, kz _ (ks6 _ ?_), hrun, hended, _, _, rfl, ?_, ⟨_, rfl⟩, hW, hsame.mono (by decide) (by decide)⟩
  · exact X5.returnOut hx Bd.returns (hb hby d13_9) hr
  · show Q13 Z r0 p1 h0 n0 _ T5.heap _
    rw [e5]
    have f7 := E0.keep KH5
    exact ⟨rfl, N5, KH5, f7⟩
theorem own_arr_keep {Z : State} {h h' : Heap} {a : Addr} {c : Cell} {ty : FieldType} (A : Arr Z h a c ty) (K : Keep h h' []) : Arr Z h' a c ty := ⟨K.2.1 _ _ A.1 nin0, A.2⟩
def own_box (Z : State) (c : Cell) (K : String) : Prop := ∀ j : Int32, ¬ (j < 0 ∨ 256 ≤ j.toNatClampNeg) → ∃ b : Addr, c.slots[j.toNatClampNeg]? = some (.ref b) ∧ Exa Z Z.heap b K
theorem own_box_start {Z : State} {args : Array Value} {t : Term} {D : Jvm.Cond} {a : Addr} {c : Cell} {K : String} (et : ∀ idx, t.eval args Z none idx Z = some (.ref a)) (A : Arr Z Z.heap a c (.object K)) (hs : c.slots.size = 256)
    (h : (Jvm.Cond.all t (.and (.exactly (.elem t (.index 0)) K) D)).value args Z none Z [] = some true) : own_box Z c K := fun j hj => by
  have nn : ¬ j < 0 := fun x => hj (Or.inl x)
  obtain ⟨u1, u2⟩ := and_e (Cond.all_elim (et []) (A.fin (Vm.Alike.refl _)) h j.toNatClampNeg (by rw [hs]; exact Nat.lt_of_not_le fun x => hj (Or.inr x)))
  obtain ⟨box, eb⟩ := exa_v u1
  exact ⟨box, (elem_f (et _) (idx_at nn) (A.fin (Vm.Alike.refl _)) nn).symm.trans eb, exa_at eb u1⟩
theorem d3_0 : decode jdk_33_method_22_code 0 = .ok (.iload_n 0, 1) := by decide +kernel
theorem d3_1 : decode jdk_33_method_22_code 1 = .ok (.bipush (-128), 2) := by decide +kernel
theorem d3_3 : decode jdk_33_method_22_code 3 = .ok (.if_icmp .lt 20, 3) := by decide +kernel
theorem d3_6 : decode jdk_33_method_22_code 6 = .ok (.iload_n 0, 1) := by decide +kernel
theorem d3_7 : decode jdk_33_method_22_code 7 = .ok (.getstatic 191, 3) := by decide +kernel
theorem d3_10 : decode jdk_33_method_22_code 10 = .ok (.if_icmp .gt 13, 3) := by decide +kernel
theorem d3_13 : decode jdk_33_method_22_code 13 = .ok (.getstatic 195, 3) := by decide +kernel
theorem d3_16 : decode jdk_33_method_22_code 16 = .ok (.iload_n 0, 1) := by decide +kernel
theorem d3_17 : decode jdk_33_method_22_code 17 = .ok (.sipush 128, 3) := by decide +kernel
theorem d3_20 : decode jdk_33_method_22_code 20 = .ok (.iadd, 1) := by decide +kernel
theorem d3_21 : decode jdk_33_method_22_code 21 = .ok (.aaload, 1) := by decide +kernel
theorem d3_22 : decode jdk_33_method_22_code 22 = .ok (.areturn, 1) := by decide +kernel
theorem d3_23 : decode jdk_33_method_22_code 23 = .ok (.new 1, 3) := by decide +kernel
theorem d3_26 : decode jdk_33_method_22_code 26 = .ok (.dup, 1) := by decide +kernel
theorem d3_27 : decode jdk_33_method_22_code 27 = .ok (.iload_n 0, 1) := by decide +kernel
theorem d3_28 : decode jdk_33_method_22_code 28 = .ok (.invokespecial 199, 3) := by decide +kernel
theorem d3_31 : decode jdk_33_method_22_code 31 = .ok (.areturn, 1) := by decide +kernel
theorem pn_3 : plainName "java/lang/Integer" = true := by first | (simp [plainName, overriddenIn]; done) | decide +kernel
theorem pd_11 : parseMethodDescriptor "(I)V" = some ⟨[.int], none⟩ := by decide +kernel
theorem ef_3 (m : MethodId) (x0 : Int32) : entryFrame m #[(.int x0)] 1 = mkF m 0 #[.val (.int x0)] [] := by first | (simp [entryFrame, mkF, argsToLocals, Value.category]; done) | rfl
def Q3 (Z : State) (p0 : Int32) (u1 : Addr) (cl1 : Cell) (h0 : Heap) (n0 : Nat) (v : Option Value) (h : Heap) (L : List Loc) : Prop := ∃ b : Addr, v = some (.ref b) ∧ Fr n0 L ∧ Keep h0 h [] ∧ Exa Z h b "java/lang/Integer"
set_option maxRecDepth 65536 in
set_option maxHeartbeats 40000000 in
theorem rm3 (l : Launch) (Z : State) (a0 : Array Value) (hw : ∀ d ∈ tables_1, d.before a0 Z = true) (ws : List Jvm.Cond) (p0 : Int32) (u1 : Addr) (cl1 : Cell) (h0 : Heap) (n0 : Nat) (Z0 : n0 ≤ h0.size) (Oq0 : Old Z n0 h0) (Sq1 : Sta Z h0 "java/lang/Integer$IntegerCache" "cache" "[Ljava/lang/Integer;" (.ref u1)) (Sq2 : Sta Z h0 "java/lang/Integer$IntegerCache" "high" "I" (.int 127)) (Aq1 : Arr Z h0 u1 cl1 (.object "java/lang/Integer")) (hs1 : cl1.slots.size = 256) (Bq1 : own_box Z cl1 "java/lang/Integer") :
    MetFree l (⟨"java/lang/Integer", "valueOf", "(I)Ljava/lang/Integer;"⟩ : MethodName) (head1 (Jvm.Cond.code (⟨"java/lang/Integer", "valueOf", "(I)Ljava/lang/Integer;"⟩ : MethodName) jdk_33_method_22_code 1 (some (.object "java/lang/Integer")) :: ws) ({ frames := 3, cells := 1, slots := 1, locals := 38 } : Room)) (fun a U => a = #[(.int p0)] ∧ Z.Warmed39 U.vm ∧ U.heap = h0) (fun _ _ _ _ _ => True) (fun _ U o U' => ∃ v L, o = .returned v ∧ Q3 Z p0 u1 cl1 h0 n0 v U'.heap L ∧ FrameEnd U o U' L ({ frames := 3, cells := 1, slots := 1, locals := 38 } : Room).cells ({ frames := 3, cells := 1, slots := 1, locals := 38 } : Room).slots) := by
  refine MetFree.of_bodySF (plainFor_of_name pn_3) hisR ?_
  intro p e s m args below meth c s₁ Bd hml0 hP hK
  obtain ⟨rfl, hZ, hh⟩ := hP
  have hx := Bd.exec
  have hby := Bd.bytes
  have hml : c.maxLocals = 1 := hml0
  have hown : s.vm.findClass "java/lang/Integer" = some m.cls := findClass_of_methodNamed Bd.named
  have hnm := (name_of_methodNamed Bd.named Bd.method).1
  have hlk : meth.locks = false := by first | exact BodyLoose.notSynchronized Bd | exact Body.notSynchronized Bd
  have X0 : Stand p l e ({ frames := 3, cells := 1, slots := 1, locals := 38 } : Room) s m #[(.int p0)] below meth c s₁ [] 0 0 := Stand.of_body Bd
  have e0 : s₁.heap = h0 := by rw [← hh, Bd.state]; rfl
  have N0 := Fr.nil n0
  have k0 : own_R p e below (s₁.setTop (entryFrame m #[(.int p0)] 1)) (s₁.setTop (mkF m 0 #[vI p0] [])) := fun t k => castTop (ef_3 m p0) k
  obtain ⟨A0, hA0⟩ : ∃ z, z = s₁.setTop (entryFrame m #[(.int p0)] 1) := ⟨_, rfl⟩
  rw [← hA0] at k0
  have kz : ∀ t, Steps p.tables e below A0 t → Steps p.tables e below (s₁.setTop (entryFrame m #[(.int p0)] 1)) t := fun t q => hA0 ▸ q
  have ks1 : own_R p e below (A0) (s₁.setTop (mkF m 3 #[vI p0] [(.int (-128)), (.int p0)])) := fun t k => k0 t (by
    refine XS.iloadN X0.here hx rfl (hb hby d3_0) rfl ?_
    refine XS.bipush X0.here hx rfl (hb hby d3_1) ?_
    exact k)
  by_cases hc2 : p0 < (-128 : Int32)
  · skip
    have ks3 : own_R p e below (A0) (s₁.setTop (mkF m 23 #[vI p0] [])) := fun t k => ks1 t (by
      refine XS.icmpYes X0.here hx rfl (pc0 := 3) (pc' := 23) rfl (hb hby d3_3) rfl (tlt hc2).1 (by decide) (by decide) ?_
      exact k)
    obtain ⟨T4, h4, X4, e4, E4, A4, D4, -, st4⟩ := newO X0 hx hZ hown (own_w hw 89 rfl) (own_w hw 90 rfl) (own_w hw 18 rfl) e0 (g := (mkF m 23 #[vI p0] [])) rfl (hb hby d3_23) (by decide) (by decide)
    obtain ⟨b4, g4⟩ : ∃ z, z = h0.size := ⟨_, rfl⟩
    rw [← g4] at A4 D4 st4
    have g_b4 : n0 ≤ b4 := Nat.le_trans Z0 (Nat.le_of_eq g4.symm)
    have sz_b4 : h0.size ≤ b4 := Nat.le_trans (Keep.refl h0 []).1 (Nat.le_of_eq g4.symm)
    have KH4 : Keep h0 h4 [] := (Keep.refl h0 []).ext E4
    have Zn4 : n0 ≤ h4.size := Nat.le_trans Z0 E4.1
    have F_value_b4 : Fld Z h4 b4 "java/lang/Integer" "value" "I" (.int 0) := D4 (Or.inr (own_w hw 103 rfl)) (ty := .int) (by decide)
    have ks5 := own_c ks3 st4
    have ks6 : own_R p e below (A0) (T4.setTop (mkF m 28 #[vI p0] [(.int p0), (.ref b4), (.ref b4)])) := fun t k => ks5 t (by
      refine XS.dup X4.here hx rfl (hb hby d3_26) rfl rfl ?_
      refine XS.iloadN X4.here hx rfl (hb hby d3_27) rfl ?_
      exact k)
    obtain ⟨_, _, ⟨T7, L7, k7, n7⟩, -, X7, ⟨Lc7, hQ7, lq7, yq7, zq7⟩, st7⟩ := X4.specialBack hx (y := (⟨"java/lang/Integer", "<init>", "(I)V"⟩ : MethodName)) rfl hown (mvT hZ (own_w hw 91 rfl)) (mvT hZ (own_w hw 92 rfl)) (mvT hZ (own_w hw 94 rfl)) (by decide) (backOf (W := 1) (rm13 l Z a0 hw [] b4 p0 h4 n0 Zn4 g_b4 A4 F_value_b4) hZ (own_w hw 94 rfl) (own_w hw 18 rfl) (by decide) (by decide)) (g := (mkF m 28 #[vI p0] [(.int p0), (.ref b4), (.ref b4)])) rfl (by rw [hml]; rfl) (Steps.refl _) (a := b4) (argsL := [(.int p0)]) (rest := [(.ref b4)]) (lenOf pd_11 rfl) rfl (by show 2 * 0 + _ ≤ _; exact Nat.le_of_eq rfl) (hb hby d3_28) (fun _ _ => ⟨rfl, e4, (by decide : 1 + 0 ≤ _), (by decide : 1 + 0 ≤ _)⟩)
    dsimp only [Pt.U, Pt.locs, Pt.cells, Pt.slots] at X7 lq7 yq7 zq7 st7 hQ7
    subst lq7 yq7 zq7
    obtain ⟨rfl, Nq7, Kq7, Ex7⟩ := hQ7
    have N7 := Fr.app N0 Nq7
    have KH7 : Keep h0 T7.heap [] := KH4.trans Kq7 (allS (Or.inr sz_b4) all0)
    have Zn7 : n0 ≤ T7.heap.size := Nat.le_trans Zn4 Kq7.1
    have ks8 := own_ct ks6 st7
    obtain ⟨fs, hr, hrun, hended, hW, hsame⟩ := X7.leave (v := some (.ref b4)) (fun h => by rw [Bd.returns] at h; cases h) hlk
    refine ⟨_, _, kz _ (ks8 _ ?_), hrun, hended, _, _, rfl, ?_, ⟨_, rfl⟩, hW, hsame.mono (by decide) (by decide)⟩
    · exact retOut X7 hx Bd.returns rfl (Or.inr (Or.inr (Or.inr (Or.inr ⟨rfl, rfl, rfl⟩)))) (hb hby d3_31) hr
    · show Q3 Z p0 u1 cl1 h0 n0 _ T7.heap _
      exact ⟨b4, rfl, N7, KH7, Ex7⟩
  · skip
    have ks9 : own_R p e below (A0) (s₁.setTop (mkF m 7 #[vI p0] [(.int p0)])) := fun t k => ks1 t (by
      refine XS.icmpNo X0.here hx rfl (hb hby d3_3) rfl (flt hc2).1 ?_
      refine XS.iloadN X0.here hx rfl (hb hby d3_6) rfl ?_
      exact k)
    obtain ⟨T10, X10, e10, st10⟩ := getS2 X0 hx hZ hown (host := "") (Or.inl (own_w hw 20 rfl)) Via.refl e0 Sq2 (g := (mkF m 7 #[vI p0] [(.int p0)])) rfl (hb hby d3_7)
    have ks11 := own_c ks9 st10
    by_cases hc12 : (127 : Int32) < p0
    · skip
      have ks13 : own_R p e below (A0) (T10.setTop (mkF m 23 #[vI p0] [])) := fun t k => ks11 t (by
        refine XS.icmpYes X10.here hx rfl (pc0 := 10) (pc' := 23) rfl (hb hby d3_10) rfl (tlt hc12).2.2.1 (by decide) (by decide) ?_
        exact k)
      obtain ⟨T14, h14, X14, e14, E14, A14, D14, -, st14⟩ := newO X10 hx hZ hown (own_w hw 89 rfl) (own_w hw 90 rfl) (own_w hw 18 rfl) e10 (g := (mkF m 23 #[vI p0] [])) rfl (hb hby d3_23) (by decide) (by decide)
      obtain ⟨b14, g14⟩ : ∃ z, z = h0.size := ⟨_, rfl⟩
      rw [← g14] at A14 D14 st14
      have g_b14 : n0 ≤ b14 := Nat.le_trans Z0 (Nat.le_of_eq g14.symm)
      have sz_b14 : h0.size ≤ b14 := Nat.le_trans (Keep.refl h0 []).1 (Nat.le_of_eq g14.symm)
      have KH14 : Keep h0 h14 [] := (Keep.refl h0 []).ext E14
      have Zn14 : n0 ≤ h14.size := Nat.le_trans Z0 E14.1
      have F_value_b14 : Fld Z h14 b14 "java/lang/Integer" "value" "I" (.int 0) := D14 (Or.inr (own_w hw 103 rfl)) (ty := .int) (by decide)
      have ks15 := own_c ks13 st14
      have ks16 : own_R p e below (A0) (T14.setTop (mkF m 28 #[vI p0] [(.int p0), (.ref b14), (.ref b14)])) := fun t k => ks15 t (by
        refine XS.dup X14.here hx rfl (hb hby d3_26) rfl rfl ?_
        refine XS.iloadN X14.here hx rfl (hb hby d3_27) rfl ?_
        exact k)
      obtain ⟨_, _, ⟨T17, L17, k17, n17⟩, -, X17, ⟨Lc17, hQ17, lq17, yq17, zq17⟩, st17⟩ := X14.specialBack hx (y := (⟨"java/lang/Integer", "<init>", "(I)V"⟩ : MethodName)) rfl hown (mvT hZ (own_w hw 91 rfl)) (mvT hZ (own_w hw 92 rfl)) (mvT hZ (own_w hw 94 rfl)) (by decide) (backOf (W := 1) (rm13 l Z a0 hw [] b14 p0 h14 n0 Zn14 g_b14 A14 F_value_b14) hZ (own_w hw 94 rfl) (own_w hw 18 rfl) (by decide) (by decide)) (g := (mkF m 28 #[vI p0] [(.int p0), (.ref b14), (.ref b14)])) rfl (by rw [hml]; rfl) (Steps.refl _) (a := b14) (argsL := [(.int p0)]) (rest := [(.ref b14)]) (lenOf pd_11 rfl) rfl (by show 2 * 0 + _ ≤ _; exact Nat.le_of_eq rfl) (hb hby d3_28) (fun _ _ => ⟨rfl, e14, (by decide : 1 + 0 ≤ _), (by decide : 1 + 0 ≤ _)⟩)
      dsimp only [Pt.U, Pt.locs, Pt.cells, Pt.slots] at X17 lq17 yq17 zq17 st17 hQ17
      subst lq17 yq17 zq17
      obtain ⟨rfl, Nq17, Kq17, Ex17⟩ := hQ17
      have N17 := Fr.app N0 Nq17
      have KH17 : Keep h0 T17.heap [] := KH14.trans Kq17 (allS (Or.inr sz_b14) all0)
      have Zn17 : n0 ≤ T17.heap.size := Nat.le_trans Zn14 Kq17.1
      have ks18 := own_ct ks16 st17
      obtain ⟨fs, hr, hrun, hended, hW, hsame⟩ := X17.leave (v := some (.ref b14)) (fun h => by rw [Bd.returns] at h; cases h) hlk
      refine ⟨_, _, kz _ (ks18 _ ?_), hrun, hended, _, _, rfl, ?_, ⟨_, rfl⟩, hW, hsame.mono (by decide) (by decide)⟩
      · exact retOut X17 hx Bd.returns rfl (Or.inr (Or.inr (Or.inr (Or.inr ⟨rfl, rfl, rfl⟩)))) (hb hby d3_31) hr
      · show Q3 Z p0 u1 cl1 h0 n0 _ T17.heap _
        exact ⟨b14, rfl, N17, KH17, Ex17⟩
    · skip
      have ks19 : own_R p e below (A0) (T10.setTop (mkF m 13 #[vI p0] [])) := fun t k => ks11 t (by
        refine XS.icmpNo X10.here hx rfl (hb hby d3_10) rfl (flt hc12).2.2.1 ?_
        exact k)
      obtain ⟨T20, X20, e20, st20⟩ := getS2 X10 hx hZ hown (host := "") (Or.inl (own_w hw 22 rfl)) Via.refl e10 Sq1 (g := (mkF m 13 #[vI p0] [])) rfl (hb hby d3_13)
      have ks21 := own_c ks19 st20
      have ks22 : own_R p e below (A0) (T20.setTop (mkF m 21 #[vI p0] [(.int (p0 + (128 : Int32))), (.ref u1)])) := fun t k => ks21 t (by
        refine XS.iloadN X20.here hx rfl (hb hby d3_16) rfl ?_
        refine XS.sipush X20.here hx rfl (hb hby d3_17) ?_
        refine XS.iadd X20.here hx rfl (hb hby d3_20) rfl ?_
        exact k)
      have hin23 := (Jvm.Free.IntBox.place_ok p0 hc2 hc12).1
      obtain ⟨b23, hat23, Eb23⟩ := Bq1 _ hin23
      have Ec23 := Eb23.ext Oq0.2
      have hin23' : ¬ (((p0 + (128 : Int32))) < 0 ∨ cl1.slots.size ≤ ((p0 + (128 : Int32))).toNatClampNeg) := by rw [hs1]; exact hin23
      have ks24 : own_R p e below (A0) (T20.setTop (mkF m 22 #[vI p0] [(.ref b23)])) := fun t k => ks22 t (by
        refine X20.aaload hx (j := (p0 + (128 : Int32))) (v := (.ref b23)) (by rw [e20]; exact Aq1.1) (State.isArrayOf_alike hZ.alike Aq1.2.1) rfl Aq1.2.2 hin23' hat23 (g := (mkF m 21 #[vI p0] [(.int (p0 + (128 : Int32))), (.ref u1)])) rfl rfl (hb hby d3_21) _ ?_
        exact k)
      obtain ⟨fs, hr, hrun, hended, hW, hsame⟩ := X20.leave (v := some (.ref b23)) (fun h => by rw [Bd.returns] at h; cases h) hlk
      refine ⟨_, _, kz _ (ks24 _ ?_), hrun, hended, _, _, rfl, ?_, ⟨_, rfl⟩, hW, hsame.mono (by decide) (by decide)⟩
      · exact retOut X20 hx Bd.returns rfl (Or.inr (Or.inr (Or.inr (Or.inr ⟨rfl, rfl, rfl⟩)))) (hb hby d3_22) hr
      · show Q3 Z p0 u1 cl1 h0 n0 _ T20.heap _
        rw [e20]
        exact ⟨b23, rfl, N0, (Keep.refl h0 []), Ec23⟩
theorem d10_0 : decode prog_25_method_11_code 0 = .ok (.iconst 0, 1) := by decide +kernel
theorem d10_1 : decode prog_25_method_11_code 1 = .ok (.istore 4, 2) := by decide +kernel
theorem d10_3 : decode prog_25_method_11_code 3 = .ok (.iload_n 1, 1) := by decide +kernel
theorem d10_4 : decode prog_25_method_11_code 4 = .ok (.iconst 1, 1) := by decide +kernel
theorem d10_5 : decode prog_25_method_11_code 5 = .ok (.isub, 1) := by decide +kernel
theorem d10_6 : decode prog_25_method_11_code 6 = .ok (.istore 5, 2) := by decide +kernel
theorem d10_8 : decode prog_25_method_11_code 8 = .ok (.iload 4, 2) := by decide +kernel
theorem d10_10 : decode prog_25_method_11_code 10 = .ok (.iload 5, 2) := by decide +kernel
theorem d10_12 : decode prog_25_method_11_code 12 = .ok (.if_icmp .gt 39, 3) := by decide +kernel
theorem d10_51 : decode prog_25_method_11_code 51 = .ok (.iload 5, 2) := by decide +kernel
theorem d10_53 : decode prog_25_method_11_code 53 = .ok (.ireturn, 1) := by decide +kernel
theorem pn_10 : plainName "com/example/thin_feed/thinfeed/store/LongFloorMap" = true := by first | (simp [plainName, overriddenIn]; done) | decide +kernel
theorem ef_10_0 (m : MethodId) (x0 : Addr) (x1 : Int32) (x2 : Int64) : entryFrame m #[(.ref x0), (.int x1), (.long x2)] 7 = mkF m 0 #[.val (.ref x0), .val (.int x1), .val (.long x2), .second, .unset, .unset, .unset] [] := by first | (simp [entryFrame, mkF, argsToLocals, Value.category]; done) | rfl
def Q10_0 (Z : State) (r0 : Addr) (q2 : Int64) (h0 : Heap) (n0 : Nat) (v : Option Value) (h : Heap) (L : List Loc) : Prop := v = some (.int (-1)) ∧ Fr n0 L ∧ h = h0
set_option maxRecDepth 65536 in
set_option maxHeartbeats 40000000 in
theorem rm10_0 (l : Launch) (Z : State) (a0 : Array Value) (hw : ∀ d ∈ tables_1, d.before a0 Z = true) (ws : List Jvm.Cond) (r0 : Addr) (q2 : Int64) (h0 : Heap) (n0 : Nat) (Z0 : n0 ≤ h0.size) :
    MetFree l (⟨"com/example/thin_feed/thinfeed/store/LongFloorMap", "floorIndex", "([JIJ)I"⟩ : MethodName) (head1 (Jvm.Cond.code (⟨"com/example/thin_feed/thinfeed/store/LongFloorMap", "floorIndex", "([JIJ)I"⟩ : MethodName) prog_25_method_11_code 7 (some .int) :: ws) ({ frames := 0, cells := 0, slots := 0, locals := 0 } : Room)) (fun a U => a = #[(.ref r0), (.int 0), (.long q2)] ∧ Z.Warmed39 U.vm ∧ U.heap = h0) (fun _ _ _ _ _ => True) (fun _ U o U' => ∃ v L, o = .returned v ∧ Q10_0 Z r0 q2 h0 n0 v U'.heap L ∧ FrameEnd U o U' L ({ frames := 0, cells := 0, slots := 0, locals := 0 } : Room).cells ({ frames := 0, cells := 0, slots := 0, locals := 0 } : Room).slots) := by
  refine MetFree.of_bodySF (plainFor_of_name pn_10) hisR ?_
  intro p e s m args below meth c s₁ Bd hml0 hP hK
  obtain ⟨rfl, hZ, hh⟩ := hP
  have hx := Bd.exec
  have hby := Bd.bytes
  have hml : c.maxLocals = 7 := hml0
  have hown : s.vm.findClass "com/example/thin_feed/thinfeed/store/LongFloorMap" = some m.cls := findClass_of_methodNamed Bd.named
  have hnm := (name_of_methodNamed Bd.named Bd.method).1
  have hlk : meth.locks = false := by first | exact BodyLoose.notSynchronized Bd | exact Body.notSynchronized Bd
  have X0 : Stand p l e ({ frames := 0, cells := 0, slots := 0, locals := 0 } : Room) s m #[(.ref r0), (.int 0), (.long q2)] below meth c s₁ [] 0 0 := Stand.of_body Bd
  have e0 : s₁.heap = h0 := by rw [← hh, Bd.state]; rfl
  have N0 := Fr.nil n0
  have k0 : own_R p e below (s₁.setTop (entryFrame m #[(.ref r0), (.int 0), (.long q2)] 7)) (s₁.setTop (mkF m 0 #[vR r0, vI 0, vJ q2, .second, .unset, .unset, .unset] [])) := fun t k => castTop (ef_10_0 m r0 (0 : Int32) q2) k
  obtain ⟨A0, hA0⟩ : ∃ z, z = s₁.setTop (entryFrame m #[(.ref r0), (.int 0), (.long q2)] 7) := ⟨_, rfl⟩
  rw [← hA0] at k0
  have kz : ∀ t, Steps p.tables e below A0 t → Steps p.tables e below (s₁.setTop (entryFrame m #[(.ref r0), (.int 0), (.long q2)] 7)) t := fun t q => hA0 ▸ q
  have ks1 : own_R p e below (A0) (s₁.setTop (mkF m 53 #[vR r0, vI 0, vJ q2, .second, vI 0, vI (-1), .unset] [(.int (-1))])) := fun t k => k0 t (by
    refine XS.iconst X0.here hx rfl (hb hby d10_0) ?_
    refine XS.istore X0.here hx rfl (hb hby d10_1) rfl (l' := #[vR r0, vI 0, vJ q2, .second, vI 0, .unset, .unset]) rfl ?_
    refine XS.iloadN X0.here hx rfl (hb hby d10_3) rfl ?_
    show Steps p.tables e below (s₁.setTop (mkF m 4 #[vR r0, vI 0, vJ q2, .second, vI 0, .unset, .unset] [(.int 0)])) _
    refine XS.iconst X0.here hx rfl (hb hby d10_4) ?_
    refine XS.isub X0.here hx rfl (hb hby d10_5) rfl ?_
    refine XS.istore X0.here hx rfl (hb hby d10_6) rfl (l' := #[vR r0, vI 0, vJ q2, .second, vI 0, vI (-1), .unset]) rfl ?_
    refine XS.iload X0.here hx rfl (hb hby d10_8) rfl ?_
    show Steps p.tables e below (s₁.setTop (mkF m 10 #[vR r0, vI 0, vJ q2, .second, vI 0, vI (-1), .unset] [(.int 0)])) _
    refine XS.iload X0.here hx rfl (hb hby d10_10) rfl ?_
    refine XS.icmpYes X0.here hx rfl (pc0 := 12) (pc' := 51) rfl (hb hby d10_12) rfl (tlt (by decide)).2.2.1 (by decide) (by decide) ?_
    refine XS.iload X0.here hx rfl (hb hby d10_51) rfl ?_
    exact k)
  obtain ⟨fs, hr, hrun, hended, hW, hsame⟩ := X0.leave (v := some (.int (-1))) (fun h => by rw [Bd.returns] at h; cases h) hlk
  refine ⟨_, _, kz _ (ks1 _ ?_), hrun, hended, _, _, rfl, ?_, ⟨_, rfl⟩, hW, hsame.mono (by decide) (by decide)⟩
  · exact retI X0 hx Bd.returns (hb hby d10_53) hr
  · show Q10_0 Z r0 q2 h0 n0 _ s₁.heap _
    rw [e0]
    exact ⟨rfl, N0, rfl⟩
def own_fi1 (a0 : Int64) (q2 : Int64) : Int32 := (if q2 < a0 then (-1 : Int32) else (0 : Int32))
theorem d10_15 : decode prog_25_method_11_code 15 = .ok (.iload 4, 2) := by decide +kernel
theorem d10_17 : decode prog_25_method_11_code 17 = .ok (.iload 5, 2) := by decide +kernel
theorem d10_19 : decode prog_25_method_11_code 19 = .ok (.iadd, 1) := by decide +kernel
theorem d10_20 : decode prog_25_method_11_code 20 = .ok (.iconst 1, 1) := by decide +kernel
theorem d10_21 : decode prog_25_method_11_code 21 = .ok (.iushr, 1) := by decide +kernel
theorem d10_22 : decode prog_25_method_11_code 22 = .ok (.istore 6, 2) := by decide +kernel
theorem d10_24 : decode prog_25_method_11_code 24 = .ok (.aload_n 0, 1) := by decide +kernel
theorem d10_25 : decode prog_25_method_11_code 25 = .ok (.iload 6, 2) := by decide +kernel
theorem d10_27 : decode prog_25_method_11_code 27 = .ok (.laload, 1) := by decide +kernel
theorem d10_28 : decode prog_25_method_11_code 28 = .ok (.lload_n 2, 1) := by decide +kernel
theorem d10_29 : decode prog_25_method_11_code 29 = .ok (.lcmp, 1) := by decide +kernel
theorem d10_30 : decode prog_25_method_11_code 30 = .ok (.ifCond .gt 12, 3) := by decide +kernel
theorem d10_33 : decode prog_25_method_11_code 33 = .ok (.iload 6, 2) := by decide +kernel
theorem d10_35 : decode prog_25_method_11_code 35 = .ok (.iconst 1, 1) := by decide +kernel
theorem d10_36 : decode prog_25_method_11_code 36 = .ok (.iadd, 1) := by decide +kernel
theorem d10_37 : decode prog_25_method_11_code 37 = .ok (.istore 4, 2) := by decide +kernel
theorem d10_39 : decode prog_25_method_11_code 39 = .ok (.goto 9, 3) := by decide +kernel
theorem d10_42 : decode prog_25_method_11_code 42 = .ok (.iload 6, 2) := by decide +kernel
theorem d10_44 : decode prog_25_method_11_code 44 = .ok (.iconst 1, 1) := by decide +kernel
theorem d10_45 : decode prog_25_method_11_code 45 = .ok (.isub, 1) := by decide +kernel
theorem d10_46 : decode prog_25_method_11_code 46 = .ok (.istore 5, 2) := by decide +kernel
theorem d10_48 : decode prog_25_method_11_code 48 = .ok (.goto (-40), 3) := by decide +kernel
theorem ef_10_1 (m : MethodId) (x0 : Addr) (x1 : Int32) (x2 : Int64) : entryFrame m #[(.ref x0), (.int x1), (.long x2)] 7 = mkF m 0 #[.val (.ref x0), .val (.int x1), .val (.long x2), .second, .unset, .unset, .unset] [] := by first | (simp [entryFrame, mkF, argsToLocals, Value.category]; done) | rfl
def Q10_1 (Z : State) (r0 : Addr) (q2 : Int64) (kr0 : ClassId) (z0 : Int32) (vs0 : List Value) (a0 : Int64) (h0 : Heap) (n0 : Nat) (v : Option Value) (h : Heap) (L : List Loc) : Prop := v = some (.int (own_fi1 a0 q2)) ∧ Fr n0 L ∧ h = h0
set_option maxRecDepth 65536 in
set_option maxHeartbeats 40000000 in
theorem rm10_1 (l : Launch) (Z : State) (a0 : Array Value) (hw : ∀ d ∈ tables_1, d.before a0 Z = true) (ws : List Jvm.Cond) (r0 : Addr) (q2 : Int64) (kr0 : ClassId) (z0 : Int32) (vs0 : List Value) (a0 : Int64) (h0 : Heap) (n0 : Nat) (Z0 : n0 ≤ h0.size) (V0 : Arv Z h0 r0 kr0 .long z0 vs0 (.long (0 : Int64))) (hz0 : ¬ (0 : Int32) < 0 ∧ (0 : Int32) < z0) (hv0 : vs0.getD (0 : Int32).toNatClampNeg (.long (0 : Int64)) = .long a0) :
    MetFree l (⟨"com/example/thin_feed/thinfeed/store/LongFloorMap", "floorIndex", "([JIJ)I"⟩ : MethodName) (head1 (Jvm.Cond.code (⟨"com/example/thin_feed/thinfeed/store/LongFloorMap", "floorIndex", "([JIJ)I"⟩ : MethodName) prog_25_method_11_code 7 (some .int) :: ws) ({ frames := 0, cells := 0, slots := 0, locals := 0 } : Room)) (fun a U => a = #[(.ref r0), (.int 1), (.long q2)] ∧ Z.Warmed39 U.vm ∧ U.heap = h0) (fun _ _ _ _ _ => True) (fun _ U o U' => ∃ v L, o = .returned v ∧ Q10_1 Z r0 q2 kr0 z0 vs0 a0 h0 n0 v U'.heap L ∧ FrameEnd U o U' L ({ frames := 0, cells := 0, slots := 0, locals := 0 } : Room).cells ({ frames := 0, cells := 0, slots := 0, locals := 0 } : Room).slots) := by
  refine MetFree.of_bodySF (plainFor_of_name pn_10) hisR ?_
  intro p e s m args below meth c s₁ Bd hml0 hP hK
  obtain ⟨rfl, hZ, hh⟩ := hP
  have hx := Bd.exec
  have hby := Bd.bytes
  have hml : c.maxLocals = 7 := hml0
  have hown : s.vm.findClass "com/example/thin_feed/thinfeed/store/LongFloorMap" = some m.cls := findClass_of_methodNamed Bd.named
  have hnm := (name_of_methodNamed Bd.named Bd.method).1
  have hlk : meth.locks = false := by first | exact BodyLoose.notSynchronized Bd | exact Body.notSynchronized Bd
  have X0 : Stand p l e ({ frames := 0, cells := 0, slots := 0, locals := 0 } : Room) s m #[(.ref r0), (.int 1), (.long q2)] below meth c s₁ [] 0 0 := Stand.of_body Bd
  have e0 : s₁.heap = h0 := by rw [← hh, Bd.state]; rfl
  have N0 := Fr.nil n0
  have k0 : own_R p e below (s₁.setTop (entryFrame m #[(.ref r0), (.int 1), (.long q2)] 7)) (s₁.setTop (mkF m 0 #[vR r0, vI 1, vJ q2, .second, .unset, .unset, .unset] [])) := fun t k => castTop (ef_10_1 m r0 (1 : Int32) q2) k
  obtain ⟨A0, hA0⟩ : ∃ z, z = s₁.setTop (entryFrame m #[(.ref r0), (.int 1), (.long q2)] 7) := ⟨_, rfl⟩
  rw [← hA0] at k0
  have kz : ∀ t, Steps p.tables e below A0 t → Steps p.tables e below (s₁.setTop (entryFrame m #[(.ref r0), (.int 1), (.long q2)] 7)) t := fun t q => hA0 ▸ q
  have ks1 : own_R p e below (A0) (s₁.setTop (mkF m 27 #[vR r0, vI 1, vJ q2, .second, vI 0, vI 0, vI 0] [(.int 0), (.ref r0)])) := fun t k => k0 t (by
    refine XS.iconst X0.here hx rfl (hb hby d10_0) ?_
    refine XS.istore X0.here hx rfl (hb hby d10_1) rfl (l' := #[vR r0, vI 1, vJ q2, .second, vI 0, .unset, .unset]) rfl ?_
    refine XS.iloadN X0.here hx rfl (hb hby d10_3) rfl ?_
    show Steps p.tables e below (s₁.setTop (mkF m 4 #[vR r0, vI 1, vJ q2, .second, vI 0, .unset, .unset] [(.int 1)])) _
    refine XS.iconst X0.here hx rfl (hb hby d10_4) ?_
    refine XS.isub X0.here hx rfl (hb hby d10_5) rfl ?_
    refine XS.istore X0.here hx rfl (hb hby d10_6) rfl (l' := #[vR r0, vI 1, vJ q2, .second, vI 0, vI 0, .unset]) rfl ?_
    refine XS.iload X0.here hx rfl (hb hby d10_8) rfl ?_
    show Steps p.tables e below (s₁.setTop (mkF m 10 #[vR r0, vI 1, vJ q2, .second, vI 0, vI 0, .unset] [(.int 0)])) _
    refine XS.iload X0.here hx rfl (hb hby d10_10) rfl ?_
    refine XS.icmpNo X0.here hx rfl (hb hby d10_12) rfl (flt (by decide)).2.2.1 ?_
    refine XS.iload X0.here hx rfl (hb hby d10_15) rfl ?_
    refine XS.iload X0.here hx rfl (hb hby d10_17) rfl ?_
    show Steps p.tables e below (s₁.setTop (mkF m 19 #[vR r0, vI 1, vJ q2, .second, vI 0, vI 0, .unset] [(.int 0), (.int 0)])) _
    refine XS.iadd X0.here hx rfl (hb hby d10_19) rfl ?_
    refine XS.iconst X0.here hx rfl (hb hby d10_20) ?_
    refine XS.iushr X0.here hx rfl (hb hby d10_21) rfl ?_
    show Steps p.tables e below (s₁.setTop (mkF m 22 #[vR r0, vI 1, vJ q2, .second, vI 0, vI 0, .unset] [(.int (((0 : Int32).toUInt32 >>> ((1 : Int32) &&& 31).toUInt32).toInt32))])) _
    rw [show (((0 : Int32).toUInt32 >>> ((1 : Int32) &&& 31).toUInt32).toInt32) = (0 : Int32) from by decide]
    refine XS.istore X0.here hx rfl (hb hby d10_22) rfl (l' := #[vR r0, vI 1, vJ q2, .second, vI 0, vI 0, vI 0]) rfl ?_
    show Steps p.tables e below (s₁.setTop (mkF m 24 #[vR r0, vI 1, vJ q2, .second, vI 0, vI 0, vI 0] [])) _
    refine XS.aloadN X0.here hx rfl (hb hby d10_24) rfl rfl ?_
    refine XS.iload X0.here hx rfl (hb hby d10_25) rfl ?_
    exact k)
  obtain ⟨cl2, Ar2, qa2, S2, Na2, Ha2, Ga2⟩ := id V0
  have ks3 : own_R p e below (A0) (s₁.setTop (mkF m 30 #[vR r0, vI 1, vJ q2, .second, vI 0, vI 0, vI 0] [(.int (lcmpW a0 q2))])) := fun t k => ks1 t (by
    refine X0.laload hx (j := (0 : Int32)) (v := (.long a0)) (by rw [e0]; exact Ar2.1) (State.isArrayOf_alike hZ.alike Ar2.2.1) Ar2.2.2 (inb_of S2 hz0) (Has.at Ha2 (inb_of S2 hz0) hv0) (g := (mkF m 27 #[vR r0, vI 1, vJ q2, .second, vI 0, vI 0, vI 0] [(.int 0), (.ref r0)])) rfl rfl (hb hby d10_27) _ ?_
    refine XS.lloadN X0.here hx rfl (hb hby d10_28) rfl ?_
    refine XS.lcmp X0.here hx rfl (hb hby d10_29) rfl ?_
    exact k)
  by_cases hc4 : q2 < a0
  · skip
    have ks5 : own_R p e below (A0) (s₁.setTop (mkF m 53 #[vR r0, vI 1, vJ q2, .second, vI 0, vI (-1), vI 0] [(.int (-1))])) := fun t k => ks3 t (by
      refine XS.ifYes X0.here hx rfl (pc0 := 30) (pc' := 42) rfl (hb hby d10_30) rfl ((if0 _ _).trans (tlt ((lw_gt _ _).mpr hc4)).2.2.1) (by decide) (by decide) ?_
      refine XS.iload X0.here hx rfl (hb hby d10_42) rfl ?_
      refine XS.iconst X0.here hx rfl (hb hby d10_44) ?_
      show Steps p.tables e below (s₁.setTop (mkF m 45 #[vR r0, vI 1, vJ q2, .second, vI 0, vI 0, vI 0] [(.int 1), (.int 0)])) _
      refine XS.isub X0.here hx rfl (hb hby d10_45) rfl ?_
      refine XS.istore X0.here hx rfl (hb hby d10_46) rfl (l' := #[vR r0, vI 1, vJ q2, .second, vI 0, vI (-1), vI 0]) rfl ?_
      refine XS.goto X0.here hx rfl (pc0 := 48) (pc' := 8) rfl (hb hby d10_48) (by decide) (by decide) ?_
      refine XS.iload X0.here hx rfl (hb hby d10_8) rfl ?_
      show Steps p.tables e below (s₁.setTop (mkF m 10 #[vR r0, vI 1, vJ q2, .second, vI 0, vI (-1), vI 0] [(.int 0)])) _
      refine XS.iload X0.here hx rfl (hb hby d10_10) rfl ?_
      refine XS.icmpYes X0.here hx rfl (pc0 := 12) (pc' := 51) rfl (hb hby d10_12) rfl (tlt (by decide)).2.2.1 (by decide) (by decide) ?_
      refine XS.iload X0.here hx rfl (hb hby d10_51) rfl ?_
      exact k)
    obtain ⟨fs, hr, hrun, hended, hW, hsame⟩ := X0.leave (v := some (.int (-1))) (fun h => by rw [Bd.returns] at h; cases h) hlk
    refine ⟨_, _, kz _ (ks5 _ ?_), hrun, hended, _, _, rfl, ?_, ⟨_, rfl⟩, hW, hsame.mono (by decide) (by decide)⟩
    · exact retI X0 hx Bd.returns (hb hby d10_53) hr
    · show Q10_1 Z r0 q2 kr0 z0 vs0 a0 h0 n0 _ s₁.heap _
      rw [e0]
      refine ⟨?_, N0, rfl⟩
      rw [own_fi1, if_pos hc4]
  · skip
    have ks6 : own_R p e below (A0) (s₁.setTop (mkF m 53 #[vR r0, vI 1, vJ q2, .second, vI 1, vI 0, vI 0] [(.int 0)])) := fun t k => ks3 t (by
      refine XS.ifNo X0.here hx rfl (hb hby d10_30) rfl ((if0 _ _).trans (flt (fun q => hc4 ((lw_gt _ _).mp q))).2.2.1) ?_
      refine XS.iload X0.here hx rfl (hb hby d10_33) rfl ?_
      refine XS.iconst X0.here hx rfl (hb hby d10_35) ?_
      show Steps p.tables e below (s₁.setTop (mkF m 36 #[vR r0, vI 1, vJ q2, .second, vI 0, vI 0, vI 0] [(.int 1), (.int 0)])) _
      refine XS.iadd X0.here hx rfl (hb hby d10_36) rfl ?_
      refine XS.istore X0.here hx rfl (hb hby d10_37) rfl (l' := #[vR r0, vI 1, vJ q2, .second, vI 1, vI 0, vI 0]) rfl ?_
      refine XS.goto X0.here hx rfl (pc0 := 39) (pc' := 48) rfl (hb hby d10_39) (by decide) (by decide) ?_
      refine XS.goto X0.here hx rfl (pc0 := 48) (pc' := 8) rfl (hb hby d10_48) (by decide) (by decide) ?_
      show Steps p.tables e below (s₁.setTop (mkF m 8 #[vR r0, vI 1, vJ q2, .second, vI 1, vI 0, vI 0] [])) _
      refine XS.iload X0.here hx rfl (hb hby d10_8) rfl ?_
      refine XS.iload X0.here hx rfl (hb hby d10_10) rfl ?_
      refine XS.icmpYes X0.here hx rfl (pc0 := 12) (pc' := 51) rfl (hb hby d10_12) rfl (tlt (by decide)).2.2.1 (by decide) (by decide) ?_
      refine XS.iload X0.here hx rfl (hb hby d10_51) rfl ?_
      exact k)
    obtain ⟨fs, hr, hrun, hended, hW, hsame⟩ := X0.leave (v := some (.int 0)) (fun h => by rw [Bd.returns] at h; cases h) hlk
    refine ⟨_, _, kz _ (ks6 _ ?_), hrun, hended, _, _, rfl, ?_, ⟨_, rfl⟩, hW, hsame.mono (by decide) (by decide)⟩
    · exact retI X0 hx Bd.returns (hb hby d10_53) hr
    · show Q10_1 Z r0 q2 kr0 z0 vs0 a0 h0 n0 _ s₁.heap _
      rw [e0]
      refine ⟨?_, N0, rfl⟩
      rw [own_fi1, if_neg hc4]
def own_fi2 (a0 : Int64) (a1 : Int64) (q2 : Int64) : Int32 := (if q2 < a0 then (-1 : Int32) else (if q2 < a1 then (0 : Int32) else (1 : Int32)))
theorem ef_10_2 (m : MethodId) (x0 : Addr) (x1 : Int32) (x2 : Int64) : entryFrame m #[(.ref x0), (.int x1), (.long x2)] 7 = mkF m 0 #[.val (.ref x0), .val (.int x1), .val (.long x2), .second, .unset, .unset, .unset] [] := by first | (simp [entryFrame, mkF, argsToLocals, Value.category]; done) | rfl
def Q10_2 (Z : State) (r0 : Addr) (q2 : Int64) (kr0 : ClassId) (z0 : Int32) (vs0 : List Value) (a0 : Int64) (a1 : Int64) (h0 : Heap) (n0 : Nat) (v : Option Value) (h : Heap) (L : List Loc) : Prop := v = some (.int (own_fi2 a0 a1 q2)) ∧ Fr n0 L ∧ h = h0
set_option maxRecDepth 65536 in
set_option maxHeartbeats 40000000 in
theorem rm10_2 (l : Launch) (Z : State) (a0 : Array Value) (hw : ∀ d ∈ tables_1, d.before a0 Z = true) (ws : List Jvm.Cond) (r0 : Addr) (q2 : Int64) (kr0 : ClassId) (z0 : Int32) (vs0 : List Value) (a0 : Int64) (a1 : Int64) (h0 : Heap) (n0 : Nat) (Z0 : n0 ≤ h0.size) (V0 : Arv Z h0 r0 kr0 .long z0 vs0 (.long (0 : Int64))) (hz0 : ¬ (0 : Int32) < 0 ∧ (0 : Int32) < z0) (hv0 : vs0.getD (0 : Int32).toNatClampNeg (.long (0 : Int64)) = .long a0) (hz1 : ¬ (1 : Int32) < 0 ∧ (1 : Int32) < z0) (hv1 : vs0.getD (1 : Int32).toNatClampNeg (.long (0 : Int64)) = .long a1) :
    MetFree l (⟨"com/example/thin_feed/thinfeed/store/LongFloorMap", "floorIndex", "([JIJ)I"⟩ : MethodName) (head1 (Jvm.Cond.code (⟨"com/example/thin_feed/thinfeed/store/LongFloorMap", "floorIndex", "([JIJ)I"⟩ : MethodName) prog_25_method_11_code 7 (some .int) :: ws) ({ frames := 0, cells := 0, slots := 0, locals := 0 } : Room)) (fun a U => a = #[(.ref r0), (.int 2), (.long q2)] ∧ Z.Warmed39 U.vm ∧ U.heap = h0) (fun _ _ _ _ _ => True) (fun _ U o U' => ∃ v L, o = .returned v ∧ Q10_2 Z r0 q2 kr0 z0 vs0 a0 a1 h0 n0 v U'.heap L ∧ FrameEnd U o U' L ({ frames := 0, cells := 0, slots := 0, locals := 0 } : Room).cells ({ frames := 0, cells := 0, slots := 0, locals := 0 } : Room).slots) := by
  refine MetFree.of_bodySF (plainFor_of_name pn_10) hisR ?_
  intro p e s m args below meth c s₁ Bd hml0 hP hK
  obtain ⟨rfl, hZ, hh⟩ := hP
  have hx := Bd.exec
  have hby := Bd.bytes
  have hml : c.maxLocals = 7 := hml0
  have hown : s.vm.findClass "com/example/thin_feed/thinfeed/store/LongFloorMap" = some m.cls := findClass_of_methodNamed Bd.named
  have hnm := (name_of_methodNamed Bd.named Bd.method).1
  have hlk : meth.locks = false := by first | exact BodyLoose.notSynchronized Bd | exact Body.notSynchronized Bd
  have X0 : Stand p l e ({ frames := 0, cells := 0, slots := 0, locals := 0 } : Room) s m #[(.ref r0), (.int 2), (.long q2)] below meth c s₁ [] 0 0 := Stand.of_body Bd
  have e0 : s₁.heap = h0 := by rw [← hh, Bd.state]; rfl
  have N0 := Fr.nil n0
  have k0 : own_R p e below (s₁.setTop (entryFrame m #[(.ref r0), (.int 2), (.long q2)] 7)) (s₁.setTop (mkF m 0 #[vR r0, vI 2, vJ q2, .second, .unset, .unset, .unset] [])) := fun t k => castTop (ef_10_2 m r0 (2 : Int32) q2) k
  obtain ⟨A0, hA0⟩ : ∃ z, z = s₁.setTop (entryFrame m #[(.ref r0), (.int 2), (.long q2)] 7) := ⟨_, rfl⟩
  rw [← hA0] at k0
  have kz : ∀ t, Steps p.tables e below A0 t → Steps p.tables e below (s₁.setTop (entryFrame m #[(.ref r0), (.int 2), (.long q2)] 7)) t := fun t q => hA0 ▸ q
  have ks1 : own_R p e below (A0) (s₁.setTop (mkF m 27 #[vR r0, vI 2, vJ q2, .second, vI 0, vI 1, vI 0] [(.int 0), (.ref r0)])) := fun t k => k0 t (by
    refine XS.iconst X0.here hx rfl (hb hby d10_0) ?_
    refine XS.istore X0.here hx rfl (hb hby d10_1) rfl (l' := #[vR r0, vI 2, vJ q2, .second, vI 0, .unset, .unset]) rfl ?_
    refine XS.iloadN X0.here hx rfl (hb hby d10_3) rfl ?_
    show Steps p.tables e below (s₁.setTop (mkF m 4 #[vR r0, vI 2, vJ q2, .second, vI 0, .unset, .unset] [(.int 2)])) _
    refine XS.iconst X0.here hx rfl (hb hby d10_4) ?_
    refine XS.isub X0.here hx rfl (hb hby d10_5) rfl ?_
    refine XS.istore X0.here hx rfl (hb hby d10_6) rfl (l' := #[vR r0, vI 2, vJ q2, .second, vI 0, vI 1, .unset]) rfl ?_
    refine XS.iload X0.here hx rfl (hb hby d10_8) rfl ?_
    show Steps p.tables e below (s₁.setTop (mkF m 10 #[vR r0, vI 2, vJ q2, .second, vI 0, vI 1, .unset] [(.int 0)])) _
    refine XS.iload X0.here hx rfl (hb hby d10_10) rfl ?_
    refine XS.icmpNo X0.here hx rfl (hb hby d10_12) rfl (flt (by decide)).2.2.1 ?_
    refine XS.iload X0.here hx rfl (hb hby d10_15) rfl ?_
    refine XS.iload X0.here hx rfl (hb hby d10_17) rfl ?_
    show Steps p.tables e below (s₁.setTop (mkF m 19 #[vR r0, vI 2, vJ q2, .second, vI 0, vI 1, .unset] [(.int 1), (.int 0)])) _
    refine XS.iadd X0.here hx rfl (hb hby d10_19) rfl ?_
    refine XS.iconst X0.here hx rfl (hb hby d10_20) ?_
    refine XS.iushr X0.here hx rfl (hb hby d10_21) rfl ?_
    show Steps p.tables e below (s₁.setTop (mkF m 22 #[vR r0, vI 2, vJ q2, .second, vI 0, vI 1, .unset] [(.int (((1 : Int32).toUInt32 >>> ((1 : Int32) &&& 31).toUInt32).toInt32))])) _
    rw [show (((1 : Int32).toUInt32 >>> ((1 : Int32) &&& 31).toUInt32).toInt32) = (0 : Int32) from by decide]
    refine XS.istore X0.here hx rfl (hb hby d10_22) rfl (l' := #[vR r0, vI 2, vJ q2, .second, vI 0, vI 1, vI 0]) rfl ?_
    show Steps p.tables e below (s₁.setTop (mkF m 24 #[vR r0, vI 2, vJ q2, .second, vI 0, vI 1, vI 0] [])) _
    refine XS.aloadN X0.here hx rfl (hb hby d10_24) rfl rfl ?_
    refine XS.iload X0.here hx rfl (hb hby d10_25) rfl ?_
    exact k)
  obtain ⟨cl2, Ar2, qa2, S2, Na2, Ha2, Ga2⟩ := id V0
  have ks3 : own_R p e below (A0) (s₁.setTop (mkF m 30 #[vR r0, vI 2, vJ q2, .second, vI 0, vI 1, vI 0] [(.int (lcmpW a0 q2))])) := fun t k => ks1 t (by
    refine X0.laload hx (j := (0 : Int32)) (v := (.long a0)) (by rw [e0]; exact Ar2.1) (State.isArrayOf_alike hZ.alike Ar2.2.1) Ar2.2.2 (inb_of S2 hz0) (Has.at Ha2 (inb_of S2 hz0) hv0) (g := (mkF m 27 #[vR r0, vI 2, vJ q2, .second, vI 0, vI 1, vI 0] [(.int 0), (.ref r0)])) rfl rfl (hb hby d10_27) _ ?_
    refine XS.lloadN X0.here hx rfl (hb hby d10_28) rfl ?_
    refine XS.lcmp X0.here hx rfl (hb hby d10_29) rfl ?_
    exact k)
  by_cases hc4 : q2 < a0
  · skip
    have ks5 : own_R p e below (A0) (s₁.setTop (mkF m 53 #[vR r0, vI 2, vJ q2, .second, vI 0, vI (-1), vI 0] [(.int (-1))])) := fun t k => ks3 t (by
      refine XS.ifYes X0.here hx rfl (pc0 := 30) (pc' := 42) rfl (hb hby d10_30) rfl ((if0 _ _).trans (tlt ((lw_gt _ _).mpr hc4)).2.2.1) (by decide) (by decide) ?_
      refine XS.iload X0.here hx rfl (hb hby d10_42) rfl ?_
      refine XS.iconst X0.here hx rfl (hb hby d10_44) ?_
      show Steps p.tables e below (s₁.setTop (mkF m 45 #[vR r0, vI 2, vJ q2, .second, vI 0, vI 1, vI 0] [(.int 1), (.int 0)])) _
      refine XS.isub X0.here hx rfl (hb hby d10_45) rfl ?_
      refine XS.istore X0.here hx rfl (hb hby d10_46) rfl (l' := #[vR r0, vI 2, vJ q2, .second, vI 0, vI (-1), vI 0]) rfl ?_
      refine XS.goto X0.here hx rfl (pc0 := 48) (pc' := 8) rfl (hb hby d10_48) (by decide) (by decide) ?_
      refine XS.iload X0.here hx rfl (hb hby d10_8) rfl ?_
      show Steps p.tables e below (s₁.setTop (mkF m 10 #[vR r0, vI 2, vJ q2, .second, vI 0, vI (-1), vI 0] [(.int 0)])) _
      refine XS.iload X0.here hx rfl (hb hby d10_10) rfl ?_
      refine XS.icmpYes X0.here hx rfl (pc0 := 12) (pc' := 51) rfl (hb hby d10_12) rfl (tlt (by decide)).2.2.1 (by decide) (by decide) ?_
      refine XS.iload X0.here hx rfl (hb hby d10_51) rfl ?_
      exact k)
    obtain ⟨fs, hr, hrun, hended, hW, hsame⟩ := X0.leave (v := some (.int (-1))) (fun h => by rw [Bd.returns] at h; cases h) hlk
    refine ⟨_, _, kz _ (ks5 _ ?_), hrun, hended, _, _, rfl, ?_, ⟨_, rfl⟩, hW, hsame.mono (by decide) (by decide)⟩
    · exact retI X0 hx Bd.returns (hb hby d10_53) hr
    · show Q10_2 Z r0 q2 kr0 z0 vs0 a0 a1 h0 n0 _ s₁.heap _
      rw [e0]
      refine ⟨?_, N0, rfl⟩
      rw [own_fi2, if_pos hc4]
  · skip
    have ks6 : own_R p e below (A0) (s₁.setTop (mkF m 30 #[vR r0, vI 2, vJ q2, .second, vI 1, vI 1, vI 1] [(.int (lcmpW a1 q2))])) := fun t k => ks3 t (by
      refine XS.ifNo X0.here hx rfl (hb hby d10_30) rfl ((if0 _ _).trans (flt (fun q => hc4 ((lw_gt _ _).mp q))).2.2.1) ?_
      refine XS.iload X0.here hx rfl (hb hby d10_33) rfl ?_
      refine XS.iconst X0.here hx rfl (hb hby d10_35) ?_
      show Steps p.tables e below (s₁.setTop (mkF m 36 #[vR r0, vI 2, vJ q2, .second, vI 0, vI 1, vI 0] [(.int 1), (.int 0)])) _
      refine XS.iadd X0.here hx rfl (hb hby d10_36) rfl ?_
      refine XS.istore X0.here hx rfl (hb hby d10_37) rfl (l' := #[vR r0, vI 2, vJ q2, .second, vI 1, vI 1, vI 0]) rfl ?_
      refine XS.goto X0.here hx rfl (pc0 := 39) (pc' := 48) rfl (hb hby d10_39) (by decide) (by decide) ?_
      refine XS.goto X0.here hx rfl (pc0 := 48) (pc' := 8) rfl (hb hby d10_48) (by decide) (by decide) ?_
      show Steps p.tables e below (s₁.setTop (mkF m 8 #[vR r0, vI 2, vJ q2, .second, vI 1, vI 1, vI 0] [])) _
      refine XS.iload X0.here hx rfl (hb hby d10_8) rfl ?_
      refine XS.iload X0.here hx rfl (hb hby d10_10) rfl ?_
      refine XS.icmpNo X0.here hx rfl (hb hby d10_12) rfl (flt (by decide)).2.2.1 ?_
      refine XS.iload X0.here hx rfl (hb hby d10_15) rfl ?_
      show Steps p.tables e below (s₁.setTop (mkF m 17 #[vR r0, vI 2, vJ q2, .second, vI 1, vI 1, vI 0] [(.int 1)])) _
      refine XS.iload X0.here hx rfl (hb hby d10_17) rfl ?_
      refine XS.iadd X0.here hx rfl (hb hby d10_19) rfl ?_
      refine XS.iconst X0.here hx rfl (hb hby d10_20) ?_
      refine XS.iushr X0.here hx rfl (hb hby d10_21) rfl ?_
      show Steps p.tables e below (s₁.setTop (mkF m 22 #[vR r0, vI 2, vJ q2, .second, vI 1, vI 1, vI 0] [(.int (((2 : Int32).toUInt32 >>> ((1 : Int32) &&& 31).toUInt32).toInt32))])) _
      rw [show (((2 : Int32).toUInt32 >>> ((1 : Int32) &&& 31).toUInt32).toInt32) = (1 : Int32) from by decide]
      show Steps p.tables e below (s₁.setTop (mkF m 22 #[vR r0, vI 2, vJ q2, .second, vI 1, vI 1, vI 0] [(.int 1)])) _
      refine XS.istore X0.here hx rfl (hb hby d10_22) rfl (l' := #[vR r0, vI 2, vJ q2, .second, vI 1, vI 1, vI 1]) rfl ?_
      refine XS.aloadN X0.here hx rfl (hb hby d10_24) rfl rfl ?_
      refine XS.iload X0.here hx rfl (hb hby d10_25) rfl ?_
      refine X0.laload hx (j := (1 : Int32)) (v := (.long a1)) (by rw [e0]; exact Ar2.1) (State.isArrayOf_alike hZ.alike Ar2.2.1) Ar2.2.2 (inb_of S2 hz1) (Has.at Ha2 (inb_of S2 hz1) hv1) (g := (mkF m 27 #[vR r0, vI 2, vJ q2, .second, vI 1, vI 1, vI 1] [(.int 1), (.ref r0)])) rfl rfl (hb hby d10_27) _ ?_
      show Steps p.tables e below (s₁.setTop (mkF m 28 #[vR r0, vI 2, vJ q2, .second, vI 1, vI 1, vI 1] [(.long a1)])) _
      refine XS.lloadN X0.here hx rfl (hb hby d10_28) rfl ?_
      refine XS.lcmp X0.here hx rfl (hb hby d10_29) rfl ?_
      exact k)
    by_cases hc7 : q2 < a1
    · skip
      have ks8 : own_R p e below (A0) (s₁.setTop (mkF m 53 #[vR r0, vI 2, vJ q2, .second, vI 1, vI 0, vI 1] [(.int 0)])) := fun t k => ks6 t (by
        refine XS.ifYes X0.here hx rfl (pc0 := 30) (pc' := 42) rfl (hb hby d10_30) rfl ((if0 _ _).trans (tlt ((lw_gt _ _).mpr hc7)).2.2.1) (by decide) (by decide) ?_
        refine XS.iload X0.here hx rfl (hb hby d10_42) rfl ?_
        refine XS.iconst X0.here hx rfl (hb hby d10_44) ?_
        show Steps p.tables e below (s₁.setTop (mkF m 45 #[vR r0, vI 2, vJ q2, .second, vI 1, vI 1, vI 1] [(.int 1), (.int 1)])) _
        refine XS.isub X0.here hx rfl (hb hby d10_45) rfl ?_
        refine XS.istore X0.here hx rfl (hb hby d10_46) rfl (l' := #[vR r0, vI 2, vJ q2, .second, vI 1, vI 0, vI 1]) rfl ?_
        refine XS.goto X0.here hx rfl (pc0 := 48) (pc' := 8) rfl (hb hby d10_48) (by decide) (by decide) ?_
        refine XS.iload X0.here hx rfl (hb hby d10_8) rfl ?_
        show Steps p.tables e below (s₁.setTop (mkF m 10 #[vR r0, vI 2, vJ q2, .second, vI 1, vI 0, vI 1] [(.int 1)])) _
        refine XS.iload X0.here hx rfl (hb hby d10_10) rfl ?_
        refine XS.icmpYes X0.here hx rfl (pc0 := 12) (pc' := 51) rfl (hb hby d10_12) rfl (tlt (by decide)).2.2.1 (by decide) (by decide) ?_
        refine XS.iload X0.here hx rfl (hb hby d10_51) rfl ?_
        exact k)
      obtain ⟨fs, hr, hrun, hended, hW, hsame⟩ := X0.leave (v := some (.int 0)) (fun h => by rw [Bd.returns] at h; cases h) hlk
      refine ⟨_, _, kz _ (ks8 _ ?_), hrun, hended, _, _, rfl, ?_, ⟨_, rfl⟩, hW, hsame.mono (by decide) (by decide)⟩
      · exact retI X0 hx Bd.returns (hb hby d10_53) hr
      · show Q10_2 Z r0 q2 kr0 z0 vs0 a0 a1 h0 n0 _ s₁.heap _
        rw [e0]
        refine ⟨?_, N0, rfl⟩
        rw [own_fi2, if_neg hc4, if_pos hc7]
    · skip
      have ks9 : own_R p e below (A0) (s₁.setTop (mkF m 53 #[vR r0, vI 2, vJ q2, .second, vI 2, vI 1, vI 1] [(.int 1)])) := fun t k => ks6 t (by
        refine XS.ifNo X0.here hx rfl (hb hby d10_30) rfl ((if0 _ _).trans (flt (fun q => hc7 ((lw_gt _ _).mp q))).2.2.1) ?_
        refine XS.iload X0.here hx rfl (hb hby d10_33) rfl ?_
        refine XS.iconst X0.here hx rfl (hb hby d10_35) ?_
        show Steps p.tables e below (s₁.setTop (mkF m 36 #[vR r0, vI 2, vJ q2, .second, vI 1, vI 1, vI 1] [(.int 1), (.int 1)])) _
        refine XS.iadd X0.here hx rfl (hb hby d10_36) rfl ?_
        refine XS.istore X0.here hx rfl (hb hby d10_37) rfl (l' := #[vR r0, vI 2, vJ q2, .second, vI 2, vI 1, vI 1]) rfl ?_
        refine XS.goto X0.here hx rfl (pc0 := 39) (pc' := 48) rfl (hb hby d10_39) (by decide) (by decide) ?_
        refine XS.goto X0.here hx rfl (pc0 := 48) (pc' := 8) rfl (hb hby d10_48) (by decide) (by decide) ?_
        show Steps p.tables e below (s₁.setTop (mkF m 8 #[vR r0, vI 2, vJ q2, .second, vI 2, vI 1, vI 1] [])) _
        refine XS.iload X0.here hx rfl (hb hby d10_8) rfl ?_
        refine XS.iload X0.here hx rfl (hb hby d10_10) rfl ?_
        refine XS.icmpYes X0.here hx rfl (pc0 := 12) (pc' := 51) rfl (hb hby d10_12) rfl (tlt (by decide)).2.2.1 (by decide) (by decide) ?_
        refine XS.iload X0.here hx rfl (hb hby d10_51) rfl ?_
        exact k)
      obtain ⟨fs, hr, hrun, hended, hW, hsame⟩ := X0.leave (v := some (.int 1)) (fun h => by rw [Bd.returns] at h; cases h) hlk
      refine ⟨_, _, kz _ (ks9 _ ?_), hrun, hended, _, _, rfl, ?_, ⟨_, rfl⟩, hW, hsame.mono (by decide) (by decide)⟩
      · exact retI X0 hx Bd.returns (hb hby d10_53) hr
      · show Q10_2 Z r0 q2 kr0 z0 vs0 a0 a1 h0 n0 _ s₁.heap _
        rw [e0]
        refine ⟨?_, N0, rfl⟩
        rw [own_fi2, if_neg hc4, if_neg hc7]
theorem own_mx (a k : Int64) : own_max 0 (own_fi1 a k) = 0 := by unfold own_fi1; split <;> decide
def own_by (cn : Int32) : Int64 := (((own_arr (1 : Int32) (8 : Int32)) + (own_arr (1 : Int32) (4 : Int32))) + ((cn.toInt64) * (((24 : Int64) + (own_arr (256 : Int32) (8 : Int32))) + (own_arr (256 : Int32) (4 : Int32)))))
theorem d4_0 : decode prog_25_method_9_code 0 = .ok (.aload_n 0, 1) := by decide +kernel
theorem d4_1 : decode prog_25_method_9_code 1 = .ok (.getfield 7, 3) := by decide +kernel
theorem d4_4 : decode prog_25_method_9_code 4 = .ok (.arraylength, 1) := by decide +kernel
theorem d4_5 : decode prog_25_method_9_code 5 = .ok (.bipush 8, 2) := by decide +kernel
theorem d4_7 : decode prog_25_method_9_code 7 = .ok (.invokestatic 85, 3) := by decide +kernel
theorem d4_10 : decode prog_25_method_9_code 10 = .ok (.aload_n 0, 1) := by decide +kernel
theorem d4_11 : decode prog_25_method_9_code 11 = .ok (.getfield 15, 3) := by decide +kernel
theorem d4_14 : decode prog_25_method_9_code 14 = .ok (.arraylength, 1) := by decide +kernel
theorem d4_15 : decode prog_25_method_9_code 15 = .ok (.iconst 4, 1) := by decide +kernel
theorem d4_16 : decode prog_25_method_9_code 16 = .ok (.invokestatic 85, 3) := by decide +kernel
theorem d4_19 : decode prog_25_method_9_code 19 = .ok (.ladd, 1) := by decide +kernel
theorem d4_20 : decode prog_25_method_9_code 20 = .ok (.lstore_n 1, 1) := by decide +kernel
theorem d4_21 : decode prog_25_method_9_code 21 = .ok (.ldc2_w 91, 3) := by decide +kernel
theorem d4_24 : decode prog_25_method_9_code 24 = .ok (.sipush 256, 3) := by decide +kernel
theorem d4_27 : decode prog_25_method_9_code 27 = .ok (.bipush 8, 2) := by decide +kernel
theorem d4_29 : decode prog_25_method_9_code 29 = .ok (.invokestatic 85, 3) := by decide +kernel
theorem d4_32 : decode prog_25_method_9_code 32 = .ok (.ladd, 1) := by decide +kernel
theorem d4_33 : decode prog_25_method_9_code 33 = .ok (.sipush 256, 3) := by decide +kernel
theorem d4_36 : decode prog_25_method_9_code 36 = .ok (.iconst 4, 1) := by decide +kernel
theorem d4_37 : decode prog_25_method_9_code 37 = .ok (.invokestatic 85, 3) := by decide +kernel
theorem d4_40 : decode prog_25_method_9_code 40 = .ok (.ladd, 1) := by decide +kernel
theorem d4_41 : decode prog_25_method_9_code 41 = .ok (.lstore_n 3, 1) := by decide +kernel
theorem d4_42 : decode prog_25_method_9_code 42 = .ok (.lload_n 1, 1) := by decide +kernel
theorem d4_43 : decode prog_25_method_9_code 43 = .ok (.aload_n 0, 1) := by decide +kernel
theorem d4_44 : decode prog_25_method_9_code 44 = .ok (.getfield 19, 3) := by decide +kernel
theorem d4_47 : decode prog_25_method_9_code 47 = .ok (.i2l, 1) := by decide +kernel
theorem d4_48 : decode prog_25_method_9_code 48 = .ok (.lload_n 3, 1) := by decide +kernel
theorem d4_49 : decode prog_25_method_9_code 49 = .ok (.lmul, 1) := by decide +kernel
theorem d4_50 : decode prog_25_method_9_code 50 = .ok (.ladd, 1) := by decide +kernel
theorem d4_51 : decode prog_25_method_9_code 51 = .ok (.lreturn, 1) := by decide +kernel
theorem pn_4 : plainName "com/example/thin_feed/thinfeed/store/LongFloorMap" = true := by first | (simp [plainName, overriddenIn]; done) | decide +kernel
theorem pd_3 : parseMethodDescriptor "(II)J" = some ⟨[.int, .int], some .long⟩ := by decide +kernel
theorem ef_4 (m : MethodId) (x0 : Addr) : entryFrame m #[(.ref x0)] 5 = mkF m 0 #[.val (.ref x0), .unset, .unset, .unset, .unset] [] := by first | (simp [entryFrame, mkF, argsToLocals, Value.category]; done) | rfl
def Q4 (Z : State) (r0 : Addr) (f : Addr) (sh : Addr) (kf : ClassId) (ksh : ClassId) (cn : Int32) (vf : List Value) (vs : List Value) (h0 : Heap) (n0 : Nat) (v : Option Value) (h : Heap) (L : List Loc) : Prop := v = some (.long (own_by cn)) ∧ Fr n0 L ∧ h = h0
set_option maxRecDepth 65536 in
set_option maxHeartbeats 40000000 in
theorem rm4 (l : Launch) (Z : State) (a0 : Array Value) (hw : ∀ d ∈ tables_1, d.before a0 Z = true) (ws : List Jvm.Cond) (r0 : Addr) (f : Addr) (sh : Addr) (kf : ClassId) (ksh : ClassId) (cn : Int32) (vf : List Value) (vs : List Value) (h0 : Heap) (n0 : Nat) (Z0 : n0 ≤ h0.size) (Ff : Fld Z h0 r0 "com/example/thin_feed/thinfeed/store/LongFloorMap" "firsts" "[J" (.ref f)) (Fsh : Fld Z h0 r0 "com/example/thin_feed/thinfeed/store/LongFloorMap" "shelves" "[Lcom/example/thin_feed/thinfeed/store/LongFloorMap$Shelf;" (.ref sh)) (Fc : Fld Z h0 r0 "com/example/thin_feed/thinfeed/store/LongFloorMap" "shelfCount" "I" (.int cn)) (Vf : Arv Z h0 f kf .long 1 vf (.long (0 : Int64))) (Vs : Arv Z h0 sh ksh (.object "com/example/thin_feed/thinfeed/store/LongFloorMap$Shelf") 1 vs .null) :
    MetFree l (⟨"com/example/thin_feed/thinfeed/store/LongFloorMap", "bytes", "()J"⟩ : MethodName) (head1 (Jvm.Cond.code (⟨"com/example/thin_feed/thinfeed/store/LongFloorMap", "bytes", "()J"⟩ : MethodName) prog_25_method_9_code 5 (some .long) :: ws) ({ frames := 1, cells := 0, slots := 0, locals := 15 } : Room)) (fun a U => a = #[(.ref r0)] ∧ Z.Warmed39 U.vm ∧ U.heap = h0) (fun _ _ _ _ _ => True) (fun _ U o U' => ∃ v L, o = .returned v ∧ Q4 Z r0 f sh kf ksh cn vf vs h0 n0 v U'.heap L ∧ FrameEnd U o U' L ({ frames := 1, cells := 0, slots := 0, locals := 15 } : Room).cells ({ frames := 1, cells := 0, slots := 0, locals := 15 } : Room).slots) := by
  refine MetFree.of_bodySF (plainFor_of_name pn_4) hisR ?_
  intro p e s m args below meth c s₁ Bd hml0 hP hK
  obtain ⟨rfl, hZ, hh⟩ := hP
  have hx := Bd.exec
  have hby := Bd.bytes
  have hml : c.maxLocals = 5 := hml0
  have hown : s.vm.findClass "com/example/thin_feed/thinfeed/store/LongFloorMap" = some m.cls := findClass_of_methodNamed Bd.named
  have hnm := (name_of_methodNamed Bd.named Bd.method).1
  have hlk : meth.locks = false := by first | exact BodyLoose.notSynchronized Bd | exact Body.notSynchronized Bd
  have X0 : Stand p l e ({ frames := 1, cells := 0, slots := 0, locals := 15 } : Room) s m #[(.ref r0)] below meth c s₁ [] 0 0 := Stand.of_body Bd
  have e0 : s₁.heap = h0 := by rw [← hh, Bd.state]; rfl
  have N0 := Fr.nil n0
  have k0 : own_R p e below (s₁.setTop (entryFrame m #[(.ref r0)] 5)) (s₁.setTop (mkF m 0 #[vR r0, .unset, .unset, .unset, .unset] [])) := fun t k => castTop (ef_4 m r0) k
  obtain ⟨A0, hA0⟩ : ∃ z, z = s₁.setTop (entryFrame m #[(.ref r0)] 5) := ⟨_, rfl⟩
  rw [← hA0] at k0
  have kz : ∀ t, Steps p.tables e below A0 t → Steps p.tables e below (s₁.setTop (entryFrame m #[(.ref r0)] 5)) t := fun t q => hA0 ▸ q
  have ks1 : own_R p e below (A0) (s₁.setTop (mkF m 1 #[vR r0, .unset, .unset, .unset, .unset] [(.ref r0)])) := fun t k => k0 t (by
    refine XS.aloadN X0.here hx rfl (hb hby d4_0) rfl rfl ?_
    exact k)
  obtain ⟨T2, X2, e2, st2⟩ := getF X0 hx hZ hown (host := "") (Or.inl (own_w hw 10 rfl)) Via.refl e0 Ff (g := (mkF m 1 #[vR r0, .unset, .unset, .unset, .unset] [(.ref r0)])) rfl rfl (hb hby d4_1)
  have ks3 := own_c ks1 st2
  obtain ⟨cl4, Ar4, qa4, S4, Na4, Ha4, Ga4⟩ := id Vf
  have ks5 : own_R p e below (A0) (T2.setTop (mkF m 7 #[vR r0, .unset, .unset, .unset, .unset] [(.int 8), (.int 1)])) := fun t k => ks3 t (by
    refine X2.arraylength hx (by rw [e2]; exact Ar4.1) (State.isArrayOf_alike hZ.alike Ar4.2.1) (g := (mkF m 4 #[vR r0, .unset, .unset, .unset, .unset] [(.ref f)])) rfl rfl (hb hby d4_4) _ ?_
    rw [len_of S4 Na4]
    refine XS.bipush X2.here hx rfl (hb hby d4_5) ?_
    exact k)
  obtain ⟨_, _, ⟨T6, L6, k6, n6⟩, -, X6, ⟨Lc6, hQ6, lq6, yq6, zq6⟩, st6⟩ := Jvm.LawKit.callS X2 hx (y := (⟨"com/example/thin_feed/thinfeed/store/HeapBytes", "array", "(II)J"⟩ : MethodName)) hown (mvT hZ (own_w hw 28 rfl)) (mvT hZ (own_w hw 29 rfl)) (mvT hZ (own_w hw 30 rfl)) (mvT hZ (own_w hw 31 rfl)) (by decide) (backOf (W := 0) (rm5 l Z a0 hw [] (1 : Int32) (8 : Int32) h0 n0 Z0 ) hZ (own_w hw 31 rfl) (own_w hw 30 rfl) (by decide) (by decide)) (g := (mkF m 7 #[vR r0, .unset, .unset, .unset, .unset] [(.int 8), (.int 1)])) rfl (by rw [hml]; rfl) (argsL := [(.int 1), (.int 8)]) (rest := []) (lenOf pd_3 rfl) rfl (by show 2 * 0 + _ ≤ _; exact Nat.le_of_eq rfl) (hb hby d4_7) (fun _ _ => ⟨rfl, e2, (by decide : 0 + 0 ≤ _), (by decide : 0 + 0 ≤ _)⟩)
  dsimp only [Pt.U, Pt.locs, Pt.cells, Pt.slots] at X6 lq6 yq6 zq6 st6 hQ6
  subst lq6 yq6 zq6
  obtain ⟨rfl, Nq6, eq6⟩ := hQ6
  have N6 := Fr.app N0 Nq6
  have ks7 := own_c ks5 st6
  have ks8 : own_R p e below (A0) (T6.setTop (mkF m 11 #[vR r0, .unset, .unset, .unset, .unset] [(.ref r0), (.long (own_arr (1 : Int32) (8 : Int32)))])) := fun t k => ks7 t (by
    refine XS.aloadN X6.here hx rfl (hb hby d4_10) rfl rfl ?_
    exact k)
  obtain ⟨T9, X9, e9, st9⟩ := getF X6 hx hZ hown (host := "") (Or.inl (own_w hw 14 rfl)) Via.refl eq6 Fsh (g := (mkF m 11 #[vR r0, .unset, .unset, .unset, .unset] [(.ref r0), (.long (own_arr (1 : Int32) (8 : Int32)))])) rfl rfl (hb hby d4_11)
  have ks10 := own_c ks8 st9
  obtain ⟨cl11, Ar11, qa11, S11, Na11, Ha11, Ga11⟩ := id Vs
  have ks12 : own_R p e below (A0) (T9.setTop (mkF m 16 #[vR r0, .unset, .unset, .unset, .unset] [(.int 4), (.int 1), (.long (own_arr (1 : Int32) (8 : Int32)))])) := fun t k => ks10 t (by
    refine X9.arraylength hx (by rw [e9]; exact Ar11.1) (State.isArrayOf_alike hZ.alike Ar11.2.1) (g := (mkF m 14 #[vR r0, .unset, .unset, .unset, .unset] [(.ref sh), (.long (own_arr (1 : Int32) (8 : Int32)))])) rfl rfl (hb hby d4_14) _ ?_
    rw [len_of S11 Na11]
    refine XS.iconst X9.here hx rfl (hb hby d4_15) ?_
    exact k)
  obtain ⟨_, _, ⟨T13, L13, k13, n13⟩, -, X13, ⟨Lc13, hQ13, lq13, yq13, zq13⟩, st13⟩ := Jvm.LawKit.callS X9 hx (y := (⟨"com/example/thin_feed/thinfeed/store/HeapBytes", "array", "(II)J"⟩ : MethodName)) hown (mvT hZ (own_w hw 28 rfl)) (mvT hZ (own_w hw 29 rfl)) (mvT hZ (own_w hw 30 rfl)) (mvT hZ (own_w hw 31 rfl)) (by decide) (backOf (W := 2) (rm5 l Z a0 hw [] (1 : Int32) (4 : Int32) h0 n0 Z0 ) hZ (own_w hw 31 rfl) (own_w hw 30 rfl) (by decide) (by decide)) (g := (mkF m 16 #[vR r0, .unset, .unset, .unset, .unset] [(.int 4), (.int 1), (.long (own_arr (1 : Int32) (8 : Int32)))])) rfl (by rw [hml]; rfl) (argsL := [(.int 1), (.int 4)]) (rest := [(.long (own_arr (1 : Int32) (8 : Int32)))]) (lenOf pd_3 rfl) rfl (by show 2 * 0 + _ ≤ _; exact Nat.le_of_eq rfl) (hb hby d4_16) (fun _ _ => ⟨rfl, e9, (by decide : 0 + 0 ≤ _), (by decide : 0 + 0 ≤ _)⟩)
  dsimp only [Pt.U, Pt.locs, Pt.cells, Pt.slots] at X13 lq13 yq13 zq13 st13 hQ13
  subst lq13 yq13 zq13
  obtain ⟨rfl, Nq13, eq13⟩ := hQ13
  have N13 := Fr.app N6 Nq13
  have ks14 := own_c ks12 st13
  have ks15 : own_R p e below (A0) (T13.setTop (mkF m 29 #[vR r0, vJ ((own_arr (1 : Int32) (8 : Int32)) + (own_arr (1 : Int32) (4 : Int32))), .second, .unset, .unset] [(.int 8), (.int 256), (.long (24 : Int64))])) := fun t k => ks14 t (by
    refine XS.ladd X13.here hx rfl (hb hby d4_19) rfl ?_
    refine XS.lstoreN X13.here hx rfl (hb hby d4_20) rfl (l' := #[vR r0, vJ ((own_arr (1 : Int32) (8 : Int32)) + (own_arr (1 : Int32) (4 : Int32))), .second, .unset, .unset]) rfl ?_
    refine X13.ldc2Long hx hown (mvT hZ (own_w hw 35 rfl)) (g := (mkF m 21 #[vR r0, vJ ((own_arr (1 : Int32) (8 : Int32)) + (own_arr (1 : Int32) (4 : Int32))), .second, .unset, .unset] [])) rfl (hb hby d4_21) _ ?_
    show Steps p.tables e below (T13.setTop (mkF m 24 #[vR r0, vJ ((own_arr (1 : Int32) (8 : Int32)) + (own_arr (1 : Int32) (4 : Int32))), .second, .unset, .unset] [(.long (24 : Int64))])) _
    refine XS.sipush X13.here hx rfl (hb hby d4_24) ?_
    refine XS.bipush X13.here hx rfl (hb hby d4_27) ?_
    exact k)
  obtain ⟨_, _, ⟨T16, L16, k16, n16⟩, -, X16, ⟨Lc16, hQ16, lq16, yq16, zq16⟩, st16⟩ := Jvm.LawKit.callS X13 hx (y := (⟨"com/example/thin_feed/thinfeed/store/HeapBytes", "array", "(II)J"⟩ : MethodName)) hown (mvT hZ (own_w hw 28 rfl)) (mvT hZ (own_w hw 29 rfl)) (mvT hZ (own_w hw 30 rfl)) (mvT hZ (own_w hw 31 rfl)) (by decide) (backOf (W := 2) (rm5 l Z a0 hw [] (256 : Int32) (8 : Int32) h0 n0 Z0 ) hZ (own_w hw 31 rfl) (own_w hw 30 rfl) (by decide) (by decide)) (g := (mkF m 29 #[vR r0, vJ ((own_arr (1 : Int32) (8 : Int32)) + (own_arr (1 : Int32) (4 : Int32))), .second, .unset, .unset] [(.int 8), (.int 256), (.long (24 : Int64))])) rfl (by rw [hml]; rfl) (argsL := [(.int 256), (.int 8)]) (rest := [(.long (24 : Int64))]) (lenOf pd_3 rfl) rfl (by show 2 * 0 + _ ≤ _; exact Nat.le_of_eq rfl) (hb hby d4_29) (fun _ _ => ⟨rfl, eq13, (by decide : 0 + 0 ≤ _), (by decide : 0 + 0 ≤ _)⟩)
  dsimp only [Pt.U, Pt.locs, Pt.cells, Pt.slots] at X16 lq16 yq16 zq16 st16 hQ16
  subst lq16 yq16 zq16
  obtain ⟨rfl, Nq16, eq16⟩ := hQ16
  have N16 := Fr.app N13 Nq16
  have ks17 := own_c ks15 st16
  have ks18 : own_R p e below (A0) (T16.setTop (mkF m 37 #[vR r0, vJ ((own_arr (1 : Int32) (8 : Int32)) + (own_arr (1 : Int32) (4 : Int32))), .second, .unset, .unset] [(.int 4), (.int 256), (.long ((24 : Int64) + (own_arr (256 : Int32) (8 : Int32))))])) := fun t k => ks17 t (by
    refine XS.ladd X16.here hx rfl (hb hby d4_32) rfl ?_
    refine XS.sipush X16.here hx rfl (hb hby d4_33) ?_
    refine XS.iconst X16.here hx rfl (hb hby d4_36) ?_
    exact k)
  obtain ⟨_, _, ⟨T19, L19, k19, n19⟩, -, X19, ⟨Lc19, hQ19, lq19, yq19, zq19⟩, st19⟩ := Jvm.LawKit.callS X16 hx (y := (⟨"com/example/thin_feed/thinfeed/store/HeapBytes", "array", "(II)J"⟩ : MethodName)) hown (mvT hZ (own_w hw 28 rfl)) (mvT hZ (own_w hw 29 rfl)) (mvT hZ (own_w hw 30 rfl)) (mvT hZ (own_w hw 31 rfl)) (by decide) (backOf (W := 2) (rm5 l Z a0 hw [] (256 : Int32) (4 : Int32) h0 n0 Z0 ) hZ (own_w hw 31 rfl) (own_w hw 30 rfl) (by decide) (by decide)) (g := (mkF m 37 #[vR r0, vJ ((own_arr (1 : Int32) (8 : Int32)) + (own_arr (1 : Int32) (4 : Int32))), .second, .unset, .unset] [(.int 4), (.int 256), (.long ((24 : Int64) + (own_arr (256 : Int32) (8 : Int32))))])) rfl (by rw [hml]; rfl) (argsL := [(.int 256), (.int 4)]) (rest := [(.long ((24 : Int64) + (own_arr (256 : Int32) (8 : Int32))))]) (lenOf pd_3 rfl) rfl (by show 2 * 0 + _ ≤ _; exact Nat.le_of_eq rfl) (hb hby d4_37) (fun _ _ => ⟨rfl, eq16, (by decide : 0 + 0 ≤ _), (by decide : 0 + 0 ≤ _)⟩)
  dsimp only [Pt.U, Pt.locs, Pt.cells, Pt.slots] at X19 lq19 yq19 zq19 st19 hQ19
  subst lq19 yq19 zq19
  obtain ⟨rfl, Nq19, eq19⟩ := hQ19
  have N19 := Fr.app N16 Nq19
  have ks20 := own_c ks18 st19
  have ks21 : own_R p e below (A0) (T19.setTop (mkF m 44 #[vR r0, vJ ((own_arr (1 : Int32) (8 : Int32)) + (own_arr (1 : Int32) (4 : Int32))), .second, vJ (((24 : Int64) + (own_arr (256 : Int32) (8 : Int32))) + (own_arr (256 : Int32) (4 : Int32))), .second] [(.ref r0), (.long ((own_arr (1 : Int32) (8 : Int32)) + (own_arr (1 : Int32) (4 : Int32))))])) := fun t k => ks20 t (by
    refine XS.ladd X19.here hx rfl (hb hby d4_40) rfl ?_
    refine XS.lstoreN X19.here hx rfl (hb hby d4_41) rfl (l' := #[vR r0, vJ ((own_arr (1 : Int32) (8 : Int32)) + (own_arr (1 : Int32) (4 : Int32))), .second, vJ (((24 : Int64) + (own_arr (256 : Int32) (8 : Int32))) + (own_arr (256 : Int32) (4 : Int32))), .second]) rfl ?_
    refine XS.lloadN X19.here hx rfl (hb hby d4_42) rfl ?_
    show Steps p.tables e below (T19.setTop (mkF m 43 #[vR r0, vJ ((own_arr (1 : Int32) (8 : Int32)) + (own_arr (1 : Int32) (4 : Int32))), .second, vJ (((24 : Int64) + (own_arr (256 : Int32) (8 : Int32))) + (own_arr (256 : Int32) (4 : Int32))), .second] [(.long ((own_arr (1 : Int32) (8 : Int32)) + (own_arr (1 : Int32) (4 : Int32))))])) _
    refine XS.aloadN X19.here hx rfl (hb hby d4_43) rfl rfl ?_
    exact k)
  obtain ⟨T22, X22, e22, st22⟩ := getF X19 hx hZ hown (host := "") (Or.inl (own_w hw 36 rfl)) Via.refl eq19 Fc (g := (mkF m 44 #[vR r0, vJ ((own_arr (1 : Int32) (8 : Int32)) + (own_arr (1 : Int32) (4 : Int32))), .second, vJ (((24 : Int64) + (own_arr (256 : Int32) (8 : Int32))) + (own_arr (256 : Int32) (4 : Int32))), .second] [(.ref r0), (.long ((own_arr (1 : Int32) (8 : Int32)) + (own_arr (1 : Int32) (4 : Int32))))])) rfl rfl (hb hby d4_44)
  have ks23 := own_c ks21 st22
  have ks24 : own_R p e below (A0) (T22.setTop (mkF m 51 #[vR r0, vJ ((own_arr (1 : Int32) (8 : Int32)) + (own_arr (1 : Int32) (4 : Int32))), .second, vJ (((24 : Int64) + (own_arr (256 : Int32) (8 : Int32))) + (own_arr (256 : Int32) (4 : Int32))), .second] [(.long (((own_arr (1 : Int32) (8 : Int32)) + (own_arr (1 : Int32) (4 : Int32))) + ((cn.toInt64) * (((24 : Int64) + (own_arr (256 : Int32) (8 : Int32))) + (own_arr (256 : Int32) (4 : Int32))))))])) := fun t k => ks23 t (by
    refine XS.i2l X22.here hx rfl (hb hby d4_47) rfl ?_
    refine XS.lloadN X22.here hx rfl (hb hby d4_48) rfl ?_
    refine XS.lmul X22.here hx rfl (hb hby d4_49) rfl ?_
    show Steps p.tables e below (T22.setTop (mkF m 50 #[vR r0, vJ ((own_arr (1 : Int32) (8 : Int32)) + (own_arr (1 : Int32) (4 : Int32))), .second, vJ (((24 : Int64) + (own_arr (256 : Int32) (8 : Int32))) + (own_arr (256 : Int32) (4 : Int32))), .second] [(.long ((cn.toInt64) * (((24 : Int64) + (own_arr (256 : Int32) (8 : Int32))) + (own_arr (256 : Int32) (4 : Int32))))), (.long ((own_arr (1 : Int32) (8 : Int32)) + (own_arr (1 : Int32) (4 : Int32))))])) _
    refine XS.ladd X22.here hx rfl (hb hby d4_50) rfl ?_
    exact k)
  obtain ⟨fs, hr, hrun, hended, hW, hsame⟩ := X22.leave (v := some (.long (((own_arr (1 : Int32) (8 : Int32)) + (own_arr (1 : Int32) (4 : Int32))) + ((cn.toInt64) * (((24 : Int64) + (own_arr (256 : Int32) (8 : Int32))) + (own_arr (256 : Int32) (4 : Int32))))))) (fun h => by rw [Bd.returns] at h; cases h) hlk
  refine ⟨_, _, kz _ (ks24 _ ?_), hrun, hended, _, _, rfl, ?_, ⟨_, rfl⟩, hW, hsame.mono (by decide) (by decide)⟩
  · exact retOut X22 hx Bd.returns rfl (Or.inr (Or.inl ⟨rfl, rfl, _, rfl⟩)) (hb hby d4_51) hr
  · show Q4 Z r0 f sh kf ksh cn vf vs h0 n0 _ T22.heap _
    rw [e22]
    exact ⟨rfl, N19, rfl⟩
theorem d15_0 : decode prog_25_method_13_code 0 = .ok (.iload_n 1, 1) := by decide +kernel
theorem d15_1 : decode prog_25_method_13_code 1 = .ok (.ifCond .lt 44, 3) := by decide +kernel
theorem d15_4 : decode prog_25_method_13_code 4 = .ok (.iload_n 1, 1) := by decide +kernel
theorem d15_5 : decode prog_25_method_13_code 5 = .ok (.iconst 1, 1) := by decide +kernel
theorem d15_6 : decode prog_25_method_13_code 6 = .ok (.iadd, 1) := by decide +kernel
theorem d15_7 : decode prog_25_method_13_code 7 = .ok (.aload_n 0, 1) := by decide +kernel
theorem d15_8 : decode prog_25_method_13_code 8 = .ok (.getfield 19, 3) := by decide +kernel
theorem d15_11 : decode prog_25_method_13_code 11 = .ok (.if_icmp .ge 34, 3) := by decide +kernel
theorem d15_45 : decode prog_25_method_13_code 45 = .ok (.iconst 0, 1) := by decide +kernel
theorem d15_46 : decode prog_25_method_13_code 46 = .ok (.ireturn, 1) := by decide +kernel
theorem pn_15 : plainName "com/example/thin_feed/thinfeed/store/LongFloorMap" = true := by first | (simp [plainName, overriddenIn]; done) | decide +kernel
theorem ef_15_z (m : MethodId) (x0 : Addr) (x1 : Int32) : entryFrame m #[(.ref x0), (.int x1)] 2 = mkF m 0 #[.val (.ref x0), .val (.int x1)] [] := by first | (simp [entryFrame, mkF, argsToLocals, Value.category]; done) | rfl
def Q15_z (Z : State) (r0 : Addr) (h0 : Heap) (n0 : Nat) (v : Option Value) (h : Heap) (L : List Loc) : Prop := v = some (.int 0) ∧ Fr n0 L ∧ h = h0
set_option maxRecDepth 65536 in
set_option maxHeartbeats 40000000 in
theorem rm15_z (l : Launch) (Z : State) (a0 : Array Value) (hw : ∀ d ∈ tables_1, d.before a0 Z = true) (ws : List Jvm.Cond) (r0 : Addr) (h0 : Heap) (n0 : Nat) (Z0 : n0 ≤ h0.size) (Fc : Fld Z h0 r0 "com/example/thin_feed/thinfeed/store/LongFloorMap" "shelfCount" "I" (.int 1)) :
    MetFree l (⟨"com/example/thin_feed/thinfeed/store/LongFloorMap", "joins", "(I)Z"⟩ : MethodName) (head1 (Jvm.Cond.code (⟨"com/example/thin_feed/thinfeed/store/LongFloorMap", "joins", "(I)Z"⟩ : MethodName) prog_25_method_13_code 2 (some .boolean) :: ws) ({ frames := 0, cells := 0, slots := 0, locals := 0 } : Room)) (fun a U => a = #[(.ref r0), (.int 0)] ∧ Z.Warmed39 U.vm ∧ U.heap = h0) (fun _ _ _ _ _ => True) (fun _ U o U' => ∃ v L, o = .returned v ∧ Q15_z Z r0 h0 n0 v U'.heap L ∧ FrameEnd U o U' L ({ frames := 0, cells := 0, slots := 0, locals := 0 } : Room).cells ({ frames := 0, cells := 0, slots := 0, locals := 0 } : Room).slots) := by
  refine MetFree.of_bodySF (plainFor_of_name pn_15) hisR ?_
  intro p e s m args below meth c s₁ Bd hml0 hP hK
  obtain ⟨rfl, hZ, hh⟩ := hP
  have hx := Bd.exec
  have hby := Bd.bytes
  have hml : c.maxLocals = 2 := hml0
  have hown : s.vm.findClass "com/example/thin_feed/thinfeed/store/LongFloorMap" = some m.cls := findClass_of_methodNamed Bd.named
  have hnm := (name_of_methodNamed Bd.named Bd.method).1
  have hlk : meth.locks = false := by first | exact BodyLoose.notSynchronized Bd | exact Body.notSynchronized Bd
  have X0 : Stand p l e ({ frames := 0, cells := 0, slots := 0, locals := 0 } : Room) s m #[(.ref r0), (.int 0)] below meth c s₁ [] 0 0 := Stand.of_body Bd
  have e0 : s₁.heap = h0 := by rw [← hh, Bd.state]; rfl
  have N0 := Fr.nil n0
  have k0 : own_R p e below (s₁.setTop (entryFrame m #[(.ref r0), (.int 0)] 2)) (s₁.setTop (mkF m 0 #[vR r0, vI 0] [])) := fun t k => castTop (ef_15_z m r0 (0 : Int32)) k
  obtain ⟨A0, hA0⟩ : ∃ z, z = s₁.setTop (entryFrame m #[(.ref r0), (.int 0)] 2) := ⟨_, rfl⟩
  rw [← hA0] at k0
  have kz : ∀ t, Steps p.tables e below A0 t → Steps p.tables e below (s₁.setTop (entryFrame m #[(.ref r0), (.int 0)] 2)) t := fun t q => hA0 ▸ q
  have ks1 : own_R p e below (A0) (s₁.setTop (mkF m 8 #[vR r0, vI 0] [(.ref r0), (.int 1)])) := fun t k => k0 t (by
    refine XS.iloadN X0.here hx rfl (hb hby d15_0) rfl ?_
    refine XS.ifNo X0.here hx rfl (hb hby d15_1) rfl ((if0 _ _).trans (flt (by decide)).1) ?_
    refine XS.iloadN X0.here hx rfl (hb hby d15_4) rfl ?_
    show Steps p.tables e below (s₁.setTop (mkF m 5 #[vR r0, vI 0] [(.int 0)])) _
    refine XS.iconst X0.here hx rfl (hb hby d15_5) ?_
    refine XS.iadd X0.here hx rfl (hb hby d15_6) rfl ?_
    refine XS.aloadN X0.here hx rfl (hb hby d15_7) rfl rfl ?_
    exact k)
  obtain ⟨T2, X2, e2, st2⟩ := getF X0 hx hZ hown (host := "") (Or.inl (own_w hw 36 rfl)) Via.refl e0 Fc (g := (mkF m 8 #[vR r0, vI 0] [(.ref r0), (.int 1)])) rfl rfl (hb hby d15_8)
  have ks3 := own_c ks1 st2
  have ks4 : own_R p e below (A0) (T2.setTop (mkF m 46 #[vR r0, vI 0] [(.int 0)])) := fun t k => ks3 t (by
    refine XS.icmpYes X2.here hx rfl (pc0 := 11) (pc' := 45) rfl (hb hby d15_11) rfl (flt (by decide)).2.1 (by decide) (by decide) ?_
    refine XS.iconst X2.here hx rfl (hb hby d15_45) ?_
    exact k)
  obtain ⟨fs, hr, hrun, hended, hW, hsame⟩ := X2.leave (v := some (.int 0)) (fun h => by rw [Bd.returns] at h; cases h) hlk
  refine ⟨_, _, kz _ (ks4 _ ?_), hrun, hended, _, _, rfl, ?_, ⟨_, rfl⟩, hW, hsame.mono (by decide) (by decide)⟩
  · exact retN X2 hx (t := .boolean) Bd.returns (by simp) (hb hby d15_46) hr
  · show Q15_z Z r0 h0 n0 _ T2.heap _
    rw [e2]
    exact ⟨rfl, N0, rfl⟩
theorem ef_15_m (m : MethodId) (x0 : Addr) (x1 : Int32) : entryFrame m #[(.ref x0), (.int x1)] 2 = mkF m 0 #[.val (.ref x0), .val (.int x1)] [] := by first | (simp [entryFrame, mkF, argsToLocals, Value.category]; done) | rfl
def Q15_m (Z : State) (r0 : Addr) (h0 : Heap) (n0 : Nat) (v : Option Value) (h : Heap) (L : List Loc) : Prop := v = some (.int 0) ∧ Fr n0 L ∧ h = h0
set_option maxRecDepth 65536 in
set_option maxHeartbeats 40000000 in
theorem rm15_m (l : Launch) (Z : State) (a0 : Array Value) (hw : ∀ d ∈ tables_1, d.before a0 Z = true) (ws : List Jvm.Cond) (r0 : Addr) (h0 : Heap) (n0 : Nat) (Z0 : n0 ≤ h0.size) (Fc : Fld Z h0 r0 "com/example/thin_feed/thinfeed/store/LongFloorMap" "shelfCount" "I" (.int 1)) :
    MetFree l (⟨"com/example/thin_feed/thinfeed/store/LongFloorMap", "joins", "(I)Z"⟩ : MethodName) (head1 (Jvm.Cond.code (⟨"com/example/thin_feed/thinfeed/store/LongFloorMap", "joins", "(I)Z"⟩ : MethodName) prog_25_method_13_code 2 (some .boolean) :: ws) ({ frames := 0, cells := 0, slots := 0, locals := 0 } : Room)) (fun a U => a = #[(.ref r0), (.int (-1))] ∧ Z.Warmed39 U.vm ∧ U.heap = h0) (fun _ _ _ _ _ => True) (fun _ U o U' => ∃ v L, o = .returned v ∧ Q15_m Z r0 h0 n0 v U'.heap L ∧ FrameEnd U o U' L ({ frames := 0, cells := 0, slots := 0, locals := 0 } : Room).cells ({ frames := 0, cells := 0, slots := 0, locals := 0 } : Room).slots) := by
  refine MetFree.of_bodySF (plainFor_of_name pn_15) hisR ?_
  intro p e s m args below meth c s₁ Bd hml0 hP hK
  obtain ⟨rfl, hZ, hh⟩ := hP
  have hx := Bd.exec
  have hby := Bd.bytes
  have hml : c.maxLocals = 2 := hml0
  have hown : s.vm.findClass "com/example/thin_feed/thinfeed/store/LongFloorMap" = some m.cls := findClass_of_methodNamed Bd.named
  have hnm := (name_of_methodNamed Bd.named Bd.method).1
  have hlk : meth.locks = false := by first | exact BodyLoose.notSynchronized Bd | exact Body.notSynchronized Bd
  have X0 : Stand p l e ({ frames := 0, cells := 0, slots := 0, locals := 0 } : Room) s m #[(.ref r0), (.int (-1))] below meth c s₁ [] 0 0 := Stand.of_body Bd
  have e0 : s₁.heap = h0 := by rw [← hh, Bd.state]; rfl
  have N0 := Fr.nil n0
  have k0 : own_R p e below (s₁.setTop (entryFrame m #[(.ref r0), (.int (-1))] 2)) (s₁.setTop (mkF m 0 #[vR r0, vI (-1)] [])) := fun t k => castTop (ef_15_m m r0 (-1 : Int32)) k
  obtain ⟨A0, hA0⟩ : ∃ z, z = s₁.setTop (entryFrame m #[(.ref r0), (.int (-1))] 2) := ⟨_, rfl⟩
  rw [← hA0] at k0
  have kz : ∀ t, Steps p.tables e below A0 t → Steps p.tables e below (s₁.setTop (entryFrame m #[(.ref r0), (.int (-1))] 2)) t := fun t q => hA0 ▸ q
  have ks1 : own_R p e below (A0) (s₁.setTop (mkF m 46 #[vR r0, vI (-1)] [(.int 0)])) := fun t k => k0 t (by
    refine XS.iloadN X0.here hx rfl (hb hby d15_0) rfl ?_
    refine XS.ifYes X0.here hx rfl (pc0 := 1) (pc' := 45) rfl (hb hby d15_1) rfl ((if0 _ _).trans (tlt (by decide)).1) (by decide) (by decide) ?_
    refine XS.iconst X0.here hx rfl (hb hby d15_45) ?_
    exact k)
  obtain ⟨fs, hr, hrun, hended, hW, hsame⟩ := X0.leave (v := some (.int 0)) (fun h => by rw [Bd.returns] at h; cases h) hlk
  refine ⟨_, _, kz _ (ks1 _ ?_), hrun, hended, _, _, rfl, ?_, ⟨_, rfl⟩, hW, hsame.mono (by decide) (by decide)⟩
  · exact retN X0 hx (t := .boolean) Bd.returns (by simp) (hb hby d15_46) hr
  · show Q15_m Z r0 h0 n0 _ s₁.heap _
    rw [e0]
    exact ⟨rfl, N0, rfl⟩
theorem d1_0 : decode prog_25_method_1_code 0 = .ok (.aload_n 0, 1) := by decide +kernel
theorem d1_1 : decode prog_25_method_1_code 1 = .ok (.invokespecial 1, 3) := by decide +kernel
theorem d1_4 : decode prog_25_method_1_code 4 = .ok (.aload_n 0, 1) := by decide +kernel
theorem d1_5 : decode prog_25_method_1_code 5 = .ok (.iconst 1, 1) := by decide +kernel
theorem d1_6 : decode prog_25_method_1_code 6 = .ok (.newarray .long, 2) := by decide +kernel
theorem d1_8 : decode prog_25_method_1_code 8 = .ok (.putfield 7, 3) := by decide +kernel
theorem d1_11 : decode prog_25_method_1_code 11 = .ok (.aload_n 0, 1) := by decide +kernel
theorem d1_12 : decode prog_25_method_1_code 12 = .ok (.iconst 1, 1) := by decide +kernel
theorem d1_13 : decode prog_25_method_1_code 13 = .ok (.anewarray 13, 3) := by decide +kernel
theorem d1_16 : decode prog_25_method_1_code 16 = .ok (.putfield 15, 3) := by decide +kernel
theorem d1_19 : decode prog_25_method_1_code 19 = .ok (.return_, 1) := by decide +kernel
theorem pn_1 : plainName "com/example/thin_feed/thinfeed/store/LongFloorMap" = true := by first | (simp [plainName, overriddenIn]; done) | decide +kernel
theorem ef_1 (m : MethodId) (x0 : Addr) : entryFrame m #[(.ref x0)] 1 = mkF m 0 #[.val (.ref x0)] [] := by first | (simp [entryFrame, mkF, argsToLocals, Value.category]; done) | rfl
def Q1 (Z : State) (r0 : Addr) (h0 : Heap) (n0 : Nat) (v : Option Value) (h : Heap) (L : List Loc) : Prop := v = none ∧ Fr n0 L ∧ Keep h0 h [r0] ∧ own_C Z h n0 r0
set_option maxRecDepth 65536 in
set_option maxHeartbeats 40000000 in
theorem rm1 (l : Launch) (Z : State) (a0 : Array Value) (hw : ∀ d ∈ tables_1, d.before a0 Z = true) (ws : List Jvm.Cond) (r0 : Addr) (h0 : Heap) (n0 : Nat) (Z0 : n0 ≤ h0.size) (g_r0 : n0 ≤ r0) (E0 : Exa Z h0 r0 "com/example/thin_feed/thinfeed/store/LongFloorMap") (F1 : Fld Z h0 r0 "com/example/thin_feed/thinfeed/store/LongFloorMap" "firsts" "[J" .null) (F2 : Fld Z h0 r0 "com/example/thin_feed/thinfeed/store/LongFloorMap" "shelves" "[Lcom/example/thin_feed/thinfeed/store/LongFloorMap$Shelf;" .null) (F3 : Fld Z h0 r0 "com/example/thin_feed/thinfeed/store/LongFloorMap" "shelfCount" "I" (.int 0)) (F4 : Fld Z h0 r0 "com/example/thin_feed/thinfeed/store/LongFloorMap" "size" "I" (.int 0)) :
    MetFree l (⟨"com/example/thin_feed/thinfeed/store/LongFloorMap", "<init>", "()V"⟩ : MethodName) (head1 (Jvm.Cond.code (⟨"com/example/thin_feed/thinfeed/store/LongFloorMap", "<init>", "()V"⟩ : MethodName) prog_25_method_1_code 1 none :: ws) ({ frames := 1, cells := 2, slots := 2, locals := 12 } : Room)) (fun a U => a = #[(.ref r0)] ∧ Z.Warmed39 U.vm ∧ U.heap = h0) (fun _ _ _ _ _ => True) (fun _ U o U' => ∃ v L, o = .returned v ∧ Q1 Z r0 h0 n0 v U'.heap L ∧ FrameEnd U o U' L ({ frames := 1, cells := 2, slots := 2, locals := 12 } : Room).cells ({ frames := 1, cells := 2, slots := 2, locals := 12 } : Room).slots) := by
  refine MetFree.of_bodySF (plainFor_of_name pn_1) hisR ?_
  intro p e s m args below meth c s₁ Bd hml0 hP hK
  obtain ⟨rfl, hZ, hh⟩ := hP
  have hx := Bd.exec
  have hby := Bd.bytes
  have hml : c.maxLocals = 1 := hml0
  have hown : s.vm.findClass "com/example/thin_feed/thinfeed/store/LongFloorMap" = some m.cls := findClass_of_methodNamed Bd.named
  have hnm := (name_of_methodNamed Bd.named Bd.method).1
  have hlk : meth.locks = false := by first | exact BodyLoose.notSynchronized Bd | exact Body.notSynchronized Bd
  have X0 : Stand p l e ({ frames := 1, cells := 2, slots := 2, locals := 12 } : Room) s m #[(.ref r0)] below meth c s₁ [] 0 0 := Stand.of_body Bd
  have e0 : s₁.heap = h0 := by rw [← hh, Bd.state]; rfl
  have N0 := Fr.nil n0
  have k0 : own_R p e below (s₁.setTop (entryFrame m #[(.ref r0)] 1)) (s₁.setTop (mkF m 0 #[vR r0] [])) := fun t k => castTop (ef_1 m r0) k
  obtain ⟨A0, hA0⟩ : ∃ z, z = s₁.setTop (entryFrame m #[(.ref r0)] 1) := ⟨_, rfl⟩
  rw [← hA0] at k0
  have kz : ∀ t, Steps p.tables e below A0 t → Steps p.tables e below (s₁.setTop (entryFrame m #[(.ref r0)] 1)) t := fun t q => hA0 ▸ q
  have ks1 : own_R p e below (A0) (s₁.setTop (mkF m 1 #[vR r0] [(.ref r0)])) := fun t k => k0 t (by
    refine XS.aloadN X0.here hx rfl (hb hby d1_0) rfl rfl ?_
    exact k)
  obtain ⟨T2, X2, e2, st2⟩ := initO X0 hx hZ hown (own_w hw 6 rfl) (own_w hw 7 rfl) (own_w hw 8 rfl) e0 (g := (mkF m 1 #[vR r0] [(.ref r0)])) rfl (by rw [hml]; rfl) rfl (hb hby d1_1) (by decide) (W := 0) (by show 2 * 0 + _ ≤ _; exact Nat.le_of_eq rfl) (by decide)
  have ks3 := own_c ks1 st2
  have ks4 : own_R p e below (A0) (T2.setTop (mkF m 6 #[vR r0] [(.int 1), (.ref r0)])) := fun t k => ks3 t (by
    refine XS.aloadN X2.here hx rfl (hb hby d1_4) rfl rfl ?_
    refine XS.iconst X2.here hx rfl (hb hby d1_5) ?_
    exact k)
  obtain ⟨T5, h5, c5, X5, e5, E5, A5, st5⟩ := newP X2 hx hZ (own_w hw 9 rfl) e2 (g := (mkF m 6 #[vR r0] [(.int 1), (.ref r0)])) rfl (hb hby d1_6) rfl (by decide) (cap := 1) (by decide) (by decide) (by decide) (by decide)
  obtain ⟨b5, g5⟩ : ∃ z, z = h0.size := ⟨_, rfl⟩
  rw [← g5] at A5 st5
  have ne_r0_b5 : r0 ≠ b5 := Nat.ne_of_lt (Nat.lt_of_lt_of_le E0.lt (Nat.le_of_eq g5.symm))
  have g_b5 : n0 ≤ b5 := Nat.le_trans Z0 (Nat.le_of_eq g5.symm)
  have sz_b5 : h0.size ≤ b5 := Nat.le_trans (Keep.refl h0 [r0]).1 (Nat.le_of_eq g5.symm)
  have KH5 : Keep h0 h5 [r0] := (Keep.refl h0 [r0]).ext E5
  have Zn5 : n0 ≤ h5.size := Nat.le_trans Z0 E5.1
  have V5 : Arv Z h5 b5 c5 .long (1 : Int32) [(.long (0 : Int64))] (.long (0 : Int64)) := (Arv.new A5 (by decide)).pad (pad_rep [] (.long (0 : Int64)) 1)
  have ks6 := own_c ks4 st5
  have f7 := E0.keep KH5
  have f8 := (F1.ext E5)
  obtain ⟨T9, h9, X9, e9, W9, st9⟩ := putF X5 hx hZ hown (host := "") (Or.inl (own_w hw 10 rfl)) Via.refl e5 f8 f7 (Or.inl (own_w hw 11 rfl)) (own_w hw 1 rfl) (ty := (.array .long)) (by decide) rfl rfl (g := (mkF m 8 #[vR r0] [(.ref b5), (.ref r0)])) rfl rfl (hb hby d1_8)
  have Fw9 := f8.same W9
  have KH9 : Keep h0 h9 [r0] := KH5.wr W9 (Or.inl (List.mem_of_getElem? (i := 0) rfl))
  have Zn9 : n0 ≤ h9.size := Nat.le_trans Zn5 (Keep.of_wr W9).1
  have N9 := Fr.snoc X9 N0 g_r0
  have ks10 := own_c ks6 st9
  have ks11 : own_R p e below (A0) (T9.setTop (mkF m 13 #[vR r0] [(.int 1), (.ref r0)])) := fun t k => ks10 t (by
    refine XS.aloadN X9.here hx rfl (hb hby d1_11) rfl rfl ?_
    refine XS.iconst X9.here hx rfl (hb hby d1_12) ?_
    exact k)
  have f12 := E0.keep KH9
  have f13 := (V5.other W9 (Ne.symm ne_r0_b5))
  obtain ⟨T14, h14, c14, X14, e14, E14, A14, O14, st14⟩ := newR X9 hx hZ hown (own_w hw 12 rfl) (own_w hw 13 rfl) e9 (g := (mkF m 13 #[vR r0] [(.int 1), (.ref r0)])) rfl (hb hby d1_13) rfl (by decide) (cap := 1) (by decide) (by decide) (by decide) (by decide)
  obtain ⟨b14, g14⟩ : ∃ z, z = h9.size := ⟨_, rfl⟩
  rw [← g14] at A14 st14
  have ne_r0_b14 : r0 ≠ b14 := Nat.ne_of_lt (Nat.lt_of_lt_of_le f12.lt (Nat.le_of_eq g14.symm))
  have ne_b5_b14 : b5 ≠ b14 := Nat.ne_of_lt (Nat.lt_of_lt_of_le f13.lt (Nat.le_of_eq g14.symm))
  have g_b14 : n0 ≤ b14 := Nat.le_trans Zn9 (Nat.le_of_eq g14.symm)
  have sz_b14 : h0.size ≤ b14 := Nat.le_trans KH9.1 (Nat.le_of_eq g14.symm)
  have KH14 : Keep h0 h14 [r0] := KH9.ext E14
  have Zn14 : n0 ≤ h14.size := Nat.le_trans Zn9 E14.1
  have V14 : Arv Z h14 b14 c14 (.object "com/example/thin_feed/thinfeed/store/LongFloorMap$Shelf") (1 : Int32) [.null] .null := (Arv.new A14 (by decide)).pad (pad_rep [] .null 1)
  have ks15 := own_c ks11 st14
  have f16 := E0.keep KH14
  have f17 := (((F2.ext E5).other W9 (Or.inr (slot_ne (Or.inl (own_w hw 15 rfl)) (Or.inl (own_w hw 11 rfl)) (by decide) (t := (.array (.object "com/example/thin_feed/thinfeed/store/LongFloorMap$Shelf"))) (t' := (.array .long)) (by decide) (by decide)))).ext E14)
  obtain ⟨T18, h18, X18, e18, W18, st18⟩ := putF X14 hx hZ hown (host := "") (Or.inl (own_w hw 14 rfl)) Via.refl e14 f17 f16 (Or.inl (own_w hw 15 rfl)) (own_w hw 1 rfl) (ty := (.array (.object "com/example/thin_feed/thinfeed/store/LongFloorMap$Shelf"))) (by decide) rfl rfl (g := (mkF m 16 #[vR r0] [(.ref b14), (.ref r0)])) rfl rfl (hb hby d1_16)
  have Fw18 := f17.same W18
  have KH18 : Keep h0 h18 [r0] := KH14.wr W18 (Or.inl (List.mem_of_getElem? (i := 0) rfl))
  have Zn18 : n0 ≤ h18.size := Nat.le_trans Zn14 (Keep.of_wr W18).1
  have N18 := Fr.snoc X18 N9 g_r0
  have ks19 := own_c ks15 st18
  obtain ⟨fs, hr, hrun, hended, hW, hsame⟩ := X18.leave (v := none) (fun _ => rfl) hlk
  refine ⟨_, _, kz _ (ks19 _ ?_), hrun, hended, _, _, rfl, ?_, ⟨_, rfl⟩, hW, hsame.mono (by decide) (by decide)⟩
  · exact X18.returnOut hx Bd.returns (hb hby d1_19) hr
  · show Q1 Z r0 h0 n0 _ T18.heap _
    rw [e18]
    have f20 := E0.keep KH18
    have f21 := ((Fw9.ext E14).other W18 (Or.inr (slot_ne (Or.inl (own_w hw 11 rfl)) (Or.inl (own_w hw 15 rfl)) (by decide) (t := (.array .long)) (t' := (.array (.object "com/example/thin_feed/thinfeed/store/LongFloorMap$Shelf"))) (by decide) (by decide))))
    have f22 := ((((F3.ext E5).other W9 (Or.inr (slot_ne (Or.inl (own_w hw 37 rfl)) (Or.inl (own_w hw 11 rfl)) (by decide) (t := .int) (t' := (.array .long)) (by decide) (by decide)))).ext E14).other W18 (Or.inr (slot_ne (Or.inl (own_w hw 37 rfl)) (Or.inl (own_w hw 15 rfl)) (by decide) (t := .int) (t' := (.array (.object "com/example/thin_feed/thinfeed/store/LongFloorMap$Shelf"))) (by decide) (by decide))))
    have f23 := ((((F4.ext E5).other W9 (Or.inr (slot_ne (Or.inl (own_w hw 83 rfl)) (Or.inl (own_w hw 11 rfl)) (by decide) (t := .int) (t' := (.array .long)) (by decide) (by decide)))).ext E14).other W18 (Or.inr (slot_ne (Or.inl (own_w hw 83 rfl)) (Or.inl (own_w hw 15 rfl)) (by decide) (t := .int) (t' := (.array (.object "com/example/thin_feed/thinfeed/store/LongFloorMap$Shelf"))) (by decide) (by decide))))
    have f24 := ((f13.ext E14).other W18 (Ne.symm ne_r0_b5))
    have f25 := (V14.other W18 (Ne.symm ne_r0_b14))
    exact ⟨rfl, N18, KH18, b5, b14, _, _, _, _, f20, f21, Fw18, f22, f23, f24, f25, O14, g_r0, g_b5, g_b14, ne_r0_b5, ne_r0_b14, ne_b5_b14⟩
theorem d8_0 : decode prog_27_method_1_code 0 = .ok (.aload_n 0, 1) := by decide +kernel
theorem d8_1 : decode prog_27_method_1_code 1 = .ok (.invokespecial 3, 3) := by decide +kernel
theorem d8_4 : decode prog_27_method_1_code 4 = .ok (.aload_n 0, 1) := by decide +kernel
theorem d8_5 : decode prog_27_method_1_code 5 = .ok (.sipush 256, 3) := by decide +kernel
theorem d8_8 : decode prog_27_method_1_code 8 = .ok (.newarray .long, 2) := by decide +kernel
theorem d8_10 : decode prog_27_method_1_code 10 = .ok (.putfield 9, 3) := by decide +kernel
theorem d8_13 : decode prog_27_method_1_code 13 = .ok (.aload_n 0, 1) := by decide +kernel
theorem d8_14 : decode prog_27_method_1_code 14 = .ok (.sipush 256, 3) := by decide +kernel
theorem d8_17 : decode prog_27_method_1_code 17 = .ok (.anewarray 4, 3) := by decide +kernel
theorem d8_20 : decode prog_27_method_1_code 20 = .ok (.putfield 15, 3) := by decide +kernel
theorem d8_23 : decode prog_27_method_1_code 23 = .ok (.return_, 1) := by decide +kernel
theorem pn_8 : plainName "com/example/thin_feed/thinfeed/store/LongFloorMap$Shelf" = true := by first | (simp [plainName, overriddenIn]; done) | decide +kernel
theorem ef_8 (m : MethodId) (x0 : Addr) : entryFrame m #[(.ref x0)] 1 = mkF m 0 #[.val (.ref x0)] [] := by first | (simp [entryFrame, mkF, argsToLocals, Value.category]; done) | rfl
def Q8 (Z : State) (r0 : Addr) (h0 : Heap) (n0 : Nat) (v : Option Value) (h : Heap) (L : List Loc) : Prop := v = none ∧ Fr n0 L ∧ Keep h0 h [r0] ∧ ∃ (ka va : Addr) (kka kva : ClassId), Fld Z h r0 "com/example/thin_feed/thinfeed/store/LongFloorMap$Shelf" "keys" "[J" (.ref ka) ∧ Fld Z h r0 "com/example/thin_feed/thinfeed/store/LongFloorMap$Shelf" "values" "[Ljava/lang/Object;" (.ref va) ∧ Fld Z h r0 "com/example/thin_feed/thinfeed/store/LongFloorMap$Shelf" "size" "I" (.int 0) ∧ Arv Z h ka kka .long 256 [.long (0 : Int64), .long (0 : Int64), .long (0 : Int64)] (.long (0 : Int64)) ∧ Arv Z h va kva (.object "java/lang/Object") 256 [.null, .null, .null] .null ∧ Ovr Z kva "java/lang/Object" ∧ n0 ≤ ka ∧ n0 ≤ va ∧ h0.size ≤ ka ∧ h0.size ≤ va ∧ ka ≠ va
set_option maxRecDepth 65536 in
set_option maxHeartbeats 40000000 in
theorem rm8 (l : Launch) (Z : State) (a0 : Array Value) (hw : ∀ d ∈ tables_1, d.before a0 Z = true) (ws : List Jvm.Cond) (r0 : Addr) (h0 : Heap) (n0 : Nat) (Z0 : n0 ≤ h0.size) (g_r0 : n0 ≤ r0) (E0 : Exa Z h0 r0 "com/example/thin_feed/thinfeed/store/LongFloorMap$Shelf") (F1 : Fld Z h0 r0 "com/example/thin_feed/thinfeed/store/LongFloorMap$Shelf" "keys" "[J" .null) (F2 : Fld Z h0 r0 "com/example/thin_feed/thinfeed/store/LongFloorMap$Shelf" "values" "[Ljava/lang/Object;" .null) (F3 : Fld Z h0 r0 "com/example/thin_feed/thinfeed/store/LongFloorMap$Shelf" "size" "I" (.int 0)) :
    MetFree l (⟨"com/example/thin_feed/thinfeed/store/LongFloorMap$Shelf", "<init>", "()V"⟩ : MethodName) (head1 (Jvm.Cond.code (⟨"com/example/thin_feed/thinfeed/store/LongFloorMap$Shelf", "<init>", "()V"⟩ : MethodName) prog_27_method_1_code 1 none :: ws) ({ frames := 1, cells := 2, slots := 512, locals := 12 } : Room)) (fun a U => a = #[(.ref r0)] ∧ Z.Warmed39 U.vm ∧ U.heap = h0) (fun _ _ _ _ _ => True) (fun _ U o U' => ∃ v L, o = .returned v ∧ Q8 Z r0 h0 n0 v U'.heap L ∧ FrameEnd U o U' L ({ frames := 1, cells := 2, slots := 512, locals := 12 } : Room).cells ({ frames := 1, cells := 2, slots := 512, locals := 12 } : Room).slots) := by
  refine MetFree.of_bodySF (plainFor_of_name pn_8) hisR ?_
  intro p e s m args below meth c s₁ Bd hml0 hP hK
  obtain ⟨rfl, hZ, hh⟩ := hP
  have hx := Bd.exec
  have hby := Bd.bytes
  have hml : c.maxLocals = 1 := hml0
  have hown : s.vm.findClass "com/example/thin_feed/thinfeed/store/LongFloorMap$Shelf" = some m.cls := findClass_of_methodNamed Bd.named
  have hnm := (name_of_methodNamed Bd.named Bd.method).1
  have hlk : meth.locks = false := by first | exact BodyLoose.notSynchronized Bd | exact Body.notSynchronized Bd
  have X0 : Stand p l e ({ frames := 1, cells := 2, slots := 512, locals := 12 } : Room) s m #[(.ref r0)] below meth c s₁ [] 0 0 := Stand.of_body Bd
  have e0 : s₁.heap = h0 := by rw [← hh, Bd.state]; rfl
  have N0 := Fr.nil n0
  have k0 : own_R p e below (s₁.setTop (entryFrame m #[(.ref r0)] 1)) (s₁.setTop (mkF m 0 #[vR r0] [])) := fun t k => castTop (ef_8 m r0) k
  obtain ⟨A0, hA0⟩ : ∃ z, z = s₁.setTop (entryFrame m #[(.ref r0)] 1) := ⟨_, rfl⟩
  rw [← hA0] at k0
  have kz : ∀ t, Steps p.tables e below A0 t → Steps p.tables e below (s₁.setTop (entryFrame m #[(.ref r0)] 1)) t := fun t q => hA0 ▸ q
  have ks1 : own_R p e below (A0) (s₁.setTop (mkF m 1 #[vR r0] [(.ref r0)])) := fun t k => k0 t (by
    refine XS.aloadN X0.here hx rfl (hb hby d8_0) rfl rfl ?_
    exact k)
  obtain ⟨T2, X2, e2, st2⟩ := initO X0 hx hZ hown (own_w hw 54 rfl) (own_w hw 7 rfl) (own_w hw 8 rfl) e0 (g := (mkF m 1 #[vR r0] [(.ref r0)])) rfl (by rw [hml]; rfl) rfl (hb hby d8_1) (by decide) (W := 0) (by show 2 * 0 + _ ≤ _; exact Nat.le_of_eq rfl) (by decide)
  have ks3 := own_c ks1 st2
  have ks4 : own_R p e below (A0) (T2.setTop (mkF m 8 #[vR r0] [(.int 256), (.ref r0)])) := fun t k => ks3 t (by
    refine XS.aloadN X2.here hx rfl (hb hby d8_4) rfl rfl ?_
    refine XS.sipush X2.here hx rfl (hb hby d8_5) ?_
    exact k)
  obtain ⟨T5, h5, c5, X5, e5, E5, A5, st5⟩ := newP X2 hx hZ (own_w hw 9 rfl) e2 (g := (mkF m 8 #[vR r0] [(.int 256), (.ref r0)])) rfl (hb hby d8_8) rfl (by decide) (cap := 256) (by decide) (by decide) (by decide) (by decide)
  obtain ⟨b5, g5⟩ : ∃ z, z = h0.size := ⟨_, rfl⟩
  rw [← g5] at A5 st5
  have ne_r0_b5 : r0 ≠ b5 := Nat.ne_of_lt (Nat.lt_of_lt_of_le E0.lt (Nat.le_of_eq g5.symm))
  have g_b5 : n0 ≤ b5 := Nat.le_trans Z0 (Nat.le_of_eq g5.symm)
  have sz_b5 : h0.size ≤ b5 := Nat.le_trans (Keep.refl h0 [r0]).1 (Nat.le_of_eq g5.symm)
  have KH5 : Keep h0 h5 [r0] := (Keep.refl h0 [r0]).ext E5
  have Zn5 : n0 ≤ h5.size := Nat.le_trans Z0 E5.1
  have V5 : Arv Z h5 b5 c5 .long (256 : Int32) [(.long (0 : Int64)), (.long (0 : Int64)), (.long (0 : Int64))] (.long (0 : Int64)) := (Arv.new A5 (by decide)).pad (pad_rep [] (.long (0 : Int64)) 3)
  have ks6 := own_c ks4 st5
  have f7 := E0.keep KH5
  have f8 := (F1.ext E5)
  obtain ⟨T9, h9, X9, e9, W9, st9⟩ := putF X5 hx hZ hown (host := "") (Or.inl (own_w hw 55 rfl)) Via.refl e5 f8 f7 (Or.inr ⟨(own_w hw 56 rfl), rfl, hnm⟩) (own_w hw 49 rfl) (ty := (.array .long)) (by decide) rfl rfl (g := (mkF m 10 #[vR r0] [(.ref b5), (.ref r0)])) rfl rfl (hb hby d8_10)
  have Fw9 := f8.same W9
  have KH9 : Keep h0 h9 [r0] := KH5.wr W9 (Or.inl (List.mem_of_getElem? (i := 0) rfl))
  have Zn9 : n0 ≤ h9.size := Nat.le_trans Zn5 (Keep.of_wr W9).1
  have N9 := Fr.snoc X9 N0 g_r0
  have ks10 := own_c ks6 st9
  have ks11 : own_R p e below (A0) (T9.setTop (mkF m 17 #[vR r0] [(.int 256), (.ref r0)])) := fun t k => ks10 t (by
    refine XS.aloadN X9.here hx rfl (hb hby d8_13) rfl rfl ?_
    refine XS.sipush X9.here hx rfl (hb hby d8_14) ?_
    exact k)
  have f12 := E0.keep KH9
  have f13 := (V5.other W9 (Ne.symm ne_r0_b5))
  obtain ⟨T14, h14, c14, X14, e14, E14, A14, O14, st14⟩ := newR X9 hx hZ hown (own_w hw 57 rfl) (own_w hw 58 rfl) e9 (g := (mkF m 17 #[vR r0] [(.int 256), (.ref r0)])) rfl (hb hby d8_17) rfl (by decide) (cap := 256) (by decide) (by decide) (by decide) (by decide)
  obtain ⟨b14, g14⟩ : ∃ z, z = h9.size := ⟨_, rfl⟩
  rw [← g14] at A14 st14
  have ne_r0_b14 : r0 ≠ b14 := Nat.ne_of_lt (Nat.lt_of_lt_of_le f12.lt (Nat.le_of_eq g14.symm))
  have ne_b5_b14 : b5 ≠ b14 := Nat.ne_of_lt (Nat.lt_of_lt_of_le f13.lt (Nat.le_of_eq g14.symm))
  have g_b14 : n0 ≤ b14 := Nat.le_trans Zn9 (Nat.le_of_eq g14.symm)
  have sz_b14 : h0.size ≤ b14 := Nat.le_trans KH9.1 (Nat.le_of_eq g14.symm)
  have KH14 : Keep h0 h14 [r0] := KH9.ext E14
  have Zn14 : n0 ≤ h14.size := Nat.le_trans Zn9 E14.1
  have V14 : Arv Z h14 b14 c14 (.object "java/lang/Object") (256 : Int32) [.null, .null, .null] .null := (Arv.new A14 (by decide)).pad (pad_rep [] .null 3)
  have ks15 := own_c ks11 st14
  have f16 := E0.keep KH14
  have f17 := (((F2.ext E5).other W9 (Or.inr (slot_ne (Or.inr (own_w hw 60 rfl)) (Or.inr (own_w hw 56 rfl)) (by decide) (t := (.array (.object "java/lang/Object"))) (t' := (.array .long)) (by decide) (by decide)))).ext E14)
  obtain ⟨T18, h18, X18, e18, W18, st18⟩ := putF X14 hx hZ hown (host := "") (Or.inl (own_w hw 59 rfl)) Via.refl e14 f17 f16 (Or.inr ⟨(own_w hw 60 rfl), rfl, hnm⟩) (own_w hw 49 rfl) (ty := (.array (.object "java/lang/Object"))) (by decide) rfl rfl (g := (mkF m 20 #[vR r0] [(.ref b14), (.ref r0)])) rfl rfl (hb hby d8_20)
  have Fw18 := f17.same W18
  have KH18 : Keep h0 h18 [r0] := KH14.wr W18 (Or.inl (List.mem_of_getElem? (i := 0) rfl))
  have Zn18 : n0 ≤ h18.size := Nat.le_trans Zn14 (Keep.of_wr W18).1
  have N18 := Fr.snoc X18 N9 g_r0
  have ks19 := own_c ks15 st18
  obtain ⟨fs, hr, hrun, hended, hW, hsame⟩ := X18.leave (v := none) (fun _ => rfl) hlk
  refine ⟨_, _, kz _ (ks19 _ ?_), hrun, hended, _, _, rfl, ?_, ⟨_, rfl⟩, hW, hsame.mono (by decide) (by decide)⟩
  · exact X18.returnOut hx Bd.returns (hb hby d8_23) hr
  · show Q8 Z r0 h0 n0 _ T18.heap _
    rw [e18]
    have f20 := ((Fw9.ext E14).other W18 (Or.inr (slot_ne (Or.inr (own_w hw 56 rfl)) (Or.inr (own_w hw 60 rfl)) (by decide) (t := (.array .long)) (t' := (.array (.object "java/lang/Object"))) (by decide) (by decide))))
    have f21 := ((((F3.ext E5).other W9 (Or.inr (slot_ne (Or.inl (own_w hw 79 rfl)) (Or.inr (own_w hw 56 rfl)) (by decide) (t := .int) (t' := (.array .long)) (by decide) (by decide)))).ext E14).other W18 (Or.inr (slot_ne (Or.inl (own_w hw 79 rfl)) (Or.inr (own_w hw 60 rfl)) (by decide) (t := .int) (t' := (.array (.object "java/lang/Object"))) (by decide) (by decide))))
    have f22 := ((f13.ext E14).other W18 (Ne.symm ne_r0_b5))
    have f23 := (V14.other W18 (Ne.symm ne_r0_b14))
    exact ⟨rfl, N18, KH18, b5, b14, _, _, f20, Fw18, f21, f22, f23, O14, g_b5, g_b14, sz_b5, sz_b14, ne_b5_b14⟩
theorem d9_0 : decode prog_25_method_15_code 0 = .ok (.aload_n 0, 1) := by decide +kernel
theorem d9_1 : decode prog_25_method_15_code 1 = .ok (.getfield 19, 3) := by decide +kernel
theorem d9_4 : decode prog_25_method_15_code 4 = .ok (.aload_n 0, 1) := by decide +kernel
theorem d9_5 : decode prog_25_method_15_code 5 = .ok (.getfield 15, 3) := by decide +kernel
theorem d9_8 : decode prog_25_method_15_code 8 = .ok (.arraylength, 1) := by decide +kernel
theorem d9_9 : decode prog_25_method_15_code 9 = .ok (.if_icmp .ne 40, 3) := by decide +kernel
theorem d9_49 : decode prog_25_method_15_code 49 = .ok (.aload_n 0, 1) := by decide +kernel
theorem d9_50 : decode prog_25_method_15_code 50 = .ok (.getfield 7, 3) := by decide +kernel
theorem d9_53 : decode prog_25_method_15_code 53 = .ok (.iload_n 1, 1) := by decide +kernel
theorem d9_54 : decode prog_25_method_15_code 54 = .ok (.aload_n 0, 1) := by decide +kernel
theorem d9_55 : decode prog_25_method_15_code 55 = .ok (.getfield 7, 3) := by decide +kernel
theorem d9_58 : decode prog_25_method_15_code 58 = .ok (.iload_n 1, 1) := by decide +kernel
theorem d9_59 : decode prog_25_method_15_code 59 = .ok (.iconst 1, 1) := by decide +kernel
theorem d9_60 : decode prog_25_method_15_code 60 = .ok (.iadd, 1) := by decide +kernel
theorem d9_61 : decode prog_25_method_15_code 61 = .ok (.aload_n 0, 1) := by decide +kernel
theorem d9_62 : decode prog_25_method_15_code 62 = .ok (.getfield 19, 3) := by decide +kernel
theorem d9_65 : decode prog_25_method_15_code 65 = .ok (.iload_n 1, 1) := by decide +kernel
theorem d9_66 : decode prog_25_method_15_code 66 = .ok (.isub, 1) := by decide +kernel
theorem d9_67 : decode prog_25_method_15_code 67 = .ok (.invokestatic 68, 3) := by decide +kernel
theorem d9_70 : decode prog_25_method_15_code 70 = .ok (.aload_n 0, 1) := by decide +kernel
theorem d9_71 : decode prog_25_method_15_code 71 = .ok (.getfield 15, 3) := by decide +kernel
theorem d9_74 : decode prog_25_method_15_code 74 = .ok (.iload_n 1, 1) := by decide +kernel
theorem d9_75 : decode prog_25_method_15_code 75 = .ok (.aload_n 0, 1) := by decide +kernel
theorem d9_76 : decode prog_25_method_15_code 76 = .ok (.getfield 15, 3) := by decide +kernel
theorem d9_79 : decode prog_25_method_15_code 79 = .ok (.iload_n 1, 1) := by decide +kernel
theorem d9_80 : decode prog_25_method_15_code 80 = .ok (.iconst 1, 1) := by decide +kernel
theorem d9_81 : decode prog_25_method_15_code 81 = .ok (.iadd, 1) := by decide +kernel
theorem d9_82 : decode prog_25_method_15_code 82 = .ok (.aload_n 0, 1) := by decide +kernel
theorem d9_83 : decode prog_25_method_15_code 83 = .ok (.getfield 19, 3) := by decide +kernel
theorem d9_86 : decode prog_25_method_15_code 86 = .ok (.iload_n 1, 1) := by decide +kernel
theorem d9_87 : decode prog_25_method_15_code 87 = .ok (.isub, 1) := by decide +kernel
theorem d9_88 : decode prog_25_method_15_code 88 = .ok (.invokestatic 68, 3) := by decide +kernel
theorem d9_91 : decode prog_25_method_15_code 91 = .ok (.aload_n 0, 1) := by decide +kernel
theorem d9_92 : decode prog_25_method_15_code 92 = .ok (.getfield 7, 3) := by decide +kernel
theorem d9_95 : decode prog_25_method_15_code 95 = .ok (.iload_n 1, 1) := by decide +kernel
theorem d9_96 : decode prog_25_method_15_code 96 = .ok (.aload_n 2, 1) := by decide +kernel
theorem d9_97 : decode prog_25_method_15_code 97 = .ok (.getfield 27, 3) := by decide +kernel
theorem d9_100 : decode prog_25_method_15_code 100 = .ok (.iconst 0, 1) := by decide +kernel
theorem d9_101 : decode prog_25_method_15_code 101 = .ok (.laload, 1) := by decide +kernel
theorem d9_102 : decode prog_25_method_15_code 102 = .ok (.lastore, 1) := by decide +kernel
theorem d9_103 : decode prog_25_method_15_code 103 = .ok (.aload_n 0, 1) := by decide +kernel
theorem d9_104 : decode prog_25_method_15_code 104 = .ok (.getfield 15, 3) := by decide +kernel
theorem d9_107 : decode prog_25_method_15_code 107 = .ok (.iload_n 1, 1) := by decide +kernel
theorem d9_108 : decode prog_25_method_15_code 108 = .ok (.aload_n 2, 1) := by decide +kernel
theorem d9_109 : decode prog_25_method_15_code 109 = .ok (.aastore, 1) := by decide +kernel
theorem d9_110 : decode prog_25_method_15_code 110 = .ok (.aload_n 0, 1) := by decide +kernel
theorem d9_111 : decode prog_25_method_15_code 111 = .ok (.dup, 1) := by decide +kernel
theorem d9_112 : decode prog_25_method_15_code 112 = .ok (.getfield 19, 3) := by decide +kernel
theorem d9_115 : decode prog_25_method_15_code 115 = .ok (.iconst 1, 1) := by decide +kernel
theorem d9_116 : decode prog_25_method_15_code 116 = .ok (.iadd, 1) := by decide +kernel
theorem d9_117 : decode prog_25_method_15_code 117 = .ok (.putfield 19, 3) := by decide +kernel
theorem d9_120 : decode prog_25_method_15_code 120 = .ok (.return_, 1) := by decide +kernel
theorem pn_9 : plainName "com/example/thin_feed/thinfeed/store/LongFloorMap" = true := by first | (simp [plainName, overriddenIn]; done) | decide +kernel
theorem ef_9 (m : MethodId) (x0 : Addr) (x1 : Int32) (x2 : Addr) : entryFrame m #[(.ref x0), (.int x1), (.ref x2)] 3 = mkF m 0 #[.val (.ref x0), .val (.int x1), .val (.ref x2)] [] := by first | (simp [entryFrame, mkF, argsToLocals, Value.category]; done) | rfl
def Q9 (Z : State) (r0 : Addr) (r2 : Addr) (f : Addr) (sh : Addr) (kf : ClassId) (ksh : ClassId) (sz : Int32) (x : Int64) (ka : Addr) (kka : ClassId) (h0 : Heap) (n0 : Nat) (v : Option Value) (h : Heap) (L : List Loc) : Prop := v = none ∧ Fr n0 L ∧ Keep h0 h [r0, f, sh] ∧ Fld Z h r0 "com/example/thin_feed/thinfeed/store/LongFloorMap" "firsts" "[J" (.ref f) ∧ Fld Z h r0 "com/example/thin_feed/thinfeed/store/LongFloorMap" "shelves" "[Lcom/example/thin_feed/thinfeed/store/LongFloorMap$Shelf;" (.ref sh) ∧ Fld Z h r0 "com/example/thin_feed/thinfeed/store/LongFloorMap" "shelfCount" "I" (.int 1) ∧ Fld Z h r0 "com/example/thin_feed/thinfeed/store/LongFloorMap" "size" "I" (.int sz) ∧ Arv Z h f kf .long 1 [.long (0 : Int64)] (.long (0 : Int64)) ∧ Arv Z h sh ksh (.object "com/example/thin_feed/thinfeed/store/LongFloorMap$Shelf") 1 [.ref r2] .null
set_option maxRecDepth 65536 in
set_option maxHeartbeats 40000000 in
theorem rm9 (l : Launch) (Z : State) (a0 : Array Value) (hw : ∀ d ∈ tables_1, d.before a0 Z = true) (ws : List Jvm.Cond) (r0 : Addr) (r2 : Addr) (f : Addr) (sh : Addr) (kf : ClassId) (ksh : ClassId) (sz : Int32) (x : Int64) (ka : Addr) (kka : ClassId) (h0 : Heap) (n0 : Nat) (Z0 : n0 ≤ h0.size) (E0 : Exa Z h0 r0 "com/example/thin_feed/thinfeed/store/LongFloorMap") (Ff : Fld Z h0 r0 "com/example/thin_feed/thinfeed/store/LongFloorMap" "firsts" "[J" (.ref f)) (Fsh : Fld Z h0 r0 "com/example/thin_feed/thinfeed/store/LongFloorMap" "shelves" "[Lcom/example/thin_feed/thinfeed/store/LongFloorMap$Shelf;" (.ref sh)) (Fc : Fld Z h0 r0 "com/example/thin_feed/thinfeed/store/LongFloorMap" "shelfCount" "I" (.int 0)) (Fz : Fld Z h0 r0 "com/example/thin_feed/thinfeed/store/LongFloorMap" "size" "I" (.int sz)) (Vf : Arv Z h0 f kf .long 1 [.long x] (.long (0 : Int64))) (Vs : Arv Z h0 sh ksh (.object "com/example/thin_feed/thinfeed/store/LongFloorMap$Shelf") 1 [.null] .null) (Os : Ovr Z ksh "com/example/thin_feed/thinfeed/store/LongFloorMap$Shelf") (g_r0 : n0 ≤ r0) (g_f : n0 ≤ f) (g_sh : n0 ≤ sh) (ne_r0_f : r0 ≠ f) (ne_r0_sh : r0 ≠ sh) (ne_f_sh : f ≠ sh) (E2 : Exa Z h0 r2 "com/example/thin_feed/thinfeed/store/LongFloorMap$Shelf") (Fk : Fld Z h0 r2 "com/example/thin_feed/thinfeed/store/LongFloorMap$Shelf" "keys" "[J" (.ref ka)) (Vk : Arv Z h0 ka kka .long 256 [.long (0 : Int64), .long (0 : Int64), .long (0 : Int64)] (.long (0 : Int64))) (ne_r0_r2 : r0 ≠ r2) (ne_r0_ka : r0 ≠ ka) (ne_f_r2 : f ≠ r2) (ne_f_ka : f ≠ ka) (ne_sh_r2 : sh ≠ r2) (ne_sh_ka : sh ≠ ka) :
    MetFree l (⟨"com/example/thin_feed/thinfeed/store/LongFloorMap", "insertShelf", "(ILcom/example/thin_feed/thinfeed/store/LongFloorMap$Shelf;)V"⟩ : MethodName) (head1 (Jvm.Cond.code (⟨"com/example/thin_feed/thinfeed/store/LongFloorMap", "insertShelf", "(ILcom/example/thin_feed/thinfeed/store/LongFloorMap$Shelf;)V"⟩ : MethodName) prog_25_method_15_code 3 none :: ws) ({ frames := 1, cells := 0, slots := 0, locals := 18 } : Room)) (fun a U => a = #[(.ref r0), (.int 0), (.ref r2)] ∧ Z.Warmed39 U.vm ∧ U.heap = h0) (fun _ _ _ _ _ => True) (fun _ U o U' => ∃ v L, o = .returned v ∧ Q9 Z r0 r2 f sh kf ksh sz x ka kka h0 n0 v U'.heap L ∧ FrameEnd U o U' L ({ frames := 1, cells := 0, slots := 0, locals := 18 } : Room).cells ({ frames := 1, cells := 0, slots := 0, locals := 18 } : Room).slots) := by
  refine MetFree.of_bodySF (plainFor_of_name pn_9) hisR ?_
  intro p e s m args below meth c s₁ Bd hml0 hP hK
  obtain ⟨rfl, hZ, hh⟩ := hP
  have hx := Bd.exec
  have hby := Bd.bytes
  have hml : c.maxLocals = 3 := hml0
  have hown : s.vm.findClass "com/example/thin_feed/thinfeed/store/LongFloorMap" = some m.cls := findClass_of_methodNamed Bd.named
  have hnm := (name_of_methodNamed Bd.named Bd.method).1
  have hlk : meth.locks = false := by first | exact BodyLoose.notSynchronized Bd | exact Body.notSynchronized Bd
  have X0 : Stand p l e ({ frames := 1, cells := 0, slots := 0, locals := 18 } : Room) s m #[(.ref r0), (.int 0), (.ref r2)] below meth c s₁ [] 0 0 := Stand.of_body Bd
  have e0 : s₁.heap = h0 := by rw [← hh, Bd.state]; rfl
  have N0 := Fr.nil n0
  have k0 : own_R p e below (s₁.setTop (entryFrame m #[(.ref r0), (.int 0), (.ref r2)] 3)) (s₁.setTop (mkF m 0 #[vR r0, vI 0, vR r2] [])) := fun t k => castTop (ef_9 m r0 (0 : Int32) r2) k
  obtain ⟨A0, hA0⟩ : ∃ z, z = s₁.setTop (entryFrame m #[(.ref r0), (.int 0), (.ref r2)] 3) := ⟨_, rfl⟩
  rw [← hA0] at k0
  have kz : ∀ t, Steps p.tables e below A0 t → Steps p.tables e below (s₁.setTop (entryFrame m #[(.ref r0), (.int 0), (.ref r2)] 3)) t := fun t q => hA0 ▸ q
  have ks1 : own_R p e below (A0) (s₁.setTop (mkF m 1 #[vR r0, vI 0, vR r2] [(.ref r0)])) := fun t k => k0 t (by
    refine XS.aloadN X0.here hx rfl (hb hby d9_0) rfl rfl ?_
    exact k)
  obtain ⟨T2, X2, e2, st2⟩ := getF X0 hx hZ hown (host := "") (Or.inl (own_w hw 36 rfl)) Via.refl e0 Fc (g := (mkF m 1 #[vR r0, vI 0, vR r2] [(.ref r0)])) rfl rfl (hb hby d9_1)
  have ks3 := own_c ks1 st2
  have ks4 : own_R p e below (A0) (T2.setTop (mkF m 5 #[vR r0, vI 0, vR r2] [(.ref r0), (.int 0)])) := fun t k => ks3 t (by
    refine XS.aloadN X2.here hx rfl (hb hby d9_4) rfl rfl ?_
    exact k)
  obtain ⟨T5, X5, e5, st5⟩ := getF X2 hx hZ hown (host := "") (Or.inl (own_w hw 14 rfl)) Via.refl e2 Fsh (g := (mkF m 5 #[vR r0, vI 0, vR r2] [(.ref r0), (.int 0)])) rfl rfl (hb hby d9_5)
  have ks6 := own_c ks4 st5
  obtain ⟨cl7, Ar7, qa7, S7, Na7, Ha7, Ga7⟩ := id Vs
  have ks8 : own_R p e below (A0) (T5.setTop (mkF m 50 #[vR r0, vI 0, vR r2] [(.ref r0)])) := fun t k => ks6 t (by
    refine X5.arraylength hx (by rw [e5]; exact Ar7.1) (State.isArrayOf_alike hZ.alike Ar7.2.1) (g := (mkF m 8 #[vR r0, vI 0, vR r2] [(.ref sh), (.int 0)])) rfl rfl (hb hby d9_8) _ ?_
    rw [len_of S7 Na7]
    refine XS.icmpYes X5.here hx rfl (pc0 := 9) (pc' := 49) rfl (hb hby d9_9) rfl (feq (by decide)).2 (by decide) (by decide) ?_
    refine XS.aloadN X5.here hx rfl (hb hby d9_49) rfl rfl ?_
    exact k)
  obtain ⟨T9, X9, e9, st9⟩ := getF X5 hx hZ hown (host := "") (Or.inl (own_w hw 10 rfl)) Via.refl e5 Ff (g := (mkF m 50 #[vR r0, vI 0, vR r2] [(.ref r0)])) rfl rfl (hb hby d9_50)
  have ks10 := own_c ks8 st9
  have ks11 : own_R p e below (A0) (T9.setTop (mkF m 55 #[vR r0, vI 0, vR r2] [(.ref r0), (.int 0), (.ref f)])) := fun t k => ks10 t (by
    refine XS.iloadN X9.here hx rfl (hb hby d9_53) rfl ?_
    refine XS.aloadN X9.here hx rfl (hb hby d9_54) rfl rfl ?_
    exact k)
  obtain ⟨T12, X12, e12, st12⟩ := getF X9 hx hZ hown (host := "") (Or.inl (own_w hw 10 rfl)) Via.refl e9 Ff (g := (mkF m 55 #[vR r0, vI 0, vR r2] [(.ref r0), (.int 0), (.ref f)])) rfl rfl (hb hby d9_55)
  have ks13 := own_c ks11 st12
  have ks14 : own_R p e below (A0) (T12.setTop (mkF m 62 #[vR r0, vI 0, vR r2] [(.ref r0), (.int 1), (.ref f), (.int 0), (.ref f)])) := fun t k => ks13 t (by
    refine XS.iloadN X12.here hx rfl (hb hby d9_58) rfl ?_
    refine XS.iconst X12.here hx rfl (hb hby d9_59) ?_
    refine XS.iadd X12.here hx rfl (hb hby d9_60) rfl ?_
    show Steps p.tables e below (T12.setTop (mkF m 61 #[vR r0, vI 0, vR r2] [(.int 1), (.ref f), (.int 0), (.ref f)])) _
    refine XS.aloadN X12.here hx rfl (hb hby d9_61) rfl rfl ?_
    exact k)
  obtain ⟨T15, X15, e15, st15⟩ := getF X12 hx hZ hown (host := "") (Or.inl (own_w hw 36 rfl)) Via.refl e12 Fc (g := (mkF m 62 #[vR r0, vI 0, vR r2] [(.ref r0), (.int 1), (.ref f), (.int 0), (.ref f)])) rfl rfl (hb hby d9_62)
  have ks16 := own_c ks14 st15
  have ks17 : own_R p e below (A0) (T15.setTop (mkF m 67 #[vR r0, vI 0, vR r2] [(.int 0), (.int 1), (.ref f), (.int 0), (.ref f)])) := fun t k => ks16 t (by
    refine XS.iloadN X15.here hx rfl (hb hby d9_65) rfl ?_
    refine XS.isub X15.here hx rfl (hb hby d9_66) rfl ?_
    exact k)
  obtain ⟨T18, h18, L18, X18, e18, N18, Kq18, Vr18, st18⟩ := cpA X15 hx hZ hown (own_w hw 65 rfl) (own_w hw 68 rfl) (own_w hw 66 rfl) (own_w hw 67 rfl) e15 Vf Vf (sp := (0 : Int32)) (dp := (1 : Int32)) (nn := (0 : Int32)) (us := []) (Or.inl ⟨rfl, rfl⟩) (by decide) (by decide) (by decide) (by decide) (by decide) rfl (Nat.le_of_ble_eq_true rfl) N0 g_f (g := (mkF m 67 #[vR r0, vI 0, vR r2] [(.int 0), (.int 1), (.ref f), (.int 0), (.ref f)])) rfl (by rw [hml]; rfl) (rest := []) rfl (hb hby d9_67) (by decide) (W := 0) (by show 2 * 0 + _ ≤ _; exact Nat.le_of_eq rfl) (by decide)
  have V18 : Arv Z h18 f kf .long (1 : Int32) [(.long x)] (.long (0 : Int64)) := Vr18
  have KH18 : Keep h0 h18 [r0, f, sh] := (Keep.refl h0 [r0, f, sh]).trans Kq18 (allS (Or.inl (List.mem_of_getElem? (i := 1) rfl)) all0)
  have Zn18 : n0 ≤ h18.size := Nat.le_trans Z0 Kq18.1
  have ks19 := own_c ks17 st18
  have ks20 : own_R p e below (A0) (T18.setTop (mkF m 71 #[vR r0, vI 0, vR r2] [(.ref r0)])) := fun t k => ks19 t (by
    refine XS.aloadN X18.here hx rfl (hb hby d9_70) rfl rfl ?_
    exact k)
  have f21 := (Fsh.keep Kq18 (ninS ne_r0_f nin0))
  obtain ⟨T22, X22, e22, st22⟩ := getF X18 hx hZ hown (host := "") (Or.inl (own_w hw 14 rfl)) Via.refl e18 f21 (g := (mkF m 71 #[vR r0, vI 0, vR r2] [(.ref r0)])) rfl rfl (hb hby d9_71)
  have ks23 := own_c ks20 st22
  have ks24 : own_R p e below (A0) (T22.setTop (mkF m 76 #[vR r0, vI 0, vR r2] [(.ref r0), (.int 0), (.ref sh)])) := fun t k => ks23 t (by
    refine XS.iloadN X22.here hx rfl (hb hby d9_74) rfl ?_
    refine XS.aloadN X22.here hx rfl (hb hby d9_75) rfl rfl ?_
    exact k)
  obtain ⟨T25, X25, e25, st25⟩ := getF X22 hx hZ hown (host := "") (Or.inl (own_w hw 14 rfl)) Via.refl e22 f21 (g := (mkF m 76 #[vR r0, vI 0, vR r2] [(.ref r0), (.int 0), (.ref sh)])) rfl rfl (hb hby d9_76)
  have ks26 := own_c ks24 st25
  have ks27 : own_R p e below (A0) (T25.setTop (mkF m 83 #[vR r0, vI 0, vR r2] [(.ref r0), (.int 1), (.ref sh), (.int 0), (.ref sh)])) := fun t k => ks26 t (by
    refine XS.iloadN X25.here hx rfl (hb hby d9_79) rfl ?_
    refine XS.iconst X25.here hx rfl (hb hby d9_80) ?_
    refine XS.iadd X25.here hx rfl (hb hby d9_81) rfl ?_
    show Steps p.tables e below (T25.setTop (mkF m 82 #[vR r0, vI 0, vR r2] [(.int 1), (.ref sh), (.int 0), (.ref sh)])) _
    refine XS.aloadN X25.here hx rfl (hb hby d9_82) rfl rfl ?_
    exact k)
  have f28 := (Fc.keep Kq18 (ninS ne_r0_f nin0))
  obtain ⟨T29, X29, e29, st29⟩ := getF X25 hx hZ hown (host := "") (Or.inl (own_w hw 36 rfl)) Via.refl e25 f28 (g := (mkF m 83 #[vR r0, vI 0, vR r2] [(.ref r0), (.int 1), (.ref sh), (.int 0), (.ref sh)])) rfl rfl (hb hby d9_83)
  have ks30 := own_c ks27 st29
  have ks31 : own_R p e below (A0) (T29.setTop (mkF m 88 #[vR r0, vI 0, vR r2] [(.int 0), (.int 1), (.ref sh), (.int 0), (.ref sh)])) := fun t k => ks30 t (by
    refine XS.iloadN X29.here hx rfl (hb hby d9_86) rfl ?_
    refine XS.isub X29.here hx rfl (hb hby d9_87) rfl ?_
    exact k)
  have f32 := (Vs.keep Kq18 (ninS (Ne.symm ne_f_sh) nin0))
  obtain ⟨T33, h33, L33, X33, e33, N33, Kq33, Vr33, st33⟩ := cpA X29 hx hZ hown (own_w hw 65 rfl) (own_w hw 68 rfl) (own_w hw 66 rfl) (own_w hw 67 rfl) e29 f32 f32 (sp := (0 : Int32)) (dp := (1 : Int32)) (nn := (0 : Int32)) (us := []) (Or.inr ⟨rfl, rfl, trivial⟩) (by decide) (by decide) (by decide) (by decide) (by decide) rfl (Nat.le_of_ble_eq_true rfl) N18 g_sh (g := (mkF m 88 #[vR r0, vI 0, vR r2] [(.int 0), (.int 1), (.ref sh), (.int 0), (.ref sh)])) rfl (by rw [hml]; rfl) (rest := []) rfl (hb hby d9_88) (by decide) (W := 0) (by show 2 * 0 + _ ≤ _; exact Nat.le_of_eq rfl) (by decide)
  have V33 : Arv Z h33 sh ksh (.object "com/example/thin_feed/thinfeed/store/LongFloorMap$Shelf") (1 : Int32) [.null] .null := Vr33
  have KH33 : Keep h0 h33 [r0, f, sh] := KH18.trans Kq33 (allS (Or.inl (List.mem_of_getElem? (i := 2) rfl)) all0)
  have Zn33 : n0 ≤ h33.size := Nat.le_trans Zn18 Kq33.1
  have ks34 := own_c ks31 st33
  have ks35 : own_R p e below (A0) (T33.setTop (mkF m 92 #[vR r0, vI 0, vR r2] [(.ref r0)])) := fun t k => ks34 t (by
    refine XS.aloadN X33.here hx rfl (hb hby d9_91) rfl rfl ?_
    exact k)
  have f36 := ((Ff.keep Kq18 (ninS ne_r0_f nin0)).keep Kq33 (ninS ne_r0_sh nin0))
  obtain ⟨T37, X37, e37, st37⟩ := getF X33 hx hZ hown (host := "") (Or.inl (own_w hw 10 rfl)) Via.refl e33 f36 (g := (mkF m 92 #[vR r0, vI 0, vR r2] [(.ref r0)])) rfl rfl (hb hby d9_92)
  have ks38 := own_c ks35 st37
  have ks39 : own_R p e below (A0) (T37.setTop (mkF m 97 #[vR r0, vI 0, vR r2] [(.ref r2), (.int 0), (.ref f)])) := fun t k => ks38 t (by
    refine XS.iloadN X37.here hx rfl (hb hby d9_95) rfl ?_
    refine XS.aloadN X37.here hx rfl (hb hby d9_96) rfl rfl ?_
    exact k)
  have f40 := Fk.keep KH33 (ninS (Ne.symm ne_r0_r2) (ninS (Ne.symm ne_f_r2) (ninS (Ne.symm ne_sh_r2) nin0)))
  obtain ⟨T41, X41, e41, st41⟩ := own_getFR X37 hx hZ hown (own_w hw 69 rfl) e37 f40 (g := (mkF m 97 #[vR r0, vI 0, vR r2] [(.ref r2), (.int 0), (.ref f)])) rfl rfl (hb hby d9_97)
  have ks42 := own_c ks39 st41
  have ks43 : own_R p e below (A0) (T41.setTop (mkF m 101 #[vR r0, vI 0, vR r2] [(.int 0), (.ref ka), (.int 0), (.ref f)])) := fun t k => ks42 t (by
    refine XS.iconst X41.here hx rfl (hb hby d9_100) ?_
    exact k)
  have f44 := Vk.keep KH33 (ninS (Ne.symm ne_r0_ka) (ninS (Ne.symm ne_f_ka) (ninS (Ne.symm ne_sh_ka) nin0)))
  obtain ⟨cl45, Ar45, qa45, S45, Na45, Ha45, Ga45⟩ := id f44
  have ks46 : own_R p e below (A0) (T41.setTop (mkF m 102 #[vR r0, vI 0, vR r2] [(.long (0 : Int64)), (.int 0), (.ref f)])) := fun t k => ks43 t (by
    refine X41.laload hx (j := (0 : Int32)) (v := (.long (0 : Int64))) (by rw [e41]; exact Ar45.1) (State.isArrayOf_alike hZ.alike Ar45.2.1) Ar45.2.2 (inb_of S45 ⟨by decide, by decide⟩) (Has.at Ha45 (inb_of S45 ⟨by decide, by decide⟩) rfl) (g := (mkF m 101 #[vR r0, vI 0, vR r2] [(.int 0), (.ref ka), (.int 0), (.ref f)])) rfl rfl (hb hby d9_101) _ ?_
    exact k)
  have f47 := (V18.keep Kq33 (ninS ne_f_sh nin0))
  obtain ⟨cl48, Ar48, qa48, S48, Na48, Ha48, Ga48⟩ := id f47
  have hin48 : ¬ ((0 : Int32) < 0 ∨ cl48.slots.size ≤ ((0 : Int32)).toNatClampNeg) := inb_of S48 ⟨by decide, by decide⟩
  obtain ⟨T49, h49, X49, e49, W49, st49⟩ := stJ X41 hx hZ e41 Ar48 (j := (0 : Int32)) hin48 (g := (mkF m 102 #[vR r0, vI 0, vR r2] [(.long (0 : Int64)), (.int 0), (.ref f)])) rfl rfl (hb hby d9_102)
  have V49 : Arv Z h49 f kf .long (1 : Int32) [(.long (0 : Int64))] (.long (0 : Int64)) := Arv.set Ar48 qa48 S48 Na48 Ha48 Ga48 rfl W49 0 rfl (Nat.le_of_ble_eq_true rfl)
  have KH49 : Keep h0 h49 [r0, f, sh] := KH33.wr W49 (Or.inl (List.mem_of_getElem? (i := 1) rfl))
  have Zn49 : n0 ≤ h49.size := Nat.le_trans Zn33 (Keep.of_wr W49).1
  have N49 := Fr.snoc X49 N33 g_f
  have ks50 := own_c ks46 st49
  have ks51 : own_R p e below (A0) (T49.setTop (mkF m 104 #[vR r0, vI 0, vR r2] [(.ref r0)])) := fun t k => ks50 t (by
    refine XS.aloadN X49.here hx rfl (hb hby d9_103) rfl rfl ?_
    exact k)
  have f52 := ((f21.keep Kq33 (ninS ne_r0_sh nin0)).other W49 (Or.inl ne_r0_f))
  obtain ⟨T53, X53, e53, st53⟩ := getF X49 hx hZ hown (host := "") (Or.inl (own_w hw 14 rfl)) Via.refl e49 f52 (g := (mkF m 104 #[vR r0, vI 0, vR r2] [(.ref r0)])) rfl rfl (hb hby d9_104)
  have ks54 := own_c ks51 st53
  have ks55 : own_R p e below (A0) (T53.setTop (mkF m 109 #[vR r0, vI 0, vR r2] [(.ref r2), (.int 0), (.ref sh)])) := fun t k => ks54 t (by
    refine XS.iloadN X53.here hx rfl (hb hby d9_107) rfl ?_
    refine XS.aloadN X53.here hx rfl (hb hby d9_108) rfl rfl ?_
    exact k)
  have f56 := (V33.other W49 (Ne.symm ne_f_sh))
  obtain ⟨cl57, Ar57, qa57, S57, Na57, Ha57, Ga57⟩ := id f56
  have f58 := E2.keep KH49
  have hin57 : ¬ ((0 : Int32) < 0 ∨ cl57.slots.size ≤ ((0 : Int32)).toNatClampNeg) := inb_of S57 ⟨by decide, by decide⟩
  obtain ⟨T59, h59, X59, e59, W59, st59⟩ := stR X53 hx hZ e53 Ar57 (j := (0 : Int32)) hin57 rfl (Sto.ofV Ar57 qa57 Os (Ins.self f58)) (g := (mkF m 109 #[vR r0, vI 0, vR r2] [(.ref r2), (.int 0), (.ref sh)])) rfl rfl (hb hby d9_109)
  have V59 : Arv Z h59 sh ksh (.object "com/example/thin_feed/thinfeed/store/LongFloorMap$Shelf") (1 : Int32) [(.ref r2)] .null := Arv.set Ar57 qa57 S57 Na57 Ha57 Ga57 rfl W59 0 rfl (Nat.le_of_ble_eq_true rfl)
  have KH59 : Keep h0 h59 [r0, f, sh] := KH49.wr W59 (Or.inl (List.mem_of_getElem? (i := 2) rfl))
  have Zn59 : n0 ≤ h59.size := Nat.le_trans Zn49 (Keep.of_wr W59).1
  have N59 := Fr.snoc X59 N49 g_sh
  have ks60 := own_c ks55 st59
  have ks61 : own_R p e below (A0) (T59.setTop (mkF m 112 #[vR r0, vI 0, vR r2] [(.ref r0), (.ref r0)])) := fun t k => ks60 t (by
    refine XS.aloadN X59.here hx rfl (hb hby d9_110) rfl rfl ?_
    refine XS.dup X59.here hx rfl (hb hby d9_111) rfl rfl ?_
    exact k)
  have f62 := (((f28.keep Kq33 (ninS ne_r0_sh nin0)).other W49 (Or.inl ne_r0_f)).other W59 (Or.inl ne_r0_sh))
  obtain ⟨T63, X63, e63, st63⟩ := getF X59 hx hZ hown (host := "") (Or.inl (own_w hw 36 rfl)) Via.refl e59 f62 (g := (mkF m 112 #[vR r0, vI 0, vR r2] [(.ref r0), (.ref r0)])) rfl rfl (hb hby d9_112)
  have ks64 := own_c ks61 st63
  have ks65 : own_R p e below (A0) (T63.setTop (mkF m 117 #[vR r0, vI 0, vR r2] [(.int 1), (.ref r0)])) := fun t k => ks64 t (by
    refine XS.iconst X63.here hx rfl (hb hby d9_115) ?_
    refine XS.iadd X63.here hx rfl (hb hby d9_116) rfl ?_
    exact k)
  have f66 := E0.keep KH59
  obtain ⟨T67, h67, X67, e67, W67, st67⟩ := putF X63 hx hZ hown (host := "") (Or.inl (own_w hw 36 rfl)) Via.refl e63 f62 f66 (Or.inl (own_w hw 37 rfl)) (own_w hw 1 rfl) (ty := .int) (by decide) rfl rfl (g := (mkF m 117 #[vR r0, vI 0, vR r2] [(.int 1), (.ref r0)])) rfl rfl (hb hby d9_117)
  have Fw67 := f62.same W67
  have KH67 : Keep h0 h67 [r0, f, sh] := KH59.wr W67 (Or.inl (List.mem_of_getElem? (i := 0) rfl))
  have Zn67 : n0 ≤ h67.size := Nat.le_trans Zn59 (Keep.of_wr W67).1
  have N67 := Fr.snoc X67 N59 g_r0
  have ks68 := own_c ks65 st67
  obtain ⟨fs, hr, hrun, hended, hW, hsame⟩ := X67.leave (v := none) (fun _ => rfl) hlk
  refine ⟨_, _, kz _ (ks68 _ ?_), hrun, hended, _, _, rfl, ?_, ⟨_, rfl⟩, hW, hsame.mono (by decide) (by decide)⟩
  · exact X67.returnOut hx Bd.returns (hb hby d9_120) hr
  · show Q9 Z r0 r2 f sh kf ksh sz x ka kka h0 n0 _ T67.heap _
    rw [e67]
    have f69 := (((f36.other W49 (Or.inl ne_r0_f)).other W59 (Or.inl ne_r0_sh)).other W67 (Or.inr (slot_ne (Or.inl (own_w hw 11 rfl)) (Or.inl (own_w hw 37 rfl)) (by decide) (t := (.array .long)) (t' := .int) (by decide) (by decide))))
    have f70 := ((f52.other W59 (Or.inl ne_r0_sh)).other W67 (Or.inr (slot_ne (Or.inl (own_w hw 15 rfl)) (Or.inl (own_w hw 37 rfl)) (by decide) (t := (.array (.object "com/example/thin_feed/thinfeed/store/LongFloorMap$Shelf"))) (t' := .int) (by decide) (by decide))))
    have f71 := (((((Fz.keep Kq18 (ninS ne_r0_f nin0)).keep Kq33 (ninS ne_r0_sh nin0)).other W49 (Or.inl ne_r0_f)).other W59 (Or.inl ne_r0_sh)).other W67 (Or.inr (slot_ne (Or.inl (own_w hw 83 rfl)) (Or.inl (own_w hw 37 rfl)) (by decide) (t := .int) (t' := .int) (by decide) (by decide))))
    have f72 := ((V49.other W59 ne_f_sh).other W67 (Ne.symm ne_r0_f))
    have f73 := (V59.other W67 (Ne.symm ne_r0_sh))
    exact ⟨rfl, N67, KH67, f69, f70, Fw67, f71, f72, f73⟩
theorem d16_0 : decode prog_25_method_16_code 0 = .ok (.aload_n 0, 1) := by decide +kernel
theorem d16_1 : decode prog_25_method_16_code 1 = .ok (.getfield 7, 3) := by decide +kernel
theorem d16_4 : decode prog_25_method_16_code 4 = .ok (.iload_n 1, 1) := by decide +kernel
theorem d16_5 : decode prog_25_method_16_code 5 = .ok (.iconst 1, 1) := by decide +kernel
theorem d16_6 : decode prog_25_method_16_code 6 = .ok (.iadd, 1) := by decide +kernel
theorem d16_7 : decode prog_25_method_16_code 7 = .ok (.aload_n 0, 1) := by decide +kernel
theorem d16_8 : decode prog_25_method_16_code 8 = .ok (.getfield 7, 3) := by decide +kernel
theorem d16_11 : decode prog_25_method_16_code 11 = .ok (.iload_n 1, 1) := by decide +kernel
theorem d16_12 : decode prog_25_method_16_code 12 = .ok (.aload_n 0, 1) := by decide +kernel
theorem d16_13 : decode prog_25_method_16_code 13 = .ok (.getfield 19, 3) := by decide +kernel
theorem d16_16 : decode prog_25_method_16_code 16 = .ok (.iload_n 1, 1) := by decide +kernel
theorem d16_17 : decode prog_25_method_16_code 17 = .ok (.isub, 1) := by decide +kernel
theorem d16_18 : decode prog_25_method_16_code 18 = .ok (.iconst 1, 1) := by decide +kernel
theorem d16_19 : decode prog_25_method_16_code 19 = .ok (.isub, 1) := by decide +kernel
theorem d16_20 : decode prog_25_method_16_code 20 = .ok (.invokestatic 68, 3) := by decide +kernel
theorem d16_23 : decode prog_25_method_16_code 23 = .ok (.aload_n 0, 1) := by decide +kernel
theorem d16_24 : decode prog_25_method_16_code 24 = .ok (.getfield 15, 3) := by decide +kernel
theorem d16_27 : decode prog_25_method_16_code 27 = .ok (.iload_n 1, 1) := by decide +kernel
theorem d16_28 : decode prog_25_method_16_code 28 = .ok (.iconst 1, 1) := by decide +kernel
theorem d16_29 : decode prog_25_method_16_code 29 = .ok (.iadd, 1) := by decide +kernel
theorem d16_30 : decode prog_25_method_16_code 30 = .ok (.aload_n 0, 1) := by decide +kernel
theorem d16_31 : decode prog_25_method_16_code 31 = .ok (.getfield 15, 3) := by decide +kernel
theorem d16_34 : decode prog_25_method_16_code 34 = .ok (.iload_n 1, 1) := by decide +kernel
theorem d16_35 : decode prog_25_method_16_code 35 = .ok (.aload_n 0, 1) := by decide +kernel
theorem d16_36 : decode prog_25_method_16_code 36 = .ok (.getfield 19, 3) := by decide +kernel
theorem d16_39 : decode prog_25_method_16_code 39 = .ok (.iload_n 1, 1) := by decide +kernel
theorem d16_40 : decode prog_25_method_16_code 40 = .ok (.isub, 1) := by decide +kernel
theorem d16_41 : decode prog_25_method_16_code 41 = .ok (.iconst 1, 1) := by decide +kernel
theorem d16_42 : decode prog_25_method_16_code 42 = .ok (.isub, 1) := by decide +kernel
theorem d16_43 : decode prog_25_method_16_code 43 = .ok (.invokestatic 68, 3) := by decide +kernel
theorem d16_46 : decode prog_25_method_16_code 46 = .ok (.aload_n 0, 1) := by decide +kernel
theorem d16_47 : decode prog_25_method_16_code 47 = .ok (.dup, 1) := by decide +kernel
theorem d16_48 : decode prog_25_method_16_code 48 = .ok (.getfield 19, 3) := by decide +kernel
theorem d16_51 : decode prog_25_method_16_code 51 = .ok (.iconst 1, 1) := by decide +kernel
theorem d16_52 : decode prog_25_method_16_code 52 = .ok (.isub, 1) := by decide +kernel
theorem d16_53 : decode prog_25_method_16_code 53 = .ok (.putfield 19, 3) := by decide +kernel
theorem d16_56 : decode prog_25_method_16_code 56 = .ok (.aload_n 0, 1) := by decide +kernel
theorem d16_57 : decode prog_25_method_16_code 57 = .ok (.getfield 15, 3) := by decide +kernel
theorem d16_60 : decode prog_25_method_16_code 60 = .ok (.aload_n 0, 1) := by decide +kernel
theorem d16_61 : decode prog_25_method_16_code 61 = .ok (.getfield 19, 3) := by decide +kernel
theorem d16_64 : decode prog_25_method_16_code 64 = .ok (.aconst_null, 1) := by decide +kernel
theorem d16_65 : decode prog_25_method_16_code 65 = .ok (.aastore, 1) := by decide +kernel
theorem d16_66 : decode prog_25_method_16_code 66 = .ok (.return_, 1) := by decide +kernel
theorem pn_16 : plainName "com/example/thin_feed/thinfeed/store/LongFloorMap" = true := by first | (simp [plainName, overriddenIn]; done) | decide +kernel
theorem ef_16 (m : MethodId) (x0 : Addr) (x1 : Int32) : entryFrame m #[(.ref x0), (.int x1)] 2 = mkF m 0 #[.val (.ref x0), .val (.int x1)] [] := by first | (simp [entryFrame, mkF, argsToLocals, Value.category]; done) | rfl
def Q16 (Z : State) (r0 : Addr) (f : Addr) (sh : Addr) (kf : ClassId) (ksh : ClassId) (sz : Int32) (x : Int64) (ob : Addr) (h0 : Heap) (n0 : Nat) (v : Option Value) (h : Heap) (L : List Loc) : Prop := v = none ∧ Fr n0 L ∧ Keep h0 h [r0, f, sh] ∧ Fld Z h r0 "com/example/thin_feed/thinfeed/store/LongFloorMap" "firsts" "[J" (.ref f) ∧ Fld Z h r0 "com/example/thin_feed/thinfeed/store/LongFloorMap" "shelves" "[Lcom/example/thin_feed/thinfeed/store/LongFloorMap$Shelf;" (.ref sh) ∧ Fld Z h r0 "com/example/thin_feed/thinfeed/store/LongFloorMap" "shelfCount" "I" (.int 0) ∧ Fld Z h r0 "com/example/thin_feed/thinfeed/store/LongFloorMap" "size" "I" (.int sz) ∧ Arv Z h f kf .long 1 [.long x] (.long (0 : Int64)) ∧ Arv Z h sh ksh (.object "com/example/thin_feed/thinfeed/store/LongFloorMap$Shelf") 1 [.null] .null
set_option maxRecDepth 65536 in
set_option maxHeartbeats 40000000 in
theorem rm16 (l : Launch) (Z : State) (a0 : Array Value) (hw : ∀ d ∈ tables_1, d.before a0 Z = true) (ws : List Jvm.Cond) (r0 : Addr) (f : Addr) (sh : Addr) (kf : ClassId) (ksh : ClassId) (sz : Int32) (x : Int64) (ob : Addr) (h0 : Heap) (n0 : Nat) (Z0 : n0 ≤ h0.size) (E0 : Exa Z h0 r0 "com/example/thin_feed/thinfeed/store/LongFloorMap") (Ff : Fld Z h0 r0 "com/example/thin_feed/thinfeed/store/LongFloorMap" "firsts" "[J" (.ref f)) (Fsh : Fld Z h0 r0 "com/example/thin_feed/thinfeed/store/LongFloorMap" "shelves" "[Lcom/example/thin_feed/thinfeed/store/LongFloorMap$Shelf;" (.ref sh)) (Fc : Fld Z h0 r0 "com/example/thin_feed/thinfeed/store/LongFloorMap" "shelfCount" "I" (.int 1)) (Fz : Fld Z h0 r0 "com/example/thin_feed/thinfeed/store/LongFloorMap" "size" "I" (.int sz)) (Vf : Arv Z h0 f kf .long 1 [.long x] (.long (0 : Int64))) (Vs : Arv Z h0 sh ksh (.object "com/example/thin_feed/thinfeed/store/LongFloorMap$Shelf") 1 [.ref ob] .null) (Os : Ovr Z ksh "com/example/thin_feed/thinfeed/store/LongFloorMap$Shelf") (g_r0 : n0 ≤ r0) (g_f : n0 ≤ f) (g_sh : n0 ≤ sh) (ne_r0_f : r0 ≠ f) (ne_r0_sh : r0 ≠ sh) (ne_f_sh : f ≠ sh) :
    MetFree l (⟨"com/example/thin_feed/thinfeed/store/LongFloorMap", "removeShelf", "(I)V"⟩ : MethodName) (head1 (Jvm.Cond.code (⟨"com/example/thin_feed/thinfeed/store/LongFloorMap", "removeShelf", "(I)V"⟩ : MethodName) prog_25_method_16_code 2 none :: ws) ({ frames := 1, cells := 0, slots := 0, locals := 18 } : Room)) (fun a U => a = #[(.ref r0), (.int 0)] ∧ Z.Warmed39 U.vm ∧ U.heap = h0) (fun _ _ _ _ _ => True) (fun _ U o U' => ∃ v L, o = .returned v ∧ Q16 Z r0 f sh kf ksh sz x ob h0 n0 v U'.heap L ∧ FrameEnd U o U' L ({ frames := 1, cells := 0, slots := 0, locals := 18 } : Room).cells ({ frames := 1, cells := 0, slots := 0, locals := 18 } : Room).slots) := by
  refine MetFree.of_bodySF (plainFor_of_name pn_16) hisR ?_
  intro p e s m args below meth c s₁ Bd hml0 hP hK
  obtain ⟨rfl, hZ, hh⟩ := hP
  have hx := Bd.exec
  have hby := Bd.bytes
  have hml : c.maxLocals = 2 := hml0
  have hown : s.vm.findClass "com/example/thin_feed/thinfeed/store/LongFloorMap" = some m.cls := findClass_of_methodNamed Bd.named
  have hnm := (name_of_methodNamed Bd.named Bd.method).1
  have hlk : meth.locks = false := by first | exact BodyLoose.notSynchronized Bd | exact Body.notSynchronized Bd
  have X0 : Stand p l e ({ frames := 1, cells := 0, slots := 0, locals := 18 } : Room) s m #[(.ref r0), (.int 0)] below meth c s₁ [] 0 0 := Stand.of_body Bd
  have e0 : s₁.heap = h0 := by rw [← hh, Bd.state]; rfl
  have N0 := Fr.nil n0
  have k0 : own_R p e below (s₁.setTop (entryFrame m #[(.ref r0), (.int 0)] 2)) (s₁.setTop (mkF m 0 #[vR r0, vI 0] [])) := fun t k => castTop (ef_16 m r0 (0 : Int32)) k
  obtain ⟨A0, hA0⟩ : ∃ z, z = s₁.setTop (entryFrame m #[(.ref r0), (.int 0)] 2) := ⟨_, rfl⟩
  rw [← hA0] at k0
  have kz : ∀ t, Steps p.tables e below A0 t → Steps p.tables e below (s₁.setTop (entryFrame m #[(.ref r0), (.int 0)] 2)) t := fun t q => hA0 ▸ q
  have ks1 : own_R p e below (A0) (s₁.setTop (mkF m 1 #[vR r0, vI 0] [(.ref r0)])) := fun t k => k0 t (by
    refine XS.aloadN X0.here hx rfl (hb hby d16_0) rfl rfl ?_
    exact k)
  obtain ⟨T2, X2, e2, st2⟩ := getF X0 hx hZ hown (host := "") (Or.inl (own_w hw 10 rfl)) Via.refl e0 Ff (g := (mkF m 1 #[vR r0, vI 0] [(.ref r0)])) rfl rfl (hb hby d16_1)
  have ks3 := own_c ks1 st2
  have ks4 : own_R p e below (A0) (T2.setTop (mkF m 8 #[vR r0, vI 0] [(.ref r0), (.int 1), (.ref f)])) := fun t k => ks3 t (by
    refine XS.iloadN X2.here hx rfl (hb hby d16_4) rfl ?_
    refine XS.iconst X2.here hx rfl (hb hby d16_5) ?_
    refine XS.iadd X2.here hx rfl (hb hby d16_6) rfl ?_
    show Steps p.tables e below (T2.setTop (mkF m 7 #[vR r0, vI 0] [(.int 1), (.ref f)])) _
    refine XS.aloadN X2.here hx rfl (hb hby d16_7) rfl rfl ?_
    exact k)
  obtain ⟨T5, X5, e5, st5⟩ := getF X2 hx hZ hown (host := "") (Or.inl (own_w hw 10 rfl)) Via.refl e2 Ff (g := (mkF m 8 #[vR r0, vI 0] [(.ref r0), (.int 1), (.ref f)])) rfl rfl (hb hby d16_8)
  have ks6 := own_c ks4 st5
  have ks7 : own_R p e below (A0) (T5.setTop (mkF m 13 #[vR r0, vI 0] [(.ref r0), (.int 0), (.ref f), (.int 1), (.ref f)])) := fun t k => ks6 t (by
    refine XS.iloadN X5.here hx rfl (hb hby d16_11) rfl ?_
    refine XS.aloadN X5.here hx rfl (hb hby d16_12) rfl rfl ?_
    exact k)
  obtain ⟨T8, X8, e8, st8⟩ := getF X5 hx hZ hown (host := "") (Or.inl (own_w hw 36 rfl)) Via.refl e5 Fc (g := (mkF m 13 #[vR r0, vI 0] [(.ref r0), (.int 0), (.ref f), (.int 1), (.ref f)])) rfl rfl (hb hby d16_13)
  have ks9 := own_c ks7 st8
  have ks10 : own_R p e below (A0) (T8.setTop (mkF m 20 #[vR r0, vI 0] [(.int 0), (.int 0), (.ref f), (.int 1), (.ref f)])) := fun t k => ks9 t (by
    refine XS.iloadN X8.here hx rfl (hb hby d16_16) rfl ?_
    refine XS.isub X8.here hx rfl (hb hby d16_17) rfl ?_
    refine XS.iconst X8.here hx rfl (hb hby d16_18) ?_
    show Steps p.tables e below (T8.setTop (mkF m 19 #[vR r0, vI 0] [(.int 1), (.int 1), (.int 0), (.ref f), (.int 1), (.ref f)])) _
    refine XS.isub X8.here hx rfl (hb hby d16_19) rfl ?_
    exact k)
  obtain ⟨T11, h11, L11, X11, e11, N11, Kq11, Vr11, st11⟩ := cpA X8 hx hZ hown (own_w hw 65 rfl) (own_w hw 68 rfl) (own_w hw 66 rfl) (own_w hw 67 rfl) e8 Vf Vf (sp := (1 : Int32)) (dp := (0 : Int32)) (nn := (0 : Int32)) (us := []) (Or.inl ⟨rfl, rfl⟩) (by decide) (by decide) (by decide) (by decide) (by decide) rfl (Nat.le_of_ble_eq_true rfl) N0 g_f (g := (mkF m 20 #[vR r0, vI 0] [(.int 0), (.int 0), (.ref f), (.int 1), (.ref f)])) rfl (by rw [hml]; rfl) (rest := []) rfl (hb hby d16_20) (by decide) (W := 0) (by show 2 * 0 + _ ≤ _; exact Nat.le_of_eq rfl) (by decide)
  have V11 : Arv Z h11 f kf .long (1 : Int32) [(.long x)] (.long (0 : Int64)) := Vr11
  have KH11 : Keep h0 h11 [r0, f, sh] := (Keep.refl h0 [r0, f, sh]).trans Kq11 (allS (Or.inl (List.mem_of_getElem? (i := 1) rfl)) all0)
  have Zn11 : n0 ≤ h11.size := Nat.le_trans Z0 Kq11.1
  have ks12 := own_c ks10 st11
  have ks13 : own_R p e below (A0) (T11.setTop (mkF m 24 #[vR r0, vI 0] [(.ref r0)])) := fun t k => ks12 t (by
    refine XS.aloadN X11.here hx rfl (hb hby d16_23) rfl rfl ?_
    exact k)
  have f14 := (Fsh.keep Kq11 (ninS ne_r0_f nin0))
  obtain ⟨T15, X15, e15, st15⟩ := getF X11 hx hZ hown (host := "") (Or.inl (own_w hw 14 rfl)) Via.refl e11 f14 (g := (mkF m 24 #[vR r0, vI 0] [(.ref r0)])) rfl rfl (hb hby d16_24)
  have ks16 := own_c ks13 st15
  have ks17 : own_R p e below (A0) (T15.setTop (mkF m 31 #[vR r0, vI 0] [(.ref r0), (.int 1), (.ref sh)])) := fun t k => ks16 t (by
    refine XS.iloadN X15.here hx rfl (hb hby d16_27) rfl ?_
    refine XS.iconst X15.here hx rfl (hb hby d16_28) ?_
    refine XS.iadd X15.here hx rfl (hb hby d16_29) rfl ?_
    show Steps p.tables e below (T15.setTop (mkF m 30 #[vR r0, vI 0] [(.int 1), (.ref sh)])) _
    refine XS.aloadN X15.here hx rfl (hb hby d16_30) rfl rfl ?_
    exact k)
  obtain ⟨T18, X18, e18, st18⟩ := getF X15 hx hZ hown (host := "") (Or.inl (own_w hw 14 rfl)) Via.refl e15 f14 (g := (mkF m 31 #[vR r0, vI 0] [(.ref r0), (.int 1), (.ref sh)])) rfl rfl (hb hby d16_31)
  have ks19 := own_c ks17 st18
  have ks20 : own_R p e below (A0) (T18.setTop (mkF m 36 #[vR r0, vI 0] [(.ref r0), (.int 0), (.ref sh), (.int 1), (.ref sh)])) := fun t k => ks19 t (by
    refine XS.iloadN X18.here hx rfl (hb hby d16_34) rfl ?_
    refine XS.aloadN X18.here hx rfl (hb hby d16_35) rfl rfl ?_
    exact k)
  have f21 := (Fc.keep Kq11 (ninS ne_r0_f nin0))
  obtain ⟨T22, X22, e22, st22⟩ := getF X18 hx hZ hown (host := "") (Or.inl (own_w hw 36 rfl)) Via.refl e18 f21 (g := (mkF m 36 #[vR r0, vI 0] [(.ref r0), (.int 0), (.ref sh), (.int 1), (.ref sh)])) rfl rfl (hb hby d16_36)
  have ks23 := own_c ks20 st22
  have ks24 : own_R p e below (A0) (T22.setTop (mkF m 43 #[vR r0, vI 0] [(.int 0), (.int 0), (.ref sh), (.int 1), (.ref sh)])) := fun t k => ks23 t (by
    refine XS.iloadN X22.here hx rfl (hb hby d16_39) rfl ?_
    refine XS.isub X22.here hx rfl (hb hby d16_40) rfl ?_
    refine XS.iconst X22.here hx rfl (hb hby d16_41) ?_
    show Steps p.tables e below (T22.setTop (mkF m 42 #[vR r0, vI 0] [(.int 1), (.int 1), (.int 0), (.ref sh), (.int 1), (.ref sh)])) _
    refine XS.isub X22.here hx rfl (hb hby d16_42) rfl ?_
    exact k)
  have f25 := (Vs.keep Kq11 (ninS (Ne.symm ne_f_sh) nin0))
  obtain ⟨T26, h26, L26, X26, e26, N26, Kq26, Vr26, st26⟩ := cpA X22 hx hZ hown (own_w hw 65 rfl) (own_w hw 68 rfl) (own_w hw 66 rfl) (own_w hw 67 rfl) e22 f25 f25 (sp := (1 : Int32)) (dp := (0 : Int32)) (nn := (0 : Int32)) (us := []) (Or.inr ⟨rfl, rfl, trivial⟩) (by decide) (by decide) (by decide) (by decide) (by decide) rfl (Nat.le_of_ble_eq_true rfl) N11 g_sh (g := (mkF m 43 #[vR r0, vI 0] [(.int 0), (.int 0), (.ref sh), (.int 1), (.ref sh)])) rfl (by rw [hml]; rfl) (rest := []) rfl (hb hby d16_43) (by decide) (W := 0) (by show 2 * 0 + _ ≤ _; exact Nat.le_of_eq rfl) (by decide)
  have V26 : Arv Z h26 sh ksh (.object "com/example/thin_feed/thinfeed/store/LongFloorMap$Shelf") (1 : Int32) [(.ref ob)] .null := Vr26
  have KH26 : Keep h0 h26 [r0, f, sh] := KH11.trans Kq26 (allS (Or.inl (List.mem_of_getElem? (i := 2) rfl)) all0)
  have Zn26 : n0 ≤ h26.size := Nat.le_trans Zn11 Kq26.1
  have ks27 := own_c ks24 st26
  have ks28 : own_R p e below (A0) (T26.setTop (mkF m 48 #[vR r0, vI 0] [(.ref r0), (.ref r0)])) := fun t k => ks27 t (by
    refine XS.aloadN X26.here hx rfl (hb hby d16_46) rfl rfl ?_
    refine XS.dup X26.here hx rfl (hb hby d16_47) rfl rfl ?_
    exact k)
  have f29 := (f21.keep Kq26 (ninS ne_r0_sh nin0))
  obtain ⟨T30, X30, e30, st30⟩ := getF X26 hx hZ hown (host := "") (Or.inl (own_w hw 36 rfl)) Via.refl e26 f29 (g := (mkF m 48 #[vR r0, vI 0] [(.ref r0), (.ref r0)])) rfl rfl (hb hby d16_48)
  have ks31 := own_c ks28 st30
  have ks32 : own_R p e below (A0) (T30.setTop (mkF m 53 #[vR r0, vI 0] [(.int 0), (.ref r0)])) := fun t k => ks31 t (by
    refine XS.iconst X30.here hx rfl (hb hby d16_51) ?_
    refine XS.isub X30.here hx rfl (hb hby d16_52) rfl ?_
    exact k)
  have f33 := E0.keep KH26
  obtain ⟨T34, h34, X34, e34, W34, st34⟩ := putF X30 hx hZ hown (host := "") (Or.inl (own_w hw 36 rfl)) Via.refl e30 f29 f33 (Or.inl (own_w hw 37 rfl)) (own_w hw 1 rfl) (ty := .int) (by decide) rfl rfl (g := (mkF m 53 #[vR r0, vI 0] [(.int 0), (.ref r0)])) rfl rfl (hb hby d16_53)
  have Fw34 := f29.same W34
  have KH34 : Keep h0 h34 [r0, f, sh] := KH26.wr W34 (Or.inl (List.mem_of_getElem? (i := 0) rfl))
  have Zn34 : n0 ≤ h34.size := Nat.le_trans Zn26 (Keep.of_wr W34).1
  have N34 := Fr.snoc X34 N26 g_r0
  have ks35 := own_c ks32 st34
  have ks36 : own_R p e below (A0) (T34.setTop (mkF m 57 #[vR r0, vI 0] [(.ref r0)])) := fun t k => ks35 t (by
    refine XS.aloadN X34.here hx rfl (hb hby d16_56) rfl rfl ?_
    exact k)
  have f37 := ((f14.keep Kq26 (ninS ne_r0_sh nin0)).other W34 (Or.inr (slot_ne (Or.inl (own_w hw 15 rfl)) (Or.inl (own_w hw 37 rfl)) (by decide) (t := (.array (.object "com/example/thin_feed/thinfeed/store/LongFloorMap$Shelf"))) (t' := .int) (by decide) (by decide))))
  obtain ⟨T38, X38, e38, st38⟩ := getF X34 hx hZ hown (host := "") (Or.inl (own_w hw 14 rfl)) Via.refl e34 f37 (g := (mkF m 57 #[vR r0, vI 0] [(.ref r0)])) rfl rfl (hb hby d16_57)
  have ks39 := own_c ks36 st38
  have ks40 : own_R p e below (A0) (T38.setTop (mkF m 61 #[vR r0, vI 0] [(.ref r0), (.ref sh)])) := fun t k => ks39 t (by
    refine XS.aloadN X38.here hx rfl (hb hby d16_60) rfl rfl ?_
    exact k)
  obtain ⟨T41, X41, e41, st41⟩ := getF X38 hx hZ hown (host := "") (Or.inl (own_w hw 36 rfl)) Via.refl e38 Fw34 (g := (mkF m 61 #[vR r0, vI 0] [(.ref r0), (.ref sh)])) rfl rfl (hb hby d16_61)
  have ks42 := own_c ks40 st41
  have ks43 : own_R p e below (A0) (T41.setTop (mkF m 65 #[vR r0, vI 0] [.null, (.int 0), (.ref sh)])) := fun t k => ks42 t (by
    refine XS.aconstNull X41.here hx rfl (hb hby d16_64) ?_
    exact k)
  have f44 := (V26.other W34 (Ne.symm ne_r0_sh))
  obtain ⟨cl45, Ar45, qa45, S45, Na45, Ha45, Ga45⟩ := id f44
  have hin45 : ¬ ((0 : Int32) < 0 ∨ cl45.slots.size ≤ ((0 : Int32)).toNatClampNeg) := inb_of S45 ⟨by decide, by decide⟩
  obtain ⟨T46, h46, X46, e46, W46, st46⟩ := stR X41 hx hZ e41 Ar45 (j := (0 : Int32)) hin45 rfl (Or.inl rfl) (g := (mkF m 65 #[vR r0, vI 0] [.null, (.int 0), (.ref sh)])) rfl rfl (hb hby d16_65)
  have V46 : Arv Z h46 sh ksh (.object "com/example/thin_feed/thinfeed/store/LongFloorMap$Shelf") (1 : Int32) [.null] .null := Arv.set Ar45 qa45 S45 Na45 Ha45 Ga45 rfl W46 0 rfl (Nat.le_of_ble_eq_true rfl)
  have KH46 : Keep h0 h46 [r0, f, sh] := KH34.wr W46 (Or.inl (List.mem_of_getElem? (i := 2) rfl))
  have Zn46 : n0 ≤ h46.size := Nat.le_trans Zn34 (Keep.of_wr W46).1
  have N46 := Fr.snoc X46 N34 g_sh
  have ks47 := own_c ks43 st46
  obtain ⟨fs, hr, hrun, hended, hW, hsame⟩ := X46.leave (v := none) (fun _ => rfl) hlk
  refine ⟨_, _, kz _ (ks47 _ ?_), hrun, hended, _, _, rfl, ?_, ⟨_, rfl⟩, hW, hsame.mono (by decide) (by decide)⟩
  · exact X46.returnOut hx Bd.returns (hb hby d16_66) hr
  · show Q16 Z r0 f sh kf ksh sz x ob h0 n0 _ T46.heap _
    rw [e46]
    have f48 := ((((Ff.keep Kq11 (ninS ne_r0_f nin0)).keep Kq26 (ninS ne_r0_sh nin0)).other W34 (Or.inr (slot_ne (Or.inl (own_w hw 11 rfl)) (Or.inl (own_w hw 37 rfl)) (by decide) (t := (.array .long)) (t' := .int) (by decide) (by decide)))).other W46 (Or.inl ne_r0_sh))
    have f49 := (f37.other W46 (Or.inl ne_r0_sh))
    have f50 := (Fw34.other W46 (Or.inl ne_r0_sh))
    have f51 := ((((Fz.keep Kq11 (ninS ne_r0_f nin0)).keep Kq26 (ninS ne_r0_sh nin0)).other W34 (Or.inr (slot_ne (Or.inl (own_w hw 83 rfl)) (Or.inl (own_w hw 37 rfl)) (by decide) (t := .int) (t' := .int) (by decide) (by decide)))).other W46 (Or.inl ne_r0_sh))
    have f52 := (((V11.keep Kq26 (ninS ne_f_sh nin0)).other W34 (Ne.symm ne_r0_f)).other W46 ne_f_sh)
    exact ⟨rfl, N46, KH46, f48, f49, f50, f51, f52, V46⟩
theorem d7_0 : decode prog_25_method_6_code 0 = .ok (.aload_n 0, 1) := by decide +kernel
theorem d7_1 : decode prog_25_method_6_code 1 = .ok (.getfield 19, 3) := by decide +kernel
theorem d7_4 : decode prog_25_method_6_code 4 = .ok (.ifCond .ne 15, 3) := by decide +kernel
theorem d7_7 : decode prog_25_method_6_code 7 = .ok (.aload_n 0, 1) := by decide +kernel
theorem d7_8 : decode prog_25_method_6_code 8 = .ok (.iconst 0, 1) := by decide +kernel
theorem d7_9 : decode prog_25_method_6_code 9 = .ok (.new 13, 3) := by decide +kernel
theorem d7_12 : decode prog_25_method_6_code 12 = .ok (.dup, 1) := by decide +kernel
theorem d7_13 : decode prog_25_method_6_code 13 = .ok (.invokespecial 49, 3) := by decide +kernel
theorem d7_16 : decode prog_25_method_6_code 16 = .ok (.invokevirtual 50, 3) := by decide +kernel
theorem d7_19 : decode prog_25_method_6_code 19 = .ok (.iconst 0, 1) := by decide +kernel
theorem d7_20 : decode prog_25_method_6_code 20 = .ok (.aload_n 0, 1) := by decide +kernel
theorem d7_21 : decode prog_25_method_6_code 21 = .ok (.getfield 7, 3) := by decide +kernel
theorem d7_24 : decode prog_25_method_6_code 24 = .ok (.aload_n 0, 1) := by decide +kernel
theorem d7_25 : decode prog_25_method_6_code 25 = .ok (.getfield 19, 3) := by decide +kernel
theorem d7_28 : decode prog_25_method_6_code 28 = .ok (.lload_n 1, 1) := by decide +kernel
theorem d7_29 : decode prog_25_method_6_code 29 = .ok (.invokestatic 23, 3) := by decide +kernel
theorem d7_32 : decode prog_25_method_6_code 32 = .ok (.invokestatic 54, 3) := by decide +kernel
theorem d7_35 : decode prog_25_method_6_code 35 = .ok (.istore 4, 2) := by decide +kernel
theorem d7_37 : decode prog_25_method_6_code 37 = .ok (.aload_n 0, 1) := by decide +kernel
theorem d7_38 : decode prog_25_method_6_code 38 = .ok (.getfield 15, 3) := by decide +kernel
theorem d7_41 : decode prog_25_method_6_code 41 = .ok (.iload 4, 2) := by decide +kernel
theorem d7_43 : decode prog_25_method_6_code 43 = .ok (.aaload, 1) := by decide +kernel
theorem d7_44 : decode prog_25_method_6_code 44 = .ok (.getfield 27, 3) := by decide +kernel
theorem d7_47 : decode prog_25_method_6_code 47 = .ok (.aload_n 0, 1) := by decide +kernel
theorem d7_48 : decode prog_25_method_6_code 48 = .ok (.getfield 15, 3) := by decide +kernel
theorem d7_51 : decode prog_25_method_6_code 51 = .ok (.iload 4, 2) := by decide +kernel
theorem d7_53 : decode prog_25_method_6_code 53 = .ok (.aaload, 1) := by decide +kernel
theorem d7_54 : decode prog_25_method_6_code 54 = .ok (.getfield 30, 3) := by decide +kernel
theorem d7_57 : decode prog_25_method_6_code 57 = .ok (.lload_n 1, 1) := by decide +kernel
theorem d7_58 : decode prog_25_method_6_code 58 = .ok (.invokestatic 23, 3) := by decide +kernel
theorem d7_61 : decode prog_25_method_6_code 61 = .ok (.istore 5, 2) := by decide +kernel
theorem d7_63 : decode prog_25_method_6_code 63 = .ok (.iload 5, 2) := by decide +kernel
theorem d7_65 : decode prog_25_method_6_code 65 = .ok (.ifCond .lt 38, 3) := by decide +kernel
theorem d7_103 : decode prog_25_method_6_code 103 = .ok (.iload 5, 2) := by decide +kernel
theorem d7_105 : decode prog_25_method_6_code 105 = .ok (.iconst 1, 1) := by decide +kernel
theorem d7_106 : decode prog_25_method_6_code 106 = .ok (.iadd, 1) := by decide +kernel
theorem d7_107 : decode prog_25_method_6_code 107 = .ok (.istore 6, 2) := by decide +kernel
theorem d7_109 : decode prog_25_method_6_code 109 = .ok (.aload_n 0, 1) := by decide +kernel
theorem d7_110 : decode prog_25_method_6_code 110 = .ok (.getfield 15, 3) := by decide +kernel
theorem d7_113 : decode prog_25_method_6_code 113 = .ok (.iload 4, 2) := by decide +kernel
theorem d7_115 : decode prog_25_method_6_code 115 = .ok (.aaload, 1) := by decide +kernel
theorem d7_116 : decode prog_25_method_6_code 116 = .ok (.getfield 30, 3) := by decide +kernel
theorem d7_119 : decode prog_25_method_6_code 119 = .ok (.sipush 256, 3) := by decide +kernel
theorem d7_122 : decode prog_25_method_6_code 122 = .ok (.if_icmp .ne 23, 3) := by decide +kernel
theorem d7_145 : decode prog_25_method_6_code 145 = .ok (.aload_n 0, 1) := by decide +kernel
theorem d7_146 : decode prog_25_method_6_code 146 = .ok (.getfield 15, 3) := by decide +kernel
theorem d7_149 : decode prog_25_method_6_code 149 = .ok (.iload 4, 2) := by decide +kernel
theorem d7_151 : decode prog_25_method_6_code 151 = .ok (.aaload, 1) := by decide +kernel
theorem d7_152 : decode prog_25_method_6_code 152 = .ok (.astore 7, 2) := by decide +kernel
theorem d7_154 : decode prog_25_method_6_code 154 = .ok (.aload 7, 2) := by decide +kernel
theorem d7_156 : decode prog_25_method_6_code 156 = .ok (.getfield 27, 3) := by decide +kernel
theorem d7_159 : decode prog_25_method_6_code 159 = .ok (.iload 6, 2) := by decide +kernel
theorem d7_161 : decode prog_25_method_6_code 161 = .ok (.aload 7, 2) := by decide +kernel
theorem d7_163 : decode prog_25_method_6_code 163 = .ok (.getfield 27, 3) := by decide +kernel
theorem d7_166 : decode prog_25_method_6_code 166 = .ok (.iload 6, 2) := by decide +kernel
theorem d7_168 : decode prog_25_method_6_code 168 = .ok (.iconst 1, 1) := by decide +kernel
theorem d7_169 : decode prog_25_method_6_code 169 = .ok (.iadd, 1) := by decide +kernel
theorem d7_170 : decode prog_25_method_6_code 170 = .ok (.aload 7, 2) := by decide +kernel
theorem d7_172 : decode prog_25_method_6_code 172 = .ok (.getfield 30, 3) := by decide +kernel
theorem d7_175 : decode prog_25_method_6_code 175 = .ok (.iload 6, 2) := by decide +kernel
theorem d7_177 : decode prog_25_method_6_code 177 = .ok (.isub, 1) := by decide +kernel
theorem d7_178 : decode prog_25_method_6_code 178 = .ok (.invokestatic 68, 3) := by decide +kernel
theorem d7_181 : decode prog_25_method_6_code 181 = .ok (.aload 7, 2) := by decide +kernel
theorem d7_183 : decode prog_25_method_6_code 183 = .ok (.getfield 60, 3) := by decide +kernel
theorem d7_186 : decode prog_25_method_6_code 186 = .ok (.iload 6, 2) := by decide +kernel
theorem d7_188 : decode prog_25_method_6_code 188 = .ok (.aload 7, 2) := by decide +kernel
theorem d7_190 : decode prog_25_method_6_code 190 = .ok (.getfield 60, 3) := by decide +kernel
theorem d7_193 : decode prog_25_method_6_code 193 = .ok (.iload 6, 2) := by decide +kernel
theorem d7_195 : decode prog_25_method_6_code 195 = .ok (.iconst 1, 1) := by decide +kernel
theorem d7_196 : decode prog_25_method_6_code 196 = .ok (.iadd, 1) := by decide +kernel
theorem d7_197 : decode prog_25_method_6_code 197 = .ok (.aload 7, 2) := by decide +kernel
theorem d7_199 : decode prog_25_method_6_code 199 = .ok (.getfield 30, 3) := by decide +kernel
theorem d7_202 : decode prog_25_method_6_code 202 = .ok (.iload 6, 2) := by decide +kernel
theorem d7_204 : decode prog_25_method_6_code 204 = .ok (.isub, 1) := by decide +kernel
theorem d7_205 : decode prog_25_method_6_code 205 = .ok (.invokestatic 68, 3) := by decide +kernel
theorem d7_208 : decode prog_25_method_6_code 208 = .ok (.aload 7, 2) := by decide +kernel
theorem d7_210 : decode prog_25_method_6_code 210 = .ok (.getfield 27, 3) := by decide +kernel
theorem d7_213 : decode prog_25_method_6_code 213 = .ok (.iload 6, 2) := by decide +kernel
theorem d7_215 : decode prog_25_method_6_code 215 = .ok (.lload_n 1, 1) := by decide +kernel
theorem d7_216 : decode prog_25_method_6_code 216 = .ok (.lastore, 1) := by decide +kernel
theorem d7_217 : decode prog_25_method_6_code 217 = .ok (.aload 7, 2) := by decide +kernel
theorem d7_219 : decode prog_25_method_6_code 219 = .ok (.getfield 60, 3) := by decide +kernel
theorem d7_222 : decode prog_25_method_6_code 222 = .ok (.iload 6, 2) := by decide +kernel
theorem d7_224 : decode prog_25_method_6_code 224 = .ok (.aload_n 3, 1) := by decide +kernel
theorem d7_225 : decode prog_25_method_6_code 225 = .ok (.aastore, 1) := by decide +kernel
theorem d7_226 : decode prog_25_method_6_code 226 = .ok (.aload 7, 2) := by decide +kernel
theorem d7_228 : decode prog_25_method_6_code 228 = .ok (.dup, 1) := by decide +kernel
theorem d7_229 : decode prog_25_method_6_code 229 = .ok (.getfield 30, 3) := by decide +kernel
theorem d7_232 : decode prog_25_method_6_code 232 = .ok (.iconst 1, 1) := by decide +kernel
theorem d7_233 : decode prog_25_method_6_code 233 = .ok (.iadd, 1) := by decide +kernel
theorem d7_234 : decode prog_25_method_6_code 234 = .ok (.putfield 30, 3) := by decide +kernel
theorem d7_237 : decode prog_25_method_6_code 237 = .ok (.aload_n 0, 1) := by decide +kernel
theorem d7_238 : decode prog_25_method_6_code 238 = .ok (.getfield 7, 3) := by decide +kernel
theorem d7_241 : decode prog_25_method_6_code 241 = .ok (.iload 4, 2) := by decide +kernel
theorem d7_243 : decode prog_25_method_6_code 243 = .ok (.aload 7, 2) := by decide +kernel
theorem d7_245 : decode prog_25_method_6_code 245 = .ok (.getfield 27, 3) := by decide +kernel
theorem d7_248 : decode prog_25_method_6_code 248 = .ok (.iconst 0, 1) := by decide +kernel
theorem d7_249 : decode prog_25_method_6_code 249 = .ok (.laload, 1) := by decide +kernel
theorem d7_250 : decode prog_25_method_6_code 250 = .ok (.lastore, 1) := by decide +kernel
theorem d7_251 : decode prog_25_method_6_code 251 = .ok (.aload_n 0, 1) := by decide +kernel
theorem d7_252 : decode prog_25_method_6_code 252 = .ok (.dup, 1) := by decide +kernel
theorem d7_253 : decode prog_25_method_6_code 253 = .ok (.getfield 74, 3) := by decide +kernel
theorem d7_256 : decode prog_25_method_6_code 256 = .ok (.iconst 1, 1) := by decide +kernel
theorem d7_257 : decode prog_25_method_6_code 257 = .ok (.iadd, 1) := by decide +kernel
theorem d7_258 : decode prog_25_method_6_code 258 = .ok (.putfield 74, 3) := by decide +kernel
theorem d7_261 : decode prog_25_method_6_code 261 = .ok (.return_, 1) := by decide +kernel
theorem pn_7 : plainName "com/example/thin_feed/thinfeed/store/LongFloorMap" = true := by first | (simp [plainName, overriddenIn]; done) | decide +kernel
theorem pd_6 : parseMethodDescriptor "(ILcom/example/thin_feed/thinfeed/store/LongFloorMap$Shelf;)V" = some ⟨[.int, (.object "com/example/thin_feed/thinfeed/store/LongFloorMap$Shelf")], none⟩ := by decide +kernel
theorem pd_8 : parseMethodDescriptor "([JIJ)I" = some ⟨[(.array .long), .int, .long], some .int⟩ := by decide +kernel
theorem pd_9 : parseMethodDescriptor "(II)I" = some ⟨[.int, .int], some .int⟩ := by decide +kernel
theorem ef_7E (m : MethodId) (x0 : Addr) (x1 : Int64) (x2 : Addr) : entryFrame m #[(.ref x0), (.long x1), (.ref x2)] 8 = mkF m 0 #[.val (.ref x0), .val (.long x1), .second, .val (.ref x2), .unset, .unset, .unset, .unset] [] := by first | (simp [entryFrame, mkF, argsToLocals, Value.category]; done) | rfl
def Q7E (Z : State) (r0 : Addr) (q1 : Int64) (y : Addr) (f : Addr) (sh : Addr) (kf : ClassId) (ksh : ClassId) (sz : Int32) (x : Int64) (h0 : Heap) (n0 : Nat) (v : Option Value) (h : Heap) (L : List Loc) : Prop := v = none ∧ Fr n0 L ∧ n0 ≤ h.size ∧ (∀ (x : Addr) (K : String), Exa Z h0 x K → Exa Z h x K) ∧ ∃ b, own_F Z h n0 r0 y 1 [.ref y, .null, .null] q1 b
set_option maxRecDepth 65536 in
set_option maxHeartbeats 40000000 in
theorem rm7E (l : Launch) (Z : State) (a0 : Array Value) (hw : ∀ d ∈ tables_1, d.before a0 Z = true) (ws : List Jvm.Cond) (r0 : Addr) (q1 : Int64) (y : Addr) (f : Addr) (sh : Addr) (kf : ClassId) (ksh : ClassId) (sz : Int32) (x : Int64) (h0 : Heap) (n0 : Nat) (Z0 : n0 ≤ h0.size) (E0 : Exa Z h0 r0 "com/example/thin_feed/thinfeed/store/LongFloorMap") (Ff : Fld Z h0 r0 "com/example/thin_feed/thinfeed/store/LongFloorMap" "firsts" "[J" (.ref f)) (Fsh : Fld Z h0 r0 "com/example/thin_feed/thinfeed/store/LongFloorMap" "shelves" "[Lcom/example/thin_feed/thinfeed/store/LongFloorMap$Shelf;" (.ref sh)) (Fc : Fld Z h0 r0 "com/example/thin_feed/thinfeed/store/LongFloorMap" "shelfCount" "I" (.int 0)) (Fz : Fld Z h0 r0 "com/example/thin_feed/thinfeed/store/LongFloorMap" "size" "I" (.int sz)) (Vf : Arv Z h0 f kf .long 1 [.long x] (.long (0 : Int64))) (Vs : Arv Z h0 sh ksh (.object "com/example/thin_feed/thinfeed/store/LongFloorMap$Shelf") 1 [.null] .null) (Os : Ovr Z ksh "com/example/thin_feed/thinfeed/store/LongFloorMap$Shelf") (Ey : Exa Z h0 y "java/lang/Integer") (g_r0 : n0 ≤ r0) (g_f : n0 ≤ f) (g_sh : n0 ≤ sh) (ne_r0_f : r0 ≠ f) (ne_r0_sh : r0 ≠ sh) (ne_f_sh : f ≠ sh) :
    MetFree l (⟨"com/example/thin_feed/thinfeed/store/LongFloorMap", "put", "(JLjava/lang/Object;)V"⟩ : MethodName) (head1 (Jvm.Cond.code (⟨"com/example/thin_feed/thinfeed/store/LongFloorMap", "put", "(JLjava/lang/Object;)V"⟩ : MethodName) prog_25_method_6_code 8 none :: ws) ({ frames := 2, cells := 3, slots := 515, locals := 32 } : Room)) (fun a U => a = #[(.ref r0), (.long q1), (.ref y)] ∧ Z.Warmed39 U.vm ∧ U.heap = h0) (fun _ _ _ _ _ => True) (fun _ U o U' => ∃ v L, o = .returned v ∧ Q7E Z r0 q1 y f sh kf ksh sz x h0 n0 v U'.heap L ∧ FrameEnd U o U' L ({ frames := 2, cells := 3, slots := 515, locals := 32 } : Room).cells ({ frames := 2, cells := 3, slots := 515, locals := 32 } : Room).slots) := by
  refine MetFree.of_bodySF (plainFor_of_name pn_7) hisR ?_
  intro p e s m args below meth c s₁ Bd hml0 hP hK
  obtain ⟨rfl, hZ, hh⟩ := hP
  have hx := Bd.exec
  have hby := Bd.bytes
  have hml : c.maxLocals = 8 := hml0
  have hown : s.vm.findClass "com/example/thin_feed/thinfeed/store/LongFloorMap" = some m.cls := findClass_of_methodNamed Bd.named
  have hnm := (name_of_methodNamed Bd.named Bd.method).1
  have hlk : meth.locks = false := by first | exact BodyLoose.notSynchronized Bd | exact Body.notSynchronized Bd
  have X0 : Stand p l e ({ frames := 2, cells := 3, slots := 515, locals := 32 } : Room) s m #[(.ref r0), (.long q1), (.ref y)] below meth c s₁ [] 0 0 := Stand.of_body Bd
  have e0 : s₁.heap = h0 := by rw [← hh, Bd.state]; rfl
  have N0 := Fr.nil n0
  have k0 : own_R p e below (s₁.setTop (entryFrame m #[(.ref r0), (.long q1), (.ref y)] 8)) (s₁.setTop (mkF m 0 #[vR r0, vJ q1, .second, vR y, .unset, .unset, .unset, .unset] [])) := fun t k => castTop (ef_7E m r0 q1 y) k
  obtain ⟨A0, hA0⟩ : ∃ z, z = s₁.setTop (entryFrame m #[(.ref r0), (.long q1), (.ref y)] 8) := ⟨_, rfl⟩
  rw [← hA0] at k0
  have kz : ∀ t, Steps p.tables e below A0 t → Steps p.tables e below (s₁.setTop (entryFrame m #[(.ref r0), (.long q1), (.ref y)] 8)) t := fun t q => hA0 ▸ q
  have ks1 : own_R p e below (A0) (s₁.setTop (mkF m 1 #[vR r0, vJ q1, .second, vR y, .unset, .unset, .unset, .unset] [(.ref r0)])) := fun t k => k0 t (by
    refine XS.aloadN X0.here hx rfl (hb hby d7_0) rfl rfl ?_
    exact k)
  obtain ⟨T2, X2, e2, st2⟩ := getF X0 hx hZ hown (host := "") (Or.inl (own_w hw 36 rfl)) Via.refl e0 Fc (g := (mkF m 1 #[vR r0, vJ q1, .second, vR y, .unset, .unset, .unset, .unset] [(.ref r0)])) rfl rfl (hb hby d7_1)
  have ks3 := own_c ks1 st2
  have ks4 : own_R p e below (A0) (T2.setTop (mkF m 9 #[vR r0, vJ q1, .second, vR y, .unset, .unset, .unset, .unset] [(.int 0), (.ref r0)])) := fun t k => ks3 t (by
    refine XS.ifNo X2.here hx rfl (hb hby d7_4) rfl ((if0 _ _).trans (teq (by decide)).2) ?_
    refine XS.aloadN X2.here hx rfl (hb hby d7_7) rfl rfl ?_
    refine XS.iconst X2.here hx rfl (hb hby d7_8) ?_
    exact k)
  obtain ⟨T5, h5, X5, e5, E5, A5, D5, -, st5⟩ := newO X2 hx hZ hown (own_w hw 12 rfl) (own_w hw 49 rfl) (own_w hw 50 rfl) e2 (g := (mkF m 9 #[vR r0, vJ q1, .second, vR y, .unset, .unset, .unset, .unset] [(.int 0), (.ref r0)])) rfl (hb hby d7_9) (by decide) (by decide)
  obtain ⟨b5, g5⟩ : ∃ z, z = h0.size := ⟨_, rfl⟩
  rw [← g5] at A5 D5 st5
  have ne_r0_b5 : r0 ≠ b5 := Nat.ne_of_lt (Nat.lt_of_lt_of_le E0.lt (Nat.le_of_eq g5.symm))
  have ne_f_b5 : f ≠ b5 := Nat.ne_of_lt (Nat.lt_of_lt_of_le Vf.lt (Nat.le_of_eq g5.symm))
  have ne_sh_b5 : sh ≠ b5 := Nat.ne_of_lt (Nat.lt_of_lt_of_le Vs.lt (Nat.le_of_eq g5.symm))
  have g_b5 : n0 ≤ b5 := Nat.le_trans Z0 (Nat.le_of_eq g5.symm)
  have sz_b5 : h0.size ≤ b5 := Nat.le_trans (Keep.refl h0 [r0, f, sh]).1 (Nat.le_of_eq g5.symm)
  have KH5 : Keep h0 h5 [r0, f, sh] := (Keep.refl h0 [r0, f, sh]).ext E5
  have Zn5 : n0 ≤ h5.size := Nat.le_trans Z0 E5.1
  have F_keys_b5 : Fld Z h5 b5 "com/example/thin_feed/thinfeed/store/LongFloorMap$Shelf" "keys" "[J" .null := D5 (Or.inr (own_w hw 56 rfl)) (ty := (.array .long)) (by decide)
  have F_values_b5 : Fld Z h5 b5 "com/example/thin_feed/thinfeed/store/LongFloorMap$Shelf" "values" "[Ljava/lang/Object;" .null := D5 (Or.inr (own_w hw 60 rfl)) (ty := (.array (.object "java/lang/Object"))) (by decide)
  have F_size_b5 : Fld Z h5 b5 "com/example/thin_feed/thinfeed/store/LongFloorMap$Shelf" "size" "I" (.int 0) := D5 (Or.inl (own_w hw 79 rfl)) (ty := .int) (by decide)
  have ks6 := own_c ks4 st5
  have ks7 : own_R p e below (A0) (T5.setTop (mkF m 13 #[vR r0, vJ q1, .second, vR y, .unset, .unset, .unset, .unset] [(.ref b5), (.ref b5), (.int 0), (.ref r0)])) := fun t k => ks6 t (by
    refine XS.dup X5.here hx rfl (hb hby d7_12) rfl rfl ?_
    exact k)
  obtain ⟨_, _, ⟨T8, L8, k8, n8⟩, -, X8, ⟨Lc8, hQ8, lq8, yq8, zq8⟩, st8⟩ := own_specialBackR X5 hx hZ (y := (⟨"com/example/thin_feed/thinfeed/store/LongFloorMap$Shelf", "<init>", "()V"⟩ : MethodName)) rfl hown (own_w hw 51 rfl) (mvT hZ (own_w hw 52 rfl)) (mvT hZ (own_w hw 53 rfl)) (by decide) (backOf (W := 3) (rm8 l Z a0 hw [] b5 h5 n0 Zn5 g_b5 A5 F_keys_b5 F_values_b5 F_size_b5) hZ (own_w hw 53 rfl) (own_w hw 50 rfl) (by decide) (by decide)) (g := (mkF m 13 #[vR r0, vJ q1, .second, vR y, .unset, .unset, .unset, .unset] [(.ref b5), (.ref b5), (.int 0), (.ref r0)])) rfl (by rw [hml]; rfl) (Steps.refl _) (a := b5) (argsL := []) (rest := [(.ref b5), (.int 0), (.ref r0)]) (lenOf pd_0 rfl) rfl (by show 2 * 0 + _ ≤ _; exact Nat.le_of_eq rfl) (hb hby d7_13) (fun _ _ => ⟨rfl, e5, (by decide : 1 + 2 ≤ _), (by decide : 3 + 512 ≤ _)⟩)
  dsimp only [Pt.U, Pt.locs, Pt.cells, Pt.slots] at X8 lq8 yq8 zq8 st8 hQ8
  subst lq8 yq8 zq8
  have f9 := E0.keep KH5
  have f10 := (Vf.ext E5)
  have f11 := (Vs.ext E5)
  obtain ⟨rfl, Nq8, Kq8, ka8, va8, kka8, kva8, Fk8, Fv8, Fn8, Vk8, Vv8, Ov8, g_ka8, g_va8, sq_ka8, sq_va8, nq8⟩ := hQ8
  have N8 := Fr.app N0 Nq8
  have KH8 : Keep h0 T8.heap [r0, f, sh] := KH5.trans Kq8 (allS (Or.inr sz_b5) all0)
  have Zn8 : n0 ≤ T8.heap.size := Nat.le_trans Zn5 Kq8.1
  have ne_r0_ka8 : r0 ≠ ka8 := Nat.ne_of_lt (Nat.lt_of_lt_of_le f9.lt sq_ka8)
  have ne_f_ka8 : f ≠ ka8 := Nat.ne_of_lt (Nat.lt_of_lt_of_le f10.lt sq_ka8)
  have ne_sh_ka8 : sh ≠ ka8 := Nat.ne_of_lt (Nat.lt_of_lt_of_le f11.lt sq_ka8)
  have ne_b5_ka8 : b5 ≠ ka8 := Nat.ne_of_lt (Nat.lt_of_lt_of_le A5.lt sq_ka8)
  have sz_ka8 : h0.size ≤ ka8 := Nat.le_trans KH5.1 sq_ka8
  have ne_r0_va8 : r0 ≠ va8 := Nat.ne_of_lt (Nat.lt_of_lt_of_le f9.lt sq_va8)
  have ne_f_va8 : f ≠ va8 := Nat.ne_of_lt (Nat.lt_of_lt_of_le f10.lt sq_va8)
  have ne_sh_va8 : sh ≠ va8 := Nat.ne_of_lt (Nat.lt_of_lt_of_le f11.lt sq_va8)
  have ne_b5_va8 : b5 ≠ va8 := Nat.ne_of_lt (Nat.lt_of_lt_of_le A5.lt sq_va8)
  have sz_va8 : h0.size ≤ va8 := Nat.le_trans KH5.1 sq_va8
  have ks12 := own_ct ks7 st8
  have f14 := E0.keep KH8
  have f15 := ((Ff.ext E5).keep Kq8 (ninS ne_r0_b5 nin0))
  have f16 := ((Fsh.ext E5).keep Kq8 (ninS ne_r0_b5 nin0))
  have f17 := ((Fc.ext E5).keep Kq8 (ninS ne_r0_b5 nin0))
  have f18 := ((Fz.ext E5).keep Kq8 (ninS ne_r0_b5 nin0))
  have f19 := (f10.keep Kq8 (ninS ne_f_b5 nin0))
  have f20 := (f11.keep Kq8 (ninS ne_sh_b5 nin0))
  have f21 := (A5.keep Kq8)
  obtain ⟨cq13, qc13, qc13'⟩ := f14.cell
  obtain ⟨_, _, ⟨T13, L13, k13, n13⟩, -, X13, ⟨Lc13, hQ13, lq13, yq13, zq13⟩, st13⟩ := X8.privateBack hx (y := (⟨"com/example/thin_feed/thinfeed/store/LongFloorMap", "insertShelf", "(ILcom/example/thin_feed/thinfeed/store/LongFloorMap$Shelf;)V"⟩ : MethodName)) hown (mvT hZ (own_w hw 61 rfl)) (mvT hZ (own_w hw 62 rfl)) (mvT hZ (own_sel (y := (⟨"com/example/thin_feed/thinfeed/store/LongFloorMap", "insertShelf", "(ILcom/example/thin_feed/thinfeed/store/LongFloorMap$Shelf;)V"⟩ : MethodName)) (b := (⟨"com/example/thin_feed/thinfeed/store/LongFloorMap", "bytes", "()J"⟩ : MethodName)) (own_w hw 26 rfl) rfl (own_w hw 62 rfl) (own_w hw 63 rfl) (by decide))) (Cond.privateMethod_at (mvP hZ (own_w hw 63 rfl) (args := #[]))) (mvT hZ (own_w hw 64 rfl)) (by decide) (backOf (W := 0) (rm9 l Z a0 hw [] r0 b5 f sh _ _ _ x ka8 _ T8.heap n0 Zn8 f14 f15 f16 f17 f18 f19 f20 Os g_r0 g_f g_sh ne_r0_f ne_r0_sh ne_f_sh f21 Fk8 Vk8 ne_r0_b5 ne_r0_ka8 ne_f_b5 ne_f_ka8 ne_sh_b5 ne_sh_ka8) hZ (own_w hw 64 rfl) (own_w hw 2 rfl) (by decide) (by decide)) (g := (mkF m 16 #[vR r0, vJ q1, .second, vR y, .unset, .unset, .unset, .unset] [(.ref b5), (.int 0), (.ref r0)])) rfl (by rw [hml]; rfl) (Steps.refl _) (a := r0) qc13 qc13' (argsL := [(.int 0), (.ref b5)]) (rest := []) (lenOf pd_6 rfl) rfl (by show 2 * 0 + _ ≤ _; exact Nat.le_of_eq rfl) (hb hby d7_16) (fun _ _ => ⟨rfl, rfl, (by decide : 3 + 0 ≤ _), (by decide : 515 + 0 ≤ _)⟩)
  dsimp only [Pt.U, Pt.locs, Pt.cells, Pt.slots] at X13 lq13 yq13 zq13 st13 hQ13
  subst lq13 yq13 zq13
  obtain ⟨rfl, Nq13, Kq13, Ff13, Fsh13, Fc13, Fz13, Vf13, Vs13⟩ := hQ13
  have N13 := Fr.app N8 Nq13
  have KH13 : Keep h0 T13.heap [r0, f, sh] := KH8.trans Kq13 (allS (Or.inl (List.mem_of_getElem? (i := 0) rfl)) (allS (Or.inl (List.mem_of_getElem? (i := 1) rfl)) (allS (Or.inl (List.mem_of_getElem? (i := 2) rfl)) all0)))
  have Zn13 : n0 ≤ T13.heap.size := Nat.le_trans Zn8 Kq13.1
  have ks22 := own_ct ks12 st13
  have ks23 : own_R p e below (A0) (T13.setTop (mkF m 21 #[vR r0, vJ q1, .second, vR y, .unset, .unset, .unset, .unset] [(.ref r0), (.int 0)])) := fun t k => ks22 t (by
    refine XS.iconst X13.here hx rfl (hb hby d7_19) ?_
    refine XS.aloadN X13.here hx rfl (hb hby d7_20) rfl rfl ?_
    exact k)
  obtain ⟨T24, X24, e24, st24⟩ := getF X13 hx hZ hown (host := "") (Or.inl (own_w hw 10 rfl)) Via.refl rfl Ff13 (g := (mkF m 21 #[vR r0, vJ q1, .second, vR y, .unset, .unset, .unset, .unset] [(.ref r0), (.int 0)])) rfl rfl (hb hby d7_21)
  have ks25 := own_c ks23 st24
  have ks26 : own_R p e below (A0) (T24.setTop (mkF m 25 #[vR r0, vJ q1, .second, vR y, .unset, .unset, .unset, .unset] [(.ref r0), (.ref f), (.int 0)])) := fun t k => ks25 t (by
    refine XS.aloadN X24.here hx rfl (hb hby d7_24) rfl rfl ?_
    exact k)
  obtain ⟨T27, X27, e27, st27⟩ := getF X24 hx hZ hown (host := "") (Or.inl (own_w hw 36 rfl)) Via.refl e24 Fc13 (g := (mkF m 25 #[vR r0, vJ q1, .second, vR y, .unset, .unset, .unset, .unset] [(.ref r0), (.ref f), (.int 0)])) rfl rfl (hb hby d7_25)
  have ks28 := own_c ks26 st27
  have ks29 : own_R p e below (A0) (T27.setTop (mkF m 29 #[vR r0, vJ q1, .second, vR y, .unset, .unset, .unset, .unset] [(.long q1), (.int 1), (.ref f), (.int 0)])) := fun t k => ks28 t (by
    refine XS.lloadN X27.here hx rfl (hb hby d7_28) rfl ?_
    exact k)
  obtain ⟨_, _, ⟨T30, L30, k30, n30⟩, -, X30, ⟨Lc30, hQ30, lq30, yq30, zq30⟩, st30⟩ := Jvm.LawKit.callS X27 hx (y := (⟨"com/example/thin_feed/thinfeed/store/LongFloorMap", "floorIndex", "([JIJ)I"⟩ : MethodName)) hown (mvT hZ (own_w hw 71 rfl)) (mvT hZ (own_w hw 72 rfl)) (mvT hZ (own_w hw 2 rfl)) (mvT hZ (own_w hw 73 rfl)) (by decide) (backOf (W := 1) (rm10_1 l Z a0 hw [] f q1 _ (1 : Int32) _ (0 : Int64) T13.heap n0 Zn13 Vf13 ⟨by decide, by decide⟩ rfl) hZ (own_w hw 73 rfl) (own_w hw 2 rfl) (by decide) (by decide)) (g := (mkF m 29 #[vR r0, vJ q1, .second, vR y, .unset, .unset, .unset, .unset] [(.long q1), (.int 1), (.ref f), (.int 0)])) rfl (by rw [hml]; rfl) (argsL := [(.ref f), (.int 1), (.long q1)]) (rest := [(.int 0)]) (lenOf pd_8 rfl) rfl (by show 2 * 0 + _ ≤ _; exact Nat.le_of_eq rfl) (hb hby d7_29) (fun _ _ => ⟨rfl, e27, (by decide : 3 + 0 ≤ _), (by decide : 515 + 0 ≤ _)⟩)
  dsimp only [Pt.U, Pt.locs, Pt.cells, Pt.slots] at X30 lq30 yq30 zq30 st30 hQ30
  subst lq30 yq30 zq30
  obtain ⟨rfl, Nq30, eq30⟩ := hQ30
  have N30 := Fr.app N13 Nq30
  have ks31 := own_c ks29 st30
  obtain ⟨_, _, ⟨T32, L32, k32, n32⟩, -, X32, ⟨Lc32, hQ32, lq32, yq32, zq32⟩, st32⟩ := Jvm.LawKit.callS X30 hx (y := (⟨"java/lang/Math", "max", "(II)I"⟩ : MethodName)) hown (mvT hZ (own_w hw 74 rfl)) (mvT hZ (own_w hw 75 rfl)) (mvT hZ (own_w hw 76 rfl)) (mvT hZ (own_w hw 77 rfl)) (by decide) (backOf (W := 0) (rm11 l Z a0 hw [] (0 : Int32) (own_fi1 (0 : Int64) q1) T13.heap n0 Zn13 ) hZ (own_w hw 77 rfl) (own_w hw 76 rfl) (by decide) (by decide)) (g := (mkF m 32 #[vR r0, vJ q1, .second, vR y, .unset, .unset, .unset, .unset] [(.int (own_fi1 (0 : Int64) q1)), (.int 0)])) rfl (by rw [hml]; rfl) (argsL := [(.int 0), (.int (own_fi1 (0 : Int64) q1))]) (rest := []) (lenOf pd_9 rfl) rfl (by show 2 * 0 + _ ≤ _; exact Nat.le_of_eq rfl) (hb hby d7_32) (fun _ _ => ⟨rfl, eq30, (by decide : 3 + 0 ≤ _), (by decide : 515 + 0 ≤ _)⟩)
  dsimp only [Pt.U, Pt.locs, Pt.cells, Pt.slots] at X32 lq32 yq32 zq32 st32 hQ32
  subst lq32 yq32 zq32
  obtain ⟨rfl, Nq32, eq32⟩ := hQ32
  have N32 := Fr.app N30 Nq32
  have ks33 := own_c ks31 st32
  have ks34 : own_R p e below (A0) (T32.setTop (mkF m 35 #[vR r0, vJ q1, .second, vR y, .unset, .unset, .unset, .unset] [(.int (own_max (0 : Int32) (own_fi1 (0 : Int64) q1)))])) := ks33
  rw [own_mx] at ks34
  have ks35 : own_R p e below (A0) (T32.setTop (mkF m 38 #[vR r0, vJ q1, .second, vR y, vI 0, .unset, .unset, .unset] [(.ref r0)])) := fun t k => ks34 t (by
    refine XS.istore X32.here hx rfl (hb hby d7_35) rfl (l' := #[vR r0, vJ q1, .second, vR y, vI 0, .unset, .unset, .unset]) rfl ?_
    refine XS.aloadN X32.here hx rfl (hb hby d7_37) rfl rfl ?_
    exact k)
  obtain ⟨T36, X36, e36, st36⟩ := getF X32 hx hZ hown (host := "") (Or.inl (own_w hw 14 rfl)) Via.refl eq32 Fsh13 (g := (mkF m 38 #[vR r0, vJ q1, .second, vR y, vI 0, .unset, .unset, .unset] [(.ref r0)])) rfl rfl (hb hby d7_38)
  have ks37 := own_c ks35 st36
  have ks38 : own_R p e below (A0) (T36.setTop (mkF m 43 #[vR r0, vJ q1, .second, vR y, vI 0, .unset, .unset, .unset] [(.int 0), (.ref sh)])) := fun t k => ks37 t (by
    refine XS.iload X36.here hx rfl (hb hby d7_41) rfl ?_
    exact k)
  obtain ⟨cl39, Ar39, qa39, S39, Na39, Ha39, Ga39⟩ := id Vs13
  have ks40 : own_R p e below (A0) (T36.setTop (mkF m 44 #[vR r0, vJ q1, .second, vR y, vI 0, .unset, .unset, .unset] [(.ref b5)])) := fun t k => ks38 t (by
    refine X36.aaload hx (j := (0 : Int32)) (v := (.ref b5)) (by rw [e36]; exact Ar39.1) (State.isArrayOf_alike hZ.alike Ar39.2.1) rfl Ar39.2.2 (inb_of S39 ⟨by decide, by decide⟩) (Has.at Ha39 (inb_of S39 ⟨by decide, by decide⟩) rfl) (g := (mkF m 43 #[vR r0, vJ q1, .second, vR y, vI 0, .unset, .unset, .unset] [(.int 0), (.ref sh)])) rfl rfl (hb hby d7_43) _ ?_
    exact k)
  have f41 := (Fk8.keep Kq13 (ninS (Ne.symm ne_r0_b5) (ninS (Ne.symm ne_f_b5) (ninS (Ne.symm ne_sh_b5) nin0))))
  obtain ⟨T42, X42, e42, st42⟩ := own_getFR X36 hx hZ hown (own_w hw 69 rfl) e36 f41 (g := (mkF m 44 #[vR r0, vJ q1, .second, vR y, vI 0, .unset, .unset, .unset] [(.ref b5)])) rfl rfl (hb hby d7_44)
  have ks43 := own_c ks40 st42
  have ks44 : own_R p e below (A0) (T42.setTop (mkF m 48 #[vR r0, vJ q1, .second, vR y, vI 0, .unset, .unset, .unset] [(.ref r0), (.ref ka8)])) := fun t k => ks43 t (by
    refine XS.aloadN X42.here hx rfl (hb hby d7_47) rfl rfl ?_
    exact k)
  obtain ⟨T45, X45, e45, st45⟩ := getF X42 hx hZ hown (host := "") (Or.inl (own_w hw 14 rfl)) Via.refl e42 Fsh13 (g := (mkF m 48 #[vR r0, vJ q1, .second, vR y, vI 0, .unset, .unset, .unset] [(.ref r0), (.ref ka8)])) rfl rfl (hb hby d7_48)
  have ks46 := own_c ks44 st45
  have ks47 : own_R p e below (A0) (T45.setTop (mkF m 54 #[vR r0, vJ q1, .second, vR y, vI 0, .unset, .unset, .unset] [(.ref b5), (.ref ka8)])) := fun t k => ks46 t (by
    refine XS.iload X45.here hx rfl (hb hby d7_51) rfl ?_
    refine X45.aaload hx (j := (0 : Int32)) (v := (.ref b5)) (by rw [e45]; exact Ar39.1) (State.isArrayOf_alike hZ.alike Ar39.2.1) rfl Ar39.2.2 (inb_of S39 ⟨by decide, by decide⟩) (Has.at Ha39 (inb_of S39 ⟨by decide, by decide⟩) rfl) (g := (mkF m 53 #[vR r0, vJ q1, .second, vR y, vI 0, .unset, .unset, .unset] [(.int 0), (.ref sh), (.ref ka8)])) rfl rfl (hb hby d7_53) _ ?_
    exact k)
  have f48 := (Fn8.keep Kq13 (ninS (Ne.symm ne_r0_b5) (ninS (Ne.symm ne_f_b5) (ninS (Ne.symm ne_sh_b5) nin0))))
  obtain ⟨T49, X49, e49, st49⟩ := own_getFR X45 hx hZ hown (own_w hw 78 rfl) e45 f48 (g := (mkF m 54 #[vR r0, vJ q1, .second, vR y, vI 0, .unset, .unset, .unset] [(.ref b5), (.ref ka8)])) rfl rfl (hb hby d7_54)
  have ks50 := own_c ks47 st49
  have ks51 : own_R p e below (A0) (T49.setTop (mkF m 58 #[vR r0, vJ q1, .second, vR y, vI 0, .unset, .unset, .unset] [(.long q1), (.int 0), (.ref ka8)])) := fun t k => ks50 t (by
    refine XS.lloadN X49.here hx rfl (hb hby d7_57) rfl ?_
    exact k)
  obtain ⟨_, _, ⟨T52, L52, k52, n52⟩, -, X52, ⟨Lc52, hQ52, lq52, yq52, zq52⟩, st52⟩ := Jvm.LawKit.callS X49 hx (y := (⟨"com/example/thin_feed/thinfeed/store/LongFloorMap", "floorIndex", "([JIJ)I"⟩ : MethodName)) hown (mvT hZ (own_w hw 71 rfl)) (mvT hZ (own_w hw 72 rfl)) (mvT hZ (own_w hw 2 rfl)) (mvT hZ (own_w hw 73 rfl)) (by decide) (backOf (W := 0) (rm10_0 l Z a0 hw [] ka8 q1 T13.heap n0 Zn13 ) hZ (own_w hw 73 rfl) (own_w hw 2 rfl) (by decide) (by decide)) (g := (mkF m 58 #[vR r0, vJ q1, .second, vR y, vI 0, .unset, .unset, .unset] [(.long q1), (.int 0), (.ref ka8)])) rfl (by rw [hml]; rfl) (argsL := [(.ref ka8), (.int 0), (.long q1)]) (rest := []) (lenOf pd_8 rfl) rfl (by show 2 * 0 + _ ≤ _; exact Nat.le_of_eq rfl) (hb hby d7_58) (fun _ _ => ⟨rfl, e49, (by decide : 3 + 0 ≤ _), (by decide : 515 + 0 ≤ _)⟩)
  dsimp only [Pt.U, Pt.locs, Pt.cells, Pt.slots] at X52 lq52 yq52 zq52 st52 hQ52
  subst lq52 yq52 zq52
  obtain ⟨rfl, Nq52, eq52⟩ := hQ52
  have N52 := Fr.app N32 Nq52
  have ks53 := own_c ks51 st52
  have ks54 : own_R p e below (A0) (T52.setTop (mkF m 110 #[vR r0, vJ q1, .second, vR y, vI 0, vI (-1), vI 0, .unset] [(.ref r0)])) := fun t k => ks53 t (by
    refine XS.istore X52.here hx rfl (hb hby d7_61) rfl (l' := #[vR r0, vJ q1, .second, vR y, vI 0, vI (-1), .unset, .unset]) rfl ?_
    refine XS.iload X52.here hx rfl (hb hby d7_63) rfl ?_
    refine XS.ifYes X52.here hx rfl (pc0 := 65) (pc' := 103) rfl (hb hby d7_65) rfl ((if0 _ _).trans (tlt (by decide)).1) (by decide) (by decide) ?_
    show Steps p.tables e below (T52.setTop (mkF m 103 #[vR r0, vJ q1, .second, vR y, vI 0, vI (-1), .unset, .unset] [])) _
    refine XS.iload X52.here hx rfl (hb hby d7_103) rfl ?_
    refine XS.iconst X52.here hx rfl (hb hby d7_105) ?_
    refine XS.iadd X52.here hx rfl (hb hby d7_106) rfl ?_
    refine XS.istore X52.here hx rfl (hb hby d7_107) rfl (l' := #[vR r0, vJ q1, .second, vR y, vI 0, vI (-1), vI 0, .unset]) rfl ?_
    show Steps p.tables e below (T52.setTop (mkF m 109 #[vR r0, vJ q1, .second, vR y, vI 0, vI (-1), vI 0, .unset] [])) _
    refine XS.aloadN X52.here hx rfl (hb hby d7_109) rfl rfl ?_
    exact k)
  obtain ⟨T55, X55, e55, st55⟩ := getF X52 hx hZ hown (host := "") (Or.inl (own_w hw 14 rfl)) Via.refl eq52 Fsh13 (g := (mkF m 110 #[vR r0, vJ q1, .second, vR y, vI 0, vI (-1), vI 0, .unset] [(.ref r0)])) rfl rfl (hb hby d7_110)
  have ks56 := own_c ks54 st55
  have ks57 : own_R p e below (A0) (T55.setTop (mkF m 116 #[vR r0, vJ q1, .second, vR y, vI 0, vI (-1), vI 0, .unset] [(.ref b5)])) := fun t k => ks56 t (by
    refine XS.iload X55.here hx rfl (hb hby d7_113) rfl ?_
    refine X55.aaload hx (j := (0 : Int32)) (v := (.ref b5)) (by rw [e55]; exact Ar39.1) (State.isArrayOf_alike hZ.alike Ar39.2.1) rfl Ar39.2.2 (inb_of S39 ⟨by decide, by decide⟩) (Has.at Ha39 (inb_of S39 ⟨by decide, by decide⟩) rfl) (g := (mkF m 115 #[vR r0, vJ q1, .second, vR y, vI 0, vI (-1), vI 0, .unset] [(.int 0), (.ref sh)])) rfl rfl (hb hby d7_115) _ ?_
    exact k)
  obtain ⟨T58, X58, e58, st58⟩ := own_getFR X55 hx hZ hown (own_w hw 78 rfl) e55 f48 (g := (mkF m 116 #[vR r0, vJ q1, .second, vR y, vI 0, vI (-1), vI 0, .unset] [(.ref b5)])) rfl rfl (hb hby d7_116)
  have ks59 := own_c ks57 st58
  have ks60 : own_R p e below (A0) (T58.setTop (mkF m 146 #[vR r0, vJ q1, .second, vR y, vI 0, vI (-1), vI 0, .unset] [(.ref r0)])) := fun t k => ks59 t (by
    refine XS.sipush X58.here hx rfl (hb hby d7_119) ?_
    refine XS.icmpYes X58.here hx rfl (pc0 := 122) (pc' := 145) rfl (hb hby d7_122) rfl (feq (by decide)).2 (by decide) (by decide) ?_
    refine XS.aloadN X58.here hx rfl (hb hby d7_145) rfl rfl ?_
    exact k)
  obtain ⟨T61, X61, e61, st61⟩ := getF X58 hx hZ hown (host := "") (Or.inl (own_w hw 14 rfl)) Via.refl e58 Fsh13 (g := (mkF m 146 #[vR r0, vJ q1, .second, vR y, vI 0, vI (-1), vI 0, .unset] [(.ref r0)])) rfl rfl (hb hby d7_146)
  have ks62 := own_c ks60 st61
  have ks63 : own_R p e below (A0) (T61.setTop (mkF m 156 #[vR r0, vJ q1, .second, vR y, vI 0, vI (-1), vI 0, vR b5] [(.ref b5)])) := fun t k => ks62 t (by
    refine XS.iload X61.here hx rfl (hb hby d7_149) rfl ?_
    refine X61.aaload hx (j := (0 : Int32)) (v := (.ref b5)) (by rw [e61]; exact Ar39.1) (State.isArrayOf_alike hZ.alike Ar39.2.1) rfl Ar39.2.2 (inb_of S39 ⟨by decide, by decide⟩) (Has.at Ha39 (inb_of S39 ⟨by decide, by decide⟩) rfl) (g := (mkF m 151 #[vR r0, vJ q1, .second, vR y, vI 0, vI (-1), vI 0, .unset] [(.int 0), (.ref sh)])) rfl rfl (hb hby d7_151) _ ?_
    refine XS.astore X61.here hx rfl (hb hby d7_152) rfl rfl (l' := #[vR r0, vJ q1, .second, vR y, vI 0, vI (-1), vI 0, vR b5]) rfl ?_
    show Steps p.tables e below (T61.setTop (mkF m 154 #[vR r0, vJ q1, .second, vR y, vI 0, vI (-1), vI 0, vR b5] [])) _
    refine XS.aload X61.here hx rfl (hb hby d7_154) rfl rfl ?_
    exact k)
  obtain ⟨T64, X64, e64, st64⟩ := own_getFR X61 hx hZ hown (own_w hw 69 rfl) e61 f41 (g := (mkF m 156 #[vR r0, vJ q1, .second, vR y, vI 0, vI (-1), vI 0, vR b5] [(.ref b5)])) rfl rfl (hb hby d7_156)
  have ks65 := own_c ks63 st64
  have ks66 : own_R p e below (A0) (T64.setTop (mkF m 163 #[vR r0, vJ q1, .second, vR y, vI 0, vI (-1), vI 0, vR b5] [(.ref b5), (.int 0), (.ref ka8)])) := fun t k => ks65 t (by
    refine XS.iload X64.here hx rfl (hb hby d7_159) rfl ?_
    refine XS.aload X64.here hx rfl (hb hby d7_161) rfl rfl ?_
    exact k)
  obtain ⟨T67, X67, e67, st67⟩ := own_getFR X64 hx hZ hown (own_w hw 69 rfl) e64 f41 (g := (mkF m 163 #[vR r0, vJ q1, .second, vR y, vI 0, vI (-1), vI 0, vR b5] [(.ref b5), (.int 0), (.ref ka8)])) rfl rfl (hb hby d7_163)
  have ks68 := own_c ks66 st67
  have ks69 : own_R p e below (A0) (T67.setTop (mkF m 172 #[vR r0, vJ q1, .second, vR y, vI 0, vI (-1), vI 0, vR b5] [(.ref b5), (.int 1), (.ref ka8), (.int 0), (.ref ka8)])) := fun t k => ks68 t (by
    refine XS.iload X67.here hx rfl (hb hby d7_166) rfl ?_
    refine XS.iconst X67.here hx rfl (hb hby d7_168) ?_
    refine XS.iadd X67.here hx rfl (hb hby d7_169) rfl ?_
    show Steps p.tables e below (T67.setTop (mkF m 170 #[vR r0, vJ q1, .second, vR y, vI 0, vI (-1), vI 0, vR b5] [(.int 1), (.ref ka8), (.int 0), (.ref ka8)])) _
    refine XS.aload X67.here hx rfl (hb hby d7_170) rfl rfl ?_
    exact k)
  obtain ⟨T70, X70, e70, st70⟩ := own_getFR X67 hx hZ hown (own_w hw 78 rfl) e67 f48 (g := (mkF m 172 #[vR r0, vJ q1, .second, vR y, vI 0, vI (-1), vI 0, vR b5] [(.ref b5), (.int 1), (.ref ka8), (.int 0), (.ref ka8)])) rfl rfl (hb hby d7_172)
  have ks71 := own_c ks69 st70
  have ks72 : own_R p e below (A0) (T70.setTop (mkF m 178 #[vR r0, vJ q1, .second, vR y, vI 0, vI (-1), vI 0, vR b5] [(.int 0), (.int 1), (.ref ka8), (.int 0), (.ref ka8)])) := fun t k => ks71 t (by
    refine XS.iload X70.here hx rfl (hb hby d7_175) rfl ?_
    refine XS.isub X70.here hx rfl (hb hby d7_177) rfl ?_
    exact k)
  have f73 := (Vk8.keep Kq13 (ninS (Ne.symm ne_r0_ka8) (ninS (Ne.symm ne_f_ka8) (ninS (Ne.symm ne_sh_ka8) nin0))))
  obtain ⟨T74, h74, L74, X74, e74, N74, Kq74, Vr74, st74⟩ := cpA X70 hx hZ hown (own_w hw 65 rfl) (own_w hw 68 rfl) (own_w hw 66 rfl) (own_w hw 67 rfl) e70 f73 f73 (sp := (0 : Int32)) (dp := (1 : Int32)) (nn := (0 : Int32)) (us := []) (Or.inl ⟨rfl, rfl⟩) (by decide) (by decide) (by decide) (by decide) (by decide) rfl (Nat.le_of_ble_eq_true rfl) N52 g_ka8 (g := (mkF m 178 #[vR r0, vJ q1, .second, vR y, vI 0, vI (-1), vI 0, vR b5] [(.int 0), (.int 1), (.ref ka8), (.int 0), (.ref ka8)])) rfl (by rw [hml]; rfl) (rest := []) rfl (hb hby d7_178) (by decide) (W := 0) (by show 2 * 0 + _ ≤ _; exact Nat.le_of_eq rfl) (by decide)
  have V74 : Arv Z h74 ka8 kka8 .long (256 : Int32) [(.long (0 : Int64)), (.long (0 : Int64)), (.long (0 : Int64))] (.long (0 : Int64)) := Vr74
  have KH74 : Keep h0 h74 [r0, f, sh] := KH13.trans Kq74 (allS (Or.inr sz_ka8) all0)
  have Zn74 : n0 ≤ h74.size := Nat.le_trans Zn13 Kq74.1
  have ks75 := own_c ks72 st74
  have ks76 : own_R p e below (A0) (T74.setTop (mkF m 183 #[vR r0, vJ q1, .second, vR y, vI 0, vI (-1), vI 0, vR b5] [(.ref b5)])) := fun t k => ks75 t (by
    refine XS.aload X74.here hx rfl (hb hby d7_181) rfl rfl ?_
    exact k)
  have f77 := ((Fv8.keep Kq13 (ninS (Ne.symm ne_r0_b5) (ninS (Ne.symm ne_f_b5) (ninS (Ne.symm ne_sh_b5) nin0)))).keep Kq74 (ninS ne_b5_ka8 nin0))
  obtain ⟨T78, X78, e78, st78⟩ := own_getFR X74 hx hZ hown (own_w hw 80 rfl) e74 f77 (g := (mkF m 183 #[vR r0, vJ q1, .second, vR y, vI 0, vI (-1), vI 0, vR b5] [(.ref b5)])) rfl rfl (hb hby d7_183)
  have ks79 := own_c ks76 st78
  have ks80 : own_R p e below (A0) (T78.setTop (mkF m 190 #[vR r0, vJ q1, .second, vR y, vI 0, vI (-1), vI 0, vR b5] [(.ref b5), (.int 0), (.ref va8)])) := fun t k => ks79 t (by
    refine XS.iload X78.here hx rfl (hb hby d7_186) rfl ?_
    refine XS.aload X78.here hx rfl (hb hby d7_188) rfl rfl ?_
    exact k)
  obtain ⟨T81, X81, e81, st81⟩ := own_getFR X78 hx hZ hown (own_w hw 80 rfl) e78 f77 (g := (mkF m 190 #[vR r0, vJ q1, .second, vR y, vI 0, vI (-1), vI 0, vR b5] [(.ref b5), (.int 0), (.ref va8)])) rfl rfl (hb hby d7_190)
  have ks82 := own_c ks80 st81
  have ks83 : own_R p e below (A0) (T81.setTop (mkF m 199 #[vR r0, vJ q1, .second, vR y, vI 0, vI (-1), vI 0, vR b5] [(.ref b5), (.int 1), (.ref va8), (.int 0), (.ref va8)])) := fun t k => ks82 t (by
    refine XS.iload X81.here hx rfl (hb hby d7_193) rfl ?_
    refine XS.iconst X81.here hx rfl (hb hby d7_195) ?_
    refine XS.iadd X81.here hx rfl (hb hby d7_196) rfl ?_
    show Steps p.tables e below (T81.setTop (mkF m 197 #[vR r0, vJ q1, .second, vR y, vI 0, vI (-1), vI 0, vR b5] [(.int 1), (.ref va8), (.int 0), (.ref va8)])) _
    refine XS.aload X81.here hx rfl (hb hby d7_197) rfl rfl ?_
    exact k)
  have f84 := (f48.keep Kq74 (ninS ne_b5_ka8 nin0))
  obtain ⟨T85, X85, e85, st85⟩ := own_getFR X81 hx hZ hown (own_w hw 78 rfl) e81 f84 (g := (mkF m 199 #[vR r0, vJ q1, .second, vR y, vI 0, vI (-1), vI 0, vR b5] [(.ref b5), (.int 1), (.ref va8), (.int 0), (.ref va8)])) rfl rfl (hb hby d7_199)
  have ks86 := own_c ks83 st85
  have ks87 : own_R p e below (A0) (T85.setTop (mkF m 205 #[vR r0, vJ q1, .second, vR y, vI 0, vI (-1), vI 0, vR b5] [(.int 0), (.int 1), (.ref va8), (.int 0), (.ref va8)])) := fun t k => ks86 t (by
    refine XS.iload X85.here hx rfl (hb hby d7_202) rfl ?_
    refine XS.isub X85.here hx rfl (hb hby d7_204) rfl ?_
    exact k)
  have f88 := ((Vv8.keep Kq13 (ninS (Ne.symm ne_r0_va8) (ninS (Ne.symm ne_f_va8) (ninS (Ne.symm ne_sh_va8) nin0)))).keep Kq74 (ninS (Ne.symm nq8) nin0))
  obtain ⟨T89, h89, L89, X89, e89, N89, Kq89, Vr89, st89⟩ := cpA X85 hx hZ hown (own_w hw 65 rfl) (own_w hw 68 rfl) (own_w hw 66 rfl) (own_w hw 67 rfl) e85 f88 f88 (sp := (0 : Int32)) (dp := (1 : Int32)) (nn := (0 : Int32)) (us := []) (Or.inr ⟨rfl, rfl, trivial⟩) (by decide) (by decide) (by decide) (by decide) (by decide) rfl (Nat.le_of_ble_eq_true rfl) N74 g_va8 (g := (mkF m 205 #[vR r0, vJ q1, .second, vR y, vI 0, vI (-1), vI 0, vR b5] [(.int 0), (.int 1), (.ref va8), (.int 0), (.ref va8)])) rfl (by rw [hml]; rfl) (rest := []) rfl (hb hby d7_205) (by decide) (W := 0) (by show 2 * 0 + _ ≤ _; exact Nat.le_of_eq rfl) (by decide)
  have V89 : Arv Z h89 va8 kva8 (.object "java/lang/Object") (256 : Int32) [.null, .null, .null] .null := Vr89
  have KH89 : Keep h0 h89 [r0, f, sh] := KH74.trans Kq89 (allS (Or.inr sz_va8) all0)
  have Zn89 : n0 ≤ h89.size := Nat.le_trans Zn74 Kq89.1
  have ks90 := own_c ks87 st89
  have ks91 : own_R p e below (A0) (T89.setTop (mkF m 210 #[vR r0, vJ q1, .second, vR y, vI 0, vI (-1), vI 0, vR b5] [(.ref b5)])) := fun t k => ks90 t (by
    refine XS.aload X89.here hx rfl (hb hby d7_208) rfl rfl ?_
    exact k)
  have f92 := ((f41.keep Kq74 (ninS ne_b5_ka8 nin0)).keep Kq89 (ninS ne_b5_va8 nin0))
  obtain ⟨T93, X93, e93, st93⟩ := own_getFR X89 hx hZ hown (own_w hw 69 rfl) e89 f92 (g := (mkF m 210 #[vR r0, vJ q1, .second, vR y, vI 0, vI (-1), vI 0, vR b5] [(.ref b5)])) rfl rfl (hb hby d7_210)
  have ks94 := own_c ks91 st93
  have ks95 : own_R p e below (A0) (T93.setTop (mkF m 216 #[vR r0, vJ q1, .second, vR y, vI 0, vI (-1), vI 0, vR b5] [(.long q1), (.int 0), (.ref ka8)])) := fun t k => ks94 t (by
    refine XS.iload X93.here hx rfl (hb hby d7_213) rfl ?_
    refine XS.lloadN X93.here hx rfl (hb hby d7_215) rfl ?_
    exact k)
  have f96 := (V74.keep Kq89 (ninS nq8 nin0))
  obtain ⟨cl97, Ar97, qa97, S97, Na97, Ha97, Ga97⟩ := id f96
  have hin97 : ¬ ((0 : Int32) < 0 ∨ cl97.slots.size ≤ ((0 : Int32)).toNatClampNeg) := inb_of S97 ⟨by decide, by decide⟩
  obtain ⟨T98, h98, X98, e98, W98, st98⟩ := stJ X93 hx hZ e93 Ar97 (j := (0 : Int32)) hin97 (g := (mkF m 216 #[vR r0, vJ q1, .second, vR y, vI 0, vI (-1), vI 0, vR b5] [(.long q1), (.int 0), (.ref ka8)])) rfl rfl (hb hby d7_216)
  have V98 : Arv Z h98 ka8 kka8 .long (256 : Int32) [(.long q1), (.long (0 : Int64)), (.long (0 : Int64))] (.long (0 : Int64)) := Arv.set Ar97 qa97 S97 Na97 Ha97 Ga97 rfl W98 0 rfl (Nat.le_of_ble_eq_true rfl)
  have KH98 : Keep h0 h98 [r0, f, sh] := KH89.wr W98 (Or.inr sz_ka8)
  have Zn98 : n0 ≤ h98.size := Nat.le_trans Zn89 (Keep.of_wr W98).1
  have N98 := Fr.snoc X98 N89 g_ka8
  have ks99 := own_c ks95 st98
  have ks100 : own_R p e below (A0) (T98.setTop (mkF m 219 #[vR r0, vJ q1, .second, vR y, vI 0, vI (-1), vI 0, vR b5] [(.ref b5)])) := fun t k => ks99 t (by
    refine XS.aload X98.here hx rfl (hb hby d7_217) rfl rfl ?_
    exact k)
  have f101 := ((f77.keep Kq89 (ninS ne_b5_va8 nin0)).other W98 (Or.inl ne_b5_ka8))
  obtain ⟨T102, X102, e102, st102⟩ := own_getFR X98 hx hZ hown (own_w hw 80 rfl) e98 f101 (g := (mkF m 219 #[vR r0, vJ q1, .second, vR y, vI 0, vI (-1), vI 0, vR b5] [(.ref b5)])) rfl rfl (hb hby d7_219)
  have ks103 := own_c ks100 st102
  have ks104 : own_R p e below (A0) (T102.setTop (mkF m 225 #[vR r0, vJ q1, .second, vR y, vI 0, vI (-1), vI 0, vR b5] [(.ref y), (.int 0), (.ref va8)])) := fun t k => ks103 t (by
    refine XS.iload X102.here hx rfl (hb hby d7_222) rfl ?_
    refine XS.aloadN X102.here hx rfl (hb hby d7_224) rfl rfl ?_
    exact k)
  have f105 := (V89.other W98 (Ne.symm nq8))
  obtain ⟨cl106, Ar106, qa106, S106, Na106, Ha106, Ga106⟩ := id f105
  have f107 := Ey.keep KH98
  have hin106 : ¬ ((0 : Int32) < 0 ∨ cl106.slots.size ≤ ((0 : Int32)).toNatClampNeg) := inb_of S106 ⟨by decide, by decide⟩
  obtain ⟨T108, h108, X108, e108, W108, st108⟩ := stR X102 hx hZ e102 Ar106 (j := (0 : Int32)) hin106 rfl (Sto.ofV Ar106 qa106 Ov8 (Ins.of_exa f107 (own_w hw 81 rfl))) (g := (mkF m 225 #[vR r0, vJ q1, .second, vR y, vI 0, vI (-1), vI 0, vR b5] [(.ref y), (.int 0), (.ref va8)])) rfl rfl (hb hby d7_225)
  have V108 : Arv Z h108 va8 kva8 (.object "java/lang/Object") (256 : Int32) [(.ref y), .null, .null] .null := Arv.set Ar106 qa106 S106 Na106 Ha106 Ga106 rfl W108 0 rfl (Nat.le_of_ble_eq_true rfl)
  have KH108 : Keep h0 h108 [r0, f, sh] := KH98.wr W108 (Or.inr sz_va8)
  have Zn108 : n0 ≤ h108.size := Nat.le_trans Zn98 (Keep.of_wr W108).1
  have N108 := Fr.snoc X108 N98 g_va8
  have ks109 := own_c ks104 st108
  have ks110 : own_R p e below (A0) (T108.setTop (mkF m 229 #[vR r0, vJ q1, .second, vR y, vI 0, vI (-1), vI 0, vR b5] [(.ref b5), (.ref b5)])) := fun t k => ks109 t (by
    refine XS.aload X108.here hx rfl (hb hby d7_226) rfl rfl ?_
    refine XS.dup X108.here hx rfl (hb hby d7_228) rfl rfl ?_
    exact k)
  have f111 := (((f84.keep Kq89 (ninS ne_b5_va8 nin0)).other W98 (Or.inl ne_b5_ka8)).other W108 (Or.inl ne_b5_va8))
  obtain ⟨T112, X112, e112, st112⟩ := own_getFR X108 hx hZ hown (own_w hw 78 rfl) e108 f111 (g := (mkF m 229 #[vR r0, vJ q1, .second, vR y, vI 0, vI (-1), vI 0, vR b5] [(.ref b5), (.ref b5)])) rfl rfl (hb hby d7_229)
  have ks113 := own_c ks110 st112
  have ks114 : own_R p e below (A0) (T112.setTop (mkF m 234 #[vR r0, vJ q1, .second, vR y, vI 0, vI (-1), vI 0, vR b5] [(.int 1), (.ref b5)])) := fun t k => ks113 t (by
    refine XS.iconst X112.here hx rfl (hb hby d7_232) ?_
    refine XS.iadd X112.here hx rfl (hb hby d7_233) rfl ?_
    exact k)
  have f115 := (((((f21.keep Kq13).keep Kq74).keep Kq89).wr W98).wr W108)
  obtain ⟨T116, h116, X116, e116, W116, st116⟩ := own_putFR X112 hx hZ hown (own_w hw 78 rfl) e112 f111 f115 (own_w hw 79 rfl) (own_w hw 49 rfl) (ty := .int) (by decide) rfl rfl (g := (mkF m 234 #[vR r0, vJ q1, .second, vR y, vI 0, vI (-1), vI 0, vR b5] [(.int 1), (.ref b5)])) rfl rfl (hb hby d7_234)
  have Fw116 := f111.same W116
  have KH116 : Keep h0 h116 [r0, f, sh] := KH108.wr W116 (Or.inr sz_b5)
  have Zn116 : n0 ≤ h116.size := Nat.le_trans Zn108 (Keep.of_wr W116).1
  have N116 := Fr.snoc X116 N108 g_b5
  have ks117 := own_c ks114 st116
  have ks118 : own_R p e below (A0) (T116.setTop (mkF m 238 #[vR r0, vJ q1, .second, vR y, vI 0, vI (-1), vI 0, vR b5] [(.ref r0)])) := fun t k => ks117 t (by
    refine XS.aloadN X116.here hx rfl (hb hby d7_237) rfl rfl ?_
    exact k)
  have f119 := (((((Ff13.keep Kq74 (ninS ne_r0_ka8 nin0)).keep Kq89 (ninS ne_r0_va8 nin0)).other W98 (Or.inl ne_r0_ka8)).other W108 (Or.inl ne_r0_va8)).other W116 (Or.inl ne_r0_b5))
  obtain ⟨T120, X120, e120, st120⟩ := getF X116 hx hZ hown (host := "") (Or.inl (own_w hw 10 rfl)) Via.refl e116 f119 (g := (mkF m 238 #[vR r0, vJ q1, .second, vR y, vI 0, vI (-1), vI 0, vR b5] [(.ref r0)])) rfl rfl (hb hby d7_238)
  have ks121 := own_c ks118 st120
  have ks122 : own_R p e below (A0) (T120.setTop (mkF m 245 #[vR r0, vJ q1, .second, vR y, vI 0, vI (-1), vI 0, vR b5] [(.ref b5), (.int 0), (.ref f)])) := fun t k => ks121 t (by
    refine XS.iload X120.here hx rfl (hb hby d7_241) rfl ?_
    refine XS.aload X120.here hx rfl (hb hby d7_243) rfl rfl ?_
    exact k)
  have f123 := (((f92.other W98 (Or.inl ne_b5_ka8)).other W108 (Or.inl ne_b5_va8)).other W116 (Or.inr (slot_ne (Or.inr (own_w hw 56 rfl)) (Or.inl (own_w hw 79 rfl)) (by decide) (t := (.array .long)) (t' := .int) (by decide) (by decide))))
  obtain ⟨T124, X124, e124, st124⟩ := own_getFR X120 hx hZ hown (own_w hw 69 rfl) e120 f123 (g := (mkF m 245 #[vR r0, vJ q1, .second, vR y, vI 0, vI (-1), vI 0, vR b5] [(.ref b5), (.int 0), (.ref f)])) rfl rfl (hb hby d7_245)
  have ks125 := own_c ks122 st124
  have ks126 : own_R p e below (A0) (T124.setTop (mkF m 249 #[vR r0, vJ q1, .second, vR y, vI 0, vI (-1), vI 0, vR b5] [(.int 0), (.ref ka8), (.int 0), (.ref f)])) := fun t k => ks125 t (by
    refine XS.iconst X124.here hx rfl (hb hby d7_248) ?_
    exact k)
  have f127 := ((V98.other W108 nq8).other W116 (Ne.symm ne_b5_ka8))
  obtain ⟨cl128, Ar128, qa128, S128, Na128, Ha128, Ga128⟩ := id f127
  have ks129 : own_R p e below (A0) (T124.setTop (mkF m 250 #[vR r0, vJ q1, .second, vR y, vI 0, vI (-1), vI 0, vR b5] [(.long q1), (.int 0), (.ref f)])) := fun t k => ks126 t (by
    refine X124.laload hx (j := (0 : Int32)) (v := (.long q1)) (by rw [e124]; exact Ar128.1) (State.isArrayOf_alike hZ.alike Ar128.2.1) Ar128.2.2 (inb_of S128 ⟨by decide, by decide⟩) (Has.at Ha128 (inb_of S128 ⟨by decide, by decide⟩) rfl) (g := (mkF m 249 #[vR r0, vJ q1, .second, vR y, vI 0, vI (-1), vI 0, vR b5] [(.int 0), (.ref ka8), (.int 0), (.ref f)])) rfl rfl (hb hby d7_249) _ ?_
    exact k)
  have f130 := (((((Vf13.keep Kq74 (ninS ne_f_ka8 nin0)).keep Kq89 (ninS ne_f_va8 nin0)).other W98 ne_f_ka8).other W108 ne_f_va8).other W116 ne_f_b5)
  obtain ⟨cl131, Ar131, qa131, S131, Na131, Ha131, Ga131⟩ := id f130
  have hin131 : ¬ ((0 : Int32) < 0 ∨ cl131.slots.size ≤ ((0 : Int32)).toNatClampNeg) := inb_of S131 ⟨by decide, by decide⟩
  obtain ⟨T132, h132, X132, e132, W132, st132⟩ := stJ X124 hx hZ e124 Ar131 (j := (0 : Int32)) hin131 (g := (mkF m 250 #[vR r0, vJ q1, .second, vR y, vI 0, vI (-1), vI 0, vR b5] [(.long q1), (.int 0), (.ref f)])) rfl rfl (hb hby d7_250)
  have V132 : Arv Z h132 f kf .long (1 : Int32) [(.long q1)] (.long (0 : Int64)) := Arv.set Ar131 qa131 S131 Na131 Ha131 Ga131 rfl W132 0 rfl (Nat.le_of_ble_eq_true rfl)
  have KH132 : Keep h0 h132 [r0, f, sh] := KH116.wr W132 (Or.inl (List.mem_of_getElem? (i := 1) rfl))
  have Zn132 : n0 ≤ h132.size := Nat.le_trans Zn116 (Keep.of_wr W132).1
  have N132 := Fr.snoc X132 N116 g_f
  have ks133 := own_c ks129 st132
  have ks134 : own_R p e below (A0) (T132.setTop (mkF m 253 #[vR r0, vJ q1, .second, vR y, vI 0, vI (-1), vI 0, vR b5] [(.ref r0), (.ref r0)])) := fun t k => ks133 t (by
    refine XS.aloadN X132.here hx rfl (hb hby d7_251) rfl rfl ?_
    refine XS.dup X132.here hx rfl (hb hby d7_252) rfl rfl ?_
    exact k)
  have f135 := ((((((Fz13.keep Kq74 (ninS ne_r0_ka8 nin0)).keep Kq89 (ninS ne_r0_va8 nin0)).other W98 (Or.inl ne_r0_ka8)).other W108 (Or.inl ne_r0_va8)).other W116 (Or.inl ne_r0_b5)).other W132 (Or.inl ne_r0_f))
  obtain ⟨T136, X136, e136, st136⟩ := getF X132 hx hZ hown (host := "") (Or.inl (own_w hw 82 rfl)) Via.refl e132 f135 (g := (mkF m 253 #[vR r0, vJ q1, .second, vR y, vI 0, vI (-1), vI 0, vR b5] [(.ref r0), (.ref r0)])) rfl rfl (hb hby d7_253)
  have ks137 := own_c ks134 st136
  have ks138 : own_R p e below (A0) (T136.setTop (mkF m 258 #[vR r0, vJ q1, .second, vR y, vI 0, vI (-1), vI 0, vR b5] [(.int (sz + (1 : Int32))), (.ref r0)])) := fun t k => ks137 t (by
    refine XS.iconst X136.here hx rfl (hb hby d7_256) ?_
    refine XS.iadd X136.here hx rfl (hb hby d7_257) rfl ?_
    exact k)
  have f139 := E0.keep KH132
  obtain ⟨T140, h140, X140, e140, W140, st140⟩ := putF X136 hx hZ hown (host := "") (Or.inl (own_w hw 82 rfl)) Via.refl e136 f135 f139 (Or.inl (own_w hw 83 rfl)) (own_w hw 1 rfl) (ty := .int) (by decide) rfl rfl (g := (mkF m 258 #[vR r0, vJ q1, .second, vR y, vI 0, vI (-1), vI 0, vR b5] [(.int (sz + (1 : Int32))), (.ref r0)])) rfl rfl (hb hby d7_258)
  have Fw140 := f135.same W140
  have KH140 : Keep h0 h140 [r0, f, sh] := KH132.wr W140 (Or.inl (List.mem_of_getElem? (i := 0) rfl))
  have Zn140 : n0 ≤ h140.size := Nat.le_trans Zn132 (Keep.of_wr W140).1
  have N140 := Fr.snoc X140 N132 g_r0
  have ks141 := own_c ks138 st140
  obtain ⟨fs, hr, hrun, hended, hW, hsame⟩ := X140.leave (v := none) (fun _ => rfl) hlk
  refine ⟨_, _, kz _ (ks141 _ ?_), hrun, hended, _, _, rfl, ?_, ⟨_, rfl⟩, hW, hsame.mono (by decide) (by decide)⟩
  · exact X140.returnOut hx Bd.returns (hb hby d7_261) hr
  · show Q7E Z r0 q1 y f sh kf ksh sz x h0 n0 _ T140.heap _
    rw [e140]
    have f142 := E0.keep KH140
    have f143 := ((f119.other W132 (Or.inl ne_r0_f)).other W140 (Or.inr (slot_ne (Or.inl (own_w hw 11 rfl)) (Or.inl (own_w hw 83 rfl)) (by decide) (t := (.array .long)) (t' := .int) (by decide) (by decide))))
    have f144 := (((((((Fsh13.keep Kq74 (ninS ne_r0_ka8 nin0)).keep Kq89 (ninS ne_r0_va8 nin0)).other W98 (Or.inl ne_r0_ka8)).other W108 (Or.inl ne_r0_va8)).other W116 (Or.inl ne_r0_b5)).other W132 (Or.inl ne_r0_f)).other W140 (Or.inr (slot_ne (Or.inl (own_w hw 15 rfl)) (Or.inl (own_w hw 83 rfl)) (by decide) (t := (.array (.object "com/example/thin_feed/thinfeed/store/LongFloorMap$Shelf"))) (t' := .int) (by decide) (by decide))))
    have f145 := (((((((Fc13.keep Kq74 (ninS ne_r0_ka8 nin0)).keep Kq89 (ninS ne_r0_va8 nin0)).other W98 (Or.inl ne_r0_ka8)).other W108 (Or.inl ne_r0_va8)).other W116 (Or.inl ne_r0_b5)).other W132 (Or.inl ne_r0_f)).other W140 (Or.inr (slot_ne (Or.inl (own_w hw 37 rfl)) (Or.inl (own_w hw 83 rfl)) (by decide) (t := .int) (t' := .int) (by decide) (by decide))))
    have f146 := (V132.other W140 (Ne.symm ne_r0_f))
    have f147 := (((((((Vs13.keep Kq74 (ninS ne_sh_ka8 nin0)).keep Kq89 (ninS ne_sh_va8 nin0)).other W98 ne_sh_ka8).other W108 ne_sh_va8).other W116 ne_sh_b5).other W132 (Ne.symm ne_f_sh)).other W140 (Ne.symm ne_r0_sh))
    have f148 := (((f115.wr W116).wr W132).wr W140)
    have f149 := ((f123.other W132 (Or.inl (Ne.symm ne_f_b5))).other W140 (Or.inl (Ne.symm ne_r0_b5)))
    have f150 := ((((f101.other W108 (Or.inl ne_b5_va8)).other W116 (Or.inr (slot_ne (Or.inr (own_w hw 60 rfl)) (Or.inl (own_w hw 79 rfl)) (by decide) (t := (.array (.object "java/lang/Object"))) (t' := .int) (by decide) (by decide)))).other W132 (Or.inl (Ne.symm ne_f_b5))).other W140 (Or.inl (Ne.symm ne_r0_b5)))
    have f151 := ((Fw116.other W132 (Or.inl (Ne.symm ne_f_b5))).other W140 (Or.inl (Ne.symm ne_r0_b5)))
    have f152 := ((f127.other W132 (Ne.symm ne_f_ka8)).other W140 (Ne.symm ne_r0_ka8))
    have f153 := (((V108.other W116 (Ne.symm ne_b5_va8)).other W132 (Ne.symm ne_f_va8)).other W140 (Ne.symm ne_r0_va8))
    have f154 := Ey.keep KH140
    exact ⟨rfl, N140, Zn140, (fun _ _ q => q.keep KH140), _, ⟨f, sh, b5, ka8, va8, _, _, _, _, _, _, f142, f143, f144, f145, Fw140, f146, f147, Os, f148, f149, f150, f151, f152, f153, Ov8, f154, g_r0, g_f, g_sh, g_b5, g_ka8, g_va8, ne_r0_f, ne_r0_sh, ne_r0_b5, ne_r0_ka8, ne_r0_va8, ne_f_sh, ne_f_b5, ne_f_ka8, ne_f_va8, ne_sh_b5, ne_sh_ka8, ne_sh_va8, ne_b5_ka8, ne_b5_va8, nq8⟩⟩
theorem own_p1 {a k : Int64} (h : a = k) (x : Int64) : (x = k ∨ x = a) ↔ x = a := by subst h; simp
theorem own_p2 {a k : Int64} (h : ¬ k < a) (h' : ¬ a = k) : a < k := by
  rw [Int64.lt_iff_toInt_lt] at h ⊢
  have : a.toInt ≠ k.toInt := fun q => h' (Int64.toInt_inj.mp q)
  omega
theorem own_p3 {a k : Int64} (x : Int64) : (x = k ∨ x = a) ↔ (x = a ∨ x = k) := Or.comm
theorem own_p4 {a k : Int64} (x : Int64) : (x = k ∨ x = a) ↔ (x = k ∨ x = a) := Iff.rfl
theorem d7_68 : decode prog_25_method_6_code 68 = .ok (.aload_n 0, 1) := by decide +kernel
theorem d7_69 : decode prog_25_method_6_code 69 = .ok (.getfield 15, 3) := by decide +kernel
theorem d7_72 : decode prog_25_method_6_code 72 = .ok (.iload 4, 2) := by decide +kernel
theorem d7_74 : decode prog_25_method_6_code 74 = .ok (.aaload, 1) := by decide +kernel
theorem d7_75 : decode prog_25_method_6_code 75 = .ok (.getfield 27, 3) := by decide +kernel
theorem d7_78 : decode prog_25_method_6_code 78 = .ok (.iload 5, 2) := by decide +kernel
theorem d7_80 : decode prog_25_method_6_code 80 = .ok (.laload, 1) := by decide +kernel
theorem d7_81 : decode prog_25_method_6_code 81 = .ok (.lload_n 1, 1) := by decide +kernel
theorem d7_82 : decode prog_25_method_6_code 82 = .ok (.lcmp, 1) := by decide +kernel
theorem d7_83 : decode prog_25_method_6_code 83 = .ok (.ifCond .ne 20, 3) := by decide +kernel
theorem d7_86 : decode prog_25_method_6_code 86 = .ok (.aload_n 0, 1) := by decide +kernel
theorem d7_87 : decode prog_25_method_6_code 87 = .ok (.getfield 15, 3) := by decide +kernel
theorem d7_90 : decode prog_25_method_6_code 90 = .ok (.iload 4, 2) := by decide +kernel
theorem d7_92 : decode prog_25_method_6_code 92 = .ok (.aaload, 1) := by decide +kernel
theorem d7_93 : decode prog_25_method_6_code 93 = .ok (.getfield 60, 3) := by decide +kernel
theorem d7_96 : decode prog_25_method_6_code 96 = .ok (.iload 5, 2) := by decide +kernel
theorem d7_98 : decode prog_25_method_6_code 98 = .ok (.aload_n 3, 1) := by decide +kernel
theorem d7_99 : decode prog_25_method_6_code 99 = .ok (.aastore, 1) := by decide +kernel
theorem d7_100 : decode prog_25_method_6_code 100 = .ok (.goto 161, 3) := by decide +kernel
theorem ef_7F (m : MethodId) (x0 : Addr) (x1 : Int64) (x2 : Addr) : entryFrame m #[(.ref x0), (.long x1), (.ref x2)] 8 = mkF m 0 #[.val (.ref x0), .val (.long x1), .second, .val (.ref x2), .unset, .unset, .unset, .unset] [] := by first | (simp [entryFrame, mkF, argsToLocals, Value.category]; done) | rfl
def Q7F (Z : State) (r0 : Addr) (q1 : Int64) (y : Addr) (f : Addr) (sh : Addr) (ob : Addr) (ka : Addr) (va : Addr) (kf : ClassId) (ksh : ClassId) (kka : ClassId) (kva : ClassId) (sz : Int32) (z : Int64) (a : Int64) (b : Int64) (h0 : Heap) (n0 : Nat) (v : Option Value) (h : Heap) (L : List Loc) : Prop := v = none ∧ Fr n0 L ∧ n0 ≤ h.size ∧ (∀ (x : Addr) (K : String), Exa Z h0 x K → Exa Z h x K) ∧ own_M Z h n0 r0 y (fun x => x = q1 ∨ x = a)
set_option maxRecDepth 65536 in
set_option maxHeartbeats 40000000 in
theorem rm7F (l : Launch) (Z : State) (a0 : Array Value) (hw : ∀ d ∈ tables_1, d.before a0 Z = true) (ws : List Jvm.Cond) (r0 : Addr) (q1 : Int64) (y : Addr) (f : Addr) (sh : Addr) (ob : Addr) (ka : Addr) (va : Addr) (kf : ClassId) (ksh : ClassId) (kka : ClassId) (kva : ClassId) (sz : Int32) (z : Int64) (a : Int64) (b : Int64) (h0 : Heap) (n0 : Nat) (Z0 : n0 ≤ h0.size) (E0 : Exa Z h0 r0 "com/example/thin_feed/thinfeed/store/LongFloorMap") (Ff : Fld Z h0 r0 "com/example/thin_feed/thinfeed/store/LongFloorMap" "firsts" "[J" (.ref f)) (Fsh : Fld Z h0 r0 "com/example/thin_feed/thinfeed/store/LongFloorMap" "shelves" "[Lcom/example/thin_feed/thinfeed/store/LongFloorMap$Shelf;" (.ref sh)) (Fc : Fld Z h0 r0 "com/example/thin_feed/thinfeed/store/LongFloorMap" "shelfCount" "I" (.int 1)) (Fz : Fld Z h0 r0 "com/example/thin_feed/thinfeed/store/LongFloorMap" "size" "I" (.int sz)) (Vf : Arv Z h0 f kf .long 1 [.long a] (.long (0 : Int64))) (Vs : Arv Z h0 sh ksh (.object "com/example/thin_feed/thinfeed/store/LongFloorMap$Shelf") 1 [.ref ob] .null) (Os : Ovr Z ksh "com/example/thin_feed/thinfeed/store/LongFloorMap$Shelf") (Eo : Exa Z h0 ob "com/example/thin_feed/thinfeed/store/LongFloorMap$Shelf") (Fk : Fld Z h0 ob "com/example/thin_feed/thinfeed/store/LongFloorMap$Shelf" "keys" "[J" (.ref ka)) (Fv : Fld Z h0 ob "com/example/thin_feed/thinfeed/store/LongFloorMap$Shelf" "values" "[Ljava/lang/Object;" (.ref va)) (Fn : Fld Z h0 ob "com/example/thin_feed/thinfeed/store/LongFloorMap$Shelf" "size" "I" (.int 1)) (Vk : Arv Z h0 ka kka .long 256 [.long a, .long b, .long z] (.long (0 : Int64))) (Vv : Arv Z h0 va kva (.object "java/lang/Object") 256 [.ref y, .null, .null] .null) (Ov : Ovr Z kva "java/lang/Object") (Ey : Exa Z h0 y "java/lang/Integer") (g_r0 : n0 ≤ r0) (g_f : n0 ≤ f) (g_sh : n0 ≤ sh) (g_ob : n0 ≤ ob) (g_ka : n0 ≤ ka) (g_va : n0 ≤ va) (ne_r0_f : r0 ≠ f) (ne_r0_sh : r0 ≠ sh) (ne_r0_ob : r0 ≠ ob) (ne_r0_ka : r0 ≠ ka) (ne_r0_va : r0 ≠ va) (ne_f_sh : f ≠ sh) (ne_f_ob : f ≠ ob) (ne_f_ka : f ≠ ka) (ne_f_va : f ≠ va) (ne_sh_ob : sh ≠ ob) (ne_sh_ka : sh ≠ ka) (ne_sh_va : sh ≠ va) (ne_ob_ka : ob ≠ ka) (ne_ob_va : ob ≠ va) (ne_ka_va : ka ≠ va) :
    MetFree l (⟨"com/example/thin_feed/thinfeed/store/LongFloorMap", "put", "(JLjava/lang/Object;)V"⟩ : MethodName) (head1 (Jvm.Cond.code (⟨"com/example/thin_feed/thinfeed/store/LongFloorMap", "put", "(JLjava/lang/Object;)V"⟩ : MethodName) prog_25_method_6_code 8 none :: ws) ({ frames := 1, cells := 0, slots := 0, locals := 19 } : Room)) (fun a U => a = #[(.ref r0), (.long q1), (.ref y)] ∧ Z.Warmed39 U.vm ∧ U.heap = h0) (fun _ _ _ _ _ => True) (fun _ U o U' => ∃ v L, o = .returned v ∧ Q7F Z r0 q1 y f sh ob ka va kf ksh kka kva sz z a b h0 n0 v U'.heap L ∧ FrameEnd U o U' L ({ frames := 1, cells := 0, slots := 0, locals := 19 } : Room).cells ({ frames := 1, cells := 0, slots := 0, locals := 19 } : Room).slots) := by
  refine MetFree.of_bodySF (plainFor_of_name pn_7) hisR ?_
  intro p e s m args below meth c s₁ Bd hml0 hP hK
  obtain ⟨rfl, hZ, hh⟩ := hP
  have hx := Bd.exec
  have hby := Bd.bytes
  have hml : c.maxLocals = 8 := hml0
  have hown : s.vm.findClass "com/example/thin_feed/thinfeed/store/LongFloorMap" = some m.cls := findClass_of_methodNamed Bd.named
  have hnm := (name_of_methodNamed Bd.named Bd.method).1
  have hlk : meth.locks = false := by first | exact BodyLoose.notSynchronized Bd | exact Body.notSynchronized Bd
  have X0 : Stand p l e ({ frames := 1, cells := 0, slots := 0, locals := 19 } : Room) s m #[(.ref r0), (.long q1), (.ref y)] below meth c s₁ [] 0 0 := Stand.of_body Bd
  have e0 : s₁.heap = h0 := by rw [← hh, Bd.state]; rfl
  have N0 := Fr.nil n0
  have k0 : own_R p e below (s₁.setTop (entryFrame m #[(.ref r0), (.long q1), (.ref y)] 8)) (s₁.setTop (mkF m 0 #[vR r0, vJ q1, .second, vR y, .unset, .unset, .unset, .unset] [])) := fun t k => castTop (ef_7F m r0 q1 y) k
  obtain ⟨A0, hA0⟩ : ∃ z, z = s₁.setTop (entryFrame m #[(.ref r0), (.long q1), (.ref y)] 8) := ⟨_, rfl⟩
  rw [← hA0] at k0
  have kz : ∀ t, Steps p.tables e below A0 t → Steps p.tables e below (s₁.setTop (entryFrame m #[(.ref r0), (.long q1), (.ref y)] 8)) t := fun t q => hA0 ▸ q
  have ks1 : own_R p e below (A0) (s₁.setTop (mkF m 1 #[vR r0, vJ q1, .second, vR y, .unset, .unset, .unset, .unset] [(.ref r0)])) := fun t k => k0 t (by
    refine XS.aloadN X0.here hx rfl (hb hby d7_0) rfl rfl ?_
    exact k)
  obtain ⟨T2, X2, e2, st2⟩ := getF X0 hx hZ hown (host := "") (Or.inl (own_w hw 36 rfl)) Via.refl e0 Fc (g := (mkF m 1 #[vR r0, vJ q1, .second, vR y, .unset, .unset, .unset, .unset] [(.ref r0)])) rfl rfl (hb hby d7_1)
  have ks3 := own_c ks1 st2
  have ks4 : own_R p e below (A0) (T2.setTop (mkF m 21 #[vR r0, vJ q1, .second, vR y, .unset, .unset, .unset, .unset] [(.ref r0), (.int 0)])) := fun t k => ks3 t (by
    refine XS.ifYes X2.here hx rfl (pc0 := 4) (pc' := 19) rfl (hb hby d7_4) rfl ((if0 _ _).trans (feq (by decide)).2) (by decide) (by decide) ?_
    refine XS.iconst X2.here hx rfl (hb hby d7_19) ?_
    refine XS.aloadN X2.here hx rfl (hb hby d7_20) rfl rfl ?_
    exact k)
  obtain ⟨T5, X5, e5, st5⟩ := getF X2 hx hZ hown (host := "") (Or.inl (own_w hw 10 rfl)) Via.refl e2 Ff (g := (mkF m 21 #[vR r0, vJ q1, .second, vR y, .unset, .unset, .unset, .unset] [(.ref r0), (.int 0)])) rfl rfl (hb hby d7_21)
  have ks6 := own_c ks4 st5
  have ks7 : own_R p e below (A0) (T5.setTop (mkF m 25 #[vR r0, vJ q1, .second, vR y, .unset, .unset, .unset, .unset] [(.ref r0), (.ref f), (.int 0)])) := fun t k => ks6 t (by
    refine XS.aloadN X5.here hx rfl (hb hby d7_24) rfl rfl ?_
    exact k)
  obtain ⟨T8, X8, e8, st8⟩ := getF X5 hx hZ hown (host := "") (Or.inl (own_w hw 36 rfl)) Via.refl e5 Fc (g := (mkF m 25 #[vR r0, vJ q1, .second, vR y, .unset, .unset, .unset, .unset] [(.ref r0), (.ref f), (.int 0)])) rfl rfl (hb hby d7_25)
  have ks9 := own_c ks7 st8
  have ks10 : own_R p e below (A0) (T8.setTop (mkF m 29 #[vR r0, vJ q1, .second, vR y, .unset, .unset, .unset, .unset] [(.long q1), (.int 1), (.ref f), (.int 0)])) := fun t k => ks9 t (by
    refine XS.lloadN X8.here hx rfl (hb hby d7_28) rfl ?_
    exact k)
  obtain ⟨_, _, ⟨T11, L11, k11, n11⟩, -, X11, ⟨Lc11, hQ11, lq11, yq11, zq11⟩, st11⟩ := Jvm.LawKit.callS X8 hx (y := (⟨"com/example/thin_feed/thinfeed/store/LongFloorMap", "floorIndex", "([JIJ)I"⟩ : MethodName)) hown (mvT hZ (own_w hw 71 rfl)) (mvT hZ (own_w hw 72 rfl)) (mvT hZ (own_w hw 2 rfl)) (mvT hZ (own_w hw 73 rfl)) (by decide) (backOf (W := 1) (rm10_1 l Z a0 hw [] f q1 _ (1 : Int32) _ a h0 n0 Z0 Vf ⟨by decide, by decide⟩ rfl) hZ (own_w hw 73 rfl) (own_w hw 2 rfl) (by decide) (by decide)) (g := (mkF m 29 #[vR r0, vJ q1, .second, vR y, .unset, .unset, .unset, .unset] [(.long q1), (.int 1), (.ref f), (.int 0)])) rfl (by rw [hml]; rfl) (argsL := [(.ref f), (.int 1), (.long q1)]) (rest := [(.int 0)]) (lenOf pd_8 rfl) rfl (by show 2 * 0 + _ ≤ _; exact Nat.le_of_eq rfl) (hb hby d7_29) (fun _ _ => ⟨rfl, e8, (by decide : 0 + 0 ≤ _), (by decide : 0 + 0 ≤ _)⟩)
  dsimp only [Pt.U, Pt.locs, Pt.cells, Pt.slots] at X11 lq11 yq11 zq11 st11 hQ11
  subst lq11 yq11 zq11
  obtain ⟨rfl, Nq11, eq11⟩ := hQ11
  have N11 := Fr.app N0 Nq11
  have ks12 := own_c ks10 st11
  obtain ⟨_, _, ⟨T13, L13, k13, n13⟩, -, X13, ⟨Lc13, hQ13, lq13, yq13, zq13⟩, st13⟩ := Jvm.LawKit.callS X11 hx (y := (⟨"java/lang/Math", "max", "(II)I"⟩ : MethodName)) hown (mvT hZ (own_w hw 74 rfl)) (mvT hZ (own_w hw 75 rfl)) (mvT hZ (own_w hw 76 rfl)) (mvT hZ (own_w hw 77 rfl)) (by decide) (backOf (W := 0) (rm11 l Z a0 hw [] (0 : Int32) (own_fi1 a q1) h0 n0 Z0 ) hZ (own_w hw 77 rfl) (own_w hw 76 rfl) (by decide) (by decide)) (g := (mkF m 32 #[vR r0, vJ q1, .second, vR y, .unset, .unset, .unset, .unset] [(.int (own_fi1 a q1)), (.int 0)])) rfl (by rw [hml]; rfl) (argsL := [(.int 0), (.int (own_fi1 a q1))]) (rest := []) (lenOf pd_9 rfl) rfl (by show 2 * 0 + _ ≤ _; exact Nat.le_of_eq rfl) (hb hby d7_32) (fun _ _ => ⟨rfl, eq11, (by decide : 0 + 0 ≤ _), (by decide : 0 + 0 ≤ _)⟩)
  dsimp only [Pt.U, Pt.locs, Pt.cells, Pt.slots] at X13 lq13 yq13 zq13 st13 hQ13
  subst lq13 yq13 zq13
  obtain ⟨rfl, Nq13, eq13⟩ := hQ13
  have N13 := Fr.app N11 Nq13
  have ks14 := own_c ks12 st13
  have ks15 : own_R p e below (A0) (T13.setTop (mkF m 35 #[vR r0, vJ q1, .second, vR y, .unset, .unset, .unset, .unset] [(.int (own_max (0 : Int32) (own_fi1 a q1)))])) := ks14
  rw [own_mx] at ks15
  have ks16 : own_R p e below (A0) (T13.setTop (mkF m 38 #[vR r0, vJ q1, .second, vR y, vI 0, .unset, .unset, .unset] [(.ref r0)])) := fun t k => ks15 t (by
    refine XS.istore X13.here hx rfl (hb hby d7_35) rfl (l' := #[vR r0, vJ q1, .second, vR y, vI 0, .unset, .unset, .unset]) rfl ?_
    refine XS.aloadN X13.here hx rfl (hb hby d7_37) rfl rfl ?_
    exact k)
  obtain ⟨T17, X17, e17, st17⟩ := getF X13 hx hZ hown (host := "") (Or.inl (own_w hw 14 rfl)) Via.refl eq13 Fsh (g := (mkF m 38 #[vR r0, vJ q1, .second, vR y, vI 0, .unset, .unset, .unset] [(.ref r0)])) rfl rfl (hb hby d7_38)
  have ks18 := own_c ks16 st17
  have ks19 : own_R p e below (A0) (T17.setTop (mkF m 43 #[vR r0, vJ q1, .second, vR y, vI 0, .unset, .unset, .unset] [(.int 0), (.ref sh)])) := fun t k => ks18 t (by
    refine XS.iload X17.here hx rfl (hb hby d7_41) rfl ?_
    exact k)
  obtain ⟨cl20, Ar20, qa20, S20, Na20, Ha20, Ga20⟩ := id Vs
  have ks21 : own_R p e below (A0) (T17.setTop (mkF m 44 #[vR r0, vJ q1, .second, vR y, vI 0, .unset, .unset, .unset] [(.ref ob)])) := fun t k => ks19 t (by
    refine X17.aaload hx (j := (0 : Int32)) (v := (.ref ob)) (by rw [e17]; exact Ar20.1) (State.isArrayOf_alike hZ.alike Ar20.2.1) rfl Ar20.2.2 (inb_of S20 ⟨by decide, by decide⟩) (Has.at Ha20 (inb_of S20 ⟨by decide, by decide⟩) rfl) (g := (mkF m 43 #[vR r0, vJ q1, .second, vR y, vI 0, .unset, .unset, .unset] [(.int 0), (.ref sh)])) rfl rfl (hb hby d7_43) _ ?_
    exact k)
  obtain ⟨T22, X22, e22, st22⟩ := own_getFR X17 hx hZ hown (own_w hw 69 rfl) e17 Fk (g := (mkF m 44 #[vR r0, vJ q1, .second, vR y, vI 0, .unset, .unset, .unset] [(.ref ob)])) rfl rfl (hb hby d7_44)
  have ks23 := own_c ks21 st22
  have ks24 : own_R p e below (A0) (T22.setTop (mkF m 48 #[vR r0, vJ q1, .second, vR y, vI 0, .unset, .unset, .unset] [(.ref r0), (.ref ka)])) := fun t k => ks23 t (by
    refine XS.aloadN X22.here hx rfl (hb hby d7_47) rfl rfl ?_
    exact k)
  obtain ⟨T25, X25, e25, st25⟩ := getF X22 hx hZ hown (host := "") (Or.inl (own_w hw 14 rfl)) Via.refl e22 Fsh (g := (mkF m 48 #[vR r0, vJ q1, .second, vR y, vI 0, .unset, .unset, .unset] [(.ref r0), (.ref ka)])) rfl rfl (hb hby d7_48)
  have ks26 := own_c ks24 st25
  have ks27 : own_R p e below (A0) (T25.setTop (mkF m 54 #[vR r0, vJ q1, .second, vR y, vI 0, .unset, .unset, .unset] [(.ref ob), (.ref ka)])) := fun t k => ks26 t (by
    refine XS.iload X25.here hx rfl (hb hby d7_51) rfl ?_
    refine X25.aaload hx (j := (0 : Int32)) (v := (.ref ob)) (by rw [e25]; exact Ar20.1) (State.isArrayOf_alike hZ.alike Ar20.2.1) rfl Ar20.2.2 (inb_of S20 ⟨by decide, by decide⟩) (Has.at Ha20 (inb_of S20 ⟨by decide, by decide⟩) rfl) (g := (mkF m 53 #[vR r0, vJ q1, .second, vR y, vI 0, .unset, .unset, .unset] [(.int 0), (.ref sh), (.ref ka)])) rfl rfl (hb hby d7_53) _ ?_
    exact k)
  obtain ⟨T28, X28, e28, st28⟩ := own_getFR X25 hx hZ hown (own_w hw 78 rfl) e25 Fn (g := (mkF m 54 #[vR r0, vJ q1, .second, vR y, vI 0, .unset, .unset, .unset] [(.ref ob), (.ref ka)])) rfl rfl (hb hby d7_54)
  have ks29 := own_c ks27 st28
  have ks30 : own_R p e below (A0) (T28.setTop (mkF m 58 #[vR r0, vJ q1, .second, vR y, vI 0, .unset, .unset, .unset] [(.long q1), (.int 1), (.ref ka)])) := fun t k => ks29 t (by
    refine XS.lloadN X28.here hx rfl (hb hby d7_57) rfl ?_
    exact k)
  obtain ⟨_, _, ⟨T31, L31, k31, n31⟩, -, X31, ⟨Lc31, hQ31, lq31, yq31, zq31⟩, st31⟩ := Jvm.LawKit.callS X28 hx (y := (⟨"com/example/thin_feed/thinfeed/store/LongFloorMap", "floorIndex", "([JIJ)I"⟩ : MethodName)) hown (mvT hZ (own_w hw 71 rfl)) (mvT hZ (own_w hw 72 rfl)) (mvT hZ (own_w hw 2 rfl)) (mvT hZ (own_w hw 73 rfl)) (by decide) (backOf (W := 0) (rm10_1 l Z a0 hw [] ka q1 _ (256 : Int32) _ a h0 n0 Z0 Vk ⟨by decide, by decide⟩ rfl) hZ (own_w hw 73 rfl) (own_w hw 2 rfl) (by decide) (by decide)) (g := (mkF m 58 #[vR r0, vJ q1, .second, vR y, vI 0, .unset, .unset, .unset] [(.long q1), (.int 1), (.ref ka)])) rfl (by rw [hml]; rfl) (argsL := [(.ref ka), (.int 1), (.long q1)]) (rest := []) (lenOf pd_8 rfl) rfl (by show 2 * 0 + _ ≤ _; exact Nat.le_of_eq rfl) (hb hby d7_58) (fun _ _ => ⟨rfl, e28, (by decide : 0 + 0 ≤ _), (by decide : 0 + 0 ≤ _)⟩)
  dsimp only [Pt.U, Pt.locs, Pt.cells, Pt.slots] at X31 lq31 yq31 zq31 st31 hQ31
  subst lq31 yq31 zq31
  obtain ⟨rfl, Nq31, eq31⟩ := hQ31
  have N31 := Fr.app N13 Nq31
  have ks32 := own_c ks30 st31
  have ks33 : own_R p e below (A0) (T31.setTop (mkF m 61 #[vR r0, vJ q1, .second, vR y, vI 0, .unset, .unset, .unset] [(.int (own_fi1 a q1))])) := ks32
  by_cases hc34 : q1 < a
  · skip
    rw [own_fi1, if_pos hc34] at ks33
    have ks35 : own_R p e below (A0) (T31.setTop (mkF m 110 #[vR r0, vJ q1, .second, vR y, vI 0, vI (-1), vI 0, .unset] [(.ref r0)])) := fun t k => ks33 t (by
      refine XS.istore X31.here hx rfl (hb hby d7_61) rfl (l' := #[vR r0, vJ q1, .second, vR y, vI 0, vI (-1), .unset, .unset]) rfl ?_
      refine XS.iload X31.here hx rfl (hb hby d7_63) rfl ?_
      refine XS.ifYes X31.here hx rfl (pc0 := 65) (pc' := 103) rfl (hb hby d7_65) rfl ((if0 _ _).trans (tlt (by decide)).1) (by decide) (by decide) ?_
      show Steps p.tables e below (T31.setTop (mkF m 103 #[vR r0, vJ q1, .second, vR y, vI 0, vI (-1), .unset, .unset] [])) _
      refine XS.iload X31.here hx rfl (hb hby d7_103) rfl ?_
      refine XS.iconst X31.here hx rfl (hb hby d7_105) ?_
      refine XS.iadd X31.here hx rfl (hb hby d7_106) rfl ?_
      refine XS.istore X31.here hx rfl (hb hby d7_107) rfl (l' := #[vR r0, vJ q1, .second, vR y, vI 0, vI (-1), vI 0, .unset]) rfl ?_
      show Steps p.tables e below (T31.setTop (mkF m 109 #[vR r0, vJ q1, .second, vR y, vI 0, vI (-1), vI 0, .unset] [])) _
      refine XS.aloadN X31.here hx rfl (hb hby d7_109) rfl rfl ?_
      exact k)
    obtain ⟨T36, X36, e36, st36⟩ := getF X31 hx hZ hown (host := "") (Or.inl (own_w hw 14 rfl)) Via.refl eq31 Fsh (g := (mkF m 110 #[vR r0, vJ q1, .second, vR y, vI 0, vI (-1), vI 0, .unset] [(.ref r0)])) rfl rfl (hb hby d7_110)
    have ks37 := own_c ks35 st36
    have ks38 : own_R p e below (A0) (T36.setTop (mkF m 116 #[vR r0, vJ q1, .second, vR y, vI 0, vI (-1), vI 0, .unset] [(.ref ob)])) := fun t k => ks37 t (by
      refine XS.iload X36.here hx rfl (hb hby d7_113) rfl ?_
      refine X36.aaload hx (j := (0 : Int32)) (v := (.ref ob)) (by rw [e36]; exact Ar20.1) (State.isArrayOf_alike hZ.alike Ar20.2.1) rfl Ar20.2.2 (inb_of S20 ⟨by decide, by decide⟩) (Has.at Ha20 (inb_of S20 ⟨by decide, by decide⟩) rfl) (g := (mkF m 115 #[vR r0, vJ q1, .second, vR y, vI 0, vI (-1), vI 0, .unset] [(.int 0), (.ref sh)])) rfl rfl (hb hby d7_115) _ ?_
      exact k)
    obtain ⟨T39, X39, e39, st39⟩ := own_getFR X36 hx hZ hown (own_w hw 78 rfl) e36 Fn (g := (mkF m 116 #[vR r0, vJ q1, .second, vR y, vI 0, vI (-1), vI 0, .unset] [(.ref ob)])) rfl rfl (hb hby d7_116)
    have ks40 := own_c ks38 st39
    have ks41 : own_R p e below (A0) (T39.setTop (mkF m 146 #[vR r0, vJ q1, .second, vR y, vI 0, vI (-1), vI 0, .unset] [(.ref r0)])) := fun t k => ks40 t (by
      refine XS.sipush X39.here hx rfl (hb hby d7_119) ?_
      refine XS.icmpYes X39.here hx rfl (pc0 := 122) (pc' := 145) rfl (hb hby d7_122) rfl (feq (by decide)).2 (by decide) (by decide) ?_
      refine XS.aloadN X39.here hx rfl (hb hby d7_145) rfl rfl ?_
      exact k)
    obtain ⟨T42, X42, e42, st42⟩ := getF X39 hx hZ hown (host := "") (Or.inl (own_w hw 14 rfl)) Via.refl e39 Fsh (g := (mkF m 146 #[vR r0, vJ q1, .second, vR y, vI 0, vI (-1), vI 0, .unset] [(.ref r0)])) rfl rfl (hb hby d7_146)
    have ks43 := own_c ks41 st42
    have ks44 : own_R p e below (A0) (T42.setTop (mkF m 156 #[vR r0, vJ q1, .second, vR y, vI 0, vI (-1), vI 0, vR ob] [(.ref ob)])) := fun t k => ks43 t (by
      refine XS.iload X42.here hx rfl (hb hby d7_149) rfl ?_
      refine X42.aaload hx (j := (0 : Int32)) (v := (.ref ob)) (by rw [e42]; exact Ar20.1) (State.isArrayOf_alike hZ.alike Ar20.2.1) rfl Ar20.2.2 (inb_of S20 ⟨by decide, by decide⟩) (Has.at Ha20 (inb_of S20 ⟨by decide, by decide⟩) rfl) (g := (mkF m 151 #[vR r0, vJ q1, .second, vR y, vI 0, vI (-1), vI 0, .unset] [(.int 0), (.ref sh)])) rfl rfl (hb hby d7_151) _ ?_
      refine XS.astore X42.here hx rfl (hb hby d7_152) rfl rfl (l' := #[vR r0, vJ q1, .second, vR y, vI 0, vI (-1), vI 0, vR ob]) rfl ?_
      show Steps p.tables e below (T42.setTop (mkF m 154 #[vR r0, vJ q1, .second, vR y, vI 0, vI (-1), vI 0, vR ob] [])) _
      refine XS.aload X42.here hx rfl (hb hby d7_154) rfl rfl ?_
      exact k)
    obtain ⟨T45, X45, e45, st45⟩ := own_getFR X42 hx hZ hown (own_w hw 69 rfl) e42 Fk (g := (mkF m 156 #[vR r0, vJ q1, .second, vR y, vI 0, vI (-1), vI 0, vR ob] [(.ref ob)])) rfl rfl (hb hby d7_156)
    have ks46 := own_c ks44 st45
    have ks47 : own_R p e below (A0) (T45.setTop (mkF m 163 #[vR r0, vJ q1, .second, vR y, vI 0, vI (-1), vI 0, vR ob] [(.ref ob), (.int 0), (.ref ka)])) := fun t k => ks46 t (by
      refine XS.iload X45.here hx rfl (hb hby d7_159) rfl ?_
      refine XS.aload X45.here hx rfl (hb hby d7_161) rfl rfl ?_
      exact k)
    obtain ⟨T48, X48, e48, st48⟩ := own_getFR X45 hx hZ hown (own_w hw 69 rfl) e45 Fk (g := (mkF m 163 #[vR r0, vJ q1, .second, vR y, vI 0, vI (-1), vI 0, vR ob] [(.ref ob), (.int 0), (.ref ka)])) rfl rfl (hb hby d7_163)
    have ks49 := own_c ks47 st48
    have ks50 : own_R p e below (A0) (T48.setTop (mkF m 172 #[vR r0, vJ q1, .second, vR y, vI 0, vI (-1), vI 0, vR ob] [(.ref ob), (.int 1), (.ref ka), (.int 0), (.ref ka)])) := fun t k => ks49 t (by
      refine XS.iload X48.here hx rfl (hb hby d7_166) rfl ?_
      refine XS.iconst X48.here hx rfl (hb hby d7_168) ?_
      refine XS.iadd X48.here hx rfl (hb hby d7_169) rfl ?_
      show Steps p.tables e below (T48.setTop (mkF m 170 #[vR r0, vJ q1, .second, vR y, vI 0, vI (-1), vI 0, vR ob] [(.int 1), (.ref ka), (.int 0), (.ref ka)])) _
      refine XS.aload X48.here hx rfl (hb hby d7_170) rfl rfl ?_
      exact k)
    obtain ⟨T51, X51, e51, st51⟩ := own_getFR X48 hx hZ hown (own_w hw 78 rfl) e48 Fn (g := (mkF m 172 #[vR r0, vJ q1, .second, vR y, vI 0, vI (-1), vI 0, vR ob] [(.ref ob), (.int 1), (.ref ka), (.int 0), (.ref ka)])) rfl rfl (hb hby d7_172)
    have ks52 := own_c ks50 st51
    have ks53 : own_R p e below (A0) (T51.setTop (mkF m 178 #[vR r0, vJ q1, .second, vR y, vI 0, vI (-1), vI 0, vR ob] [(.int 1), (.int 1), (.ref ka), (.int 0), (.ref ka)])) := fun t k => ks52 t (by
      refine XS.iload X51.here hx rfl (hb hby d7_175) rfl ?_
      refine XS.isub X51.here hx rfl (hb hby d7_177) rfl ?_
      exact k)
    obtain ⟨T54, h54, L54, X54, e54, N54, Kq54, Vr54, st54⟩ := cpA X51 hx hZ hown (own_w hw 65 rfl) (own_w hw 68 rfl) (own_w hw 66 rfl) (own_w hw 67 rfl) e51 Vk Vk (sp := (0 : Int32)) (dp := (1 : Int32)) (nn := (1 : Int32)) (us := [(.long a)]) (Or.inl ⟨rfl, rfl⟩) (by decide) (by decide) (by decide) (by decide) (by decide) rfl (Nat.le_of_ble_eq_true rfl) N31 g_ka (g := (mkF m 178 #[vR r0, vJ q1, .second, vR y, vI 0, vI (-1), vI 0, vR ob] [(.int 1), (.int 1), (.ref ka), (.int 0), (.ref ka)])) rfl (by rw [hml]; rfl) (rest := []) rfl (hb hby d7_178) (by decide) (W := 0) (by show 2 * 0 + _ ≤ _; exact Nat.le_of_eq rfl) (by decide)
    have V54 : Arv Z h54 ka kka .long (256 : Int32) [(.long a), (.long a), (.long z)] (.long (0 : Int64)) := Vr54
    have KH54 : Keep h0 h54 [r0, f, sh, ob, ka, va] := (Keep.refl h0 [r0, f, sh, ob, ka, va]).trans Kq54 (allS (Or.inl (List.mem_of_getElem? (i := 4) rfl)) all0)
    have Zn54 : n0 ≤ h54.size := Nat.le_trans Z0 Kq54.1
    have ks55 := own_c ks53 st54
    have ks56 : own_R p e below (A0) (T54.setTop (mkF m 183 #[vR r0, vJ q1, .second, vR y, vI 0, vI (-1), vI 0, vR ob] [(.ref ob)])) := fun t k => ks55 t (by
      refine XS.aload X54.here hx rfl (hb hby d7_181) rfl rfl ?_
      exact k)
    have f57 := (Fv.keep Kq54 (ninS ne_ob_ka nin0))
    obtain ⟨T58, X58, e58, st58⟩ := own_getFR X54 hx hZ hown (own_w hw 80 rfl) e54 f57 (g := (mkF m 183 #[vR r0, vJ q1, .second, vR y, vI 0, vI (-1), vI 0, vR ob] [(.ref ob)])) rfl rfl (hb hby d7_183)
    have ks59 := own_c ks56 st58
    have ks60 : own_R p e below (A0) (T58.setTop (mkF m 190 #[vR r0, vJ q1, .second, vR y, vI 0, vI (-1), vI 0, vR ob] [(.ref ob), (.int 0), (.ref va)])) := fun t k => ks59 t (by
      refine XS.iload X58.here hx rfl (hb hby d7_186) rfl ?_
      refine XS.aload X58.here hx rfl (hb hby d7_188) rfl rfl ?_
      exact k)
    obtain ⟨T61, X61, e61, st61⟩ := own_getFR X58 hx hZ hown (own_w hw 80 rfl) e58 f57 (g := (mkF m 190 #[vR r0, vJ q1, .second, vR y, vI 0, vI (-1), vI 0, vR ob] [(.ref ob), (.int 0), (.ref va)])) rfl rfl (hb hby d7_190)
    have ks62 := own_c ks60 st61
    have ks63 : own_R p e below (A0) (T61.setTop (mkF m 199 #[vR r0, vJ q1, .second, vR y, vI 0, vI (-1), vI 0, vR ob] [(.ref ob), (.int 1), (.ref va), (.int 0), (.ref va)])) := fun t k => ks62 t (by
      refine XS.iload X61.here hx rfl (hb hby d7_193) rfl ?_
      refine XS.iconst X61.here hx rfl (hb hby d7_195) ?_
      refine XS.iadd X61.here hx rfl (hb hby d7_196) rfl ?_
      show Steps p.tables e below (T61.setTop (mkF m 197 #[vR r0, vJ q1, .second, vR y, vI 0, vI (-1), vI 0, vR ob] [(.int 1), (.ref va), (.int 0), (.ref va)])) _
      refine XS.aload X61.here hx rfl (hb hby d7_197) rfl rfl ?_
      exact k)
    have f64 := (Fn.keep Kq54 (ninS ne_ob_ka nin0))
    obtain ⟨T65, X65, e65, st65⟩ := own_getFR X61 hx hZ hown (own_w hw 78 rfl) e61 f64 (g := (mkF m 199 #[vR r0, vJ q1, .second, vR y, vI 0, vI (-1), vI 0, vR ob] [(.ref ob), (.int 1), (.ref va), (.int 0), (.ref va)])) rfl rfl (hb hby d7_199)
    have ks66 := own_c ks63 st65
    have ks67 : own_R p e below (A0) (T65.setTop (mkF m 205 #[vR r0, vJ q1, .second, vR y, vI 0, vI (-1), vI 0, vR ob] [(.int 1), (.int 1), (.ref va), (.int 0), (.ref va)])) := fun t k => ks66 t (by
      refine XS.iload X65.here hx rfl (hb hby d7_202) rfl ?_
      refine XS.isub X65.here hx rfl (hb hby d7_204) rfl ?_
      exact k)
    have f68 := (Vv.keep Kq54 (ninS (Ne.symm ne_ka_va) nin0))
    obtain ⟨cl69, Ar69, qa69, S69, Na69, Ha69, Ga69⟩ := id f68
    have f70 := Ey.keep KH54
    obtain ⟨T71, h71, L71, X71, e71, N71, Kq71, Vr71, st71⟩ := cpA X65 hx hZ hown (own_w hw 65 rfl) (own_w hw 68 rfl) (own_w hw 66 rfl) (own_w hw 67 rfl) e65 f68 f68 (sp := (0 : Int32)) (dp := (1 : Int32)) (nn := (1 : Int32)) (us := [(.ref y)]) (Or.inr ⟨rfl, rfl, ⟨(Sto.ofV Ar69 qa69 Ov (Ins.of_exa f70 (own_w hw 81 rfl))), trivial⟩⟩) (by decide) (by decide) (by decide) (by decide) (by decide) rfl (Nat.le_of_ble_eq_true rfl) N54 g_va (g := (mkF m 205 #[vR r0, vJ q1, .second, vR y, vI 0, vI (-1), vI 0, vR ob] [(.int 1), (.int 1), (.ref va), (.int 0), (.ref va)])) rfl (by rw [hml]; rfl) (rest := []) rfl (hb hby d7_205) (by decide) (W := 0) (by show 2 * 0 + _ ≤ _; exact Nat.le_of_eq rfl) (by decide)
    have V71 : Arv Z h71 va kva (.object "java/lang/Object") (256 : Int32) [(.ref y), (.ref y), .null] .null := Vr71
    have KH71 : Keep h0 h71 [r0, f, sh, ob, ka, va] := KH54.trans Kq71 (allS (Or.inl (List.mem_of_getElem? (i := 5) rfl)) all0)
    have Zn71 : n0 ≤ h71.size := Nat.le_trans Zn54 Kq71.1
    have ks72 := own_c ks67 st71
    have ks73 : own_R p e below (A0) (T71.setTop (mkF m 210 #[vR r0, vJ q1, .second, vR y, vI 0, vI (-1), vI 0, vR ob] [(.ref ob)])) := fun t k => ks72 t (by
      refine XS.aload X71.here hx rfl (hb hby d7_208) rfl rfl ?_
      exact k)
    have f74 := ((Fk.keep Kq54 (ninS ne_ob_ka nin0)).keep Kq71 (ninS ne_ob_va nin0))
    obtain ⟨T75, X75, e75, st75⟩ := own_getFR X71 hx hZ hown (own_w hw 69 rfl) e71 f74 (g := (mkF m 210 #[vR r0, vJ q1, .second, vR y, vI 0, vI (-1), vI 0, vR ob] [(.ref ob)])) rfl rfl (hb hby d7_210)
    have ks76 := own_c ks73 st75
    have ks77 : own_R p e below (A0) (T75.setTop (mkF m 216 #[vR r0, vJ q1, .second, vR y, vI 0, vI (-1), vI 0, vR ob] [(.long q1), (.int 0), (.ref ka)])) := fun t k => ks76 t (by
      refine XS.iload X75.here hx rfl (hb hby d7_213) rfl ?_
      refine XS.lloadN X75.here hx rfl (hb hby d7_215) rfl ?_
      exact k)
    have f78 := (V54.keep Kq71 (ninS ne_ka_va nin0))
    obtain ⟨cl79, Ar79, qa79, S79, Na79, Ha79, Ga79⟩ := id f78
    have hin79 : ¬ ((0 : Int32) < 0 ∨ cl79.slots.size ≤ ((0 : Int32)).toNatClampNeg) := inb_of S79 ⟨by decide, by decide⟩
    obtain ⟨T80, h80, X80, e80, W80, st80⟩ := stJ X75 hx hZ e75 Ar79 (j := (0 : Int32)) hin79 (g := (mkF m 216 #[vR r0, vJ q1, .second, vR y, vI 0, vI (-1), vI 0, vR ob] [(.long q1), (.int 0), (.ref ka)])) rfl rfl (hb hby d7_216)
    have V80 : Arv Z h80 ka kka .long (256 : Int32) [(.long q1), (.long a), (.long z)] (.long (0 : Int64)) := Arv.set Ar79 qa79 S79 Na79 Ha79 Ga79 rfl W80 0 rfl (Nat.le_of_ble_eq_true rfl)
    have KH80 : Keep h0 h80 [r0, f, sh, ob, ka, va] := KH71.wr W80 (Or.inl (List.mem_of_getElem? (i := 4) rfl))
    have Zn80 : n0 ≤ h80.size := Nat.le_trans Zn71 (Keep.of_wr W80).1
    have N80 := Fr.snoc X80 N71 g_ka
    have ks81 := own_c ks77 st80
    have ks82 : own_R p e below (A0) (T80.setTop (mkF m 219 #[vR r0, vJ q1, .second, vR y, vI 0, vI (-1), vI 0, vR ob] [(.ref ob)])) := fun t k => ks81 t (by
      refine XS.aload X80.here hx rfl (hb hby d7_217) rfl rfl ?_
      exact k)
    have f83 := ((f57.keep Kq71 (ninS ne_ob_va nin0)).other W80 (Or.inl ne_ob_ka))
    obtain ⟨T84, X84, e84, st84⟩ := own_getFR X80 hx hZ hown (own_w hw 80 rfl) e80 f83 (g := (mkF m 219 #[vR r0, vJ q1, .second, vR y, vI 0, vI (-1), vI 0, vR ob] [(.ref ob)])) rfl rfl (hb hby d7_219)
    have ks85 := own_c ks82 st84
    have ks86 : own_R p e below (A0) (T84.setTop (mkF m 225 #[vR r0, vJ q1, .second, vR y, vI 0, vI (-1), vI 0, vR ob] [(.ref y), (.int 0), (.ref va)])) := fun t k => ks85 t (by
      refine XS.iload X84.here hx rfl (hb hby d7_222) rfl ?_
      refine XS.aloadN X84.here hx rfl (hb hby d7_224) rfl rfl ?_
      exact k)
    have f87 := (V71.other W80 (Ne.symm ne_ka_va))
    obtain ⟨cl88, Ar88, qa88, S88, Na88, Ha88, Ga88⟩ := id f87
    have f89 := Ey.keep KH80
    have hin88 : ¬ ((0 : Int32) < 0 ∨ cl88.slots.size ≤ ((0 : Int32)).toNatClampNeg) := inb_of S88 ⟨by decide, by decide⟩
    obtain ⟨T90, h90, X90, e90, W90, st90⟩ := stR X84 hx hZ e84 Ar88 (j := (0 : Int32)) hin88 rfl (Sto.ofV Ar88 qa88 Ov (Ins.of_exa f89 (own_w hw 81 rfl))) (g := (mkF m 225 #[vR r0, vJ q1, .second, vR y, vI 0, vI (-1), vI 0, vR ob] [(.ref y), (.int 0), (.ref va)])) rfl rfl (hb hby d7_225)
    have V90 : Arv Z h90 va kva (.object "java/lang/Object") (256 : Int32) [(.ref y), (.ref y), .null] .null := Arv.set Ar88 qa88 S88 Na88 Ha88 Ga88 rfl W90 0 rfl (Nat.le_of_ble_eq_true rfl)
    have KH90 : Keep h0 h90 [r0, f, sh, ob, ka, va] := KH80.wr W90 (Or.inl (List.mem_of_getElem? (i := 5) rfl))
    have Zn90 : n0 ≤ h90.size := Nat.le_trans Zn80 (Keep.of_wr W90).1
    have N90 := Fr.snoc X90 N80 g_va
    have ks91 := own_c ks86 st90
    have ks92 : own_R p e below (A0) (T90.setTop (mkF m 229 #[vR r0, vJ q1, .second, vR y, vI 0, vI (-1), vI 0, vR ob] [(.ref ob), (.ref ob)])) := fun t k => ks91 t (by
      refine XS.aload X90.here hx rfl (hb hby d7_226) rfl rfl ?_
      refine XS.dup X90.here hx rfl (hb hby d7_228) rfl rfl ?_
      exact k)
    have f93 := (((f64.keep Kq71 (ninS ne_ob_va nin0)).other W80 (Or.inl ne_ob_ka)).other W90 (Or.inl ne_ob_va))
    obtain ⟨T94, X94, e94, st94⟩ := own_getFR X90 hx hZ hown (own_w hw 78 rfl) e90 f93 (g := (mkF m 229 #[vR r0, vJ q1, .second, vR y, vI 0, vI (-1), vI 0, vR ob] [(.ref ob), (.ref ob)])) rfl rfl (hb hby d7_229)
    have ks95 := own_c ks92 st94
    have ks96 : own_R p e below (A0) (T94.setTop (mkF m 234 #[vR r0, vJ q1, .second, vR y, vI 0, vI (-1), vI 0, vR ob] [(.int 2), (.ref ob)])) := fun t k => ks95 t (by
      refine XS.iconst X94.here hx rfl (hb hby d7_232) ?_
      refine XS.iadd X94.here hx rfl (hb hby d7_233) rfl ?_
      exact k)
    have f97 := Eo.keep KH90
    obtain ⟨T98, h98, X98, e98, W98, st98⟩ := own_putFR X94 hx hZ hown (own_w hw 78 rfl) e94 f93 f97 (own_w hw 79 rfl) (own_w hw 49 rfl) (ty := .int) (by decide) rfl rfl (g := (mkF m 234 #[vR r0, vJ q1, .second, vR y, vI 0, vI (-1), vI 0, vR ob] [(.int 2), (.ref ob)])) rfl rfl (hb hby d7_234)
    have Fw98 := f93.same W98
    have KH98 : Keep h0 h98 [r0, f, sh, ob, ka, va] := KH90.wr W98 (Or.inl (List.mem_of_getElem? (i := 3) rfl))
    have Zn98 : n0 ≤ h98.size := Nat.le_trans Zn90 (Keep.of_wr W98).1
    have N98 := Fr.snoc X98 N90 g_ob
    have ks99 := own_c ks96 st98
    have ks100 : own_R p e below (A0) (T98.setTop (mkF m 238 #[vR r0, vJ q1, .second, vR y, vI 0, vI (-1), vI 0, vR ob] [(.ref r0)])) := fun t k => ks99 t (by
      refine XS.aloadN X98.here hx rfl (hb hby d7_237) rfl rfl ?_
      exact k)
    have f101 := (((((Ff.keep Kq54 (ninS ne_r0_ka nin0)).keep Kq71 (ninS ne_r0_va nin0)).other W80 (Or.inl ne_r0_ka)).other W90 (Or.inl ne_r0_va)).other W98 (Or.inl ne_r0_ob))
    obtain ⟨T102, X102, e102, st102⟩ := getF X98 hx hZ hown (host := "") (Or.inl (own_w hw 10 rfl)) Via.refl e98 f101 (g := (mkF m 238 #[vR r0, vJ q1, .second, vR y, vI 0, vI (-1), vI 0, vR ob] [(.ref r0)])) rfl rfl (hb hby d7_238)
    have ks103 := own_c ks100 st102
    have ks104 : own_R p e below (A0) (T102.setTop (mkF m 245 #[vR r0, vJ q1, .second, vR y, vI 0, vI (-1), vI 0, vR ob] [(.ref ob), (.int 0), (.ref f)])) := fun t k => ks103 t (by
      refine XS.iload X102.here hx rfl (hb hby d7_241) rfl ?_
      refine XS.aload X102.here hx rfl (hb hby d7_243) rfl rfl ?_
      exact k)
    have f105 := (((f74.other W80 (Or.inl ne_ob_ka)).other W90 (Or.inl ne_ob_va)).other W98 (Or.inr (slot_ne (Or.inr (own_w hw 56 rfl)) (Or.inl (own_w hw 79 rfl)) (by decide) (t := (.array .long)) (t' := .int) (by decide) (by decide))))
    obtain ⟨T106, X106, e106, st106⟩ := own_getFR X102 hx hZ hown (own_w hw 69 rfl) e102 f105 (g := (mkF m 245 #[vR r0, vJ q1, .second, vR y, vI 0, vI (-1), vI 0, vR ob] [(.ref ob), (.int 0), (.ref f)])) rfl rfl (hb hby d7_245)
    have ks107 := own_c ks104 st106
    have ks108 : own_R p e below (A0) (T106.setTop (mkF m 249 #[vR r0, vJ q1, .second, vR y, vI 0, vI (-1), vI 0, vR ob] [(.int 0), (.ref ka), (.int 0), (.ref f)])) := fun t k => ks107 t (by
      refine XS.iconst X106.here hx rfl (hb hby d7_248) ?_
      exact k)
    have f109 := ((V80.other W90 ne_ka_va).other W98 (Ne.symm ne_ob_ka))
    obtain ⟨cl110, Ar110, qa110, S110, Na110, Ha110, Ga110⟩ := id f109
    have ks111 : own_R p e below (A0) (T106.setTop (mkF m 250 #[vR r0, vJ q1, .second, vR y, vI 0, vI (-1), vI 0, vR ob] [(.long q1), (.int 0), (.ref f)])) := fun t k => ks108 t (by
      refine X106.laload hx (j := (0 : Int32)) (v := (.long q1)) (by rw [e106]; exact Ar110.1) (State.isArrayOf_alike hZ.alike Ar110.2.1) Ar110.2.2 (inb_of S110 ⟨by decide, by decide⟩) (Has.at Ha110 (inb_of S110 ⟨by decide, by decide⟩) rfl) (g := (mkF m 249 #[vR r0, vJ q1, .second, vR y, vI 0, vI (-1), vI 0, vR ob] [(.int 0), (.ref ka), (.int 0), (.ref f)])) rfl rfl (hb hby d7_249) _ ?_
      exact k)
    have f112 := (((((Vf.keep Kq54 (ninS ne_f_ka nin0)).keep Kq71 (ninS ne_f_va nin0)).other W80 ne_f_ka).other W90 ne_f_va).other W98 ne_f_ob)
    obtain ⟨cl113, Ar113, qa113, S113, Na113, Ha113, Ga113⟩ := id f112
    have hin113 : ¬ ((0 : Int32) < 0 ∨ cl113.slots.size ≤ ((0 : Int32)).toNatClampNeg) := inb_of S113 ⟨by decide, by decide⟩
    obtain ⟨T114, h114, X114, e114, W114, st114⟩ := stJ X106 hx hZ e106 Ar113 (j := (0 : Int32)) hin113 (g := (mkF m 250 #[vR r0, vJ q1, .second, vR y, vI 0, vI (-1), vI 0, vR ob] [(.long q1), (.int 0), (.ref f)])) rfl rfl (hb hby d7_250)
    have V114 : Arv Z h114 f kf .long (1 : Int32) [(.long q1)] (.long (0 : Int64)) := Arv.set Ar113 qa113 S113 Na113 Ha113 Ga113 rfl W114 0 rfl (Nat.le_of_ble_eq_true rfl)
    have KH114 : Keep h0 h114 [r0, f, sh, ob, ka, va] := KH98.wr W114 (Or.inl (List.mem_of_getElem? (i := 1) rfl))
    have Zn114 : n0 ≤ h114.size := Nat.le_trans Zn98 (Keep.of_wr W114).1
    have N114 := Fr.snoc X114 N98 g_f
    have ks115 := own_c ks111 st114
    have ks116 : own_R p e below (A0) (T114.setTop (mkF m 253 #[vR r0, vJ q1, .second, vR y, vI 0, vI (-1), vI 0, vR ob] [(.ref r0), (.ref r0)])) := fun t k => ks115 t (by
      refine XS.aloadN X114.here hx rfl (hb hby d7_251) rfl rfl ?_
      refine XS.dup X114.here hx rfl (hb hby d7_252) rfl rfl ?_
      exact k)
    have f117 := ((((((Fz.keep Kq54 (ninS ne_r0_ka nin0)).keep Kq71 (ninS ne_r0_va nin0)).other W80 (Or.inl ne_r0_ka)).other W90 (Or.inl ne_r0_va)).other W98 (Or.inl ne_r0_ob)).other W114 (Or.inl ne_r0_f))
    obtain ⟨T118, X118, e118, st118⟩ := getF X114 hx hZ hown (host := "") (Or.inl (own_w hw 82 rfl)) Via.refl e114 f117 (g := (mkF m 253 #[vR r0, vJ q1, .second, vR y, vI 0, vI (-1), vI 0, vR ob] [(.ref r0), (.ref r0)])) rfl rfl (hb hby d7_253)
    have ks119 := own_c ks116 st118
    have ks120 : own_R p e below (A0) (T118.setTop (mkF m 258 #[vR r0, vJ q1, .second, vR y, vI 0, vI (-1), vI 0, vR ob] [(.int (sz + (1 : Int32))), (.ref r0)])) := fun t k => ks119 t (by
      refine XS.iconst X118.here hx rfl (hb hby d7_256) ?_
      refine XS.iadd X118.here hx rfl (hb hby d7_257) rfl ?_
      exact k)
    have f121 := E0.keep KH114
    obtain ⟨T122, h122, X122, e122, W122, st122⟩ := putF X118 hx hZ hown (host := "") (Or.inl (own_w hw 82 rfl)) Via.refl e118 f117 f121 (Or.inl (own_w hw 83 rfl)) (own_w hw 1 rfl) (ty := .int) (by decide) rfl rfl (g := (mkF m 258 #[vR r0, vJ q1, .second, vR y, vI 0, vI (-1), vI 0, vR ob] [(.int (sz + (1 : Int32))), (.ref r0)])) rfl rfl (hb hby d7_258)
    have Fw122 := f117.same W122
    have KH122 : Keep h0 h122 [r0, f, sh, ob, ka, va] := KH114.wr W122 (Or.inl (List.mem_of_getElem? (i := 0) rfl))
    have Zn122 : n0 ≤ h122.size := Nat.le_trans Zn114 (Keep.of_wr W122).1
    have N122 := Fr.snoc X122 N114 g_r0
    have ks123 := own_c ks120 st122
    obtain ⟨fs, hr, hrun, hended, hW, hsame⟩ := X122.leave (v := none) (fun _ => rfl) hlk
    refine ⟨_, _, kz _ (ks123 _ ?_), hrun, hended, _, _, rfl, ?_, ⟨_, rfl⟩, hW, hsame.mono (by decide) (by decide)⟩
    · exact X122.returnOut hx Bd.returns (hb hby d7_261) hr
    · show Q7F Z r0 q1 y f sh ob ka va kf ksh kka kva sz z a b h0 n0 _ T122.heap _
      rw [e122]
      have f124 := E0.keep KH122
      have f125 := ((f101.other W114 (Or.inl ne_r0_f)).other W122 (Or.inr (slot_ne (Or.inl (own_w hw 11 rfl)) (Or.inl (own_w hw 83 rfl)) (by decide) (t := (.array .long)) (t' := .int) (by decide) (by decide))))
      have f126 := (((((((Fsh.keep Kq54 (ninS ne_r0_ka nin0)).keep Kq71 (ninS ne_r0_va nin0)).other W80 (Or.inl ne_r0_ka)).other W90 (Or.inl ne_r0_va)).other W98 (Or.inl ne_r0_ob)).other W114 (Or.inl ne_r0_f)).other W122 (Or.inr (slot_ne (Or.inl (own_w hw 15 rfl)) (Or.inl (own_w hw 83 rfl)) (by decide) (t := (.array (.object "com/example/thin_feed/thinfeed/store/LongFloorMap$Shelf"))) (t' := .int) (by decide) (by decide))))
      have f127 := (((((((Fc.keep Kq54 (ninS ne_r0_ka nin0)).keep Kq71 (ninS ne_r0_va nin0)).other W80 (Or.inl ne_r0_ka)).other W90 (Or.inl ne_r0_va)).other W98 (Or.inl ne_r0_ob)).other W114 (Or.inl ne_r0_f)).other W122 (Or.inr (slot_ne (Or.inl (own_w hw 37 rfl)) (Or.inl (own_w hw 83 rfl)) (by decide) (t := .int) (t' := .int) (by decide) (by decide))))
      have f128 := (V114.other W122 (Ne.symm ne_r0_f))
      have f129 := (((((((Vs.keep Kq54 (ninS ne_sh_ka nin0)).keep Kq71 (ninS ne_sh_va nin0)).other W80 ne_sh_ka).other W90 ne_sh_va).other W98 ne_sh_ob).other W114 (Ne.symm ne_f_sh)).other W122 (Ne.symm ne_r0_sh))
      have f130 := Eo.keep KH122
      have f131 := ((f105.other W114 (Or.inl (Ne.symm ne_f_ob))).other W122 (Or.inl (Ne.symm ne_r0_ob)))
      have f132 := ((((f83.other W90 (Or.inl ne_ob_va)).other W98 (Or.inr (slot_ne (Or.inr (own_w hw 60 rfl)) (Or.inl (own_w hw 79 rfl)) (by decide) (t := (.array (.object "java/lang/Object"))) (t' := .int) (by decide) (by decide)))).other W114 (Or.inl (Ne.symm ne_f_ob))).other W122 (Or.inl (Ne.symm ne_r0_ob)))
      have f133 := ((Fw98.other W114 (Or.inl (Ne.symm ne_f_ob))).other W122 (Or.inl (Ne.symm ne_r0_ob)))
      have f134 := ((f109.other W114 (Ne.symm ne_f_ka)).other W122 (Ne.symm ne_r0_ka))
      have f135 := (((V90.other W98 (Ne.symm ne_ob_va)).other W114 (Ne.symm ne_f_va)).other W122 (Ne.symm ne_r0_va))
      have f136 := Ey.keep KH122
      exact ⟨rfl, N122, Zn122, (fun _ _ q => q.keep KH122), Or.inr (Or.inr ⟨_, _, ⟨f, sh, ob, ka, va, _, _, _, _, _, _, f124, f125, f126, f127, Fw122, f128, f129, Os, f130, f131, f132, f133, f134, f135, Ov, f136, g_r0, g_f, g_sh, g_ob, g_ka, g_va, ne_r0_f, ne_r0_sh, ne_r0_ob, ne_r0_ka, ne_r0_va, ne_f_sh, ne_f_ob, ne_f_ka, ne_f_va, ne_sh_ob, ne_sh_ka, ne_sh_va, ne_ob_ka, ne_ob_va, ne_ka_va⟩, hc34, own_p4⟩)⟩
  · skip
    rw [own_fi1, if_neg hc34] at ks33
    have ks137 : own_R p e below (A0) (T31.setTop (mkF m 69 #[vR r0, vJ q1, .second, vR y, vI 0, vI 0, .unset, .unset] [(.ref r0)])) := fun t k => ks33 t (by
      refine XS.istore X31.here hx rfl (hb hby d7_61) rfl (l' := #[vR r0, vJ q1, .second, vR y, vI 0, vI 0, .unset, .unset]) rfl ?_
      refine XS.iload X31.here hx rfl (hb hby d7_63) rfl ?_
      refine XS.ifNo X31.here hx rfl (hb hby d7_65) rfl ((if0 _ _).trans (flt (by decide)).1) ?_
      show Steps p.tables e below (T31.setTop (mkF m 68 #[vR r0, vJ q1, .second, vR y, vI 0, vI 0, .unset, .unset] [])) _
      refine XS.aloadN X31.here hx rfl (hb hby d7_68) rfl rfl ?_
      exact k)
    obtain ⟨T138, X138, e138, st138⟩ := getF X31 hx hZ hown (host := "") (Or.inl (own_w hw 14 rfl)) Via.refl eq31 Fsh (g := (mkF m 69 #[vR r0, vJ q1, .second, vR y, vI 0, vI 0, .unset, .unset] [(.ref r0)])) rfl rfl (hb hby d7_69)
    have ks139 := own_c ks137 st138
    have ks140 : own_R p e below (A0) (T138.setTop (mkF m 75 #[vR r0, vJ q1, .second, vR y, vI 0, vI 0, .unset, .unset] [(.ref ob)])) := fun t k => ks139 t (by
      refine XS.iload X138.here hx rfl (hb hby d7_72) rfl ?_
      refine X138.aaload hx (j := (0 : Int32)) (v := (.ref ob)) (by rw [e138]; exact Ar20.1) (State.isArrayOf_alike hZ.alike Ar20.2.1) rfl Ar20.2.2 (inb_of S20 ⟨by decide, by decide⟩) (Has.at Ha20 (inb_of S20 ⟨by decide, by decide⟩) rfl) (g := (mkF m 74 #[vR r0, vJ q1, .second, vR y, vI 0, vI 0, .unset, .unset] [(.int 0), (.ref sh)])) rfl rfl (hb hby d7_74) _ ?_
      exact k)
    obtain ⟨T141, X141, e141, st141⟩ := own_getFR X138 hx hZ hown (own_w hw 69 rfl) e138 Fk (g := (mkF m 75 #[vR r0, vJ q1, .second, vR y, vI 0, vI 0, .unset, .unset] [(.ref ob)])) rfl rfl (hb hby d7_75)
    have ks142 := own_c ks140 st141
    have ks143 : own_R p e below (A0) (T141.setTop (mkF m 80 #[vR r0, vJ q1, .second, vR y, vI 0, vI 0, .unset, .unset] [(.int 0), (.ref ka)])) := fun t k => ks142 t (by
      refine XS.iload X141.here hx rfl (hb hby d7_78) rfl ?_
      exact k)
    obtain ⟨cl144, Ar144, qa144, S144, Na144, Ha144, Ga144⟩ := id Vk
    have ks145 : own_R p e below (A0) (T141.setTop (mkF m 83 #[vR r0, vJ q1, .second, vR y, vI 0, vI 0, .unset, .unset] [(.int (lcmpW a q1))])) := fun t k => ks143 t (by
      refine X141.laload hx (j := (0 : Int32)) (v := (.long a)) (by rw [e141]; exact Ar144.1) (State.isArrayOf_alike hZ.alike Ar144.2.1) Ar144.2.2 (inb_of S144 ⟨by decide, by decide⟩) (Has.at Ha144 (inb_of S144 ⟨by decide, by decide⟩) rfl) (g := (mkF m 80 #[vR r0, vJ q1, .second, vR y, vI 0, vI 0, .unset, .unset] [(.int 0), (.ref ka)])) rfl rfl (hb hby d7_80) _ ?_
      refine XS.lloadN X141.here hx rfl (hb hby d7_81) rfl ?_
      refine XS.lcmp X141.here hx rfl (hb hby d7_82) rfl ?_
      exact k)
    by_cases hc146 : a = q1
    · skip
      have ks147 : own_R p e below (A0) (T141.setTop (mkF m 87 #[vR r0, vJ q1, .second, vR y, vI 0, vI 0, .unset, .unset] [(.ref r0)])) := fun t k => ks145 t (by
        refine XS.ifNo X141.here hx rfl (hb hby d7_83) rfl ((if0 _ _).trans (teq ((lw_eq _ _).mpr hc146)).2) ?_
        refine XS.aloadN X141.here hx rfl (hb hby d7_86) rfl rfl ?_
        exact k)
      obtain ⟨T148, X148, e148, st148⟩ := getF X141 hx hZ hown (host := "") (Or.inl (own_w hw 14 rfl)) Via.refl e141 Fsh (g := (mkF m 87 #[vR r0, vJ q1, .second, vR y, vI 0, vI 0, .unset, .unset] [(.ref r0)])) rfl rfl (hb hby d7_87)
      have ks149 := own_c ks147 st148
      have ks150 : own_R p e below (A0) (T148.setTop (mkF m 93 #[vR r0, vJ q1, .second, vR y, vI 0, vI 0, .unset, .unset] [(.ref ob)])) := fun t k => ks149 t (by
        refine XS.iload X148.here hx rfl (hb hby d7_90) rfl ?_
        refine X148.aaload hx (j := (0 : Int32)) (v := (.ref ob)) (by rw [e148]; exact Ar20.1) (State.isArrayOf_alike hZ.alike Ar20.2.1) rfl Ar20.2.2 (inb_of S20 ⟨by decide, by decide⟩) (Has.at Ha20 (inb_of S20 ⟨by decide, by decide⟩) rfl) (g := (mkF m 92 #[vR r0, vJ q1, .second, vR y, vI 0, vI 0, .unset, .unset] [(.int 0), (.ref sh)])) rfl rfl (hb hby d7_92) _ ?_
        exact k)
      obtain ⟨T151, X151, e151, st151⟩ := own_getFR X148 hx hZ hown (own_w hw 80 rfl) e148 Fv (g := (mkF m 93 #[vR r0, vJ q1, .second, vR y, vI 0, vI 0, .unset, .unset] [(.ref ob)])) rfl rfl (hb hby d7_93)
      have ks152 := own_c ks150 st151
      have ks153 : own_R p e below (A0) (T151.setTop (mkF m 99 #[vR r0, vJ q1, .second, vR y, vI 0, vI 0, .unset, .unset] [(.ref y), (.int 0), (.ref va)])) := fun t k => ks152 t (by
        refine XS.iload X151.here hx rfl (hb hby d7_96) rfl ?_
        refine XS.aloadN X151.here hx rfl (hb hby d7_98) rfl rfl ?_
        exact k)
      obtain ⟨cl154, Ar154, qa154, S154, Na154, Ha154, Ga154⟩ := id Vv
      have hin154 : ¬ ((0 : Int32) < 0 ∨ cl154.slots.size ≤ ((0 : Int32)).toNatClampNeg) := inb_of S154 ⟨by decide, by decide⟩
      obtain ⟨T155, h155, X155, e155, W155, st155⟩ := stR X151 hx hZ e151 Ar154 (j := (0 : Int32)) hin154 rfl (Sto.ofV Ar154 qa154 Ov (Ins.of_exa Ey (own_w hw 81 rfl))) (g := (mkF m 99 #[vR r0, vJ q1, .second, vR y, vI 0, vI 0, .unset, .unset] [(.ref y), (.int 0), (.ref va)])) rfl rfl (hb hby d7_99)
      have V155 : Arv Z h155 va kva (.object "java/lang/Object") (256 : Int32) [(.ref y), .null, .null] .null := Arv.set Ar154 qa154 S154 Na154 Ha154 Ga154 rfl W155 0 rfl (Nat.le_of_ble_eq_true rfl)
      have KH155 : Keep h0 h155 [r0, f, sh, ob, ka, va] := (Keep.refl h0 [r0, f, sh, ob, ka, va]).wr W155 (Or.inl (List.mem_of_getElem? (i := 5) rfl))
      have Zn155 : n0 ≤ h155.size := Nat.le_trans Z0 (Keep.of_wr W155).1
      have N155 := Fr.snoc X155 N31 g_va
      have ks156 := own_c ks153 st155
      have ks157 : own_R p e below (A0) (T155.setTop (mkF m 261 #[vR r0, vJ q1, .second, vR y, vI 0, vI 0, .unset, .unset] [])) := fun t k => ks156 t (by
        refine XS.goto X155.here hx rfl (pc0 := 100) (pc' := 261) rfl (hb hby d7_100) (by decide) (by decide) ?_
        exact k)
      obtain ⟨fs, hr, hrun, hended, hW, hsame⟩ := X155.leave (v := none) (fun _ => rfl) hlk
      refine ⟨_, _, kz _ (ks157 _ ?_), hrun, hended, _, _, rfl, ?_, ⟨_, rfl⟩, hW, hsame.mono (by decide) (by decide)⟩
      · exact X155.returnOut hx Bd.returns (hb hby d7_261) hr
      · show Q7F Z r0 q1 y f sh ob ka va kf ksh kka kva sz z a b h0 n0 _ T155.heap _
        rw [e155]
        have f158 := E0.keep KH155
        have f159 := (Ff.other W155 (Or.inl ne_r0_va))
        have f160 := (Fsh.other W155 (Or.inl ne_r0_va))
        have f161 := (Fc.other W155 (Or.inl ne_r0_va))
        have f162 := (Fz.other W155 (Or.inl ne_r0_va))
        have f163 := (Vf.other W155 ne_f_va)
        have f164 := (Vs.other W155 ne_sh_va)
        have f165 := Eo.keep KH155
        have f166 := (Fk.other W155 (Or.inl ne_ob_va))
        have f167 := (Fv.other W155 (Or.inl ne_ob_va))
        have f168 := (Fn.other W155 (Or.inl ne_ob_va))
        have f169 := (Vk.other W155 ne_ka_va)
        have f170 := Ey.keep KH155
        exact ⟨rfl, N155, Zn155, (fun _ _ q => q.keep KH155), Or.inr (Or.inl ⟨_, _, ⟨f, sh, ob, ka, va, _, _, _, _, _, _, f158, f159, f160, f161, f162, f163, f164, Os, f165, f166, f167, f168, f169, V155, Ov, f170, g_r0, g_f, g_sh, g_ob, g_ka, g_va, ne_r0_f, ne_r0_sh, ne_r0_ob, ne_r0_ka, ne_r0_va, ne_f_sh, ne_f_ob, ne_f_ka, ne_f_va, ne_sh_ob, ne_sh_ka, ne_sh_va, ne_ob_ka, ne_ob_va, ne_ka_va⟩, own_p1 hc146⟩)⟩
    · skip
      have ks171 : own_R p e below (A0) (T141.setTop (mkF m 110 #[vR r0, vJ q1, .second, vR y, vI 0, vI 0, vI 1, .unset] [(.ref r0)])) := fun t k => ks145 t (by
        refine XS.ifYes X141.here hx rfl (pc0 := 83) (pc' := 103) rfl (hb hby d7_83) rfl ((if0 _ _).trans (feq (fun q => hc146 ((lw_eq _ _).mp q))).2) (by decide) (by decide) ?_
        refine XS.iload X141.here hx rfl (hb hby d7_103) rfl ?_
        refine XS.iconst X141.here hx rfl (hb hby d7_105) ?_
        show Steps p.tables e below (T141.setTop (mkF m 106 #[vR r0, vJ q1, .second, vR y, vI 0, vI 0, .unset, .unset] [(.int 1), (.int 0)])) _
        refine XS.iadd X141.here hx rfl (hb hby d7_106) rfl ?_
        refine XS.istore X141.here hx rfl (hb hby d7_107) rfl (l' := #[vR r0, vJ q1, .second, vR y, vI 0, vI 0, vI 1, .unset]) rfl ?_
        refine XS.aloadN X141.here hx rfl (hb hby d7_109) rfl rfl ?_
        exact k)
      obtain ⟨T172, X172, e172, st172⟩ := getF X141 hx hZ hown (host := "") (Or.inl (own_w hw 14 rfl)) Via.refl e141 Fsh (g := (mkF m 110 #[vR r0, vJ q1, .second, vR y, vI 0, vI 0, vI 1, .unset] [(.ref r0)])) rfl rfl (hb hby d7_110)
      have ks173 := own_c ks171 st172
      have ks174 : own_R p e below (A0) (T172.setTop (mkF m 116 #[vR r0, vJ q1, .second, vR y, vI 0, vI 0, vI 1, .unset] [(.ref ob)])) := fun t k => ks173 t (by
        refine XS.iload X172.here hx rfl (hb hby d7_113) rfl ?_
        refine X172.aaload hx (j := (0 : Int32)) (v := (.ref ob)) (by rw [e172]; exact Ar20.1) (State.isArrayOf_alike hZ.alike Ar20.2.1) rfl Ar20.2.2 (inb_of S20 ⟨by decide, by decide⟩) (Has.at Ha20 (inb_of S20 ⟨by decide, by decide⟩) rfl) (g := (mkF m 115 #[vR r0, vJ q1, .second, vR y, vI 0, vI 0, vI 1, .unset] [(.int 0), (.ref sh)])) rfl rfl (hb hby d7_115) _ ?_
        exact k)
      obtain ⟨T175, X175, e175, st175⟩ := own_getFR X172 hx hZ hown (own_w hw 78 rfl) e172 Fn (g := (mkF m 116 #[vR r0, vJ q1, .second, vR y, vI 0, vI 0, vI 1, .unset] [(.ref ob)])) rfl rfl (hb hby d7_116)
      have ks176 := own_c ks174 st175
      have ks177 : own_R p e below (A0) (T175.setTop (mkF m 146 #[vR r0, vJ q1, .second, vR y, vI 0, vI 0, vI 1, .unset] [(.ref r0)])) := fun t k => ks176 t (by
        refine XS.sipush X175.here hx rfl (hb hby d7_119) ?_
        refine XS.icmpYes X175.here hx rfl (pc0 := 122) (pc' := 145) rfl (hb hby d7_122) rfl (feq (by decide)).2 (by decide) (by decide) ?_
        refine XS.aloadN X175.here hx rfl (hb hby d7_145) rfl rfl ?_
        exact k)
      obtain ⟨T178, X178, e178, st178⟩ := getF X175 hx hZ hown (host := "") (Or.inl (own_w hw 14 rfl)) Via.refl e175 Fsh (g := (mkF m 146 #[vR r0, vJ q1, .second, vR y, vI 0, vI 0, vI 1, .unset] [(.ref r0)])) rfl rfl (hb hby d7_146)
      have ks179 := own_c ks177 st178
      have ks180 : own_R p e below (A0) (T178.setTop (mkF m 156 #[vR r0, vJ q1, .second, vR y, vI 0, vI 0, vI 1, vR ob] [(.ref ob)])) := fun t k => ks179 t (by
        refine XS.iload X178.here hx rfl (hb hby d7_149) rfl ?_
        refine X178.aaload hx (j := (0 : Int32)) (v := (.ref ob)) (by rw [e178]; exact Ar20.1) (State.isArrayOf_alike hZ.alike Ar20.2.1) rfl Ar20.2.2 (inb_of S20 ⟨by decide, by decide⟩) (Has.at Ha20 (inb_of S20 ⟨by decide, by decide⟩) rfl) (g := (mkF m 151 #[vR r0, vJ q1, .second, vR y, vI 0, vI 0, vI 1, .unset] [(.int 0), (.ref sh)])) rfl rfl (hb hby d7_151) _ ?_
        refine XS.astore X178.here hx rfl (hb hby d7_152) rfl rfl (l' := #[vR r0, vJ q1, .second, vR y, vI 0, vI 0, vI 1, vR ob]) rfl ?_
        show Steps p.tables e below (T178.setTop (mkF m 154 #[vR r0, vJ q1, .second, vR y, vI 0, vI 0, vI 1, vR ob] [])) _
        refine XS.aload X178.here hx rfl (hb hby d7_154) rfl rfl ?_
        exact k)
      obtain ⟨T181, X181, e181, st181⟩ := own_getFR X178 hx hZ hown (own_w hw 69 rfl) e178 Fk (g := (mkF m 156 #[vR r0, vJ q1, .second, vR y, vI 0, vI 0, vI 1, vR ob] [(.ref ob)])) rfl rfl (hb hby d7_156)
      have ks182 := own_c ks180 st181
      have ks183 : own_R p e below (A0) (T181.setTop (mkF m 163 #[vR r0, vJ q1, .second, vR y, vI 0, vI 0, vI 1, vR ob] [(.ref ob), (.int 1), (.ref ka)])) := fun t k => ks182 t (by
        refine XS.iload X181.here hx rfl (hb hby d7_159) rfl ?_
        refine XS.aload X181.here hx rfl (hb hby d7_161) rfl rfl ?_
        exact k)
      obtain ⟨T184, X184, e184, st184⟩ := own_getFR X181 hx hZ hown (own_w hw 69 rfl) e181 Fk (g := (mkF m 163 #[vR r0, vJ q1, .second, vR y, vI 0, vI 0, vI 1, vR ob] [(.ref ob), (.int 1), (.ref ka)])) rfl rfl (hb hby d7_163)
      have ks185 := own_c ks183 st184
      have ks186 : own_R p e below (A0) (T184.setTop (mkF m 172 #[vR r0, vJ q1, .second, vR y, vI 0, vI 0, vI 1, vR ob] [(.ref ob), (.int 2), (.ref ka), (.int 1), (.ref ka)])) := fun t k => ks185 t (by
        refine XS.iload X184.here hx rfl (hb hby d7_166) rfl ?_
        refine XS.iconst X184.here hx rfl (hb hby d7_168) ?_
        refine XS.iadd X184.here hx rfl (hb hby d7_169) rfl ?_
        show Steps p.tables e below (T184.setTop (mkF m 170 #[vR r0, vJ q1, .second, vR y, vI 0, vI 0, vI 1, vR ob] [(.int 2), (.ref ka), (.int 1), (.ref ka)])) _
        refine XS.aload X184.here hx rfl (hb hby d7_170) rfl rfl ?_
        exact k)
      obtain ⟨T187, X187, e187, st187⟩ := own_getFR X184 hx hZ hown (own_w hw 78 rfl) e184 Fn (g := (mkF m 172 #[vR r0, vJ q1, .second, vR y, vI 0, vI 0, vI 1, vR ob] [(.ref ob), (.int 2), (.ref ka), (.int 1), (.ref ka)])) rfl rfl (hb hby d7_172)
      have ks188 := own_c ks186 st187
      have ks189 : own_R p e below (A0) (T187.setTop (mkF m 178 #[vR r0, vJ q1, .second, vR y, vI 0, vI 0, vI 1, vR ob] [(.int 0), (.int 2), (.ref ka), (.int 1), (.ref ka)])) := fun t k => ks188 t (by
        refine XS.iload X187.here hx rfl (hb hby d7_175) rfl ?_
        refine XS.isub X187.here hx rfl (hb hby d7_177) rfl ?_
        exact k)
      obtain ⟨T190, h190, L190, X190, e190, N190, Kq190, Vr190, st190⟩ := cpA X187 hx hZ hown (own_w hw 65 rfl) (own_w hw 68 rfl) (own_w hw 66 rfl) (own_w hw 67 rfl) e187 Vk Vk (sp := (1 : Int32)) (dp := (2 : Int32)) (nn := (0 : Int32)) (us := []) (Or.inl ⟨rfl, rfl⟩) (by decide) (by decide) (by decide) (by decide) (by decide) rfl (Nat.le_of_ble_eq_true rfl) N31 g_ka (g := (mkF m 178 #[vR r0, vJ q1, .second, vR y, vI 0, vI 0, vI 1, vR ob] [(.int 0), (.int 2), (.ref ka), (.int 1), (.ref ka)])) rfl (by rw [hml]; rfl) (rest := []) rfl (hb hby d7_178) (by decide) (W := 0) (by show 2 * 0 + _ ≤ _; exact Nat.le_of_eq rfl) (by decide)
      have V190 : Arv Z h190 ka kka .long (256 : Int32) [(.long a), (.long b), (.long z)] (.long (0 : Int64)) := Vr190
      have KH190 : Keep h0 h190 [r0, f, sh, ob, ka, va] := (Keep.refl h0 [r0, f, sh, ob, ka, va]).trans Kq190 (allS (Or.inl (List.mem_of_getElem? (i := 4) rfl)) all0)
      have Zn190 : n0 ≤ h190.size := Nat.le_trans Z0 Kq190.1
      have ks191 := own_c ks189 st190
      have ks192 : own_R p e below (A0) (T190.setTop (mkF m 183 #[vR r0, vJ q1, .second, vR y, vI 0, vI 0, vI 1, vR ob] [(.ref ob)])) := fun t k => ks191 t (by
        refine XS.aload X190.here hx rfl (hb hby d7_181) rfl rfl ?_
        exact k)
      have f193 := (Fv.keep Kq190 (ninS ne_ob_ka nin0))
      obtain ⟨T194, X194, e194, st194⟩ := own_getFR X190 hx hZ hown (own_w hw 80 rfl) e190 f193 (g := (mkF m 183 #[vR r0, vJ q1, .second, vR y, vI 0, vI 0, vI 1, vR ob] [(.ref ob)])) rfl rfl (hb hby d7_183)
      have ks195 := own_c ks192 st194
      have ks196 : own_R p e below (A0) (T194.setTop (mkF m 190 #[vR r0, vJ q1, .second, vR y, vI 0, vI 0, vI 1, vR ob] [(.ref ob), (.int 1), (.ref va)])) := fun t k => ks195 t (by
        refine XS.iload X194.here hx rfl (hb hby d7_186) rfl ?_
        refine XS.aload X194.here hx rfl (hb hby d7_188) rfl rfl ?_
        exact k)
      obtain ⟨T197, X197, e197, st197⟩ := own_getFR X194 hx hZ hown (own_w hw 80 rfl) e194 f193 (g := (mkF m 190 #[vR r0, vJ q1, .second, vR y, vI 0, vI 0, vI 1, vR ob] [(.ref ob), (.int 1), (.ref va)])) rfl rfl (hb hby d7_190)
      have ks198 := own_c ks196 st197
      have ks199 : own_R p e below (A0) (T197.setTop (mkF m 199 #[vR r0, vJ q1, .second, vR y, vI 0, vI 0, vI 1, vR ob] [(.ref ob), (.int 2), (.ref va), (.int 1), (.ref va)])) := fun t k => ks198 t (by
        refine XS.iload X197.here hx rfl (hb hby d7_193) rfl ?_
        refine XS.iconst X197.here hx rfl (hb hby d7_195) ?_
        refine XS.iadd X197.here hx rfl (hb hby d7_196) rfl ?_
        show Steps p.tables e below (T197.setTop (mkF m 197 #[vR r0, vJ q1, .second, vR y, vI 0, vI 0, vI 1, vR ob] [(.int 2), (.ref va), (.int 1), (.ref va)])) _
        refine XS.aload X197.here hx rfl (hb hby d7_197) rfl rfl ?_
        exact k)
      have f200 := (Fn.keep Kq190 (ninS ne_ob_ka nin0))
      obtain ⟨T201, X201, e201, st201⟩ := own_getFR X197 hx hZ hown (own_w hw 78 rfl) e197 f200 (g := (mkF m 199 #[vR r0, vJ q1, .second, vR y, vI 0, vI 0, vI 1, vR ob] [(.ref ob), (.int 2), (.ref va), (.int 1), (.ref va)])) rfl rfl (hb hby d7_199)
      have ks202 := own_c ks199 st201
      have ks203 : own_R p e below (A0) (T201.setTop (mkF m 205 #[vR r0, vJ q1, .second, vR y, vI 0, vI 0, vI 1, vR ob] [(.int 0), (.int 2), (.ref va), (.int 1), (.ref va)])) := fun t k => ks202 t (by
        refine XS.iload X201.here hx rfl (hb hby d7_202) rfl ?_
        refine XS.isub X201.here hx rfl (hb hby d7_204) rfl ?_
        exact k)
      have f204 := (Vv.keep Kq190 (ninS (Ne.symm ne_ka_va) nin0))
      obtain ⟨T205, h205, L205, X205, e205, N205, Kq205, Vr205, st205⟩ := cpA X201 hx hZ hown (own_w hw 65 rfl) (own_w hw 68 rfl) (own_w hw 66 rfl) (own_w hw 67 rfl) e201 f204 f204 (sp := (1 : Int32)) (dp := (2 : Int32)) (nn := (0 : Int32)) (us := []) (Or.inr ⟨rfl, rfl, trivial⟩) (by decide) (by decide) (by decide) (by decide) (by decide) rfl (Nat.le_of_ble_eq_true rfl) N190 g_va (g := (mkF m 205 #[vR r0, vJ q1, .second, vR y, vI 0, vI 0, vI 1, vR ob] [(.int 0), (.int 2), (.ref va), (.int 1), (.ref va)])) rfl (by rw [hml]; rfl) (rest := []) rfl (hb hby d7_205) (by decide) (W := 0) (by show 2 * 0 + _ ≤ _; exact Nat.le_of_eq rfl) (by decide)
      have V205 : Arv Z h205 va kva (.object "java/lang/Object") (256 : Int32) [(.ref y), .null, .null] .null := Vr205
      have KH205 : Keep h0 h205 [r0, f, sh, ob, ka, va] := KH190.trans Kq205 (allS (Or.inl (List.mem_of_getElem? (i := 5) rfl)) all0)
      have Zn205 : n0 ≤ h205.size := Nat.le_trans Zn190 Kq205.1
      have ks206 := own_c ks203 st205
      have ks207 : own_R p e below (A0) (T205.setTop (mkF m 210 #[vR r0, vJ q1, .second, vR y, vI 0, vI 0, vI 1, vR ob] [(.ref ob)])) := fun t k => ks206 t (by
        refine XS.aload X205.here hx rfl (hb hby d7_208) rfl rfl ?_
        exact k)
      have f208 := ((Fk.keep Kq190 (ninS ne_ob_ka nin0)).keep Kq205 (ninS ne_ob_va nin0))
      obtain ⟨T209, X209, e209, st209⟩ := own_getFR X205 hx hZ hown (own_w hw 69 rfl) e205 f208 (g := (mkF m 210 #[vR r0, vJ q1, .second, vR y, vI 0, vI 0, vI 1, vR ob] [(.ref ob)])) rfl rfl (hb hby d7_210)
      have ks210 := own_c ks207 st209
      have ks211 : own_R p e below (A0) (T209.setTop (mkF m 216 #[vR r0, vJ q1, .second, vR y, vI 0, vI 0, vI 1, vR ob] [(.long q1), (.int 1), (.ref ka)])) := fun t k => ks210 t (by
        refine XS.iload X209.here hx rfl (hb hby d7_213) rfl ?_
        refine XS.lloadN X209.here hx rfl (hb hby d7_215) rfl ?_
        exact k)
      have f212 := (V190.keep Kq205 (ninS ne_ka_va nin0))
      obtain ⟨cl213, Ar213, qa213, S213, Na213, Ha213, Ga213⟩ := id f212
      have hin213 : ¬ ((1 : Int32) < 0 ∨ cl213.slots.size ≤ ((1 : Int32)).toNatClampNeg) := inb_of S213 ⟨by decide, by decide⟩
      obtain ⟨T214, h214, X214, e214, W214, st214⟩ := stJ X209 hx hZ e209 Ar213 (j := (1 : Int32)) hin213 (g := (mkF m 216 #[vR r0, vJ q1, .second, vR y, vI 0, vI 0, vI 1, vR ob] [(.long q1), (.int 1), (.ref ka)])) rfl rfl (hb hby d7_216)
      have V214 : Arv Z h214 ka kka .long (256 : Int32) [(.long a), (.long q1), (.long z)] (.long (0 : Int64)) := Arv.set Ar213 qa213 S213 Na213 Ha213 Ga213 rfl W214 1 rfl (Nat.le_of_ble_eq_true rfl)
      have KH214 : Keep h0 h214 [r0, f, sh, ob, ka, va] := KH205.wr W214 (Or.inl (List.mem_of_getElem? (i := 4) rfl))
      have Zn214 : n0 ≤ h214.size := Nat.le_trans Zn205 (Keep.of_wr W214).1
      have N214 := Fr.snoc X214 N205 g_ka
      have ks215 := own_c ks211 st214
      have ks216 : own_R p e below (A0) (T214.setTop (mkF m 219 #[vR r0, vJ q1, .second, vR y, vI 0, vI 0, vI 1, vR ob] [(.ref ob)])) := fun t k => ks215 t (by
        refine XS.aload X214.here hx rfl (hb hby d7_217) rfl rfl ?_
        exact k)
      have f217 := ((f193.keep Kq205 (ninS ne_ob_va nin0)).other W214 (Or.inl ne_ob_ka))
      obtain ⟨T218, X218, e218, st218⟩ := own_getFR X214 hx hZ hown (own_w hw 80 rfl) e214 f217 (g := (mkF m 219 #[vR r0, vJ q1, .second, vR y, vI 0, vI 0, vI 1, vR ob] [(.ref ob)])) rfl rfl (hb hby d7_219)
      have ks219 := own_c ks216 st218
      have ks220 : own_R p e below (A0) (T218.setTop (mkF m 225 #[vR r0, vJ q1, .second, vR y, vI 0, vI 0, vI 1, vR ob] [(.ref y), (.int 1), (.ref va)])) := fun t k => ks219 t (by
        refine XS.iload X218.here hx rfl (hb hby d7_222) rfl ?_
        refine XS.aloadN X218.here hx rfl (hb hby d7_224) rfl rfl ?_
        exact k)
      have f221 := (V205.other W214 (Ne.symm ne_ka_va))
      obtain ⟨cl222, Ar222, qa222, S222, Na222, Ha222, Ga222⟩ := id f221
      have f223 := Ey.keep KH214
      have hin222 : ¬ ((1 : Int32) < 0 ∨ cl222.slots.size ≤ ((1 : Int32)).toNatClampNeg) := inb_of S222 ⟨by decide, by decide⟩
      obtain ⟨T224, h224, X224, e224, W224, st224⟩ := stR X218 hx hZ e218 Ar222 (j := (1 : Int32)) hin222 rfl (Sto.ofV Ar222 qa222 Ov (Ins.of_exa f223 (own_w hw 81 rfl))) (g := (mkF m 225 #[vR r0, vJ q1, .second, vR y, vI 0, vI 0, vI 1, vR ob] [(.ref y), (.int 1), (.ref va)])) rfl rfl (hb hby d7_225)
      have V224 : Arv Z h224 va kva (.object "java/lang/Object") (256 : Int32) [(.ref y), (.ref y), .null] .null := Arv.set Ar222 qa222 S222 Na222 Ha222 Ga222 rfl W224 1 rfl (Nat.le_of_ble_eq_true rfl)
      have KH224 : Keep h0 h224 [r0, f, sh, ob, ka, va] := KH214.wr W224 (Or.inl (List.mem_of_getElem? (i := 5) rfl))
      have Zn224 : n0 ≤ h224.size := Nat.le_trans Zn214 (Keep.of_wr W224).1
      have N224 := Fr.snoc X224 N214 g_va
      have ks225 := own_c ks220 st224
      have ks226 : own_R p e below (A0) (T224.setTop (mkF m 229 #[vR r0, vJ q1, .second, vR y, vI 0, vI 0, vI 1, vR ob] [(.ref ob), (.ref ob)])) := fun t k => ks225 t (by
        refine XS.aload X224.here hx rfl (hb hby d7_226) rfl rfl ?_
        refine XS.dup X224.here hx rfl (hb hby d7_228) rfl rfl ?_
        exact k)
      have f227 := (((f200.keep Kq205 (ninS ne_ob_va nin0)).other W214 (Or.inl ne_ob_ka)).other W224 (Or.inl ne_ob_va))
      obtain ⟨T228, X228, e228, st228⟩ := own_getFR X224 hx hZ hown (own_w hw 78 rfl) e224 f227 (g := (mkF m 229 #[vR r0, vJ q1, .second, vR y, vI 0, vI 0, vI 1, vR ob] [(.ref ob), (.ref ob)])) rfl rfl (hb hby d7_229)
      have ks229 := own_c ks226 st228
      have ks230 : own_R p e below (A0) (T228.setTop (mkF m 234 #[vR r0, vJ q1, .second, vR y, vI 0, vI 0, vI 1, vR ob] [(.int 2), (.ref ob)])) := fun t k => ks229 t (by
        refine XS.iconst X228.here hx rfl (hb hby d7_232) ?_
        refine XS.iadd X228.here hx rfl (hb hby d7_233) rfl ?_
        exact k)
      have f231 := Eo.keep KH224
      obtain ⟨T232, h232, X232, e232, W232, st232⟩ := own_putFR X228 hx hZ hown (own_w hw 78 rfl) e228 f227 f231 (own_w hw 79 rfl) (own_w hw 49 rfl) (ty := .int) (by decide) rfl rfl (g := (mkF m 234 #[vR r0, vJ q1, .second, vR y, vI 0, vI 0, vI 1, vR ob] [(.int 2), (.ref ob)])) rfl rfl (hb hby d7_234)
      have Fw232 := f227.same W232
      have KH232 : Keep h0 h232 [r0, f, sh, ob, ka, va] := KH224.wr W232 (Or.inl (List.mem_of_getElem? (i := 3) rfl))
      have Zn232 : n0 ≤ h232.size := Nat.le_trans Zn224 (Keep.of_wr W232).1
      have N232 := Fr.snoc X232 N224 g_ob
      have ks233 := own_c ks230 st232
      have ks234 : own_R p e below (A0) (T232.setTop (mkF m 238 #[vR r0, vJ q1, .second, vR y, vI 0, vI 0, vI 1, vR ob] [(.ref r0)])) := fun t k => ks233 t (by
        refine XS.aloadN X232.here hx rfl (hb hby d7_237) rfl rfl ?_
        exact k)
      have f235 := (((((Ff.keep Kq190 (ninS ne_r0_ka nin0)).keep Kq205 (ninS ne_r0_va nin0)).other W214 (Or.inl ne_r0_ka)).other W224 (Or.inl ne_r0_va)).other W232 (Or.inl ne_r0_ob))
      obtain ⟨T236, X236, e236, st236⟩ := getF X232 hx hZ hown (host := "") (Or.inl (own_w hw 10 rfl)) Via.refl e232 f235 (g := (mkF m 238 #[vR r0, vJ q1, .second, vR y, vI 0, vI 0, vI 1, vR ob] [(.ref r0)])) rfl rfl (hb hby d7_238)
      have ks237 := own_c ks234 st236
      have ks238 : own_R p e below (A0) (T236.setTop (mkF m 245 #[vR r0, vJ q1, .second, vR y, vI 0, vI 0, vI 1, vR ob] [(.ref ob), (.int 0), (.ref f)])) := fun t k => ks237 t (by
        refine XS.iload X236.here hx rfl (hb hby d7_241) rfl ?_
        refine XS.aload X236.here hx rfl (hb hby d7_243) rfl rfl ?_
        exact k)
      have f239 := (((f208.other W214 (Or.inl ne_ob_ka)).other W224 (Or.inl ne_ob_va)).other W232 (Or.inr (slot_ne (Or.inr (own_w hw 56 rfl)) (Or.inl (own_w hw 79 rfl)) (by decide) (t := (.array .long)) (t' := .int) (by decide) (by decide))))
      obtain ⟨T240, X240, e240, st240⟩ := own_getFR X236 hx hZ hown (own_w hw 69 rfl) e236 f239 (g := (mkF m 245 #[vR r0, vJ q1, .second, vR y, vI 0, vI 0, vI 1, vR ob] [(.ref ob), (.int 0), (.ref f)])) rfl rfl (hb hby d7_245)
      have ks241 := own_c ks238 st240
      have ks242 : own_R p e below (A0) (T240.setTop (mkF m 249 #[vR r0, vJ q1, .second, vR y, vI 0, vI 0, vI 1, vR ob] [(.int 0), (.ref ka), (.int 0), (.ref f)])) := fun t k => ks241 t (by
        refine XS.iconst X240.here hx rfl (hb hby d7_248) ?_
        exact k)
      have f243 := ((V214.other W224 ne_ka_va).other W232 (Ne.symm ne_ob_ka))
      obtain ⟨cl244, Ar244, qa244, S244, Na244, Ha244, Ga244⟩ := id f243
      have ks245 : own_R p e below (A0) (T240.setTop (mkF m 250 #[vR r0, vJ q1, .second, vR y, vI 0, vI 0, vI 1, vR ob] [(.long a), (.int 0), (.ref f)])) := fun t k => ks242 t (by
        refine X240.laload hx (j := (0 : Int32)) (v := (.long a)) (by rw [e240]; exact Ar244.1) (State.isArrayOf_alike hZ.alike Ar244.2.1) Ar244.2.2 (inb_of S244 ⟨by decide, by decide⟩) (Has.at Ha244 (inb_of S244 ⟨by decide, by decide⟩) rfl) (g := (mkF m 249 #[vR r0, vJ q1, .second, vR y, vI 0, vI 0, vI 1, vR ob] [(.int 0), (.ref ka), (.int 0), (.ref f)])) rfl rfl (hb hby d7_249) _ ?_
        exact k)
      have f246 := (((((Vf.keep Kq190 (ninS ne_f_ka nin0)).keep Kq205 (ninS ne_f_va nin0)).other W214 ne_f_ka).other W224 ne_f_va).other W232 ne_f_ob)
      obtain ⟨cl247, Ar247, qa247, S247, Na247, Ha247, Ga247⟩ := id f246
      have hin247 : ¬ ((0 : Int32) < 0 ∨ cl247.slots.size ≤ ((0 : Int32)).toNatClampNeg) := inb_of S247 ⟨by decide, by decide⟩
      obtain ⟨T248, h248, X248, e248, W248, st248⟩ := stJ X240 hx hZ e240 Ar247 (j := (0 : Int32)) hin247 (g := (mkF m 250 #[vR r0, vJ q1, .second, vR y, vI 0, vI 0, vI 1, vR ob] [(.long a), (.int 0), (.ref f)])) rfl rfl (hb hby d7_250)
      have V248 : Arv Z h248 f kf .long (1 : Int32) [(.long a)] (.long (0 : Int64)) := Arv.set Ar247 qa247 S247 Na247 Ha247 Ga247 rfl W248 0 rfl (Nat.le_of_ble_eq_true rfl)
      have KH248 : Keep h0 h248 [r0, f, sh, ob, ka, va] := KH232.wr W248 (Or.inl (List.mem_of_getElem? (i := 1) rfl))
      have Zn248 : n0 ≤ h248.size := Nat.le_trans Zn232 (Keep.of_wr W248).1
      have N248 := Fr.snoc X248 N232 g_f
      have ks249 := own_c ks245 st248
      have ks250 : own_R p e below (A0) (T248.setTop (mkF m 253 #[vR r0, vJ q1, .second, vR y, vI 0, vI 0, vI 1, vR ob] [(.ref r0), (.ref r0)])) := fun t k => ks249 t (by
        refine XS.aloadN X248.here hx rfl (hb hby d7_251) rfl rfl ?_
        refine XS.dup X248.here hx rfl (hb hby d7_252) rfl rfl ?_
        exact k)
      have f251 := ((((((Fz.keep Kq190 (ninS ne_r0_ka nin0)).keep Kq205 (ninS ne_r0_va nin0)).other W214 (Or.inl ne_r0_ka)).other W224 (Or.inl ne_r0_va)).other W232 (Or.inl ne_r0_ob)).other W248 (Or.inl ne_r0_f))
      obtain ⟨T252, X252, e252, st252⟩ := getF X248 hx hZ hown (host := "") (Or.inl (own_w hw 82 rfl)) Via.refl e248 f251 (g := (mkF m 253 #[vR r0, vJ q1, .second, vR y, vI 0, vI 0, vI 1, vR ob] [(.ref r0), (.ref r0)])) rfl rfl (hb hby d7_253)
      have ks253 := own_c ks250 st252
      have ks254 : own_R p e below (A0) (T252.setTop (mkF m 258 #[vR r0, vJ q1, .second, vR y, vI 0, vI 0, vI 1, vR ob] [(.int (sz + (1 : Int32))), (.ref r0)])) := fun t k => ks253 t (by
        refine XS.iconst X252.here hx rfl (hb hby d7_256) ?_
        refine XS.iadd X252.here hx rfl (hb hby d7_257) rfl ?_
        exact k)
      have f255 := E0.keep KH248
      obtain ⟨T256, h256, X256, e256, W256, st256⟩ := putF X252 hx hZ hown (host := "") (Or.inl (own_w hw 82 rfl)) Via.refl e252 f251 f255 (Or.inl (own_w hw 83 rfl)) (own_w hw 1 rfl) (ty := .int) (by decide) rfl rfl (g := (mkF m 258 #[vR r0, vJ q1, .second, vR y, vI 0, vI 0, vI 1, vR ob] [(.int (sz + (1 : Int32))), (.ref r0)])) rfl rfl (hb hby d7_258)
      have Fw256 := f251.same W256
      have KH256 : Keep h0 h256 [r0, f, sh, ob, ka, va] := KH248.wr W256 (Or.inl (List.mem_of_getElem? (i := 0) rfl))
      have Zn256 : n0 ≤ h256.size := Nat.le_trans Zn248 (Keep.of_wr W256).1
      have N256 := Fr.snoc X256 N248 g_r0
      have ks257 := own_c ks254 st256
      obtain ⟨fs, hr, hrun, hended, hW, hsame⟩ := X256.leave (v := none) (fun _ => rfl) hlk
      refine ⟨_, _, kz _ (ks257 _ ?_), hrun, hended, _, _, rfl, ?_, ⟨_, rfl⟩, hW, hsame.mono (by decide) (by decide)⟩
      · exact X256.returnOut hx Bd.returns (hb hby d7_261) hr
      · show Q7F Z r0 q1 y f sh ob ka va kf ksh kka kva sz z a b h0 n0 _ T256.heap _
        rw [e256]
        have f258 := E0.keep KH256
        have f259 := ((f235.other W248 (Or.inl ne_r0_f)).other W256 (Or.inr (slot_ne (Or.inl (own_w hw 11 rfl)) (Or.inl (own_w hw 83 rfl)) (by decide) (t := (.array .long)) (t' := .int) (by decide) (by decide))))
        have f260 := (((((((Fsh.keep Kq190 (ninS ne_r0_ka nin0)).keep Kq205 (ninS ne_r0_va nin0)).other W214 (Or.inl ne_r0_ka)).other W224 (Or.inl ne_r0_va)).other W232 (Or.inl ne_r0_ob)).other W248 (Or.inl ne_r0_f)).other W256 (Or.inr (slot_ne (Or.inl (own_w hw 15 rfl)) (Or.inl (own_w hw 83 rfl)) (by decide) (t := (.array (.object "com/example/thin_feed/thinfeed/store/LongFloorMap$Shelf"))) (t' := .int) (by decide) (by decide))))
        have f261 := (((((((Fc.keep Kq190 (ninS ne_r0_ka nin0)).keep Kq205 (ninS ne_r0_va nin0)).other W214 (Or.inl ne_r0_ka)).other W224 (Or.inl ne_r0_va)).other W232 (Or.inl ne_r0_ob)).other W248 (Or.inl ne_r0_f)).other W256 (Or.inr (slot_ne (Or.inl (own_w hw 37 rfl)) (Or.inl (own_w hw 83 rfl)) (by decide) (t := .int) (t' := .int) (by decide) (by decide))))
        have f262 := (V248.other W256 (Ne.symm ne_r0_f))
        have f263 := (((((((Vs.keep Kq190 (ninS ne_sh_ka nin0)).keep Kq205 (ninS ne_sh_va nin0)).other W214 ne_sh_ka).other W224 ne_sh_va).other W232 ne_sh_ob).other W248 (Ne.symm ne_f_sh)).other W256 (Ne.symm ne_r0_sh))
        have f264 := Eo.keep KH256
        have f265 := ((f239.other W248 (Or.inl (Ne.symm ne_f_ob))).other W256 (Or.inl (Ne.symm ne_r0_ob)))
        have f266 := ((((f217.other W224 (Or.inl ne_ob_va)).other W232 (Or.inr (slot_ne (Or.inr (own_w hw 60 rfl)) (Or.inl (own_w hw 79 rfl)) (by decide) (t := (.array (.object "java/lang/Object"))) (t' := .int) (by decide) (by decide)))).other W248 (Or.inl (Ne.symm ne_f_ob))).other W256 (Or.inl (Ne.symm ne_r0_ob)))
        have f267 := ((Fw232.other W248 (Or.inl (Ne.symm ne_f_ob))).other W256 (Or.inl (Ne.symm ne_r0_ob)))
        have f268 := ((f243.other W248 (Ne.symm ne_f_ka)).other W256 (Ne.symm ne_r0_ka))
        have f269 := (((V224.other W232 (Ne.symm ne_ob_va)).other W248 (Ne.symm ne_f_va)).other W256 (Ne.symm ne_r0_va))
        have f270 := Ey.keep KH256
        exact ⟨rfl, N256, Zn256, (fun _ _ q => q.keep KH256), Or.inr (Or.inr ⟨_, _, ⟨f, sh, ob, ka, va, _, _, _, _, _, _, f258, f259, f260, f261, Fw256, f262, f263, Os, f264, f265, f266, f267, f268, f269, Ov, f270, g_r0, g_f, g_sh, g_ob, g_ka, g_va, ne_r0_f, ne_r0_sh, ne_r0_ob, ne_r0_ka, ne_r0_va, ne_f_sh, ne_f_ob, ne_f_ka, ne_f_va, ne_sh_ob, ne_sh_ka, ne_sh_va, ne_ob_ka, ne_ob_va, ne_ka_va⟩, own_p2 hc34 hc146, own_p3⟩)⟩
theorem own_r0 {S : Int64 → Prop} {k : Int64} (q : ∀ x, ¬ S x) (x : Int64) : ¬ (S x ∧ x ≠ k) := fun z => q x z.1
theorem own_r1 {S : Int64 → Prop} {a k : Int64} (q : ∀ x, S x ↔ x = a) (h : ¬ a = k) (x : Int64) : (S x ∧ x ≠ k) ↔ x = a := by rw [q]; exact ⟨fun z => z.1, fun z => ⟨z, fun y => h (z.symm.trans y)⟩⟩
theorem own_r2 {S : Int64 → Prop} {a k : Int64} (q : ∀ x, S x ↔ x = a) (h : a = k) (x : Int64) : ¬ (S x ∧ x ≠ k) := by rw [q]; exact fun z => z.2 (z.1.trans h)
theorem own_r3 {S : Int64 → Prop} {a b k : Int64} (q : ∀ x, S x ↔ (x = a ∨ x = b)) (h : ¬ a = k) (h' : ¬ b = k) (x : Int64) : (S x ∧ x ≠ k) ↔ (x = a ∨ x = b) := by
  rw [q]; exact ⟨fun z => z.1, fun z => ⟨z, fun y => z.elim (fun u => h (u.symm.trans y)) (fun u => h' (u.symm.trans y))⟩⟩
theorem own_r4 {S : Int64 → Prop} {a b k : Int64} (q : ∀ x, S x ↔ (x = a ∨ x = b)) (l : a < b) (h : b = k) (x : Int64) : (S x ∧ x ≠ k) ↔ x = a := by
  subst h; rw [q]; exact ⟨fun z => z.1.elim id (fun u => absurd u z.2), fun z => ⟨Or.inl z, fun y => by rw [← z, y] at l; exact (Int64.lt_irrefl l).elim⟩⟩
theorem own_r5 {S : Int64 → Prop} {a b k : Int64} (q : ∀ x, S x ↔ (x = a ∨ x = b)) (l : a < b) (h : a = k) (x : Int64) : (S x ∧ x ≠ k) ↔ x = b := by
  subst h; rw [q]; exact ⟨fun z => z.1.elim (fun u => absurd u z.2) id, fun z => ⟨Or.inr z, fun y => by rw [← z, y] at l; exact (Int64.lt_irrefl l).elim⟩⟩
theorem own_ec (a b : Int64) : a = b ∨ (¬ a = b ∧ ¬ b = a) := by
  by_cases h : a = b
  · exact Or.inl h
  · exact Or.inr ⟨h, fun q => h q.symm⟩
theorem own_ltne {a k : Int64} (h : k < a) : ¬ a = k := fun q => by subst q; exact (Int64.lt_irrefl h).elim
theorem own_lt2 {a b k : Int64} (h : k < a) (l : a < b) : ¬ b = k := fun q => by subst q; exact (Int64.lt_irrefl (Int64.lt_trans l h)).elim
theorem own_lt3 {a b k : Int64} (h : ¬ k < b) (l : a < b) : ¬ a = k := fun q => by subst q; exact h l
def own_RQ (Z : State) (r0 : Addr) (q1 : Int64) (y : Addr) (S : Int64 → Prop) (h0 : Heap) (n0 : Nat) (v : Option Value) (h : Heap) (L : List Loc) : Prop := v = none ∧ Fr n0 L ∧ n0 ≤ h.size ∧ (∀ (x : Addr) (K : String), Exa Z h0 x K → Exa Z h x K) ∧ own_M Z h n0 r0 y (fun x => S x ∧ x ≠ q1)
theorem d12_0 : decode prog_25_method_7_code 0 = .ok (.aload_n 0, 1) := by decide +kernel
theorem d12_1 : decode prog_25_method_7_code 1 = .ok (.getfield 7, 3) := by decide +kernel
theorem d12_4 : decode prog_25_method_7_code 4 = .ok (.aload_n 0, 1) := by decide +kernel
theorem d12_5 : decode prog_25_method_7_code 5 = .ok (.getfield 19, 3) := by decide +kernel
theorem d12_8 : decode prog_25_method_7_code 8 = .ok (.lload_n 1, 1) := by decide +kernel
theorem d12_9 : decode prog_25_method_7_code 9 = .ok (.invokestatic 23, 3) := by decide +kernel
theorem d12_12 : decode prog_25_method_7_code 12 = .ok (.istore_n 3, 1) := by decide +kernel
theorem d12_13 : decode prog_25_method_7_code 13 = .ok (.iload_n 3, 1) := by decide +kernel
theorem d12_14 : decode prog_25_method_7_code 14 = .ok (.ifCond .ge 7, 3) := by decide +kernel
theorem d12_17 : decode prog_25_method_7_code 17 = .ok (.iconst (-1), 1) := by decide +kernel
theorem d12_18 : decode prog_25_method_7_code 18 = .ok (.goto 25, 3) := by decide +kernel
theorem d12_43 : decode prog_25_method_7_code 43 = .ok (.istore 4, 2) := by decide +kernel
theorem d12_45 : decode prog_25_method_7_code 45 = .ok (.iload 4, 2) := by decide +kernel
theorem d12_47 : decode prog_25_method_7_code 47 = .ok (.ifCond .lt 20, 3) := by decide +kernel
theorem d12_67 : decode prog_25_method_7_code 67 = .ok (.return_, 1) := by decide +kernel
theorem pn_12 : plainName "com/example/thin_feed/thinfeed/store/LongFloorMap" = true := by first | (simp [plainName, overriddenIn]; done) | decide +kernel
theorem ef_12_0 (m : MethodId) (x0 : Addr) (x1 : Int64) : entryFrame m #[(.ref x0), (.long x1)] 6 = mkF m 0 #[.val (.ref x0), .val (.long x1), .second, .unset, .unset, .unset] [] := by first | (simp [entryFrame, mkF, argsToLocals, Value.category]; done) | rfl
def Q12_0 (Z : State) (r0 : Addr) (q1 : Int64) (y : Addr) (S : Int64 → Prop) (f : Addr) (sh : Addr) (kf : ClassId) (ksh : ClassId) (sz : Int32) (x : Int64) (h0 : Heap) (n0 : Nat) (v : Option Value) (h : Heap) (L : List Loc) : Prop := own_RQ Z r0 q1 y S h0 n0 v h L
set_option maxRecDepth 65536 in
set_option maxHeartbeats 40000000 in
theorem rm12_0 (l : Launch) (Z : State) (a0 : Array Value) (hw : ∀ d ∈ tables_1, d.before a0 Z = true) (ws : List Jvm.Cond) (r0 : Addr) (q1 : Int64) (y : Addr) (S : Int64 → Prop) (f : Addr) (sh : Addr) (kf : ClassId) (ksh : ClassId) (sz : Int32) (x : Int64) (h0 : Heap) (n0 : Nat) (Z0 : n0 ≤ h0.size) (E0 : Exa Z h0 r0 "com/example/thin_feed/thinfeed/store/LongFloorMap") (Ff : Fld Z h0 r0 "com/example/thin_feed/thinfeed/store/LongFloorMap" "firsts" "[J" (.ref f)) (Fsh : Fld Z h0 r0 "com/example/thin_feed/thinfeed/store/LongFloorMap" "shelves" "[Lcom/example/thin_feed/thinfeed/store/LongFloorMap$Shelf;" (.ref sh)) (Fc : Fld Z h0 r0 "com/example/thin_feed/thinfeed/store/LongFloorMap" "shelfCount" "I" (.int 0)) (Fz : Fld Z h0 r0 "com/example/thin_feed/thinfeed/store/LongFloorMap" "size" "I" (.int sz)) (Vf : Arv Z h0 f kf .long 1 [.long x] (.long (0 : Int64))) (Vs : Arv Z h0 sh ksh (.object "com/example/thin_feed/thinfeed/store/LongFloorMap$Shelf") 1 [.null] .null) (Os : Ovr Z ksh "com/example/thin_feed/thinfeed/store/LongFloorMap$Shelf") (g_r0 : n0 ≤ r0) (g_f : n0 ≤ f) (g_sh : n0 ≤ sh) (ne_r0_f : r0 ≠ f) (ne_r0_sh : r0 ≠ sh) (ne_f_sh : f ≠ sh) (hS : ∀ x, ¬ S x) :
    MetFree l (⟨"com/example/thin_feed/thinfeed/store/LongFloorMap", "remove", "(J)V"⟩ : MethodName) (head1 (Jvm.Cond.code (⟨"com/example/thin_feed/thinfeed/store/LongFloorMap", "remove", "(J)V"⟩ : MethodName) prog_25_method_7_code 6 none :: ws) ({ frames := 2, cells := 0, slots := 0, locals := 31 } : Room)) (fun a U => a = #[(.ref r0), (.long q1)] ∧ Z.Warmed39 U.vm ∧ U.heap = h0) (fun _ _ _ _ _ => True) (fun _ U o U' => ∃ v L, o = .returned v ∧ Q12_0 Z r0 q1 y S f sh kf ksh sz x h0 n0 v U'.heap L ∧ FrameEnd U o U' L ({ frames := 2, cells := 0, slots := 0, locals := 31 } : Room).cells ({ frames := 2, cells := 0, slots := 0, locals := 31 } : Room).slots) := by
  refine MetFree.of_bodySF (plainFor_of_name pn_12) hisR ?_
  intro p e s m args below meth c s₁ Bd hml0 hP hK
  obtain ⟨rfl, hZ, hh⟩ := hP
  have hx := Bd.exec
  have hby := Bd.bytes
  have hml : c.maxLocals = 6 := hml0
  have hown : s.vm.findClass "com/example/thin_feed/thinfeed/store/LongFloorMap" = some m.cls := findClass_of_methodNamed Bd.named
  have hnm := (name_of_methodNamed Bd.named Bd.method).1
  have hlk : meth.locks = false := by first | exact BodyLoose.notSynchronized Bd | exact Body.notSynchronized Bd
  have X0 : Stand p l e ({ frames := 2, cells := 0, slots := 0, locals := 31 } : Room) s m #[(.ref r0), (.long q1)] below meth c s₁ [] 0 0 := Stand.of_body Bd
  have e0 : s₁.heap = h0 := by rw [← hh, Bd.state]; rfl
  have N0 := Fr.nil n0
  have k0 : own_R p e below (s₁.setTop (entryFrame m #[(.ref r0), (.long q1)] 6)) (s₁.setTop (mkF m 0 #[vR r0, vJ q1, .second, .unset, .unset, .unset] [])) := fun t k => castTop (ef_12_0 m r0 q1) k
  obtain ⟨A0, hA0⟩ : ∃ z, z = s₁.setTop (entryFrame m #[(.ref r0), (.long q1)] 6) := ⟨_, rfl⟩
  rw [← hA0] at k0
  have kz : ∀ t, Steps p.tables e below A0 t → Steps p.tables e below (s₁.setTop (entryFrame m #[(.ref r0), (.long q1)] 6)) t := fun t q => hA0 ▸ q
  have ks1 : own_R p e below (A0) (s₁.setTop (mkF m 1 #[vR r0, vJ q1, .second, .unset, .unset, .unset] [(.ref r0)])) := fun t k => k0 t (by
    refine XS.aloadN X0.here hx rfl (hb hby d12_0) rfl rfl ?_
    exact k)
  obtain ⟨T2, X2, e2, st2⟩ := getF X0 hx hZ hown (host := "") (Or.inl (own_w hw 10 rfl)) Via.refl e0 Ff (g := (mkF m 1 #[vR r0, vJ q1, .second, .unset, .unset, .unset] [(.ref r0)])) rfl rfl (hb hby d12_1)
  have ks3 := own_c ks1 st2
  have ks4 : own_R p e below (A0) (T2.setTop (mkF m 5 #[vR r0, vJ q1, .second, .unset, .unset, .unset] [(.ref r0), (.ref f)])) := fun t k => ks3 t (by
    refine XS.aloadN X2.here hx rfl (hb hby d12_4) rfl rfl ?_
    exact k)
  obtain ⟨T5, X5, e5, st5⟩ := getF X2 hx hZ hown (host := "") (Or.inl (own_w hw 36 rfl)) Via.refl e2 Fc (g := (mkF m 5 #[vR r0, vJ q1, .second, .unset, .unset, .unset] [(.ref r0), (.ref f)])) rfl rfl (hb hby d12_5)
  have ks6 := own_c ks4 st5
  have ks7 : own_R p e below (A0) (T5.setTop (mkF m 9 #[vR r0, vJ q1, .second, .unset, .unset, .unset] [(.long q1), (.int 0), (.ref f)])) := fun t k => ks6 t (by
    refine XS.lloadN X5.here hx rfl (hb hby d12_8) rfl ?_
    exact k)
  obtain ⟨_, _, ⟨T8, L8, k8, n8⟩, -, X8, ⟨Lc8, hQ8, lq8, yq8, zq8⟩, st8⟩ := Jvm.LawKit.callS X5 hx (y := (⟨"com/example/thin_feed/thinfeed/store/LongFloorMap", "floorIndex", "([JIJ)I"⟩ : MethodName)) hown (mvT hZ (own_w hw 71 rfl)) (mvT hZ (own_w hw 72 rfl)) (mvT hZ (own_w hw 2 rfl)) (mvT hZ (own_w hw 73 rfl)) (by decide) (backOf (W := 0) (rm10_0 l Z a0 hw [] f q1 h0 n0 Z0 ) hZ (own_w hw 73 rfl) (own_w hw 2 rfl) (by decide) (by decide)) (g := (mkF m 9 #[vR r0, vJ q1, .second, .unset, .unset, .unset] [(.long q1), (.int 0), (.ref f)])) rfl (by rw [hml]; rfl) (argsL := [(.ref f), (.int 0), (.long q1)]) (rest := []) (lenOf pd_8 rfl) rfl (by show 2 * 0 + _ ≤ _; exact Nat.le_of_eq rfl) (hb hby d12_9) (fun _ _ => ⟨rfl, e5, (by decide : 0 + 0 ≤ _), (by decide : 0 + 0 ≤ _)⟩)
  dsimp only [Pt.U, Pt.locs, Pt.cells, Pt.slots] at X8 lq8 yq8 zq8 st8 hQ8
  subst lq8 yq8 zq8
  obtain ⟨rfl, Nq8, eq8⟩ := hQ8
  have N8 := Fr.app N0 Nq8
  have ks9 := own_c ks7 st8
  have ks10 : own_R p e below (A0) (T8.setTop (mkF m 67 #[vR r0, vJ q1, .second, vI (-1), vI (-1), .unset] [])) := fun t k => ks9 t (by
    refine XS.istoreN X8.here hx rfl (hb hby d12_12) rfl (l' := #[vR r0, vJ q1, .second, vI (-1), .unset, .unset]) rfl ?_
    refine XS.iloadN X8.here hx rfl (hb hby d12_13) rfl ?_
    refine XS.ifNo X8.here hx rfl (hb hby d12_14) rfl ((if0 _ _).trans (tlt (by decide)).2.1) ?_
    show Steps p.tables e below (T8.setTop (mkF m 17 #[vR r0, vJ q1, .second, vI (-1), .unset, .unset] [])) _
    refine XS.iconst X8.here hx rfl (hb hby d12_17) ?_
    refine XS.goto X8.here hx rfl (pc0 := 18) (pc' := 43) rfl (hb hby d12_18) (by decide) (by decide) ?_
    refine XS.istore X8.here hx rfl (hb hby d12_43) rfl (l' := #[vR r0, vJ q1, .second, vI (-1), vI (-1), .unset]) rfl ?_
    refine XS.iload X8.here hx rfl (hb hby d12_45) rfl ?_
    show Steps p.tables e below (T8.setTop (mkF m 47 #[vR r0, vJ q1, .second, vI (-1), vI (-1), .unset] [(.int (-1))])) _
    refine XS.ifYes X8.here hx rfl (pc0 := 47) (pc' := 67) rfl (hb hby d12_47) rfl ((if0 _ _).trans (tlt (by decide)).1) (by decide) (by decide) ?_
    exact k)
  obtain ⟨fs, hr, hrun, hended, hW, hsame⟩ := X8.leave (v := none) (fun _ => rfl) hlk
  refine ⟨_, _, kz _ (ks10 _ ?_), hrun, hended, _, _, rfl, ?_, ⟨_, rfl⟩, hW, hsame.mono (by decide) (by decide)⟩
  · exact X8.returnOut hx Bd.returns (hb hby d12_67) hr
  · show Q12_0 Z r0 q1 y S f sh kf ksh sz x h0 n0 _ T8.heap _
    rw [eq8]
    exact ⟨rfl, N8, Z0, (fun _ _ q => q.keep (Keep.refl _ [])), Or.inl ⟨⟨f, sh, _, _, _, _, E0, Ff, Fsh, Fc, Fz, Vf, Vs, Os, g_r0, g_f, g_sh, ne_r0_f, ne_r0_sh, ne_f_sh⟩, own_r0 hS⟩⟩
theorem d12_21 : decode prog_25_method_7_code 21 = .ok (.aload_n 0, 1) := by decide +kernel
theorem d12_22 : decode prog_25_method_7_code 22 = .ok (.getfield 15, 3) := by decide +kernel
theorem d12_25 : decode prog_25_method_7_code 25 = .ok (.iload_n 3, 1) := by decide +kernel
theorem d12_26 : decode prog_25_method_7_code 26 = .ok (.aaload, 1) := by decide +kernel
theorem d12_27 : decode prog_25_method_7_code 27 = .ok (.getfield 27, 3) := by decide +kernel
theorem d12_30 : decode prog_25_method_7_code 30 = .ok (.aload_n 0, 1) := by decide +kernel
theorem d12_31 : decode prog_25_method_7_code 31 = .ok (.getfield 15, 3) := by decide +kernel
theorem d12_34 : decode prog_25_method_7_code 34 = .ok (.iload_n 3, 1) := by decide +kernel
theorem d12_35 : decode prog_25_method_7_code 35 = .ok (.aaload, 1) := by decide +kernel
theorem d12_36 : decode prog_25_method_7_code 36 = .ok (.getfield 30, 3) := by decide +kernel
theorem d12_39 : decode prog_25_method_7_code 39 = .ok (.lload_n 1, 1) := by decide +kernel
theorem d12_40 : decode prog_25_method_7_code 40 = .ok (.invokestatic 23, 3) := by decide +kernel
theorem d12_50 : decode prog_25_method_7_code 50 = .ok (.aload_n 0, 1) := by decide +kernel
theorem d12_51 : decode prog_25_method_7_code 51 = .ok (.getfield 15, 3) := by decide +kernel
theorem d12_54 : decode prog_25_method_7_code 54 = .ok (.iload_n 3, 1) := by decide +kernel
theorem d12_55 : decode prog_25_method_7_code 55 = .ok (.aaload, 1) := by decide +kernel
theorem d12_56 : decode prog_25_method_7_code 56 = .ok (.getfield 27, 3) := by decide +kernel
theorem d12_59 : decode prog_25_method_7_code 59 = .ok (.iload 4, 2) := by decide +kernel
theorem d12_61 : decode prog_25_method_7_code 61 = .ok (.laload, 1) := by decide +kernel
theorem d12_62 : decode prog_25_method_7_code 62 = .ok (.lload_n 1, 1) := by decide +kernel
theorem d12_63 : decode prog_25_method_7_code 63 = .ok (.lcmp, 1) := by decide +kernel
theorem d12_64 : decode prog_25_method_7_code 64 = .ok (.ifCond .eq 4, 3) := by decide +kernel
theorem d12_68 : decode prog_25_method_7_code 68 = .ok (.aload_n 0, 1) := by decide +kernel
theorem d12_69 : decode prog_25_method_7_code 69 = .ok (.getfield 15, 3) := by decide +kernel
theorem d12_72 : decode prog_25_method_7_code 72 = .ok (.iload_n 3, 1) := by decide +kernel
theorem d12_73 : decode prog_25_method_7_code 73 = .ok (.aaload, 1) := by decide +kernel
theorem d12_74 : decode prog_25_method_7_code 74 = .ok (.astore 5, 2) := by decide +kernel
theorem d12_76 : decode prog_25_method_7_code 76 = .ok (.aload 5, 2) := by decide +kernel
theorem d12_78 : decode prog_25_method_7_code 78 = .ok (.getfield 27, 3) := by decide +kernel
theorem d12_81 : decode prog_25_method_7_code 81 = .ok (.iload 4, 2) := by decide +kernel
theorem d12_83 : decode prog_25_method_7_code 83 = .ok (.iconst 1, 1) := by decide +kernel
theorem d12_84 : decode prog_25_method_7_code 84 = .ok (.iadd, 1) := by decide +kernel
theorem d12_85 : decode prog_25_method_7_code 85 = .ok (.aload 5, 2) := by decide +kernel
theorem d12_87 : decode prog_25_method_7_code 87 = .ok (.getfield 27, 3) := by decide +kernel
theorem d12_90 : decode prog_25_method_7_code 90 = .ok (.iload 4, 2) := by decide +kernel
theorem d12_92 : decode prog_25_method_7_code 92 = .ok (.aload 5, 2) := by decide +kernel
theorem d12_94 : decode prog_25_method_7_code 94 = .ok (.getfield 30, 3) := by decide +kernel
theorem d12_97 : decode prog_25_method_7_code 97 = .ok (.iload 4, 2) := by decide +kernel
theorem d12_99 : decode prog_25_method_7_code 99 = .ok (.isub, 1) := by decide +kernel
theorem d12_100 : decode prog_25_method_7_code 100 = .ok (.iconst 1, 1) := by decide +kernel
theorem d12_101 : decode prog_25_method_7_code 101 = .ok (.isub, 1) := by decide +kernel
theorem d12_102 : decode prog_25_method_7_code 102 = .ok (.invokestatic 68, 3) := by decide +kernel
theorem d12_105 : decode prog_25_method_7_code 105 = .ok (.aload 5, 2) := by decide +kernel
theorem d12_107 : decode prog_25_method_7_code 107 = .ok (.getfield 60, 3) := by decide +kernel
theorem d12_110 : decode prog_25_method_7_code 110 = .ok (.iload 4, 2) := by decide +kernel
theorem d12_112 : decode prog_25_method_7_code 112 = .ok (.iconst 1, 1) := by decide +kernel
theorem d12_113 : decode prog_25_method_7_code 113 = .ok (.iadd, 1) := by decide +kernel
theorem d12_114 : decode prog_25_method_7_code 114 = .ok (.aload 5, 2) := by decide +kernel
theorem d12_116 : decode prog_25_method_7_code 116 = .ok (.getfield 60, 3) := by decide +kernel
theorem d12_119 : decode prog_25_method_7_code 119 = .ok (.iload 4, 2) := by decide +kernel
theorem d12_121 : decode prog_25_method_7_code 121 = .ok (.aload 5, 2) := by decide +kernel
theorem d12_123 : decode prog_25_method_7_code 123 = .ok (.getfield 30, 3) := by decide +kernel
theorem d12_126 : decode prog_25_method_7_code 126 = .ok (.iload 4, 2) := by decide +kernel
theorem d12_128 : decode prog_25_method_7_code 128 = .ok (.isub, 1) := by decide +kernel
theorem d12_129 : decode prog_25_method_7_code 129 = .ok (.iconst 1, 1) := by decide +kernel
theorem d12_130 : decode prog_25_method_7_code 130 = .ok (.isub, 1) := by decide +kernel
theorem d12_131 : decode prog_25_method_7_code 131 = .ok (.invokestatic 68, 3) := by decide +kernel
theorem d12_134 : decode prog_25_method_7_code 134 = .ok (.aload 5, 2) := by decide +kernel
theorem d12_136 : decode prog_25_method_7_code 136 = .ok (.dup, 1) := by decide +kernel
theorem d12_137 : decode prog_25_method_7_code 137 = .ok (.getfield 30, 3) := by decide +kernel
theorem d12_140 : decode prog_25_method_7_code 140 = .ok (.iconst 1, 1) := by decide +kernel
theorem d12_141 : decode prog_25_method_7_code 141 = .ok (.isub, 1) := by decide +kernel
theorem d12_142 : decode prog_25_method_7_code 142 = .ok (.putfield 30, 3) := by decide +kernel
theorem d12_145 : decode prog_25_method_7_code 145 = .ok (.aload 5, 2) := by decide +kernel
theorem d12_147 : decode prog_25_method_7_code 147 = .ok (.getfield 60, 3) := by decide +kernel
theorem d12_150 : decode prog_25_method_7_code 150 = .ok (.aload 5, 2) := by decide +kernel
theorem d12_152 : decode prog_25_method_7_code 152 = .ok (.getfield 30, 3) := by decide +kernel
theorem d12_155 : decode prog_25_method_7_code 155 = .ok (.aconst_null, 1) := by decide +kernel
theorem d12_156 : decode prog_25_method_7_code 156 = .ok (.aastore, 1) := by decide +kernel
theorem d12_157 : decode prog_25_method_7_code 157 = .ok (.aload_n 0, 1) := by decide +kernel
theorem d12_158 : decode prog_25_method_7_code 158 = .ok (.dup, 1) := by decide +kernel
theorem d12_159 : decode prog_25_method_7_code 159 = .ok (.getfield 74, 3) := by decide +kernel
theorem d12_162 : decode prog_25_method_7_code 162 = .ok (.iconst 1, 1) := by decide +kernel
theorem d12_163 : decode prog_25_method_7_code 163 = .ok (.isub, 1) := by decide +kernel
theorem d12_164 : decode prog_25_method_7_code 164 = .ok (.putfield 74, 3) := by decide +kernel
theorem d12_167 : decode prog_25_method_7_code 167 = .ok (.aload 5, 2) := by decide +kernel
theorem d12_169 : decode prog_25_method_7_code 169 = .ok (.getfield 30, 3) := by decide +kernel
theorem d12_172 : decode prog_25_method_7_code 172 = .ok (.ifCond .ne 11, 3) := by decide +kernel
theorem d12_175 : decode prog_25_method_7_code 175 = .ok (.aload_n 0, 1) := by decide +kernel
theorem d12_176 : decode prog_25_method_7_code 176 = .ok (.iload_n 3, 1) := by decide +kernel
theorem d12_177 : decode prog_25_method_7_code 177 = .ok (.invokevirtual 75, 3) := by decide +kernel
theorem d12_180 : decode prog_25_method_7_code 180 = .ok (.goto 72, 3) := by decide +kernel
theorem d12_252 : decode prog_25_method_7_code 252 = .ok (.return_, 1) := by decide +kernel
theorem ef_12_1 (m : MethodId) (x0 : Addr) (x1 : Int64) : entryFrame m #[(.ref x0), (.long x1)] 6 = mkF m 0 #[.val (.ref x0), .val (.long x1), .second, .unset, .unset, .unset] [] := by first | (simp [entryFrame, mkF, argsToLocals, Value.category]; done) | rfl
def Q12_1 (Z : State) (r0 : Addr) (q1 : Int64) (y : Addr) (S : Int64 → Prop) (f : Addr) (sh : Addr) (ob : Addr) (ka : Addr) (va : Addr) (kf : ClassId) (ksh : ClassId) (kka : ClassId) (kva : ClassId) (sz : Int32) (z : Int64) (a : Int64) (b : Int64) (h0 : Heap) (n0 : Nat) (v : Option Value) (h : Heap) (L : List Loc) : Prop := own_RQ Z r0 q1 y S h0 n0 v h L
set_option maxRecDepth 65536 in
set_option maxHeartbeats 40000000 in
theorem rm12_1 (l : Launch) (Z : State) (a0 : Array Value) (hw : ∀ d ∈ tables_1, d.before a0 Z = true) (ws : List Jvm.Cond) (r0 : Addr) (q1 : Int64) (y : Addr) (S : Int64 → Prop) (f : Addr) (sh : Addr) (ob : Addr) (ka : Addr) (va : Addr) (kf : ClassId) (ksh : ClassId) (kka : ClassId) (kva : ClassId) (sz : Int32) (z : Int64) (a : Int64) (b : Int64) (h0 : Heap) (n0 : Nat) (Z0 : n0 ≤ h0.size) (E0 : Exa Z h0 r0 "com/example/thin_feed/thinfeed/store/LongFloorMap") (Ff : Fld Z h0 r0 "com/example/thin_feed/thinfeed/store/LongFloorMap" "firsts" "[J" (.ref f)) (Fsh : Fld Z h0 r0 "com/example/thin_feed/thinfeed/store/LongFloorMap" "shelves" "[Lcom/example/thin_feed/thinfeed/store/LongFloorMap$Shelf;" (.ref sh)) (Fc : Fld Z h0 r0 "com/example/thin_feed/thinfeed/store/LongFloorMap" "shelfCount" "I" (.int 1)) (Fz : Fld Z h0 r0 "com/example/thin_feed/thinfeed/store/LongFloorMap" "size" "I" (.int sz)) (Vf : Arv Z h0 f kf .long 1 [.long a] (.long (0 : Int64))) (Vs : Arv Z h0 sh ksh (.object "com/example/thin_feed/thinfeed/store/LongFloorMap$Shelf") 1 [.ref ob] .null) (Os : Ovr Z ksh "com/example/thin_feed/thinfeed/store/LongFloorMap$Shelf") (Eo : Exa Z h0 ob "com/example/thin_feed/thinfeed/store/LongFloorMap$Shelf") (Fk : Fld Z h0 ob "com/example/thin_feed/thinfeed/store/LongFloorMap$Shelf" "keys" "[J" (.ref ka)) (Fv : Fld Z h0 ob "com/example/thin_feed/thinfeed/store/LongFloorMap$Shelf" "values" "[Ljava/lang/Object;" (.ref va)) (Fn : Fld Z h0 ob "com/example/thin_feed/thinfeed/store/LongFloorMap$Shelf" "size" "I" (.int 1)) (Vk : Arv Z h0 ka kka .long 256 [.long a, .long b, .long z] (.long (0 : Int64))) (Vv : Arv Z h0 va kva (.object "java/lang/Object") 256 [.ref y, .null, .null] .null) (Ov : Ovr Z kva "java/lang/Object") (Ey : Exa Z h0 y "java/lang/Integer") (g_r0 : n0 ≤ r0) (g_f : n0 ≤ f) (g_sh : n0 ≤ sh) (g_ob : n0 ≤ ob) (g_ka : n0 ≤ ka) (g_va : n0 ≤ va) (ne_r0_f : r0 ≠ f) (ne_r0_sh : r0 ≠ sh) (ne_r0_ob : r0 ≠ ob) (ne_r0_ka : r0 ≠ ka) (ne_r0_va : r0 ≠ va) (ne_f_sh : f ≠ sh) (ne_f_ob : f ≠ ob) (ne_f_ka : f ≠ ka) (ne_f_va : f ≠ va) (ne_sh_ob : sh ≠ ob) (ne_sh_ka : sh ≠ ka) (ne_sh_va : sh ≠ va) (ne_ob_ka : ob ≠ ka) (ne_ob_va : ob ≠ va) (ne_ka_va : ka ≠ va) (hS : ∀ x, S x ↔ x = a) :
    MetFree l (⟨"com/example/thin_feed/thinfeed/store/LongFloorMap", "remove", "(J)V"⟩ : MethodName) (head1 (Jvm.Cond.code (⟨"com/example/thin_feed/thinfeed/store/LongFloorMap", "remove", "(J)V"⟩ : MethodName) prog_25_method_7_code 6 none :: ws) ({ frames := 2, cells := 0, slots := 0, locals := 31 } : Room)) (fun a U => a = #[(.ref r0), (.long q1)] ∧ Z.Warmed39 U.vm ∧ U.heap = h0) (fun _ _ _ _ _ => True) (fun _ U o U' => ∃ v L, o = .returned v ∧ Q12_1 Z r0 q1 y S f sh ob ka va kf ksh kka kva sz z a b h0 n0 v U'.heap L ∧ FrameEnd U o U' L ({ frames := 2, cells := 0, slots := 0, locals := 31 } : Room).cells ({ frames := 2, cells := 0, slots := 0, locals := 31 } : Room).slots) := by
  refine MetFree.of_bodySF (plainFor_of_name pn_12) hisR ?_
  intro p e s m args below meth c s₁ Bd hml0 hP hK
  obtain ⟨rfl, hZ, hh⟩ := hP
  have hx := Bd.exec
  have hby := Bd.bytes
  have hml : c.maxLocals = 6 := hml0
  have hown : s.vm.findClass "com/example/thin_feed/thinfeed/store/LongFloorMap" = some m.cls := findClass_of_methodNamed Bd.named
  have hnm := (name_of_methodNamed Bd.named Bd.method).1
  have hlk : meth.locks = false := by first | exact BodyLoose.notSynchronized Bd | exact Body.notSynchronized Bd
  have X0 : Stand p l e ({ frames := 2, cells := 0, slots := 0, locals := 31 } : Room) s m #[(.ref r0), (.long q1)] below meth c s₁ [] 0 0 := Stand.of_body Bd
  have e0 : s₁.heap = h0 := by rw [← hh, Bd.state]; rfl
  have N0 := Fr.nil n0
  have k0 : own_R p e below (s₁.setTop (entryFrame m #[(.ref r0), (.long q1)] 6)) (s₁.setTop (mkF m 0 #[vR r0, vJ q1, .second, .unset, .unset, .unset] [])) := fun t k => castTop (ef_12_1 m r0 q1) k
  obtain ⟨A0, hA0⟩ : ∃ z, z = s₁.setTop (entryFrame m #[(.ref r0), (.long q1)] 6) := ⟨_, rfl⟩
  rw [← hA0] at k0
  have kz : ∀ t, Steps p.tables e below A0 t → Steps p.tables e below (s₁.setTop (entryFrame m #[(.ref r0), (.long q1)] 6)) t := fun t q => hA0 ▸ q
  have ks1 : own_R p e below (A0) (s₁.setTop (mkF m 1 #[vR r0, vJ q1, .second, .unset, .unset, .unset] [(.ref r0)])) := fun t k => k0 t (by
    refine XS.aloadN X0.here hx rfl (hb hby d12_0) rfl rfl ?_
    exact k)
  obtain ⟨T2, X2, e2, st2⟩ := getF X0 hx hZ hown (host := "") (Or.inl (own_w hw 10 rfl)) Via.refl e0 Ff (g := (mkF m 1 #[vR r0, vJ q1, .second, .unset, .unset, .unset] [(.ref r0)])) rfl rfl (hb hby d12_1)
  have ks3 := own_c ks1 st2
  have ks4 : own_R p e below (A0) (T2.setTop (mkF m 5 #[vR r0, vJ q1, .second, .unset, .unset, .unset] [(.ref r0), (.ref f)])) := fun t k => ks3 t (by
    refine XS.aloadN X2.here hx rfl (hb hby d12_4) rfl rfl ?_
    exact k)
  obtain ⟨T5, X5, e5, st5⟩ := getF X2 hx hZ hown (host := "") (Or.inl (own_w hw 36 rfl)) Via.refl e2 Fc (g := (mkF m 5 #[vR r0, vJ q1, .second, .unset, .unset, .unset] [(.ref r0), (.ref f)])) rfl rfl (hb hby d12_5)
  have ks6 := own_c ks4 st5
  have ks7 : own_R p e below (A0) (T5.setTop (mkF m 9 #[vR r0, vJ q1, .second, .unset, .unset, .unset] [(.long q1), (.int 1), (.ref f)])) := fun t k => ks6 t (by
    refine XS.lloadN X5.here hx rfl (hb hby d12_8) rfl ?_
    exact k)
  obtain ⟨_, _, ⟨T8, L8, k8, n8⟩, -, X8, ⟨Lc8, hQ8, lq8, yq8, zq8⟩, st8⟩ := Jvm.LawKit.callS X5 hx (y := (⟨"com/example/thin_feed/thinfeed/store/LongFloorMap", "floorIndex", "([JIJ)I"⟩ : MethodName)) hown (mvT hZ (own_w hw 71 rfl)) (mvT hZ (own_w hw 72 rfl)) (mvT hZ (own_w hw 2 rfl)) (mvT hZ (own_w hw 73 rfl)) (by decide) (backOf (W := 0) (rm10_1 l Z a0 hw [] f q1 _ (1 : Int32) _ a h0 n0 Z0 Vf ⟨by decide, by decide⟩ rfl) hZ (own_w hw 73 rfl) (own_w hw 2 rfl) (by decide) (by decide)) (g := (mkF m 9 #[vR r0, vJ q1, .second, .unset, .unset, .unset] [(.long q1), (.int 1), (.ref f)])) rfl (by rw [hml]; rfl) (argsL := [(.ref f), (.int 1), (.long q1)]) (rest := []) (lenOf pd_8 rfl) rfl (by show 2 * 0 + _ ≤ _; exact Nat.le_of_eq rfl) (hb hby d12_9) (fun _ _ => ⟨rfl, e5, (by decide : 0 + 0 ≤ _), (by decide : 0 + 0 ≤ _)⟩)
  dsimp only [Pt.U, Pt.locs, Pt.cells, Pt.slots] at X8 lq8 yq8 zq8 st8 hQ8
  subst lq8 yq8 zq8
  obtain ⟨rfl, Nq8, eq8⟩ := hQ8
  have N8 := Fr.app N0 Nq8
  have ks9 := own_c ks7 st8
  have ks10 : own_R p e below (A0) (T8.setTop (mkF m 12 #[vR r0, vJ q1, .second, .unset, .unset, .unset] [(.int (own_fi1 a q1))])) := ks9
  by_cases hc11 : q1 < a
  · skip
    rw [own_fi1, if_pos hc11] at ks10
    have ks12 : own_R p e below (A0) (T8.setTop (mkF m 67 #[vR r0, vJ q1, .second, vI (-1), vI (-1), .unset] [])) := fun t k => ks10 t (by
      refine XS.istoreN X8.here hx rfl (hb hby d12_12) rfl (l' := #[vR r0, vJ q1, .second, vI (-1), .unset, .unset]) rfl ?_
      refine XS.iloadN X8.here hx rfl (hb hby d12_13) rfl ?_
      refine XS.ifNo X8.here hx rfl (hb hby d12_14) rfl ((if0 _ _).trans (tlt (by decide)).2.1) ?_
      show Steps p.tables e below (T8.setTop (mkF m 17 #[vR r0, vJ q1, .second, vI (-1), .unset, .unset] [])) _
      refine XS.iconst X8.here hx rfl (hb hby d12_17) ?_
      refine XS.goto X8.here hx rfl (pc0 := 18) (pc' := 43) rfl (hb hby d12_18) (by decide) (by decide) ?_
      refine XS.istore X8.here hx rfl (hb hby d12_43) rfl (l' := #[vR r0, vJ q1, .second, vI (-1), vI (-1), .unset]) rfl ?_
      refine XS.iload X8.here hx rfl (hb hby d12_45) rfl ?_
      show Steps p.tables e below (T8.setTop (mkF m 47 #[vR r0, vJ q1, .second, vI (-1), vI (-1), .unset] [(.int (-1))])) _
      refine XS.ifYes X8.here hx rfl (pc0 := 47) (pc' := 67) rfl (hb hby d12_47) rfl ((if0 _ _).trans (tlt (by decide)).1) (by decide) (by decide) ?_
      exact k)
    obtain ⟨fs, hr, hrun, hended, hW, hsame⟩ := X8.leave (v := none) (fun _ => rfl) hlk
    refine ⟨_, _, kz _ (ks12 _ ?_), hrun, hended, _, _, rfl, ?_, ⟨_, rfl⟩, hW, hsame.mono (by decide) (by decide)⟩
    · exact X8.returnOut hx Bd.returns (hb hby d12_67) hr
    · show Q12_1 Z r0 q1 y S f sh ob ka va kf ksh kka kva sz z a b h0 n0 _ T8.heap _
      rw [eq8]
      exact ⟨rfl, N8, Z0, (fun _ _ q => q.keep (Keep.refl _ [])), Or.inr (Or.inl ⟨_, _, ⟨f, sh, ob, ka, va, _, _, _, _, _, _, E0, Ff, Fsh, Fc, Fz, Vf, Vs, Os, Eo, Fk, Fv, Fn, Vk, Vv, Ov, Ey, g_r0, g_f, g_sh, g_ob, g_ka, g_va, ne_r0_f, ne_r0_sh, ne_r0_ob, ne_r0_ka, ne_r0_va, ne_f_sh, ne_f_ob, ne_f_ka, ne_f_va, ne_sh_ob, ne_sh_ka, ne_sh_va, ne_ob_ka, ne_ob_va, ne_ka_va⟩, own_r1 hS (own_ltne hc11)⟩)⟩
  · skip
    rw [own_fi1, if_neg hc11] at ks10
    have ks13 : own_R p e below (A0) (T8.setTop (mkF m 22 #[vR r0, vJ q1, .second, vI 0, .unset, .unset] [(.ref r0)])) := fun t k => ks10 t (by
      refine XS.istoreN X8.here hx rfl (hb hby d12_12) rfl (l' := #[vR r0, vJ q1, .second, vI 0, .unset, .unset]) rfl ?_
      refine XS.iloadN X8.here hx rfl (hb hby d12_13) rfl ?_
      refine XS.ifYes X8.here hx rfl (pc0 := 14) (pc' := 21) rfl (hb hby d12_14) rfl ((if0 _ _).trans (flt (by decide)).2.1) (by decide) (by decide) ?_
      show Steps p.tables e below (T8.setTop (mkF m 21 #[vR r0, vJ q1, .second, vI 0, .unset, .unset] [])) _
      refine XS.aloadN X8.here hx rfl (hb hby d12_21) rfl rfl ?_
      exact k)
    obtain ⟨T14, X14, e14, st14⟩ := getF X8 hx hZ hown (host := "") (Or.inl (own_w hw 14 rfl)) Via.refl eq8 Fsh (g := (mkF m 22 #[vR r0, vJ q1, .second, vI 0, .unset, .unset] [(.ref r0)])) rfl rfl (hb hby d12_22)
    have ks15 := own_c ks13 st14
    have ks16 : own_R p e below (A0) (T14.setTop (mkF m 26 #[vR r0, vJ q1, .second, vI 0, .unset, .unset] [(.int 0), (.ref sh)])) := fun t k => ks15 t (by
      refine XS.iloadN X14.here hx rfl (hb hby d12_25) rfl ?_
      exact k)
    obtain ⟨cl17, Ar17, qa17, S17, Na17, Ha17, Ga17⟩ := id Vs
    have ks18 : own_R p e below (A0) (T14.setTop (mkF m 27 #[vR r0, vJ q1, .second, vI 0, .unset, .unset] [(.ref ob)])) := fun t k => ks16 t (by
      refine X14.aaload hx (j := (0 : Int32)) (v := (.ref ob)) (by rw [e14]; exact Ar17.1) (State.isArrayOf_alike hZ.alike Ar17.2.1) rfl Ar17.2.2 (inb_of S17 ⟨by decide, by decide⟩) (Has.at Ha17 (inb_of S17 ⟨by decide, by decide⟩) rfl) (g := (mkF m 26 #[vR r0, vJ q1, .second, vI 0, .unset, .unset] [(.int 0), (.ref sh)])) rfl rfl (hb hby d12_26) _ ?_
      exact k)
    obtain ⟨T19, X19, e19, st19⟩ := own_getFR X14 hx hZ hown (own_w hw 69 rfl) e14 Fk (g := (mkF m 27 #[vR r0, vJ q1, .second, vI 0, .unset, .unset] [(.ref ob)])) rfl rfl (hb hby d12_27)
    have ks20 := own_c ks18 st19
    have ks21 : own_R p e below (A0) (T19.setTop (mkF m 31 #[vR r0, vJ q1, .second, vI 0, .unset, .unset] [(.ref r0), (.ref ka)])) := fun t k => ks20 t (by
      refine XS.aloadN X19.here hx rfl (hb hby d12_30) rfl rfl ?_
      exact k)
    obtain ⟨T22, X22, e22, st22⟩ := getF X19 hx hZ hown (host := "") (Or.inl (own_w hw 14 rfl)) Via.refl e19 Fsh (g := (mkF m 31 #[vR r0, vJ q1, .second, vI 0, .unset, .unset] [(.ref r0), (.ref ka)])) rfl rfl (hb hby d12_31)
    have ks23 := own_c ks21 st22
    have ks24 : own_R p e below (A0) (T22.setTop (mkF m 36 #[vR r0, vJ q1, .second, vI 0, .unset, .unset] [(.ref ob), (.ref ka)])) := fun t k => ks23 t (by
      refine XS.iloadN X22.here hx rfl (hb hby d12_34) rfl ?_
      refine X22.aaload hx (j := (0 : Int32)) (v := (.ref ob)) (by rw [e22]; exact Ar17.1) (State.isArrayOf_alike hZ.alike Ar17.2.1) rfl Ar17.2.2 (inb_of S17 ⟨by decide, by decide⟩) (Has.at Ha17 (inb_of S17 ⟨by decide, by decide⟩) rfl) (g := (mkF m 35 #[vR r0, vJ q1, .second, vI 0, .unset, .unset] [(.int 0), (.ref sh), (.ref ka)])) rfl rfl (hb hby d12_35) _ ?_
      exact k)
    obtain ⟨T25, X25, e25, st25⟩ := own_getFR X22 hx hZ hown (own_w hw 78 rfl) e22 Fn (g := (mkF m 36 #[vR r0, vJ q1, .second, vI 0, .unset, .unset] [(.ref ob), (.ref ka)])) rfl rfl (hb hby d12_36)
    have ks26 := own_c ks24 st25
    have ks27 : own_R p e below (A0) (T25.setTop (mkF m 40 #[vR r0, vJ q1, .second, vI 0, .unset, .unset] [(.long q1), (.int 1), (.ref ka)])) := fun t k => ks26 t (by
      refine XS.lloadN X25.here hx rfl (hb hby d12_39) rfl ?_
      exact k)
    obtain ⟨_, _, ⟨T28, L28, k28, n28⟩, -, X28, ⟨Lc28, hQ28, lq28, yq28, zq28⟩, st28⟩ := Jvm.LawKit.callS X25 hx (y := (⟨"com/example/thin_feed/thinfeed/store/LongFloorMap", "floorIndex", "([JIJ)I"⟩ : MethodName)) hown (mvT hZ (own_w hw 71 rfl)) (mvT hZ (own_w hw 72 rfl)) (mvT hZ (own_w hw 2 rfl)) (mvT hZ (own_w hw 73 rfl)) (by decide) (backOf (W := 0) (rm10_1 l Z a0 hw [] ka q1 _ (256 : Int32) _ a h0 n0 Z0 Vk ⟨by decide, by decide⟩ rfl) hZ (own_w hw 73 rfl) (own_w hw 2 rfl) (by decide) (by decide)) (g := (mkF m 40 #[vR r0, vJ q1, .second, vI 0, .unset, .unset] [(.long q1), (.int 1), (.ref ka)])) rfl (by rw [hml]; rfl) (argsL := [(.ref ka), (.int 1), (.long q1)]) (rest := []) (lenOf pd_8 rfl) rfl (by show 2 * 0 + _ ≤ _; exact Nat.le_of_eq rfl) (hb hby d12_40) (fun _ _ => ⟨rfl, e25, (by decide : 0 + 0 ≤ _), (by decide : 0 + 0 ≤ _)⟩)
    dsimp only [Pt.U, Pt.locs, Pt.cells, Pt.slots] at X28 lq28 yq28 zq28 st28 hQ28
    subst lq28 yq28 zq28
    obtain ⟨rfl, Nq28, eq28⟩ := hQ28
    have N28 := Fr.app N8 Nq28
    have ks29 := own_c ks27 st28
    have ks30 : own_R p e below (A0) (T28.setTop (mkF m 43 #[vR r0, vJ q1, .second, vI 0, .unset, .unset] [(.int (own_fi1 a q1))])) := ks29
    rw [own_fi1, if_neg hc11] at ks30
    have ks31 : own_R p e below (A0) (T28.setTop (mkF m 51 #[vR r0, vJ q1, .second, vI 0, vI 0, .unset] [(.ref r0)])) := fun t k => ks30 t (by
      refine XS.istore X28.here hx rfl (hb hby d12_43) rfl (l' := #[vR r0, vJ q1, .second, vI 0, vI 0, .unset]) rfl ?_
      refine XS.iload X28.here hx rfl (hb hby d12_45) rfl ?_
      refine XS.ifNo X28.here hx rfl (hb hby d12_47) rfl ((if0 _ _).trans (flt (by decide)).1) ?_
      show Steps p.tables e below (T28.setTop (mkF m 50 #[vR r0, vJ q1, .second, vI 0, vI 0, .unset] [])) _
      refine XS.aloadN X28.here hx rfl (hb hby d12_50) rfl rfl ?_
      exact k)
    obtain ⟨T32, X32, e32, st32⟩ := getF X28 hx hZ hown (host := "") (Or.inl (own_w hw 14 rfl)) Via.refl eq28 Fsh (g := (mkF m 51 #[vR r0, vJ q1, .second, vI 0, vI 0, .unset] [(.ref r0)])) rfl rfl (hb hby d12_51)
    have ks33 := own_c ks31 st32
    have ks34 : own_R p e below (A0) (T32.setTop (mkF m 56 #[vR r0, vJ q1, .second, vI 0, vI 0, .unset] [(.ref ob)])) := fun t k => ks33 t (by
      refine XS.iloadN X32.here hx rfl (hb hby d12_54) rfl ?_
      refine X32.aaload hx (j := (0 : Int32)) (v := (.ref ob)) (by rw [e32]; exact Ar17.1) (State.isArrayOf_alike hZ.alike Ar17.2.1) rfl Ar17.2.2 (inb_of S17 ⟨by decide, by decide⟩) (Has.at Ha17 (inb_of S17 ⟨by decide, by decide⟩) rfl) (g := (mkF m 55 #[vR r0, vJ q1, .second, vI 0, vI 0, .unset] [(.int 0), (.ref sh)])) rfl rfl (hb hby d12_55) _ ?_
      exact k)
    obtain ⟨T35, X35, e35, st35⟩ := own_getFR X32 hx hZ hown (own_w hw 69 rfl) e32 Fk (g := (mkF m 56 #[vR r0, vJ q1, .second, vI 0, vI 0, .unset] [(.ref ob)])) rfl rfl (hb hby d12_56)
    have ks36 := own_c ks34 st35
    have ks37 : own_R p e below (A0) (T35.setTop (mkF m 61 #[vR r0, vJ q1, .second, vI 0, vI 0, .unset] [(.int 0), (.ref ka)])) := fun t k => ks36 t (by
      refine XS.iload X35.here hx rfl (hb hby d12_59) rfl ?_
      exact k)
    obtain ⟨cl38, Ar38, qa38, S38, Na38, Ha38, Ga38⟩ := id Vk
    have ks39 : own_R p e below (A0) (T35.setTop (mkF m 64 #[vR r0, vJ q1, .second, vI 0, vI 0, .unset] [(.int (lcmpW a q1))])) := fun t k => ks37 t (by
      refine X35.laload hx (j := (0 : Int32)) (v := (.long a)) (by rw [e35]; exact Ar38.1) (State.isArrayOf_alike hZ.alike Ar38.2.1) Ar38.2.2 (inb_of S38 ⟨by decide, by decide⟩) (Has.at Ha38 (inb_of S38 ⟨by decide, by decide⟩) rfl) (g := (mkF m 61 #[vR r0, vJ q1, .second, vI 0, vI 0, .unset] [(.int 0), (.ref ka)])) rfl rfl (hb hby d12_61) _ ?_
      refine XS.lloadN X35.here hx rfl (hb hby d12_62) rfl ?_
      refine XS.lcmp X35.here hx rfl (hb hby d12_63) rfl ?_
      exact k)
    by_cases hc40 : a = q1
    · skip
      have ks41 : own_R p e below (A0) (T35.setTop (mkF m 69 #[vR r0, vJ q1, .second, vI 0, vI 0, .unset] [(.ref r0)])) := fun t k => ks39 t (by
        refine XS.ifYes X35.here hx rfl (pc0 := 64) (pc' := 68) rfl (hb hby d12_64) rfl ((if0 _ _).trans (teq ((lw_eq _ _).mpr hc40)).1) (by decide) (by decide) ?_
        refine XS.aloadN X35.here hx rfl (hb hby d12_68) rfl rfl ?_
        exact k)
      obtain ⟨T42, X42, e42, st42⟩ := getF X35 hx hZ hown (host := "") (Or.inl (own_w hw 14 rfl)) Via.refl e35 Fsh (g := (mkF m 69 #[vR r0, vJ q1, .second, vI 0, vI 0, .unset] [(.ref r0)])) rfl rfl (hb hby d12_69)
      have ks43 := own_c ks41 st42
      have ks44 : own_R p e below (A0) (T42.setTop (mkF m 78 #[vR r0, vJ q1, .second, vI 0, vI 0, vR ob] [(.ref ob)])) := fun t k => ks43 t (by
        refine XS.iloadN X42.here hx rfl (hb hby d12_72) rfl ?_
        refine X42.aaload hx (j := (0 : Int32)) (v := (.ref ob)) (by rw [e42]; exact Ar17.1) (State.isArrayOf_alike hZ.alike Ar17.2.1) rfl Ar17.2.2 (inb_of S17 ⟨by decide, by decide⟩) (Has.at Ha17 (inb_of S17 ⟨by decide, by decide⟩) rfl) (g := (mkF m 73 #[vR r0, vJ q1, .second, vI 0, vI 0, .unset] [(.int 0), (.ref sh)])) rfl rfl (hb hby d12_73) _ ?_
        refine XS.astore X42.here hx rfl (hb hby d12_74) rfl rfl (l' := #[vR r0, vJ q1, .second, vI 0, vI 0, vR ob]) rfl ?_
        show Steps p.tables e below (T42.setTop (mkF m 76 #[vR r0, vJ q1, .second, vI 0, vI 0, vR ob] [])) _
        refine XS.aload X42.here hx rfl (hb hby d12_76) rfl rfl ?_
        exact k)
      obtain ⟨T45, X45, e45, st45⟩ := own_getFR X42 hx hZ hown (own_w hw 69 rfl) e42 Fk (g := (mkF m 78 #[vR r0, vJ q1, .second, vI 0, vI 0, vR ob] [(.ref ob)])) rfl rfl (hb hby d12_78)
      have ks46 := own_c ks44 st45
      have ks47 : own_R p e below (A0) (T45.setTop (mkF m 87 #[vR r0, vJ q1, .second, vI 0, vI 0, vR ob] [(.ref ob), (.int 1), (.ref ka)])) := fun t k => ks46 t (by
        refine XS.iload X45.here hx rfl (hb hby d12_81) rfl ?_
        refine XS.iconst X45.here hx rfl (hb hby d12_83) ?_
        refine XS.iadd X45.here hx rfl (hb hby d12_84) rfl ?_
        show Steps p.tables e below (T45.setTop (mkF m 85 #[vR r0, vJ q1, .second, vI 0, vI 0, vR ob] [(.int 1), (.ref ka)])) _
        refine XS.aload X45.here hx rfl (hb hby d12_85) rfl rfl ?_
        exact k)
      obtain ⟨T48, X48, e48, st48⟩ := own_getFR X45 hx hZ hown (own_w hw 69 rfl) e45 Fk (g := (mkF m 87 #[vR r0, vJ q1, .second, vI 0, vI 0, vR ob] [(.ref ob), (.int 1), (.ref ka)])) rfl rfl (hb hby d12_87)
      have ks49 := own_c ks47 st48
      have ks50 : own_R p e below (A0) (T48.setTop (mkF m 94 #[vR r0, vJ q1, .second, vI 0, vI 0, vR ob] [(.ref ob), (.int 0), (.ref ka), (.int 1), (.ref ka)])) := fun t k => ks49 t (by
        refine XS.iload X48.here hx rfl (hb hby d12_90) rfl ?_
        refine XS.aload X48.here hx rfl (hb hby d12_92) rfl rfl ?_
        exact k)
      obtain ⟨T51, X51, e51, st51⟩ := own_getFR X48 hx hZ hown (own_w hw 78 rfl) e48 Fn (g := (mkF m 94 #[vR r0, vJ q1, .second, vI 0, vI 0, vR ob] [(.ref ob), (.int 0), (.ref ka), (.int 1), (.ref ka)])) rfl rfl (hb hby d12_94)
      have ks52 := own_c ks50 st51
      have ks53 : own_R p e below (A0) (T51.setTop (mkF m 102 #[vR r0, vJ q1, .second, vI 0, vI 0, vR ob] [(.int 0), (.int 0), (.ref ka), (.int 1), (.ref ka)])) := fun t k => ks52 t (by
        refine XS.iload X51.here hx rfl (hb hby d12_97) rfl ?_
        refine XS.isub X51.here hx rfl (hb hby d12_99) rfl ?_
        refine XS.iconst X51.here hx rfl (hb hby d12_100) ?_
        show Steps p.tables e below (T51.setTop (mkF m 101 #[vR r0, vJ q1, .second, vI 0, vI 0, vR ob] [(.int 1), (.int 1), (.int 0), (.ref ka), (.int 1), (.ref ka)])) _
        refine XS.isub X51.here hx rfl (hb hby d12_101) rfl ?_
        exact k)
      obtain ⟨T54, h54, L54, X54, e54, N54, Kq54, Vr54, st54⟩ := cpA X51 hx hZ hown (own_w hw 65 rfl) (own_w hw 68 rfl) (own_w hw 66 rfl) (own_w hw 67 rfl) e51 Vk Vk (sp := (1 : Int32)) (dp := (0 : Int32)) (nn := (0 : Int32)) (us := []) (Or.inl ⟨rfl, rfl⟩) (by decide) (by decide) (by decide) (by decide) (by decide) rfl (Nat.le_of_ble_eq_true rfl) N28 g_ka (g := (mkF m 102 #[vR r0, vJ q1, .second, vI 0, vI 0, vR ob] [(.int 0), (.int 0), (.ref ka), (.int 1), (.ref ka)])) rfl (by rw [hml]; rfl) (rest := []) rfl (hb hby d12_102) (by decide) (W := 0) (by show 2 * 0 + _ ≤ _; exact Nat.le_of_eq rfl) (by decide)
      have V54 : Arv Z h54 ka kka .long (256 : Int32) [(.long a), (.long b), (.long z)] (.long (0 : Int64)) := Vr54
      have KH54 : Keep h0 h54 [r0, f, sh, ob, ka, va] := (Keep.refl h0 [r0, f, sh, ob, ka, va]).trans Kq54 (allS (Or.inl (List.mem_of_getElem? (i := 4) rfl)) all0)
      have Zn54 : n0 ≤ h54.size := Nat.le_trans Z0 Kq54.1
      have ks55 := own_c ks53 st54
      have ks56 : own_R p e below (A0) (T54.setTop (mkF m 107 #[vR r0, vJ q1, .second, vI 0, vI 0, vR ob] [(.ref ob)])) := fun t k => ks55 t (by
        refine XS.aload X54.here hx rfl (hb hby d12_105) rfl rfl ?_
        exact k)
      have f57 := (Fv.keep Kq54 (ninS ne_ob_ka nin0))
      obtain ⟨T58, X58, e58, st58⟩ := own_getFR X54 hx hZ hown (own_w hw 80 rfl) e54 f57 (g := (mkF m 107 #[vR r0, vJ q1, .second, vI 0, vI 0, vR ob] [(.ref ob)])) rfl rfl (hb hby d12_107)
      have ks59 := own_c ks56 st58
      have ks60 : own_R p e below (A0) (T58.setTop (mkF m 116 #[vR r0, vJ q1, .second, vI 0, vI 0, vR ob] [(.ref ob), (.int 1), (.ref va)])) := fun t k => ks59 t (by
        refine XS.iload X58.here hx rfl (hb hby d12_110) rfl ?_
        refine XS.iconst X58.here hx rfl (hb hby d12_112) ?_
        refine XS.iadd X58.here hx rfl (hb hby d12_113) rfl ?_
        show Steps p.tables e below (T58.setTop (mkF m 114 #[vR r0, vJ q1, .second, vI 0, vI 0, vR ob] [(.int 1), (.ref va)])) _
        refine XS.aload X58.here hx rfl (hb hby d12_114) rfl rfl ?_
        exact k)
      obtain ⟨T61, X61, e61, st61⟩ := own_getFR X58 hx hZ hown (own_w hw 80 rfl) e58 f57 (g := (mkF m 116 #[vR r0, vJ q1, .second, vI 0, vI 0, vR ob] [(.ref ob), (.int 1), (.ref va)])) rfl rfl (hb hby d12_116)
      have ks62 := own_c ks60 st61
      have ks63 : own_R p e below (A0) (T61.setTop (mkF m 123 #[vR r0, vJ q1, .second, vI 0, vI 0, vR ob] [(.ref ob), (.int 0), (.ref va), (.int 1), (.ref va)])) := fun t k => ks62 t (by
        refine XS.iload X61.here hx rfl (hb hby d12_119) rfl ?_
        refine XS.aload X61.here hx rfl (hb hby d12_121) rfl rfl ?_
        exact k)
      have f64 := (Fn.keep Kq54 (ninS ne_ob_ka nin0))
      obtain ⟨T65, X65, e65, st65⟩ := own_getFR X61 hx hZ hown (own_w hw 78 rfl) e61 f64 (g := (mkF m 123 #[vR r0, vJ q1, .second, vI 0, vI 0, vR ob] [(.ref ob), (.int 0), (.ref va), (.int 1), (.ref va)])) rfl rfl (hb hby d12_123)
      have ks66 := own_c ks63 st65
      have ks67 : own_R p e below (A0) (T65.setTop (mkF m 131 #[vR r0, vJ q1, .second, vI 0, vI 0, vR ob] [(.int 0), (.int 0), (.ref va), (.int 1), (.ref va)])) := fun t k => ks66 t (by
        refine XS.iload X65.here hx rfl (hb hby d12_126) rfl ?_
        refine XS.isub X65.here hx rfl (hb hby d12_128) rfl ?_
        refine XS.iconst X65.here hx rfl (hb hby d12_129) ?_
        show Steps p.tables e below (T65.setTop (mkF m 130 #[vR r0, vJ q1, .second, vI 0, vI 0, vR ob] [(.int 1), (.int 1), (.int 0), (.ref va), (.int 1), (.ref va)])) _
        refine XS.isub X65.here hx rfl (hb hby d12_130) rfl ?_
        exact k)
      have f68 := (Vv.keep Kq54 (ninS (Ne.symm ne_ka_va) nin0))
      obtain ⟨T69, h69, L69, X69, e69, N69, Kq69, Vr69, st69⟩ := cpA X65 hx hZ hown (own_w hw 65 rfl) (own_w hw 68 rfl) (own_w hw 66 rfl) (own_w hw 67 rfl) e65 f68 f68 (sp := (1 : Int32)) (dp := (0 : Int32)) (nn := (0 : Int32)) (us := []) (Or.inr ⟨rfl, rfl, trivial⟩) (by decide) (by decide) (by decide) (by decide) (by decide) rfl (Nat.le_of_ble_eq_true rfl) N54 g_va (g := (mkF m 131 #[vR r0, vJ q1, .second, vI 0, vI 0, vR ob] [(.int 0), (.int 0), (.ref va), (.int 1), (.ref va)])) rfl (by rw [hml]; rfl) (rest := []) rfl (hb hby d12_131) (by decide) (W := 0) (by show 2 * 0 + _ ≤ _; exact Nat.le_of_eq rfl) (by decide)
      have V69 : Arv Z h69 va kva (.object "java/lang/Object") (256 : Int32) [(.ref y), .null, .null] .null := Vr69
      have KH69 : Keep h0 h69 [r0, f, sh, ob, ka, va] := KH54.trans Kq69 (allS (Or.inl (List.mem_of_getElem? (i := 5) rfl)) all0)
      have Zn69 : n0 ≤ h69.size := Nat.le_trans Zn54 Kq69.1
      have ks70 := own_c ks67 st69
      have ks71 : own_R p e below (A0) (T69.setTop (mkF m 137 #[vR r0, vJ q1, .second, vI 0, vI 0, vR ob] [(.ref ob), (.ref ob)])) := fun t k => ks70 t (by
        refine XS.aload X69.here hx rfl (hb hby d12_134) rfl rfl ?_
        refine XS.dup X69.here hx rfl (hb hby d12_136) rfl rfl ?_
        exact k)
      have f72 := (f64.keep Kq69 (ninS ne_ob_va nin0))
      obtain ⟨T73, X73, e73, st73⟩ := own_getFR X69 hx hZ hown (own_w hw 78 rfl) e69 f72 (g := (mkF m 137 #[vR r0, vJ q1, .second, vI 0, vI 0, vR ob] [(.ref ob), (.ref ob)])) rfl rfl (hb hby d12_137)
      have ks74 := own_c ks71 st73
      have ks75 : own_R p e below (A0) (T73.setTop (mkF m 142 #[vR r0, vJ q1, .second, vI 0, vI 0, vR ob] [(.int 0), (.ref ob)])) := fun t k => ks74 t (by
        refine XS.iconst X73.here hx rfl (hb hby d12_140) ?_
        refine XS.isub X73.here hx rfl (hb hby d12_141) rfl ?_
        exact k)
      have f76 := Eo.keep KH69
      obtain ⟨T77, h77, X77, e77, W77, st77⟩ := own_putFR X73 hx hZ hown (own_w hw 78 rfl) e73 f72 f76 (own_w hw 79 rfl) (own_w hw 49 rfl) (ty := .int) (by decide) rfl rfl (g := (mkF m 142 #[vR r0, vJ q1, .second, vI 0, vI 0, vR ob] [(.int 0), (.ref ob)])) rfl rfl (hb hby d12_142)
      have Fw77 := f72.same W77
      have KH77 : Keep h0 h77 [r0, f, sh, ob, ka, va] := KH69.wr W77 (Or.inl (List.mem_of_getElem? (i := 3) rfl))
      have Zn77 : n0 ≤ h77.size := Nat.le_trans Zn69 (Keep.of_wr W77).1
      have N77 := Fr.snoc X77 N69 g_ob
      have ks78 := own_c ks75 st77
      have ks79 : own_R p e below (A0) (T77.setTop (mkF m 147 #[vR r0, vJ q1, .second, vI 0, vI 0, vR ob] [(.ref ob)])) := fun t k => ks78 t (by
        refine XS.aload X77.here hx rfl (hb hby d12_145) rfl rfl ?_
        exact k)
      have f80 := ((f57.keep Kq69 (ninS ne_ob_va nin0)).other W77 (Or.inr (slot_ne (Or.inr (own_w hw 60 rfl)) (Or.inl (own_w hw 79 rfl)) (by decide) (t := (.array (.object "java/lang/Object"))) (t' := .int) (by decide) (by decide))))
      obtain ⟨T81, X81, e81, st81⟩ := own_getFR X77 hx hZ hown (own_w hw 80 rfl) e77 f80 (g := (mkF m 147 #[vR r0, vJ q1, .second, vI 0, vI 0, vR ob] [(.ref ob)])) rfl rfl (hb hby d12_147)
      have ks82 := own_c ks79 st81
      have ks83 : own_R p e below (A0) (T81.setTop (mkF m 152 #[vR r0, vJ q1, .second, vI 0, vI 0, vR ob] [(.ref ob), (.ref va)])) := fun t k => ks82 t (by
        refine XS.aload X81.here hx rfl (hb hby d12_150) rfl rfl ?_
        exact k)
      obtain ⟨T84, X84, e84, st84⟩ := own_getFR X81 hx hZ hown (own_w hw 78 rfl) e81 Fw77 (g := (mkF m 152 #[vR r0, vJ q1, .second, vI 0, vI 0, vR ob] [(.ref ob), (.ref va)])) rfl rfl (hb hby d12_152)
      have ks85 := own_c ks83 st84
      have ks86 : own_R p e below (A0) (T84.setTop (mkF m 156 #[vR r0, vJ q1, .second, vI 0, vI 0, vR ob] [.null, (.int 0), (.ref va)])) := fun t k => ks85 t (by
        refine XS.aconstNull X84.here hx rfl (hb hby d12_155) ?_
        exact k)
      have f87 := (V69.other W77 (Ne.symm ne_ob_va))
      obtain ⟨cl88, Ar88, qa88, S88, Na88, Ha88, Ga88⟩ := id f87
      have hin88 : ¬ ((0 : Int32) < 0 ∨ cl88.slots.size ≤ ((0 : Int32)).toNatClampNeg) := inb_of S88 ⟨by decide, by decide⟩
      obtain ⟨T89, h89, X89, e89, W89, st89⟩ := stR X84 hx hZ e84 Ar88 (j := (0 : Int32)) hin88 rfl (Or.inl rfl) (g := (mkF m 156 #[vR r0, vJ q1, .second, vI 0, vI 0, vR ob] [.null, (.int 0), (.ref va)])) rfl rfl (hb hby d12_156)
      have V89 : Arv Z h89 va kva (.object "java/lang/Object") (256 : Int32) [.null, .null, .null] .null := Arv.set Ar88 qa88 S88 Na88 Ha88 Ga88 rfl W89 0 rfl (Nat.le_of_ble_eq_true rfl)
      have KH89 : Keep h0 h89 [r0, f, sh, ob, ka, va] := KH77.wr W89 (Or.inl (List.mem_of_getElem? (i := 5) rfl))
      have Zn89 : n0 ≤ h89.size := Nat.le_trans Zn77 (Keep.of_wr W89).1
      have N89 := Fr.snoc X89 N77 g_va
      have ks90 := own_c ks86 st89
      have ks91 : own_R p e below (A0) (T89.setTop (mkF m 159 #[vR r0, vJ q1, .second, vI 0, vI 0, vR ob] [(.ref r0), (.ref r0)])) := fun t k => ks90 t (by
        refine XS.aloadN X89.here hx rfl (hb hby d12_157) rfl rfl ?_
        refine XS.dup X89.here hx rfl (hb hby d12_158) rfl rfl ?_
        exact k)
      have f92 := ((((Fz.keep Kq54 (ninS ne_r0_ka nin0)).keep Kq69 (ninS ne_r0_va nin0)).other W77 (Or.inl ne_r0_ob)).other W89 (Or.inl ne_r0_va))
      obtain ⟨T93, X93, e93, st93⟩ := getF X89 hx hZ hown (host := "") (Or.inl (own_w hw 82 rfl)) Via.refl e89 f92 (g := (mkF m 159 #[vR r0, vJ q1, .second, vI 0, vI 0, vR ob] [(.ref r0), (.ref r0)])) rfl rfl (hb hby d12_159)
      have ks94 := own_c ks91 st93
      have ks95 : own_R p e below (A0) (T93.setTop (mkF m 164 #[vR r0, vJ q1, .second, vI 0, vI 0, vR ob] [(.int (sz - (1 : Int32))), (.ref r0)])) := fun t k => ks94 t (by
        refine XS.iconst X93.here hx rfl (hb hby d12_162) ?_
        refine XS.isub X93.here hx rfl (hb hby d12_163) rfl ?_
        exact k)
      have f96 := E0.keep KH89
      obtain ⟨T97, h97, X97, e97, W97, st97⟩ := putF X93 hx hZ hown (host := "") (Or.inl (own_w hw 82 rfl)) Via.refl e93 f92 f96 (Or.inl (own_w hw 83 rfl)) (own_w hw 1 rfl) (ty := .int) (by decide) rfl rfl (g := (mkF m 164 #[vR r0, vJ q1, .second, vI 0, vI 0, vR ob] [(.int (sz - (1 : Int32))), (.ref r0)])) rfl rfl (hb hby d12_164)
      have Fw97 := f92.same W97
      have KH97 : Keep h0 h97 [r0, f, sh, ob, ka, va] := KH89.wr W97 (Or.inl (List.mem_of_getElem? (i := 0) rfl))
      have Zn97 : n0 ≤ h97.size := Nat.le_trans Zn89 (Keep.of_wr W97).1
      have N97 := Fr.snoc X97 N89 g_r0
      have ks98 := own_c ks95 st97
      have ks99 : own_R p e below (A0) (T97.setTop (mkF m 169 #[vR r0, vJ q1, .second, vI 0, vI 0, vR ob] [(.ref ob)])) := fun t k => ks98 t (by
        refine XS.aload X97.here hx rfl (hb hby d12_167) rfl rfl ?_
        exact k)
      have f100 := ((Fw77.other W89 (Or.inl ne_ob_va)).other W97 (Or.inl (Ne.symm ne_r0_ob)))
      obtain ⟨T101, X101, e101, st101⟩ := own_getFR X97 hx hZ hown (own_w hw 78 rfl) e97 f100 (g := (mkF m 169 #[vR r0, vJ q1, .second, vI 0, vI 0, vR ob] [(.ref ob)])) rfl rfl (hb hby d12_169)
      have ks102 := own_c ks99 st101
      have ks103 : own_R p e below (A0) (T101.setTop (mkF m 177 #[vR r0, vJ q1, .second, vI 0, vI 0, vR ob] [(.int 0), (.ref r0)])) := fun t k => ks102 t (by
        refine XS.ifNo X101.here hx rfl (hb hby d12_172) rfl ((if0 _ _).trans (teq (by decide)).2) ?_
        refine XS.aloadN X101.here hx rfl (hb hby d12_175) rfl rfl ?_
        refine XS.iloadN X101.here hx rfl (hb hby d12_176) rfl ?_
        exact k)
      have f105 := E0.keep KH97
      have f106 := (((((Ff.keep Kq54 (ninS ne_r0_ka nin0)).keep Kq69 (ninS ne_r0_va nin0)).other W77 (Or.inl ne_r0_ob)).other W89 (Or.inl ne_r0_va)).other W97 (Or.inr (slot_ne (Or.inl (own_w hw 11 rfl)) (Or.inl (own_w hw 83 rfl)) (by decide) (t := (.array .long)) (t' := .int) (by decide) (by decide))))
      have f107 := (((((Fsh.keep Kq54 (ninS ne_r0_ka nin0)).keep Kq69 (ninS ne_r0_va nin0)).other W77 (Or.inl ne_r0_ob)).other W89 (Or.inl ne_r0_va)).other W97 (Or.inr (slot_ne (Or.inl (own_w hw 15 rfl)) (Or.inl (own_w hw 83 rfl)) (by decide) (t := (.array (.object "com/example/thin_feed/thinfeed/store/LongFloorMap$Shelf"))) (t' := .int) (by decide) (by decide))))
      have f108 := (((((Fc.keep Kq54 (ninS ne_r0_ka nin0)).keep Kq69 (ninS ne_r0_va nin0)).other W77 (Or.inl ne_r0_ob)).other W89 (Or.inl ne_r0_va)).other W97 (Or.inr (slot_ne (Or.inl (own_w hw 37 rfl)) (Or.inl (own_w hw 83 rfl)) (by decide) (t := .int) (t' := .int) (by decide) (by decide))))
      have f109 := (((((Vf.keep Kq54 (ninS ne_f_ka nin0)).keep Kq69 (ninS ne_f_va nin0)).other W77 ne_f_ob).other W89 ne_f_va).other W97 (Ne.symm ne_r0_f))
      have f110 := (((((Vs.keep Kq54 (ninS ne_sh_ka nin0)).keep Kq69 (ninS ne_sh_va nin0)).other W77 ne_sh_ob).other W89 ne_sh_va).other W97 (Ne.symm ne_r0_sh))
      obtain ⟨cq104, qc104, qc104'⟩ := f105.cell
      obtain ⟨_, _, ⟨T104, L104, k104, n104⟩, -, X104, ⟨Lc104, hQ104, lq104, yq104, zq104⟩, st104⟩ := X101.privateBack hx (y := (⟨"com/example/thin_feed/thinfeed/store/LongFloorMap", "removeShelf", "(I)V"⟩ : MethodName)) hown (mvT hZ (own_w hw 108 rfl)) (mvT hZ (own_w hw 109 rfl)) (mvT hZ (own_sel (y := (⟨"com/example/thin_feed/thinfeed/store/LongFloorMap", "removeShelf", "(I)V"⟩ : MethodName)) (b := (⟨"com/example/thin_feed/thinfeed/store/LongFloorMap", "bytes", "()J"⟩ : MethodName)) (own_w hw 26 rfl) rfl (own_w hw 109 rfl) (own_w hw 110 rfl) (by decide))) (Cond.privateMethod_at (mvP hZ (own_w hw 110 rfl) (args := #[]))) (mvT hZ (own_w hw 111 rfl)) (by decide) (backOf (W := 0) (rm16 l Z a0 hw [] r0 f sh _ _ _ a ob h97 n0 Zn97 f105 f106 f107 f108 Fw97 f109 f110 Os g_r0 g_f g_sh ne_r0_f ne_r0_sh ne_f_sh) hZ (own_w hw 111 rfl) (own_w hw 2 rfl) (by decide) (by decide)) (g := (mkF m 177 #[vR r0, vJ q1, .second, vI 0, vI 0, vR ob] [(.int 0), (.ref r0)])) rfl (by rw [hml]; rfl) (Steps.refl _) (a := r0) (by rw [e101]; exact qc104) qc104' (argsL := [(.int 0)]) (rest := []) (lenOf pd_11 rfl) rfl (by show 2 * 0 + _ ≤ _; exact Nat.le_of_eq rfl) (hb hby d12_177) (fun _ _ => ⟨rfl, e101, (by decide : 0 + 0 ≤ _), (by decide : 0 + 0 ≤ _)⟩)
      dsimp only [Pt.U, Pt.locs, Pt.cells, Pt.slots] at X104 lq104 yq104 zq104 st104 hQ104
      subst lq104 yq104 zq104
      obtain ⟨rfl, Nq104, Kq104, Ff104, Fsh104, Fc104, Fz104, Vf104, Vs104⟩ := hQ104
      have N104 := Fr.app N97 Nq104
      have KH104 : Keep h0 T104.heap [r0, f, sh, ob, ka, va] := KH97.trans Kq104 (allS (Or.inl (List.mem_of_getElem? (i := 0) rfl)) (allS (Or.inl (List.mem_of_getElem? (i := 1) rfl)) (allS (Or.inl (List.mem_of_getElem? (i := 2) rfl)) all0)))
      have Zn104 : n0 ≤ T104.heap.size := Nat.le_trans Zn97 Kq104.1
      have ks111 := own_ct ks103 st104
      have ks112 : own_R p e below (A0) (T104.setTop (mkF m 252 #[vR r0, vJ q1, .second, vI 0, vI 0, vR ob] [])) := fun t k => ks111 t (by
        refine XS.goto X104.here hx rfl (pc0 := 180) (pc' := 252) rfl (hb hby d12_180) (by decide) (by decide) ?_
        exact k)
      obtain ⟨fs, hr, hrun, hended, hW, hsame⟩ := X104.leave (v := none) (fun _ => rfl) hlk
      refine ⟨_, _, kz _ (ks112 _ ?_), hrun, hended, _, _, rfl, ?_, ⟨_, rfl⟩, hW, hsame.mono (by decide) (by decide)⟩
      · exact X104.returnOut hx Bd.returns (hb hby d12_252) hr
      · show Q12_1 Z r0 q1 y S f sh ob ka va kf ksh kka kva sz z a b h0 n0 _ T104.heap _
        have f113 := E0.keep KH104
        exact ⟨rfl, N104, Zn104, (fun _ _ q => q.keep KH104), Or.inl ⟨⟨f, sh, _, _, _, _, f113, Ff104, Fsh104, Fc104, Fz104, Vf104, Vs104, Os, g_r0, g_f, g_sh, ne_r0_f, ne_r0_sh, ne_f_sh⟩, own_r2 hS hc40⟩⟩
    · skip
      have ks114 : own_R p e below (A0) (T35.setTop (mkF m 67 #[vR r0, vJ q1, .second, vI 0, vI 0, .unset] [])) := fun t k => ks39 t (by
        refine XS.ifNo X35.here hx rfl (hb hby d12_64) rfl ((if0 _ _).trans (feq (fun q => hc40 ((lw_eq _ _).mp q))).1) ?_
        exact k)
      obtain ⟨fs, hr, hrun, hended, hW, hsame⟩ := X35.leave (v := none) (fun _ => rfl) hlk
      refine ⟨_, _, kz _ (ks114 _ ?_), hrun, hended, _, _, rfl, ?_, ⟨_, rfl⟩, hW, hsame.mono (by decide) (by decide)⟩
      · exact X35.returnOut hx Bd.returns (hb hby d12_67) hr
      · show Q12_1 Z r0 q1 y S f sh ob ka va kf ksh kka kva sz z a b h0 n0 _ T35.heap _
        rw [e35]
        exact ⟨rfl, N28, Z0, (fun _ _ q => q.keep (Keep.refl _ [])), Or.inr (Or.inl ⟨_, _, ⟨f, sh, ob, ka, va, _, _, _, _, _, _, E0, Ff, Fsh, Fc, Fz, Vf, Vs, Os, Eo, Fk, Fv, Fn, Vk, Vv, Ov, Ey, g_r0, g_f, g_sh, g_ob, g_ka, g_va, ne_r0_f, ne_r0_sh, ne_r0_ob, ne_r0_ka, ne_r0_va, ne_f_sh, ne_f_ob, ne_f_ka, ne_f_va, ne_sh_ob, ne_sh_ka, ne_sh_va, ne_ob_ka, ne_ob_va, ne_ka_va⟩, own_r1 hS hc40⟩)⟩
theorem d12_183 : decode prog_25_method_7_code 183 = .ok (.aload 5, 2) := by decide +kernel
theorem d12_185 : decode prog_25_method_7_code 185 = .ok (.getfield 30, 3) := by decide +kernel
theorem d12_188 : decode prog_25_method_7_code 188 = .ok (.bipush 64, 2) := by decide +kernel
theorem d12_190 : decode prog_25_method_7_code 190 = .ok (.if_icmp .gt 19, 3) := by decide +kernel
theorem d12_193 : decode prog_25_method_7_code 193 = .ok (.aload_n 0, 1) := by decide +kernel
theorem d12_194 : decode prog_25_method_7_code 194 = .ok (.iload_n 3, 1) := by decide +kernel
theorem d12_195 : decode prog_25_method_7_code 195 = .ok (.invokevirtual 78, 3) := by decide +kernel
theorem d12_198 : decode prog_25_method_7_code 198 = .ok (.ifCond .eq 11, 3) := by decide +kernel
theorem d12_209 : decode prog_25_method_7_code 209 = .ok (.aload 5, 2) := by decide +kernel
theorem d12_211 : decode prog_25_method_7_code 211 = .ok (.getfield 30, 3) := by decide +kernel
theorem d12_214 : decode prog_25_method_7_code 214 = .ok (.bipush 64, 2) := by decide +kernel
theorem d12_216 : decode prog_25_method_7_code 216 = .ok (.if_icmp .gt 23, 3) := by decide +kernel
theorem d12_219 : decode prog_25_method_7_code 219 = .ok (.aload_n 0, 1) := by decide +kernel
theorem d12_220 : decode prog_25_method_7_code 220 = .ok (.iload_n 3, 1) := by decide +kernel
theorem d12_221 : decode prog_25_method_7_code 221 = .ok (.iconst 1, 1) := by decide +kernel
theorem d12_222 : decode prog_25_method_7_code 222 = .ok (.isub, 1) := by decide +kernel
theorem d12_223 : decode prog_25_method_7_code 223 = .ok (.invokevirtual 78, 3) := by decide +kernel
theorem d12_226 : decode prog_25_method_7_code 226 = .ok (.ifCond .eq 13, 3) := by decide +kernel
theorem d12_239 : decode prog_25_method_7_code 239 = .ok (.aload_n 0, 1) := by decide +kernel
theorem d12_240 : decode prog_25_method_7_code 240 = .ok (.getfield 7, 3) := by decide +kernel
theorem d12_243 : decode prog_25_method_7_code 243 = .ok (.iload_n 3, 1) := by decide +kernel
theorem d12_244 : decode prog_25_method_7_code 244 = .ok (.aload 5, 2) := by decide +kernel
theorem d12_246 : decode prog_25_method_7_code 246 = .ok (.getfield 27, 3) := by decide +kernel
theorem d12_249 : decode prog_25_method_7_code 249 = .ok (.iconst 0, 1) := by decide +kernel
theorem d12_250 : decode prog_25_method_7_code 250 = .ok (.laload, 1) := by decide +kernel
theorem d12_251 : decode prog_25_method_7_code 251 = .ok (.lastore, 1) := by decide +kernel
theorem pd_12 : parseMethodDescriptor "(I)Z" = some ⟨[.int], some .boolean⟩ := by decide +kernel
theorem ef_12_2 (m : MethodId) (x0 : Addr) (x1 : Int64) : entryFrame m #[(.ref x0), (.long x1)] 6 = mkF m 0 #[.val (.ref x0), .val (.long x1), .second, .unset, .unset, .unset] [] := by first | (simp [entryFrame, mkF, argsToLocals, Value.category]; done) | rfl
def Q12_2 (Z : State) (r0 : Addr) (q1 : Int64) (y : Addr) (S : Int64 → Prop) (f : Addr) (sh : Addr) (ob : Addr) (ka : Addr) (va : Addr) (kf : ClassId) (ksh : ClassId) (kka : ClassId) (kva : ClassId) (sz : Int32) (z : Int64) (a : Int64) (b : Int64) (h0 : Heap) (n0 : Nat) (v : Option Value) (h : Heap) (L : List Loc) : Prop := own_RQ Z r0 q1 y S h0 n0 v h L
set_option maxRecDepth 65536 in
set_option maxHeartbeats 40000000 in
theorem rm12_2 (l : Launch) (Z : State) (a0 : Array Value) (hw : ∀ d ∈ tables_1, d.before a0 Z = true) (ws : List Jvm.Cond) (r0 : Addr) (q1 : Int64) (y : Addr) (S : Int64 → Prop) (f : Addr) (sh : Addr) (ob : Addr) (ka : Addr) (va : Addr) (kf : ClassId) (ksh : ClassId) (kka : ClassId) (kva : ClassId) (sz : Int32) (z : Int64) (a : Int64) (b : Int64) (h0 : Heap) (n0 : Nat) (Z0 : n0 ≤ h0.size) (E0 : Exa Z h0 r0 "com/example/thin_feed/thinfeed/store/LongFloorMap") (Ff : Fld Z h0 r0 "com/example/thin_feed/thinfeed/store/LongFloorMap" "firsts" "[J" (.ref f)) (Fsh : Fld Z h0 r0 "com/example/thin_feed/thinfeed/store/LongFloorMap" "shelves" "[Lcom/example/thin_feed/thinfeed/store/LongFloorMap$Shelf;" (.ref sh)) (Fc : Fld Z h0 r0 "com/example/thin_feed/thinfeed/store/LongFloorMap" "shelfCount" "I" (.int 1)) (Fz : Fld Z h0 r0 "com/example/thin_feed/thinfeed/store/LongFloorMap" "size" "I" (.int sz)) (Vf : Arv Z h0 f kf .long 1 [.long a] (.long (0 : Int64))) (Vs : Arv Z h0 sh ksh (.object "com/example/thin_feed/thinfeed/store/LongFloorMap$Shelf") 1 [.ref ob] .null) (Os : Ovr Z ksh "com/example/thin_feed/thinfeed/store/LongFloorMap$Shelf") (Eo : Exa Z h0 ob "com/example/thin_feed/thinfeed/store/LongFloorMap$Shelf") (Fk : Fld Z h0 ob "com/example/thin_feed/thinfeed/store/LongFloorMap$Shelf" "keys" "[J" (.ref ka)) (Fv : Fld Z h0 ob "com/example/thin_feed/thinfeed/store/LongFloorMap$Shelf" "values" "[Ljava/lang/Object;" (.ref va)) (Fn : Fld Z h0 ob "com/example/thin_feed/thinfeed/store/LongFloorMap$Shelf" "size" "I" (.int 2)) (Vk : Arv Z h0 ka kka .long 256 [.long a, .long b, .long z] (.long (0 : Int64))) (Vv : Arv Z h0 va kva (.object "java/lang/Object") 256 [.ref y, .ref y, .null] .null) (Ov : Ovr Z kva "java/lang/Object") (Ey : Exa Z h0 y "java/lang/Integer") (g_r0 : n0 ≤ r0) (g_f : n0 ≤ f) (g_sh : n0 ≤ sh) (g_ob : n0 ≤ ob) (g_ka : n0 ≤ ka) (g_va : n0 ≤ va) (ne_r0_f : r0 ≠ f) (ne_r0_sh : r0 ≠ sh) (ne_r0_ob : r0 ≠ ob) (ne_r0_ka : r0 ≠ ka) (ne_r0_va : r0 ≠ va) (ne_f_sh : f ≠ sh) (ne_f_ob : f ≠ ob) (ne_f_ka : f ≠ ka) (ne_f_va : f ≠ va) (ne_sh_ob : sh ≠ ob) (ne_sh_ka : sh ≠ ka) (ne_sh_va : sh ≠ va) (ne_ob_ka : ob ≠ ka) (ne_ob_va : ob ≠ va) (ne_ka_va : ka ≠ va) (hl : a < b) (hS : ∀ x, S x ↔ (x = a ∨ x = b)) :
    MetFree l (⟨"com/example/thin_feed/thinfeed/store/LongFloorMap", "remove", "(J)V"⟩ : MethodName) (head1 (Jvm.Cond.code (⟨"com/example/thin_feed/thinfeed/store/LongFloorMap", "remove", "(J)V"⟩ : MethodName) prog_25_method_7_code 6 none :: ws) ({ frames := 2, cells := 0, slots := 0, locals := 31 } : Room)) (fun a U => a = #[(.ref r0), (.long q1)] ∧ Z.Warmed39 U.vm ∧ U.heap = h0) (fun _ _ _ _ _ => True) (fun _ U o U' => ∃ v L, o = .returned v ∧ Q12_2 Z r0 q1 y S f sh ob ka va kf ksh kka kva sz z a b h0 n0 v U'.heap L ∧ FrameEnd U o U' L ({ frames := 2, cells := 0, slots := 0, locals := 31 } : Room).cells ({ frames := 2, cells := 0, slots := 0, locals := 31 } : Room).slots) := by
  refine MetFree.of_bodySF (plainFor_of_name pn_12) hisR ?_
  intro p e s m args below meth c s₁ Bd hml0 hP hK
  obtain ⟨rfl, hZ, hh⟩ := hP
  have hx := Bd.exec
  have hby := Bd.bytes
  have hml : c.maxLocals = 6 := hml0
  have hown : s.vm.findClass "com/example/thin_feed/thinfeed/store/LongFloorMap" = some m.cls := findClass_of_methodNamed Bd.named
  have hnm := (name_of_methodNamed Bd.named Bd.method).1
  have hlk : meth.locks = false := by first | exact BodyLoose.notSynchronized Bd | exact Body.notSynchronized Bd
  have X0 : Stand p l e ({ frames := 2, cells := 0, slots := 0, locals := 31 } : Room) s m #[(.ref r0), (.long q1)] below meth c s₁ [] 0 0 := Stand.of_body Bd
  have e0 : s₁.heap = h0 := by rw [← hh, Bd.state]; rfl
  have N0 := Fr.nil n0
  have k0 : own_R p e below (s₁.setTop (entryFrame m #[(.ref r0), (.long q1)] 6)) (s₁.setTop (mkF m 0 #[vR r0, vJ q1, .second, .unset, .unset, .unset] [])) := fun t k => castTop (ef_12_2 m r0 q1) k
  obtain ⟨A0, hA0⟩ : ∃ z, z = s₁.setTop (entryFrame m #[(.ref r0), (.long q1)] 6) := ⟨_, rfl⟩
  rw [← hA0] at k0
  have kz : ∀ t, Steps p.tables e below A0 t → Steps p.tables e below (s₁.setTop (entryFrame m #[(.ref r0), (.long q1)] 6)) t := fun t q => hA0 ▸ q
  have ks1 : own_R p e below (A0) (s₁.setTop (mkF m 1 #[vR r0, vJ q1, .second, .unset, .unset, .unset] [(.ref r0)])) := fun t k => k0 t (by
    refine XS.aloadN X0.here hx rfl (hb hby d12_0) rfl rfl ?_
    exact k)
  obtain ⟨T2, X2, e2, st2⟩ := getF X0 hx hZ hown (host := "") (Or.inl (own_w hw 10 rfl)) Via.refl e0 Ff (g := (mkF m 1 #[vR r0, vJ q1, .second, .unset, .unset, .unset] [(.ref r0)])) rfl rfl (hb hby d12_1)
  have ks3 := own_c ks1 st2
  have ks4 : own_R p e below (A0) (T2.setTop (mkF m 5 #[vR r0, vJ q1, .second, .unset, .unset, .unset] [(.ref r0), (.ref f)])) := fun t k => ks3 t (by
    refine XS.aloadN X2.here hx rfl (hb hby d12_4) rfl rfl ?_
    exact k)
  obtain ⟨T5, X5, e5, st5⟩ := getF X2 hx hZ hown (host := "") (Or.inl (own_w hw 36 rfl)) Via.refl e2 Fc (g := (mkF m 5 #[vR r0, vJ q1, .second, .unset, .unset, .unset] [(.ref r0), (.ref f)])) rfl rfl (hb hby d12_5)
  have ks6 := own_c ks4 st5
  have ks7 : own_R p e below (A0) (T5.setTop (mkF m 9 #[vR r0, vJ q1, .second, .unset, .unset, .unset] [(.long q1), (.int 1), (.ref f)])) := fun t k => ks6 t (by
    refine XS.lloadN X5.here hx rfl (hb hby d12_8) rfl ?_
    exact k)
  obtain ⟨_, _, ⟨T8, L8, k8, n8⟩, -, X8, ⟨Lc8, hQ8, lq8, yq8, zq8⟩, st8⟩ := Jvm.LawKit.callS X5 hx (y := (⟨"com/example/thin_feed/thinfeed/store/LongFloorMap", "floorIndex", "([JIJ)I"⟩ : MethodName)) hown (mvT hZ (own_w hw 71 rfl)) (mvT hZ (own_w hw 72 rfl)) (mvT hZ (own_w hw 2 rfl)) (mvT hZ (own_w hw 73 rfl)) (by decide) (backOf (W := 0) (rm10_1 l Z a0 hw [] f q1 _ (1 : Int32) _ a h0 n0 Z0 Vf ⟨by decide, by decide⟩ rfl) hZ (own_w hw 73 rfl) (own_w hw 2 rfl) (by decide) (by decide)) (g := (mkF m 9 #[vR r0, vJ q1, .second, .unset, .unset, .unset] [(.long q1), (.int 1), (.ref f)])) rfl (by rw [hml]; rfl) (argsL := [(.ref f), (.int 1), (.long q1)]) (rest := []) (lenOf pd_8 rfl) rfl (by show 2 * 0 + _ ≤ _; exact Nat.le_of_eq rfl) (hb hby d12_9) (fun _ _ => ⟨rfl, e5, (by decide : 0 + 0 ≤ _), (by decide : 0 + 0 ≤ _)⟩)
  dsimp only [Pt.U, Pt.locs, Pt.cells, Pt.slots] at X8 lq8 yq8 zq8 st8 hQ8
  subst lq8 yq8 zq8
  obtain ⟨rfl, Nq8, eq8⟩ := hQ8
  have N8 := Fr.app N0 Nq8
  have ks9 := own_c ks7 st8
  have ks10 : own_R p e below (A0) (T8.setTop (mkF m 12 #[vR r0, vJ q1, .second, .unset, .unset, .unset] [(.int (own_fi1 a q1))])) := ks9
  by_cases hc11 : q1 < a
  · skip
    rw [own_fi1, if_pos hc11] at ks10
    have ks12 : own_R p e below (A0) (T8.setTop (mkF m 67 #[vR r0, vJ q1, .second, vI (-1), vI (-1), .unset] [])) := fun t k => ks10 t (by
      refine XS.istoreN X8.here hx rfl (hb hby d12_12) rfl (l' := #[vR r0, vJ q1, .second, vI (-1), .unset, .unset]) rfl ?_
      refine XS.iloadN X8.here hx rfl (hb hby d12_13) rfl ?_
      refine XS.ifNo X8.here hx rfl (hb hby d12_14) rfl ((if0 _ _).trans (tlt (by decide)).2.1) ?_
      show Steps p.tables e below (T8.setTop (mkF m 17 #[vR r0, vJ q1, .second, vI (-1), .unset, .unset] [])) _
      refine XS.iconst X8.here hx rfl (hb hby d12_17) ?_
      refine XS.goto X8.here hx rfl (pc0 := 18) (pc' := 43) rfl (hb hby d12_18) (by decide) (by decide) ?_
      refine XS.istore X8.here hx rfl (hb hby d12_43) rfl (l' := #[vR r0, vJ q1, .second, vI (-1), vI (-1), .unset]) rfl ?_
      refine XS.iload X8.here hx rfl (hb hby d12_45) rfl ?_
      show Steps p.tables e below (T8.setTop (mkF m 47 #[vR r0, vJ q1, .second, vI (-1), vI (-1), .unset] [(.int (-1))])) _
      refine XS.ifYes X8.here hx rfl (pc0 := 47) (pc' := 67) rfl (hb hby d12_47) rfl ((if0 _ _).trans (tlt (by decide)).1) (by decide) (by decide) ?_
      exact k)
    obtain ⟨fs, hr, hrun, hended, hW, hsame⟩ := X8.leave (v := none) (fun _ => rfl) hlk
    refine ⟨_, _, kz _ (ks12 _ ?_), hrun, hended, _, _, rfl, ?_, ⟨_, rfl⟩, hW, hsame.mono (by decide) (by decide)⟩
    · exact X8.returnOut hx Bd.returns (hb hby d12_67) hr
    · show Q12_2 Z r0 q1 y S f sh ob ka va kf ksh kka kva sz z a b h0 n0 _ T8.heap _
      rw [eq8]
      exact ⟨rfl, N8, Z0, (fun _ _ q => q.keep (Keep.refl _ [])), Or.inr (Or.inr ⟨_, _, ⟨f, sh, ob, ka, va, _, _, _, _, _, _, E0, Ff, Fsh, Fc, Fz, Vf, Vs, Os, Eo, Fk, Fv, Fn, Vk, Vv, Ov, Ey, g_r0, g_f, g_sh, g_ob, g_ka, g_va, ne_r0_f, ne_r0_sh, ne_r0_ob, ne_r0_ka, ne_r0_va, ne_f_sh, ne_f_ob, ne_f_ka, ne_f_va, ne_sh_ob, ne_sh_ka, ne_sh_va, ne_ob_ka, ne_ob_va, ne_ka_va⟩, hl, own_r3 hS (own_ltne hc11) (own_lt2 hc11 hl)⟩)⟩
  · skip
    rw [own_fi1, if_neg hc11] at ks10
    have ks13 : own_R p e below (A0) (T8.setTop (mkF m 22 #[vR r0, vJ q1, .second, vI 0, .unset, .unset] [(.ref r0)])) := fun t k => ks10 t (by
      refine XS.istoreN X8.here hx rfl (hb hby d12_12) rfl (l' := #[vR r0, vJ q1, .second, vI 0, .unset, .unset]) rfl ?_
      refine XS.iloadN X8.here hx rfl (hb hby d12_13) rfl ?_
      refine XS.ifYes X8.here hx rfl (pc0 := 14) (pc' := 21) rfl (hb hby d12_14) rfl ((if0 _ _).trans (flt (by decide)).2.1) (by decide) (by decide) ?_
      show Steps p.tables e below (T8.setTop (mkF m 21 #[vR r0, vJ q1, .second, vI 0, .unset, .unset] [])) _
      refine XS.aloadN X8.here hx rfl (hb hby d12_21) rfl rfl ?_
      exact k)
    obtain ⟨T14, X14, e14, st14⟩ := getF X8 hx hZ hown (host := "") (Or.inl (own_w hw 14 rfl)) Via.refl eq8 Fsh (g := (mkF m 22 #[vR r0, vJ q1, .second, vI 0, .unset, .unset] [(.ref r0)])) rfl rfl (hb hby d12_22)
    have ks15 := own_c ks13 st14
    have ks16 : own_R p e below (A0) (T14.setTop (mkF m 26 #[vR r0, vJ q1, .second, vI 0, .unset, .unset] [(.int 0), (.ref sh)])) := fun t k => ks15 t (by
      refine XS.iloadN X14.here hx rfl (hb hby d12_25) rfl ?_
      exact k)
    obtain ⟨cl17, Ar17, qa17, S17, Na17, Ha17, Ga17⟩ := id Vs
    have ks18 : own_R p e below (A0) (T14.setTop (mkF m 27 #[vR r0, vJ q1, .second, vI 0, .unset, .unset] [(.ref ob)])) := fun t k => ks16 t (by
      refine X14.aaload hx (j := (0 : Int32)) (v := (.ref ob)) (by rw [e14]; exact Ar17.1) (State.isArrayOf_alike hZ.alike Ar17.2.1) rfl Ar17.2.2 (inb_of S17 ⟨by decide, by decide⟩) (Has.at Ha17 (inb_of S17 ⟨by decide, by decide⟩) rfl) (g := (mkF m 26 #[vR r0, vJ q1, .second, vI 0, .unset, .unset] [(.int 0), (.ref sh)])) rfl rfl (hb hby d12_26) _ ?_
      exact k)
    obtain ⟨T19, X19, e19, st19⟩ := own_getFR X14 hx hZ hown (own_w hw 69 rfl) e14 Fk (g := (mkF m 27 #[vR r0, vJ q1, .second, vI 0, .unset, .unset] [(.ref ob)])) rfl rfl (hb hby d12_27)
    have ks20 := own_c ks18 st19
    have ks21 : own_R p e below (A0) (T19.setTop (mkF m 31 #[vR r0, vJ q1, .second, vI 0, .unset, .unset] [(.ref r0), (.ref ka)])) := fun t k => ks20 t (by
      refine XS.aloadN X19.here hx rfl (hb hby d12_30) rfl rfl ?_
      exact k)
    obtain ⟨T22, X22, e22, st22⟩ := getF X19 hx hZ hown (host := "") (Or.inl (own_w hw 14 rfl)) Via.refl e19 Fsh (g := (mkF m 31 #[vR r0, vJ q1, .second, vI 0, .unset, .unset] [(.ref r0), (.ref ka)])) rfl rfl (hb hby d12_31)
    have ks23 := own_c ks21 st22
    have ks24 : own_R p e below (A0) (T22.setTop (mkF m 36 #[vR r0, vJ q1, .second, vI 0, .unset, .unset] [(.ref ob), (.ref ka)])) := fun t k => ks23 t (by
      refine XS.iloadN X22.here hx rfl (hb hby d12_34) rfl ?_
      refine X22.aaload hx (j := (0 : Int32)) (v := (.ref ob)) (by rw [e22]; exact Ar17.1) (State.isArrayOf_alike hZ.alike Ar17.2.1) rfl Ar17.2.2 (inb_of S17 ⟨by decide, by decide⟩) (Has.at Ha17 (inb_of S17 ⟨by decide, by decide⟩) rfl) (g := (mkF m 35 #[vR r0, vJ q1, .second, vI 0, .unset, .unset] [(.int 0), (.ref sh), (.ref ka)])) rfl rfl (hb hby d12_35) _ ?_
      exact k)
    obtain ⟨T25, X25, e25, st25⟩ := own_getFR X22 hx hZ hown (own_w hw 78 rfl) e22 Fn (g := (mkF m 36 #[vR r0, vJ q1, .second, vI 0, .unset, .unset] [(.ref ob), (.ref ka)])) rfl rfl (hb hby d12_36)
    have ks26 := own_c ks24 st25
    have ks27 : own_R p e below (A0) (T25.setTop (mkF m 40 #[vR r0, vJ q1, .second, vI 0, .unset, .unset] [(.long q1), (.int 2), (.ref ka)])) := fun t k => ks26 t (by
      refine XS.lloadN X25.here hx rfl (hb hby d12_39) rfl ?_
      exact k)
    obtain ⟨_, _, ⟨T28, L28, k28, n28⟩, -, X28, ⟨Lc28, hQ28, lq28, yq28, zq28⟩, st28⟩ := Jvm.LawKit.callS X25 hx (y := (⟨"com/example/thin_feed/thinfeed/store/LongFloorMap", "floorIndex", "([JIJ)I"⟩ : MethodName)) hown (mvT hZ (own_w hw 71 rfl)) (mvT hZ (own_w hw 72 rfl)) (mvT hZ (own_w hw 2 rfl)) (mvT hZ (own_w hw 73 rfl)) (by decide) (backOf (W := 0) (rm10_2 l Z a0 hw [] ka q1 _ (256 : Int32) _ a b h0 n0 Z0 Vk ⟨by decide, by decide⟩ rfl ⟨by decide, by decide⟩ rfl) hZ (own_w hw 73 rfl) (own_w hw 2 rfl) (by decide) (by decide)) (g := (mkF m 40 #[vR r0, vJ q1, .second, vI 0, .unset, .unset] [(.long q1), (.int 2), (.ref ka)])) rfl (by rw [hml]; rfl) (argsL := [(.ref ka), (.int 2), (.long q1)]) (rest := []) (lenOf pd_8 rfl) rfl (by show 2 * 0 + _ ≤ _; exact Nat.le_of_eq rfl) (hb hby d12_40) (fun _ _ => ⟨rfl, e25, (by decide : 0 + 0 ≤ _), (by decide : 0 + 0 ≤ _)⟩)
    dsimp only [Pt.U, Pt.locs, Pt.cells, Pt.slots] at X28 lq28 yq28 zq28 st28 hQ28
    subst lq28 yq28 zq28
    obtain ⟨rfl, Nq28, eq28⟩ := hQ28
    have N28 := Fr.app N8 Nq28
    have ks29 := own_c ks27 st28
    have ks30 : own_R p e below (A0) (T28.setTop (mkF m 43 #[vR r0, vJ q1, .second, vI 0, .unset, .unset] [(.int (own_fi2 a b q1))])) := ks29
    by_cases hc31 : q1 < b
    · skip
      rw [own_fi2, if_neg hc11, if_pos hc31] at ks30
      have ks32 : own_R p e below (A0) (T28.setTop (mkF m 51 #[vR r0, vJ q1, .second, vI 0, vI 0, .unset] [(.ref r0)])) := fun t k => ks30 t (by
        refine XS.istore X28.here hx rfl (hb hby d12_43) rfl (l' := #[vR r0, vJ q1, .second, vI 0, vI 0, .unset]) rfl ?_
        refine XS.iload X28.here hx rfl (hb hby d12_45) rfl ?_
        refine XS.ifNo X28.here hx rfl (hb hby d12_47) rfl ((if0 _ _).trans (flt (by decide)).1) ?_
        show Steps p.tables e below (T28.setTop (mkF m 50 #[vR r0, vJ q1, .second, vI 0, vI 0, .unset] [])) _
        refine XS.aloadN X28.here hx rfl (hb hby d12_50) rfl rfl ?_
        exact k)
      obtain ⟨T33, X33, e33, st33⟩ := getF X28 hx hZ hown (host := "") (Or.inl (own_w hw 14 rfl)) Via.refl eq28 Fsh (g := (mkF m 51 #[vR r0, vJ q1, .second, vI 0, vI 0, .unset] [(.ref r0)])) rfl rfl (hb hby d12_51)
      have ks34 := own_c ks32 st33
      have ks35 : own_R p e below (A0) (T33.setTop (mkF m 56 #[vR r0, vJ q1, .second, vI 0, vI 0, .unset] [(.ref ob)])) := fun t k => ks34 t (by
        refine XS.iloadN X33.here hx rfl (hb hby d12_54) rfl ?_
        refine X33.aaload hx (j := (0 : Int32)) (v := (.ref ob)) (by rw [e33]; exact Ar17.1) (State.isArrayOf_alike hZ.alike Ar17.2.1) rfl Ar17.2.2 (inb_of S17 ⟨by decide, by decide⟩) (Has.at Ha17 (inb_of S17 ⟨by decide, by decide⟩) rfl) (g := (mkF m 55 #[vR r0, vJ q1, .second, vI 0, vI 0, .unset] [(.int 0), (.ref sh)])) rfl rfl (hb hby d12_55) _ ?_
        exact k)
      obtain ⟨T36, X36, e36, st36⟩ := own_getFR X33 hx hZ hown (own_w hw 69 rfl) e33 Fk (g := (mkF m 56 #[vR r0, vJ q1, .second, vI 0, vI 0, .unset] [(.ref ob)])) rfl rfl (hb hby d12_56)
      have ks37 := own_c ks35 st36
      have ks38 : own_R p e below (A0) (T36.setTop (mkF m 61 #[vR r0, vJ q1, .second, vI 0, vI 0, .unset] [(.int 0), (.ref ka)])) := fun t k => ks37 t (by
        refine XS.iload X36.here hx rfl (hb hby d12_59) rfl ?_
        exact k)
      obtain ⟨cl39, Ar39, qa39, S39, Na39, Ha39, Ga39⟩ := id Vk
      have ks40 : own_R p e below (A0) (T36.setTop (mkF m 64 #[vR r0, vJ q1, .second, vI 0, vI 0, .unset] [(.int (lcmpW a q1))])) := fun t k => ks38 t (by
        refine X36.laload hx (j := (0 : Int32)) (v := (.long a)) (by rw [e36]; exact Ar39.1) (State.isArrayOf_alike hZ.alike Ar39.2.1) Ar39.2.2 (inb_of S39 ⟨by decide, by decide⟩) (Has.at Ha39 (inb_of S39 ⟨by decide, by decide⟩) rfl) (g := (mkF m 61 #[vR r0, vJ q1, .second, vI 0, vI 0, .unset] [(.int 0), (.ref ka)])) rfl rfl (hb hby d12_61) _ ?_
        refine XS.lloadN X36.here hx rfl (hb hby d12_62) rfl ?_
        refine XS.lcmp X36.here hx rfl (hb hby d12_63) rfl ?_
        exact k)
      by_cases hc41 : a = q1
      · skip
        have ks42 : own_R p e below (A0) (T36.setTop (mkF m 69 #[vR r0, vJ q1, .second, vI 0, vI 0, .unset] [(.ref r0)])) := fun t k => ks40 t (by
          refine XS.ifYes X36.here hx rfl (pc0 := 64) (pc' := 68) rfl (hb hby d12_64) rfl ((if0 _ _).trans (teq ((lw_eq _ _).mpr hc41)).1) (by decide) (by decide) ?_
          refine XS.aloadN X36.here hx rfl (hb hby d12_68) rfl rfl ?_
          exact k)
        obtain ⟨T43, X43, e43, st43⟩ := getF X36 hx hZ hown (host := "") (Or.inl (own_w hw 14 rfl)) Via.refl e36 Fsh (g := (mkF m 69 #[vR r0, vJ q1, .second, vI 0, vI 0, .unset] [(.ref r0)])) rfl rfl (hb hby d12_69)
        have ks44 := own_c ks42 st43
        have ks45 : own_R p e below (A0) (T43.setTop (mkF m 78 #[vR r0, vJ q1, .second, vI 0, vI 0, vR ob] [(.ref ob)])) := fun t k => ks44 t (by
          refine XS.iloadN X43.here hx rfl (hb hby d12_72) rfl ?_
          refine X43.aaload hx (j := (0 : Int32)) (v := (.ref ob)) (by rw [e43]; exact Ar17.1) (State.isArrayOf_alike hZ.alike Ar17.2.1) rfl Ar17.2.2 (inb_of S17 ⟨by decide, by decide⟩) (Has.at Ha17 (inb_of S17 ⟨by decide, by decide⟩) rfl) (g := (mkF m 73 #[vR r0, vJ q1, .second, vI 0, vI 0, .unset] [(.int 0), (.ref sh)])) rfl rfl (hb hby d12_73) _ ?_
          refine XS.astore X43.here hx rfl (hb hby d12_74) rfl rfl (l' := #[vR r0, vJ q1, .second, vI 0, vI 0, vR ob]) rfl ?_
          show Steps p.tables e below (T43.setTop (mkF m 76 #[vR r0, vJ q1, .second, vI 0, vI 0, vR ob] [])) _
          refine XS.aload X43.here hx rfl (hb hby d12_76) rfl rfl ?_
          exact k)
        obtain ⟨T46, X46, e46, st46⟩ := own_getFR X43 hx hZ hown (own_w hw 69 rfl) e43 Fk (g := (mkF m 78 #[vR r0, vJ q1, .second, vI 0, vI 0, vR ob] [(.ref ob)])) rfl rfl (hb hby d12_78)
        have ks47 := own_c ks45 st46
        have ks48 : own_R p e below (A0) (T46.setTop (mkF m 87 #[vR r0, vJ q1, .second, vI 0, vI 0, vR ob] [(.ref ob), (.int 1), (.ref ka)])) := fun t k => ks47 t (by
          refine XS.iload X46.here hx rfl (hb hby d12_81) rfl ?_
          refine XS.iconst X46.here hx rfl (hb hby d12_83) ?_
          refine XS.iadd X46.here hx rfl (hb hby d12_84) rfl ?_
          show Steps p.tables e below (T46.setTop (mkF m 85 #[vR r0, vJ q1, .second, vI 0, vI 0, vR ob] [(.int 1), (.ref ka)])) _
          refine XS.aload X46.here hx rfl (hb hby d12_85) rfl rfl ?_
          exact k)
        obtain ⟨T49, X49, e49, st49⟩ := own_getFR X46 hx hZ hown (own_w hw 69 rfl) e46 Fk (g := (mkF m 87 #[vR r0, vJ q1, .second, vI 0, vI 0, vR ob] [(.ref ob), (.int 1), (.ref ka)])) rfl rfl (hb hby d12_87)
        have ks50 := own_c ks48 st49
        have ks51 : own_R p e below (A0) (T49.setTop (mkF m 94 #[vR r0, vJ q1, .second, vI 0, vI 0, vR ob] [(.ref ob), (.int 0), (.ref ka), (.int 1), (.ref ka)])) := fun t k => ks50 t (by
          refine XS.iload X49.here hx rfl (hb hby d12_90) rfl ?_
          refine XS.aload X49.here hx rfl (hb hby d12_92) rfl rfl ?_
          exact k)
        obtain ⟨T52, X52, e52, st52⟩ := own_getFR X49 hx hZ hown (own_w hw 78 rfl) e49 Fn (g := (mkF m 94 #[vR r0, vJ q1, .second, vI 0, vI 0, vR ob] [(.ref ob), (.int 0), (.ref ka), (.int 1), (.ref ka)])) rfl rfl (hb hby d12_94)
        have ks53 := own_c ks51 st52
        have ks54 : own_R p e below (A0) (T52.setTop (mkF m 102 #[vR r0, vJ q1, .second, vI 0, vI 0, vR ob] [(.int 1), (.int 0), (.ref ka), (.int 1), (.ref ka)])) := fun t k => ks53 t (by
          refine XS.iload X52.here hx rfl (hb hby d12_97) rfl ?_
          refine XS.isub X52.here hx rfl (hb hby d12_99) rfl ?_
          refine XS.iconst X52.here hx rfl (hb hby d12_100) ?_
          show Steps p.tables e below (T52.setTop (mkF m 101 #[vR r0, vJ q1, .second, vI 0, vI 0, vR ob] [(.int 1), (.int 2), (.int 0), (.ref ka), (.int 1), (.ref ka)])) _
          refine XS.isub X52.here hx rfl (hb hby d12_101) rfl ?_
          exact k)
        obtain ⟨T55, h55, L55, X55, e55, N55, Kq55, Vr55, st55⟩ := cpA X52 hx hZ hown (own_w hw 65 rfl) (own_w hw 68 rfl) (own_w hw 66 rfl) (own_w hw 67 rfl) e52 Vk Vk (sp := (1 : Int32)) (dp := (0 : Int32)) (nn := (1 : Int32)) (us := [(.long b)]) (Or.inl ⟨rfl, rfl⟩) (by decide) (by decide) (by decide) (by decide) (by decide) rfl (Nat.le_of_ble_eq_true rfl) N28 g_ka (g := (mkF m 102 #[vR r0, vJ q1, .second, vI 0, vI 0, vR ob] [(.int 1), (.int 0), (.ref ka), (.int 1), (.ref ka)])) rfl (by rw [hml]; rfl) (rest := []) rfl (hb hby d12_102) (by decide) (W := 0) (by show 2 * 0 + _ ≤ _; exact Nat.le_of_eq rfl) (by decide)
        have V55 : Arv Z h55 ka kka .long (256 : Int32) [(.long b), (.long b), (.long z)] (.long (0 : Int64)) := Vr55
        have KH55 : Keep h0 h55 [r0, f, sh, ob, ka, va] := (Keep.refl h0 [r0, f, sh, ob, ka, va]).trans Kq55 (allS (Or.inl (List.mem_of_getElem? (i := 4) rfl)) all0)
        have Zn55 : n0 ≤ h55.size := Nat.le_trans Z0 Kq55.1
        have ks56 := own_c ks54 st55
        have ks57 : own_R p e below (A0) (T55.setTop (mkF m 107 #[vR r0, vJ q1, .second, vI 0, vI 0, vR ob] [(.ref ob)])) := fun t k => ks56 t (by
          refine XS.aload X55.here hx rfl (hb hby d12_105) rfl rfl ?_
          exact k)
        have f58 := (Fv.keep Kq55 (ninS ne_ob_ka nin0))
        obtain ⟨T59, X59, e59, st59⟩ := own_getFR X55 hx hZ hown (own_w hw 80 rfl) e55 f58 (g := (mkF m 107 #[vR r0, vJ q1, .second, vI 0, vI 0, vR ob] [(.ref ob)])) rfl rfl (hb hby d12_107)
        have ks60 := own_c ks57 st59
        have ks61 : own_R p e below (A0) (T59.setTop (mkF m 116 #[vR r0, vJ q1, .second, vI 0, vI 0, vR ob] [(.ref ob), (.int 1), (.ref va)])) := fun t k => ks60 t (by
          refine XS.iload X59.here hx rfl (hb hby d12_110) rfl ?_
          refine XS.iconst X59.here hx rfl (hb hby d12_112) ?_
          refine XS.iadd X59.here hx rfl (hb hby d12_113) rfl ?_
          show Steps p.tables e below (T59.setTop (mkF m 114 #[vR r0, vJ q1, .second, vI 0, vI 0, vR ob] [(.int 1), (.ref va)])) _
          refine XS.aload X59.here hx rfl (hb hby d12_114) rfl rfl ?_
          exact k)
        obtain ⟨T62, X62, e62, st62⟩ := own_getFR X59 hx hZ hown (own_w hw 80 rfl) e59 f58 (g := (mkF m 116 #[vR r0, vJ q1, .second, vI 0, vI 0, vR ob] [(.ref ob), (.int 1), (.ref va)])) rfl rfl (hb hby d12_116)
        have ks63 := own_c ks61 st62
        have ks64 : own_R p e below (A0) (T62.setTop (mkF m 123 #[vR r0, vJ q1, .second, vI 0, vI 0, vR ob] [(.ref ob), (.int 0), (.ref va), (.int 1), (.ref va)])) := fun t k => ks63 t (by
          refine XS.iload X62.here hx rfl (hb hby d12_119) rfl ?_
          refine XS.aload X62.here hx rfl (hb hby d12_121) rfl rfl ?_
          exact k)
        have f65 := (Fn.keep Kq55 (ninS ne_ob_ka nin0))
        obtain ⟨T66, X66, e66, st66⟩ := own_getFR X62 hx hZ hown (own_w hw 78 rfl) e62 f65 (g := (mkF m 123 #[vR r0, vJ q1, .second, vI 0, vI 0, vR ob] [(.ref ob), (.int 0), (.ref va), (.int 1), (.ref va)])) rfl rfl (hb hby d12_123)
        have ks67 := own_c ks64 st66
        have ks68 : own_R p e below (A0) (T66.setTop (mkF m 131 #[vR r0, vJ q1, .second, vI 0, vI 0, vR ob] [(.int 1), (.int 0), (.ref va), (.int 1), (.ref va)])) := fun t k => ks67 t (by
          refine XS.iload X66.here hx rfl (hb hby d12_126) rfl ?_
          refine XS.isub X66.here hx rfl (hb hby d12_128) rfl ?_
          refine XS.iconst X66.here hx rfl (hb hby d12_129) ?_
          show Steps p.tables e below (T66.setTop (mkF m 130 #[vR r0, vJ q1, .second, vI 0, vI 0, vR ob] [(.int 1), (.int 2), (.int 0), (.ref va), (.int 1), (.ref va)])) _
          refine XS.isub X66.here hx rfl (hb hby d12_130) rfl ?_
          exact k)
        have f69 := (Vv.keep Kq55 (ninS (Ne.symm ne_ka_va) nin0))
        obtain ⟨cl70, Ar70, qa70, S70, Na70, Ha70, Ga70⟩ := id f69
        have f71 := Ey.keep KH55
        obtain ⟨T72, h72, L72, X72, e72, N72, Kq72, Vr72, st72⟩ := cpA X66 hx hZ hown (own_w hw 65 rfl) (own_w hw 68 rfl) (own_w hw 66 rfl) (own_w hw 67 rfl) e66 f69 f69 (sp := (1 : Int32)) (dp := (0 : Int32)) (nn := (1 : Int32)) (us := [(.ref y)]) (Or.inr ⟨rfl, rfl, ⟨(Sto.ofV Ar70 qa70 Ov (Ins.of_exa f71 (own_w hw 81 rfl))), trivial⟩⟩) (by decide) (by decide) (by decide) (by decide) (by decide) rfl (Nat.le_of_ble_eq_true rfl) N55 g_va (g := (mkF m 131 #[vR r0, vJ q1, .second, vI 0, vI 0, vR ob] [(.int 1), (.int 0), (.ref va), (.int 1), (.ref va)])) rfl (by rw [hml]; rfl) (rest := []) rfl (hb hby d12_131) (by decide) (W := 0) (by show 2 * 0 + _ ≤ _; exact Nat.le_of_eq rfl) (by decide)
        have V72 : Arv Z h72 va kva (.object "java/lang/Object") (256 : Int32) [(.ref y), (.ref y), .null] .null := Vr72
        have KH72 : Keep h0 h72 [r0, f, sh, ob, ka, va] := KH55.trans Kq72 (allS (Or.inl (List.mem_of_getElem? (i := 5) rfl)) all0)
        have Zn72 : n0 ≤ h72.size := Nat.le_trans Zn55 Kq72.1
        have ks73 := own_c ks68 st72
        have ks74 : own_R p e below (A0) (T72.setTop (mkF m 137 #[vR r0, vJ q1, .second, vI 0, vI 0, vR ob] [(.ref ob), (.ref ob)])) := fun t k => ks73 t (by
          refine XS.aload X72.here hx rfl (hb hby d12_134) rfl rfl ?_
          refine XS.dup X72.here hx rfl (hb hby d12_136) rfl rfl ?_
          exact k)
        have f75 := (f65.keep Kq72 (ninS ne_ob_va nin0))
        obtain ⟨T76, X76, e76, st76⟩ := own_getFR X72 hx hZ hown (own_w hw 78 rfl) e72 f75 (g := (mkF m 137 #[vR r0, vJ q1, .second, vI 0, vI 0, vR ob] [(.ref ob), (.ref ob)])) rfl rfl (hb hby d12_137)
        have ks77 := own_c ks74 st76
        have ks78 : own_R p e below (A0) (T76.setTop (mkF m 142 #[vR r0, vJ q1, .second, vI 0, vI 0, vR ob] [(.int 1), (.ref ob)])) := fun t k => ks77 t (by
          refine XS.iconst X76.here hx rfl (hb hby d12_140) ?_
          refine XS.isub X76.here hx rfl (hb hby d12_141) rfl ?_
          exact k)
        have f79 := Eo.keep KH72
        obtain ⟨T80, h80, X80, e80, W80, st80⟩ := own_putFR X76 hx hZ hown (own_w hw 78 rfl) e76 f75 f79 (own_w hw 79 rfl) (own_w hw 49 rfl) (ty := .int) (by decide) rfl rfl (g := (mkF m 142 #[vR r0, vJ q1, .second, vI 0, vI 0, vR ob] [(.int 1), (.ref ob)])) rfl rfl (hb hby d12_142)
        have Fw80 := f75.same W80
        have KH80 : Keep h0 h80 [r0, f, sh, ob, ka, va] := KH72.wr W80 (Or.inl (List.mem_of_getElem? (i := 3) rfl))
        have Zn80 : n0 ≤ h80.size := Nat.le_trans Zn72 (Keep.of_wr W80).1
        have N80 := Fr.snoc X80 N72 g_ob
        have ks81 := own_c ks78 st80
        have ks82 : own_R p e below (A0) (T80.setTop (mkF m 147 #[vR r0, vJ q1, .second, vI 0, vI 0, vR ob] [(.ref ob)])) := fun t k => ks81 t (by
          refine XS.aload X80.here hx rfl (hb hby d12_145) rfl rfl ?_
          exact k)
        have f83 := ((f58.keep Kq72 (ninS ne_ob_va nin0)).other W80 (Or.inr (slot_ne (Or.inr (own_w hw 60 rfl)) (Or.inl (own_w hw 79 rfl)) (by decide) (t := (.array (.object "java/lang/Object"))) (t' := .int) (by decide) (by decide))))
        obtain ⟨T84, X84, e84, st84⟩ := own_getFR X80 hx hZ hown (own_w hw 80 rfl) e80 f83 (g := (mkF m 147 #[vR r0, vJ q1, .second, vI 0, vI 0, vR ob] [(.ref ob)])) rfl rfl (hb hby d12_147)
        have ks85 := own_c ks82 st84
        have ks86 : own_R p e below (A0) (T84.setTop (mkF m 152 #[vR r0, vJ q1, .second, vI 0, vI 0, vR ob] [(.ref ob), (.ref va)])) := fun t k => ks85 t (by
          refine XS.aload X84.here hx rfl (hb hby d12_150) rfl rfl ?_
          exact k)
        obtain ⟨T87, X87, e87, st87⟩ := own_getFR X84 hx hZ hown (own_w hw 78 rfl) e84 Fw80 (g := (mkF m 152 #[vR r0, vJ q1, .second, vI 0, vI 0, vR ob] [(.ref ob), (.ref va)])) rfl rfl (hb hby d12_152)
        have ks88 := own_c ks86 st87
        have ks89 : own_R p e below (A0) (T87.setTop (mkF m 156 #[vR r0, vJ q1, .second, vI 0, vI 0, vR ob] [.null, (.int 1), (.ref va)])) := fun t k => ks88 t (by
          refine XS.aconstNull X87.here hx rfl (hb hby d12_155) ?_
          exact k)
        have f90 := (V72.other W80 (Ne.symm ne_ob_va))
        obtain ⟨cl91, Ar91, qa91, S91, Na91, Ha91, Ga91⟩ := id f90
        have hin91 : ¬ ((1 : Int32) < 0 ∨ cl91.slots.size ≤ ((1 : Int32)).toNatClampNeg) := inb_of S91 ⟨by decide, by decide⟩
        obtain ⟨T92, h92, X92, e92, W92, st92⟩ := stR X87 hx hZ e87 Ar91 (j := (1 : Int32)) hin91 rfl (Or.inl rfl) (g := (mkF m 156 #[vR r0, vJ q1, .second, vI 0, vI 0, vR ob] [.null, (.int 1), (.ref va)])) rfl rfl (hb hby d12_156)
        have V92 : Arv Z h92 va kva (.object "java/lang/Object") (256 : Int32) [(.ref y), .null, .null] .null := Arv.set Ar91 qa91 S91 Na91 Ha91 Ga91 rfl W92 1 rfl (Nat.le_of_ble_eq_true rfl)
        have KH92 : Keep h0 h92 [r0, f, sh, ob, ka, va] := KH80.wr W92 (Or.inl (List.mem_of_getElem? (i := 5) rfl))
        have Zn92 : n0 ≤ h92.size := Nat.le_trans Zn80 (Keep.of_wr W92).1
        have N92 := Fr.snoc X92 N80 g_va
        have ks93 := own_c ks89 st92
        have ks94 : own_R p e below (A0) (T92.setTop (mkF m 159 #[vR r0, vJ q1, .second, vI 0, vI 0, vR ob] [(.ref r0), (.ref r0)])) := fun t k => ks93 t (by
          refine XS.aloadN X92.here hx rfl (hb hby d12_157) rfl rfl ?_
          refine XS.dup X92.here hx rfl (hb hby d12_158) rfl rfl ?_
          exact k)
        have f95 := ((((Fz.keep Kq55 (ninS ne_r0_ka nin0)).keep Kq72 (ninS ne_r0_va nin0)).other W80 (Or.inl ne_r0_ob)).other W92 (Or.inl ne_r0_va))
        obtain ⟨T96, X96, e96, st96⟩ := getF X92 hx hZ hown (host := "") (Or.inl (own_w hw 82 rfl)) Via.refl e92 f95 (g := (mkF m 159 #[vR r0, vJ q1, .second, vI 0, vI 0, vR ob] [(.ref r0), (.ref r0)])) rfl rfl (hb hby d12_159)
        have ks97 := own_c ks94 st96
        have ks98 : own_R p e below (A0) (T96.setTop (mkF m 164 #[vR r0, vJ q1, .second, vI 0, vI 0, vR ob] [(.int (sz - (1 : Int32))), (.ref r0)])) := fun t k => ks97 t (by
          refine XS.iconst X96.here hx rfl (hb hby d12_162) ?_
          refine XS.isub X96.here hx rfl (hb hby d12_163) rfl ?_
          exact k)
        have f99 := E0.keep KH92
        obtain ⟨T100, h100, X100, e100, W100, st100⟩ := putF X96 hx hZ hown (host := "") (Or.inl (own_w hw 82 rfl)) Via.refl e96 f95 f99 (Or.inl (own_w hw 83 rfl)) (own_w hw 1 rfl) (ty := .int) (by decide) rfl rfl (g := (mkF m 164 #[vR r0, vJ q1, .second, vI 0, vI 0, vR ob] [(.int (sz - (1 : Int32))), (.ref r0)])) rfl rfl (hb hby d12_164)
        have Fw100 := f95.same W100
        have KH100 : Keep h0 h100 [r0, f, sh, ob, ka, va] := KH92.wr W100 (Or.inl (List.mem_of_getElem? (i := 0) rfl))
        have Zn100 : n0 ≤ h100.size := Nat.le_trans Zn92 (Keep.of_wr W100).1
        have N100 := Fr.snoc X100 N92 g_r0
        have ks101 := own_c ks98 st100
        have ks102 : own_R p e below (A0) (T100.setTop (mkF m 169 #[vR r0, vJ q1, .second, vI 0, vI 0, vR ob] [(.ref ob)])) := fun t k => ks101 t (by
          refine XS.aload X100.here hx rfl (hb hby d12_167) rfl rfl ?_
          exact k)
        have f103 := ((Fw80.other W92 (Or.inl ne_ob_va)).other W100 (Or.inl (Ne.symm ne_r0_ob)))
        obtain ⟨T104, X104, e104, st104⟩ := own_getFR X100 hx hZ hown (own_w hw 78 rfl) e100 f103 (g := (mkF m 169 #[vR r0, vJ q1, .second, vI 0, vI 0, vR ob] [(.ref ob)])) rfl rfl (hb hby d12_169)
        have ks105 := own_c ks102 st104
        have ks106 : own_R p e below (A0) (T104.setTop (mkF m 185 #[vR r0, vJ q1, .second, vI 0, vI 0, vR ob] [(.ref ob)])) := fun t k => ks105 t (by
          refine XS.ifYes X104.here hx rfl (pc0 := 172) (pc' := 183) rfl (hb hby d12_172) rfl ((if0 _ _).trans (feq (by decide)).2) (by decide) (by decide) ?_
          refine XS.aload X104.here hx rfl (hb hby d12_183) rfl rfl ?_
          exact k)
        obtain ⟨T107, X107, e107, st107⟩ := own_getFR X104 hx hZ hown (own_w hw 78 rfl) e104 f103 (g := (mkF m 185 #[vR r0, vJ q1, .second, vI 0, vI 0, vR ob] [(.ref ob)])) rfl rfl (hb hby d12_185)
        have ks108 := own_c ks106 st107
        have ks109 : own_R p e below (A0) (T107.setTop (mkF m 195 #[vR r0, vJ q1, .second, vI 0, vI 0, vR ob] [(.int 0), (.ref r0)])) := fun t k => ks108 t (by
          refine XS.bipush X107.here hx rfl (hb hby d12_188) ?_
          refine XS.icmpNo X107.here hx rfl (hb hby d12_190) rfl (flt (by decide)).2.2.1 ?_
          refine XS.aloadN X107.here hx rfl (hb hby d12_193) rfl rfl ?_
          show Steps p.tables e below (T107.setTop (mkF m 194 #[vR r0, vJ q1, .second, vI 0, vI 0, vR ob] [(.ref r0)])) _
          refine XS.iloadN X107.here hx rfl (hb hby d12_194) rfl ?_
          exact k)
        have f111 := (((((Fc.keep Kq55 (ninS ne_r0_ka nin0)).keep Kq72 (ninS ne_r0_va nin0)).other W80 (Or.inl ne_r0_ob)).other W92 (Or.inl ne_r0_va)).other W100 (Or.inr (slot_ne (Or.inl (own_w hw 37 rfl)) (Or.inl (own_w hw 83 rfl)) (by decide) (t := .int) (t' := .int) (by decide) (by decide))))
        have f112 := E0.keep KH100
        obtain ⟨cq110, qc110, qc110'⟩ := f112.cell
        obtain ⟨_, _, ⟨T110, L110, k110, n110⟩, -, X110, ⟨Lc110, hQ110, lq110, yq110, zq110⟩, st110⟩ := X107.privateBack hx (y := (⟨"com/example/thin_feed/thinfeed/store/LongFloorMap", "joins", "(I)Z"⟩ : MethodName)) hown (mvT hZ (own_w hw 104 rfl)) (mvT hZ (own_w hw 105 rfl)) (mvT hZ (own_sel (y := (⟨"com/example/thin_feed/thinfeed/store/LongFloorMap", "joins", "(I)Z"⟩ : MethodName)) (b := (⟨"com/example/thin_feed/thinfeed/store/LongFloorMap", "bytes", "()J"⟩ : MethodName)) (own_w hw 26 rfl) rfl (own_w hw 105 rfl) (own_w hw 106 rfl) (by decide))) (Cond.privateMethod_at (mvP hZ (own_w hw 106 rfl) (args := #[]))) (mvT hZ (own_w hw 107 rfl)) (by decide) (backOf (W := 0) (rm15_z l Z a0 hw [] r0 h100 n0 Zn100 f111) hZ (own_w hw 107 rfl) (own_w hw 2 rfl) (by decide) (by decide)) (g := (mkF m 195 #[vR r0, vJ q1, .second, vI 0, vI 0, vR ob] [(.int 0), (.ref r0)])) rfl (by rw [hml]; rfl) (Steps.refl _) (a := r0) (by rw [e107]; exact qc110) qc110' (argsL := [(.int 0)]) (rest := []) (lenOf pd_12 rfl) rfl (by show 2 * 0 + _ ≤ _; exact Nat.le_of_eq rfl) (hb hby d12_195) (fun _ _ => ⟨rfl, e107, (by decide : 0 + 0 ≤ _), (by decide : 0 + 0 ≤ _)⟩)
        dsimp only [Pt.U, Pt.locs, Pt.cells, Pt.slots] at X110 lq110 yq110 zq110 st110 hQ110
        subst lq110 yq110 zq110
        obtain ⟨rfl, Nq110, eq110⟩ := hQ110
        have N110 := Fr.app N100 Nq110
        have ks113 := own_ct ks109 st110
        have ks114 : own_R p e below (A0) (T110.setTop (mkF m 211 #[vR r0, vJ q1, .second, vI 0, vI 0, vR ob] [(.ref ob)])) := fun t k => ks113 t (by
          refine XS.ifYes X110.here hx rfl (pc0 := 198) (pc' := 209) rfl (hb hby d12_198) rfl ((if0 _ _).trans (teq (by decide)).1) (by decide) (by decide) ?_
          refine XS.aload X110.here hx rfl (hb hby d12_209) rfl rfl ?_
          exact k)
        obtain ⟨T115, X115, e115, st115⟩ := own_getFR X110 hx hZ hown (own_w hw 78 rfl) eq110 f103 (g := (mkF m 211 #[vR r0, vJ q1, .second, vI 0, vI 0, vR ob] [(.ref ob)])) rfl rfl (hb hby d12_211)
        have ks116 := own_c ks114 st115
        have ks117 : own_R p e below (A0) (T115.setTop (mkF m 223 #[vR r0, vJ q1, .second, vI 0, vI 0, vR ob] [(.int (-1)), (.ref r0)])) := fun t k => ks116 t (by
          refine XS.bipush X115.here hx rfl (hb hby d12_214) ?_
          refine XS.icmpNo X115.here hx rfl (hb hby d12_216) rfl (flt (by decide)).2.2.1 ?_
          refine XS.aloadN X115.here hx rfl (hb hby d12_219) rfl rfl ?_
          show Steps p.tables e below (T115.setTop (mkF m 220 #[vR r0, vJ q1, .second, vI 0, vI 0, vR ob] [(.ref r0)])) _
          refine XS.iloadN X115.here hx rfl (hb hby d12_220) rfl ?_
          refine XS.iconst X115.here hx rfl (hb hby d12_221) ?_
          refine XS.isub X115.here hx rfl (hb hby d12_222) rfl ?_
          exact k)
        obtain ⟨cq118, qc118, qc118'⟩ := f112.cell
        obtain ⟨_, _, ⟨T118, L118, k118, n118⟩, -, X118, ⟨Lc118, hQ118, lq118, yq118, zq118⟩, st118⟩ := X115.privateBack hx (y := (⟨"com/example/thin_feed/thinfeed/store/LongFloorMap", "joins", "(I)Z"⟩ : MethodName)) hown (mvT hZ (own_w hw 104 rfl)) (mvT hZ (own_w hw 105 rfl)) (mvT hZ (own_sel (y := (⟨"com/example/thin_feed/thinfeed/store/LongFloorMap", "joins", "(I)Z"⟩ : MethodName)) (b := (⟨"com/example/thin_feed/thinfeed/store/LongFloorMap", "bytes", "()J"⟩ : MethodName)) (own_w hw 26 rfl) rfl (own_w hw 105 rfl) (own_w hw 106 rfl) (by decide))) (Cond.privateMethod_at (mvP hZ (own_w hw 106 rfl) (args := #[]))) (mvT hZ (own_w hw 107 rfl)) (by decide) (backOf (W := 0) (rm15_m l Z a0 hw [] r0 h100 n0 Zn100 f111) hZ (own_w hw 107 rfl) (own_w hw 2 rfl) (by decide) (by decide)) (g := (mkF m 223 #[vR r0, vJ q1, .second, vI 0, vI 0, vR ob] [(.int (-1)), (.ref r0)])) rfl (by rw [hml]; rfl) (Steps.refl _) (a := r0) (by rw [e115]; exact qc118) qc118' (argsL := [(.int (-1))]) (rest := []) (lenOf pd_12 rfl) rfl (by show 2 * 0 + _ ≤ _; exact Nat.le_of_eq rfl) (hb hby d12_223) (fun _ _ => ⟨rfl, e115, (by decide : 0 + 0 ≤ _), (by decide : 0 + 0 ≤ _)⟩)
        dsimp only [Pt.U, Pt.locs, Pt.cells, Pt.slots] at X118 lq118 yq118 zq118 st118 hQ118
        subst lq118 yq118 zq118
        obtain ⟨rfl, Nq118, eq118⟩ := hQ118
        have N118 := Fr.app N110 Nq118
        have ks119 := own_ct ks117 st118
        have ks120 : own_R p e below (A0) (T118.setTop (mkF m 240 #[vR r0, vJ q1, .second, vI 0, vI 0, vR ob] [(.ref r0)])) := fun t k => ks119 t (by
          refine XS.ifYes X118.here hx rfl (pc0 := 226) (pc' := 239) rfl (hb hby d12_226) rfl ((if0 _ _).trans (teq (by decide)).1) (by decide) (by decide) ?_
          refine XS.aloadN X118.here hx rfl (hb hby d12_239) rfl rfl ?_
          exact k)
        have f121 := (((((Ff.keep Kq55 (ninS ne_r0_ka nin0)).keep Kq72 (ninS ne_r0_va nin0)).other W80 (Or.inl ne_r0_ob)).other W92 (Or.inl ne_r0_va)).other W100 (Or.inr (slot_ne (Or.inl (own_w hw 11 rfl)) (Or.inl (own_w hw 83 rfl)) (by decide) (t := (.array .long)) (t' := .int) (by decide) (by decide))))
        obtain ⟨T122, X122, e122, st122⟩ := getF X118 hx hZ hown (host := "") (Or.inl (own_w hw 10 rfl)) Via.refl eq118 f121 (g := (mkF m 240 #[vR r0, vJ q1, .second, vI 0, vI 0, vR ob] [(.ref r0)])) rfl rfl (hb hby d12_240)
        have ks123 := own_c ks120 st122
        have ks124 : own_R p e below (A0) (T122.setTop (mkF m 246 #[vR r0, vJ q1, .second, vI 0, vI 0, vR ob] [(.ref ob), (.int 0), (.ref f)])) := fun t k => ks123 t (by
          refine XS.iloadN X122.here hx rfl (hb hby d12_243) rfl ?_
          refine XS.aload X122.here hx rfl (hb hby d12_244) rfl rfl ?_
          exact k)
        have f125 := (((((Fk.keep Kq55 (ninS ne_ob_ka nin0)).keep Kq72 (ninS ne_ob_va nin0)).other W80 (Or.inr (slot_ne (Or.inr (own_w hw 56 rfl)) (Or.inl (own_w hw 79 rfl)) (by decide) (t := (.array .long)) (t' := .int) (by decide) (by decide)))).other W92 (Or.inl ne_ob_va)).other W100 (Or.inl (Ne.symm ne_r0_ob)))
        obtain ⟨T126, X126, e126, st126⟩ := own_getFR X122 hx hZ hown (own_w hw 69 rfl) e122 f125 (g := (mkF m 246 #[vR r0, vJ q1, .second, vI 0, vI 0, vR ob] [(.ref ob), (.int 0), (.ref f)])) rfl rfl (hb hby d12_246)
        have ks127 := own_c ks124 st126
        have ks128 : own_R p e below (A0) (T126.setTop (mkF m 250 #[vR r0, vJ q1, .second, vI 0, vI 0, vR ob] [(.int 0), (.ref ka), (.int 0), (.ref f)])) := fun t k => ks127 t (by
          refine XS.iconst X126.here hx rfl (hb hby d12_249) ?_
          exact k)
        have f129 := ((((V55.keep Kq72 (ninS ne_ka_va nin0)).other W80 (Ne.symm ne_ob_ka)).other W92 ne_ka_va).other W100 (Ne.symm ne_r0_ka))
        obtain ⟨cl130, Ar130, qa130, S130, Na130, Ha130, Ga130⟩ := id f129
        have ks131 : own_R p e below (A0) (T126.setTop (mkF m 251 #[vR r0, vJ q1, .second, vI 0, vI 0, vR ob] [(.long b), (.int 0), (.ref f)])) := fun t k => ks128 t (by
          refine X126.laload hx (j := (0 : Int32)) (v := (.long b)) (by rw [e126]; exact Ar130.1) (State.isArrayOf_alike hZ.alike Ar130.2.1) Ar130.2.2 (inb_of S130 ⟨by decide, by decide⟩) (Has.at Ha130 (inb_of S130 ⟨by decide, by decide⟩) rfl) (g := (mkF m 250 #[vR r0, vJ q1, .second, vI 0, vI 0, vR ob] [(.int 0), (.ref ka), (.int 0), (.ref f)])) rfl rfl (hb hby d12_250) _ ?_
          exact k)
        have f132 := (((((Vf.keep Kq55 (ninS ne_f_ka nin0)).keep Kq72 (ninS ne_f_va nin0)).other W80 ne_f_ob).other W92 ne_f_va).other W100 (Ne.symm ne_r0_f))
        obtain ⟨cl133, Ar133, qa133, S133, Na133, Ha133, Ga133⟩ := id f132
        have hin133 : ¬ ((0 : Int32) < 0 ∨ cl133.slots.size ≤ ((0 : Int32)).toNatClampNeg) := inb_of S133 ⟨by decide, by decide⟩
        obtain ⟨T134, h134, X134, e134, W134, st134⟩ := stJ X126 hx hZ e126 Ar133 (j := (0 : Int32)) hin133 (g := (mkF m 251 #[vR r0, vJ q1, .second, vI 0, vI 0, vR ob] [(.long b), (.int 0), (.ref f)])) rfl rfl (hb hby d12_251)
        have V134 : Arv Z h134 f kf .long (1 : Int32) [(.long b)] (.long (0 : Int64)) := Arv.set Ar133 qa133 S133 Na133 Ha133 Ga133 rfl W134 0 rfl (Nat.le_of_ble_eq_true rfl)
        have KH134 : Keep h0 h134 [r0, f, sh, ob, ka, va] := KH100.wr W134 (Or.inl (List.mem_of_getElem? (i := 1) rfl))
        have Zn134 : n0 ≤ h134.size := Nat.le_trans Zn100 (Keep.of_wr W134).1
        have N134 := Fr.snoc X134 N118 g_f
        have ks135 := own_c ks131 st134
        obtain ⟨fs, hr, hrun, hended, hW, hsame⟩ := X134.leave (v := none) (fun _ => rfl) hlk
        refine ⟨_, _, kz _ (ks135 _ ?_), hrun, hended, _, _, rfl, ?_, ⟨_, rfl⟩, hW, hsame.mono (by decide) (by decide)⟩
        · exact X134.returnOut hx Bd.returns (hb hby d12_252) hr
        · show Q12_2 Z r0 q1 y S f sh ob ka va kf ksh kka kva sz z a b h0 n0 _ T134.heap _
          rw [e134]
          have f136 := E0.keep KH134
          have f137 := (f121.other W134 (Or.inl ne_r0_f))
          have f138 := ((((((Fsh.keep Kq55 (ninS ne_r0_ka nin0)).keep Kq72 (ninS ne_r0_va nin0)).other W80 (Or.inl ne_r0_ob)).other W92 (Or.inl ne_r0_va)).other W100 (Or.inr (slot_ne (Or.inl (own_w hw 15 rfl)) (Or.inl (own_w hw 83 rfl)) (by decide) (t := (.array (.object "com/example/thin_feed/thinfeed/store/LongFloorMap$Shelf"))) (t' := .int) (by decide) (by decide)))).other W134 (Or.inl ne_r0_f))
          have f139 := (f111.other W134 (Or.inl ne_r0_f))
          have f140 := (Fw100.other W134 (Or.inl ne_r0_f))
          have f141 := ((((((Vs.keep Kq55 (ninS ne_sh_ka nin0)).keep Kq72 (ninS ne_sh_va nin0)).other W80 ne_sh_ob).other W92 ne_sh_va).other W100 (Ne.symm ne_r0_sh)).other W134 (Ne.symm ne_f_sh))
          have f142 := Eo.keep KH134
          have f143 := (f125.other W134 (Or.inl (Ne.symm ne_f_ob)))
          have f144 := (((f83.other W92 (Or.inl ne_ob_va)).other W100 (Or.inl (Ne.symm ne_r0_ob))).other W134 (Or.inl (Ne.symm ne_f_ob)))
          have f145 := (f103.other W134 (Or.inl (Ne.symm ne_f_ob)))
          have f146 := (f129.other W134 (Ne.symm ne_f_ka))
          have f147 := ((V92.other W100 (Ne.symm ne_r0_va)).other W134 (Ne.symm ne_f_va))
          have f148 := Ey.keep KH134
          exact ⟨rfl, N134, Zn134, (fun _ _ q => q.keep KH134), Or.inr (Or.inl ⟨_, _, ⟨f, sh, ob, ka, va, _, _, _, _, _, _, f136, f137, f138, f139, f140, V134, f141, Os, f142, f143, f144, f145, f146, f147, Ov, f148, g_r0, g_f, g_sh, g_ob, g_ka, g_va, ne_r0_f, ne_r0_sh, ne_r0_ob, ne_r0_ka, ne_r0_va, ne_f_sh, ne_f_ob, ne_f_ka, ne_f_va, ne_sh_ob, ne_sh_ka, ne_sh_va, ne_ob_ka, ne_ob_va, ne_ka_va⟩, own_r5 hS hl hc41⟩)⟩
      · skip
        have ks149 : own_R p e below (A0) (T36.setTop (mkF m 67 #[vR r0, vJ q1, .second, vI 0, vI 0, .unset] [])) := fun t k => ks40 t (by
          refine XS.ifNo X36.here hx rfl (hb hby d12_64) rfl ((if0 _ _).trans (feq (fun q => hc41 ((lw_eq _ _).mp q))).1) ?_
          exact k)
        obtain ⟨fs, hr, hrun, hended, hW, hsame⟩ := X36.leave (v := none) (fun _ => rfl) hlk
        refine ⟨_, _, kz _ (ks149 _ ?_), hrun, hended, _, _, rfl, ?_, ⟨_, rfl⟩, hW, hsame.mono (by decide) (by decide)⟩
        · exact X36.returnOut hx Bd.returns (hb hby d12_67) hr
        · show Q12_2 Z r0 q1 y S f sh ob ka va kf ksh kka kva sz z a b h0 n0 _ T36.heap _
          rw [e36]
          exact ⟨rfl, N28, Z0, (fun _ _ q => q.keep (Keep.refl _ [])), Or.inr (Or.inr ⟨_, _, ⟨f, sh, ob, ka, va, _, _, _, _, _, _, E0, Ff, Fsh, Fc, Fz, Vf, Vs, Os, Eo, Fk, Fv, Fn, Vk, Vv, Ov, Ey, g_r0, g_f, g_sh, g_ob, g_ka, g_va, ne_r0_f, ne_r0_sh, ne_r0_ob, ne_r0_ka, ne_r0_va, ne_f_sh, ne_f_ob, ne_f_ka, ne_f_va, ne_sh_ob, ne_sh_ka, ne_sh_va, ne_ob_ka, ne_ob_va, ne_ka_va⟩, hl, own_r3 hS hc41 (own_ltne hc31)⟩)⟩
    · skip
      rw [own_fi2, if_neg hc11, if_neg hc31] at ks30
      have ks150 : own_R p e below (A0) (T28.setTop (mkF m 51 #[vR r0, vJ q1, .second, vI 0, vI 1, .unset] [(.ref r0)])) := fun t k => ks30 t (by
        refine XS.istore X28.here hx rfl (hb hby d12_43) rfl (l' := #[vR r0, vJ q1, .second, vI 0, vI 1, .unset]) rfl ?_
        refine XS.iload X28.here hx rfl (hb hby d12_45) rfl ?_
        refine XS.ifNo X28.here hx rfl (hb hby d12_47) rfl ((if0 _ _).trans (flt (by decide)).1) ?_
        show Steps p.tables e below (T28.setTop (mkF m 50 #[vR r0, vJ q1, .second, vI 0, vI 1, .unset] [])) _
        refine XS.aloadN X28.here hx rfl (hb hby d12_50) rfl rfl ?_
        exact k)
      obtain ⟨T151, X151, e151, st151⟩ := getF X28 hx hZ hown (host := "") (Or.inl (own_w hw 14 rfl)) Via.refl eq28 Fsh (g := (mkF m 51 #[vR r0, vJ q1, .second, vI 0, vI 1, .unset] [(.ref r0)])) rfl rfl (hb hby d12_51)
      have ks152 := own_c ks150 st151
      have ks153 : own_R p e below (A0) (T151.setTop (mkF m 56 #[vR r0, vJ q1, .second, vI 0, vI 1, .unset] [(.ref ob)])) := fun t k => ks152 t (by
        refine XS.iloadN X151.here hx rfl (hb hby d12_54) rfl ?_
        refine X151.aaload hx (j := (0 : Int32)) (v := (.ref ob)) (by rw [e151]; exact Ar17.1) (State.isArrayOf_alike hZ.alike Ar17.2.1) rfl Ar17.2.2 (inb_of S17 ⟨by decide, by decide⟩) (Has.at Ha17 (inb_of S17 ⟨by decide, by decide⟩) rfl) (g := (mkF m 55 #[vR r0, vJ q1, .second, vI 0, vI 1, .unset] [(.int 0), (.ref sh)])) rfl rfl (hb hby d12_55) _ ?_
        exact k)
      obtain ⟨T154, X154, e154, st154⟩ := own_getFR X151 hx hZ hown (own_w hw 69 rfl) e151 Fk (g := (mkF m 56 #[vR r0, vJ q1, .second, vI 0, vI 1, .unset] [(.ref ob)])) rfl rfl (hb hby d12_56)
      have ks155 := own_c ks153 st154
      have ks156 : own_R p e below (A0) (T154.setTop (mkF m 61 #[vR r0, vJ q1, .second, vI 0, vI 1, .unset] [(.int 1), (.ref ka)])) := fun t k => ks155 t (by
        refine XS.iload X154.here hx rfl (hb hby d12_59) rfl ?_
        exact k)
      obtain ⟨cl157, Ar157, qa157, S157, Na157, Ha157, Ga157⟩ := id Vk
      have ks158 : own_R p e below (A0) (T154.setTop (mkF m 64 #[vR r0, vJ q1, .second, vI 0, vI 1, .unset] [(.int (lcmpW b q1))])) := fun t k => ks156 t (by
        refine X154.laload hx (j := (1 : Int32)) (v := (.long b)) (by rw [e154]; exact Ar157.1) (State.isArrayOf_alike hZ.alike Ar157.2.1) Ar157.2.2 (inb_of S157 ⟨by decide, by decide⟩) (Has.at Ha157 (inb_of S157 ⟨by decide, by decide⟩) rfl) (g := (mkF m 61 #[vR r0, vJ q1, .second, vI 0, vI 1, .unset] [(.int 1), (.ref ka)])) rfl rfl (hb hby d12_61) _ ?_
        refine XS.lloadN X154.here hx rfl (hb hby d12_62) rfl ?_
        refine XS.lcmp X154.here hx rfl (hb hby d12_63) rfl ?_
        exact k)
      by_cases hc159 : b = q1
      · skip
        have ks160 : own_R p e below (A0) (T154.setTop (mkF m 69 #[vR r0, vJ q1, .second, vI 0, vI 1, .unset] [(.ref r0)])) := fun t k => ks158 t (by
          refine XS.ifYes X154.here hx rfl (pc0 := 64) (pc' := 68) rfl (hb hby d12_64) rfl ((if0 _ _).trans (teq ((lw_eq _ _).mpr hc159)).1) (by decide) (by decide) ?_
          refine XS.aloadN X154.here hx rfl (hb hby d12_68) rfl rfl ?_
          exact k)
        obtain ⟨T161, X161, e161, st161⟩ := getF X154 hx hZ hown (host := "") (Or.inl (own_w hw 14 rfl)) Via.refl e154 Fsh (g := (mkF m 69 #[vR r0, vJ q1, .second, vI 0, vI 1, .unset] [(.ref r0)])) rfl rfl (hb hby d12_69)
        have ks162 := own_c ks160 st161
        have ks163 : own_R p e below (A0) (T161.setTop (mkF m 78 #[vR r0, vJ q1, .second, vI 0, vI 1, vR ob] [(.ref ob)])) := fun t k => ks162 t (by
          refine XS.iloadN X161.here hx rfl (hb hby d12_72) rfl ?_
          refine X161.aaload hx (j := (0 : Int32)) (v := (.ref ob)) (by rw [e161]; exact Ar17.1) (State.isArrayOf_alike hZ.alike Ar17.2.1) rfl Ar17.2.2 (inb_of S17 ⟨by decide, by decide⟩) (Has.at Ha17 (inb_of S17 ⟨by decide, by decide⟩) rfl) (g := (mkF m 73 #[vR r0, vJ q1, .second, vI 0, vI 1, .unset] [(.int 0), (.ref sh)])) rfl rfl (hb hby d12_73) _ ?_
          refine XS.astore X161.here hx rfl (hb hby d12_74) rfl rfl (l' := #[vR r0, vJ q1, .second, vI 0, vI 1, vR ob]) rfl ?_
          show Steps p.tables e below (T161.setTop (mkF m 76 #[vR r0, vJ q1, .second, vI 0, vI 1, vR ob] [])) _
          refine XS.aload X161.here hx rfl (hb hby d12_76) rfl rfl ?_
          exact k)
        obtain ⟨T164, X164, e164, st164⟩ := own_getFR X161 hx hZ hown (own_w hw 69 rfl) e161 Fk (g := (mkF m 78 #[vR r0, vJ q1, .second, vI 0, vI 1, vR ob] [(.ref ob)])) rfl rfl (hb hby d12_78)
        have ks165 := own_c ks163 st164
        have ks166 : own_R p e below (A0) (T164.setTop (mkF m 87 #[vR r0, vJ q1, .second, vI 0, vI 1, vR ob] [(.ref ob), (.int 2), (.ref ka)])) := fun t k => ks165 t (by
          refine XS.iload X164.here hx rfl (hb hby d12_81) rfl ?_
          refine XS.iconst X164.here hx rfl (hb hby d12_83) ?_
          refine XS.iadd X164.here hx rfl (hb hby d12_84) rfl ?_
          show Steps p.tables e below (T164.setTop (mkF m 85 #[vR r0, vJ q1, .second, vI 0, vI 1, vR ob] [(.int 2), (.ref ka)])) _
          refine XS.aload X164.here hx rfl (hb hby d12_85) rfl rfl ?_
          exact k)
        obtain ⟨T167, X167, e167, st167⟩ := own_getFR X164 hx hZ hown (own_w hw 69 rfl) e164 Fk (g := (mkF m 87 #[vR r0, vJ q1, .second, vI 0, vI 1, vR ob] [(.ref ob), (.int 2), (.ref ka)])) rfl rfl (hb hby d12_87)
        have ks168 := own_c ks166 st167
        have ks169 : own_R p e below (A0) (T167.setTop (mkF m 94 #[vR r0, vJ q1, .second, vI 0, vI 1, vR ob] [(.ref ob), (.int 1), (.ref ka), (.int 2), (.ref ka)])) := fun t k => ks168 t (by
          refine XS.iload X167.here hx rfl (hb hby d12_90) rfl ?_
          refine XS.aload X167.here hx rfl (hb hby d12_92) rfl rfl ?_
          exact k)
        obtain ⟨T170, X170, e170, st170⟩ := own_getFR X167 hx hZ hown (own_w hw 78 rfl) e167 Fn (g := (mkF m 94 #[vR r0, vJ q1, .second, vI 0, vI 1, vR ob] [(.ref ob), (.int 1), (.ref ka), (.int 2), (.ref ka)])) rfl rfl (hb hby d12_94)
        have ks171 := own_c ks169 st170
        have ks172 : own_R p e below (A0) (T170.setTop (mkF m 102 #[vR r0, vJ q1, .second, vI 0, vI 1, vR ob] [(.int 0), (.int 1), (.ref ka), (.int 2), (.ref ka)])) := fun t k => ks171 t (by
          refine XS.iload X170.here hx rfl (hb hby d12_97) rfl ?_
          refine XS.isub X170.here hx rfl (hb hby d12_99) rfl ?_
          refine XS.iconst X170.here hx rfl (hb hby d12_100) ?_
          show Steps p.tables e below (T170.setTop (mkF m 101 #[vR r0, vJ q1, .second, vI 0, vI 1, vR ob] [(.int 1), (.int 1), (.int 1), (.ref ka), (.int 2), (.ref ka)])) _
          refine XS.isub X170.here hx rfl (hb hby d12_101) rfl ?_
          exact k)
        obtain ⟨T173, h173, L173, X173, e173, N173, Kq173, Vr173, st173⟩ := cpA X170 hx hZ hown (own_w hw 65 rfl) (own_w hw 68 rfl) (own_w hw 66 rfl) (own_w hw 67 rfl) e170 Vk Vk (sp := (2 : Int32)) (dp := (1 : Int32)) (nn := (0 : Int32)) (us := []) (Or.inl ⟨rfl, rfl⟩) (by decide) (by decide) (by decide) (by decide) (by decide) rfl (Nat.le_of_ble_eq_true rfl) N28 g_ka (g := (mkF m 102 #[vR r0, vJ q1, .second, vI 0, vI 1, vR ob] [(.int 0), (.int 1), (.ref ka), (.int 2), (.ref ka)])) rfl (by rw [hml]; rfl) (rest := []) rfl (hb hby d12_102) (by decide) (W := 0) (by show 2 * 0 + _ ≤ _; exact Nat.le_of_eq rfl) (by decide)
        have V173 : Arv Z h173 ka kka .long (256 : Int32) [(.long a), (.long b), (.long z)] (.long (0 : Int64)) := Vr173
        have KH173 : Keep h0 h173 [r0, f, sh, ob, ka, va] := (Keep.refl h0 [r0, f, sh, ob, ka, va]).trans Kq173 (allS (Or.inl (List.mem_of_getElem? (i := 4) rfl)) all0)
        have Zn173 : n0 ≤ h173.size := Nat.le_trans Z0 Kq173.1
        have ks174 := own_c ks172 st173
        have ks175 : own_R p e below (A0) (T173.setTop (mkF m 107 #[vR r0, vJ q1, .second, vI 0, vI 1, vR ob] [(.ref ob)])) := fun t k => ks174 t (by
          refine XS.aload X173.here hx rfl (hb hby d12_105) rfl rfl ?_
          exact k)
        have f176 := (Fv.keep Kq173 (ninS ne_ob_ka nin0))
        obtain ⟨T177, X177, e177, st177⟩ := own_getFR X173 hx hZ hown (own_w hw 80 rfl) e173 f176 (g := (mkF m 107 #[vR r0, vJ q1, .second, vI 0, vI 1, vR ob] [(.ref ob)])) rfl rfl (hb hby d12_107)
        have ks178 := own_c ks175 st177
        have ks179 : own_R p e below (A0) (T177.setTop (mkF m 116 #[vR r0, vJ q1, .second, vI 0, vI 1, vR ob] [(.ref ob), (.int 2), (.ref va)])) := fun t k => ks178 t (by
          refine XS.iload X177.here hx rfl (hb hby d12_110) rfl ?_
          refine XS.iconst X177.here hx rfl (hb hby d12_112) ?_
          refine XS.iadd X177.here hx rfl (hb hby d12_113) rfl ?_
          show Steps p.tables e below (T177.setTop (mkF m 114 #[vR r0, vJ q1, .second, vI 0, vI 1, vR ob] [(.int 2), (.ref va)])) _
          refine XS.aload X177.here hx rfl (hb hby d12_114) rfl rfl ?_
          exact k)
        obtain ⟨T180, X180, e180, st180⟩ := own_getFR X177 hx hZ hown (own_w hw 80 rfl) e177 f176 (g := (mkF m 116 #[vR r0, vJ q1, .second, vI 0, vI 1, vR ob] [(.ref ob), (.int 2), (.ref va)])) rfl rfl (hb hby d12_116)
        have ks181 := own_c ks179 st180
        have ks182 : own_R p e below (A0) (T180.setTop (mkF m 123 #[vR r0, vJ q1, .second, vI 0, vI 1, vR ob] [(.ref ob), (.int 1), (.ref va), (.int 2), (.ref va)])) := fun t k => ks181 t (by
          refine XS.iload X180.here hx rfl (hb hby d12_119) rfl ?_
          refine XS.aload X180.here hx rfl (hb hby d12_121) rfl rfl ?_
          exact k)
        have f183 := (Fn.keep Kq173 (ninS ne_ob_ka nin0))
        obtain ⟨T184, X184, e184, st184⟩ := own_getFR X180 hx hZ hown (own_w hw 78 rfl) e180 f183 (g := (mkF m 123 #[vR r0, vJ q1, .second, vI 0, vI 1, vR ob] [(.ref ob), (.int 1), (.ref va), (.int 2), (.ref va)])) rfl rfl (hb hby d12_123)
        have ks185 := own_c ks182 st184
        have ks186 : own_R p e below (A0) (T184.setTop (mkF m 131 #[vR r0, vJ q1, .second, vI 0, vI 1, vR ob] [(.int 0), (.int 1), (.ref va), (.int 2), (.ref va)])) := fun t k => ks185 t (by
          refine XS.iload X184.here hx rfl (hb hby d12_126) rfl ?_
          refine XS.isub X184.here hx rfl (hb hby d12_128) rfl ?_
          refine XS.iconst X184.here hx rfl (hb hby d12_129) ?_
          show Steps p.tables e below (T184.setTop (mkF m 130 #[vR r0, vJ q1, .second, vI 0, vI 1, vR ob] [(.int 1), (.int 1), (.int 1), (.ref va), (.int 2), (.ref va)])) _
          refine XS.isub X184.here hx rfl (hb hby d12_130) rfl ?_
          exact k)
        have f187 := (Vv.keep Kq173 (ninS (Ne.symm ne_ka_va) nin0))
        obtain ⟨T188, h188, L188, X188, e188, N188, Kq188, Vr188, st188⟩ := cpA X184 hx hZ hown (own_w hw 65 rfl) (own_w hw 68 rfl) (own_w hw 66 rfl) (own_w hw 67 rfl) e184 f187 f187 (sp := (2 : Int32)) (dp := (1 : Int32)) (nn := (0 : Int32)) (us := []) (Or.inr ⟨rfl, rfl, trivial⟩) (by decide) (by decide) (by decide) (by decide) (by decide) rfl (Nat.le_of_ble_eq_true rfl) N173 g_va (g := (mkF m 131 #[vR r0, vJ q1, .second, vI 0, vI 1, vR ob] [(.int 0), (.int 1), (.ref va), (.int 2), (.ref va)])) rfl (by rw [hml]; rfl) (rest := []) rfl (hb hby d12_131) (by decide) (W := 0) (by show 2 * 0 + _ ≤ _; exact Nat.le_of_eq rfl) (by decide)
        have V188 : Arv Z h188 va kva (.object "java/lang/Object") (256 : Int32) [(.ref y), (.ref y), .null] .null := Vr188
        have KH188 : Keep h0 h188 [r0, f, sh, ob, ka, va] := KH173.trans Kq188 (allS (Or.inl (List.mem_of_getElem? (i := 5) rfl)) all0)
        have Zn188 : n0 ≤ h188.size := Nat.le_trans Zn173 Kq188.1
        have ks189 := own_c ks186 st188
        have ks190 : own_R p e below (A0) (T188.setTop (mkF m 137 #[vR r0, vJ q1, .second, vI 0, vI 1, vR ob] [(.ref ob), (.ref ob)])) := fun t k => ks189 t (by
          refine XS.aload X188.here hx rfl (hb hby d12_134) rfl rfl ?_
          refine XS.dup X188.here hx rfl (hb hby d12_136) rfl rfl ?_
          exact k)
        have f191 := (f183.keep Kq188 (ninS ne_ob_va nin0))
        obtain ⟨T192, X192, e192, st192⟩ := own_getFR X188 hx hZ hown (own_w hw 78 rfl) e188 f191 (g := (mkF m 137 #[vR r0, vJ q1, .second, vI 0, vI 1, vR ob] [(.ref ob), (.ref ob)])) rfl rfl (hb hby d12_137)
        have ks193 := own_c ks190 st192
        have ks194 : own_R p e below (A0) (T192.setTop (mkF m 142 #[vR r0, vJ q1, .second, vI 0, vI 1, vR ob] [(.int 1), (.ref ob)])) := fun t k => ks193 t (by
          refine XS.iconst X192.here hx rfl (hb hby d12_140) ?_
          refine XS.isub X192.here hx rfl (hb hby d12_141) rfl ?_
          exact k)
        have f195 := Eo.keep KH188
        obtain ⟨T196, h196, X196, e196, W196, st196⟩ := own_putFR X192 hx hZ hown (own_w hw 78 rfl) e192 f191 f195 (own_w hw 79 rfl) (own_w hw 49 rfl) (ty := .int) (by decide) rfl rfl (g := (mkF m 142 #[vR r0, vJ q1, .second, vI 0, vI 1, vR ob] [(.int 1), (.ref ob)])) rfl rfl (hb hby d12_142)
        have Fw196 := f191.same W196
        have KH196 : Keep h0 h196 [r0, f, sh, ob, ka, va] := KH188.wr W196 (Or.inl (List.mem_of_getElem? (i := 3) rfl))
        have Zn196 : n0 ≤ h196.size := Nat.le_trans Zn188 (Keep.of_wr W196).1
        have N196 := Fr.snoc X196 N188 g_ob
        have ks197 := own_c ks194 st196
        have ks198 : own_R p e below (A0) (T196.setTop (mkF m 147 #[vR r0, vJ q1, .second, vI 0, vI 1, vR ob] [(.ref ob)])) := fun t k => ks197 t (by
          refine XS.aload X196.here hx rfl (hb hby d12_145) rfl rfl ?_
          exact k)
        have f199 := ((f176.keep Kq188 (ninS ne_ob_va nin0)).other W196 (Or.inr (slot_ne (Or.inr (own_w hw 60 rfl)) (Or.inl (own_w hw 79 rfl)) (by decide) (t := (.array (.object "java/lang/Object"))) (t' := .int) (by decide) (by decide))))
        obtain ⟨T200, X200, e200, st200⟩ := own_getFR X196 hx hZ hown (own_w hw 80 rfl) e196 f199 (g := (mkF m 147 #[vR r0, vJ q1, .second, vI 0, vI 1, vR ob] [(.ref ob)])) rfl rfl (hb hby d12_147)
        have ks201 := own_c ks198 st200
        have ks202 : own_R p e below (A0) (T200.setTop (mkF m 152 #[vR r0, vJ q1, .second, vI 0, vI 1, vR ob] [(.ref ob), (.ref va)])) := fun t k => ks201 t (by
          refine XS.aload X200.here hx rfl (hb hby d12_150) rfl rfl ?_
          exact k)
        obtain ⟨T203, X203, e203, st203⟩ := own_getFR X200 hx hZ hown (own_w hw 78 rfl) e200 Fw196 (g := (mkF m 152 #[vR r0, vJ q1, .second, vI 0, vI 1, vR ob] [(.ref ob), (.ref va)])) rfl rfl (hb hby d12_152)
        have ks204 := own_c ks202 st203
        have ks205 : own_R p e below (A0) (T203.setTop (mkF m 156 #[vR r0, vJ q1, .second, vI 0, vI 1, vR ob] [.null, (.int 1), (.ref va)])) := fun t k => ks204 t (by
          refine XS.aconstNull X203.here hx rfl (hb hby d12_155) ?_
          exact k)
        have f206 := (V188.other W196 (Ne.symm ne_ob_va))
        obtain ⟨cl207, Ar207, qa207, S207, Na207, Ha207, Ga207⟩ := id f206
        have hin207 : ¬ ((1 : Int32) < 0 ∨ cl207.slots.size ≤ ((1 : Int32)).toNatClampNeg) := inb_of S207 ⟨by decide, by decide⟩
        obtain ⟨T208, h208, X208, e208, W208, st208⟩ := stR X203 hx hZ e203 Ar207 (j := (1 : Int32)) hin207 rfl (Or.inl rfl) (g := (mkF m 156 #[vR r0, vJ q1, .second, vI 0, vI 1, vR ob] [.null, (.int 1), (.ref va)])) rfl rfl (hb hby d12_156)
        have V208 : Arv Z h208 va kva (.object "java/lang/Object") (256 : Int32) [(.ref y), .null, .null] .null := Arv.set Ar207 qa207 S207 Na207 Ha207 Ga207 rfl W208 1 rfl (Nat.le_of_ble_eq_true rfl)
        have KH208 : Keep h0 h208 [r0, f, sh, ob, ka, va] := KH196.wr W208 (Or.inl (List.mem_of_getElem? (i := 5) rfl))
        have Zn208 : n0 ≤ h208.size := Nat.le_trans Zn196 (Keep.of_wr W208).1
        have N208 := Fr.snoc X208 N196 g_va
        have ks209 := own_c ks205 st208
        have ks210 : own_R p e below (A0) (T208.setTop (mkF m 159 #[vR r0, vJ q1, .second, vI 0, vI 1, vR ob] [(.ref r0), (.ref r0)])) := fun t k => ks209 t (by
          refine XS.aloadN X208.here hx rfl (hb hby d12_157) rfl rfl ?_
          refine XS.dup X208.here hx rfl (hb hby d12_158) rfl rfl ?_
          exact k)
        have f211 := ((((Fz.keep Kq173 (ninS ne_r0_ka nin0)).keep Kq188 (ninS ne_r0_va nin0)).other W196 (Or.inl ne_r0_ob)).other W208 (Or.inl ne_r0_va))
        obtain ⟨T212, X212, e212, st212⟩ := getF X208 hx hZ hown (host := "") (Or.inl (own_w hw 82 rfl)) Via.refl e208 f211 (g := (mkF m 159 #[vR r0, vJ q1, .second, vI 0, vI 1, vR ob] [(.ref r0), (.ref r0)])) rfl rfl (hb hby d12_159)
        have ks213 := own_c ks210 st212
        have ks214 : own_R p e below (A0) (T212.setTop (mkF m 164 #[vR r0, vJ q1, .second, vI 0, vI 1, vR ob] [(.int (sz - (1 : Int32))), (.ref r0)])) := fun t k => ks213 t (by
          refine XS.iconst X212.here hx rfl (hb hby d12_162) ?_
          refine XS.isub X212.here hx rfl (hb hby d12_163) rfl ?_
          exact k)
        have f215 := E0.keep KH208
        obtain ⟨T216, h216, X216, e216, W216, st216⟩ := putF X212 hx hZ hown (host := "") (Or.inl (own_w hw 82 rfl)) Via.refl e212 f211 f215 (Or.inl (own_w hw 83 rfl)) (own_w hw 1 rfl) (ty := .int) (by decide) rfl rfl (g := (mkF m 164 #[vR r0, vJ q1, .second, vI 0, vI 1, vR ob] [(.int (sz - (1 : Int32))), (.ref r0)])) rfl rfl (hb hby d12_164)
        have Fw216 := f211.same W216
        have KH216 : Keep h0 h216 [r0, f, sh, ob, ka, va] := KH208.wr W216 (Or.inl (List.mem_of_getElem? (i := 0) rfl))
        have Zn216 : n0 ≤ h216.size := Nat.le_trans Zn208 (Keep.of_wr W216).1
        have N216 := Fr.snoc X216 N208 g_r0
        have ks217 := own_c ks214 st216
        have ks218 : own_R p e below (A0) (T216.setTop (mkF m 169 #[vR r0, vJ q1, .second, vI 0, vI 1, vR ob] [(.ref ob)])) := fun t k => ks217 t (by
          refine XS.aload X216.here hx rfl (hb hby d12_167) rfl rfl ?_
          exact k)
        have f219 := ((Fw196.other W208 (Or.inl ne_ob_va)).other W216 (Or.inl (Ne.symm ne_r0_ob)))
        obtain ⟨T220, X220, e220, st220⟩ := own_getFR X216 hx hZ hown (own_w hw 78 rfl) e216 f219 (g := (mkF m 169 #[vR r0, vJ q1, .second, vI 0, vI 1, vR ob] [(.ref ob)])) rfl rfl (hb hby d12_169)
        have ks221 := own_c ks218 st220
        have ks222 : own_R p e below (A0) (T220.setTop (mkF m 185 #[vR r0, vJ q1, .second, vI 0, vI 1, vR ob] [(.ref ob)])) := fun t k => ks221 t (by
          refine XS.ifYes X220.here hx rfl (pc0 := 172) (pc' := 183) rfl (hb hby d12_172) rfl ((if0 _ _).trans (feq (by decide)).2) (by decide) (by decide) ?_
          refine XS.aload X220.here hx rfl (hb hby d12_183) rfl rfl ?_
          exact k)
        obtain ⟨T223, X223, e223, st223⟩ := own_getFR X220 hx hZ hown (own_w hw 78 rfl) e220 f219 (g := (mkF m 185 #[vR r0, vJ q1, .second, vI 0, vI 1, vR ob] [(.ref ob)])) rfl rfl (hb hby d12_185)
        have ks224 := own_c ks222 st223
        have ks225 : own_R p e below (A0) (T223.setTop (mkF m 195 #[vR r0, vJ q1, .second, vI 0, vI 1, vR ob] [(.int 0), (.ref r0)])) := fun t k => ks224 t (by
          refine XS.bipush X223.here hx rfl (hb hby d12_188) ?_
          refine XS.icmpNo X223.here hx rfl (hb hby d12_190) rfl (flt (by decide)).2.2.1 ?_
          refine XS.aloadN X223.here hx rfl (hb hby d12_193) rfl rfl ?_
          show Steps p.tables e below (T223.setTop (mkF m 194 #[vR r0, vJ q1, .second, vI 0, vI 1, vR ob] [(.ref r0)])) _
          refine XS.iloadN X223.here hx rfl (hb hby d12_194) rfl ?_
          exact k)
        have f227 := (((((Fc.keep Kq173 (ninS ne_r0_ka nin0)).keep Kq188 (ninS ne_r0_va nin0)).other W196 (Or.inl ne_r0_ob)).other W208 (Or.inl ne_r0_va)).other W216 (Or.inr (slot_ne (Or.inl (own_w hw 37 rfl)) (Or.inl (own_w hw 83 rfl)) (by decide) (t := .int) (t' := .int) (by decide) (by decide))))
        have f228 := E0.keep KH216
        obtain ⟨cq226, qc226, qc226'⟩ := f228.cell
        obtain ⟨_, _, ⟨T226, L226, k226, n226⟩, -, X226, ⟨Lc226, hQ226, lq226, yq226, zq226⟩, st226⟩ := X223.privateBack hx (y := (⟨"com/example/thin_feed/thinfeed/store/LongFloorMap", "joins", "(I)Z"⟩ : MethodName)) hown (mvT hZ (own_w hw 104 rfl)) (mvT hZ (own_w hw 105 rfl)) (mvT hZ (own_sel (y := (⟨"com/example/thin_feed/thinfeed/store/LongFloorMap", "joins", "(I)Z"⟩ : MethodName)) (b := (⟨"com/example/thin_feed/thinfeed/store/LongFloorMap", "bytes", "()J"⟩ : MethodName)) (own_w hw 26 rfl) rfl (own_w hw 105 rfl) (own_w hw 106 rfl) (by decide))) (Cond.privateMethod_at (mvP hZ (own_w hw 106 rfl) (args := #[]))) (mvT hZ (own_w hw 107 rfl)) (by decide) (backOf (W := 0) (rm15_z l Z a0 hw [] r0 h216 n0 Zn216 f227) hZ (own_w hw 107 rfl) (own_w hw 2 rfl) (by decide) (by decide)) (g := (mkF m 195 #[vR r0, vJ q1, .second, vI 0, vI 1, vR ob] [(.int 0), (.ref r0)])) rfl (by rw [hml]; rfl) (Steps.refl _) (a := r0) (by rw [e223]; exact qc226) qc226' (argsL := [(.int 0)]) (rest := []) (lenOf pd_12 rfl) rfl (by show 2 * 0 + _ ≤ _; exact Nat.le_of_eq rfl) (hb hby d12_195) (fun _ _ => ⟨rfl, e223, (by decide : 0 + 0 ≤ _), (by decide : 0 + 0 ≤ _)⟩)
        dsimp only [Pt.U, Pt.locs, Pt.cells, Pt.slots] at X226 lq226 yq226 zq226 st226 hQ226
        subst lq226 yq226 zq226
        obtain ⟨rfl, Nq226, eq226⟩ := hQ226
        have N226 := Fr.app N216 Nq226
        have ks229 := own_ct ks225 st226
        have ks230 : own_R p e below (A0) (T226.setTop (mkF m 211 #[vR r0, vJ q1, .second, vI 0, vI 1, vR ob] [(.ref ob)])) := fun t k => ks229 t (by
          refine XS.ifYes X226.here hx rfl (pc0 := 198) (pc' := 209) rfl (hb hby d12_198) rfl ((if0 _ _).trans (teq (by decide)).1) (by decide) (by decide) ?_
          refine XS.aload X226.here hx rfl (hb hby d12_209) rfl rfl ?_
          exact k)
        obtain ⟨T231, X231, e231, st231⟩ := own_getFR X226 hx hZ hown (own_w hw 78 rfl) eq226 f219 (g := (mkF m 211 #[vR r0, vJ q1, .second, vI 0, vI 1, vR ob] [(.ref ob)])) rfl rfl (hb hby d12_211)
        have ks232 := own_c ks230 st231
        have ks233 : own_R p e below (A0) (T231.setTop (mkF m 223 #[vR r0, vJ q1, .second, vI 0, vI 1, vR ob] [(.int (-1)), (.ref r0)])) := fun t k => ks232 t (by
          refine XS.bipush X231.here hx rfl (hb hby d12_214) ?_
          refine XS.icmpNo X231.here hx rfl (hb hby d12_216) rfl (flt (by decide)).2.2.1 ?_
          refine XS.aloadN X231.here hx rfl (hb hby d12_219) rfl rfl ?_
          show Steps p.tables e below (T231.setTop (mkF m 220 #[vR r0, vJ q1, .second, vI 0, vI 1, vR ob] [(.ref r0)])) _
          refine XS.iloadN X231.here hx rfl (hb hby d12_220) rfl ?_
          refine XS.iconst X231.here hx rfl (hb hby d12_221) ?_
          refine XS.isub X231.here hx rfl (hb hby d12_222) rfl ?_
          exact k)
        obtain ⟨cq234, qc234, qc234'⟩ := f228.cell
        obtain ⟨_, _, ⟨T234, L234, k234, n234⟩, -, X234, ⟨Lc234, hQ234, lq234, yq234, zq234⟩, st234⟩ := X231.privateBack hx (y := (⟨"com/example/thin_feed/thinfeed/store/LongFloorMap", "joins", "(I)Z"⟩ : MethodName)) hown (mvT hZ (own_w hw 104 rfl)) (mvT hZ (own_w hw 105 rfl)) (mvT hZ (own_sel (y := (⟨"com/example/thin_feed/thinfeed/store/LongFloorMap", "joins", "(I)Z"⟩ : MethodName)) (b := (⟨"com/example/thin_feed/thinfeed/store/LongFloorMap", "bytes", "()J"⟩ : MethodName)) (own_w hw 26 rfl) rfl (own_w hw 105 rfl) (own_w hw 106 rfl) (by decide))) (Cond.privateMethod_at (mvP hZ (own_w hw 106 rfl) (args := #[]))) (mvT hZ (own_w hw 107 rfl)) (by decide) (backOf (W := 0) (rm15_m l Z a0 hw [] r0 h216 n0 Zn216 f227) hZ (own_w hw 107 rfl) (own_w hw 2 rfl) (by decide) (by decide)) (g := (mkF m 223 #[vR r0, vJ q1, .second, vI 0, vI 1, vR ob] [(.int (-1)), (.ref r0)])) rfl (by rw [hml]; rfl) (Steps.refl _) (a := r0) (by rw [e231]; exact qc234) qc234' (argsL := [(.int (-1))]) (rest := []) (lenOf pd_12 rfl) rfl (by show 2 * 0 + _ ≤ _; exact Nat.le_of_eq rfl) (hb hby d12_223) (fun _ _ => ⟨rfl, e231, (by decide : 0 + 0 ≤ _), (by decide : 0 + 0 ≤ _)⟩)
        dsimp only [Pt.U, Pt.locs, Pt.cells, Pt.slots] at X234 lq234 yq234 zq234 st234 hQ234
        subst lq234 yq234 zq234
        obtain ⟨rfl, Nq234, eq234⟩ := hQ234
        have N234 := Fr.app N226 Nq234
        have ks235 := own_ct ks233 st234
        have ks236 : own_R p e below (A0) (T234.setTop (mkF m 240 #[vR r0, vJ q1, .second, vI 0, vI 1, vR ob] [(.ref r0)])) := fun t k => ks235 t (by
          refine XS.ifYes X234.here hx rfl (pc0 := 226) (pc' := 239) rfl (hb hby d12_226) rfl ((if0 _ _).trans (teq (by decide)).1) (by decide) (by decide) ?_
          refine XS.aloadN X234.here hx rfl (hb hby d12_239) rfl rfl ?_
          exact k)
        have f237 := (((((Ff.keep Kq173 (ninS ne_r0_ka nin0)).keep Kq188 (ninS ne_r0_va nin0)).other W196 (Or.inl ne_r0_ob)).other W208 (Or.inl ne_r0_va)).other W216 (Or.inr (slot_ne (Or.inl (own_w hw 11 rfl)) (Or.inl (own_w hw 83 rfl)) (by decide) (t := (.array .long)) (t' := .int) (by decide) (by decide))))
        obtain ⟨T238, X238, e238, st238⟩ := getF X234 hx hZ hown (host := "") (Or.inl (own_w hw 10 rfl)) Via.refl eq234 f237 (g := (mkF m 240 #[vR r0, vJ q1, .second, vI 0, vI 1, vR ob] [(.ref r0)])) rfl rfl (hb hby d12_240)
        have ks239 := own_c ks236 st238
        have ks240 : own_R p e below (A0) (T238.setTop (mkF m 246 #[vR r0, vJ q1, .second, vI 0, vI 1, vR ob] [(.ref ob), (.int 0), (.ref f)])) := fun t k => ks239 t (by
          refine XS.iloadN X238.here hx rfl (hb hby d12_243) rfl ?_
          refine XS.aload X238.here hx rfl (hb hby d12_244) rfl rfl ?_
          exact k)
        have f241 := (((((Fk.keep Kq173 (ninS ne_ob_ka nin0)).keep Kq188 (ninS ne_ob_va nin0)).other W196 (Or.inr (slot_ne (Or.inr (own_w hw 56 rfl)) (Or.inl (own_w hw 79 rfl)) (by decide) (t := (.array .long)) (t' := .int) (by decide) (by decide)))).other W208 (Or.inl ne_ob_va)).other W216 (Or.inl (Ne.symm ne_r0_ob)))
        obtain ⟨T242, X242, e242, st242⟩ := own_getFR X238 hx hZ hown (own_w hw 69 rfl) e238 f241 (g := (mkF m 246 #[vR r0, vJ q1, .second, vI 0, vI 1, vR ob] [(.ref ob), (.int 0), (.ref f)])) rfl rfl (hb hby d12_246)
        have ks243 := own_c ks240 st242
        have ks244 : own_R p e below (A0) (T242.setTop (mkF m 250 #[vR r0, vJ q1, .second, vI 0, vI 1, vR ob] [(.int 0), (.ref ka), (.int 0), (.ref f)])) := fun t k => ks243 t (by
          refine XS.iconst X242.here hx rfl (hb hby d12_249) ?_
          exact k)
        have f245 := ((((V173.keep Kq188 (ninS ne_ka_va nin0)).other W196 (Ne.symm ne_ob_ka)).other W208 ne_ka_va).other W216 (Ne.symm ne_r0_ka))
        obtain ⟨cl246, Ar246, qa246, S246, Na246, Ha246, Ga246⟩ := id f245
        have ks247 : own_R p e below (A0) (T242.setTop (mkF m 251 #[vR r0, vJ q1, .second, vI 0, vI 1, vR ob] [(.long a), (.int 0), (.ref f)])) := fun t k => ks244 t (by
          refine X242.laload hx (j := (0 : Int32)) (v := (.long a)) (by rw [e242]; exact Ar246.1) (State.isArrayOf_alike hZ.alike Ar246.2.1) Ar246.2.2 (inb_of S246 ⟨by decide, by decide⟩) (Has.at Ha246 (inb_of S246 ⟨by decide, by decide⟩) rfl) (g := (mkF m 250 #[vR r0, vJ q1, .second, vI 0, vI 1, vR ob] [(.int 0), (.ref ka), (.int 0), (.ref f)])) rfl rfl (hb hby d12_250) _ ?_
          exact k)
        have f248 := (((((Vf.keep Kq173 (ninS ne_f_ka nin0)).keep Kq188 (ninS ne_f_va nin0)).other W196 ne_f_ob).other W208 ne_f_va).other W216 (Ne.symm ne_r0_f))
        obtain ⟨cl249, Ar249, qa249, S249, Na249, Ha249, Ga249⟩ := id f248
        have hin249 : ¬ ((0 : Int32) < 0 ∨ cl249.slots.size ≤ ((0 : Int32)).toNatClampNeg) := inb_of S249 ⟨by decide, by decide⟩
        obtain ⟨T250, h250, X250, e250, W250, st250⟩ := stJ X242 hx hZ e242 Ar249 (j := (0 : Int32)) hin249 (g := (mkF m 251 #[vR r0, vJ q1, .second, vI 0, vI 1, vR ob] [(.long a), (.int 0), (.ref f)])) rfl rfl (hb hby d12_251)
        have V250 : Arv Z h250 f kf .long (1 : Int32) [(.long a)] (.long (0 : Int64)) := Arv.set Ar249 qa249 S249 Na249 Ha249 Ga249 rfl W250 0 rfl (Nat.le_of_ble_eq_true rfl)
        have KH250 : Keep h0 h250 [r0, f, sh, ob, ka, va] := KH216.wr W250 (Or.inl (List.mem_of_getElem? (i := 1) rfl))
        have Zn250 : n0 ≤ h250.size := Nat.le_trans Zn216 (Keep.of_wr W250).1
        have N250 := Fr.snoc X250 N234 g_f
        have ks251 := own_c ks247 st250
        obtain ⟨fs, hr, hrun, hended, hW, hsame⟩ := X250.leave (v := none) (fun _ => rfl) hlk
        refine ⟨_, _, kz _ (ks251 _ ?_), hrun, hended, _, _, rfl, ?_, ⟨_, rfl⟩, hW, hsame.mono (by decide) (by decide)⟩
        · exact X250.returnOut hx Bd.returns (hb hby d12_252) hr
        · show Q12_2 Z r0 q1 y S f sh ob ka va kf ksh kka kva sz z a b h0 n0 _ T250.heap _
          rw [e250]
          have f252 := E0.keep KH250
          have f253 := (f237.other W250 (Or.inl ne_r0_f))
          have f254 := ((((((Fsh.keep Kq173 (ninS ne_r0_ka nin0)).keep Kq188 (ninS ne_r0_va nin0)).other W196 (Or.inl ne_r0_ob)).other W208 (Or.inl ne_r0_va)).other W216 (Or.inr (slot_ne (Or.inl (own_w hw 15 rfl)) (Or.inl (own_w hw 83 rfl)) (by decide) (t := (.array (.object "com/example/thin_feed/thinfeed/store/LongFloorMap$Shelf"))) (t' := .int) (by decide) (by decide)))).other W250 (Or.inl ne_r0_f))
          have f255 := (f227.other W250 (Or.inl ne_r0_f))
          have f256 := (Fw216.other W250 (Or.inl ne_r0_f))
          have f257 := ((((((Vs.keep Kq173 (ninS ne_sh_ka nin0)).keep Kq188 (ninS ne_sh_va nin0)).other W196 ne_sh_ob).other W208 ne_sh_va).other W216 (Ne.symm ne_r0_sh)).other W250 (Ne.symm ne_f_sh))
          have f258 := Eo.keep KH250
          have f259 := (f241.other W250 (Or.inl (Ne.symm ne_f_ob)))
          have f260 := (((f199.other W208 (Or.inl ne_ob_va)).other W216 (Or.inl (Ne.symm ne_r0_ob))).other W250 (Or.inl (Ne.symm ne_f_ob)))
          have f261 := (f219.other W250 (Or.inl (Ne.symm ne_f_ob)))
          have f262 := (f245.other W250 (Ne.symm ne_f_ka))
          have f263 := ((V208.other W216 (Ne.symm ne_r0_va)).other W250 (Ne.symm ne_f_va))
          have f264 := Ey.keep KH250
          exact ⟨rfl, N250, Zn250, (fun _ _ q => q.keep KH250), Or.inr (Or.inl ⟨_, _, ⟨f, sh, ob, ka, va, _, _, _, _, _, _, f252, f253, f254, f255, f256, V250, f257, Os, f258, f259, f260, f261, f262, f263, Ov, f264, g_r0, g_f, g_sh, g_ob, g_ka, g_va, ne_r0_f, ne_r0_sh, ne_r0_ob, ne_r0_ka, ne_r0_va, ne_f_sh, ne_f_ob, ne_f_ka, ne_f_va, ne_sh_ob, ne_sh_ka, ne_sh_va, ne_ob_ka, ne_ob_va, ne_ka_va⟩, own_r4 hS hl hc159⟩)⟩
      · skip
        have ks265 : own_R p e below (A0) (T154.setTop (mkF m 67 #[vR r0, vJ q1, .second, vI 0, vI 1, .unset] [])) := fun t k => ks158 t (by
          refine XS.ifNo X154.here hx rfl (hb hby d12_64) rfl ((if0 _ _).trans (feq (fun q => hc159 ((lw_eq _ _).mp q))).1) ?_
          exact k)
        obtain ⟨fs, hr, hrun, hended, hW, hsame⟩ := X154.leave (v := none) (fun _ => rfl) hlk
        refine ⟨_, _, kz _ (ks265 _ ?_), hrun, hended, _, _, rfl, ?_, ⟨_, rfl⟩, hW, hsame.mono (by decide) (by decide)⟩
        · exact X154.returnOut hx Bd.returns (hb hby d12_67) hr
        · show Q12_2 Z r0 q1 y S f sh ob ka va kf ksh kka kva sz z a b h0 n0 _ T154.heap _
          rw [e154]
          exact ⟨rfl, N28, Z0, (fun _ _ q => q.keep (Keep.refl _ [])), Or.inr (Or.inr ⟨_, _, ⟨f, sh, ob, ka, va, _, _, _, _, _, _, E0, Ff, Fsh, Fc, Fz, Vf, Vs, Os, Eo, Fk, Fv, Fn, Vk, Vv, Ov, Ey, g_r0, g_f, g_sh, g_ob, g_ka, g_va, ne_r0_f, ne_r0_sh, ne_r0_ob, ne_r0_ka, ne_r0_va, ne_f_sh, ne_f_ob, ne_f_ka, ne_f_va, ne_sh_ob, ne_sh_ka, ne_sh_va, ne_ob_ka, ne_ob_va, ne_ka_va⟩, hl, own_r3 hS (own_lt3 hc31 hl) hc159⟩)⟩
theorem rm12M (l : Launch) (Z : State) (a0 : Array Value) (hw : ∀ d ∈ tables_1, d.before a0 Z = true) (ws : List Jvm.Cond) (r0 : Addr) (q1 : Int64) (y : Addr) (S : Int64 → Prop) (h0 : Heap) (n0 : Nat) (Z0 : n0 ≤ h0.size) (hM : own_M Z h0 n0 r0 y S) :
    MetFree l (⟨"com/example/thin_feed/thinfeed/store/LongFloorMap", "remove", "(J)V"⟩ : MethodName) (head1 (Jvm.Cond.code (⟨"com/example/thin_feed/thinfeed/store/LongFloorMap", "remove", "(J)V"⟩ : MethodName) prog_25_method_7_code 6 none :: ws) ({ frames := 2, cells := 0, slots := 0, locals := 31 } : Room)) (fun a U => a = #[(.ref r0), (.long q1)] ∧ Z.Warmed39 U.vm ∧ U.heap = h0) (fun _ _ _ _ _ => True) (fun _ U o U' => ∃ v L, o = .returned v ∧ own_RQ Z r0 q1 y S h0 n0 v U'.heap L ∧ FrameEnd U o U' L ({ frames := 2, cells := 0, slots := 0, locals := 31 } : Room).cells ({ frames := 2, cells := 0, slots := 0, locals := 31 } : Room).slots) := by
  rcases hM with ⟨⟨f, sh, kf, ksh, sz, x, E0, Ff, Fsh, Fc, Fz, Vf, Vs, Os, g_r0, g_f, g_sh, ne_r0_f, ne_r0_sh, ne_f_sh⟩, hS⟩ | ⟨a, b, ⟨f, sh, ob, ka, va, kf, ksh, kka, kva, sz, z, E0, Ff, Fsh, Fc, Fz, Vf, Vs, Os, Eo, Fk, Fv, Fn, Vk, Vv, Ov, Ey, g_r0, g_f, g_sh, g_ob, g_ka, g_va, ne_r0_f, ne_r0_sh, ne_r0_ob, ne_r0_ka, ne_r0_va, ne_f_sh, ne_f_ob, ne_f_ka, ne_f_va, ne_sh_ob, ne_sh_ka, ne_sh_va, ne_ob_ka, ne_ob_va, ne_ka_va⟩, hS⟩ | ⟨a, b, ⟨f, sh, ob, ka, va, kf, ksh, kka, kva, sz, z, E0, Ff, Fsh, Fc, Fz, Vf, Vs, Os, Eo, Fk, Fv, Fn, Vk, Vv, Ov, Ey, g_r0, g_f, g_sh, g_ob, g_ka, g_va, ne_r0_f, ne_r0_sh, ne_r0_ob, ne_r0_ka, ne_r0_va, ne_f_sh, ne_f_ob, ne_f_ka, ne_f_va, ne_sh_ob, ne_sh_ka, ne_sh_va, ne_ob_ka, ne_ob_va, ne_ka_va⟩, hl, hS⟩
  · exact rm12_0 l Z a0 hw ws r0 q1 y S f sh kf ksh sz x h0 n0 Z0 E0 Ff Fsh Fc Fz Vf Vs Os g_r0 g_f g_sh ne_r0_f ne_r0_sh ne_f_sh hS
  · exact rm12_1 l Z a0 hw ws r0 q1 y S f sh ob ka va kf ksh kka kva sz z a b h0 n0 Z0 E0 Ff Fsh Fc Fz Vf Vs Os Eo Fk Fv Fn Vk Vv Ov Ey g_r0 g_f g_sh g_ob g_ka g_va ne_r0_f ne_r0_sh ne_r0_ob ne_r0_ka ne_r0_va ne_f_sh ne_f_ob ne_f_ka ne_f_va ne_sh_ob ne_sh_ka ne_sh_va ne_ob_ka ne_ob_va ne_ka_va hS
  · exact rm12_2 l Z a0 hw ws r0 q1 y S f sh ob ka va kf ksh kka kva sz z a b h0 n0 Z0 E0 Ff Fsh Fc Fz Vf Vs Os Eo Fk Fv Fn Vk Vv Ov Ey g_r0 g_f g_sh g_ob g_ka g_va ne_r0_f ne_r0_sh ne_r0_ob ne_r0_ka ne_r0_va ne_f_sh ne_f_ob ne_f_ka ne_f_va ne_sh_ob ne_sh_ka ne_sh_va ne_ob_ka ne_ob_va ne_ka_va hl hS
theorem own_fin {c e : Int32} {S : Int64 → Prop} (h : (c = 0 ∧ ∀ x, ¬ S x) ∨ (c = 1 ∧ ∃ x, S x)) (h0 : e = 0 → ∀ x, ¬ S x) (h1 : ¬ e = 0 → ∃ x, S x) : own_by c = own_exp e := by
  by_cases he : e = 0
  · rcases h with ⟨rfl, -⟩ | ⟨-, x, hx⟩
    · subst he; decide
    · exact absurd hx (h0 he x)
  · rcases h with ⟨-, q⟩ | ⟨rfl, -⟩
    · obtain ⟨x, hx⟩ := h1 he; exact absurd hx (q x)
    · unfold own_exp; rw [if_neg he]; decide
theorem own_leaf_0 (q0 q1 q2 : Int64) (p3 : Int32) : ((0 : Int32) = 0 → ∀ x : Int64, ¬ (False)) ∧ (¬ (0 : Int32) = 0 → ∃ x : Int64, False) := by
  subst_vars
  refine ⟨fun he => ?_, fun he => ?_⟩ <;> rcases own_ec q2 q0 with a1 | ⟨a1, b1⟩ <;> rcases own_ec q2 q1 with a2 | ⟨a2, b2⟩ <;> rcases own_ec q1 q0 with a3 | ⟨a3, b3⟩ <;> (try subst a1) <;> (try subst a2) <;> (try subst a3) <;> simp_all [or_and_right, exists_or, and_assoc, not_or, forall_and, or_imp]
theorem own_leaf_1 (q0 q1 q2 : Int64) (p3 : Int32) (v23 : Int32) (v29 : Int32) (hv23 : v23 = (if (p3 &&& (1 : Int32)) = (0 : Int32) then (0 : Int32) else (1 : Int32))) (hv29 : v29 = (if (p3 &&& (2 : Int32)) = (0 : Int32) then (0 : Int32) else (1 : Int32))) (hc35 : v23 = (0 : Int32)) (hc37 : v29 = (0 : Int32)) : ((0 : Int32) = 0 → ∀ x : Int64, ¬ (False)) ∧ (¬ (0 : Int32) = 0 → ∃ x : Int64, False) := by
  subst_vars
  refine ⟨fun he => ?_, fun he => ?_⟩ <;> rcases own_ec q2 q0 with a1 | ⟨a1, b1⟩ <;> rcases own_ec q2 q1 with a2 | ⟨a2, b2⟩ <;> rcases own_ec q1 q0 with a3 | ⟨a3, b3⟩ <;> (try subst a1) <;> (try subst a2) <;> (try subst a3) <;> simp_all [or_and_right, exists_or, and_assoc, not_or, forall_and, or_imp]
theorem own_leaf_2 (q0 q1 q2 : Int64) (p3 : Int32) (v23 : Int32) (v29 : Int32) (hv23 : v23 = (if (p3 &&& (1 : Int32)) = (0 : Int32) then (0 : Int32) else (1 : Int32))) (hv29 : v29 = (if (p3 &&& (2 : Int32)) = (0 : Int32) then (0 : Int32) else (1 : Int32))) (hc35 : v23 = (0 : Int32)) (hc37 : v29 = (0 : Int32)) (hc48 : (p3 &&& (4 : Int32)) = (0 : Int32)) (hc50 : (p3 &&& (8 : Int32)) = (0 : Int32)) : ((0 : Int32) = 0 → ∀ x : Int64, ¬ (False)) ∧ (¬ (0 : Int32) = 0 → ∃ x : Int64, False) := by
  subst_vars
  refine ⟨fun he => ?_, fun he => ?_⟩ <;> rcases own_ec q2 q0 with a1 | ⟨a1, b1⟩ <;> rcases own_ec q2 q1 with a2 | ⟨a2, b2⟩ <;> rcases own_ec q1 q0 with a3 | ⟨a3, b3⟩ <;> (try subst a1) <;> (try subst a2) <;> (try subst a3) <;> simp_all [or_and_right, exists_or, and_assoc, not_or, forall_and, or_imp]
theorem own_leaf_3 (q0 q1 q2 : Int64) (p3 : Int32) (v23 : Int32) (v29 : Int32) (v65 : Int32) (v76 : Int32) (hv23 : v23 = (if (p3 &&& (1 : Int32)) = (0 : Int32) then (0 : Int32) else (1 : Int32))) (hv29 : v29 = (if (p3 &&& (2 : Int32)) = (0 : Int32) then (0 : Int32) else (1 : Int32))) (hv65 : v65 = (if q1 = q0 then (0 : Int32) else v29)) (hv76 : v76 = (if v65 = (0 : Int32) then (0 : Int32) else (1 : Int32))) (hc35 : v23 = (0 : Int32)) (hc37 : v29 = (0 : Int32)) (hc48 : (p3 &&& (4 : Int32)) = (0 : Int32)) (hc50 : ¬ (p3 &&& (8 : Int32)) = (0 : Int32)) : (v76 = 0 → ∀ x : Int64, ¬ ((False) ∧ x ≠ q0)) ∧ (¬ v76 = 0 → ∃ x : Int64, (False) ∧ x ≠ q0) := by
  subst_vars
  refine ⟨fun he => ?_, fun he => ?_⟩ <;> rcases own_ec q2 q0 with a1 | ⟨a1, b1⟩ <;> rcases own_ec q2 q1 with a2 | ⟨a2, b2⟩ <;> rcases own_ec q1 q0 with a3 | ⟨a3, b3⟩ <;> (try subst a1) <;> (try subst a2) <;> (try subst a3) <;> simp_all [or_and_right, exists_or, and_assoc, not_or, forall_and, or_imp]
theorem own_leaf_4 (q0 q1 q2 : Int64) (p3 : Int32) (v23 : Int32) (v29 : Int32) (v90 : Int32) (v96 : Int32) (v110 : Int32) (hv23 : v23 = (if (p3 &&& (1 : Int32)) = (0 : Int32) then (0 : Int32) else (1 : Int32))) (hv29 : v29 = (if (p3 &&& (2 : Int32)) = (0 : Int32) then (0 : Int32) else (1 : Int32))) (hv90 : v90 = (if q2 = q0 then (0 : Int32) else v23)) (hv96 : v96 = (if q2 = q1 then (0 : Int32) else v29)) (hv110 : v110 = (if v90 = (0 : Int32) then (if v96 = (0 : Int32) then (0 : Int32) else (1 : Int32)) else (1 : Int32))) (hc35 : v23 = (0 : Int32)) (hc37 : v29 = (0 : Int32)) (hc48 : ¬ (p3 &&& (4 : Int32)) = (0 : Int32)) (hc102 : (p3 &&& (8 : Int32)) = (0 : Int32)) : (v110 = 0 → ∀ x : Int64, ¬ ((False) ∧ x ≠ q2)) ∧ (¬ v110 = 0 → ∃ x : Int64, (False) ∧ x ≠ q2) := by
  subst_vars
  refine ⟨fun he => ?_, fun he => ?_⟩ <;> rcases own_ec q2 q0 with a1 | ⟨a1, b1⟩ <;> rcases own_ec q2 q1 with a2 | ⟨a2, b2⟩ <;> rcases own_ec q1 q0 with a3 | ⟨a3, b3⟩ <;> (try subst a1) <;> (try subst a2) <;> (try subst a3) <;> simp_all [or_and_right, exists_or, and_assoc, not_or, forall_and, or_imp]
theorem own_leaf_5 (q0 q1 q2 : Int64) (p3 : Int32) (v23 : Int32) (v29 : Int32) (v90 : Int32) (v96 : Int32) (v126 : Int32) (v137 : Int32) (hv23 : v23 = (if (p3 &&& (1 : Int32)) = (0 : Int32) then (0 : Int32) else (1 : Int32))) (hv29 : v29 = (if (p3 &&& (2 : Int32)) = (0 : Int32) then (0 : Int32) else (1 : Int32))) (hv90 : v90 = (if q2 = q0 then (0 : Int32) else v23)) (hv96 : v96 = (if q2 = q1 then (0 : Int32) else v29)) (hv126 : v126 = (if q1 = q0 then (0 : Int32) else v96)) (hv137 : v137 = (if v126 = (0 : Int32) then (0 : Int32) else (1 : Int32))) (hc35 : v23 = (0 : Int32)) (hc37 : v29 = (0 : Int32)) (hc48 : ¬ (p3 &&& (4 : Int32)) = (0 : Int32)) (hc102 : ¬ (p3 &&& (8 : Int32)) = (0 : Int32)) : (v137 = 0 → ∀ x : Int64, ¬ (((False) ∧ x ≠ q2) ∧ x ≠ q0)) ∧ (¬ v137 = 0 → ∃ x : Int64, ((False) ∧ x ≠ q2) ∧ x ≠ q0) := by
  subst_vars
  refine ⟨fun he => ?_, fun he => ?_⟩ <;> rcases own_ec q2 q0 with a1 | ⟨a1, b1⟩ <;> rcases own_ec q2 q1 with a2 | ⟨a2, b2⟩ <;> rcases own_ec q1 q0 with a3 | ⟨a3, b3⟩ <;> (try subst a1) <;> (try subst a2) <;> (try subst a3) <;> simp_all [or_and_right, exists_or, and_assoc, not_or, forall_and, or_imp]
theorem own_leaf_6 (q0 q1 q2 : Int64) (p3 : Int32) (v23 : Int32) (v29 : Int32) (hv23 : v23 = (if (p3 &&& (1 : Int32)) = (0 : Int32) then (0 : Int32) else (1 : Int32))) (hv29 : v29 = (if (p3 &&& (2 : Int32)) = (0 : Int32) then (0 : Int32) else (1 : Int32))) (hc35 : v23 = (0 : Int32)) (hc37 : ¬ v29 = (0 : Int32)) : ((1 : Int32) = 0 → ∀ x : Int64, ¬ (x = q1)) ∧ (¬ (1 : Int32) = 0 → ∃ x : Int64, x = q1) := by
  subst_vars
  refine ⟨fun he => ?_, fun he => ?_⟩ <;> rcases own_ec q2 q0 with a1 | ⟨a1, b1⟩ <;> rcases own_ec q2 q1 with a2 | ⟨a2, b2⟩ <;> rcases own_ec q1 q0 with a3 | ⟨a3, b3⟩ <;> (try subst a1) <;> (try subst a2) <;> (try subst a3) <;> simp_all [or_and_right, exists_or, and_assoc, not_or, forall_and, or_imp]
theorem own_leaf_7 (q0 q1 q2 : Int64) (p3 : Int32) (v23 : Int32) (v29 : Int32) (hv23 : v23 = (if (p3 &&& (1 : Int32)) = (0 : Int32) then (0 : Int32) else (1 : Int32))) (hv29 : v29 = (if (p3 &&& (2 : Int32)) = (0 : Int32) then (0 : Int32) else (1 : Int32))) (hc35 : v23 = (0 : Int32)) (hc37 : ¬ v29 = (0 : Int32)) (hc162 : (p3 &&& (4 : Int32)) = (0 : Int32)) (hc164 : (p3 &&& (8 : Int32)) = (0 : Int32)) : ((1 : Int32) = 0 → ∀ x : Int64, ¬ (x = q1)) ∧ (¬ (1 : Int32) = 0 → ∃ x : Int64, x = q1) := by
  subst_vars
  refine ⟨fun he => ?_, fun he => ?_⟩ <;> rcases own_ec q2 q0 with a1 | ⟨a1, b1⟩ <;> rcases own_ec q2 q1 with a2 | ⟨a2, b2⟩ <;> rcases own_ec q1 q0 with a3 | ⟨a3, b3⟩ <;> (try subst a1) <;> (try subst a2) <;> (try subst a3) <;> simp_all [or_and_right, exists_or, and_assoc, not_or, forall_and, or_imp]
theorem own_leaf_8 (q0 q1 q2 : Int64) (p3 : Int32) (v23 : Int32) (v29 : Int32) (v179 : Int32) (v190 : Int32) (hv23 : v23 = (if (p3 &&& (1 : Int32)) = (0 : Int32) then (0 : Int32) else (1 : Int32))) (hv29 : v29 = (if (p3 &&& (2 : Int32)) = (0 : Int32) then (0 : Int32) else (1 : Int32))) (hv179 : v179 = (if q1 = q0 then (0 : Int32) else v29)) (hv190 : v190 = (if v179 = (0 : Int32) then (0 : Int32) else (1 : Int32))) (hc35 : v23 = (0 : Int32)) (hc37 : ¬ v29 = (0 : Int32)) (hc162 : (p3 &&& (4 : Int32)) = (0 : Int32)) (hc164 : ¬ (p3 &&& (8 : Int32)) = (0 : Int32)) : (v190 = 0 → ∀ x : Int64, ¬ ((x = q1) ∧ x ≠ q0)) ∧ (¬ v190 = 0 → ∃ x : Int64, (x = q1) ∧ x ≠ q0) := by
  subst_vars
  refine ⟨fun he => ?_, fun he => ?_⟩ <;> rcases own_ec q2 q0 with a1 | ⟨a1, b1⟩ <;> rcases own_ec q2 q1 with a2 | ⟨a2, b2⟩ <;> rcases own_ec q1 q0 with a3 | ⟨a3, b3⟩ <;> (try subst a1) <;> (try subst a2) <;> (try subst a3) <;> simp_all [or_and_right, exists_or, and_assoc, not_or, forall_and, or_imp]
theorem own_leaf_9 (q0 q1 q2 : Int64) (p3 : Int32) (v23 : Int32) (v29 : Int32) (v204 : Int32) (v210 : Int32) (v224 : Int32) (hv23 : v23 = (if (p3 &&& (1 : Int32)) = (0 : Int32) then (0 : Int32) else (1 : Int32))) (hv29 : v29 = (if (p3 &&& (2 : Int32)) = (0 : Int32) then (0 : Int32) else (1 : Int32))) (hv204 : v204 = (if q2 = q0 then (0 : Int32) else v23)) (hv210 : v210 = (if q2 = q1 then (0 : Int32) else v29)) (hv224 : v224 = (if v204 = (0 : Int32) then (if v210 = (0 : Int32) then (0 : Int32) else (1 : Int32)) else (1 : Int32))) (hc35 : v23 = (0 : Int32)) (hc37 : ¬ v29 = (0 : Int32)) (hc162 : ¬ (p3 &&& (4 : Int32)) = (0 : Int32)) (hc216 : (p3 &&& (8 : Int32)) = (0 : Int32)) : (v224 = 0 → ∀ x : Int64, ¬ ((x = q1) ∧ x ≠ q2)) ∧ (¬ v224 = 0 → ∃ x : Int64, (x = q1) ∧ x ≠ q2) := by
  subst_vars
  refine ⟨fun he => ?_, fun he => ?_⟩ <;> rcases own_ec q2 q0 with a1 | ⟨a1, b1⟩ <;> rcases own_ec q2 q1 with a2 | ⟨a2, b2⟩ <;> rcases own_ec q1 q0 with a3 | ⟨a3, b3⟩ <;> (try subst a1) <;> (try subst a2) <;> (try subst a3) <;> simp_all [or_and_right, exists_or, and_assoc, not_or, forall_and, or_imp]
theorem own_leaf_10 (q0 q1 q2 : Int64) (p3 : Int32) (v23 : Int32) (v29 : Int32) (v204 : Int32) (v210 : Int32) (v240 : Int32) (v251 : Int32) (hv23 : v23 = (if (p3 &&& (1 : Int32)) = (0 : Int32) then (0 : Int32) else (1 : Int32))) (hv29 : v29 = (if (p3 &&& (2 : Int32)) = (0 : Int32) then (0 : Int32) else (1 : Int32))) (hv204 : v204 = (if q2 = q0 then (0 : Int32) else v23)) (hv210 : v210 = (if q2 = q1 then (0 : Int32) else v29)) (hv240 : v240 = (if q1 = q0 then (0 : Int32) else v210)) (hv251 : v251 = (if v240 = (0 : Int32) then (0 : Int32) else (1 : Int32))) (hc35 : v23 = (0 : Int32)) (hc37 : ¬ v29 = (0 : Int32)) (hc162 : ¬ (p3 &&& (4 : Int32)) = (0 : Int32)) (hc216 : ¬ (p3 &&& (8 : Int32)) = (0 : Int32)) : (v251 = 0 → ∀ x : Int64, ¬ (((x = q1) ∧ x ≠ q2) ∧ x ≠ q0)) ∧ (¬ v251 = 0 → ∃ x : Int64, ((x = q1) ∧ x ≠ q2) ∧ x ≠ q0) := by
  subst_vars
  refine ⟨fun he => ?_, fun he => ?_⟩ <;> rcases own_ec q2 q0 with a1 | ⟨a1, b1⟩ <;> rcases own_ec q2 q1 with a2 | ⟨a2, b2⟩ <;> rcases own_ec q1 q0 with a3 | ⟨a3, b3⟩ <;> (try subst a1) <;> (try subst a2) <;> (try subst a3) <;> simp_all [or_and_right, exists_or, and_assoc, not_or, forall_and, or_imp]
theorem own_leaf_11 (q0 q1 q2 : Int64) (p3 : Int32) (v23 : Int32) (v29 : Int32) (hv23 : v23 = (if (p3 &&& (1 : Int32)) = (0 : Int32) then (0 : Int32) else (1 : Int32))) (hv29 : v29 = (if (p3 &&& (2 : Int32)) = (0 : Int32) then (0 : Int32) else (1 : Int32))) (hc35 : ¬ v23 = (0 : Int32)) (hc266 : v29 = (0 : Int32)) : ((1 : Int32) = 0 → ∀ x : Int64, ¬ (x = q0)) ∧ (¬ (1 : Int32) = 0 → ∃ x : Int64, x = q0) := by
  subst_vars
  refine ⟨fun he => ?_, fun he => ?_⟩ <;> rcases own_ec q2 q0 with a1 | ⟨a1, b1⟩ <;> rcases own_ec q2 q1 with a2 | ⟨a2, b2⟩ <;> rcases own_ec q1 q0 with a3 | ⟨a3, b3⟩ <;> (try subst a1) <;> (try subst a2) <;> (try subst a3) <;> simp_all [or_and_right, exists_or, and_assoc, not_or, forall_and, or_imp]
theorem own_leaf_12 (q0 q1 q2 : Int64) (p3 : Int32) (v23 : Int32) (v29 : Int32) (hv23 : v23 = (if (p3 &&& (1 : Int32)) = (0 : Int32) then (0 : Int32) else (1 : Int32))) (hv29 : v29 = (if (p3 &&& (2 : Int32)) = (0 : Int32) then (0 : Int32) else (1 : Int32))) (hc35 : ¬ v23 = (0 : Int32)) (hc266 : v29 = (0 : Int32)) (hc278 : (p3 &&& (4 : Int32)) = (0 : Int32)) (hc280 : (p3 &&& (8 : Int32)) = (0 : Int32)) : ((1 : Int32) = 0 → ∀ x : Int64, ¬ (x = q0)) ∧ (¬ (1 : Int32) = 0 → ∃ x : Int64, x = q0) := by
  subst_vars
  refine ⟨fun he => ?_, fun he => ?_⟩ <;> rcases own_ec q2 q0 with a1 | ⟨a1, b1⟩ <;> rcases own_ec q2 q1 with a2 | ⟨a2, b2⟩ <;> rcases own_ec q1 q0 with a3 | ⟨a3, b3⟩ <;> (try subst a1) <;> (try subst a2) <;> (try subst a3) <;> simp_all [or_and_right, exists_or, and_assoc, not_or, forall_and, or_imp]
theorem own_leaf_13 (q0 q1 q2 : Int64) (p3 : Int32) (v23 : Int32) (v29 : Int32) (v295 : Int32) (v306 : Int32) (hv23 : v23 = (if (p3 &&& (1 : Int32)) = (0 : Int32) then (0 : Int32) else (1 : Int32))) (hv29 : v29 = (if (p3 &&& (2 : Int32)) = (0 : Int32) then (0 : Int32) else (1 : Int32))) (hv295 : v295 = (if q1 = q0 then (0 : Int32) else v29)) (hv306 : v306 = (if v295 = (0 : Int32) then (0 : Int32) else (1 : Int32))) (hc35 : ¬ v23 = (0 : Int32)) (hc266 : v29 = (0 : Int32)) (hc278 : (p3 &&& (4 : Int32)) = (0 : Int32)) (hc280 : ¬ (p3 &&& (8 : Int32)) = (0 : Int32)) : (v306 = 0 → ∀ x : Int64, ¬ ((x = q0) ∧ x ≠ q0)) ∧ (¬ v306 = 0 → ∃ x : Int64, (x = q0) ∧ x ≠ q0) := by
  subst_vars
  refine ⟨fun he => ?_, fun he => ?_⟩ <;> rcases own_ec q2 q0 with a1 | ⟨a1, b1⟩ <;> rcases own_ec q2 q1 with a2 | ⟨a2, b2⟩ <;> rcases own_ec q1 q0 with a3 | ⟨a3, b3⟩ <;> (try subst a1) <;> (try subst a2) <;> (try subst a3) <;> simp_all [or_and_right, exists_or, and_assoc, not_or, forall_and, or_imp]
theorem own_leaf_14 (q0 q1 q2 : Int64) (p3 : Int32) (v23 : Int32) (v29 : Int32) (v320 : Int32) (v326 : Int32) (v340 : Int32) (hv23 : v23 = (if (p3 &&& (1 : Int32)) = (0 : Int32) then (0 : Int32) else (1 : Int32))) (hv29 : v29 = (if (p3 &&& (2 : Int32)) = (0 : Int32) then (0 : Int32) else (1 : Int32))) (hv320 : v320 = (if q2 = q0 then (0 : Int32) else v23)) (hv326 : v326 = (if q2 = q1 then (0 : Int32) else v29)) (hv340 : v340 = (if v320 = (0 : Int32) then (if v326 = (0 : Int32) then (0 : Int32) else (1 : Int32)) else (1 : Int32))) (hc35 : ¬ v23 = (0 : Int32)) (hc266 : v29 = (0 : Int32)) (hc278 : ¬ (p3 &&& (4 : Int32)) = (0 : Int32)) (hc332 : (p3 &&& (8 : Int32)) = (0 : Int32)) : (v340 = 0 → ∀ x : Int64, ¬ ((x = q0) ∧ x ≠ q2)) ∧ (¬ v340 = 0 → ∃ x : Int64, (x = q0) ∧ x ≠ q2) := by
  subst_vars
  refine ⟨fun he => ?_, fun he => ?_⟩ <;> rcases own_ec q2 q0 with a1 | ⟨a1, b1⟩ <;> rcases own_ec q2 q1 with a2 | ⟨a2, b2⟩ <;> rcases own_ec q1 q0 with a3 | ⟨a3, b3⟩ <;> (try subst a1) <;> (try subst a2) <;> (try subst a3) <;> simp_all [or_and_right, exists_or, and_assoc, not_or, forall_and, or_imp]
theorem own_leaf_15 (q0 q1 q2 : Int64) (p3 : Int32) (v23 : Int32) (v29 : Int32) (v320 : Int32) (v326 : Int32) (v356 : Int32) (v367 : Int32) (hv23 : v23 = (if (p3 &&& (1 : Int32)) = (0 : Int32) then (0 : Int32) else (1 : Int32))) (hv29 : v29 = (if (p3 &&& (2 : Int32)) = (0 : Int32) then (0 : Int32) else (1 : Int32))) (hv320 : v320 = (if q2 = q0 then (0 : Int32) else v23)) (hv326 : v326 = (if q2 = q1 then (0 : Int32) else v29)) (hv356 : v356 = (if q1 = q0 then (0 : Int32) else v326)) (hv367 : v367 = (if v356 = (0 : Int32) then (0 : Int32) else (1 : Int32))) (hc35 : ¬ v23 = (0 : Int32)) (hc266 : v29 = (0 : Int32)) (hc278 : ¬ (p3 &&& (4 : Int32)) = (0 : Int32)) (hc332 : ¬ (p3 &&& (8 : Int32)) = (0 : Int32)) : (v367 = 0 → ∀ x : Int64, ¬ (((x = q0) ∧ x ≠ q2) ∧ x ≠ q0)) ∧ (¬ v367 = 0 → ∃ x : Int64, ((x = q0) ∧ x ≠ q2) ∧ x ≠ q0) := by
  subst_vars
  refine ⟨fun he => ?_, fun he => ?_⟩ <;> rcases own_ec q2 q0 with a1 | ⟨a1, b1⟩ <;> rcases own_ec q2 q1 with a2 | ⟨a2, b2⟩ <;> rcases own_ec q1 q0 with a3 | ⟨a3, b3⟩ <;> (try subst a1) <;> (try subst a2) <;> (try subst a3) <;> simp_all [or_and_right, exists_or, and_assoc, not_or, forall_and, or_imp]
theorem own_leaf_16 (q0 q1 q2 : Int64) (p3 : Int32) (v23 : Int32) (v29 : Int32) (hv23 : v23 = (if (p3 &&& (1 : Int32)) = (0 : Int32) then (0 : Int32) else (1 : Int32))) (hv29 : v29 = (if (p3 &&& (2 : Int32)) = (0 : Int32) then (0 : Int32) else (1 : Int32))) (hc35 : ¬ v23 = (0 : Int32)) (hc266 : ¬ v29 = (0 : Int32)) : ((1 : Int32) = 0 → ∀ x : Int64, ¬ (x = q1 ∨ x = q0)) ∧ (¬ (1 : Int32) = 0 → ∃ x : Int64, x = q1 ∨ x = q0) := by
  subst_vars
  refine ⟨fun he => ?_, fun he => ?_⟩ <;> rcases own_ec q2 q0 with a1 | ⟨a1, b1⟩ <;> rcases own_ec q2 q1 with a2 | ⟨a2, b2⟩ <;> rcases own_ec q1 q0 with a3 | ⟨a3, b3⟩ <;> (try subst a1) <;> (try subst a2) <;> (try subst a3) <;> simp_all [or_and_right, exists_or, and_assoc, not_or, forall_and, or_imp]
theorem own_leaf_17 (q0 q1 q2 : Int64) (p3 : Int32) (v23 : Int32) (v29 : Int32) (hv23 : v23 = (if (p3 &&& (1 : Int32)) = (0 : Int32) then (0 : Int32) else (1 : Int32))) (hv29 : v29 = (if (p3 &&& (2 : Int32)) = (0 : Int32) then (0 : Int32) else (1 : Int32))) (hc35 : ¬ v23 = (0 : Int32)) (hc266 : ¬ v29 = (0 : Int32)) (hc393 : (p3 &&& (4 : Int32)) = (0 : Int32)) (hc395 : (p3 &&& (8 : Int32)) = (0 : Int32)) : ((1 : Int32) = 0 → ∀ x : Int64, ¬ (x = q1 ∨ x = q0)) ∧ (¬ (1 : Int32) = 0 → ∃ x : Int64, x = q1 ∨ x = q0) := by
  subst_vars
  refine ⟨fun he => ?_, fun he => ?_⟩ <;> rcases own_ec q2 q0 with a1 | ⟨a1, b1⟩ <;> rcases own_ec q2 q1 with a2 | ⟨a2, b2⟩ <;> rcases own_ec q1 q0 with a3 | ⟨a3, b3⟩ <;> (try subst a1) <;> (try subst a2) <;> (try subst a3) <;> simp_all [or_and_right, exists_or, and_assoc, not_or, forall_and, or_imp]
theorem own_leaf_18 (q0 q1 q2 : Int64) (p3 : Int32) (v23 : Int32) (v29 : Int32) (v410 : Int32) (v421 : Int32) (hv23 : v23 = (if (p3 &&& (1 : Int32)) = (0 : Int32) then (0 : Int32) else (1 : Int32))) (hv29 : v29 = (if (p3 &&& (2 : Int32)) = (0 : Int32) then (0 : Int32) else (1 : Int32))) (hv410 : v410 = (if q1 = q0 then (0 : Int32) else v29)) (hv421 : v421 = (if v410 = (0 : Int32) then (0 : Int32) else (1 : Int32))) (hc35 : ¬ v23 = (0 : Int32)) (hc266 : ¬ v29 = (0 : Int32)) (hc393 : (p3 &&& (4 : Int32)) = (0 : Int32)) (hc395 : ¬ (p3 &&& (8 : Int32)) = (0 : Int32)) : (v421 = 0 → ∀ x : Int64, ¬ ((x = q1 ∨ x = q0) ∧ x ≠ q0)) ∧ (¬ v421 = 0 → ∃ x : Int64, (x = q1 ∨ x = q0) ∧ x ≠ q0) := by
  subst_vars
  refine ⟨fun he => ?_, fun he => ?_⟩ <;> rcases own_ec q2 q0 with a1 | ⟨a1, b1⟩ <;> rcases own_ec q2 q1 with a2 | ⟨a2, b2⟩ <;> rcases own_ec q1 q0 with a3 | ⟨a3, b3⟩ <;> (try subst a1) <;> (try subst a2) <;> (try subst a3) <;> simp_all [or_and_right, exists_or, and_assoc, not_or, forall_and, or_imp]
theorem own_leaf_19 (q0 q1 q2 : Int64) (p3 : Int32) (v23 : Int32) (v29 : Int32) (v435 : Int32) (v441 : Int32) (v455 : Int32) (hv23 : v23 = (if (p3 &&& (1 : Int32)) = (0 : Int32) then (0 : Int32) else (1 : Int32))) (hv29 : v29 = (if (p3 &&& (2 : Int32)) = (0 : Int32) then (0 : Int32) else (1 : Int32))) (hv435 : v435 = (if q2 = q0 then (0 : Int32) else v23)) (hv441 : v441 = (if q2 = q1 then (0 : Int32) else v29)) (hv455 : v455 = (if v435 = (0 : Int32) then (if v441 = (0 : Int32) then (0 : Int32) else (1 : Int32)) else (1 : Int32))) (hc35 : ¬ v23 = (0 : Int32)) (hc266 : ¬ v29 = (0 : Int32)) (hc393 : ¬ (p3 &&& (4 : Int32)) = (0 : Int32)) (hc447 : (p3 &&& (8 : Int32)) = (0 : Int32)) : (v455 = 0 → ∀ x : Int64, ¬ ((x = q1 ∨ x = q0) ∧ x ≠ q2)) ∧ (¬ v455 = 0 → ∃ x : Int64, (x = q1 ∨ x = q0) ∧ x ≠ q2) := by
  subst_vars
  refine ⟨fun he => ?_, fun he => ?_⟩ <;> rcases own_ec q2 q0 with a1 | ⟨a1, b1⟩ <;> rcases own_ec q2 q1 with a2 | ⟨a2, b2⟩ <;> rcases own_ec q1 q0 with a3 | ⟨a3, b3⟩ <;> (try subst a1) <;> (try subst a2) <;> (try subst a3) <;> simp_all [or_and_right, exists_or, and_assoc, not_or, forall_and, or_imp]
theorem own_leaf_20 (q0 q1 q2 : Int64) (p3 : Int32) (v23 : Int32) (v29 : Int32) (v435 : Int32) (v441 : Int32) (v471 : Int32) (v482 : Int32) (hv23 : v23 = (if (p3 &&& (1 : Int32)) = (0 : Int32) then (0 : Int32) else (1 : Int32))) (hv29 : v29 = (if (p3 &&& (2 : Int32)) = (0 : Int32) then (0 : Int32) else (1 : Int32))) (hv435 : v435 = (if q2 = q0 then (0 : Int32) else v23)) (hv441 : v441 = (if q2 = q1 then (0 : Int32) else v29)) (hv471 : v471 = (if q1 = q0 then (0 : Int32) else v441)) (hv482 : v482 = (if v471 = (0 : Int32) then (0 : Int32) else (1 : Int32))) (hc35 : ¬ v23 = (0 : Int32)) (hc266 : ¬ v29 = (0 : Int32)) (hc393 : ¬ (p3 &&& (4 : Int32)) = (0 : Int32)) (hc447 : ¬ (p3 &&& (8 : Int32)) = (0 : Int32)) : (v482 = 0 → ∀ x : Int64, ¬ (((x = q1 ∨ x = q0) ∧ x ≠ q2) ∧ x ≠ q0)) ∧ (¬ v482 = 0 → ∃ x : Int64, ((x = q1 ∨ x = q0) ∧ x ≠ q2) ∧ x ≠ q0) := by
  subst_vars
  refine ⟨fun he => ?_, fun he => ?_⟩ <;> rcases own_ec q2 q0 with a1 | ⟨a1, b1⟩ <;> rcases own_ec q2 q1 with a2 | ⟨a2, b2⟩ <;> rcases own_ec q1 q0 with a3 | ⟨a3, b3⟩ <;> (try subst a1) <;> (try subst a2) <;> (try subst a3) <;> simp_all [or_and_right, exists_or, and_assoc, not_or, forall_and, or_imp]
theorem pn_0 : plainName "com/example/thin_feed/thinfeed/store/LongFloorMapBytesPinLaw" = true := by first | (simp [plainName, overriddenIn]; done) | decide +kernel
theorem pd_1 : parseMethodDescriptor "(I)Ljava/lang/Integer;" = some ⟨[.int], some (.object "java/lang/Integer")⟩ := by decide +kernel
theorem pd_10 : parseMethodDescriptor "(J)V" = some ⟨[.long], none⟩ := by decide +kernel
theorem pd_2 : parseMethodDescriptor "()J" = some ⟨[], some .long⟩ := by decide +kernel
theorem pd_4 : parseMethodDescriptor "(Z)J" = some ⟨[.boolean], some .long⟩ := by decide +kernel
theorem pd_5 : parseMethodDescriptor "(JLjava/lang/Object;)V" = some ⟨[.long, (.object "java/lang/Object")], none⟩ := by decide +kernel
theorem ef_0 (m : MethodId) (x0 : Int64) (x1 : Int64) (x2 : Int64) (x3 : Int32) : entryFrame m #[(.long x0), (.long x1), (.long x2), (.int x3)] maxLocals = mkF m 0 #[.val (.long x0), .second, .val (.long x1), .second, .val (.long x2), .second, .val (.int x3), .unset, .unset, .unset, .unset, .unset] [] := by first | (simp [entryFrame, mkF, argsToLocals, Value.category, maxLocals]; done) | rfl
def Q0 (Z : State) (q0 : Int64) (q1 : Int64) (q2 : Int64) (p3 : Int32) (u1 : Addr) (cl1 : Cell) (h0 : Heap) (n0 : Nat) (v : Option Value) (h : Heap) (L : List Loc) : Prop := v = some (.int (1 : Int32)) ∧ Fr n0 L
set_option maxRecDepth 65536 in
set_option maxHeartbeats 40000000 in
theorem rm0 (l : Launch) (Z : State) (a0 : Array Value) (hw : ∀ d ∈ tables_1, d.before a0 Z = true) (ws : List Jvm.Cond) (q0 : Int64) (q1 : Int64) (q2 : Int64) (p3 : Int32) (u1 : Addr) (cl1 : Cell) (h0 : Heap) (n0 : Nat) (Z0 : n0 ≤ h0.size) (Oq0 : Old Z n0 h0) (Sq1 : Sta Z h0 "java/lang/Integer$IntegerCache" "cache" "[Ljava/lang/Integer;" (.ref u1)) (Sq2 : Sta Z h0 "java/lang/Integer$IntegerCache" "high" "I" (.int 127)) (Aq1 : Arr Z h0 u1 cl1 (.object "java/lang/Integer")) (hs1 : cl1.slots.size = 256) (Bq1 : own_box Z cl1 "java/lang/Integer") :
    MetFree l x (head1 (Jvm.Cond.code x code maxLocals ret :: ws) room_1) (fun a U => a = #[(.long q0), (.long q1), (.long q2), (.int p3)] ∧ Z.Warmed39 U.vm ∧ U.heap = h0) (fun _ _ _ _ _ => True) (fun _ U o U' => ∃ v L, o = .returned v ∧ Q0 Z q0 q1 q2 p3 u1 cl1 h0 n0 v U'.heap L ∧ FrameEnd U o U' L 24 1152) := by
  refine MetFree.of_bodySF (plainFor_of_name pn_0) hisR ?_
  intro p e s m args below meth c s₁ Bd hml0 hP hK
  obtain ⟨rfl, hZ, hh⟩ := hP
  have hx := Bd.exec
  have hby := Bd.bytes
  have hml : c.maxLocals = 12 := hml0
  have hown : s.vm.findClass "com/example/thin_feed/thinfeed/store/LongFloorMapBytesPinLaw" = some m.cls := findClass_of_methodNamed Bd.named
  have hnm := (name_of_methodNamed Bd.named Bd.method).1
  have hlk : meth.locks = false := by first | exact BodyLoose.notSynchronized Bd | exact Body.notSynchronized Bd
  have X0 : Stand p l e room_1 s m #[(.long q0), (.long q1), (.long q2), (.int p3)] below meth c s₁ [] 0 0 := Stand.of_body Bd
  have e0 : s₁.heap = h0 := by rw [← hh, Bd.state]; rfl
  have N0 := Fr.nil n0
  have k0 : own_R p e below (s₁.setTop (entryFrame m #[(.long q0), (.long q1), (.long q2), (.int p3)] maxLocals)) (s₁.setTop (mkF m 0 #[vJ q0, .second, vJ q1, .second, vJ q2, .second, vI p3, .unset, .unset, .unset, .unset, .unset] [])) := fun t k => castTop (ef_0 m q0 q1 q2 p3) k
  obtain ⟨A0, hA0⟩ : ∃ z, z = s₁.setTop (entryFrame m #[(.long q0), (.long q1), (.long q2), (.int p3)] maxLocals) := ⟨_, rfl⟩
  rw [← hA0] at k0
  have kz : ∀ t, Steps p.tables e below A0 t → Steps p.tables e below (s₁.setTop (entryFrame m #[(.long q0), (.long q1), (.long q2), (.int p3)] maxLocals)) t := fun t q => hA0 ▸ q
  obtain ⟨T1, h1, X1, e1, E1, A1, D1, -, st1⟩ := newO X0 hx hZ hown (own_w hw 0 rfl) (own_w hw 1 rfl) (own_w hw 2 rfl) e0 (g := (mkF m 0 #[vJ q0, .second, vJ q1, .second, vJ q2, .second, vI p3, .unset, .unset, .unset, .unset, .unset] [])) rfl (hb hby at_0) (by decide) (by decide)
  obtain ⟨b1, g1⟩ : ∃ z, z = h0.size := ⟨_, rfl⟩
  rw [← g1] at A1 D1 st1
  have g_b1 : n0 ≤ b1 := Nat.le_trans Z0 (Nat.le_of_eq g1.symm)
  have sz_b1 : h0.size ≤ b1 := Nat.le_trans (Keep.refl h0 []).1 (Nat.le_of_eq g1.symm)
  have KH1 : Keep h0 h1 [] := (Keep.refl h0 []).ext E1
  have Zn1 : n0 ≤ h1.size := Nat.le_trans Z0 E1.1
  have F_firsts_b1 : Fld Z h1 b1 "com/example/thin_feed/thinfeed/store/LongFloorMap" "firsts" "[J" .null := D1 (Or.inl (own_w hw 11 rfl)) (ty := (.array .long)) (by decide)
  have F_shelves_b1 : Fld Z h1 b1 "com/example/thin_feed/thinfeed/store/LongFloorMap" "shelves" "[Lcom/example/thin_feed/thinfeed/store/LongFloorMap$Shelf;" .null := D1 (Or.inl (own_w hw 15 rfl)) (ty := (.array (.object "com/example/thin_feed/thinfeed/store/LongFloorMap$Shelf"))) (by decide)
  have F_shelfCount_b1 : Fld Z h1 b1 "com/example/thin_feed/thinfeed/store/LongFloorMap" "shelfCount" "I" (.int 0) := D1 (Or.inl (own_w hw 37 rfl)) (ty := .int) (by decide)
  have F_size_b1 : Fld Z h1 b1 "com/example/thin_feed/thinfeed/store/LongFloorMap" "size" "I" (.int 0) := D1 (Or.inl (own_w hw 83 rfl)) (ty := .int) (by decide)
  have ks2 := own_c k0 st1
  have ks3 : own_R p e below (A0) (T1.setTop (mkF m 4 #[vJ q0, .second, vJ q1, .second, vJ q2, .second, vI p3, .unset, .unset, .unset, .unset, .unset] [(.ref b1), (.ref b1)])) := fun t k => ks2 t (by
    refine XS.dup X1.here hx rfl (hb hby at_3) rfl rfl ?_
    exact k)
  obtain ⟨_, _, ⟨T4, L4, k4, n4⟩, -, X4, ⟨Lc4, hQ4, lq4, yq4, zq4⟩, st4⟩ := X1.specialBack hx (y := (⟨"com/example/thin_feed/thinfeed/store/LongFloorMap", "<init>", "()V"⟩ : MethodName)) rfl hown (mvT hZ (own_w hw 3 rfl)) (mvT hZ (own_w hw 4 rfl)) (mvT hZ (own_w hw 5 rfl)) (by decide) (backOf (W := 1) (rm1 l Z a0 hw [] b1 h1 n0 Zn1 g_b1 A1 F_firsts_b1 F_shelves_b1 F_shelfCount_b1 F_size_b1) hZ (own_w hw 5 rfl) (own_w hw 2 rfl) (by decide) (by decide)) (g := (mkF m 4 #[vJ q0, .second, vJ q1, .second, vJ q2, .second, vI p3, .unset, .unset, .unset, .unset, .unset] [(.ref b1), (.ref b1)])) rfl (by rw [hml]; rfl) (Steps.refl _) (a := b1) (argsL := []) (rest := [(.ref b1)]) (lenOf pd_0 rfl) rfl (by show 2 * 0 + _ ≤ _; exact Nat.le_of_eq rfl) (hb hby at_4) (fun _ _ => ⟨rfl, e1, (by decide : 1 + 2 ≤ _), (by decide : 4 + 2 ≤ _)⟩)
  dsimp only [Pt.U, Pt.locs, Pt.cells, Pt.slots] at X4 lq4 yq4 zq4 st4 hQ4
  subst lq4 yq4 zq4
  obtain ⟨rfl, Nq4, Kq4, CC4⟩ := hQ4
  have N4 := Fr.app N0 Nq4
  have KH4 : Keep h0 T4.heap [] := KH1.trans Kq4 (allS (Or.inr sz_b1) all0)
  have Zn4 : n0 ≤ T4.heap.size := Nat.le_trans Zn1 Kq4.1
  have ks5 := own_ct ks3 st4
  have ks6 : own_R p e below (A0) (T4.setTop (mkF m 11 #[vJ q0, .second, vJ q1, .second, vJ q2, .second, vI p3, vR b1, .unset, .unset, .unset, .unset] [(.int p3)])) := fun t k => ks5 t (by
    refine XS.astore X4.here hx rfl (hb hby at_7) rfl rfl (l' := #[vJ q0, .second, vJ q1, .second, vJ q2, .second, vI p3, vR b1, .unset, .unset, .unset, .unset]) rfl ?_
    refine XS.iload X4.here hx rfl (hb hby at_9) rfl ?_
    exact k)
  have f8 := own_sta_keep Sq1 KH4
  have f9 := own_sta_keep Sq2 KH4
  obtain ⟨_, _, ⟨T7, L7, k7, n7⟩, -, X7, ⟨Lc7, hQ7, lq7, yq7, zq7⟩, st7⟩ := Jvm.LawKit.callS X4 hx (y := (⟨"java/lang/Integer", "valueOf", "(I)Ljava/lang/Integer;"⟩ : MethodName)) hown (mvT hZ (own_w hw 16 rfl)) (mvT hZ (own_w hw 17 rfl)) (mvT hZ (own_w hw 18 rfl)) (mvT hZ (own_w hw 19 rfl)) (by decide) (backOf (W := 0) (rm3 l Z a0 hw [] p3 u1 cl1 T4.heap n0 Zn4 (Oq0.keep KH4 all0) f8 f9 (own_arr_keep Aq1 KH4) hs1 Bq1) hZ (own_w hw 19 rfl) (own_w hw 18 rfl) (by decide) (by decide)) (g := (mkF m 11 #[vJ q0, .second, vJ q1, .second, vJ q2, .second, vI p3, vR b1, .unset, .unset, .unset, .unset] [(.int p3)])) rfl (by rw [hml]; rfl) (argsL := [(.int p3)]) (rest := []) (lenOf pd_1 rfl) rfl (by show 2 * 0 + _ ≤ _; exact Nat.le_of_eq rfl) (hb hby at_11) (fun _ _ => ⟨rfl, rfl, (by decide : 3 + 1 ≤ _), (by decide : 6 + 1 ≤ _)⟩)
  dsimp only [Pt.U, Pt.locs, Pt.cells, Pt.slots] at X7 lq7 yq7 zq7 st7 hQ7
  subst lq7 yq7 zq7
  obtain ⟨bb7, rfl, Nq7, Kq7, Ex7⟩ := hQ7
  have N7 := Fr.app N4 Nq7
  have KH7 : Keep h0 T7.heap [] := KH4.trans Kq7 all0
  have Zn7 : n0 ≤ T7.heap.size := Nat.le_trans Zn4 Kq7.1
  have CC7 := own_C_keep CC4 Kq7
  have ks10 := own_c ks6 st7
  have ks11 : own_R p e below (A0) (T7.setTop (mkF m 16 #[vJ q0, .second, vJ q1, .second, vJ q2, .second, vI p3, vR b1, vR bb7, .unset, .unset, .unset] [])) := fun t k => ks10 t (by
    refine XS.astore X7.here hx rfl (hb hby at_14) rfl rfl (l' := #[vJ q0, .second, vJ q1, .second, vJ q2, .second, vI p3, vR b1, vR bb7, .unset, .unset, .unset]) rfl ?_
    exact k)
  have MM0 : own_M Z T7.heap n0 b1 bb7 (fun _ => False) := Or.inl ⟨CC7, fun _ q => q⟩
  have ks12 : own_R p e below (A0) (T7.setTop (mkF m 18 #[vJ q0, .second, vJ q1, .second, vJ q2, .second, vI p3, vR b1, vR bb7, .unset, .unset, .unset] [(.ref b1)])) := fun t k => ks11 t (by
    refine XS.aload X7.here hx rfl (hb hby at_16) rfl rfl ?_
    exact k)
  obtain ⟨f14, sh14, kf14, ksh14, cc14, vf14, vs14, Ff14, Fs14, Fc14, Vf14, Vs14, hc14⟩ := own_view MM0
  have f15 := ((A1.keep Kq4).keep Kq7)
  obtain ⟨cq13, kq13, q13a, q13b, q13c⟩ := isOf hZ rfl f15
  obtain ⟨_, _, ⟨T13, L13, k13, n13⟩, -, X13, ⟨Lc13, hQ13, lq13, yq13, zq13⟩, st13⟩ := X7.virtualBack hx (y := (⟨"com/example/thin_feed/thinfeed/store/LongFloorMap", "bytes", "()J"⟩ : MethodName)) (z := (⟨"com/example/thin_feed/thinfeed/store/LongFloorMap", "bytes", "()J"⟩ : MethodName)) hown (mvT hZ (own_w hw 23 rfl)) (mvT hZ (own_w hw 24 rfl)) (notFace_of_selects (args := #[]) (mvT hZ (own_w hw 26 rfl))) (mvT hZ (own_w hw 26 rfl)) (mvT hZ (own_w hw 25 rfl)) (by decide) (backOf (W := 0) (rm4 l Z a0 hw [] b1 f14 sh14 kf14 ksh14 cc14 vf14 vs14 T7.heap n0 Zn7 Ff14 Fs14 Fc14 Vf14 Vs14) hZ (own_w hw 27 rfl) (own_w hw 2 rfl) (by decide) (by decide)) q13a q13c (g := (mkF m 18 #[vJ q0, .second, vJ q1, .second, vJ q2, .second, vI p3, vR b1, vR bb7, .unset, .unset, .unset] [(.ref b1)])) rfl (by rw [hml]; rfl) (Steps.refl _) (argsL := []) (rest := []) (lenOf pd_2 rfl) rfl (by show 2 * 0 + _ ≤ _; exact Nat.le_of_eq rfl) (hb hby at_18) (fun _ _ => ⟨rfl, rfl, (by decide : 4 + 0 ≤ _), (by decide : 7 + 0 ≤ _)⟩)
  dsimp only [Pt.U, Pt.locs, Pt.cells, Pt.slots] at X13 lq13 yq13 zq13 st13 hQ13
  subst lq13 yq13 zq13
  obtain ⟨rfl, Nq13, eq13⟩ := hQ13
  have N13 := Fr.app N7 Nq13
  have ks16 := own_ct ks12 st13
  have ks17 : own_R p e below (A0) (T13.setTop (mkF m 22 #[vJ q0, .second, vJ q1, .second, vJ q2, .second, vI p3, vR b1, vR bb7, .unset, .unset, .unset] [(.int 0), (.long (own_by cc14))])) := fun t k => ks16 t (by
    refine XS.iconst X13.here hx rfl (hb hby at_21) ?_
    exact k)
  obtain ⟨_, _, ⟨T18, L18, k18, n18⟩, -, X18, ⟨Lc18, hQ18, lq18, yq18, zq18⟩, st18⟩ := Jvm.LawKit.callS X13 hx (y := (⟨"com/example/thin_feed/thinfeed/store/LongFloorMapBytesPinLaw", "expected", "(Z)J"⟩ : MethodName)) hown (mvT hZ (own_w hw 38 rfl)) (mvT hZ (own_w hw 39 rfl)) (mvT hZ (own_w hw 40 rfl)) (mvT hZ (own_w hw 41 rfl)) (by decide) (backOf (W := 2) (rm6 l Z a0 hw [] (0 : Int32) T7.heap n0 Zn7 ) hZ (own_w hw 41 rfl) (own_w hw 40 rfl) (by decide) (by decide)) (g := (mkF m 22 #[vJ q0, .second, vJ q1, .second, vJ q2, .second, vI p3, vR b1, vR bb7, .unset, .unset, .unset] [(.int 0), (.long (own_by cc14))])) rfl (by rw [hml]; rfl) (argsL := [(.int 0)]) (rest := [(.long (own_by cc14))]) (lenOf pd_4 rfl) rfl (by show 2 * 0 + _ ≤ _; exact Nat.le_of_eq rfl) (hb hby at_22) (fun _ _ => ⟨rfl, eq13, (by decide : 4 + 0 ≤ _), (by decide : 7 + 0 ≤ _)⟩)
  dsimp only [Pt.U, Pt.locs, Pt.cells, Pt.slots] at X18 lq18 yq18 zq18 st18 hQ18
  subst lq18 yq18 zq18
  obtain ⟨rfl, Nq18, eq18⟩ := hQ18
  have N18 := Fr.app N13 Nq18
  have ks19 := own_c ks17 st18
  have ks20 : own_R p e below (A0) (T18.setTop (mkF m 26 #[vJ q0, .second, vJ q1, .second, vJ q2, .second, vI p3, vR b1, vR bb7, .unset, .unset, .unset] [(.int (lcmpW (own_by cc14) (own_exp (0 : Int32))))])) := fun t k => ks19 t (by
    refine XS.lcmp X18.here hx rfl (hb hby at_25) rfl ?_
    exact k)
  have hB21 : own_by cc14 = (own_exp (0 : Int32)) := own_fin hc14 (own_leaf_0 q0 q1 q2 p3).1 (own_leaf_0 q0 q1 q2 p3).2
  have ks24 : own_R p e below (A0) (T18.setTop (mkF m 40 #[vJ q0, .second, vJ q1, .second, vJ q2, .second, vI p3, vR b1, vR bb7, vI 1, .unset, .unset] [(.int (p3 &&& (1 : Int32)))])) := fun t k => ks20 t (by
    refine XS.ifNo X18.here hx rfl (hb hby at_26) rfl ((if0 _ _).trans (teq ((lw_eq _ _).mpr hB21)).2) ?_
    refine XS.iconst X18.here hx rfl (hb hby at_29) ?_
    refine XS.goto X18.here hx rfl (pc0 := 30) (pc' := 34) rfl (hb hby at_30) (by decide) (by decide) ?_
    show Steps p.tables e below (T18.setTop (mkF m 34 #[vJ q0, .second, vJ q1, .second, vJ q2, .second, vI p3, vR b1, vR bb7, .unset, .unset, .unset] [(.int 1)])) _
    refine XS.istore X18.here hx rfl (hb hby at_34) rfl (l' := #[vJ q0, .second, vJ q1, .second, vJ q2, .second, vI p3, vR b1, vR bb7, vI 1, .unset, .unset]) rfl ?_
    refine XS.iload X18.here hx rfl (hb hby at_36) rfl ?_
    refine XS.iconst X18.here hx rfl (hb hby at_38) ?_
    refine XS.iand X18.here hx rfl (hb hby at_39) rfl ?_
    exact k)
  obtain ⟨v23, hv23⟩ : ∃ z : Int32, z = (if (p3 &&& (1 : Int32)) = (0 : Int32) then (0 : Int32) else (1 : Int32)) := ⟨_, rfl⟩
  have ks25 : own_R p e below (A0) (T18.setTop (mkF m 48 #[vJ q0, .second, vJ q1, .second, vJ q2, .second, vI p3, vR b1, vR bb7, vI 1, .unset, .unset] [(.int v23)])) := fun t k => ks24 t (by
    by_cases hc22 : (p3 &&& (1 : Int32)) = (0 : Int32)
    · skip
      have qq26 : v23 = (0 : Int32) := by rw [hv23, if_pos hc22]
      rw [qq26] at k
      refine XS.ifYes X18.here hx rfl (pc0 := 40) (pc' := 47) rfl (hb hby at_40) rfl ((if0 _ _).trans (teq hc22).1) (by decide) (by decide) ?_
      refine XS.iconst X18.here hx rfl (hb hby at_47) ?_
      exact k
    · skip
      have qq27 : v23 = (1 : Int32) := by rw [hv23, if_neg hc22]
      rw [qq27] at k
      refine XS.ifNo X18.here hx rfl (hb hby at_40) rfl ((if0 _ _).trans (feq hc22).1) ?_
      refine XS.iconst X18.here hx rfl (hb hby at_43) ?_
      refine XS.goto X18.here hx rfl (pc0 := 44) (pc' := 48) rfl (hb hby at_44) (by decide) (by decide) ?_
      exact k)
  have ks30 : own_R p e below (A0) (T18.setTop (mkF m 54 #[vJ q0, .second, vJ q1, .second, vJ q2, .second, vI p3, vR b1, vR bb7, vI 1, vI v23, .unset] [(.int (p3 &&& (2 : Int32)))])) := fun t k => ks25 t (by
    refine XS.istore X18.here hx rfl (hb hby at_48) rfl (l' := #[vJ q0, .second, vJ q1, .second, vJ q2, .second, vI p3, vR b1, vR bb7, vI 1, vI v23, .unset]) rfl ?_
    refine XS.iload X18.here hx rfl (hb hby at_50) rfl ?_
    refine XS.iconst X18.here hx rfl (hb hby at_52) ?_
    show Steps p.tables e below (T18.setTop (mkF m 53 #[vJ q0, .second, vJ q1, .second, vJ q2, .second, vI p3, vR b1, vR bb7, vI 1, vI v23, .unset] [(.int 2), (.int p3)])) _
    refine XS.iand X18.here hx rfl (hb hby at_53) rfl ?_
    exact k)
  obtain ⟨v29, hv29⟩ : ∃ z : Int32, z = (if (p3 &&& (2 : Int32)) = (0 : Int32) then (0 : Int32) else (1 : Int32)) := ⟨_, rfl⟩
  have ks31 : own_R p e below (A0) (T18.setTop (mkF m 62 #[vJ q0, .second, vJ q1, .second, vJ q2, .second, vI p3, vR b1, vR bb7, vI 1, vI v23, .unset] [(.int v29)])) := fun t k => ks30 t (by
    by_cases hc28 : (p3 &&& (2 : Int32)) = (0 : Int32)
    · skip
      have qq32 : v29 = (0 : Int32) := by rw [hv29, if_pos hc28]
      rw [qq32] at k
      refine XS.ifYes X18.here hx rfl (pc0 := 54) (pc' := 61) rfl (hb hby at_54) rfl ((if0 _ _).trans (teq hc28).1) (by decide) (by decide) ?_
      refine XS.iconst X18.here hx rfl (hb hby at_61) ?_
      exact k
    · skip
      have qq33 : v29 = (1 : Int32) := by rw [hv29, if_neg hc28]
      rw [qq33] at k
      refine XS.ifNo X18.here hx rfl (hb hby at_54) rfl ((if0 _ _).trans (feq hc28).1) ?_
      refine XS.iconst X18.here hx rfl (hb hby at_57) ?_
      refine XS.goto X18.here hx rfl (pc0 := 58) (pc' := 62) rfl (hb hby at_58) (by decide) (by decide) ?_
      exact k)
  have ks34 : own_R p e below (A0) (T18.setTop (mkF m 66 #[vJ q0, .second, vJ q1, .second, vJ q2, .second, vI p3, vR b1, vR bb7, vI 1, vI v23, vI v29] [(.int v23)])) := fun t k => ks31 t (by
    refine XS.istore X18.here hx rfl (hb hby at_62) rfl (l' := #[vJ q0, .second, vJ q1, .second, vJ q2, .second, vI p3, vR b1, vR bb7, vI 1, vI v23, vI v29]) rfl ?_
    refine XS.iload X18.here hx rfl (hb hby at_64) rfl ?_
    exact k)
  by_cases hc35 : v23 = (0 : Int32)
  · skip
    have ks36 : own_R p e below (A0) (T18.setTop (mkF m 79 #[vJ q0, .second, vJ q1, .second, vJ q2, .second, vI p3, vR b1, vR bb7, vI 1, vI v23, vI v29] [(.int v29)])) := fun t k => ks34 t (by
      refine XS.ifYes X18.here hx rfl (pc0 := 66) (pc' := 77) rfl (hb hby at_66) rfl ((if0 _ _).trans (teq hc35).1) (by decide) (by decide) ?_
      refine XS.iload X18.here hx rfl (hb hby at_77) rfl ?_
      exact k)
    by_cases hc37 : v29 = (0 : Int32)
    · skip
      have ks38 : own_R p e below (A0) (T18.setTop (mkF m 97 #[vJ q0, .second, vJ q1, .second, vJ q2, .second, vI p3, vR b1, vR bb7, vI 1, vI v23, vI v29] [(.ref b1)])) := fun t k => ks36 t (by
        refine XS.ifYes X18.here hx rfl (pc0 := 79) (pc' := 90) rfl (hb hby at_79) rfl ((if0 _ _).trans (teq hc37).1) (by decide) (by decide) ?_
        refine XS.iload X18.here hx rfl (hb hby at_90) rfl ?_
        refine XS.ifNo X18.here hx rfl (hb hby at_92) rfl ((if0 _ _).trans (feq (by decide)).1) ?_
        show Steps p.tables e below (T18.setTop (mkF m 95 #[vJ q0, .second, vJ q1, .second, vJ q2, .second, vI p3, vR b1, vR bb7, vI 1, vI v23, vI v29] [])) _
        refine XS.aload X18.here hx rfl (hb hby at_95) rfl rfl ?_
        exact k)
      obtain ⟨f40, sh40, kf40, ksh40, cc40, vf40, vs40, Ff40, Fs40, Fc40, Vf40, Vs40, hc40⟩ := own_view MM0
      obtain ⟨cq39, kq39, q39a, q39b, q39c⟩ := isOf hZ eq18 f15
      obtain ⟨_, _, ⟨T39, L39, k39, n39⟩, -, X39, ⟨Lc39, hQ39, lq39, yq39, zq39⟩, st39⟩ := X18.virtualBack hx (y := (⟨"com/example/thin_feed/thinfeed/store/LongFloorMap", "bytes", "()J"⟩ : MethodName)) (z := (⟨"com/example/thin_feed/thinfeed/store/LongFloorMap", "bytes", "()J"⟩ : MethodName)) hown (mvT hZ (own_w hw 23 rfl)) (mvT hZ (own_w hw 24 rfl)) (notFace_of_selects (args := #[]) (mvT hZ (own_w hw 26 rfl))) (mvT hZ (own_w hw 26 rfl)) (mvT hZ (own_w hw 25 rfl)) (by decide) (backOf (W := 0) (rm4 l Z a0 hw [] b1 f40 sh40 kf40 ksh40 cc40 vf40 vs40 T7.heap n0 Zn7 Ff40 Fs40 Fc40 Vf40 Vs40) hZ (own_w hw 27 rfl) (own_w hw 2 rfl) (by decide) (by decide)) q39a q39c (g := (mkF m 97 #[vJ q0, .second, vJ q1, .second, vJ q2, .second, vI p3, vR b1, vR bb7, vI 1, vI v23, vI v29] [(.ref b1)])) rfl (by rw [hml]; rfl) (Steps.refl _) (argsL := []) (rest := []) (lenOf pd_2 rfl) rfl (by show 2 * 0 + _ ≤ _; exact Nat.le_of_eq rfl) (hb hby at_97) (fun _ _ => ⟨rfl, eq18, (by decide : 4 + 0 ≤ _), (by decide : 7 + 0 ≤ _)⟩)
      dsimp only [Pt.U, Pt.locs, Pt.cells, Pt.slots] at X39 lq39 yq39 zq39 st39 hQ39
      subst lq39 yq39 zq39
      obtain ⟨rfl, Nq39, eq39⟩ := hQ39
      have N39 := Fr.app N18 Nq39
      have ks41 := own_ct ks38 st39
      have ks42 : own_R p e below (A0) (T39.setTop (mkF m 115 #[vJ q0, .second, vJ q1, .second, vJ q2, .second, vI p3, vR b1, vR bb7, vI 1, vI v23, vI v29] [(.int 0), (.long (own_by cc40))])) := fun t k => ks41 t (by
        refine XS.iload X39.here hx rfl (hb hby at_100) rfl ?_
        refine XS.ifNo X39.here hx rfl (hb hby at_102) rfl ((if0 _ _).trans (teq hc35).2) ?_
        refine XS.iload X39.here hx rfl (hb hby at_105) rfl ?_
        show Steps p.tables e below (T39.setTop (mkF m 107 #[vJ q0, .second, vJ q1, .second, vJ q2, .second, vI p3, vR b1, vR bb7, vI 1, vI v23, vI v29] [(.int v29), (.long (own_by cc40))])) _
        refine XS.ifYes X39.here hx rfl (pc0 := 107) (pc' := 114) rfl (hb hby at_107) rfl ((if0 _ _).trans (teq hc37).1) (by decide) (by decide) ?_
        refine XS.iconst X39.here hx rfl (hb hby at_114) ?_
        exact k)
      obtain ⟨_, _, ⟨T43, L43, k43, n43⟩, -, X43, ⟨Lc43, hQ43, lq43, yq43, zq43⟩, st43⟩ := Jvm.LawKit.callS X39 hx (y := (⟨"com/example/thin_feed/thinfeed/store/LongFloorMapBytesPinLaw", "expected", "(Z)J"⟩ : MethodName)) hown (mvT hZ (own_w hw 38 rfl)) (mvT hZ (own_w hw 39 rfl)) (mvT hZ (own_w hw 40 rfl)) (mvT hZ (own_w hw 41 rfl)) (by decide) (backOf (W := 2) (rm6 l Z a0 hw [] (0 : Int32) T7.heap n0 Zn7 ) hZ (own_w hw 41 rfl) (own_w hw 40 rfl) (by decide) (by decide)) (g := (mkF m 115 #[vJ q0, .second, vJ q1, .second, vJ q2, .second, vI p3, vR b1, vR bb7, vI 1, vI v23, vI v29] [(.int 0), (.long (own_by cc40))])) rfl (by rw [hml]; rfl) (argsL := [(.int 0)]) (rest := [(.long (own_by cc40))]) (lenOf pd_4 rfl) rfl (by show 2 * 0 + _ ≤ _; exact Nat.le_of_eq rfl) (hb hby at_115) (fun _ _ => ⟨rfl, eq39, (by decide : 4 + 0 ≤ _), (by decide : 7 + 0 ≤ _)⟩)
      dsimp only [Pt.U, Pt.locs, Pt.cells, Pt.slots] at X43 lq43 yq43 zq43 st43 hQ43
      subst lq43 yq43 zq43
      obtain ⟨rfl, Nq43, eq43⟩ := hQ43
      have N43 := Fr.app N39 Nq43
      have ks44 := own_c ks42 st43
      have ks45 : own_R p e below (A0) (T43.setTop (mkF m 119 #[vJ q0, .second, vJ q1, .second, vJ q2, .second, vI p3, vR b1, vR bb7, vI 1, vI v23, vI v29] [(.int (lcmpW (own_by cc40) (own_exp (0 : Int32))))])) := fun t k => ks44 t (by
        refine XS.lcmp X43.here hx rfl (hb hby at_118) rfl ?_
        exact k)
      have hB46 : own_by cc40 = (own_exp (0 : Int32)) := own_fin hc40 (own_leaf_1 q0 q1 q2 p3 v23 v29 hv23 hv29 hc35 hc37).1 (own_leaf_1 q0 q1 q2 p3 v23 v29 hv23 hv29 hc35 hc37).2
      have ks47 : own_R p e below (A0) (T43.setTop (mkF m 133 #[vJ q0, .second, vJ q1, .second, vJ q2, .second, vI p3, vR b1, vR bb7, vI 1, vI v23, vI v29] [(.int (p3 &&& (4 : Int32)))])) := fun t k => ks45 t (by
        refine XS.ifNo X43.here hx rfl (hb hby at_119) rfl ((if0 _ _).trans (teq ((lw_eq _ _).mpr hB46)).2) ?_
        refine XS.iconst X43.here hx rfl (hb hby at_122) ?_
        refine XS.goto X43.here hx rfl (pc0 := 123) (pc' := 127) rfl (hb hby at_123) (by decide) (by decide) ?_
        show Steps p.tables e below (T43.setTop (mkF m 127 #[vJ q0, .second, vJ q1, .second, vJ q2, .second, vI p3, vR b1, vR bb7, vI 1, vI v23, vI v29] [(.int 1)])) _
        refine XS.istore X43.here hx rfl (hb hby at_127) rfl (l' := #[vJ q0, .second, vJ q1, .second, vJ q2, .second, vI p3, vR b1, vR bb7, vI 1, vI v23, vI v29]) rfl ?_
        refine XS.iload X43.here hx rfl (hb hby at_129) rfl ?_
        refine XS.iconst X43.here hx rfl (hb hby at_131) ?_
        refine XS.iand X43.here hx rfl (hb hby at_132) rfl ?_
        exact k)
      by_cases hc48 : (p3 &&& (4 : Int32)) = (0 : Int32)
      · skip
        have ks49 : own_R p e below (A0) (T43.setTop (mkF m 168 #[vJ q0, .second, vJ q1, .second, vJ q2, .second, vI p3, vR b1, vR bb7, vI 1, vI v23, vI v29] [(.int (p3 &&& (8 : Int32)))])) := fun t k => ks47 t (by
          refine XS.ifYes X43.here hx rfl (pc0 := 133) (pc' := 163) rfl (hb hby at_133) rfl ((if0 _ _).trans (teq hc48).1) (by decide) (by decide) ?_
          refine XS.iload X43.here hx rfl (hb hby at_163) rfl ?_
          refine XS.bipush X43.here hx rfl (hb hby at_165) ?_
          show Steps p.tables e below (T43.setTop (mkF m 167 #[vJ q0, .second, vJ q1, .second, vJ q2, .second, vI p3, vR b1, vR bb7, vI 1, vI v23, vI v29] [(.int 8), (.int p3)])) _
          refine XS.iand X43.here hx rfl (hb hby at_167) rfl ?_
          exact k)
        by_cases hc50 : (p3 &&& (8 : Int32)) = (0 : Int32)
        · skip
          have ks51 : own_R p e below (A0) (T43.setTop (mkF m 196 #[vJ q0, .second, vJ q1, .second, vJ q2, .second, vI p3, vR b1, vR bb7, vI 1, vI v23, vI v29] [(.ref b1)])) := fun t k => ks49 t (by
            refine XS.ifYes X43.here hx rfl (pc0 := 168) (pc' := 189) rfl (hb hby at_168) rfl ((if0 _ _).trans (teq hc50).1) (by decide) (by decide) ?_
            refine XS.iload X43.here hx rfl (hb hby at_189) rfl ?_
            refine XS.ifNo X43.here hx rfl (hb hby at_191) rfl ((if0 _ _).trans (feq (by decide)).1) ?_
            show Steps p.tables e below (T43.setTop (mkF m 194 #[vJ q0, .second, vJ q1, .second, vJ q2, .second, vI p3, vR b1, vR bb7, vI 1, vI v23, vI v29] [])) _
            refine XS.aload X43.here hx rfl (hb hby at_194) rfl rfl ?_
            exact k)
          obtain ⟨f53, sh53, kf53, ksh53, cc53, vf53, vs53, Ff53, Fs53, Fc53, Vf53, Vs53, hc53⟩ := own_view MM0
          obtain ⟨cq52, kq52, q52a, q52b, q52c⟩ := isOf hZ eq43 f15
          obtain ⟨_, _, ⟨T52, L52, k52, n52⟩, -, X52, ⟨Lc52, hQ52, lq52, yq52, zq52⟩, st52⟩ := X43.virtualBack hx (y := (⟨"com/example/thin_feed/thinfeed/store/LongFloorMap", "bytes", "()J"⟩ : MethodName)) (z := (⟨"com/example/thin_feed/thinfeed/store/LongFloorMap", "bytes", "()J"⟩ : MethodName)) hown (mvT hZ (own_w hw 23 rfl)) (mvT hZ (own_w hw 24 rfl)) (notFace_of_selects (args := #[]) (mvT hZ (own_w hw 26 rfl))) (mvT hZ (own_w hw 26 rfl)) (mvT hZ (own_w hw 25 rfl)) (by decide) (backOf (W := 0) (rm4 l Z a0 hw [] b1 f53 sh53 kf53 ksh53 cc53 vf53 vs53 T7.heap n0 Zn7 Ff53 Fs53 Fc53 Vf53 Vs53) hZ (own_w hw 27 rfl) (own_w hw 2 rfl) (by decide) (by decide)) q52a q52c (g := (mkF m 196 #[vJ q0, .second, vJ q1, .second, vJ q2, .second, vI p3, vR b1, vR bb7, vI 1, vI v23, vI v29] [(.ref b1)])) rfl (by rw [hml]; rfl) (Steps.refl _) (argsL := []) (rest := []) (lenOf pd_2 rfl) rfl (by show 2 * 0 + _ ≤ _; exact Nat.le_of_eq rfl) (hb hby at_196) (fun _ _ => ⟨rfl, eq43, (by decide : 4 + 0 ≤ _), (by decide : 7 + 0 ≤ _)⟩)
          dsimp only [Pt.U, Pt.locs, Pt.cells, Pt.slots] at X52 lq52 yq52 zq52 st52 hQ52
          subst lq52 yq52 zq52
          obtain ⟨rfl, Nq52, eq52⟩ := hQ52
          have N52 := Fr.app N43 Nq52
          have ks54 := own_ct ks51 st52
          have ks55 : own_R p e below (A0) (T52.setTop (mkF m 214 #[vJ q0, .second, vJ q1, .second, vJ q2, .second, vI p3, vR b1, vR bb7, vI 1, vI v23, vI v29] [(.int 0), (.long (own_by cc53))])) := fun t k => ks54 t (by
            refine XS.iload X52.here hx rfl (hb hby at_199) rfl ?_
            refine XS.ifNo X52.here hx rfl (hb hby at_201) rfl ((if0 _ _).trans (teq hc35).2) ?_
            refine XS.iload X52.here hx rfl (hb hby at_204) rfl ?_
            show Steps p.tables e below (T52.setTop (mkF m 206 #[vJ q0, .second, vJ q1, .second, vJ q2, .second, vI p3, vR b1, vR bb7, vI 1, vI v23, vI v29] [(.int v29), (.long (own_by cc53))])) _
            refine XS.ifYes X52.here hx rfl (pc0 := 206) (pc' := 213) rfl (hb hby at_206) rfl ((if0 _ _).trans (teq hc37).1) (by decide) (by decide) ?_
            refine XS.iconst X52.here hx rfl (hb hby at_213) ?_
            exact k)
          obtain ⟨_, _, ⟨T56, L56, k56, n56⟩, -, X56, ⟨Lc56, hQ56, lq56, yq56, zq56⟩, st56⟩ := Jvm.LawKit.callS X52 hx (y := (⟨"com/example/thin_feed/thinfeed/store/LongFloorMapBytesPinLaw", "expected", "(Z)J"⟩ : MethodName)) hown (mvT hZ (own_w hw 38 rfl)) (mvT hZ (own_w hw 39 rfl)) (mvT hZ (own_w hw 40 rfl)) (mvT hZ (own_w hw 41 rfl)) (by decide) (backOf (W := 2) (rm6 l Z a0 hw [] (0 : Int32) T7.heap n0 Zn7 ) hZ (own_w hw 41 rfl) (own_w hw 40 rfl) (by decide) (by decide)) (g := (mkF m 214 #[vJ q0, .second, vJ q1, .second, vJ q2, .second, vI p3, vR b1, vR bb7, vI 1, vI v23, vI v29] [(.int 0), (.long (own_by cc53))])) rfl (by rw [hml]; rfl) (argsL := [(.int 0)]) (rest := [(.long (own_by cc53))]) (lenOf pd_4 rfl) rfl (by show 2 * 0 + _ ≤ _; exact Nat.le_of_eq rfl) (hb hby at_214) (fun _ _ => ⟨rfl, eq52, (by decide : 4 + 0 ≤ _), (by decide : 7 + 0 ≤ _)⟩)
          dsimp only [Pt.U, Pt.locs, Pt.cells, Pt.slots] at X56 lq56 yq56 zq56 st56 hQ56
          subst lq56 yq56 zq56
          obtain ⟨rfl, Nq56, eq56⟩ := hQ56
          have N56 := Fr.app N52 Nq56
          have ks57 := own_c ks55 st56
          have ks58 : own_R p e below (A0) (T56.setTop (mkF m 218 #[vJ q0, .second, vJ q1, .second, vJ q2, .second, vI p3, vR b1, vR bb7, vI 1, vI v23, vI v29] [(.int (lcmpW (own_by cc53) (own_exp (0 : Int32))))])) := fun t k => ks57 t (by
            refine XS.lcmp X56.here hx rfl (hb hby at_217) rfl ?_
            exact k)
          have hB59 : own_by cc53 = (own_exp (0 : Int32)) := own_fin hc53 (own_leaf_2 q0 q1 q2 p3 v23 v29 hv23 hv29 hc35 hc37 hc48 hc50).1 (own_leaf_2 q0 q1 q2 p3 v23 v29 hv23 hv29 hc35 hc37 hc48 hc50).2
          have ks60 : own_R p e below (A0) (T56.setTop (mkF m 230 #[vJ q0, .second, vJ q1, .second, vJ q2, .second, vI p3, vR b1, vR bb7, vI 1, vI v23, vI v29] [(.int 1)])) := fun t k => ks58 t (by
            refine XS.ifNo X56.here hx rfl (hb hby at_218) rfl ((if0 _ _).trans (teq ((lw_eq _ _).mpr hB59)).2) ?_
            refine XS.iconst X56.here hx rfl (hb hby at_221) ?_
            refine XS.goto X56.here hx rfl (pc0 := 222) (pc' := 226) rfl (hb hby at_222) (by decide) (by decide) ?_
            show Steps p.tables e below (T56.setTop (mkF m 226 #[vJ q0, .second, vJ q1, .second, vJ q2, .second, vI p3, vR b1, vR bb7, vI 1, vI v23, vI v29] [(.int 1)])) _
            refine XS.istore X56.here hx rfl (hb hby at_226) rfl (l' := #[vJ q0, .second, vJ q1, .second, vJ q2, .second, vI p3, vR b1, vR bb7, vI 1, vI v23, vI v29]) rfl ?_
            refine XS.iload X56.here hx rfl (hb hby at_228) rfl ?_
            exact k)
          obtain ⟨fs, hr, hrun, hended, hW, hsame⟩ := X56.leave (v := some (.int 1)) (fun h => by rw [Bd.returns] at h; cases h) hlk
          refine ⟨_, _, kz _ (ks60 _ ?_), hrun, hended, _, _, rfl, ?_, ⟨_, rfl⟩, hW, hsame.mono (by decide) (by decide)⟩
          · exact retN X56 hx (t := .boolean) Bd.returns (by simp) (hb hby at_230) hr
          · show Q0 Z q0 q1 q2 p3 u1 cl1 h0 n0 _ T56.heap _
            rw [eq56]
            exact ⟨rfl, N56⟩
        · skip
          have ks61 : own_R p e below (A0) (T43.setTop (mkF m 174 #[vJ q0, .second, vJ q1, .second, vJ q2, .second, vI p3, vR b1, vR bb7, vI 1, vI v23, vI v29] [(.long q0), (.ref b1)])) := fun t k => ks49 t (by
            refine XS.ifNo X43.here hx rfl (hb hby at_168) rfl ((if0 _ _).trans (feq hc50).1) ?_
            refine XS.aload X43.here hx rfl (hb hby at_171) rfl rfl ?_
            refine XS.lloadN X43.here hx rfl (hb hby at_173) rfl ?_
            exact k)
          obtain ⟨cq62, kq62, q62a, q62b, q62c⟩ := isOf hZ eq43 f15
          obtain ⟨_, _, ⟨T62, L62, k62, n62⟩, -, X62, ⟨Lc62, hQ62, lq62, yq62, zq62⟩, st62⟩ := X43.virtualBack hx (y := (⟨"com/example/thin_feed/thinfeed/store/LongFloorMap", "remove", "(J)V"⟩ : MethodName)) (z := (⟨"com/example/thin_feed/thinfeed/store/LongFloorMap", "remove", "(J)V"⟩ : MethodName)) hown (mvT hZ (own_w hw 84 rfl)) (mvT hZ (own_w hw 85 rfl)) (notFace_of_selects (args := #[]) (mvT hZ (own_w hw 87 rfl))) (mvT hZ (own_w hw 87 rfl)) (mvT hZ (own_w hw 86 rfl)) (by decide) (backOf (W := 0) (rm12M l Z a0 hw [] b1 q0 bb7 _ T7.heap n0 Zn7 MM0) hZ (own_w hw 88 rfl) (own_w hw 2 rfl) (by decide) (by decide)) q62a q62c (g := (mkF m 174 #[vJ q0, .second, vJ q1, .second, vJ q2, .second, vI p3, vR b1, vR bb7, vI 1, vI v23, vI v29] [(.long q0), (.ref b1)])) rfl (by rw [hml]; rfl) (Steps.refl _) (argsL := [(.long q0)]) (rest := []) (lenOf pd_10 rfl) rfl (by show 2 * 0 + _ ≤ _; exact Nat.le_of_eq rfl) (hb hby at_174) (fun _ _ => ⟨rfl, eq43, (by decide : 4 + 0 ≤ _), (by decide : 7 + 0 ≤ _)⟩)
          dsimp only [Pt.U, Pt.locs, Pt.cells, Pt.slots] at X62 lq62 yq62 zq62 st62 hQ62
          subst lq62 yq62 zq62
          obtain ⟨rfl, Nq62, Zn62, Xq62, MM62⟩ := hQ62
          have N62 := Fr.app N43 Nq62
          have ks63 := own_ct ks61 st62
          have ks66 : own_R p e below (A0) (T62.setTop (mkF m 183 #[vJ q0, .second, vJ q1, .second, vJ q2, .second, vI p3, vR b1, vR bb7, vI 1, vI 0, vI v29] [(.int (lcmpW q1 q0))])) := fun t k => ks63 t (by
            refine XS.iconst X62.here hx rfl (hb hby at_177) ?_
            refine XS.istore X62.here hx rfl (hb hby at_178) rfl (l' := #[vJ q0, .second, vJ q1, .second, vJ q2, .second, vI p3, vR b1, vR bb7, vI 1, vI 0, vI v29]) rfl ?_
            refine XS.lloadN X62.here hx rfl (hb hby at_180) rfl ?_
            show Steps p.tables e below (T62.setTop (mkF m 181 #[vJ q0, .second, vJ q1, .second, vJ q2, .second, vI p3, vR b1, vR bb7, vI 1, vI 0, vI v29] [(.long q1)])) _
            refine XS.lloadN X62.here hx rfl (hb hby at_181) rfl ?_
            refine XS.lcmp X62.here hx rfl (hb hby at_182) rfl ?_
            exact k)
          obtain ⟨v65, hv65⟩ : ∃ z : Int32, z = (if q1 = q0 then (0 : Int32) else v29) := ⟨_, rfl⟩
          have ks67 : own_R p e below (A0) (T62.setTop (mkF m 189 #[vJ q0, .second, vJ q1, .second, vJ q2, .second, vI p3, vR b1, vR bb7, vI 1, vI 0, vI v65] [])) := fun t k => ks66 t (by
            by_cases hc64 : q1 = q0
            · skip
              have qq68 : v65 = (0 : Int32) := by rw [hv65, if_pos hc64]
              rw [qq68] at k
              refine XS.ifNo X62.here hx rfl (hb hby at_183) rfl ((if0 _ _).trans (teq ((lw_eq _ _).mpr hc64)).2) ?_
              refine XS.iconst X62.here hx rfl (hb hby at_186) ?_
              refine XS.istore X62.here hx rfl (hb hby at_187) rfl (l' := #[vJ q0, .second, vJ q1, .second, vJ q2, .second, vI p3, vR b1, vR bb7, vI 1, vI 0, vI 0]) rfl ?_
              exact k
            · skip
              have qq69 : v65 = v29 := by rw [hv65, if_neg hc64]
              rw [qq69] at k
              refine XS.ifYes X62.here hx rfl (pc0 := 183) (pc' := 189) rfl (hb hby at_183) rfl ((if0 _ _).trans (feq (fun q => hc64 ((lw_eq _ _).mp q))).2) (by decide) (by decide) ?_
              exact k)
          have ks70 : own_R p e below (A0) (T62.setTop (mkF m 196 #[vJ q0, .second, vJ q1, .second, vJ q2, .second, vI p3, vR b1, vR bb7, vI 1, vI 0, vI v65] [(.ref b1)])) := fun t k => ks67 t (by
            refine XS.iload X62.here hx rfl (hb hby at_189) rfl ?_
            refine XS.ifNo X62.here hx rfl (hb hby at_191) rfl ((if0 _ _).trans (feq (by decide)).1) ?_
            refine XS.aload X62.here hx rfl (hb hby at_194) rfl rfl ?_
            exact k)
          obtain ⟨f72, sh72, kf72, ksh72, cc72, vf72, vs72, Ff72, Fs72, Fc72, Vf72, Vs72, hc72⟩ := own_view MM62
          have f73 := (Xq62 _ _ f15)
          obtain ⟨cq71, kq71, q71a, q71b, q71c⟩ := isOf hZ rfl f73
          obtain ⟨_, _, ⟨T71, L71, k71, n71⟩, -, X71, ⟨Lc71, hQ71, lq71, yq71, zq71⟩, st71⟩ := X62.virtualBack hx (y := (⟨"com/example/thin_feed/thinfeed/store/LongFloorMap", "bytes", "()J"⟩ : MethodName)) (z := (⟨"com/example/thin_feed/thinfeed/store/LongFloorMap", "bytes", "()J"⟩ : MethodName)) hown (mvT hZ (own_w hw 23 rfl)) (mvT hZ (own_w hw 24 rfl)) (notFace_of_selects (args := #[]) (mvT hZ (own_w hw 26 rfl))) (mvT hZ (own_w hw 26 rfl)) (mvT hZ (own_w hw 25 rfl)) (by decide) (backOf (W := 0) (rm4 l Z a0 hw [] b1 f72 sh72 kf72 ksh72 cc72 vf72 vs72 T62.heap n0 Zn62 Ff72 Fs72 Fc72 Vf72 Vs72) hZ (own_w hw 27 rfl) (own_w hw 2 rfl) (by decide) (by decide)) q71a q71c (g := (mkF m 196 #[vJ q0, .second, vJ q1, .second, vJ q2, .second, vI p3, vR b1, vR bb7, vI 1, vI 0, vI v65] [(.ref b1)])) rfl (by rw [hml]; rfl) (Steps.refl _) (argsL := []) (rest := []) (lenOf pd_2 rfl) rfl (by show 2 * 0 + _ ≤ _; exact Nat.le_of_eq rfl) (hb hby at_196) (fun _ _ => ⟨rfl, rfl, (by decide : 4 + 0 ≤ _), (by decide : 7 + 0 ≤ _)⟩)
          dsimp only [Pt.U, Pt.locs, Pt.cells, Pt.slots] at X71 lq71 yq71 zq71 st71 hQ71
          subst lq71 yq71 zq71
          obtain ⟨rfl, Nq71, eq71⟩ := hQ71
          have N71 := Fr.app N62 Nq71
          have ks74 := own_ct ks70 st71
          have ks77 : own_R p e below (A0) (T71.setTop (mkF m 206 #[vJ q0, .second, vJ q1, .second, vJ q2, .second, vI p3, vR b1, vR bb7, vI 1, vI 0, vI v65] [(.int v65), (.long (own_by cc72))])) := fun t k => ks74 t (by
            refine XS.iload X71.here hx rfl (hb hby at_199) rfl ?_
            refine XS.ifNo X71.here hx rfl (hb hby at_201) rfl ((if0 _ _).trans (teq (by decide)).2) ?_
            refine XS.iload X71.here hx rfl (hb hby at_204) rfl ?_
            exact k)
          obtain ⟨v76, hv76⟩ : ∃ z : Int32, z = (if v65 = (0 : Int32) then (0 : Int32) else (1 : Int32)) := ⟨_, rfl⟩
          have ks78 : own_R p e below (A0) (T71.setTop (mkF m 214 #[vJ q0, .second, vJ q1, .second, vJ q2, .second, vI p3, vR b1, vR bb7, vI 1, vI 0, vI v65] [(.int v76), (.long (own_by cc72))])) := fun t k => ks77 t (by
            by_cases hc75 : v65 = (0 : Int32)
            · skip
              have qq79 : v76 = (0 : Int32) := by rw [hv76, if_pos hc75]
              rw [qq79] at k
              refine XS.ifYes X71.here hx rfl (pc0 := 206) (pc' := 213) rfl (hb hby at_206) rfl ((if0 _ _).trans (teq hc75).1) (by decide) (by decide) ?_
              refine XS.iconst X71.here hx rfl (hb hby at_213) ?_
              exact k
            · skip
              have qq80 : v76 = (1 : Int32) := by rw [hv76, if_neg hc75]
              rw [qq80] at k
              refine XS.ifNo X71.here hx rfl (hb hby at_206) rfl ((if0 _ _).trans (feq hc75).1) ?_
              refine XS.iconst X71.here hx rfl (hb hby at_209) ?_
              refine XS.goto X71.here hx rfl (pc0 := 210) (pc' := 214) rfl (hb hby at_210) (by decide) (by decide) ?_
              exact k)
          obtain ⟨_, _, ⟨T81, L81, k81, n81⟩, -, X81, ⟨Lc81, hQ81, lq81, yq81, zq81⟩, st81⟩ := Jvm.LawKit.callS X71 hx (y := (⟨"com/example/thin_feed/thinfeed/store/LongFloorMapBytesPinLaw", "expected", "(Z)J"⟩ : MethodName)) hown (mvT hZ (own_w hw 38 rfl)) (mvT hZ (own_w hw 39 rfl)) (mvT hZ (own_w hw 40 rfl)) (mvT hZ (own_w hw 41 rfl)) (by decide) (backOf (W := 2) (rm6 l Z a0 hw [] v76 T62.heap n0 Zn62 ) hZ (own_w hw 41 rfl) (own_w hw 40 rfl) (by decide) (by decide)) (g := (mkF m 214 #[vJ q0, .second, vJ q1, .second, vJ q2, .second, vI p3, vR b1, vR bb7, vI 1, vI 0, vI v65] [(.int v76), (.long (own_by cc72))])) rfl (by rw [hml]; rfl) (argsL := [(.int v76)]) (rest := [(.long (own_by cc72))]) (lenOf pd_4 rfl) rfl (by show 2 * 0 + _ ≤ _; exact Nat.le_of_eq rfl) (hb hby at_214) (fun _ _ => ⟨rfl, eq71, (by decide : 4 + 0 ≤ _), (by decide : 7 + 0 ≤ _)⟩)
          dsimp only [Pt.U, Pt.locs, Pt.cells, Pt.slots] at X81 lq81 yq81 zq81 st81 hQ81
          subst lq81 yq81 zq81
          obtain ⟨rfl, Nq81, eq81⟩ := hQ81
          have N81 := Fr.app N71 Nq81
          have ks82 := own_c ks78 st81
          have ks83 : own_R p e below (A0) (T81.setTop (mkF m 218 #[vJ q0, .second, vJ q1, .second, vJ q2, .second, vI p3, vR b1, vR bb7, vI 1, vI 0, vI v65] [(.int (lcmpW (own_by cc72) (own_exp v76)))])) := fun t k => ks82 t (by
            refine XS.lcmp X81.here hx rfl (hb hby at_217) rfl ?_
            exact k)
          have hB84 : own_by cc72 = (own_exp v76) := own_fin hc72 (own_leaf_3 q0 q1 q2 p3 v23 v29 v65 v76 hv23 hv29 hv65 hv76 hc35 hc37 hc48 hc50).1 (own_leaf_3 q0 q1 q2 p3 v23 v29 v65 v76 hv23 hv29 hv65 hv76 hc35 hc37 hc48 hc50).2
          have ks85 : own_R p e below (A0) (T81.setTop (mkF m 230 #[vJ q0, .second, vJ q1, .second, vJ q2, .second, vI p3, vR b1, vR bb7, vI 1, vI 0, vI v65] [(.int 1)])) := fun t k => ks83 t (by
            refine XS.ifNo X81.here hx rfl (hb hby at_218) rfl ((if0 _ _).trans (teq ((lw_eq _ _).mpr hB84)).2) ?_
            refine XS.iconst X81.here hx rfl (hb hby at_221) ?_
            refine XS.goto X81.here hx rfl (pc0 := 222) (pc' := 226) rfl (hb hby at_222) (by decide) (by decide) ?_
            show Steps p.tables e below (T81.setTop (mkF m 226 #[vJ q0, .second, vJ q1, .second, vJ q2, .second, vI p3, vR b1, vR bb7, vI 1, vI 0, vI v65] [(.int 1)])) _
            refine XS.istore X81.here hx rfl (hb hby at_226) rfl (l' := #[vJ q0, .second, vJ q1, .second, vJ q2, .second, vI p3, vR b1, vR bb7, vI 1, vI 0, vI v65]) rfl ?_
            refine XS.iload X81.here hx rfl (hb hby at_228) rfl ?_
            exact k)
          obtain ⟨fs, hr, hrun, hended, hW, hsame⟩ := X81.leave (v := some (.int 1)) (fun h => by rw [Bd.returns] at h; cases h) hlk
          refine ⟨_, _, kz _ (ks85 _ ?_), hrun, hended, _, _, rfl, ?_, ⟨_, rfl⟩, hW, hsame.mono (by decide) (by decide)⟩
          · exact retN X81 hx (t := .boolean) Bd.returns (by simp) (hb hby at_230) hr
          · show Q0 Z q0 q1 q2 p3 u1 cl1 h0 n0 _ T81.heap _
            rw [eq81]
            exact ⟨rfl, N81⟩
      · skip
        have ks86 : own_R p e below (A0) (T43.setTop (mkF m 140 #[vJ q0, .second, vJ q1, .second, vJ q2, .second, vI p3, vR b1, vR bb7, vI 1, vI v23, vI v29] [(.long q2), (.ref b1)])) := fun t k => ks47 t (by
          refine XS.ifNo X43.here hx rfl (hb hby at_133) rfl ((if0 _ _).trans (feq hc48).1) ?_
          refine XS.aload X43.here hx rfl (hb hby at_136) rfl rfl ?_
          refine XS.lload X43.here hx rfl (hb hby at_138) rfl ?_
          exact k)
        obtain ⟨cq87, kq87, q87a, q87b, q87c⟩ := isOf hZ eq43 f15
        obtain ⟨_, _, ⟨T87, L87, k87, n87⟩, -, X87, ⟨Lc87, hQ87, lq87, yq87, zq87⟩, st87⟩ := X43.virtualBack hx (y := (⟨"com/example/thin_feed/thinfeed/store/LongFloorMap", "remove", "(J)V"⟩ : MethodName)) (z := (⟨"com/example/thin_feed/thinfeed/store/LongFloorMap", "remove", "(J)V"⟩ : MethodName)) hown (mvT hZ (own_w hw 84 rfl)) (mvT hZ (own_w hw 85 rfl)) (notFace_of_selects (args := #[]) (mvT hZ (own_w hw 87 rfl))) (mvT hZ (own_w hw 87 rfl)) (mvT hZ (own_w hw 86 rfl)) (by decide) (backOf (W := 0) (rm12M l Z a0 hw [] b1 q2 bb7 _ T7.heap n0 Zn7 MM0) hZ (own_w hw 88 rfl) (own_w hw 2 rfl) (by decide) (by decide)) q87a q87c (g := (mkF m 140 #[vJ q0, .second, vJ q1, .second, vJ q2, .second, vI p3, vR b1, vR bb7, vI 1, vI v23, vI v29] [(.long q2), (.ref b1)])) rfl (by rw [hml]; rfl) (Steps.refl _) (argsL := [(.long q2)]) (rest := []) (lenOf pd_10 rfl) rfl (by show 2 * 0 + _ ≤ _; exact Nat.le_of_eq rfl) (hb hby at_140) (fun _ _ => ⟨rfl, eq43, (by decide : 4 + 0 ≤ _), (by decide : 7 + 0 ≤ _)⟩)
        dsimp only [Pt.U, Pt.locs, Pt.cells, Pt.slots] at X87 lq87 yq87 zq87 st87 hQ87
        subst lq87 yq87 zq87
        obtain ⟨rfl, Nq87, Zn87, Xq87, MM87⟩ := hQ87
        have N87 := Fr.app N43 Nq87
        have ks88 := own_ct ks86 st87
        have ks91 : own_R p e below (A0) (T87.setTop (mkF m 147 #[vJ q0, .second, vJ q1, .second, vJ q2, .second, vI p3, vR b1, vR bb7, vI 1, vI v23, vI v29] [(.int (lcmpW q2 q0))])) := fun t k => ks88 t (by
          refine XS.lload X87.here hx rfl (hb hby at_143) rfl ?_
          refine XS.lloadN X87.here hx rfl (hb hby at_145) rfl ?_
          refine XS.lcmp X87.here hx rfl (hb hby at_146) rfl ?_
          exact k)
        obtain ⟨v90, hv90⟩ : ∃ z : Int32, z = (if q2 = q0 then (0 : Int32) else v23) := ⟨_, rfl⟩
        have ks92 : own_R p e below (A0) (T87.setTop (mkF m 153 #[vJ q0, .second, vJ q1, .second, vJ q2, .second, vI p3, vR b1, vR bb7, vI 1, vI v90, vI v29] [])) := fun t k => ks91 t (by
          by_cases hc89 : q2 = q0
          · skip
            have qq93 : v90 = (0 : Int32) := by rw [hv90, if_pos hc89]
            rw [qq93] at k
            refine XS.ifNo X87.here hx rfl (hb hby at_147) rfl ((if0 _ _).trans (teq ((lw_eq _ _).mpr hc89)).2) ?_
            refine XS.iconst X87.here hx rfl (hb hby at_150) ?_
            refine XS.istore X87.here hx rfl (hb hby at_151) rfl (l' := #[vJ q0, .second, vJ q1, .second, vJ q2, .second, vI p3, vR b1, vR bb7, vI 1, vI 0, vI v29]) rfl ?_
            exact k
          · skip
            have qq94 : v90 = v23 := by rw [hv90, if_neg hc89]
            rw [qq94] at k
            refine XS.ifYes X87.here hx rfl (pc0 := 147) (pc' := 153) rfl (hb hby at_147) rfl ((if0 _ _).trans (feq (fun q => hc89 ((lw_eq _ _).mp q))).2) (by decide) (by decide) ?_
            exact k)
        have ks97 : own_R p e below (A0) (T87.setTop (mkF m 157 #[vJ q0, .second, vJ q1, .second, vJ q2, .second, vI p3, vR b1, vR bb7, vI 1, vI v90, vI v29] [(.int (lcmpW q2 q1))])) := fun t k => ks92 t (by
          refine XS.lload X87.here hx rfl (hb hby at_153) rfl ?_
          refine XS.lloadN X87.here hx rfl (hb hby at_155) rfl ?_
          refine XS.lcmp X87.here hx rfl (hb hby at_156) rfl ?_
          exact k)
        obtain ⟨v96, hv96⟩ : ∃ z : Int32, z = (if q2 = q1 then (0 : Int32) else v29) := ⟨_, rfl⟩
        have ks98 : own_R p e below (A0) (T87.setTop (mkF m 163 #[vJ q0, .second, vJ q1, .second, vJ q2, .second, vI p3, vR b1, vR bb7, vI 1, vI v90, vI v96] [])) := fun t k => ks97 t (by
          by_cases hc95 : q2 = q1
          · skip
            have qq99 : v96 = (0 : Int32) := by rw [hv96, if_pos hc95]
            rw [qq99] at k
            refine XS.ifNo X87.here hx rfl (hb hby at_157) rfl ((if0 _ _).trans (teq ((lw_eq _ _).mpr hc95)).2) ?_
            refine XS.iconst X87.here hx rfl (hb hby at_160) ?_
            refine XS.istore X87.here hx rfl (hb hby at_161) rfl (l' := #[vJ q0, .second, vJ q1, .second, vJ q2, .second, vI p3, vR b1, vR bb7, vI 1, vI v90, vI 0]) rfl ?_
            exact k
          · skip
            have qq100 : v96 = v29 := by rw [hv96, if_neg hc95]
            rw [qq100] at k
            refine XS.ifYes X87.here hx rfl (pc0 := 157) (pc' := 163) rfl (hb hby at_157) rfl ((if0 _ _).trans (feq (fun q => hc95 ((lw_eq _ _).mp q))).2) (by decide) (by decide) ?_
            exact k)
        have ks101 : own_R p e below (A0) (T87.setTop (mkF m 168 #[vJ q0, .second, vJ q1, .second, vJ q2, .second, vI p3, vR b1, vR bb7, vI 1, vI v90, vI v96] [(.int (p3 &&& (8 : Int32)))])) := fun t k => ks98 t (by
          refine XS.iload X87.here hx rfl (hb hby at_163) rfl ?_
          refine XS.bipush X87.here hx rfl (hb hby at_165) ?_
          refine XS.iand X87.here hx rfl (hb hby at_167) rfl ?_
          exact k)
        by_cases hc102 : (p3 &&& (8 : Int32)) = (0 : Int32)
        · skip
          have ks103 : own_R p e below (A0) (T87.setTop (mkF m 196 #[vJ q0, .second, vJ q1, .second, vJ q2, .second, vI p3, vR b1, vR bb7, vI 1, vI v90, vI v96] [(.ref b1)])) := fun t k => ks101 t (by
            refine XS.ifYes X87.here hx rfl (pc0 := 168) (pc' := 189) rfl (hb hby at_168) rfl ((if0 _ _).trans (teq hc102).1) (by decide) (by decide) ?_
            refine XS.iload X87.here hx rfl (hb hby at_189) rfl ?_
            refine XS.ifNo X87.here hx rfl (hb hby at_191) rfl ((if0 _ _).trans (feq (by decide)).1) ?_
            show Steps p.tables e below (T87.setTop (mkF m 194 #[vJ q0, .second, vJ q1, .second, vJ q2, .second, vI p3, vR b1, vR bb7, vI 1, vI v90, vI v96] [])) _
            refine XS.aload X87.here hx rfl (hb hby at_194) rfl rfl ?_
            exact k)
          obtain ⟨f105, sh105, kf105, ksh105, cc105, vf105, vs105, Ff105, Fs105, Fc105, Vf105, Vs105, hc105⟩ := own_view MM87
          have f106 := (Xq87 _ _ f15)
          obtain ⟨cq104, kq104, q104a, q104b, q104c⟩ := isOf hZ rfl f106
          obtain ⟨_, _, ⟨T104, L104, k104, n104⟩, -, X104, ⟨Lc104, hQ104, lq104, yq104, zq104⟩, st104⟩ := X87.virtualBack hx (y := (⟨"com/example/thin_feed/thinfeed/store/LongFloorMap", "bytes", "()J"⟩ : MethodName)) (z := (⟨"com/example/thin_feed/thinfeed/store/LongFloorMap", "bytes", "()J"⟩ : MethodName)) hown (mvT hZ (own_w hw 23 rfl)) (mvT hZ (own_w hw 24 rfl)) (notFace_of_selects (args := #[]) (mvT hZ (own_w hw 26 rfl))) (mvT hZ (own_w hw 26 rfl)) (mvT hZ (own_w hw 25 rfl)) (by decide) (backOf (W := 0) (rm4 l Z a0 hw [] b1 f105 sh105 kf105 ksh105 cc105 vf105 vs105 T87.heap n0 Zn87 Ff105 Fs105 Fc105 Vf105 Vs105) hZ (own_w hw 27 rfl) (own_w hw 2 rfl) (by decide) (by decide)) q104a q104c (g := (mkF m 196 #[vJ q0, .second, vJ q1, .second, vJ q2, .second, vI p3, vR b1, vR bb7, vI 1, vI v90, vI v96] [(.ref b1)])) rfl (by rw [hml]; rfl) (Steps.refl _) (argsL := []) (rest := []) (lenOf pd_2 rfl) rfl (by show 2 * 0 + _ ≤ _; exact Nat.le_of_eq rfl) (hb hby at_196) (fun _ _ => ⟨rfl, rfl, (by decide : 4 + 0 ≤ _), (by decide : 7 + 0 ≤ _)⟩)
          dsimp only [Pt.U, Pt.locs, Pt.cells, Pt.slots] at X104 lq104 yq104 zq104 st104 hQ104
          subst lq104 yq104 zq104
          obtain ⟨rfl, Nq104, eq104⟩ := hQ104
          have N104 := Fr.app N87 Nq104
          have ks107 := own_ct ks103 st104
          have ks111 : own_R p e below (A0) (T104.setTop (mkF m 201 #[vJ q0, .second, vJ q1, .second, vJ q2, .second, vI p3, vR b1, vR bb7, vI 1, vI v90, vI v96] [(.int v90), (.long (own_by cc105))])) := fun t k => ks107 t (by
            refine XS.iload X104.here hx rfl (hb hby at_199) rfl ?_
            exact k)
          obtain ⟨v110, hv110⟩ : ∃ z : Int32, z = (if v90 = (0 : Int32) then (if v96 = (0 : Int32) then (0 : Int32) else (1 : Int32)) else (1 : Int32)) := ⟨_, rfl⟩
          have ks112 : own_R p e below (A0) (T104.setTop (mkF m 214 #[vJ q0, .second, vJ q1, .second, vJ q2, .second, vI p3, vR b1, vR bb7, vI 1, vI v90, vI v96] [(.int v110), (.long (own_by cc105))])) := fun t k => ks111 t (by
            by_cases hc108 : v90 = (0 : Int32)
            · skip
              refine XS.ifNo X104.here hx rfl (hb hby at_201) rfl ((if0 _ _).trans (teq hc108).2) ?_
              refine XS.iload X104.here hx rfl (hb hby at_204) rfl ?_
              by_cases hc109 : v96 = (0 : Int32)
              · skip
                have qq113 : v110 = (0 : Int32) := by rw [hv110, if_pos hc108, if_pos hc109]
                rw [qq113] at k
                refine XS.ifYes X104.here hx rfl (pc0 := 206) (pc' := 213) rfl (hb hby at_206) rfl ((if0 _ _).trans (teq hc109).1) (by decide) (by decide) ?_
                show Steps p.tables e below (T104.setTop (mkF m 213 #[vJ q0, .second, vJ q1, .second, vJ q2, .second, vI p3, vR b1, vR bb7, vI 1, vI v90, vI v96] [(.long (own_by cc105))])) _
                refine XS.iconst X104.here hx rfl (hb hby at_213) ?_
                exact k
              · skip
                have qq114 : v110 = (1 : Int32) := by rw [hv110, if_pos hc108, if_neg hc109]
                rw [qq114] at k
                refine XS.ifNo X104.here hx rfl (hb hby at_206) rfl ((if0 _ _).trans (feq hc109).1) ?_
                show Steps p.tables e below (T104.setTop (mkF m 209 #[vJ q0, .second, vJ q1, .second, vJ q2, .second, vI p3, vR b1, vR bb7, vI 1, vI v90, vI v96] [(.long (own_by cc105))])) _
                refine XS.iconst X104.here hx rfl (hb hby at_209) ?_
                refine XS.goto X104.here hx rfl (pc0 := 210) (pc' := 214) rfl (hb hby at_210) (by decide) (by decide) ?_
                exact k
            · skip
              have qq115 : v110 = (1 : Int32) := by rw [hv110, if_neg hc108]
              rw [qq115] at k
              refine XS.ifYes X104.here hx rfl (pc0 := 201) (pc' := 209) rfl (hb hby at_201) rfl ((if0 _ _).trans (feq hc108).2) (by decide) (by decide) ?_
              refine XS.iconst X104.here hx rfl (hb hby at_209) ?_
              refine XS.goto X104.here hx rfl (pc0 := 210) (pc' := 214) rfl (hb hby at_210) (by decide) (by decide) ?_
              exact k)
          obtain ⟨_, _, ⟨T116, L116, k116, n116⟩, -, X116, ⟨Lc116, hQ116, lq116, yq116, zq116⟩, st116⟩ := Jvm.LawKit.callS X104 hx (y := (⟨"com/example/thin_feed/thinfeed/store/LongFloorMapBytesPinLaw", "expected", "(Z)J"⟩ : MethodName)) hown (mvT hZ (own_w hw 38 rfl)) (mvT hZ (own_w hw 39 rfl)) (mvT hZ (own_w hw 40 rfl)) (mvT hZ (own_w hw 41 rfl)) (by decide) (backOf (W := 2) (rm6 l Z a0 hw [] v110 T87.heap n0 Zn87 ) hZ (own_w hw 41 rfl) (own_w hw 40 rfl) (by decide) (by decide)) (g := (mkF m 214 #[vJ q0, .second, vJ q1, .second, vJ q2, .second, vI p3, vR b1, vR bb7, vI 1, vI v90, vI v96] [(.int v110), (.long (own_by cc105))])) rfl (by rw [hml]; rfl) (argsL := [(.int v110)]) (rest := [(.long (own_by cc105))]) (lenOf pd_4 rfl) rfl (by show 2 * 0 + _ ≤ _; exact Nat.le_of_eq rfl) (hb hby at_214) (fun _ _ => ⟨rfl, eq104, (by decide : 4 + 0 ≤ _), (by decide : 7 + 0 ≤ _)⟩)
          dsimp only [Pt.U, Pt.locs, Pt.cells, Pt.slots] at X116 lq116 yq116 zq116 st116 hQ116
          subst lq116 yq116 zq116
          obtain ⟨rfl, Nq116, eq116⟩ := hQ116
          have N116 := Fr.app N104 Nq116
          have ks117 := own_c ks112 st116
          have ks118 : own_R p e below (A0) (T116.setTop (mkF m 218 #[vJ q0, .second, vJ q1, .second, vJ q2, .second, vI p3, vR b1, vR bb7, vI 1, vI v90, vI v96] [(.int (lcmpW (own_by cc105) (own_exp v110)))])) := fun t k => ks117 t (by
            refine XS.lcmp X116.here hx rfl (hb hby at_217) rfl ?_
            exact k)
          have hB119 : own_by cc105 = (own_exp v110) := own_fin hc105 (own_leaf_4 q0 q1 q2 p3 v23 v29 v90 v96 v110 hv23 hv29 hv90 hv96 hv110 hc35 hc37 hc48 hc102).1 (own_leaf_4 q0 q1 q2 p3 v23 v29 v90 v96 v110 hv23 hv29 hv90 hv96 hv110 hc35 hc37 hc48 hc102).2
          have ks120 : own_R p e below (A0) (T116.setTop (mkF m 230 #[vJ q0, .second, vJ q1, .second, vJ q2, .second, vI p3, vR b1, vR bb7, vI 1, vI v90, vI v96] [(.int 1)])) := fun t k => ks118 t (by
            refine XS.ifNo X116.here hx rfl (hb hby at_218) rfl ((if0 _ _).trans (teq ((lw_eq _ _).mpr hB119)).2) ?_
            refine XS.iconst X116.here hx rfl (hb hby at_221) ?_
            refine XS.goto X116.here hx rfl (pc0 := 222) (pc' := 226) rfl (hb hby at_222) (by decide) (by decide) ?_
            show Steps p.tables e below (T116.setTop (mkF m 226 #[vJ q0, .second, vJ q1, .second, vJ q2, .second, vI p3, vR b1, vR bb7, vI 1, vI v90, vI v96] [(.int 1)])) _
            refine XS.istore X116.here hx rfl (hb hby at_226) rfl (l' := #[vJ q0, .second, vJ q1, .second, vJ q2, .second, vI p3, vR b1, vR bb7, vI 1, vI v90, vI v96]) rfl ?_
            refine XS.iload X116.here hx rfl (hb hby at_228) rfl ?_
            exact k)
          obtain ⟨fs, hr, hrun, hended, hW, hsame⟩ := X116.leave (v := some (.int 1)) (fun h => by rw [Bd.returns] at h; cases h) hlk
          refine ⟨_, _, kz _ (ks120 _ ?_), hrun, hended, _, _, rfl, ?_, ⟨_, rfl⟩, hW, hsame.mono (by decide) (by decide)⟩
          · exact retN X116 hx (t := .boolean) Bd.returns (by simp) (hb hby at_230) hr
          · show Q0 Z q0 q1 q2 p3 u1 cl1 h0 n0 _ T116.heap _
            rw [eq116]
            exact ⟨rfl, N116⟩
        · skip
          have ks121 : own_R p e below (A0) (T87.setTop (mkF m 174 #[vJ q0, .second, vJ q1, .second, vJ q2, .second, vI p3, vR b1, vR bb7, vI 1, vI v90, vI v96] [(.long q0), (.ref b1)])) := fun t k => ks101 t (by
            refine XS.ifNo X87.here hx rfl (hb hby at_168) rfl ((if0 _ _).trans (feq hc102).1) ?_
            refine XS.aload X87.here hx rfl (hb hby at_171) rfl rfl ?_
            refine XS.lloadN X87.here hx rfl (hb hby at_173) rfl ?_
            exact k)
          have f123 := (Xq87 _ _ f15)
          obtain ⟨cq122, kq122, q122a, q122b, q122c⟩ := isOf hZ rfl f123
          obtain ⟨_, _, ⟨T122, L122, k122, n122⟩, -, X122, ⟨Lc122, hQ122, lq122, yq122, zq122⟩, st122⟩ := X87.virtualBack hx (y := (⟨"com/example/thin_feed/thinfeed/store/LongFloorMap", "remove", "(J)V"⟩ : MethodName)) (z := (⟨"com/example/thin_feed/thinfeed/store/LongFloorMap", "remove", "(J)V"⟩ : MethodName)) hown (mvT hZ (own_w hw 84 rfl)) (mvT hZ (own_w hw 85 rfl)) (notFace_of_selects (args := #[]) (mvT hZ (own_w hw 87 rfl))) (mvT hZ (own_w hw 87 rfl)) (mvT hZ (own_w hw 86 rfl)) (by decide) (backOf (W := 0) (rm12M l Z a0 hw [] b1 q0 bb7 _ T87.heap n0 Zn87 MM87) hZ (own_w hw 88 rfl) (own_w hw 2 rfl) (by decide) (by decide)) q122a q122c (g := (mkF m 174 #[vJ q0, .second, vJ q1, .second, vJ q2, .second, vI p3, vR b1, vR bb7, vI 1, vI v90, vI v96] [(.long q0), (.ref b1)])) rfl (by rw [hml]; rfl) (Steps.refl _) (argsL := [(.long q0)]) (rest := []) (lenOf pd_10 rfl) rfl (by show 2 * 0 + _ ≤ _; exact Nat.le_of_eq rfl) (hb hby at_174) (fun _ _ => ⟨rfl, rfl, (by decide : 4 + 0 ≤ _), (by decide : 7 + 0 ≤ _)⟩)
          dsimp only [Pt.U, Pt.locs, Pt.cells, Pt.slots] at X122 lq122 yq122 zq122 st122 hQ122
          subst lq122 yq122 zq122
          obtain ⟨rfl, Nq122, Zn122, Xq122, MM122⟩ := hQ122
          have N122 := Fr.app N87 Nq122
          have ks124 := own_ct ks121 st122
          have ks127 : own_R p e below (A0) (T122.setTop (mkF m 183 #[vJ q0, .second, vJ q1, .second, vJ q2, .second, vI p3, vR b1, vR bb7, vI 1, vI 0, vI v96] [(.int (lcmpW q1 q0))])) := fun t k => ks124 t (by
            refine XS.iconst X122.here hx rfl (hb hby at_177) ?_
            refine XS.istore X122.here hx rfl (hb hby at_178) rfl (l' := #[vJ q0, .second, vJ q1, .second, vJ q2, .second, vI p3, vR b1, vR bb7, vI 1, vI 0, vI v96]) rfl ?_
            refine XS.lloadN X122.here hx rfl (hb hby at_180) rfl ?_
            show Steps p.tables e below (T122.setTop (mkF m 181 #[vJ q0, .second, vJ q1, .second, vJ q2, .second, vI p3, vR b1, vR bb7, vI 1, vI 0, vI v96] [(.long q1)])) _
            refine XS.lloadN X122.here hx rfl (hb hby at_181) rfl ?_
            refine XS.lcmp X122.here hx rfl (hb hby at_182) rfl ?_
            exact k)
          obtain ⟨v126, hv126⟩ : ∃ z : Int32, z = (if q1 = q0 then (0 : Int32) else v96) := ⟨_, rfl⟩
          have ks128 : own_R p e below (A0) (T122.setTop (mkF m 189 #[vJ q0, .second, vJ q1, .second, vJ q2, .second, vI p3, vR b1, vR bb7, vI 1, vI 0, vI v126] [])) := fun t k => ks127 t (by
            by_cases hc125 : q1 = q0
            · skip
              have qq129 : v126 = (0 : Int32) := by rw [hv126, if_pos hc125]
              rw [qq129] at k
              refine XS.ifNo X122.here hx rfl (hb hby at_183) rfl ((if0 _ _).trans (teq ((lw_eq _ _).mpr hc125)).2) ?_
              refine XS.iconst X122.here hx rfl (hb hby at_186) ?_
              refine XS.istore X122.here hx rfl (hb hby at_187) rfl (l' := #[vJ q0, .second, vJ q1, .second, vJ q2, .second, vI p3, vR b1, vR bb7, vI 1, vI 0, vI 0]) rfl ?_
              exact k
            · skip
              have qq130 : v126 = v96 := by rw [hv126, if_neg hc125]
              rw [qq130] at k
              refine XS.ifYes X122.here hx rfl (pc0 := 183) (pc' := 189) rfl (hb hby at_183) rfl ((if0 _ _).trans (feq (fun q => hc125 ((lw_eq _ _).mp q))).2) (by decide) (by decide) ?_
              exact k)
          have ks131 : own_R p e below (A0) (T122.setTop (mkF m 196 #[vJ q0, .second, vJ q1, .second, vJ q2, .second, vI p3, vR b1, vR bb7, vI 1, vI 0, vI v126] [(.ref b1)])) := fun t k => ks128 t (by
            refine XS.iload X122.here hx rfl (hb hby at_189) rfl ?_
            refine XS.ifNo X122.here hx rfl (hb hby at_191) rfl ((if0 _ _).trans (feq (by decide)).1) ?_
            refine XS.aload X122.here hx rfl (hb hby at_194) rfl rfl ?_
            exact k)
          obtain ⟨f133, sh133, kf133, ksh133, cc133, vf133, vs133, Ff133, Fs133, Fc133, Vf133, Vs133, hc133⟩ := own_view MM122
          have f134 := (Xq122 _ _ f123)
          obtain ⟨cq132, kq132, q132a, q132b, q132c⟩ := isOf hZ rfl f134
          obtain ⟨_, _, ⟨T132, L132, k132, n132⟩, -, X132, ⟨Lc132, hQ132, lq132, yq132, zq132⟩, st132⟩ := X122.virtualBack hx (y := (⟨"com/example/thin_feed/thinfeed/store/LongFloorMap", "bytes", "()J"⟩ : MethodName)) (z := (⟨"com/example/thin_feed/thinfeed/store/LongFloorMap", "bytes", "()J"⟩ : MethodName)) hown (mvT hZ (own_w hw 23 rfl)) (mvT hZ (own_w hw 24 rfl)) (notFace_of_selects (args := #[]) (mvT hZ (own_w hw 26 rfl))) (mvT hZ (own_w hw 26 rfl)) (mvT hZ (own_w hw 25 rfl)) (by decide) (backOf (W := 0) (rm4 l Z a0 hw [] b1 f133 sh133 kf133 ksh133 cc133 vf133 vs133 T122.heap n0 Zn122 Ff133 Fs133 Fc133 Vf133 Vs133) hZ (own_w hw 27 rfl) (own_w hw 2 rfl) (by decide) (by decide)) q132a q132c (g := (mkF m 196 #[vJ q0, .second, vJ q1, .second, vJ q2, .second, vI p3, vR b1, vR bb7, vI 1, vI 0, vI v126] [(.ref b1)])) rfl (by rw [hml]; rfl) (Steps.refl _) (argsL := []) (rest := []) (lenOf pd_2 rfl) rfl (by show 2 * 0 + _ ≤ _; exact Nat.le_of_eq rfl) (hb hby at_196) (fun _ _ => ⟨rfl, rfl, (by decide : 4 + 0 ≤ _), (by decide : 7 + 0 ≤ _)⟩)
          dsimp only [Pt.U, Pt.locs, Pt.cells, Pt.slots] at X132 lq132 yq132 zq132 st132 hQ132
          subst lq132 yq132 zq132
          obtain ⟨rfl, Nq132, eq132⟩ := hQ132
          have N132 := Fr.app N122 Nq132
          have ks135 := own_ct ks131 st132
          have ks138 : own_R p e below (A0) (T132.setTop (mkF m 206 #[vJ q0, .second, vJ q1, .second, vJ q2, .second, vI p3, vR b1, vR bb7, vI 1, vI 0, vI v126] [(.int v126), (.long (own_by cc133))])) := fun t k => ks135 t (by
            refine XS.iload X132.here hx rfl (hb hby at_199) rfl ?_
            refine XS.ifNo X132.here hx rfl (hb hby at_201) rfl ((if0 _ _).trans (teq (by decide)).2) ?_
            refine XS.iload X132.here hx rfl (hb hby at_204) rfl ?_
            exact k)
          obtain ⟨v137, hv137⟩ : ∃ z : Int32, z = (if v126 = (0 : Int32) then (0 : Int32) else (1 : Int32)) := ⟨_, rfl⟩
          have ks139 : own_R p e below (A0) (T132.setTop (mkF m 214 #[vJ q0, .second, vJ q1, .second, vJ q2, .second, vI p3, vR b1, vR bb7, vI 1, vI 0, vI v126] [(.int v137), (.long (own_by cc133))])) := fun t k => ks138 t (by
            by_cases hc136 : v126 = (0 : Int32)
            · skip
              have qq140 : v137 = (0 : Int32) := by rw [hv137, if_pos hc136]
              rw [qq140] at k
              refine XS.ifYes X132.here hx rfl (pc0 := 206) (pc' := 213) rfl (hb hby at_206) rfl ((if0 _ _).trans (teq hc136).1) (by decide) (by decide) ?_
              refine XS.iconst X132.here hx rfl (hb hby at_213) ?_
              exact k
            · skip
              have qq141 : v137 = (1 : Int32) := by rw [hv137, if_neg hc136]
              rw [qq141] at k
              refine XS.ifNo X132.here hx rfl (hb hby at_206) rfl ((if0 _ _).trans (feq hc136).1) ?_
              refine XS.iconst X132.here hx rfl (hb hby at_209) ?_
              refine XS.goto X132.here hx rfl (pc0 := 210) (pc' := 214) rfl (hb hby at_210) (by decide) (by decide) ?_
              exact k)
          obtain ⟨_, _, ⟨T142, L142, k142, n142⟩, -, X142, ⟨Lc142, hQ142, lq142, yq142, zq142⟩, st142⟩ := Jvm.LawKit.callS X132 hx (y := (⟨"com/example/thin_feed/thinfeed/store/LongFloorMapBytesPinLaw", "expected", "(Z)J"⟩ : MethodName)) hown (mvT hZ (own_w hw 38 rfl)) (mvT hZ (own_w hw 39 rfl)) (mvT hZ (own_w hw 40 rfl)) (mvT hZ (own_w hw 41 rfl)) (by decide) (backOf (W := 2) (rm6 l Z a0 hw [] v137 T122.heap n0 Zn122 ) hZ (own_w hw 41 rfl) (own_w hw 40 rfl) (by decide) (by decide)) (g := (mkF m 214 #[vJ q0, .second, vJ q1, .second, vJ q2, .second, vI p3, vR b1, vR bb7, vI 1, vI 0, vI v126] [(.int v137), (.long (own_by cc133))])) rfl (by rw [hml]; rfl) (argsL := [(.int v137)]) (rest := [(.long (own_by cc133))]) (lenOf pd_4 rfl) rfl (by show 2 * 0 + _ ≤ _; exact Nat.le_of_eq rfl) (hb hby at_214) (fun _ _ => ⟨rfl, eq132, (by decide : 4 + 0 ≤ _), (by decide : 7 + 0 ≤ _)⟩)
          dsimp only [Pt.U, Pt.locs, Pt.cells, Pt.slots] at X142 lq142 yq142 zq142 st142 hQ142
          subst lq142 yq142 zq142
          obtain ⟨rfl, Nq142, eq142⟩ := hQ142
          have N142 := Fr.app N132 Nq142
          have ks143 := own_c ks139 st142
          have ks144 : own_R p e below (A0) (T142.setTop (mkF m 218 #[vJ q0, .second, vJ q1, .second, vJ q2, .second, vI p3, vR b1, vR bb7, vI 1, vI 0, vI v126] [(.int (lcmpW (own_by cc133) (own_exp v137)))])) := fun t k => ks143 t (by
            refine XS.lcmp X142.here hx rfl (hb hby at_217) rfl ?_
            exact k)
          have hB145 : own_by cc133 = (own_exp v137) := own_fin hc133 (own_leaf_5 q0 q1 q2 p3 v23 v29 v90 v96 v126 v137 hv23 hv29 hv90 hv96 hv126 hv137 hc35 hc37 hc48 hc102).1 (own_leaf_5 q0 q1 q2 p3 v23 v29 v90 v96 v126 v137 hv23 hv29 hv90 hv96 hv126 hv137 hc35 hc37 hc48 hc102).2
          have ks146 : own_R p e below (A0) (T142.setTop (mkF m 230 #[vJ q0, .second, vJ q1, .second, vJ q2, .second, vI p3, vR b1, vR bb7, vI 1, vI 0, vI v126] [(.int 1)])) := fun t k => ks144 t (by
            refine XS.ifNo X142.here hx rfl (hb hby at_218) rfl ((if0 _ _).trans (teq ((lw_eq _ _).mpr hB145)).2) ?_
            refine XS.iconst X142.here hx rfl (hb hby at_221) ?_
            refine XS.goto X142.here hx rfl (pc0 := 222) (pc' := 226) rfl (hb hby at_222) (by decide) (by decide) ?_
            show Steps p.tables e below (T142.setTop (mkF m 226 #[vJ q0, .second, vJ q1, .second, vJ q2, .second, vI p3, vR b1, vR bb7, vI 1, vI 0, vI v126] [(.int 1)])) _
            refine XS.istore X142.here hx rfl (hb hby at_226) rfl (l' := #[vJ q0, .second, vJ q1, .second, vJ q2, .second, vI p3, vR b1, vR bb7, vI 1, vI 0, vI v126]) rfl ?_
            refine XS.iload X142.here hx rfl (hb hby at_228) rfl ?_
            exact k)
          obtain ⟨fs, hr, hrun, hended, hW, hsame⟩ := X142.leave (v := some (.int 1)) (fun h => by rw [Bd.returns] at h; cases h) hlk
          refine ⟨_, _, kz _ (ks146 _ ?_), hrun, hended, _, _, rfl, ?_, ⟨_, rfl⟩, hW, hsame.mono (by decide) (by decide)⟩
          · exact retN X142 hx (t := .boolean) Bd.returns (by simp) (hb hby at_230) hr
          · show Q0 Z q0 q1 q2 p3 u1 cl1 h0 n0 _ T142.heap _
            rw [eq142]
            exact ⟨rfl, N142⟩
    · skip
      have ks147 : own_R p e below (A0) (T18.setTop (mkF m 87 #[vJ q0, .second, vJ q1, .second, vJ q2, .second, vI p3, vR b1, vR bb7, vI 1, vI v23, vI v29] [(.ref bb7), (.long q1), (.ref b1)])) := fun t k => ks36 t (by
        refine XS.ifNo X18.here hx rfl (hb hby at_79) rfl ((if0 _ _).trans (feq hc37).1) ?_
        refine XS.aload X18.here hx rfl (hb hby at_82) rfl rfl ?_
        refine XS.lloadN X18.here hx rfl (hb hby at_84) rfl ?_
        show Steps p.tables e below (T18.setTop (mkF m 85 #[vJ q0, .second, vJ q1, .second, vJ q2, .second, vI p3, vR b1, vR bb7, vI 1, vI v23, vI v29] [(.long q1), (.ref b1)])) _
        refine XS.aload X18.here hx rfl (hb hby at_85) rfl rfl ?_
        exact k)
      obtain ⟨f_149, sh_149, kf_149, ksh_149, sz_149, x_149, E0_149, Ff_149, Fsh_149, Fc_149, Fz_149, Vf_149, Vs_149, Os_149, g_r0_149, g_f_149, g_sh_149, ne_r0_f_149, ne_r0_sh_149, ne_f_sh_149⟩ := CC7
      obtain ⟨cq148, kq148, q148a, q148b, q148c⟩ := isOf hZ eq18 f15
      obtain ⟨_, _, ⟨T148, L148, k148, n148⟩, -, X148, ⟨Lc148, hQ148, lq148, yq148, zq148⟩, st148⟩ := X18.virtualBack hx (y := (⟨"com/example/thin_feed/thinfeed/store/LongFloorMap", "put", "(JLjava/lang/Object;)V"⟩ : MethodName)) (z := (⟨"com/example/thin_feed/thinfeed/store/LongFloorMap", "put", "(JLjava/lang/Object;)V"⟩ : MethodName)) hown (mvT hZ (own_w hw 44 rfl)) (mvT hZ (own_w hw 45 rfl)) (notFace_of_selects (args := #[]) (mvT hZ (own_w hw 47 rfl))) (mvT hZ (own_w hw 47 rfl)) (mvT hZ (own_w hw 46 rfl)) (by decide) (backOf (W := 0) (rm7E l Z a0 hw [] b1 q1 bb7 f_149 sh_149 kf_149 ksh_149 sz_149 x_149 T7.heap n0 Zn7 E0_149 Ff_149 Fsh_149 Fc_149 Fz_149 Vf_149 Vs_149 Os_149 Ex7 g_r0_149 g_f_149 g_sh_149 ne_r0_f_149 ne_r0_sh_149 ne_f_sh_149) hZ (own_w hw 48 rfl) (own_w hw 2 rfl) (by decide) (by decide)) q148a q148c (g := (mkF m 87 #[vJ q0, .second, vJ q1, .second, vJ q2, .second, vI p3, vR b1, vR bb7, vI 1, vI v23, vI v29] [(.ref bb7), (.long q1), (.ref b1)])) rfl (by rw [hml]; rfl) (Steps.refl _) (argsL := [(.long q1), (.ref bb7)]) (rest := []) (lenOf pd_5 rfl) rfl (by show 2 * 0 + _ ≤ _; exact Nat.le_of_eq rfl) (hb hby at_87) (fun _ _ => ⟨rfl, eq18, (by decide : 4 + 3 ≤ _), (by decide : 7 + 515 ≤ _)⟩)
      dsimp only [Pt.U, Pt.locs, Pt.cells, Pt.slots] at X148 lq148 yq148 zq148 st148 hQ148
      subst lq148 yq148 zq148
      obtain ⟨rfl, Nq148, Zn148, Xq148, bq148, FF148⟩ := hQ148
      have N148 := Fr.app N18 Nq148
      have MM148 : own_M Z T148.heap n0 b1 bb7 (fun x => x = q1) := Or.inr (Or.inl ⟨_, _, FF148, fun _ => Iff.rfl⟩)
      have ks150 := own_ct ks147 st148
      have ks151 : own_R p e below (A0) (T148.setTop (mkF m 97 #[vJ q0, .second, vJ q1, .second, vJ q2, .second, vI p3, vR b1, vR bb7, vI 1, vI v23, vI v29] [(.ref b1)])) := fun t k => ks150 t (by
        refine XS.iload X148.here hx rfl (hb hby at_90) rfl ?_
        refine XS.ifNo X148.here hx rfl (hb hby at_92) rfl ((if0 _ _).trans (feq (by decide)).1) ?_
        refine XS.aload X148.here hx rfl (hb hby at_95) rfl rfl ?_
        exact k)
      obtain ⟨f153, sh153, kf153, ksh153, cc153, vf153, vs153, Ff153, Fs153, Fc153, Vf153, Vs153, hc153⟩ := own_view MM148
      have f154 := (Xq148 _ _ f15)
      obtain ⟨cq152, kq152, q152a, q152b, q152c⟩ := isOf hZ rfl f154
      obtain ⟨_, _, ⟨T152, L152, k152, n152⟩, -, X152, ⟨Lc152, hQ152, lq152, yq152, zq152⟩, st152⟩ := X148.virtualBack hx (y := (⟨"com/example/thin_feed/thinfeed/store/LongFloorMap", "bytes", "()J"⟩ : MethodName)) (z := (⟨"com/example/thin_feed/thinfeed/store/LongFloorMap", "bytes", "()J"⟩ : MethodName)) hown (mvT hZ (own_w hw 23 rfl)) (mvT hZ (own_w hw 24 rfl)) (notFace_of_selects (args := #[]) (mvT hZ (own_w hw 26 rfl))) (mvT hZ (own_w hw 26 rfl)) (mvT hZ (own_w hw 25 rfl)) (by decide) (backOf (W := 0) (rm4 l Z a0 hw [] b1 f153 sh153 kf153 ksh153 cc153 vf153 vs153 T148.heap n0 Zn148 Ff153 Fs153 Fc153 Vf153 Vs153) hZ (own_w hw 27 rfl) (own_w hw 2 rfl) (by decide) (by decide)) q152a q152c (g := (mkF m 97 #[vJ q0, .second, vJ q1, .second, vJ q2, .second, vI p3, vR b1, vR bb7, vI 1, vI v23, vI v29] [(.ref b1)])) rfl (by rw [hml]; rfl) (Steps.refl _) (argsL := []) (rest := []) (lenOf pd_2 rfl) rfl (by show 2 * 0 + _ ≤ _; exact Nat.le_of_eq rfl) (hb hby at_97) (fun _ _ => ⟨rfl, rfl, (by decide : 7 + 0 ≤ _), (by decide : 522 + 0 ≤ _)⟩)
      dsimp only [Pt.U, Pt.locs, Pt.cells, Pt.slots] at X152 lq152 yq152 zq152 st152 hQ152
      subst lq152 yq152 zq152
      obtain ⟨rfl, Nq152, eq152⟩ := hQ152
      have N152 := Fr.app N148 Nq152
      have ks155 := own_ct ks151 st152
      have ks156 : own_R p e below (A0) (T152.setTop (mkF m 115 #[vJ q0, .second, vJ q1, .second, vJ q2, .second, vI p3, vR b1, vR bb7, vI 1, vI v23, vI v29] [(.int 1), (.long (own_by cc153))])) := fun t k => ks155 t (by
        refine XS.iload X152.here hx rfl (hb hby at_100) rfl ?_
        refine XS.ifNo X152.here hx rfl (hb hby at_102) rfl ((if0 _ _).trans (teq hc35).2) ?_
        refine XS.iload X152.here hx rfl (hb hby at_105) rfl ?_
        show Steps p.tables e below (T152.setTop (mkF m 107 #[vJ q0, .second, vJ q1, .second, vJ q2, .second, vI p3, vR b1, vR bb7, vI 1, vI v23, vI v29] [(.int v29), (.long (own_by cc153))])) _
        refine XS.ifNo X152.here hx rfl (hb hby at_107) rfl ((if0 _ _).trans (feq hc37).1) ?_
        refine XS.iconst X152.here hx rfl (hb hby at_110) ?_
        refine XS.goto X152.here hx rfl (pc0 := 111) (pc' := 115) rfl (hb hby at_111) (by decide) (by decide) ?_
        exact k)
      obtain ⟨_, _, ⟨T157, L157, k157, n157⟩, -, X157, ⟨Lc157, hQ157, lq157, yq157, zq157⟩, st157⟩ := Jvm.LawKit.callS X152 hx (y := (⟨"com/example/thin_feed/thinfeed/store/LongFloorMapBytesPinLaw", "expected", "(Z)J"⟩ : MethodName)) hown (mvT hZ (own_w hw 38 rfl)) (mvT hZ (own_w hw 39 rfl)) (mvT hZ (own_w hw 40 rfl)) (mvT hZ (own_w hw 41 rfl)) (by decide) (backOf (W := 2) (rm6 l Z a0 hw [] (1 : Int32) T148.heap n0 Zn148 ) hZ (own_w hw 41 rfl) (own_w hw 40 rfl) (by decide) (by decide)) (g := (mkF m 115 #[vJ q0, .second, vJ q1, .second, vJ q2, .second, vI p3, vR b1, vR bb7, vI 1, vI v23, vI v29] [(.int 1), (.long (own_by cc153))])) rfl (by rw [hml]; rfl) (argsL := [(.int 1)]) (rest := [(.long (own_by cc153))]) (lenOf pd_4 rfl) rfl (by show 2 * 0 + _ ≤ _; exact Nat.le_of_eq rfl) (hb hby at_115) (fun _ _ => ⟨rfl, eq152, (by decide : 7 + 0 ≤ _), (by decide : 522 + 0 ≤ _)⟩)
      dsimp only [Pt.U, Pt.locs, Pt.cells, Pt.slots] at X157 lq157 yq157 zq157 st157 hQ157
      subst lq157 yq157 zq157
      obtain ⟨rfl, Nq157, eq157⟩ := hQ157
      have N157 := Fr.app N152 Nq157
      have ks158 := own_c ks156 st157
      have ks159 : own_R p e below (A0) (T157.setTop (mkF m 119 #[vJ q0, .second, vJ q1, .second, vJ q2, .second, vI p3, vR b1, vR bb7, vI 1, vI v23, vI v29] [(.int (lcmpW (own_by cc153) (own_exp (1 : Int32))))])) := fun t k => ks158 t (by
        refine XS.lcmp X157.here hx rfl (hb hby at_118) rfl ?_
        exact k)
      have hB160 : own_by cc153 = (own_exp (1 : Int32)) := own_fin hc153 (own_leaf_6 q0 q1 q2 p3 v23 v29 hv23 hv29 hc35 hc37).1 (own_leaf_6 q0 q1 q2 p3 v23 v29 hv23 hv29 hc35 hc37).2
      have ks161 : own_R p e below (A0) (T157.setTop (mkF m 133 #[vJ q0, .second, vJ q1, .second, vJ q2, .second, vI p3, vR b1, vR bb7, vI 1, vI v23, vI v29] [(.int (p3 &&& (4 : Int32)))])) := fun t k => ks159 t (by
        refine XS.ifNo X157.here hx rfl (hb hby at_119) rfl ((if0 _ _).trans (teq ((lw_eq _ _).mpr hB160)).2) ?_
        refine XS.iconst X157.here hx rfl (hb hby at_122) ?_
        refine XS.goto X157.here hx rfl (pc0 := 123) (pc' := 127) rfl (hb hby at_123) (by decide) (by decide) ?_
        show Steps p.tables e below (T157.setTop (mkF m 127 #[vJ q0, .second, vJ q1, .second, vJ q2, .second, vI p3, vR b1, vR bb7, vI 1, vI v23, vI v29] [(.int 1)])) _
        refine XS.istore X157.here hx rfl (hb hby at_127) rfl (l' := #[vJ q0, .second, vJ q1, .second, vJ q2, .second, vI p3, vR b1, vR bb7, vI 1, vI v23, vI v29]) rfl ?_
        refine XS.iload X157.here hx rfl (hb hby at_129) rfl ?_
        refine XS.iconst X157.here hx rfl (hb hby at_131) ?_
        refine XS.iand X157.here hx rfl (hb hby at_132) rfl ?_
        exact k)
      by_cases hc162 : (p3 &&& (4 : Int32)) = (0 : Int32)
      · skip
        have ks163 : own_R p e below (A0) (T157.setTop (mkF m 168 #[vJ q0, .second, vJ q1, .second, vJ q2, .second, vI p3, vR b1, vR bb7, vI 1, vI v23, vI v29] [(.int (p3 &&& (8 : Int32)))])) := fun t k => ks161 t (by
          refine XS.ifYes X157.here hx rfl (pc0 := 133) (pc' := 163) rfl (hb hby at_133) rfl ((if0 _ _).trans (teq hc162).1) (by decide) (by decide) ?_
          refine XS.iload X157.here hx rfl (hb hby at_163) rfl ?_
          refine XS.bipush X157.here hx rfl (hb hby at_165) ?_
          show Steps p.tables e below (T157.setTop (mkF m 167 #[vJ q0, .second, vJ q1, .second, vJ q2, .second, vI p3, vR b1, vR bb7, vI 1, vI v23, vI v29] [(.int 8), (.int p3)])) _
          refine XS.iand X157.here hx rfl (hb hby at_167) rfl ?_
          exact k)
        by_cases hc164 : (p3 &&& (8 : Int32)) = (0 : Int32)
        · skip
          have ks165 : own_R p e below (A0) (T157.setTop (mkF m 196 #[vJ q0, .second, vJ q1, .second, vJ q2, .second, vI p3, vR b1, vR bb7, vI 1, vI v23, vI v29] [(.ref b1)])) := fun t k => ks163 t (by
            refine XS.ifYes X157.here hx rfl (pc0 := 168) (pc' := 189) rfl (hb hby at_168) rfl ((if0 _ _).trans (teq hc164).1) (by decide) (by decide) ?_
            refine XS.iload X157.here hx rfl (hb hby at_189) rfl ?_
            refine XS.ifNo X157.here hx rfl (hb hby at_191) rfl ((if0 _ _).trans (feq (by decide)).1) ?_
            show Steps p.tables e below (T157.setTop (mkF m 194 #[vJ q0, .second, vJ q1, .second, vJ q2, .second, vI p3, vR b1, vR bb7, vI 1, vI v23, vI v29] [])) _
            refine XS.aload X157.here hx rfl (hb hby at_194) rfl rfl ?_
            exact k)
          obtain ⟨f167, sh167, kf167, ksh167, cc167, vf167, vs167, Ff167, Fs167, Fc167, Vf167, Vs167, hc167⟩ := own_view MM148
          obtain ⟨cq166, kq166, q166a, q166b, q166c⟩ := isOf hZ eq157 f154
          obtain ⟨_, _, ⟨T166, L166, k166, n166⟩, -, X166, ⟨Lc166, hQ166, lq166, yq166, zq166⟩, st166⟩ := X157.virtualBack hx (y := (⟨"com/example/thin_feed/thinfeed/store/LongFloorMap", "bytes", "()J"⟩ : MethodName)) (z := (⟨"com/example/thin_feed/thinfeed/store/LongFloorMap", "bytes", "()J"⟩ : MethodName)) hown (mvT hZ (own_w hw 23 rfl)) (mvT hZ (own_w hw 24 rfl)) (notFace_of_selects (args := #[]) (mvT hZ (own_w hw 26 rfl))) (mvT hZ (own_w hw 26 rfl)) (mvT hZ (own_w hw 25 rfl)) (by decide) (backOf (W := 0) (rm4 l Z a0 hw [] b1 f167 sh167 kf167 ksh167 cc167 vf167 vs167 T148.heap n0 Zn148 Ff167 Fs167 Fc167 Vf167 Vs167) hZ (own_w hw 27 rfl) (own_w hw 2 rfl) (by decide) (by decide)) q166a q166c (g := (mkF m 196 #[vJ q0, .second, vJ q1, .second, vJ q2, .second, vI p3, vR b1, vR bb7, vI 1, vI v23, vI v29] [(.ref b1)])) rfl (by rw [hml]; rfl) (Steps.refl _) (argsL := []) (rest := []) (lenOf pd_2 rfl) rfl (by show 2 * 0 + _ ≤ _; exact Nat.le_of_eq rfl) (hb hby at_196) (fun _ _ => ⟨rfl, eq157, (by decide : 7 + 0 ≤ _), (by decide : 522 + 0 ≤ _)⟩)
          dsimp only [Pt.U, Pt.locs, Pt.cells, Pt.slots] at X166 lq166 yq166 zq166 st166 hQ166
          subst lq166 yq166 zq166
          obtain ⟨rfl, Nq166, eq166⟩ := hQ166
          have N166 := Fr.app N157 Nq166
          have ks168 := own_ct ks165 st166
          have ks169 : own_R p e below (A0) (T166.setTop (mkF m 214 #[vJ q0, .second, vJ q1, .second, vJ q2, .second, vI p3, vR b1, vR bb7, vI 1, vI v23, vI v29] [(.int 1), (.long (own_by cc167))])) := fun t k => ks168 t (by
            refine XS.iload X166.here hx rfl (hb hby at_199) rfl ?_
            refine XS.ifNo X166.here hx rfl (hb hby at_201) rfl ((if0 _ _).trans (teq hc35).2) ?_
            refine XS.iload X166.here hx rfl (hb hby at_204) rfl ?_
            show Steps p.tables e below (T166.setTop (mkF m 206 #[vJ q0, .second, vJ q1, .second, vJ q2, .second, vI p3, vR b1, vR bb7, vI 1, vI v23, vI v29] [(.int v29), (.long (own_by cc167))])) _
            refine XS.ifNo X166.here hx rfl (hb hby at_206) rfl ((if0 _ _).trans (feq hc37).1) ?_
            refine XS.iconst X166.here hx rfl (hb hby at_209) ?_
            refine XS.goto X166.here hx rfl (pc0 := 210) (pc' := 214) rfl (hb hby at_210) (by decide) (by decide) ?_
            exact k)
          obtain ⟨_, _, ⟨T170, L170, k170, n170⟩, -, X170, ⟨Lc170, hQ170, lq170, yq170, zq170⟩, st170⟩ := Jvm.LawKit.callS X166 hx (y := (⟨"com/example/thin_feed/thinfeed/store/LongFloorMapBytesPinLaw", "expected", "(Z)J"⟩ : MethodName)) hown (mvT hZ (own_w hw 38 rfl)) (mvT hZ (own_w hw 39 rfl)) (mvT hZ (own_w hw 40 rfl)) (mvT hZ (own_w hw 41 rfl)) (by decide) (backOf (W := 2) (rm6 l Z a0 hw [] (1 : Int32) T148.heap n0 Zn148 ) hZ (own_w hw 41 rfl) (own_w hw 40 rfl) (by decide) (by decide)) (g := (mkF m 214 #[vJ q0, .second, vJ q1, .second, vJ q2, .second, vI p3, vR b1, vR bb7, vI 1, vI v23, vI v29] [(.int 1), (.long (own_by cc167))])) rfl (by rw [hml]; rfl) (argsL := [(.int 1)]) (rest := [(.long (own_by cc167))]) (lenOf pd_4 rfl) rfl (by show 2 * 0 + _ ≤ _; exact Nat.le_of_eq rfl) (hb hby at_214) (fun _ _ => ⟨rfl, eq166, (by decide : 7 + 0 ≤ _), (by decide : 522 + 0 ≤ _)⟩)
          dsimp only [Pt.U, Pt.locs, Pt.cells, Pt.slots] at X170 lq170 yq170 zq170 st170 hQ170
          subst lq170 yq170 zq170
          obtain ⟨rfl, Nq170, eq170⟩ := hQ170
          have N170 := Fr.app N166 Nq170
          have ks171 := own_c ks169 st170
          have ks172 : own_R p e below (A0) (T170.setTop (mkF m 218 #[vJ q0, .second, vJ q1, .second, vJ q2, .second, vI p3, vR b1, vR bb7, vI 1, vI v23, vI v29] [(.int (lcmpW (own_by cc167) (own_exp (1 : Int32))))])) := fun t k => ks171 t (by
            refine XS.lcmp X170.here hx rfl (hb hby at_217) rfl ?_
            exact k)
          have hB173 : own_by cc167 = (own_exp (1 : Int32)) := own_fin hc167 (own_leaf_7 q0 q1 q2 p3 v23 v29 hv23 hv29 hc35 hc37 hc162 hc164).1 (own_leaf_7 q0 q1 q2 p3 v23 v29 hv23 hv29 hc35 hc37 hc162 hc164).2
          have ks174 : own_R p e below (A0) (T170.setTop (mkF m 230 #[vJ q0, .second, vJ q1, .second, vJ q2, .second, vI p3, vR b1, vR bb7, vI 1, vI v23, vI v29] [(.int 1)])) := fun t k => ks172 t (by
            refine XS.ifNo X170.here hx rfl (hb hby at_218) rfl ((if0 _ _).trans (teq ((lw_eq _ _).mpr hB173)).2) ?_
            refine XS.iconst X170.here hx rfl (hb hby at_221) ?_
            refine XS.goto X170.here hx rfl (pc0 := 222) (pc' := 226) rfl (hb hby at_222) (by decide) (by decide) ?_
            show Steps p.tables e below (T170.setTop (mkF m 226 #[vJ q0, .second, vJ q1, .second, vJ q2, .second, vI p3, vR b1, vR bb7, vI 1, vI v23, vI v29] [(.int 1)])) _
            refine XS.istore X170.here hx rfl (hb hby at_226) rfl (l' := #[vJ q0, .second, vJ q1, .second, vJ q2, .second, vI p3, vR b1, vR bb7, vI 1, vI v23, vI v29]) rfl ?_
            refine XS.iload X170.here hx rfl (hb hby at_228) rfl ?_
            exact k)
          obtain ⟨fs, hr, hrun, hended, hW, hsame⟩ := X170.leave (v := some (.int 1)) (fun h => by rw [Bd.returns] at h; cases h) hlk
          refine ⟨_, _, kz _ (ks174 _ ?_), hrun, hended, _, _, rfl, ?_, ⟨_, rfl⟩, hW, hsame.mono (by decide) (by decide)⟩
          · exact retN X170 hx (t := .boolean) Bd.returns (by simp) (hb hby at_230) hr
          · show Q0 Z q0 q1 q2 p3 u1 cl1 h0 n0 _ T170.heap _
            rw [eq170]
            exact ⟨rfl, N170⟩
        · skip
          have ks175 : own_R p e below (A0) (T157.setTop (mkF m 174 #[vJ q0, .second, vJ q1, .second, vJ q2, .second, vI p3, vR b1, vR bb7, vI 1, vI v23, vI v29] [(.long q0), (.ref b1)])) := fun t k => ks163 t (by
            refine XS.ifNo X157.here hx rfl (hb hby at_168) rfl ((if0 _ _).trans (feq hc164).1) ?_
            refine XS.aload X157.here hx rfl (hb hby at_171) rfl rfl ?_
            refine XS.lloadN X157.here hx rfl (hb hby at_173) rfl ?_
            exact k)
          obtain ⟨cq176, kq176, q176a, q176b, q176c⟩ := isOf hZ eq157 f154
          obtain ⟨_, _, ⟨T176, L176, k176, n176⟩, -, X176, ⟨Lc176, hQ176, lq176, yq176, zq176⟩, st176⟩ := X157.virtualBack hx (y := (⟨"com/example/thin_feed/thinfeed/store/LongFloorMap", "remove", "(J)V"⟩ : MethodName)) (z := (⟨"com/example/thin_feed/thinfeed/store/LongFloorMap", "remove", "(J)V"⟩ : MethodName)) hown (mvT hZ (own_w hw 84 rfl)) (mvT hZ (own_w hw 85 rfl)) (notFace_of_selects (args := #[]) (mvT hZ (own_w hw 87 rfl))) (mvT hZ (own_w hw 87 rfl)) (mvT hZ (own_w hw 86 rfl)) (by decide) (backOf (W := 0) (rm12M l Z a0 hw [] b1 q0 bb7 _ T148.heap n0 Zn148 MM148) hZ (own_w hw 88 rfl) (own_w hw 2 rfl) (by decide) (by decide)) q176a q176c (g := (mkF m 174 #[vJ q0, .second, vJ q1, .second, vJ q2, .second, vI p3, vR b1, vR bb7, vI 1, vI v23, vI v29] [(.long q0), (.ref b1)])) rfl (by rw [hml]; rfl) (Steps.refl _) (argsL := [(.long q0)]) (rest := []) (lenOf pd_10 rfl) rfl (by show 2 * 0 + _ ≤ _; exact Nat.le_of_eq rfl) (hb hby at_174) (fun _ _ => ⟨rfl, eq157, (by decide : 7 + 0 ≤ _), (by decide : 522 + 0 ≤ _)⟩)
          dsimp only [Pt.U, Pt.locs, Pt.cells, Pt.slots] at X176 lq176 yq176 zq176 st176 hQ176
          subst lq176 yq176 zq176
          obtain ⟨rfl, Nq176, Zn176, Xq176, MM176⟩ := hQ176
          have N176 := Fr.app N157 Nq176
          have ks177 := own_ct ks175 st176
          have ks180 : own_R p e below (A0) (T176.setTop (mkF m 183 #[vJ q0, .second, vJ q1, .second, vJ q2, .second, vI p3, vR b1, vR bb7, vI 1, vI 0, vI v29] [(.int (lcmpW q1 q0))])) := fun t k => ks177 t (by
            refine XS.iconst X176.here hx rfl (hb hby at_177) ?_
            refine XS.istore X176.here hx rfl (hb hby at_178) rfl (l' := #[vJ q0, .second, vJ q1, .second, vJ q2, .second, vI p3, vR b1, vR bb7, vI 1, vI 0, vI v29]) rfl ?_
            refine XS.lloadN X176.here hx rfl (hb hby at_180) rfl ?_
            show Steps p.tables e below (T176.setTop (mkF m 181 #[vJ q0, .second, vJ q1, .second, vJ q2, .second, vI p3, vR b1, vR bb7, vI 1, vI 0, vI v29] [(.long q1)])) _
            refine XS.lloadN X176.here hx rfl (hb hby at_181) rfl ?_
            refine XS.lcmp X176.here hx rfl (hb hby at_182) rfl ?_
            exact k)
          obtain ⟨v179, hv179⟩ : ∃ z : Int32, z = (if q1 = q0 then (0 : Int32) else v29) := ⟨_, rfl⟩
          have ks181 : own_R p e below (A0) (T176.setTop (mkF m 189 #[vJ q0, .second, vJ q1, .second, vJ q2, .second, vI p3, vR b1, vR bb7, vI 1, vI 0, vI v179] [])) := fun t k => ks180 t (by
            by_cases hc178 : q1 = q0
            · skip
              have qq182 : v179 = (0 : Int32) := by rw [hv179, if_pos hc178]
              rw [qq182] at k
              refine XS.ifNo X176.here hx rfl (hb hby at_183) rfl ((if0 _ _).trans (teq ((lw_eq _ _).mpr hc178)).2) ?_
              refine XS.iconst X176.here hx rfl (hb hby at_186) ?_
              refine XS.istore X176.here hx rfl (hb hby at_187) rfl (l' := #[vJ q0, .second, vJ q1, .second, vJ q2, .second, vI p3, vR b1, vR bb7, vI 1, vI 0, vI 0]) rfl ?_
              exact k
            · skip
              have qq183 : v179 = v29 := by rw [hv179, if_neg hc178]
              rw [qq183] at k
              refine XS.ifYes X176.here hx rfl (pc0 := 183) (pc' := 189) rfl (hb hby at_183) rfl ((if0 _ _).trans (feq (fun q => hc178 ((lw_eq _ _).mp q))).2) (by decide) (by decide) ?_
              exact k)
          have ks184 : own_R p e below (A0) (T176.setTop (mkF m 196 #[vJ q0, .second, vJ q1, .second, vJ q2, .second, vI p3, vR b1, vR bb7, vI 1, vI 0, vI v179] [(.ref b1)])) := fun t k => ks181 t (by
            refine XS.iload X176.here hx rfl (hb hby at_189) rfl ?_
            refine XS.ifNo X176.here hx rfl (hb hby at_191) rfl ((if0 _ _).trans (feq (by decide)).1) ?_
            refine XS.aload X176.here hx rfl (hb hby at_194) rfl rfl ?_
            exact k)
          obtain ⟨f186, sh186, kf186, ksh186, cc186, vf186, vs186, Ff186, Fs186, Fc186, Vf186, Vs186, hc186⟩ := own_view MM176
          have f187 := (Xq176 _ _ f154)
          obtain ⟨cq185, kq185, q185a, q185b, q185c⟩ := isOf hZ rfl f187
          obtain ⟨_, _, ⟨T185, L185, k185, n185⟩, -, X185, ⟨Lc185, hQ185, lq185, yq185, zq185⟩, st185⟩ := X176.virtualBack hx (y := (⟨"com/example/thin_feed/thinfeed/store/LongFloorMap", "bytes", "()J"⟩ : MethodName)) (z := (⟨"com/example/thin_feed/thinfeed/store/LongFloorMap", "bytes", "()J"⟩ : MethodName)) hown (mvT hZ (own_w hw 23 rfl)) (mvT hZ (own_w hw 24 rfl)) (notFace_of_selects (args := #[]) (mvT hZ (own_w hw 26 rfl))) (mvT hZ (own_w hw 26 rfl)) (mvT hZ (own_w hw 25 rfl)) (by decide) (backOf (W := 0) (rm4 l Z a0 hw [] b1 f186 sh186 kf186 ksh186 cc186 vf186 vs186 T176.heap n0 Zn176 Ff186 Fs186 Fc186 Vf186 Vs186) hZ (own_w hw 27 rfl) (own_w hw 2 rfl) (by decide) (by decide)) q185a q185c (g := (mkF m 196 #[vJ q0, .second, vJ q1, .second, vJ q2, .second, vI p3, vR b1, vR bb7, vI 1, vI 0, vI v179] [(.ref b1)])) rfl (by rw [hml]; rfl) (Steps.refl _) (argsL := []) (rest := []) (lenOf pd_2 rfl) rfl (by show 2 * 0 + _ ≤ _; exact Nat.le_of_eq rfl) (hb hby at_196) (fun _ _ => ⟨rfl, rfl, (by decide : 7 + 0 ≤ _), (by decide : 522 + 0 ≤ _)⟩)
          dsimp only [Pt.U, Pt.locs, Pt.cells, Pt.slots] at X185 lq185 yq185 zq185 st185 hQ185
          subst lq185 yq185 zq185
          obtain ⟨rfl, Nq185, eq185⟩ := hQ185
          have N185 := Fr.app N176 Nq185
          have ks188 := own_ct ks184 st185
          have ks191 : own_R p e below (A0) (T185.setTop (mkF m 206 #[vJ q0, .second, vJ q1, .second, vJ q2, .second, vI p3, vR b1, vR bb7, vI 1, vI 0, vI v179] [(.int v179), (.long (own_by cc186))])) := fun t k => ks188 t (by
            refine XS.iload X185.here hx rfl (hb hby at_199) rfl ?_
            refine XS.ifNo X185.here hx rfl (hb hby at_201) rfl ((if0 _ _).trans (teq (by decide)).2) ?_
            refine XS.iload X185.here hx rfl (hb hby at_204) rfl ?_
            exact k)
          obtain ⟨v190, hv190⟩ : ∃ z : Int32, z = (if v179 = (0 : Int32) then (0 : Int32) else (1 : Int32)) := ⟨_, rfl⟩
          have ks192 : own_R p e below (A0) (T185.setTop (mkF m 214 #[vJ q0, .second, vJ q1, .second, vJ q2, .second, vI p3, vR b1, vR bb7, vI 1, vI 0, vI v179] [(.int v190), (.long (own_by cc186))])) := fun t k => ks191 t (by
            by_cases hc189 : v179 = (0 : Int32)
            · skip
              have qq193 : v190 = (0 : Int32) := by rw [hv190, if_pos hc189]
              rw [qq193] at k
              refine XS.ifYes X185.here hx rfl (pc0 := 206) (pc' := 213) rfl (hb hby at_206) rfl ((if0 _ _).trans (teq hc189).1) (by decide) (by decide) ?_
              refine XS.iconst X185.here hx rfl (hb hby at_213) ?_
              exact k
            · skip
              have qq194 : v190 = (1 : Int32) := by rw [hv190, if_neg hc189]
              rw [qq194] at k
              refine XS.ifNo X185.here hx rfl (hb hby at_206) rfl ((if0 _ _).trans (feq hc189).1) ?_
              refine XS.iconst X185.here hx rfl (hb hby at_209) ?_
              refine XS.goto X185.here hx rfl (pc0 := 210) (pc' := 214) rfl (hb hby at_210) (by decide) (by decide) ?_
              exact k)
          obtain ⟨_, _, ⟨T195, L195, k195, n195⟩, -, X195, ⟨Lc195, hQ195, lq195, yq195, zq195⟩, st195⟩ := Jvm.LawKit.callS X185 hx (y := (⟨"com/example/thin_feed/thinfeed/store/LongFloorMapBytesPinLaw", "expected", "(Z)J"⟩ : MethodName)) hown (mvT hZ (own_w hw 38 rfl)) (mvT hZ (own_w hw 39 rfl)) (mvT hZ (own_w hw 40 rfl)) (mvT hZ (own_w hw 41 rfl)) (by decide) (backOf (W := 2) (rm6 l Z a0 hw [] v190 T176.heap n0 Zn176 ) hZ (own_w hw 41 rfl) (own_w hw 40 rfl) (by decide) (by decide)) (g := (mkF m 214 #[vJ q0, .second, vJ q1, .second, vJ q2, .second, vI p3, vR b1, vR bb7, vI 1, vI 0, vI v179] [(.int v190), (.long (own_by cc186))])) rfl (by rw [hml]; rfl) (argsL := [(.int v190)]) (rest := [(.long (own_by cc186))]) (lenOf pd_4 rfl) rfl (by show 2 * 0 + _ ≤ _; exact Nat.le_of_eq rfl) (hb hby at_214) (fun _ _ => ⟨rfl, eq185, (by decide : 7 + 0 ≤ _), (by decide : 522 + 0 ≤ _)⟩)
          dsimp only [Pt.U, Pt.locs, Pt.cells, Pt.slots] at X195 lq195 yq195 zq195 st195 hQ195
          subst lq195 yq195 zq195
          obtain ⟨rfl, Nq195, eq195⟩ := hQ195
          have N195 := Fr.app N185 Nq195
          have ks196 := own_c ks192 st195
          have ks197 : own_R p e below (A0) (T195.setTop (mkF m 218 #[vJ q0, .second, vJ q1, .second, vJ q2, .second, vI p3, vR b1, vR bb7, vI 1, vI 0, vI v179] [(.int (lcmpW (own_by cc186) (own_exp v190)))])) := fun t k => ks196 t (by
            refine XS.lcmp X195.here hx rfl (hb hby at_217) rfl ?_
            exact k)
          have hB198 : own_by cc186 = (own_exp v190) := own_fin hc186 (own_leaf_8 q0 q1 q2 p3 v23 v29 v179 v190 hv23 hv29 hv179 hv190 hc35 hc37 hc162 hc164).1 (own_leaf_8 q0 q1 q2 p3 v23 v29 v179 v190 hv23 hv29 hv179 hv190 hc35 hc37 hc162 hc164).2
          have ks199 : own_R p e below (A0) (T195.setTop (mkF m 230 #[vJ q0, .second, vJ q1, .second, vJ q2, .second, vI p3, vR b1, vR bb7, vI 1, vI 0, vI v179] [(.int 1)])) := fun t k => ks197 t (by
            refine XS.ifNo X195.here hx rfl (hb hby at_218) rfl ((if0 _ _).trans (teq ((lw_eq _ _).mpr hB198)).2) ?_
            refine XS.iconst X195.here hx rfl (hb hby at_221) ?_
            refine XS.goto X195.here hx rfl (pc0 := 222) (pc' := 226) rfl (hb hby at_222) (by decide) (by decide) ?_
            show Steps p.tables e below (T195.setTop (mkF m 226 #[vJ q0, .second, vJ q1, .second, vJ q2, .second, vI p3, vR b1, vR bb7, vI 1, vI 0, vI v179] [(.int 1)])) _
            refine XS.istore X195.here hx rfl (hb hby at_226) rfl (l' := #[vJ q0, .second, vJ q1, .second, vJ q2, .second, vI p3, vR b1, vR bb7, vI 1, vI 0, vI v179]) rfl ?_
            refine XS.iload X195.here hx rfl (hb hby at_228) rfl ?_
            exact k)
          obtain ⟨fs, hr, hrun, hended, hW, hsame⟩ := X195.leave (v := some (.int 1)) (fun h => by rw [Bd.returns] at h; cases h) hlk
          refine ⟨_, _, kz _ (ks199 _ ?_), hrun, hended, _, _, rfl, ?_, ⟨_, rfl⟩, hW, hsame.mono (by decide) (by decide)⟩
          · exact retN X195 hx (t := .boolean) Bd.returns (by simp) (hb hby at_230) hr
          · show Q0 Z q0 q1 q2 p3 u1 cl1 h0 n0 _ T195.heap _
            rw [eq195]
            exact ⟨rfl, N195⟩
      · skip
        have ks200 : own_R p e below (A0) (T157.setTop (mkF m 140 #[vJ q0, .second, vJ q1, .second, vJ q2, .second, vI p3, vR b1, vR bb7, vI 1, vI v23, vI v29] [(.long q2), (.ref b1)])) := fun t k => ks161 t (by
          refine XS.ifNo X157.here hx rfl (hb hby at_133) rfl ((if0 _ _).trans (feq hc162).1) ?_
          refine XS.aload X157.here hx rfl (hb hby at_136) rfl rfl ?_
          refine XS.lload X157.here hx rfl (hb hby at_138) rfl ?_
          exact k)
        obtain ⟨cq201, kq201, q201a, q201b, q201c⟩ := isOf hZ eq157 f154
        obtain ⟨_, _, ⟨T201, L201, k201, n201⟩, -, X201, ⟨Lc201, hQ201, lq201, yq201, zq201⟩, st201⟩ := X157.virtualBack hx (y := (⟨"com/example/thin_feed/thinfeed/store/LongFloorMap", "remove", "(J)V"⟩ : MethodName)) (z := (⟨"com/example/thin_feed/thinfeed/store/LongFloorMap", "remove", "(J)V"⟩ : MethodName)) hown (mvT hZ (own_w hw 84 rfl)) (mvT hZ (own_w hw 85 rfl)) (notFace_of_selects (args := #[]) (mvT hZ (own_w hw 87 rfl))) (mvT hZ (own_w hw 87 rfl)) (mvT hZ (own_w hw 86 rfl)) (by decide) (backOf (W := 0) (rm12M l Z a0 hw [] b1 q2 bb7 _ T148.heap n0 Zn148 MM148) hZ (own_w hw 88 rfl) (own_w hw 2 rfl) (by decide) (by decide)) q201a q201c (g := (mkF m 140 #[vJ q0, .second, vJ q1, .second, vJ q2, .second, vI p3, vR b1, vR bb7, vI 1, vI v23, vI v29] [(.long q2), (.ref b1)])) rfl (by rw [hml]; rfl) (Steps.refl _) (argsL := [(.long q2)]) (rest := []) (lenOf pd_10 rfl) rfl (by show 2 * 0 + _ ≤ _; exact Nat.le_of_eq rfl) (hb hby at_140) (fun _ _ => ⟨rfl, eq157, (by decide : 7 + 0 ≤ _), (by decide : 522 + 0 ≤ _)⟩)
        dsimp only [Pt.U, Pt.locs, Pt.cells, Pt.slots] at X201 lq201 yq201 zq201 st201 hQ201
        subst lq201 yq201 zq201
        obtain ⟨rfl, Nq201, Zn201, Xq201, MM201⟩ := hQ201
        have N201 := Fr.app N157 Nq201
        have ks202 := own_ct ks200 st201
        have ks205 : own_R p e below (A0) (T201.setTop (mkF m 147 #[vJ q0, .second, vJ q1, .second, vJ q2, .second, vI p3, vR b1, vR bb7, vI 1, vI v23, vI v29] [(.int (lcmpW q2 q0))])) := fun t k => ks202 t (by
          refine XS.lload X201.here hx rfl (hb hby at_143) rfl ?_
          refine XS.lloadN X201.here hx rfl (hb hby at_145) rfl ?_
          refine XS.lcmp X201.here hx rfl (hb hby at_146) rfl ?_
          exact k)
        obtain ⟨v204, hv204⟩ : ∃ z : Int32, z = (if q2 = q0 then (0 : Int32) else v23) := ⟨_, rfl⟩
        have ks206 : own_R p e below (A0) (T201.setTop (mkF m 153 #[vJ q0, .second, vJ q1, .second, vJ q2, .second, vI p3, vR b1, vR bb7, vI 1, vI v204, vI v29] [])) := fun t k => ks205 t (by
          by_cases hc203 : q2 = q0
          · skip
            have qq207 : v204 = (0 : Int32) := by rw [hv204, if_pos hc203]
            rw [qq207] at k
            refine XS.ifNo X201.here hx rfl (hb hby at_147) rfl ((if0 _ _).trans (teq ((lw_eq _ _).mpr hc203)).2) ?_
            refine XS.iconst X201.here hx rfl (hb hby at_150) ?_
            refine XS.istore X201.here hx rfl (hb hby at_151) rfl (l' := #[vJ q0, .second, vJ q1, .second, vJ q2, .second, vI p3, vR b1, vR bb7, vI 1, vI 0, vI v29]) rfl ?_
            exact k
          · skip
            have qq208 : v204 = v23 := by rw [hv204, if_neg hc203]
            rw [qq208] at k
            refine XS.ifYes X201.here hx rfl (pc0 := 147) (pc' := 153) rfl (hb hby at_147) rfl ((if0 _ _).trans (feq (fun q => hc203 ((lw_eq _ _).mp q))).2) (by decide) (by decide) ?_
            exact k)
        have ks211 : own_R p e below (A0) (T201.setTop (mkF m 157 #[vJ q0, .second, vJ q1, .second, vJ q2, .second, vI p3, vR b1, vR bb7, vI 1, vI v204, vI v29] [(.int (lcmpW q2 q1))])) := fun t k => ks206 t (by
          refine XS.lload X201.here hx rfl (hb hby at_153) rfl ?_
          refine XS.lloadN X201.here hx rfl (hb hby at_155) rfl ?_
          refine XS.lcmp X201.here hx rfl (hb hby at_156) rfl ?_
          exact k)
        obtain ⟨v210, hv210⟩ : ∃ z : Int32, z = (if q2 = q1 then (0 : Int32) else v29) := ⟨_, rfl⟩
        have ks212 : own_R p e below (A0) (T201.setTop (mkF m 163 #[vJ q0, .second, vJ q1, .second, vJ q2, .second, vI p3, vR b1, vR bb7, vI 1, vI v204, vI v210] [])) := fun t k => ks211 t (by
          by_cases hc209 : q2 = q1
          · skip
            have qq213 : v210 = (0 : Int32) := by rw [hv210, if_pos hc209]
            rw [qq213] at k
            refine XS.ifNo X201.here hx rfl (hb hby at_157) rfl ((if0 _ _).trans (teq ((lw_eq _ _).mpr hc209)).2) ?_
            refine XS.iconst X201.here hx rfl (hb hby at_160) ?_
            refine XS.istore X201.here hx rfl (hb hby at_161) rfl (l' := #[vJ q0, .second, vJ q1, .second, vJ q2, .second, vI p3, vR b1, vR bb7, vI 1, vI v204, vI 0]) rfl ?_
            exact k
          · skip
            have qq214 : v210 = v29 := by rw [hv210, if_neg hc209]
            rw [qq214] at k
            refine XS.ifYes X201.here hx rfl (pc0 := 157) (pc' := 163) rfl (hb hby at_157) rfl ((if0 _ _).trans (feq (fun q => hc209 ((lw_eq _ _).mp q))).2) (by decide) (by decide) ?_
            exact k)
        have ks215 : own_R p e below (A0) (T201.setTop (mkF m 168 #[vJ q0, .second, vJ q1, .second, vJ q2, .second, vI p3, vR b1, vR bb7, vI 1, vI v204, vI v210] [(.int (p3 &&& (8 : Int32)))])) := fun t k => ks212 t (by
          refine XS.iload X201.here hx rfl (hb hby at_163) rfl ?_
          refine XS.bipush X201.here hx rfl (hb hby at_165) ?_
          refine XS.iand X201.here hx rfl (hb hby at_167) rfl ?_
          exact k)
        by_cases hc216 : (p3 &&& (8 : Int32)) = (0 : Int32)
        · skip
          have ks217 : own_R p e below (A0) (T201.setTop (mkF m 196 #[vJ q0, .second, vJ q1, .second, vJ q2, .second, vI p3, vR b1, vR bb7, vI 1, vI v204, vI v210] [(.ref b1)])) := fun t k => ks215 t (by
            refine XS.ifYes X201.here hx rfl (pc0 := 168) (pc' := 189) rfl (hb hby at_168) rfl ((if0 _ _).trans (teq hc216).1) (by decide) (by decide) ?_
            refine XS.iload X201.here hx rfl (hb hby at_189) rfl ?_
            refine XS.ifNo X201.here hx rfl (hb hby at_191) rfl ((if0 _ _).trans (feq (by decide)).1) ?_
            show Steps p.tables e below (T201.setTop (mkF m 194 #[vJ q0, .second, vJ q1, .second, vJ q2, .second, vI p3, vR b1, vR bb7, vI 1, vI v204, vI v210] [])) _
            refine XS.aload X201.here hx rfl (hb hby at_194) rfl rfl ?_
            exact k)
          obtain ⟨f219, sh219, kf219, ksh219, cc219, vf219, vs219, Ff219, Fs219, Fc219, Vf219, Vs219, hc219⟩ := own_view MM201
          have f220 := (Xq201 _ _ f154)
          obtain ⟨cq218, kq218, q218a, q218b, q218c⟩ := isOf hZ rfl f220
          obtain ⟨_, _, ⟨T218, L218, k218, n218⟩, -, X218, ⟨Lc218, hQ218, lq218, yq218, zq218⟩, st218⟩ := X201.virtualBack hx (y := (⟨"com/example/thin_feed/thinfeed/store/LongFloorMap", "bytes", "()J"⟩ : MethodName)) (z := (⟨"com/example/thin_feed/thinfeed/store/LongFloorMap", "bytes", "()J"⟩ : MethodName)) hown (mvT hZ (own_w hw 23 rfl)) (mvT hZ (own_w hw 24 rfl)) (notFace_of_selects (args := #[]) (mvT hZ (own_w hw 26 rfl))) (mvT hZ (own_w hw 26 rfl)) (mvT hZ (own_w hw 25 rfl)) (by decide) (backOf (W := 0) (rm4 l Z a0 hw [] b1 f219 sh219 kf219 ksh219 cc219 vf219 vs219 T201.heap n0 Zn201 Ff219 Fs219 Fc219 Vf219 Vs219) hZ (own_w hw 27 rfl) (own_w hw 2 rfl) (by decide) (by decide)) q218a q218c (g := (mkF m 196 #[vJ q0, .second, vJ q1, .second, vJ q2, .second, vI p3, vR b1, vR bb7, vI 1, vI v204, vI v210] [(.ref b1)])) rfl (by rw [hml]; rfl) (Steps.refl _) (argsL := []) (rest := []) (lenOf pd_2 rfl) rfl (by show 2 * 0 + _ ≤ _; exact Nat.le_of_eq rfl) (hb hby at_196) (fun _ _ => ⟨rfl, rfl, (by decide : 7 + 0 ≤ _), (by decide : 522 + 0 ≤ _)⟩)
          dsimp only [Pt.U, Pt.locs, Pt.cells, Pt.slots] at X218 lq218 yq218 zq218 st218 hQ218
          subst lq218 yq218 zq218
          obtain ⟨rfl, Nq218, eq218⟩ := hQ218
          have N218 := Fr.app N201 Nq218
          have ks221 := own_ct ks217 st218
          have ks225 : own_R p e below (A0) (T218.setTop (mkF m 201 #[vJ q0, .second, vJ q1, .second, vJ q2, .second, vI p3, vR b1, vR bb7, vI 1, vI v204, vI v210] [(.int v204), (.long (own_by cc219))])) := fun t k => ks221 t (by
            refine XS.iload X218.here hx rfl (hb hby at_199) rfl ?_
            exact k)
          obtain ⟨v224, hv224⟩ : ∃ z : Int32, z = (if v204 = (0 : Int32) then (if v210 = (0 : Int32) then (0 : Int32) else (1 : Int32)) else (1 : Int32)) := ⟨_, rfl⟩
          have ks226 : own_R p e below (A0) (T218.setTop (mkF m 214 #[vJ q0, .second, vJ q1, .second, vJ q2, .second, vI p3, vR b1, vR bb7, vI 1, vI v204, vI v210] [(.int v224), (.long (own_by cc219))])) := fun t k => ks225 t (by
            by_cases hc222 : v204 = (0 : Int32)
            · skip
              refine XS.ifNo X218.here hx rfl (hb hby at_201) rfl ((if0 _ _).trans (teq hc222).2) ?_
              refine XS.iload X218.here hx rfl (hb hby at_204) rfl ?_
              by_cases hc223 : v210 = (0 : Int32)
              · skip
                have qq227 : v224 = (0 : Int32) := by rw [hv224, if_pos hc222, if_pos hc223]
                rw [qq227] at k
                refine XS.ifYes X218.here hx rfl (pc0 := 206) (pc' := 213) rfl (hb hby at_206) rfl ((if0 _ _).trans (teq hc223).1) (by decide) (by decide) ?_
                show Steps p.tables e below (T218.setTop (mkF m 213 #[vJ q0, .second, vJ q1, .second, vJ q2, .second, vI p3, vR b1, vR bb7, vI 1, vI v204, vI v210] [(.long (own_by cc219))])) _
                refine XS.iconst X218.here hx rfl (hb hby at_213) ?_
                exact k
              · skip
                have qq228 : v224 = (1 : Int32) := by rw [hv224, if_pos hc222, if_neg hc223]
                rw [qq228] at k
                refine XS.ifNo X218.here hx rfl (hb hby at_206) rfl ((if0 _ _).trans (feq hc223).1) ?_
                show Steps p.tables e below (T218.setTop (mkF m 209 #[vJ q0, .second, vJ q1, .second, vJ q2, .second, vI p3, vR b1, vR bb7, vI 1, vI v204, vI v210] [(.long (own_by cc219))])) _
                refine XS.iconst X218.here hx rfl (hb hby at_209) ?_
                refine XS.goto X218.here hx rfl (pc0 := 210) (pc' := 214) rfl (hb hby at_210) (by decide) (by decide) ?_
                exact k
            · skip
              have qq229 : v224 = (1 : Int32) := by rw [hv224, if_neg hc222]
              rw [qq229] at k
              refine XS.ifYes X218.here hx rfl (pc0 := 201) (pc' := 209) rfl (hb hby at_201) rfl ((if0 _ _).trans (feq hc222).2) (by decide) (by decide) ?_
              refine XS.iconst X218.here hx rfl (hb hby at_209) ?_
              refine XS.goto X218.here hx rfl (pc0 := 210) (pc' := 214) rfl (hb hby at_210) (by decide) (by decide) ?_
              exact k)
          obtain ⟨_, _, ⟨T230, L230, k230, n230⟩, -, X230, ⟨Lc230, hQ230, lq230, yq230, zq230⟩, st230⟩ := Jvm.LawKit.callS X218 hx (y := (⟨"com/example/thin_feed/thinfeed/store/LongFloorMapBytesPinLaw", "expected", "(Z)J"⟩ : MethodName)) hown (mvT hZ (own_w hw 38 rfl)) (mvT hZ (own_w hw 39 rfl)) (mvT hZ (own_w hw 40 rfl)) (mvT hZ (own_w hw 41 rfl)) (by decide) (backOf (W := 2) (rm6 l Z a0 hw [] v224 T201.heap n0 Zn201 ) hZ (own_w hw 41 rfl) (own_w hw 40 rfl) (by decide) (by decide)) (g := (mkF m 214 #[vJ q0, .second, vJ q1, .second, vJ q2, .second, vI p3, vR b1, vR bb7, vI 1, vI v204, vI v210] [(.int v224), (.long (own_by cc219))])) rfl (by rw [hml]; rfl) (argsL := [(.int v224)]) (rest := [(.long (own_by cc219))]) (lenOf pd_4 rfl) rfl (by show 2 * 0 + _ ≤ _; exact Nat.le_of_eq rfl) (hb hby at_214) (fun _ _ => ⟨rfl, eq218, (by decide : 7 + 0 ≤ _), (by decide : 522 + 0 ≤ _)⟩)
          dsimp only [Pt.U, Pt.locs, Pt.cells, Pt.slots] at X230 lq230 yq230 zq230 st230 hQ230
          subst lq230 yq230 zq230
          obtain ⟨rfl, Nq230, eq230⟩ := hQ230
          have N230 := Fr.app N218 Nq230
          have ks231 := own_c ks226 st230
          have ks232 : own_R p e below (A0) (T230.setTop (mkF m 218 #[vJ q0, .second, vJ q1, .second, vJ q2, .second, vI p3, vR b1, vR bb7, vI 1, vI v204, vI v210] [(.int (lcmpW (own_by cc219) (own_exp v224)))])) := fun t k => ks231 t (by
            refine XS.lcmp X230.here hx rfl (hb hby at_217) rfl ?_
            exact k)
          have hB233 : own_by cc219 = (own_exp v224) := own_fin hc219 (own_leaf_9 q0 q1 q2 p3 v23 v29 v204 v210 v224 hv23 hv29 hv204 hv210 hv224 hc35 hc37 hc162 hc216).1 (own_leaf_9 q0 q1 q2 p3 v23 v29 v204 v210 v224 hv23 hv29 hv204 hv210 hv224 hc35 hc37 hc162 hc216).2
          have ks234 : own_R p e below (A0) (T230.setTop (mkF m 230 #[vJ q0, .second, vJ q1, .second, vJ q2, .second, vI p3, vR b1, vR bb7, vI 1, vI v204, vI v210] [(.int 1)])) := fun t k => ks232 t (by
            refine XS.ifNo X230.here hx rfl (hb hby at_218) rfl ((if0 _ _).trans (teq ((lw_eq _ _).mpr hB233)).2) ?_
            refine XS.iconst X230.here hx rfl (hb hby at_221) ?_
            refine XS.goto X230.here hx rfl (pc0 := 222) (pc' := 226) rfl (hb hby at_222) (by decide) (by decide) ?_
            show Steps p.tables e below (T230.setTop (mkF m 226 #[vJ q0, .second, vJ q1, .second, vJ q2, .second, vI p3, vR b1, vR bb7, vI 1, vI v204, vI v210] [(.int 1)])) _
            refine XS.istore X230.here hx rfl (hb hby at_226) rfl (l' := #[vJ q0, .second, vJ q1, .second, vJ q2, .second, vI p3, vR b1, vR bb7, vI 1, vI v204, vI v210]) rfl ?_
            refine XS.iload X230.here hx rfl (hb hby at_228) rfl ?_
            exact k)
          obtain ⟨fs, hr, hrun, hended, hW, hsame⟩ := X230.leave (v := some (.int 1)) (fun h => by rw [Bd.returns] at h; cases h) hlk
          refine ⟨_, _, kz _ (ks234 _ ?_), hrun, hended, _, _, rfl, ?_, ⟨_, rfl⟩, hW, hsame.mono (by decide) (by decide)⟩
          · exact retN X230 hx (t := .boolean) Bd.returns (by simp) (hb hby at_230) hr
          · show Q0 Z q0 q1 q2 p3 u1 cl1 h0 n0 _ T230.heap _
            rw [eq230]
            exact ⟨rfl, N230⟩
        · skip
          have ks235 : own_R p e below (A0) (T201.setTop (mkF m 174 #[vJ q0, .second, vJ q1, .second, vJ q2, .second, vI p3, vR b1, vR bb7, vI 1, vI v204, vI v210] [(.long q0), (.ref b1)])) := fun t k => ks215 t (by
            refine XS.ifNo X201.here hx rfl (hb hby at_168) rfl ((if0 _ _).trans (feq hc216).1) ?_
            refine XS.aload X201.here hx rfl (hb hby at_171) rfl rfl ?_
            refine XS.lloadN X201.here hx rfl (hb hby at_173) rfl ?_
            exact k)
          have f237 := (Xq201 _ _ f154)
          obtain ⟨cq236, kq236, q236a, q236b, q236c⟩ := isOf hZ rfl f237
          obtain ⟨_, _, ⟨T236, L236, k236, n236⟩, -, X236, ⟨Lc236, hQ236, lq236, yq236, zq236⟩, st236⟩ := X201.virtualBack hx (y := (⟨"com/example/thin_feed/thinfeed/store/LongFloorMap", "remove", "(J)V"⟩ : MethodName)) (z := (⟨"com/example/thin_feed/thinfeed/store/LongFloorMap", "remove", "(J)V"⟩ : MethodName)) hown (mvT hZ (own_w hw 84 rfl)) (mvT hZ (own_w hw 85 rfl)) (notFace_of_selects (args := #[]) (mvT hZ (own_w hw 87 rfl))) (mvT hZ (own_w hw 87 rfl)) (mvT hZ (own_w hw 86 rfl)) (by decide) (backOf (W := 0) (rm12M l Z a0 hw [] b1 q0 bb7 _ T201.heap n0 Zn201 MM201) hZ (own_w hw 88 rfl) (own_w hw 2 rfl) (by decide) (by decide)) q236a q236c (g := (mkF m 174 #[vJ q0, .second, vJ q1, .second, vJ q2, .second, vI p3, vR b1, vR bb7, vI 1, vI v204, vI v210] [(.long q0), (.ref b1)])) rfl (by rw [hml]; rfl) (Steps.refl _) (argsL := [(.long q0)]) (rest := []) (lenOf pd_10 rfl) rfl (by show 2 * 0 + _ ≤ _; exact Nat.le_of_eq rfl) (hb hby at_174) (fun _ _ => ⟨rfl, rfl, (by decide : 7 + 0 ≤ _), (by decide : 522 + 0 ≤ _)⟩)
          dsimp only [Pt.U, Pt.locs, Pt.cells, Pt.slots] at X236 lq236 yq236 zq236 st236 hQ236
          subst lq236 yq236 zq236
          obtain ⟨rfl, Nq236, Zn236, Xq236, MM236⟩ := hQ236
          have N236 := Fr.app N201 Nq236
          have ks238 := own_ct ks235 st236
          have ks241 : own_R p e below (A0) (T236.setTop (mkF m 183 #[vJ q0, .second, vJ q1, .second, vJ q2, .second, vI p3, vR b1, vR bb7, vI 1, vI 0, vI v210] [(.int (lcmpW q1 q0))])) := fun t k => ks238 t (by
            refine XS.iconst X236.here hx rfl (hb hby at_177) ?_
            refine XS.istore X236.here hx rfl (hb hby at_178) rfl (l' := #[vJ q0, .second, vJ q1, .second, vJ q2, .second, vI p3, vR b1, vR bb7, vI 1, vI 0, vI v210]) rfl ?_
            refine XS.lloadN X236.here hx rfl (hb hby at_180) rfl ?_
            show Steps p.tables e below (T236.setTop (mkF m 181 #[vJ q0, .second, vJ q1, .second, vJ q2, .second, vI p3, vR b1, vR bb7, vI 1, vI 0, vI v210] [(.long q1)])) _
            refine XS.lloadN X236.here hx rfl (hb hby at_181) rfl ?_
            refine XS.lcmp X236.here hx rfl (hb hby at_182) rfl ?_
            exact k)
          obtain ⟨v240, hv240⟩ : ∃ z : Int32, z = (if q1 = q0 then (0 : Int32) else v210) := ⟨_, rfl⟩
          have ks242 : own_R p e below (A0) (T236.setTop (mkF m 189 #[vJ q0, .second, vJ q1, .second, vJ q2, .second, vI p3, vR b1, vR bb7, vI 1, vI 0, vI v240] [])) := fun t k => ks241 t (by
            by_cases hc239 : q1 = q0
            · skip
              have qq243 : v240 = (0 : Int32) := by rw [hv240, if_pos hc239]
              rw [qq243] at k
              refine XS.ifNo X236.here hx rfl (hb hby at_183) rfl ((if0 _ _).trans (teq ((lw_eq _ _).mpr hc239)).2) ?_
              refine XS.iconst X236.here hx rfl (hb hby at_186) ?_
              refine XS.istore X236.here hx rfl (hb hby at_187) rfl (l' := #[vJ q0, .second, vJ q1, .second, vJ q2, .second, vI p3, vR b1, vR bb7, vI 1, vI 0, vI 0]) rfl ?_
              exact k
            · skip
              have qq244 : v240 = v210 := by rw [hv240, if_neg hc239]
              rw [qq244] at k
              refine XS.ifYes X236.here hx rfl (pc0 := 183) (pc' := 189) rfl (hb hby at_183) rfl ((if0 _ _).trans (feq (fun q => hc239 ((lw_eq _ _).mp q))).2) (by decide) (by decide) ?_
              exact k)
          have ks245 : own_R p e below (A0) (T236.setTop (mkF m 196 #[vJ q0, .second, vJ q1, .second, vJ q2, .second, vI p3, vR b1, vR bb7, vI 1, vI 0, vI v240] [(.ref b1)])) := fun t k => ks242 t (by
            refine XS.iload X236.here hx rfl (hb hby at_189) rfl ?_
            refine XS.ifNo X236.here hx rfl (hb hby at_191) rfl ((if0 _ _).trans (feq (by decide)).1) ?_
            refine XS.aload X236.here hx rfl (hb hby at_194) rfl rfl ?_
            exact k)
          obtain ⟨f247, sh247, kf247, ksh247, cc247, vf247, vs247, Ff247, Fs247, Fc247, Vf247, Vs247, hc247⟩ := own_view MM236
          have f248 := (Xq236 _ _ f237)
          obtain ⟨cq246, kq246, q246a, q246b, q246c⟩ := isOf hZ rfl f248
          obtain ⟨_, _, ⟨T246, L246, k246, n246⟩, -, X246, ⟨Lc246, hQ246, lq246, yq246, zq246⟩, st246⟩ := X236.virtualBack hx (y := (⟨"com/example/thin_feed/thinfeed/store/LongFloorMap", "bytes", "()J"⟩ : MethodName)) (z := (⟨"com/example/thin_feed/thinfeed/store/LongFloorMap", "bytes", "()J"⟩ : MethodName)) hown (mvT hZ (own_w hw 23 rfl)) (mvT hZ (own_w hw 24 rfl)) (notFace_of_selects (args := #[]) (mvT hZ (own_w hw 26 rfl))) (mvT hZ (own_w hw 26 rfl)) (mvT hZ (own_w hw 25 rfl)) (by decide) (backOf (W := 0) (rm4 l Z a0 hw [] b1 f247 sh247 kf247 ksh247 cc247 vf247 vs247 T236.heap n0 Zn236 Ff247 Fs247 Fc247 Vf247 Vs247) hZ (own_w hw 27 rfl) (own_w hw 2 rfl) (by decide) (by decide)) q246a q246c (g := (mkF m 196 #[vJ q0, .second, vJ q1, .second, vJ q2, .second, vI p3, vR b1, vR bb7, vI 1, vI 0, vI v240] [(.ref b1)])) rfl (by rw [hml]; rfl) (Steps.refl _) (argsL := []) (rest := []) (lenOf pd_2 rfl) rfl (by show 2 * 0 + _ ≤ _; exact Nat.le_of_eq rfl) (hb hby at_196) (fun _ _ => ⟨rfl, rfl, (by decide : 7 + 0 ≤ _), (by decide : 522 + 0 ≤ _)⟩)
          dsimp only [Pt.U, Pt.locs, Pt.cells, Pt.slots] at X246 lq246 yq246 zq246 st246 hQ246
          subst lq246 yq246 zq246
          obtain ⟨rfl, Nq246, eq246⟩ := hQ246
          have N246 := Fr.app N236 Nq246
          have ks249 := own_ct ks245 st246
          have ks252 : own_R p e below (A0) (T246.setTop (mkF m 206 #[vJ q0, .second, vJ q1, .second, vJ q2, .second, vI p3, vR b1, vR bb7, vI 1, vI 0, vI v240] [(.int v240), (.long (own_by cc247))])) := fun t k => ks249 t (by
            refine XS.iload X246.here hx rfl (hb hby at_199) rfl ?_
            refine XS.ifNo X246.here hx rfl (hb hby at_201) rfl ((if0 _ _).trans (teq (by decide)).2) ?_
            refine XS.iload X246.here hx rfl (hb hby at_204) rfl ?_
            exact k)
          obtain ⟨v251, hv251⟩ : ∃ z : Int32, z = (if v240 = (0 : Int32) then (0 : Int32) else (1 : Int32)) := ⟨_, rfl⟩
          have ks253 : own_R p e below (A0) (T246.setTop (mkF m 214 #[vJ q0, .second, vJ q1, .second, vJ q2, .second, vI p3, vR b1, vR bb7, vI 1, vI 0, vI v240] [(.int v251), (.long (own_by cc247))])) := fun t k => ks252 t (by
            by_cases hc250 : v240 = (0 : Int32)
            · skip
              have qq254 : v251 = (0 : Int32) := by rw [hv251, if_pos hc250]
              rw [qq254] at k
              refine XS.ifYes X246.here hx rfl (pc0 := 206) (pc' := 213) rfl (hb hby at_206) rfl ((if0 _ _).trans (teq hc250).1) (by decide) (by decide) ?_
              refine XS.iconst X246.here hx rfl (hb hby at_213) ?_
              exact k
            · skip
              have qq255 : v251 = (1 : Int32) := by rw [hv251, if_neg hc250]
              rw [qq255] at k
              refine XS.ifNo X246.here hx rfl (hb hby at_206) rfl ((if0 _ _).trans (feq hc250).1) ?_
              refine XS.iconst X246.here hx rfl (hb hby at_209) ?_
              refine XS.goto X246.here hx rfl (pc0 := 210) (pc' := 214) rfl (hb hby at_210) (by decide) (by decide) ?_
              exact k)
          obtain ⟨_, _, ⟨T256, L256, k256, n256⟩, -, X256, ⟨Lc256, hQ256, lq256, yq256, zq256⟩, st256⟩ := Jvm.LawKit.callS X246 hx (y := (⟨"com/example/thin_feed/thinfeed/store/LongFloorMapBytesPinLaw", "expected", "(Z)J"⟩ : MethodName)) hown (mvT hZ (own_w hw 38 rfl)) (mvT hZ (own_w hw 39 rfl)) (mvT hZ (own_w hw 40 rfl)) (mvT hZ (own_w hw 41 rfl)) (by decide) (backOf (W := 2) (rm6 l Z a0 hw [] v251 T236.heap n0 Zn236 ) hZ (own_w hw 41 rfl) (own_w hw 40 rfl) (by decide) (by decide)) (g := (mkF m 214 #[vJ q0, .second, vJ q1, .second, vJ q2, .second, vI p3, vR b1, vR bb7, vI 1, vI 0, vI v240] [(.int v251), (.long (own_by cc247))])) rfl (by rw [hml]; rfl) (argsL := [(.int v251)]) (rest := [(.long (own_by cc247))]) (lenOf pd_4 rfl) rfl (by show 2 * 0 + _ ≤ _; exact Nat.le_of_eq rfl) (hb hby at_214) (fun _ _ => ⟨rfl, eq246, (by decide : 7 + 0 ≤ _), (by decide : 522 + 0 ≤ _)⟩)
          dsimp only [Pt.U, Pt.locs, Pt.cells, Pt.slots] at X256 lq256 yq256 zq256 st256 hQ256
          subst lq256 yq256 zq256
          obtain ⟨rfl, Nq256, eq256⟩ := hQ256
          have N256 := Fr.app N246 Nq256
          have ks257 := own_c ks253 st256
          have ks258 : own_R p e below (A0) (T256.setTop (mkF m 218 #[vJ q0, .second, vJ q1, .second, vJ q2, .second, vI p3, vR b1, vR bb7, vI 1, vI 0, vI v240] [(.int (lcmpW (own_by cc247) (own_exp v251)))])) := fun t k => ks257 t (by
            refine XS.lcmp X256.here hx rfl (hb hby at_217) rfl ?_
            exact k)
          have hB259 : own_by cc247 = (own_exp v251) := own_fin hc247 (own_leaf_10 q0 q1 q2 p3 v23 v29 v204 v210 v240 v251 hv23 hv29 hv204 hv210 hv240 hv251 hc35 hc37 hc162 hc216).1 (own_leaf_10 q0 q1 q2 p3 v23 v29 v204 v210 v240 v251 hv23 hv29 hv204 hv210 hv240 hv251 hc35 hc37 hc162 hc216).2
          have ks260 : own_R p e below (A0) (T256.setTop (mkF m 230 #[vJ q0, .second, vJ q1, .second, vJ q2, .second, vI p3, vR b1, vR bb7, vI 1, vI 0, vI v240] [(.int 1)])) := fun t k => ks258 t (by
            refine XS.ifNo X256.here hx rfl (hb hby at_218) rfl ((if0 _ _).trans (teq ((lw_eq _ _).mpr hB259)).2) ?_
            refine XS.iconst X256.here hx rfl (hb hby at_221) ?_
            refine XS.goto X256.here hx rfl (pc0 := 222) (pc' := 226) rfl (hb hby at_222) (by decide) (by decide) ?_
            show Steps p.tables e below (T256.setTop (mkF m 226 #[vJ q0, .second, vJ q1, .second, vJ q2, .second, vI p3, vR b1, vR bb7, vI 1, vI 0, vI v240] [(.int 1)])) _
            refine XS.istore X256.here hx rfl (hb hby at_226) rfl (l' := #[vJ q0, .second, vJ q1, .second, vJ q2, .second, vI p3, vR b1, vR bb7, vI 1, vI 0, vI v240]) rfl ?_
            refine XS.iload X256.here hx rfl (hb hby at_228) rfl ?_
            exact k)
          obtain ⟨fs, hr, hrun, hended, hW, hsame⟩ := X256.leave (v := some (.int 1)) (fun h => by rw [Bd.returns] at h; cases h) hlk
          refine ⟨_, _, kz _ (ks260 _ ?_), hrun, hended, _, _, rfl, ?_, ⟨_, rfl⟩, hW, hsame.mono (by decide) (by decide)⟩
          · exact retN X256 hx (t := .boolean) Bd.returns (by simp) (hb hby at_230) hr
          · show Q0 Z q0 q1 q2 p3 u1 cl1 h0 n0 _ T256.heap _
            rw [eq256]
            exact ⟨rfl, N256⟩
  · skip
    have ks261 : own_R p e below (A0) (T18.setTop (mkF m 74 #[vJ q0, .second, vJ q1, .second, vJ q2, .second, vI p3, vR b1, vR bb7, vI 1, vI v23, vI v29] [(.ref bb7), (.long q0), (.ref b1)])) := fun t k => ks34 t (by
      refine XS.ifNo X18.here hx rfl (hb hby at_66) rfl ((if0 _ _).trans (feq hc35).1) ?_
      refine XS.aload X18.here hx rfl (hb hby at_69) rfl rfl ?_
      refine XS.lloadN X18.here hx rfl (hb hby at_71) rfl ?_
      show Steps p.tables e below (T18.setTop (mkF m 72 #[vJ q0, .second, vJ q1, .second, vJ q2, .second, vI p3, vR b1, vR bb7, vI 1, vI v23, vI v29] [(.long q0), (.ref b1)])) _
      refine XS.aload X18.here hx rfl (hb hby at_72) rfl rfl ?_
      exact k)
    obtain ⟨f_263, sh_263, kf_263, ksh_263, sz_263, x_263, E0_263, Ff_263, Fsh_263, Fc_263, Fz_263, Vf_263, Vs_263, Os_263, g_r0_263, g_f_263, g_sh_263, ne_r0_f_263, ne_r0_sh_263, ne_f_sh_263⟩ := CC7
    obtain ⟨cq262, kq262, q262a, q262b, q262c⟩ := isOf hZ eq18 f15
    obtain ⟨_, _, ⟨T262, L262, k262, n262⟩, -, X262, ⟨Lc262, hQ262, lq262, yq262, zq262⟩, st262⟩ := X18.virtualBack hx (y := (⟨"com/example/thin_feed/thinfeed/store/LongFloorMap", "put", "(JLjava/lang/Object;)V"⟩ : MethodName)) (z := (⟨"com/example/thin_feed/thinfeed/store/LongFloorMap", "put", "(JLjava/lang/Object;)V"⟩ : MethodName)) hown (mvT hZ (own_w hw 44 rfl)) (mvT hZ (own_w hw 45 rfl)) (notFace_of_selects (args := #[]) (mvT hZ (own_w hw 47 rfl))) (mvT hZ (own_w hw 47 rfl)) (mvT hZ (own_w hw 46 rfl)) (by decide) (backOf (W := 0) (rm7E l Z a0 hw [] b1 q0 bb7 f_263 sh_263 kf_263 ksh_263 sz_263 x_263 T7.heap n0 Zn7 E0_263 Ff_263 Fsh_263 Fc_263 Fz_263 Vf_263 Vs_263 Os_263 Ex7 g_r0_263 g_f_263 g_sh_263 ne_r0_f_263 ne_r0_sh_263 ne_f_sh_263) hZ (own_w hw 48 rfl) (own_w hw 2 rfl) (by decide) (by decide)) q262a q262c (g := (mkF m 74 #[vJ q0, .second, vJ q1, .second, vJ q2, .second, vI p3, vR b1, vR bb7, vI 1, vI v23, vI v29] [(.ref bb7), (.long q0), (.ref b1)])) rfl (by rw [hml]; rfl) (Steps.refl _) (argsL := [(.long q0), (.ref bb7)]) (rest := []) (lenOf pd_5 rfl) rfl (by show 2 * 0 + _ ≤ _; exact Nat.le_of_eq rfl) (hb hby at_74) (fun _ _ => ⟨rfl, eq18, (by decide : 4 + 3 ≤ _), (by decide : 7 + 515 ≤ _)⟩)
    dsimp only [Pt.U, Pt.locs, Pt.cells, Pt.slots] at X262 lq262 yq262 zq262 st262 hQ262
    subst lq262 yq262 zq262
    obtain ⟨rfl, Nq262, Zn262, Xq262, bq262, FF262⟩ := hQ262
    have N262 := Fr.app N18 Nq262
    have MM262 : own_M Z T262.heap n0 b1 bb7 (fun x => x = q0) := Or.inr (Or.inl ⟨_, _, FF262, fun _ => Iff.rfl⟩)
    have ks264 := own_ct ks261 st262
    have ks265 : own_R p e below (A0) (T262.setTop (mkF m 79 #[vJ q0, .second, vJ q1, .second, vJ q2, .second, vI p3, vR b1, vR bb7, vI 1, vI v23, vI v29] [(.int v29)])) := fun t k => ks264 t (by
      refine XS.iload X262.here hx rfl (hb hby at_77) rfl ?_
      exact k)
    by_cases hc266 : v29 = (0 : Int32)
    · skip
      have ks267 : own_R p e below (A0) (T262.setTop (mkF m 97 #[vJ q0, .second, vJ q1, .second, vJ q2, .second, vI p3, vR b1, vR bb7, vI 1, vI v23, vI v29] [(.ref b1)])) := fun t k => ks265 t (by
        refine XS.ifYes X262.here hx rfl (pc0 := 79) (pc' := 90) rfl (hb hby at_79) rfl ((if0 _ _).trans (teq hc266).1) (by decide) (by decide) ?_
        refine XS.iload X262.here hx rfl (hb hby at_90) rfl ?_
        refine XS.ifNo X262.here hx rfl (hb hby at_92) rfl ((if0 _ _).trans (feq (by decide)).1) ?_
        show Steps p.tables e below (T262.setTop (mkF m 95 #[vJ q0, .second, vJ q1, .second, vJ q2, .second, vI p3, vR b1, vR bb7, vI 1, vI v23, vI v29] [])) _
        refine XS.aload X262.here hx rfl (hb hby at_95) rfl rfl ?_
        exact k)
      obtain ⟨f269, sh269, kf269, ksh269, cc269, vf269, vs269, Ff269, Fs269, Fc269, Vf269, Vs269, hc269⟩ := own_view MM262
      have f270 := (Xq262 _ _ f15)
      obtain ⟨cq268, kq268, q268a, q268b, q268c⟩ := isOf hZ rfl f270
      obtain ⟨_, _, ⟨T268, L268, k268, n268⟩, -, X268, ⟨Lc268, hQ268, lq268, yq268, zq268⟩, st268⟩ := X262.virtualBack hx (y := (⟨"com/example/thin_feed/thinfeed/store/LongFloorMap", "bytes", "()J"⟩ : MethodName)) (z := (⟨"com/example/thin_feed/thinfeed/store/LongFloorMap", "bytes", "()J"⟩ : MethodName)) hown (mvT hZ (own_w hw 23 rfl)) (mvT hZ (own_w hw 24 rfl)) (notFace_of_selects (args := #[]) (mvT hZ (own_w hw 26 rfl))) (mvT hZ (own_w hw 26 rfl)) (mvT hZ (own_w hw 25 rfl)) (by decide) (backOf (W := 0) (rm4 l Z a0 hw [] b1 f269 sh269 kf269 ksh269 cc269 vf269 vs269 T262.heap n0 Zn262 Ff269 Fs269 Fc269 Vf269 Vs269) hZ (own_w hw 27 rfl) (own_w hw 2 rfl) (by decide) (by decide)) q268a q268c (g := (mkF m 97 #[vJ q0, .second, vJ q1, .second, vJ q2, .second, vI p3, vR b1, vR bb7, vI 1, vI v23, vI v29] [(.ref b1)])) rfl (by rw [hml]; rfl) (Steps.refl _) (argsL := []) (rest := []) (lenOf pd_2 rfl) rfl (by show 2 * 0 + _ ≤ _; exact Nat.le_of_eq rfl) (hb hby at_97) (fun _ _ => ⟨rfl, rfl, (by decide : 7 + 0 ≤ _), (by decide : 522 + 0 ≤ _)⟩)
      dsimp only [Pt.U, Pt.locs, Pt.cells, Pt.slots] at X268 lq268 yq268 zq268 st268 hQ268
      subst lq268 yq268 zq268
      obtain ⟨rfl, Nq268, eq268⟩ := hQ268
      have N268 := Fr.app N262 Nq268
      have ks271 := own_ct ks267 st268
      have ks272 : own_R p e below (A0) (T268.setTop (mkF m 115 #[vJ q0, .second, vJ q1, .second, vJ q2, .second, vI p3, vR b1, vR bb7, vI 1, vI v23, vI v29] [(.int 1), (.long (own_by cc269))])) := fun t k => ks271 t (by
        refine XS.iload X268.here hx rfl (hb hby at_100) rfl ?_
        refine XS.ifYes X268.here hx rfl (pc0 := 102) (pc' := 110) rfl (hb hby at_102) rfl ((if0 _ _).trans (feq hc35).2) (by decide) (by decide) ?_
        refine XS.iconst X268.here hx rfl (hb hby at_110) ?_
        show Steps p.tables e below (T268.setTop (mkF m 111 #[vJ q0, .second, vJ q1, .second, vJ q2, .second, vI p3, vR b1, vR bb7, vI 1, vI v23, vI v29] [(.int 1), (.long (own_by cc269))])) _
        refine XS.goto X268.here hx rfl (pc0 := 111) (pc' := 115) rfl (hb hby at_111) (by decide) (by decide) ?_
        exact k)
      obtain ⟨_, _, ⟨T273, L273, k273, n273⟩, -, X273, ⟨Lc273, hQ273, lq273, yq273, zq273⟩, st273⟩ := Jvm.LawKit.callS X268 hx (y := (⟨"com/example/thin_feed/thinfeed/store/LongFloorMapBytesPinLaw", "expected", "(Z)J"⟩ : MethodName)) hown (mvT hZ (own_w hw 38 rfl)) (mvT hZ (own_w hw 39 rfl)) (mvT hZ (own_w hw 40 rfl)) (mvT hZ (own_w hw 41 rfl)) (by decide) (backOf (W := 2) (rm6 l Z a0 hw [] (1 : Int32) T262.heap n0 Zn262 ) hZ (own_w hw 41 rfl) (own_w hw 40 rfl) (by decide) (by decide)) (g := (mkF m 115 #[vJ q0, .second, vJ q1, .second, vJ q2, .second, vI p3, vR b1, vR bb7, vI 1, vI v23, vI v29] [(.int 1), (.long (own_by cc269))])) rfl (by rw [hml]; rfl) (argsL := [(.int 1)]) (rest := [(.long (own_by cc269))]) (lenOf pd_4 rfl) rfl (by show 2 * 0 + _ ≤ _; exact Nat.le_of_eq rfl) (hb hby at_115) (fun _ _ => ⟨rfl, eq268, (by decide : 7 + 0 ≤ _), (by decide : 522 + 0 ≤ _)⟩)
      dsimp only [Pt.U, Pt.locs, Pt.cells, Pt.slots] at X273 lq273 yq273 zq273 st273 hQ273
      subst lq273 yq273 zq273
      obtain ⟨rfl, Nq273, eq273⟩ := hQ273
      have N273 := Fr.app N268 Nq273
      have ks274 := own_c ks272 st273
      have ks275 : own_R p e below (A0) (T273.setTop (mkF m 119 #[vJ q0, .second, vJ q1, .second, vJ q2, .second, vI p3, vR b1, vR bb7, vI 1, vI v23, vI v29] [(.int (lcmpW (own_by cc269) (own_exp (1 : Int32))))])) := fun t k => ks274 t (by
        refine XS.lcmp X273.here hx rfl (hb hby at_118) rfl ?_
        exact k)
      have hB276 : own_by cc269 = (own_exp (1 : Int32)) := own_fin hc269 (own_leaf_11 q0 q1 q2 p3 v23 v29 hv23 hv29 hc35 hc266).1 (own_leaf_11 q0 q1 q2 p3 v23 v29 hv23 hv29 hc35 hc266).2
      have ks277 : own_R p e below (A0) (T273.setTop (mkF m 133 #[vJ q0, .second, vJ q1, .second, vJ q2, .second, vI p3, vR b1, vR bb7, vI 1, vI v23, vI v29] [(.int (p3 &&& (4 : Int32)))])) := fun t k => ks275 t (by
        refine XS.ifNo X273.here hx rfl (hb hby at_119) rfl ((if0 _ _).trans (teq ((lw_eq _ _).mpr hB276)).2) ?_
        refine XS.iconst X273.here hx rfl (hb hby at_122) ?_
        refine XS.goto X273.here hx rfl (pc0 := 123) (pc' := 127) rfl (hb hby at_123) (by decide) (by decide) ?_
        show Steps p.tables e below (T273.setTop (mkF m 127 #[vJ q0, .second, vJ q1, .second, vJ q2, .second, vI p3, vR b1, vR bb7, vI 1, vI v23, vI v29] [(.int 1)])) _
        refine XS.istore X273.here hx rfl (hb hby at_127) rfl (l' := #[vJ q0, .second, vJ q1, .second, vJ q2, .second, vI p3, vR b1, vR bb7, vI 1, vI v23, vI v29]) rfl ?_
        refine XS.iload X273.here hx rfl (hb hby at_129) rfl ?_
        refine XS.iconst X273.here hx rfl (hb hby at_131) ?_
        refine XS.iand X273.here hx rfl (hb hby at_132) rfl ?_
        exact k)
      by_cases hc278 : (p3 &&& (4 : Int32)) = (0 : Int32)
      · skip
        have ks279 : own_R p e below (A0) (T273.setTop (mkF m 168 #[vJ q0, .second, vJ q1, .second, vJ q2, .second, vI p3, vR b1, vR bb7, vI 1, vI v23, vI v29] [(.int (p3 &&& (8 : Int32)))])) := fun t k => ks277 t (by
          refine XS.ifYes X273.here hx rfl (pc0 := 133) (pc' := 163) rfl (hb hby at_133) rfl ((if0 _ _).trans (teq hc278).1) (by decide) (by decide) ?_
          refine XS.iload X273.here hx rfl (hb hby at_163) rfl ?_
          refine XS.bipush X273.here hx rfl (hb hby at_165) ?_
          show Steps p.tables e below (T273.setTop (mkF m 167 #[vJ q0, .second, vJ q1, .second, vJ q2, .second, vI p3, vR b1, vR bb7, vI 1, vI v23, vI v29] [(.int 8), (.int p3)])) _
          refine XS.iand X273.here hx rfl (hb hby at_167) rfl ?_
          exact k)
        by_cases hc280 : (p3 &&& (8 : Int32)) = (0 : Int32)
        · skip
          have ks281 : own_R p e below (A0) (T273.setTop (mkF m 196 #[vJ q0, .second, vJ q1, .second, vJ q2, .second, vI p3, vR b1, vR bb7, vI 1, vI v23, vI v29] [(.ref b1)])) := fun t k => ks279 t (by
            refine XS.ifYes X273.here hx rfl (pc0 := 168) (pc' := 189) rfl (hb hby at_168) rfl ((if0 _ _).trans (teq hc280).1) (by decide) (by decide) ?_
            refine XS.iload X273.here hx rfl (hb hby at_189) rfl ?_
            refine XS.ifNo X273.here hx rfl (hb hby at_191) rfl ((if0 _ _).trans (feq (by decide)).1) ?_
            show Steps p.tables e below (T273.setTop (mkF m 194 #[vJ q0, .second, vJ q1, .second, vJ q2, .second, vI p3, vR b1, vR bb7, vI 1, vI v23, vI v29] [])) _
            refine XS.aload X273.here hx rfl (hb hby at_194) rfl rfl ?_
            exact k)
          obtain ⟨f283, sh283, kf283, ksh283, cc283, vf283, vs283, Ff283, Fs283, Fc283, Vf283, Vs283, hc283⟩ := own_view MM262
          obtain ⟨cq282, kq282, q282a, q282b, q282c⟩ := isOf hZ eq273 f270
          obtain ⟨_, _, ⟨T282, L282, k282, n282⟩, -, X282, ⟨Lc282, hQ282, lq282, yq282, zq282⟩, st282⟩ := X273.virtualBack hx (y := (⟨"com/example/thin_feed/thinfeed/store/LongFloorMap", "bytes", "()J"⟩ : MethodName)) (z := (⟨"com/example/thin_feed/thinfeed/store/LongFloorMap", "bytes", "()J"⟩ : MethodName)) hown (mvT hZ (own_w hw 23 rfl)) (mvT hZ (own_w hw 24 rfl)) (notFace_of_selects (args := #[]) (mvT hZ (own_w hw 26 rfl))) (mvT hZ (own_w hw 26 rfl)) (mvT hZ (own_w hw 25 rfl)) (by decide) (backOf (W := 0) (rm4 l Z a0 hw [] b1 f283 sh283 kf283 ksh283 cc283 vf283 vs283 T262.heap n0 Zn262 Ff283 Fs283 Fc283 Vf283 Vs283) hZ (own_w hw 27 rfl) (own_w hw 2 rfl) (by decide) (by decide)) q282a q282c (g := (mkF m 196 #[vJ q0, .second, vJ q1, .second, vJ q2, .second, vI p3, vR b1, vR bb7, vI 1, vI v23, vI v29] [(.ref b1)])) rfl (by rw [hml]; rfl) (Steps.refl _) (argsL := []) (rest := []) (lenOf pd_2 rfl) rfl (by show 2 * 0 + _ ≤ _; exact Nat.le_of_eq rfl) (hb hby at_196) (fun _ _ => ⟨rfl, eq273, (by decide : 7 + 0 ≤ _), (by decide : 522 + 0 ≤ _)⟩)
          dsimp only [Pt.U, Pt.locs, Pt.cells, Pt.slots] at X282 lq282 yq282 zq282 st282 hQ282
          subst lq282 yq282 zq282
          obtain ⟨rfl, Nq282, eq282⟩ := hQ282
          have N282 := Fr.app N273 Nq282
          have ks284 := own_ct ks281 st282
          have ks285 : own_R p e below (A0) (T282.setTop (mkF m 214 #[vJ q0, .second, vJ q1, .second, vJ q2, .second, vI p3, vR b1, vR bb7, vI 1, vI v23, vI v29] [(.int 1), (.long (own_by cc283))])) := fun t k => ks284 t (by
            refine XS.iload X282.here hx rfl (hb hby at_199) rfl ?_
            refine XS.ifYes X282.here hx rfl (pc0 := 201) (pc' := 209) rfl (hb hby at_201) rfl ((if0 _ _).trans (feq hc35).2) (by decide) (by decide) ?_
            refine XS.iconst X282.here hx rfl (hb hby at_209) ?_
            show Steps p.tables e below (T282.setTop (mkF m 210 #[vJ q0, .second, vJ q1, .second, vJ q2, .second, vI p3, vR b1, vR bb7, vI 1, vI v23, vI v29] [(.int 1), (.long (own_by cc283))])) _
            refine XS.goto X282.here hx rfl (pc0 := 210) (pc' := 214) rfl (hb hby at_210) (by decide) (by decide) ?_
            exact k)
          obtain ⟨_, _, ⟨T286, L286, k286, n286⟩, -, X286, ⟨Lc286, hQ286, lq286, yq286, zq286⟩, st286⟩ := Jvm.LawKit.callS X282 hx (y := (⟨"com/example/thin_feed/thinfeed/store/LongFloorMapBytesPinLaw", "expected", "(Z)J"⟩ : MethodName)) hown (mvT hZ (own_w hw 38 rfl)) (mvT hZ (own_w hw 39 rfl)) (mvT hZ (own_w hw 40 rfl)) (mvT hZ (own_w hw 41 rfl)) (by decide) (backOf (W := 2) (rm6 l Z a0 hw [] (1 : Int32) T262.heap n0 Zn262 ) hZ (own_w hw 41 rfl) (own_w hw 40 rfl) (by decide) (by decide)) (g := (mkF m 214 #[vJ q0, .second, vJ q1, .second, vJ q2, .second, vI p3, vR b1, vR bb7, vI 1, vI v23, vI v29] [(.int 1), (.long (own_by cc283))])) rfl (by rw [hml]; rfl) (argsL := [(.int 1)]) (rest := [(.long (own_by cc283))]) (lenOf pd_4 rfl) rfl (by show 2 * 0 + _ ≤ _; exact Nat.le_of_eq rfl) (hb hby at_214) (fun _ _ => ⟨rfl, eq282, (by decide : 7 + 0 ≤ _), (by decide : 522 + 0 ≤ _)⟩)
          dsimp only [Pt.U, Pt.locs, Pt.cells, Pt.slots] at X286 lq286 yq286 zq286 st286 hQ286
          subst lq286 yq286 zq286
          obtain ⟨rfl, Nq286, eq286⟩ := hQ286
          have N286 := Fr.app N282 Nq286
          have ks287 := own_c ks285 st286
          have ks288 : own_R p e below (A0) (T286.setTop (mkF m 218 #[vJ q0, .second, vJ q1, .second, vJ q2, .second, vI p3, vR b1, vR bb7, vI 1, vI v23, vI v29] [(.int (lcmpW (own_by cc283) (own_exp (1 : Int32))))])) := fun t k => ks287 t (by
            refine XS.lcmp X286.here hx rfl (hb hby at_217) rfl ?_
            exact k)
          have hB289 : own_by cc283 = (own_exp (1 : Int32)) := own_fin hc283 (own_leaf_12 q0 q1 q2 p3 v23 v29 hv23 hv29 hc35 hc266 hc278 hc280).1 (own_leaf_12 q0 q1 q2 p3 v23 v29 hv23 hv29 hc35 hc266 hc278 hc280).2
          have ks290 : own_R p e below (A0) (T286.setTop (mkF m 230 #[vJ q0, .second, vJ q1, .second, vJ q2, .second, vI p3, vR b1, vR bb7, vI 1, vI v23, vI v29] [(.int 1)])) := fun t k => ks288 t (by
            refine XS.ifNo X286.here hx rfl (hb hby at_218) rfl ((if0 _ _).trans (teq ((lw_eq _ _).mpr hB289)).2) ?_
            refine XS.iconst X286.here hx rfl (hb hby at_221) ?_
            refine XS.goto X286.here hx rfl (pc0 := 222) (pc' := 226) rfl (hb hby at_222) (by decide) (by decide) ?_
            show Steps p.tables e below (T286.setTop (mkF m 226 #[vJ q0, .second, vJ q1, .second, vJ q2, .second, vI p3, vR b1, vR bb7, vI 1, vI v23, vI v29] [(.int 1)])) _
            refine XS.istore X286.here hx rfl (hb hby at_226) rfl (l' := #[vJ q0, .second, vJ q1, .second, vJ q2, .second, vI p3, vR b1, vR bb7, vI 1, vI v23, vI v29]) rfl ?_
            refine XS.iload X286.here hx rfl (hb hby at_228) rfl ?_
            exact k)
          obtain ⟨fs, hr, hrun, hended, hW, hsame⟩ := X286.leave (v := some (.int 1)) (fun h => by rw [Bd.returns] at h; cases h) hlk
          refine ⟨_, _, kz _ (ks290 _ ?_), hrun, hended, _, _, rfl, ?_, ⟨_, rfl⟩, hW, hsame.mono (by decide) (by decide)⟩
          · exact retN X286 hx (t := .boolean) Bd.returns (by simp) (hb hby at_230) hr
          · show Q0 Z q0 q1 q2 p3 u1 cl1 h0 n0 _ T286.heap _
            rw [eq286]
            exact ⟨rfl, N286⟩
        · skip
          have ks291 : own_R p e below (A0) (T273.setTop (mkF m 174 #[vJ q0, .second, vJ q1, .second, vJ q2, .second, vI p3, vR b1, vR bb7, vI 1, vI v23, vI v29] [(.long q0), (.ref b1)])) := fun t k => ks279 t (by
            refine XS.ifNo X273.here hx rfl (hb hby at_168) rfl ((if0 _ _).trans (feq hc280).1) ?_
            refine XS.aload X273.here hx rfl (hb hby at_171) rfl rfl ?_
            refine XS.lloadN X273.here hx rfl (hb hby at_173) rfl ?_
            exact k)
          obtain ⟨cq292, kq292, q292a, q292b, q292c⟩ := isOf hZ eq273 f270
          obtain ⟨_, _, ⟨T292, L292, k292, n292⟩, -, X292, ⟨Lc292, hQ292, lq292, yq292, zq292⟩, st292⟩ := X273.virtualBack hx (y := (⟨"com/example/thin_feed/thinfeed/store/LongFloorMap", "remove", "(J)V"⟩ : MethodName)) (z := (⟨"com/example/thin_feed/thinfeed/store/LongFloorMap", "remove", "(J)V"⟩ : MethodName)) hown (mvT hZ (own_w hw 84 rfl)) (mvT hZ (own_w hw 85 rfl)) (notFace_of_selects (args := #[]) (mvT hZ (own_w hw 87 rfl))) (mvT hZ (own_w hw 87 rfl)) (mvT hZ (own_w hw 86 rfl)) (by decide) (backOf (W := 0) (rm12M l Z a0 hw [] b1 q0 bb7 _ T262.heap n0 Zn262 MM262) hZ (own_w hw 88 rfl) (own_w hw 2 rfl) (by decide) (by decide)) q292a q292c (g := (mkF m 174 #[vJ q0, .second, vJ q1, .second, vJ q2, .second, vI p3, vR b1, vR bb7, vI 1, vI v23, vI v29] [(.long q0), (.ref b1)])) rfl (by rw [hml]; rfl) (Steps.refl _) (argsL := [(.long q0)]) (rest := []) (lenOf pd_10 rfl) rfl (by show 2 * 0 + _ ≤ _; exact Nat.le_of_eq rfl) (hb hby at_174) (fun _ _ => ⟨rfl, eq273, (by decide : 7 + 0 ≤ _), (by decide : 522 + 0 ≤ _)⟩)
          dsimp only [Pt.U, Pt.locs, Pt.cells, Pt.slots] at X292 lq292 yq292 zq292 st292 hQ292
          subst lq292 yq292 zq292
          obtain ⟨rfl, Nq292, Zn292, Xq292, MM292⟩ := hQ292
          have N292 := Fr.app N273 Nq292
          have ks293 := own_ct ks291 st292
          have ks296 : own_R p e below (A0) (T292.setTop (mkF m 183 #[vJ q0, .second, vJ q1, .second, vJ q2, .second, vI p3, vR b1, vR bb7, vI 1, vI 0, vI v29] [(.int (lcmpW q1 q0))])) := fun t k => ks293 t (by
            refine XS.iconst X292.here hx rfl (hb hby at_177) ?_
            refine XS.istore X292.here hx rfl (hb hby at_178) rfl (l' := #[vJ q0, .second, vJ q1, .second, vJ q2, .second, vI p3, vR b1, vR bb7, vI 1, vI 0, vI v29]) rfl ?_
            refine XS.lloadN X292.here hx rfl (hb hby at_180) rfl ?_
            show Steps p.tables e below (T292.setTop (mkF m 181 #[vJ q0, .second, vJ q1, .second, vJ q2, .second, vI p3, vR b1, vR bb7, vI 1, vI 0, vI v29] [(.long q1)])) _
            refine XS.lloadN X292.here hx rfl (hb hby at_181) rfl ?_
            refine XS.lcmp X292.here hx rfl (hb hby at_182) rfl ?_
            exact k)
          obtain ⟨v295, hv295⟩ : ∃ z : Int32, z = (if q1 = q0 then (0 : Int32) else v29) := ⟨_, rfl⟩
          have ks297 : own_R p e below (A0) (T292.setTop (mkF m 189 #[vJ q0, .second, vJ q1, .second, vJ q2, .second, vI p3, vR b1, vR bb7, vI 1, vI 0, vI v295] [])) := fun t k => ks296 t (by
            by_cases hc294 : q1 = q0
            · skip
              have qq298 : v295 = (0 : Int32) := by rw [hv295, if_pos hc294]
              rw [qq298] at k
              refine XS.ifNo X292.here hx rfl (hb hby at_183) rfl ((if0 _ _).trans (teq ((lw_eq _ _).mpr hc294)).2) ?_
              refine XS.iconst X292.here hx rfl (hb hby at_186) ?_
              refine XS.istore X292.here hx rfl (hb hby at_187) rfl (l' := #[vJ q0, .second, vJ q1, .second, vJ q2, .second, vI p3, vR b1, vR bb7, vI 1, vI 0, vI 0]) rfl ?_
              exact k
            · skip
              have qq299 : v295 = v29 := by rw [hv295, if_neg hc294]
              rw [qq299] at k
              refine XS.ifYes X292.here hx rfl (pc0 := 183) (pc' := 189) rfl (hb hby at_183) rfl ((if0 _ _).trans (feq (fun q => hc294 ((lw_eq _ _).mp q))).2) (by decide) (by decide) ?_
              exact k)
          have ks300 : own_R p e below (A0) (T292.setTop (mkF m 196 #[vJ q0, .second, vJ q1, .second, vJ q2, .second, vI p3, vR b1, vR bb7, vI 1, vI 0, vI v295] [(.ref b1)])) := fun t k => ks297 t (by
            refine XS.iload X292.here hx rfl (hb hby at_189) rfl ?_
            refine XS.ifNo X292.here hx rfl (hb hby at_191) rfl ((if0 _ _).trans (feq (by decide)).1) ?_
            refine XS.aload X292.here hx rfl (hb hby at_194) rfl rfl ?_
            exact k)
          obtain ⟨f302, sh302, kf302, ksh302, cc302, vf302, vs302, Ff302, Fs302, Fc302, Vf302, Vs302, hc302⟩ := own_view MM292
          have f303 := (Xq292 _ _ f270)
          obtain ⟨cq301, kq301, q301a, q301b, q301c⟩ := isOf hZ rfl f303
          obtain ⟨_, _, ⟨T301, L301, k301, n301⟩, -, X301, ⟨Lc301, hQ301, lq301, yq301, zq301⟩, st301⟩ := X292.virtualBack hx (y := (⟨"com/example/thin_feed/thinfeed/store/LongFloorMap", "bytes", "()J"⟩ : MethodName)) (z := (⟨"com/example/thin_feed/thinfeed/store/LongFloorMap", "bytes", "()J"⟩ : MethodName)) hown (mvT hZ (own_w hw 23 rfl)) (mvT hZ (own_w hw 24 rfl)) (notFace_of_selects (args := #[]) (mvT hZ (own_w hw 26 rfl))) (mvT hZ (own_w hw 26 rfl)) (mvT hZ (own_w hw 25 rfl)) (by decide) (backOf (W := 0) (rm4 l Z a0 hw [] b1 f302 sh302 kf302 ksh302 cc302 vf302 vs302 T292.heap n0 Zn292 Ff302 Fs302 Fc302 Vf302 Vs302) hZ (own_w hw 27 rfl) (own_w hw 2 rfl) (by decide) (by decide)) q301a q301c (g := (mkF m 196 #[vJ q0, .second, vJ q1, .second, vJ q2, .second, vI p3, vR b1, vR bb7, vI 1, vI 0, vI v295] [(.ref b1)])) rfl (by rw [hml]; rfl) (Steps.refl _) (argsL := []) (rest := []) (lenOf pd_2 rfl) rfl (by show 2 * 0 + _ ≤ _; exact Nat.le_of_eq rfl) (hb hby at_196) (fun _ _ => ⟨rfl, rfl, (by decide : 7 + 0 ≤ _), (by decide : 522 + 0 ≤ _)⟩)
          dsimp only [Pt.U, Pt.locs, Pt.cells, Pt.slots] at X301 lq301 yq301 zq301 st301 hQ301
          subst lq301 yq301 zq301
          obtain ⟨rfl, Nq301, eq301⟩ := hQ301
          have N301 := Fr.app N292 Nq301
          have ks304 := own_ct ks300 st301
          have ks307 : own_R p e below (A0) (T301.setTop (mkF m 206 #[vJ q0, .second, vJ q1, .second, vJ q2, .second, vI p3, vR b1, vR bb7, vI 1, vI 0, vI v295] [(.int v295), (.long (own_by cc302))])) := fun t k => ks304 t (by
            refine XS.iload X301.here hx rfl (hb hby at_199) rfl ?_
            refine XS.ifNo X301.here hx rfl (hb hby at_201) rfl ((if0 _ _).trans (teq (by decide)).2) ?_
            refine XS.iload X301.here hx rfl (hb hby at_204) rfl ?_
            exact k)
          obtain ⟨v306, hv306⟩ : ∃ z : Int32, z = (if v295 = (0 : Int32) then (0 : Int32) else (1 : Int32)) := ⟨_, rfl⟩
          have ks308 : own_R p e below (A0) (T301.setTop (mkF m 214 #[vJ q0, .second, vJ q1, .second, vJ q2, .second, vI p3, vR b1, vR bb7, vI 1, vI 0, vI v295] [(.int v306), (.long (own_by cc302))])) := fun t k => ks307 t (by
            by_cases hc305 : v295 = (0 : Int32)
            · skip
              have qq309 : v306 = (0 : Int32) := by rw [hv306, if_pos hc305]
              rw [qq309] at k
              refine XS.ifYes X301.here hx rfl (pc0 := 206) (pc' := 213) rfl (hb hby at_206) rfl ((if0 _ _).trans (teq hc305).1) (by decide) (by decide) ?_
              refine XS.iconst X301.here hx rfl (hb hby at_213) ?_
              exact k
            · skip
              have qq310 : v306 = (1 : Int32) := by rw [hv306, if_neg hc305]
              rw [qq310] at k
              refine XS.ifNo X301.here hx rfl (hb hby at_206) rfl ((if0 _ _).trans (feq hc305).1) ?_
              refine XS.iconst X301.here hx rfl (hb hby at_209) ?_
              refine XS.goto X301.here hx rfl (pc0 := 210) (pc' := 214) rfl (hb hby at_210) (by decide) (by decide) ?_
              exact k)
          obtain ⟨_, _, ⟨T311, L311, k311, n311⟩, -, X311, ⟨Lc311, hQ311, lq311, yq311, zq311⟩, st311⟩ := Jvm.LawKit.callS X301 hx (y := (⟨"com/example/thin_feed/thinfeed/store/LongFloorMapBytesPinLaw", "expected", "(Z)J"⟩ : MethodName)) hown (mvT hZ (own_w hw 38 rfl)) (mvT hZ (own_w hw 39 rfl)) (mvT hZ (own_w hw 40 rfl)) (mvT hZ (own_w hw 41 rfl)) (by decide) (backOf (W := 2) (rm6 l Z a0 hw [] v306 T292.heap n0 Zn292 ) hZ (own_w hw 41 rfl) (own_w hw 40 rfl) (by decide) (by decide)) (g := (mkF m 214 #[vJ q0, .second, vJ q1, .second, vJ q2, .second, vI p3, vR b1, vR bb7, vI 1, vI 0, vI v295] [(.int v306), (.long (own_by cc302))])) rfl (by rw [hml]; rfl) (argsL := [(.int v306)]) (rest := [(.long (own_by cc302))]) (lenOf pd_4 rfl) rfl (by show 2 * 0 + _ ≤ _; exact Nat.le_of_eq rfl) (hb hby at_214) (fun _ _ => ⟨rfl, eq301, (by decide : 7 + 0 ≤ _), (by decide : 522 + 0 ≤ _)⟩)
          dsimp only [Pt.U, Pt.locs, Pt.cells, Pt.slots] at X311 lq311 yq311 zq311 st311 hQ311
          subst lq311 yq311 zq311
          obtain ⟨rfl, Nq311, eq311⟩ := hQ311
          have N311 := Fr.app N301 Nq311
          have ks312 := own_c ks308 st311
          have ks313 : own_R p e below (A0) (T311.setTop (mkF m 218 #[vJ q0, .second, vJ q1, .second, vJ q2, .second, vI p3, vR b1, vR bb7, vI 1, vI 0, vI v295] [(.int (lcmpW (own_by cc302) (own_exp v306)))])) := fun t k => ks312 t (by
            refine XS.lcmp X311.here hx rfl (hb hby at_217) rfl ?_
            exact k)
          have hB314 : own_by cc302 = (own_exp v306) := own_fin hc302 (own_leaf_13 q0 q1 q2 p3 v23 v29 v295 v306 hv23 hv29 hv295 hv306 hc35 hc266 hc278 hc280).1 (own_leaf_13 q0 q1 q2 p3 v23 v29 v295 v306 hv23 hv29 hv295 hv306 hc35 hc266 hc278 hc280).2
          have ks315 : own_R p e below (A0) (T311.setTop (mkF m 230 #[vJ q0, .second, vJ q1, .second, vJ q2, .second, vI p3, vR b1, vR bb7, vI 1, vI 0, vI v295] [(.int 1)])) := fun t k => ks313 t (by
            refine XS.ifNo X311.here hx rfl (hb hby at_218) rfl ((if0 _ _).trans (teq ((lw_eq _ _).mpr hB314)).2) ?_
            refine XS.iconst X311.here hx rfl (hb hby at_221) ?_
            refine XS.goto X311.here hx rfl (pc0 := 222) (pc' := 226) rfl (hb hby at_222) (by decide) (by decide) ?_
            show Steps p.tables e below (T311.setTop (mkF m 226 #[vJ q0, .second, vJ q1, .second, vJ q2, .second, vI p3, vR b1, vR bb7, vI 1, vI 0, vI v295] [(.int 1)])) _
            refine XS.istore X311.here hx rfl (hb hby at_226) rfl (l' := #[vJ q0, .second, vJ q1, .second, vJ q2, .second, vI p3, vR b1, vR bb7, vI 1, vI 0, vI v295]) rfl ?_
            refine XS.iload X311.here hx rfl (hb hby at_228) rfl ?_
            exact k)
          obtain ⟨fs, hr, hrun, hended, hW, hsame⟩ := X311.leave (v := some (.int 1)) (fun h => by rw [Bd.returns] at h; cases h) hlk
          refine ⟨_, _, kz _ (ks315 _ ?_), hrun, hended, _, _, rfl, ?_, ⟨_, rfl⟩, hW, hsame.mono (by decide) (by decide)⟩
          · exact retN X311 hx (t := .boolean) Bd.returns (by simp) (hb hby at_230) hr
          · show Q0 Z q0 q1 q2 p3 u1 cl1 h0 n0 _ T311.heap _
            rw [eq311]
            exact ⟨rfl, N311⟩
      · skip
        have ks316 : own_R p e below (A0) (T273.setTop (mkF m 140 #[vJ q0, .second, vJ q1, .second, vJ q2, .second, vI p3, vR b1, vR bb7, vI 1, vI v23, vI v29] [(.long q2), (.ref b1)])) := fun t k => ks277 t (by
          refine XS.ifNo X273.here hx rfl (hb hby at_133) rfl ((if0 _ _).trans (feq hc278).1) ?_
          refine XS.aload X273.here hx rfl (hb hby at_136) rfl rfl ?_
          refine XS.lload X273.here hx rfl (hb hby at_138) rfl ?_
          exact k)
        obtain ⟨cq317, kq317, q317a, q317b, q317c⟩ := isOf hZ eq273 f270
        obtain ⟨_, _, ⟨T317, L317, k317, n317⟩, -, X317, ⟨Lc317, hQ317, lq317, yq317, zq317⟩, st317⟩ := X273.virtualBack hx (y := (⟨"com/example/thin_feed/thinfeed/store/LongFloorMap", "remove", "(J)V"⟩ : MethodName)) (z := (⟨"com/example/thin_feed/thinfeed/store/LongFloorMap", "remove", "(J)V"⟩ : MethodName)) hown (mvT hZ (own_w hw 84 rfl)) (mvT hZ (own_w hw 85 rfl)) (notFace_of_selects (args := #[]) (mvT hZ (own_w hw 87 rfl))) (mvT hZ (own_w hw 87 rfl)) (mvT hZ (own_w hw 86 rfl)) (by decide) (backOf (W := 0) (rm12M l Z a0 hw [] b1 q2 bb7 _ T262.heap n0 Zn262 MM262) hZ (own_w hw 88 rfl) (own_w hw 2 rfl) (by decide) (by decide)) q317a q317c (g := (mkF m 140 #[vJ q0, .second, vJ q1, .second, vJ q2, .second, vI p3, vR b1, vR bb7, vI 1, vI v23, vI v29] [(.long q2), (.ref b1)])) rfl (by rw [hml]; rfl) (Steps.refl _) (argsL := [(.long q2)]) (rest := []) (lenOf pd_10 rfl) rfl (by show 2 * 0 + _ ≤ _; exact Nat.le_of_eq rfl) (hb hby at_140) (fun _ _ => ⟨rfl, eq273, (by decide : 7 + 0 ≤ _), (by decide : 522 + 0 ≤ _)⟩)
        dsimp only [Pt.U, Pt.locs, Pt.cells, Pt.slots] at X317 lq317 yq317 zq317 st317 hQ317
        subst lq317 yq317 zq317
        obtain ⟨rfl, Nq317, Zn317, Xq317, MM317⟩ := hQ317
        have N317 := Fr.app N273 Nq317
        have ks318 := own_ct ks316 st317
        have ks321 : own_R p e below (A0) (T317.setTop (mkF m 147 #[vJ q0, .second, vJ q1, .second, vJ q2, .second, vI p3, vR b1, vR bb7, vI 1, vI v23, vI v29] [(.int (lcmpW q2 q0))])) := fun t k => ks318 t (by
          refine XS.lload X317.here hx rfl (hb hby at_143) rfl ?_
          refine XS.lloadN X317.here hx rfl (hb hby at_145) rfl ?_
          refine XS.lcmp X317.here hx rfl (hb hby at_146) rfl ?_
          exact k)
        obtain ⟨v320, hv320⟩ : ∃ z : Int32, z = (if q2 = q0 then (0 : Int32) else v23) := ⟨_, rfl⟩
        have ks322 : own_R p e below (A0) (T317.setTop (mkF m 153 #[vJ q0, .second, vJ q1, .second, vJ q2, .second, vI p3, vR b1, vR bb7, vI 1, vI v320, vI v29] [])) := fun t k => ks321 t (by
          by_cases hc319 : q2 = q0
          · skip
            have qq323 : v320 = (0 : Int32) := by rw [hv320, if_pos hc319]
            rw [qq323] at k
            refine XS.ifNo X317.here hx rfl (hb hby at_147) rfl ((if0 _ _).trans (teq ((lw_eq _ _).mpr hc319)).2) ?_
            refine XS.iconst X317.here hx rfl (hb hby at_150) ?_
            refine XS.istore X317.here hx rfl (hb hby at_151) rfl (l' := #[vJ q0, .second, vJ q1, .second, vJ q2, .second, vI p3, vR b1, vR bb7, vI 1, vI 0, vI v29]) rfl ?_
            exact k
          · skip
            have qq324 : v320 = v23 := by rw [hv320, if_neg hc319]
            rw [qq324] at k
            refine XS.ifYes X317.here hx rfl (pc0 := 147) (pc' := 153) rfl (hb hby at_147) rfl ((if0 _ _).trans (feq (fun q => hc319 ((lw_eq _ _).mp q))).2) (by decide) (by decide) ?_
            exact k)
        have ks327 : own_R p e below (A0) (T317.setTop (mkF m 157 #[vJ q0, .second, vJ q1, .second, vJ q2, .second, vI p3, vR b1, vR bb7, vI 1, vI v320, vI v29] [(.int (lcmpW q2 q1))])) := fun t k => ks322 t (by
          refine XS.lload X317.here hx rfl (hb hby at_153) rfl ?_
          refine XS.lloadN X317.here hx rfl (hb hby at_155) rfl ?_
          refine XS.lcmp X317.here hx rfl (hb hby at_156) rfl ?_
          exact k)
        obtain ⟨v326, hv326⟩ : ∃ z : Int32, z = (if q2 = q1 then (0 : Int32) else v29) := ⟨_, rfl⟩
        have ks328 : own_R p e below (A0) (T317.setTop (mkF m 163 #[vJ q0, .second, vJ q1, .second, vJ q2, .second, vI p3, vR b1, vR bb7, vI 1, vI v320, vI v326] [])) := fun t k => ks327 t (by
          by_cases hc325 : q2 = q1
          · skip
            have qq329 : v326 = (0 : Int32) := by rw [hv326, if_pos hc325]
            rw [qq329] at k
            refine XS.ifNo X317.here hx rfl (hb hby at_157) rfl ((if0 _ _).trans (teq ((lw_eq _ _).mpr hc325)).2) ?_
            refine XS.iconst X317.here hx rfl (hb hby at_160) ?_
            refine XS.istore X317.here hx rfl (hb hby at_161) rfl (l' := #[vJ q0, .second, vJ q1, .second, vJ q2, .second, vI p3, vR b1, vR bb7, vI 1, vI v320, vI 0]) rfl ?_
            exact k
          · skip
            have qq330 : v326 = v29 := by rw [hv326, if_neg hc325]
            rw [qq330] at k
            refine XS.ifYes X317.here hx rfl (pc0 := 157) (pc' := 163) rfl (hb hby at_157) rfl ((if0 _ _).trans (feq (fun q => hc325 ((lw_eq _ _).mp q))).2) (by decide) (by decide) ?_
            exact k)
        have ks331 : own_R p e below (A0) (T317.setTop (mkF m 168 #[vJ q0, .second, vJ q1, .second, vJ q2, .second, vI p3, vR b1, vR bb7, vI 1, vI v320, vI v326] [(.int (p3 &&& (8 : Int32)))])) := fun t k => ks328 t (by
          refine XS.iload X317.here hx rfl (hb hby at_163) rfl ?_
          refine XS.bipush X317.here hx rfl (hb hby at_165) ?_
          refine XS.iand X317.here hx rfl (hb hby at_167) rfl ?_
          exact k)
        by_cases hc332 : (p3 &&& (8 : Int32)) = (0 : Int32)
        · skip
          have ks333 : own_R p e below (A0) (T317.setTop (mkF m 196 #[vJ q0, .second, vJ q1, .second, vJ q2, .second, vI p3, vR b1, vR bb7, vI 1, vI v320, vI v326] [(.ref b1)])) := fun t k => ks331 t (by
            refine XS.ifYes X317.here hx rfl (pc0 := 168) (pc' := 189) rfl (hb hby at_168) rfl ((if0 _ _).trans (teq hc332).1) (by decide) (by decide) ?_
            refine XS.iload X317.here hx rfl (hb hby at_189) rfl ?_
            refine XS.ifNo X317.here hx rfl (hb hby at_191) rfl ((if0 _ _).trans (feq (by decide)).1) ?_
            show Steps p.tables e below (T317.setTop (mkF m 194 #[vJ q0, .second, vJ q1, .second, vJ q2, .second, vI p3, vR b1, vR bb7, vI 1, vI v320, vI v326] [])) _
            refine XS.aload X317.here hx rfl (hb hby at_194) rfl rfl ?_
            exact k)
          obtain ⟨f335, sh335, kf335, ksh335, cc335, vf335, vs335, Ff335, Fs335, Fc335, Vf335, Vs335, hc335⟩ := own_view MM317
          have f336 := (Xq317 _ _ f270)
          obtain ⟨cq334, kq334, q334a, q334b, q334c⟩ := isOf hZ rfl f336
          obtain ⟨_, _, ⟨T334, L334, k334, n334⟩, -, X334, ⟨Lc334, hQ334, lq334, yq334, zq334⟩, st334⟩ := X317.virtualBack hx (y := (⟨"com/example/thin_feed/thinfeed/store/LongFloorMap", "bytes", "()J"⟩ : MethodName)) (z := (⟨"com/example/thin_feed/thinfeed/store/LongFloorMap", "bytes", "()J"⟩ : MethodName)) hown (mvT hZ (own_w hw 23 rfl)) (mvT hZ (own_w hw 24 rfl)) (notFace_of_selects (args := #[]) (mvT hZ (own_w hw 26 rfl))) (mvT hZ (own_w hw 26 rfl)) (mvT hZ (own_w hw 25 rfl)) (by decide) (backOf (W := 0) (rm4 l Z a0 hw [] b1 f335 sh335 kf335 ksh335 cc335 vf335 vs335 T317.heap n0 Zn317 Ff335 Fs335 Fc335 Vf335 Vs335) hZ (own_w hw 27 rfl) (own_w hw 2 rfl) (by decide) (by decide)) q334a q334c (g := (mkF m 196 #[vJ q0, .second, vJ q1, .second, vJ q2, .second, vI p3, vR b1, vR bb7, vI 1, vI v320, vI v326] [(.ref b1)])) rfl (by rw [hml]; rfl) (Steps.refl _) (argsL := []) (rest := []) (lenOf pd_2 rfl) rfl (by show 2 * 0 + _ ≤ _; exact Nat.le_of_eq rfl) (hb hby at_196) (fun _ _ => ⟨rfl, rfl, (by decide : 7 + 0 ≤ _), (by decide : 522 + 0 ≤ _)⟩)
          dsimp only [Pt.U, Pt.locs, Pt.cells, Pt.slots] at X334 lq334 yq334 zq334 st334 hQ334
          subst lq334 yq334 zq334
          obtain ⟨rfl, Nq334, eq334⟩ := hQ334
          have N334 := Fr.app N317 Nq334
          have ks337 := own_ct ks333 st334
          have ks341 : own_R p e below (A0) (T334.setTop (mkF m 201 #[vJ q0, .second, vJ q1, .second, vJ q2, .second, vI p3, vR b1, vR bb7, vI 1, vI v320, vI v326] [(.int v320), (.long (own_by cc335))])) := fun t k => ks337 t (by
            refine XS.iload X334.here hx rfl (hb hby at_199) rfl ?_
            exact k)
          obtain ⟨v340, hv340⟩ : ∃ z : Int32, z = (if v320 = (0 : Int32) then (if v326 = (0 : Int32) then (0 : Int32) else (1 : Int32)) else (1 : Int32)) := ⟨_, rfl⟩
          have ks342 : own_R p e below (A0) (T334.setTop (mkF m 214 #[vJ q0, .second, vJ q1, .second, vJ q2, .second, vI p3, vR b1, vR bb7, vI 1, vI v320, vI v326] [(.int v340), (.long (own_by cc335))])) := fun t k => ks341 t (by
            by_cases hc338 : v320 = (0 : Int32)
            · skip
              refine XS.ifNo X334.here hx rfl (hb hby at_201) rfl ((if0 _ _).trans (teq hc338).2) ?_
              refine XS.iload X334.here hx rfl (hb hby at_204) rfl ?_
              by_cases hc339 : v326 = (0 : Int32)
              · skip
                have qq343 : v340 = (0 : Int32) := by rw [hv340, if_pos hc338, if_pos hc339]
                rw [qq343] at k
                refine XS.ifYes X334.here hx rfl (pc0 := 206) (pc' := 213) rfl (hb hby at_206) rfl ((if0 _ _).trans (teq hc339).1) (by decide) (by decide) ?_
                show Steps p.tables e below (T334.setTop (mkF m 213 #[vJ q0, .second, vJ q1, .second, vJ q2, .second, vI p3, vR b1, vR bb7, vI 1, vI v320, vI v326] [(.long (own_by cc335))])) _
                refine XS.iconst X334.here hx rfl (hb hby at_213) ?_
                exact k
              · skip
                have qq344 : v340 = (1 : Int32) := by rw [hv340, if_pos hc338, if_neg hc339]
                rw [qq344] at k
                refine XS.ifNo X334.here hx rfl (hb hby at_206) rfl ((if0 _ _).trans (feq hc339).1) ?_
                show Steps p.tables e below (T334.setTop (mkF m 209 #[vJ q0, .second, vJ q1, .second, vJ q2, .second, vI p3, vR b1, vR bb7, vI 1, vI v320, vI v326] [(.long (own_by cc335))])) _
                refine XS.iconst X334.here hx rfl (hb hby at_209) ?_
                refine XS.goto X334.here hx rfl (pc0 := 210) (pc' := 214) rfl (hb hby at_210) (by decide) (by decide) ?_
                exact k
            · skip
              have qq345 : v340 = (1 : Int32) := by rw [hv340, if_neg hc338]
              rw [qq345] at k
              refine XS.ifYes X334.here hx rfl (pc0 := 201) (pc' := 209) rfl (hb hby at_201) rfl ((if0 _ _).trans (feq hc338).2) (by decide) (by decide) ?_
              refine XS.iconst X334.here hx rfl (hb hby at_209) ?_
              refine XS.goto X334.here hx rfl (pc0 := 210) (pc' := 214) rfl (hb hby at_210) (by decide) (by decide) ?_
              exact k)
          obtain ⟨_, _, ⟨T346, L346, k346, n346⟩, -, X346, ⟨Lc346, hQ346, lq346, yq346, zq346⟩, st346⟩ := Jvm.LawKit.callS X334 hx (y := (⟨"com/example/thin_feed/thinfeed/store/LongFloorMapBytesPinLaw", "expected", "(Z)J"⟩ : MethodName)) hown (mvT hZ (own_w hw 38 rfl)) (mvT hZ (own_w hw 39 rfl)) (mvT hZ (own_w hw 40 rfl)) (mvT hZ (own_w hw 41 rfl)) (by decide) (backOf (W := 2) (rm6 l Z a0 hw [] v340 T317.heap n0 Zn317 ) hZ (own_w hw 41 rfl) (own_w hw 40 rfl) (by decide) (by decide)) (g := (mkF m 214 #[vJ q0, .second, vJ q1, .second, vJ q2, .second, vI p3, vR b1, vR bb7, vI 1, vI v320, vI v326] [(.int v340), (.long (own_by cc335))])) rfl (by rw [hml]; rfl) (argsL := [(.int v340)]) (rest := [(.long (own_by cc335))]) (lenOf pd_4 rfl) rfl (by show 2 * 0 + _ ≤ _; exact Nat.le_of_eq rfl) (hb hby at_214) (fun _ _ => ⟨rfl, eq334, (by decide : 7 + 0 ≤ _), (by decide : 522 + 0 ≤ _)⟩)
          dsimp only [Pt.U, Pt.locs, Pt.cells, Pt.slots] at X346 lq346 yq346 zq346 st346 hQ346
          subst lq346 yq346 zq346
          obtain ⟨rfl, Nq346, eq346⟩ := hQ346
          have N346 := Fr.app N334 Nq346
          have ks347 := own_c ks342 st346
          have ks348 : own_R p e below (A0) (T346.setTop (mkF m 218 #[vJ q0, .second, vJ q1, .second, vJ q2, .second, vI p3, vR b1, vR bb7, vI 1, vI v320, vI v326] [(.int (lcmpW (own_by cc335) (own_exp v340)))])) := fun t k => ks347 t (by
            refine XS.lcmp X346.here hx rfl (hb hby at_217) rfl ?_
            exact k)
          have hB349 : own_by cc335 = (own_exp v340) := own_fin hc335 (own_leaf_14 q0 q1 q2 p3 v23 v29 v320 v326 v340 hv23 hv29 hv320 hv326 hv340 hc35 hc266 hc278 hc332).1 (own_leaf_14 q0 q1 q2 p3 v23 v29 v320 v326 v340 hv23 hv29 hv320 hv326 hv340 hc35 hc266 hc278 hc332).2
          have ks350 : own_R p e below (A0) (T346.setTop (mkF m 230 #[vJ q0, .second, vJ q1, .second, vJ q2, .second, vI p3, vR b1, vR bb7, vI 1, vI v320, vI v326] [(.int 1)])) := fun t k => ks348 t (by
            refine XS.ifNo X346.here hx rfl (hb hby at_218) rfl ((if0 _ _).trans (teq ((lw_eq _ _).mpr hB349)).2) ?_
            refine XS.iconst X346.here hx rfl (hb hby at_221) ?_
            refine XS.goto X346.here hx rfl (pc0 := 222) (pc' := 226) rfl (hb hby at_222) (by decide) (by decide) ?_
            show Steps p.tables e below (T346.setTop (mkF m 226 #[vJ q0, .second, vJ q1, .second, vJ q2, .second, vI p3, vR b1, vR bb7, vI 1, vI v320, vI v326] [(.int 1)])) _
            refine XS.istore X346.here hx rfl (hb hby at_226) rfl (l' := #[vJ q0, .second, vJ q1, .second, vJ q2, .second, vI p3, vR b1, vR bb7, vI 1, vI v320, vI v326]) rfl ?_
            refine XS.iload X346.here hx rfl (hb hby at_228) rfl ?_
            exact k)
          obtain ⟨fs, hr, hrun, hended, hW, hsame⟩ := X346.leave (v := some (.int 1)) (fun h => by rw [Bd.returns] at h; cases h) hlk
          refine ⟨_, _, kz _ (ks350 _ ?_), hrun, hended, _, _, rfl, ?_, ⟨_, rfl⟩, hW, hsame.mono (by decide) (by decide)⟩
          · exact retN X346 hx (t := .boolean) Bd.returns (by simp) (hb hby at_230) hr
          · show Q0 Z q0 q1 q2 p3 u1 cl1 h0 n0 _ T346.heap _
            rw [eq346]
            exact ⟨rfl, N346⟩
        · skip
          have ks351 : own_R p e below (A0) (T317.setTop (mkF m 174 #[vJ q0, .second, vJ q1, .second, vJ q2, .second, vI p3, vR b1, vR bb7, vI 1, vI v320, vI v326] [(.long q0), (.ref b1)])) := fun t k => ks331 t (by
            refine XS.ifNo X317.here hx rfl (hb hby at_168) rfl ((if0 _ _).trans (feq hc332).1) ?_
            refine XS.aload X317.here hx rfl (hb hby at_171) rfl rfl ?_
            refine XS.lloadN X317.here hx rfl (hb hby at_173) rfl ?_
            exact k)
          have f353 := (Xq317 _ _ f270)
          obtain ⟨cq352, kq352, q352a, q352b, q352c⟩ := isOf hZ rfl f353
          obtain ⟨_, _, ⟨T352, L352, k352, n352⟩, -, X352, ⟨Lc352, hQ352, lq352, yq352, zq352⟩, st352⟩ := X317.virtualBack hx (y := (⟨"com/example/thin_feed/thinfeed/store/LongFloorMap", "remove", "(J)V"⟩ : MethodName)) (z := (⟨"com/example/thin_feed/thinfeed/store/LongFloorMap", "remove", "(J)V"⟩ : MethodName)) hown (mvT hZ (own_w hw 84 rfl)) (mvT hZ (own_w hw 85 rfl)) (notFace_of_selects (args := #[]) (mvT hZ (own_w hw 87 rfl))) (mvT hZ (own_w hw 87 rfl)) (mvT hZ (own_w hw 86 rfl)) (by decide) (backOf (W := 0) (rm12M l Z a0 hw [] b1 q0 bb7 _ T317.heap n0 Zn317 MM317) hZ (own_w hw 88 rfl) (own_w hw 2 rfl) (by decide) (by decide)) q352a q352c (g := (mkF m 174 #[vJ q0, .second, vJ q1, .second, vJ q2, .second, vI p3, vR b1, vR bb7, vI 1, vI v320, vI v326] [(.long q0), (.ref b1)])) rfl (by rw [hml]; rfl) (Steps.refl _) (argsL := [(.long q0)]) (rest := []) (lenOf pd_10 rfl) rfl (by show 2 * 0 + _ ≤ _; exact Nat.le_of_eq rfl) (hb hby at_174) (fun _ _ => ⟨rfl, rfl, (by decide : 7 + 0 ≤ _), (by decide : 522 + 0 ≤ _)⟩)
          dsimp only [Pt.U, Pt.locs, Pt.cells, Pt.slots] at X352 lq352 yq352 zq352 st352 hQ352
          subst lq352 yq352 zq352
          obtain ⟨rfl, Nq352, Zn352, Xq352, MM352⟩ := hQ352
          have N352 := Fr.app N317 Nq352
          have ks354 := own_ct ks351 st352
          have ks357 : own_R p e below (A0) (T352.setTop (mkF m 183 #[vJ q0, .second, vJ q1, .second, vJ q2, .second, vI p3, vR b1, vR bb7, vI 1, vI 0, vI v326] [(.int (lcmpW q1 q0))])) := fun t k => ks354 t (by
            refine XS.iconst X352.here hx rfl (hb hby at_177) ?_
            refine XS.istore X352.here hx rfl (hb hby at_178) rfl (l' := #[vJ q0, .second, vJ q1, .second, vJ q2, .second, vI p3, vR b1, vR bb7, vI 1, vI 0, vI v326]) rfl ?_
            refine XS.lloadN X352.here hx rfl (hb hby at_180) rfl ?_
            show Steps p.tables e below (T352.setTop (mkF m 181 #[vJ q0, .second, vJ q1, .second, vJ q2, .second, vI p3, vR b1, vR bb7, vI 1, vI 0, vI v326] [(.long q1)])) _
            refine XS.lloadN X352.here hx rfl (hb hby at_181) rfl ?_
            refine XS.lcmp X352.here hx rfl (hb hby at_182) rfl ?_
            exact k)
          obtain ⟨v356, hv356⟩ : ∃ z : Int32, z = (if q1 = q0 then (0 : Int32) else v326) := ⟨_, rfl⟩
          have ks358 : own_R p e below (A0) (T352.setTop (mkF m 189 #[vJ q0, .second, vJ q1, .second, vJ q2, .second, vI p3, vR b1, vR bb7, vI 1, vI 0, vI v356] [])) := fun t k => ks357 t (by
            by_cases hc355 : q1 = q0
            · skip
              have qq359 : v356 = (0 : Int32) := by rw [hv356, if_pos hc355]
              rw [qq359] at k
              refine XS.ifNo X352.here hx rfl (hb hby at_183) rfl ((if0 _ _).trans (teq ((lw_eq _ _).mpr hc355)).2) ?_
              refine XS.iconst X352.here hx rfl (hb hby at_186) ?_
              refine XS.istore X352.here hx rfl (hb hby at_187) rfl (l' := #[vJ q0, .second, vJ q1, .second, vJ q2, .second, vI p3, vR b1, vR bb7, vI 1, vI 0, vI 0]) rfl ?_
              exact k
            · skip
              have qq360 : v356 = v326 := by rw [hv356, if_neg hc355]
              rw [qq360] at k
              refine XS.ifYes X352.here hx rfl (pc0 := 183) (pc' := 189) rfl (hb hby at_183) rfl ((if0 _ _).trans (feq (fun q => hc355 ((lw_eq _ _).mp q))).2) (by decide) (by decide) ?_
              exact k)
          have ks361 : own_R p e below (A0) (T352.setTop (mkF m 196 #[vJ q0, .second, vJ q1, .second, vJ q2, .second, vI p3, vR b1, vR bb7, vI 1, vI 0, vI v356] [(.ref b1)])) := fun t k => ks358 t (by
            refine XS.iload X352.here hx rfl (hb hby at_189) rfl ?_
            refine XS.ifNo X352.here hx rfl (hb hby at_191) rfl ((if0 _ _).trans (feq (by decide)).1) ?_
            refine XS.aload X352.here hx rfl (hb hby at_194) rfl rfl ?_
            exact k)
          obtain ⟨f363, sh363, kf363, ksh363, cc363, vf363, vs363, Ff363, Fs363, Fc363, Vf363, Vs363, hc363⟩ := own_view MM352
          have f364 := (Xq352 _ _ f353)
          obtain ⟨cq362, kq362, q362a, q362b, q362c⟩ := isOf hZ rfl f364
          obtain ⟨_, _, ⟨T362, L362, k362, n362⟩, -, X362, ⟨Lc362, hQ362, lq362, yq362, zq362⟩, st362⟩ := X352.virtualBack hx (y := (⟨"com/example/thin_feed/thinfeed/store/LongFloorMap", "bytes", "()J"⟩ : MethodName)) (z := (⟨"com/example/thin_feed/thinfeed/store/LongFloorMap", "bytes", "()J"⟩ : MethodName)) hown (mvT hZ (own_w hw 23 rfl)) (mvT hZ (own_w hw 24 rfl)) (notFace_of_selects (args := #[]) (mvT hZ (own_w hw 26 rfl))) (mvT hZ (own_w hw 26 rfl)) (mvT hZ (own_w hw 25 rfl)) (by decide) (backOf (W := 0) (rm4 l Z a0 hw [] b1 f363 sh363 kf363 ksh363 cc363 vf363 vs363 T352.heap n0 Zn352 Ff363 Fs363 Fc363 Vf363 Vs363) hZ (own_w hw 27 rfl) (own_w hw 2 rfl) (by decide) (by decide)) q362a q362c (g := (mkF m 196 #[vJ q0, .second, vJ q1, .second, vJ q2, .second, vI p3, vR b1, vR bb7, vI 1, vI 0, vI v356] [(.ref b1)])) rfl (by rw [hml]; rfl) (Steps.refl _) (argsL := []) (rest := []) (lenOf pd_2 rfl) rfl (by show 2 * 0 + _ ≤ _; exact Nat.le_of_eq rfl) (hb hby at_196) (fun _ _ => ⟨rfl, rfl, (by decide : 7 + 0 ≤ _), (by decide : 522 + 0 ≤ _)⟩)
          dsimp only [Pt.U, Pt.locs, Pt.cells, Pt.slots] at X362 lq362 yq362 zq362 st362 hQ362
          subst lq362 yq362 zq362
          obtain ⟨rfl, Nq362, eq362⟩ := hQ362
          have N362 := Fr.app N352 Nq362
          have ks365 := own_ct ks361 st362
          have ks368 : own_R p e below (A0) (T362.setTop (mkF m 206 #[vJ q0, .second, vJ q1, .second, vJ q2, .second, vI p3, vR b1, vR bb7, vI 1, vI 0, vI v356] [(.int v356), (.long (own_by cc363))])) := fun t k => ks365 t (by
            refine XS.iload X362.here hx rfl (hb hby at_199) rfl ?_
            refine XS.ifNo X362.here hx rfl (hb hby at_201) rfl ((if0 _ _).trans (teq (by decide)).2) ?_
            refine XS.iload X362.here hx rfl (hb hby at_204) rfl ?_
            exact k)
          obtain ⟨v367, hv367⟩ : ∃ z : Int32, z = (if v356 = (0 : Int32) then (0 : Int32) else (1 : Int32)) := ⟨_, rfl⟩
          have ks369 : own_R p e below (A0) (T362.setTop (mkF m 214 #[vJ q0, .second, vJ q1, .second, vJ q2, .second, vI p3, vR b1, vR bb7, vI 1, vI 0, vI v356] [(.int v367), (.long (own_by cc363))])) := fun t k => ks368 t (by
            by_cases hc366 : v356 = (0 : Int32)
            · skip
              have qq370 : v367 = (0 : Int32) := by rw [hv367, if_pos hc366]
              rw [qq370] at k
              refine XS.ifYes X362.here hx rfl (pc0 := 206) (pc' := 213) rfl (hb hby at_206) rfl ((if0 _ _).trans (teq hc366).1) (by decide) (by decide) ?_
              refine XS.iconst X362.here hx rfl (hb hby at_213) ?_
              exact k
            · skip
              have qq371 : v367 = (1 : Int32) := by rw [hv367, if_neg hc366]
              rw [qq371] at k
              refine XS.ifNo X362.here hx rfl (hb hby at_206) rfl ((if0 _ _).trans (feq hc366).1) ?_
              refine XS.iconst X362.here hx rfl (hb hby at_209) ?_
              refine XS.goto X362.here hx rfl (pc0 := 210) (pc' := 214) rfl (hb hby at_210) (by decide) (by decide) ?_
              exact k)
          obtain ⟨_, _, ⟨T372, L372, k372, n372⟩, -, X372, ⟨Lc372, hQ372, lq372, yq372, zq372⟩, st372⟩ := Jvm.LawKit.callS X362 hx (y := (⟨"com/example/thin_feed/thinfeed/store/LongFloorMapBytesPinLaw", "expected", "(Z)J"⟩ : MethodName)) hown (mvT hZ (own_w hw 38 rfl)) (mvT hZ (own_w hw 39 rfl)) (mvT hZ (own_w hw 40 rfl)) (mvT hZ (own_w hw 41 rfl)) (by decide) (backOf (W := 2) (rm6 l Z a0 hw [] v367 T352.heap n0 Zn352 ) hZ (own_w hw 41 rfl) (own_w hw 40 rfl) (by decide) (by decide)) (g := (mkF m 214 #[vJ q0, .second, vJ q1, .second, vJ q2, .second, vI p3, vR b1, vR bb7, vI 1, vI 0, vI v356] [(.int v367), (.long (own_by cc363))])) rfl (by rw [hml]; rfl) (argsL := [(.int v367)]) (rest := [(.long (own_by cc363))]) (lenOf pd_4 rfl) rfl (by show 2 * 0 + _ ≤ _; exact Nat.le_of_eq rfl) (hb hby at_214) (fun _ _ => ⟨rfl, eq362, (by decide : 7 + 0 ≤ _), (by decide : 522 + 0 ≤ _)⟩)
          dsimp only [Pt.U, Pt.locs, Pt.cells, Pt.slots] at X372 lq372 yq372 zq372 st372 hQ372
          subst lq372 yq372 zq372
          obtain ⟨rfl, Nq372, eq372⟩ := hQ372
          have N372 := Fr.app N362 Nq372
          have ks373 := own_c ks369 st372
          have ks374 : own_R p e below (A0) (T372.setTop (mkF m 218 #[vJ q0, .second, vJ q1, .second, vJ q2, .second, vI p3, vR b1, vR bb7, vI 1, vI 0, vI v356] [(.int (lcmpW (own_by cc363) (own_exp v367)))])) := fun t k => ks373 t (by
            refine XS.lcmp X372.here hx rfl (hb hby at_217) rfl ?_
            exact k)
          have hB375 : own_by cc363 = (own_exp v367) := own_fin hc363 (own_leaf_15 q0 q1 q2 p3 v23 v29 v320 v326 v356 v367 hv23 hv29 hv320 hv326 hv356 hv367 hc35 hc266 hc278 hc332).1 (own_leaf_15 q0 q1 q2 p3 v23 v29 v320 v326 v356 v367 hv23 hv29 hv320 hv326 hv356 hv367 hc35 hc266 hc278 hc332).2
          have ks376 : own_R p e below (A0) (T372.setTop (mkF m 230 #[vJ q0, .second, vJ q1, .second, vJ q2, .second, vI p3, vR b1, vR bb7, vI 1, vI 0, vI v356] [(.int 1)])) := fun t k => ks374 t (by
            refine XS.ifNo X372.here hx rfl (hb hby at_218) rfl ((if0 _ _).trans (teq ((lw_eq _ _).mpr hB375)).2) ?_
            refine XS.iconst X372.here hx rfl (hb hby at_221) ?_
            refine XS.goto X372.here hx rfl (pc0 := 222) (pc' := 226) rfl (hb hby at_222) (by decide) (by decide) ?_
            show Steps p.tables e below (T372.setTop (mkF m 226 #[vJ q0, .second, vJ q1, .second, vJ q2, .second, vI p3, vR b1, vR bb7, vI 1, vI 0, vI v356] [(.int 1)])) _
            refine XS.istore X372.here hx rfl (hb hby at_226) rfl (l' := #[vJ q0, .second, vJ q1, .second, vJ q2, .second, vI p3, vR b1, vR bb7, vI 1, vI 0, vI v356]) rfl ?_
            refine XS.iload X372.here hx rfl (hb hby at_228) rfl ?_
            exact k)
          obtain ⟨fs, hr, hrun, hended, hW, hsame⟩ := X372.leave (v := some (.int 1)) (fun h => by rw [Bd.returns] at h; cases h) hlk
          refine ⟨_, _, kz _ (ks376 _ ?_), hrun, hended, _, _, rfl, ?_, ⟨_, rfl⟩, hW, hsame.mono (by decide) (by decide)⟩
          · exact retN X372 hx (t := .boolean) Bd.returns (by simp) (hb hby at_230) hr
          · show Q0 Z q0 q1 q2 p3 u1 cl1 h0 n0 _ T372.heap _
            rw [eq372]
            exact ⟨rfl, N372⟩
    · skip
      have ks377 : own_R p e below (A0) (T262.setTop (mkF m 87 #[vJ q0, .second, vJ q1, .second, vJ q2, .second, vI p3, vR b1, vR bb7, vI 1, vI v23, vI v29] [(.ref bb7), (.long q1), (.ref b1)])) := fun t k => ks265 t (by
        refine XS.ifNo X262.here hx rfl (hb hby at_79) rfl ((if0 _ _).trans (feq hc266).1) ?_
        refine XS.aload X262.here hx rfl (hb hby at_82) rfl rfl ?_
        refine XS.lloadN X262.here hx rfl (hb hby at_84) rfl ?_
        show Steps p.tables e below (T262.setTop (mkF m 85 #[vJ q0, .second, vJ q1, .second, vJ q2, .second, vI p3, vR b1, vR bb7, vI 1, vI v23, vI v29] [(.long q1), (.ref b1)])) _
        refine XS.aload X262.here hx rfl (hb hby at_85) rfl rfl ?_
        exact k)
      obtain ⟨f_379, sh_379, ob_379, ka_379, va_379, kf_379, ksh_379, kka_379, kva_379, sz_379, z_379, E0_379, Ff_379, Fsh_379, Fc_379, Fz_379, Vf_379, Vs_379, Os_379, Eo_379, Fk_379, Fv_379, Fn_379, Vk_379, Vv_379, Ov_379, Ey_379, g_r0_379, g_f_379, g_sh_379, g_ob_379, g_ka_379, g_va_379, ne_r0_f_379, ne_r0_sh_379, ne_r0_ob_379, ne_r0_ka_379, ne_r0_va_379, ne_f_sh_379, ne_f_ob_379, ne_f_ka_379, ne_f_va_379, ne_sh_ob_379, ne_sh_ka_379, ne_sh_va_379, ne_ob_ka_379, ne_ob_va_379, ne_ka_va_379⟩ := FF262
      have f380 := (Xq262 _ _ f15)
      obtain ⟨cq378, kq378, q378a, q378b, q378c⟩ := isOf hZ rfl f380
      obtain ⟨_, _, ⟨T378, L378, k378, n378⟩, -, X378, ⟨Lc378, hQ378, lq378, yq378, zq378⟩, st378⟩ := X262.virtualBack hx (y := (⟨"com/example/thin_feed/thinfeed/store/LongFloorMap", "put", "(JLjava/lang/Object;)V"⟩ : MethodName)) (z := (⟨"com/example/thin_feed/thinfeed/store/LongFloorMap", "put", "(JLjava/lang/Object;)V"⟩ : MethodName)) hown (mvT hZ (own_w hw 44 rfl)) (mvT hZ (own_w hw 45 rfl)) (notFace_of_selects (args := #[]) (mvT hZ (own_w hw 47 rfl))) (mvT hZ (own_w hw 47 rfl)) (mvT hZ (own_w hw 46 rfl)) (by decide) (backOf (W := 0) (rm7F l Z a0 hw [] b1 q1 bb7 f_379 sh_379 ob_379 ka_379 va_379 kf_379 ksh_379 kka_379 kva_379 sz_379 z_379 q0 _ T262.heap n0 Zn262 E0_379 Ff_379 Fsh_379 Fc_379 Fz_379 Vf_379 Vs_379 Os_379 Eo_379 Fk_379 Fv_379 Fn_379 Vk_379 Vv_379 Ov_379 Ey_379 g_r0_379 g_f_379 g_sh_379 g_ob_379 g_ka_379 g_va_379 ne_r0_f_379 ne_r0_sh_379 ne_r0_ob_379 ne_r0_ka_379 ne_r0_va_379 ne_f_sh_379 ne_f_ob_379 ne_f_ka_379 ne_f_va_379 ne_sh_ob_379 ne_sh_ka_379 ne_sh_va_379 ne_ob_ka_379 ne_ob_va_379 ne_ka_va_379) hZ (own_w hw 48 rfl) (own_w hw 2 rfl) (by decide) (by decide)) q378a q378c (g := (mkF m 87 #[vJ q0, .second, vJ q1, .second, vJ q2, .second, vI p3, vR b1, vR bb7, vI 1, vI v23, vI v29] [(.ref bb7), (.long q1), (.ref b1)])) rfl (by rw [hml]; rfl) (Steps.refl _) (argsL := [(.long q1), (.ref bb7)]) (rest := []) (lenOf pd_5 rfl) rfl (by show 2 * 0 + _ ≤ _; exact Nat.le_of_eq rfl) (hb hby at_87) (fun _ _ => ⟨rfl, rfl, (by decide : 7 + 0 ≤ _), (by decide : 522 + 0 ≤ _)⟩)
      dsimp only [Pt.U, Pt.locs, Pt.cells, Pt.slots] at X378 lq378 yq378 zq378 st378 hQ378
      subst lq378 yq378 zq378
      obtain ⟨rfl, Nq378, Zn378, Xq378, MM378⟩ := hQ378
      have N378 := Fr.app N262 Nq378
      have ks381 := own_ct ks377 st378
      have ks382 : own_R p e below (A0) (T378.setTop (mkF m 97 #[vJ q0, .second, vJ q1, .second, vJ q2, .second, vI p3, vR b1, vR bb7, vI 1, vI v23, vI v29] [(.ref b1)])) := fun t k => ks381 t (by
        refine XS.iload X378.here hx rfl (hb hby at_90) rfl ?_
        refine XS.ifNo X378.here hx rfl (hb hby at_92) rfl ((if0 _ _).trans (feq (by decide)).1) ?_
        refine XS.aload X378.here hx rfl (hb hby at_95) rfl rfl ?_
        exact k)
      obtain ⟨f384, sh384, kf384, ksh384, cc384, vf384, vs384, Ff384, Fs384, Fc384, Vf384, Vs384, hc384⟩ := own_view MM378
      have f385 := (Xq378 _ _ f380)
      obtain ⟨cq383, kq383, q383a, q383b, q383c⟩ := isOf hZ rfl f385
      obtain ⟨_, _, ⟨T383, L383, k383, n383⟩, -, X383, ⟨Lc383, hQ383, lq383, yq383, zq383⟩, st383⟩ := X378.virtualBack hx (y := (⟨"com/example/thin_feed/thinfeed/store/LongFloorMap", "bytes", "()J"⟩ : MethodName)) (z := (⟨"com/example/thin_feed/thinfeed/store/LongFloorMap", "bytes", "()J"⟩ : MethodName)) hown (mvT hZ (own_w hw 23 rfl)) (mvT hZ (own_w hw 24 rfl)) (notFace_of_selects (args := #[]) (mvT hZ (own_w hw 26 rfl))) (mvT hZ (own_w hw 26 rfl)) (mvT hZ (own_w hw 25 rfl)) (by decide) (backOf (W := 0) (rm4 l Z a0 hw [] b1 f384 sh384 kf384 ksh384 cc384 vf384 vs384 T378.heap n0 Zn378 Ff384 Fs384 Fc384 Vf384 Vs384) hZ (own_w hw 27 rfl) (own_w hw 2 rfl) (by decide) (by decide)) q383a q383c (g := (mkF m 97 #[vJ q0, .second, vJ q1, .second, vJ q2, .second, vI p3, vR b1, vR bb7, vI 1, vI v23, vI v29] [(.ref b1)])) rfl (by rw [hml]; rfl) (Steps.refl _) (argsL := []) (rest := []) (lenOf pd_2 rfl) rfl (by show 2 * 0 + _ ≤ _; exact Nat.le_of_eq rfl) (hb hby at_97) (fun _ _ => ⟨rfl, rfl, (by decide : 7 + 0 ≤ _), (by decide : 522 + 0 ≤ _)⟩)
      dsimp only [Pt.U, Pt.locs, Pt.cells, Pt.slots] at X383 lq383 yq383 zq383 st383 hQ383
      subst lq383 yq383 zq383
      obtain ⟨rfl, Nq383, eq383⟩ := hQ383
      have N383 := Fr.app N378 Nq383
      have ks386 := own_ct ks382 st383
      have ks387 : own_R p e below (A0) (T383.setTop (mkF m 115 #[vJ q0, .second, vJ q1, .second, vJ q2, .second, vI p3, vR b1, vR bb7, vI 1, vI v23, vI v29] [(.int 1), (.long (own_by cc384))])) := fun t k => ks386 t (by
        refine XS.iload X383.here hx rfl (hb hby at_100) rfl ?_
        refine XS.ifYes X383.here hx rfl (pc0 := 102) (pc' := 110) rfl (hb hby at_102) rfl ((if0 _ _).trans (feq hc35).2) (by decide) (by decide) ?_
        refine XS.iconst X383.here hx rfl (hb hby at_110) ?_
        show Steps p.tables e below (T383.setTop (mkF m 111 #[vJ q0, .second, vJ q1, .second, vJ q2, .second, vI p3, vR b1, vR bb7, vI 1, vI v23, vI v29] [(.int 1), (.long (own_by cc384))])) _
        refine XS.goto X383.here hx rfl (pc0 := 111) (pc' := 115) rfl (hb hby at_111) (by decide) (by decide) ?_
        exact k)
      obtain ⟨_, _, ⟨T388, L388, k388, n388⟩, -, X388, ⟨Lc388, hQ388, lq388, yq388, zq388⟩, st388⟩ := Jvm.LawKit.callS X383 hx (y := (⟨"com/example/thin_feed/thinfeed/store/LongFloorMapBytesPinLaw", "expected", "(Z)J"⟩ : MethodName)) hown (mvT hZ (own_w hw 38 rfl)) (mvT hZ (own_w hw 39 rfl)) (mvT hZ (own_w hw 40 rfl)) (mvT hZ (own_w hw 41 rfl)) (by decide) (backOf (W := 2) (rm6 l Z a0 hw [] (1 : Int32) T378.heap n0 Zn378 ) hZ (own_w hw 41 rfl) (own_w hw 40 rfl) (by decide) (by decide)) (g := (mkF m 115 #[vJ q0, .second, vJ q1, .second, vJ q2, .second, vI p3, vR b1, vR bb7, vI 1, vI v23, vI v29] [(.int 1), (.long (own_by cc384))])) rfl (by rw [hml]; rfl) (argsL := [(.int 1)]) (rest := [(.long (own_by cc384))]) (lenOf pd_4 rfl) rfl (by show 2 * 0 + _ ≤ _; exact Nat.le_of_eq rfl) (hb hby at_115) (fun _ _ => ⟨rfl, eq383, (by decide : 7 + 0 ≤ _), (by decide : 522 + 0 ≤ _)⟩)
      dsimp only [Pt.U, Pt.locs, Pt.cells, Pt.slots] at X388 lq388 yq388 zq388 st388 hQ388
      subst lq388 yq388 zq388
      obtain ⟨rfl, Nq388, eq388⟩ := hQ388
      have N388 := Fr.app N383 Nq388
      have ks389 := own_c ks387 st388
      have ks390 : own_R p e below (A0) (T388.setTop (mkF m 119 #[vJ q0, .second, vJ q1, .second, vJ q2, .second, vI p3, vR b1, vR bb7, vI 1, vI v23, vI v29] [(.int (lcmpW (own_by cc384) (own_exp (1 : Int32))))])) := fun t k => ks389 t (by
        refine XS.lcmp X388.here hx rfl (hb hby at_118) rfl ?_
        exact k)
      have hB391 : own_by cc384 = (own_exp (1 : Int32)) := own_fin hc384 (own_leaf_16 q0 q1 q2 p3 v23 v29 hv23 hv29 hc35 hc266).1 (own_leaf_16 q0 q1 q2 p3 v23 v29 hv23 hv29 hc35 hc266).2
      have ks392 : own_R p e below (A0) (T388.setTop (mkF m 133 #[vJ q0, .second, vJ q1, .second, vJ q2, .second, vI p3, vR b1, vR bb7, vI 1, vI v23, vI v29] [(.int (p3 &&& (4 : Int32)))])) := fun t k => ks390 t (by
        refine XS.ifNo X388.here hx rfl (hb hby at_119) rfl ((if0 _ _).trans (teq ((lw_eq _ _).mpr hB391)).2) ?_
        refine XS.iconst X388.here hx rfl (hb hby at_122) ?_
        refine XS.goto X388.here hx rfl (pc0 := 123) (pc' := 127) rfl (hb hby at_123) (by decide) (by decide) ?_
        show Steps p.tables e below (T388.setTop (mkF m 127 #[vJ q0, .second, vJ q1, .second, vJ q2, .second, vI p3, vR b1, vR bb7, vI 1, vI v23, vI v29] [(.int 1)])) _
        refine XS.istore X388.here hx rfl (hb hby at_127) rfl (l' := #[vJ q0, .second, vJ q1, .second, vJ q2, .second, vI p3, vR b1, vR bb7, vI 1, vI v23, vI v29]) rfl ?_
        refine XS.iload X388.here hx rfl (hb hby at_129) rfl ?_
        refine XS.iconst X388.here hx rfl (hb hby at_131) ?_
        refine XS.iand X388.here hx rfl (hb hby at_132) rfl ?_
        exact k)
      by_cases hc393 : (p3 &&& (4 : Int32)) = (0 : Int32)
      · skip
        have ks394 : own_R p e below (A0) (T388.setTop (mkF m 168 #[vJ q0, .second, vJ q1, .second, vJ q2, .second, vI p3, vR b1, vR bb7, vI 1, vI v23, vI v29] [(.int (p3 &&& (8 : Int32)))])) := fun t k => ks392 t (by
          refine XS.ifYes X388.here hx rfl (pc0 := 133) (pc' := 163) rfl (hb hby at_133) rfl ((if0 _ _).trans (teq hc393).1) (by decide) (by decide) ?_
          refine XS.iload X388.here hx rfl (hb hby at_163) rfl ?_
          refine XS.bipush X388.here hx rfl (hb hby at_165) ?_
          show Steps p.tables e below (T388.setTop (mkF m 167 #[vJ q0, .second, vJ q1, .second, vJ q2, .second, vI p3, vR b1, vR bb7, vI 1, vI v23, vI v29] [(.int 8), (.int p3)])) _
          refine XS.iand X388.here hx rfl (hb hby at_167) rfl ?_
          exact k)
        by_cases hc395 : (p3 &&& (8 : Int32)) = (0 : Int32)
        · skip
          have ks396 : own_R p e below (A0) (T388.setTop (mkF m 196 #[vJ q0, .second, vJ q1, .second, vJ q2, .second, vI p3, vR b1, vR bb7, vI 1, vI v23, vI v29] [(.ref b1)])) := fun t k => ks394 t (by
            refine XS.ifYes X388.here hx rfl (pc0 := 168) (pc' := 189) rfl (hb hby at_168) rfl ((if0 _ _).trans (teq hc395).1) (by decide) (by decide) ?_
            refine XS.iload X388.here hx rfl (hb hby at_189) rfl ?_
            refine XS.ifNo X388.here hx rfl (hb hby at_191) rfl ((if0 _ _).trans (feq (by decide)).1) ?_
            show Steps p.tables e below (T388.setTop (mkF m 194 #[vJ q0, .second, vJ q1, .second, vJ q2, .second, vI p3, vR b1, vR bb7, vI 1, vI v23, vI v29] [])) _
            refine XS.aload X388.here hx rfl (hb hby at_194) rfl rfl ?_
            exact k)
          obtain ⟨f398, sh398, kf398, ksh398, cc398, vf398, vs398, Ff398, Fs398, Fc398, Vf398, Vs398, hc398⟩ := own_view MM378
          obtain ⟨cq397, kq397, q397a, q397b, q397c⟩ := isOf hZ eq388 f385
          obtain ⟨_, _, ⟨T397, L397, k397, n397⟩, -, X397, ⟨Lc397, hQ397, lq397, yq397, zq397⟩, st397⟩ := X388.virtualBack hx (y := (⟨"com/example/thin_feed/thinfeed/store/LongFloorMap", "bytes", "()J"⟩ : MethodName)) (z := (⟨"com/example/thin_feed/thinfeed/store/LongFloorMap", "bytes", "()J"⟩ : MethodName)) hown (mvT hZ (own_w hw 23 rfl)) (mvT hZ (own_w hw 24 rfl)) (notFace_of_selects (args := #[]) (mvT hZ (own_w hw 26 rfl))) (mvT hZ (own_w hw 26 rfl)) (mvT hZ (own_w hw 25 rfl)) (by decide) (backOf (W := 0) (rm4 l Z a0 hw [] b1 f398 sh398 kf398 ksh398 cc398 vf398 vs398 T378.heap n0 Zn378 Ff398 Fs398 Fc398 Vf398 Vs398) hZ (own_w hw 27 rfl) (own_w hw 2 rfl) (by decide) (by decide)) q397a q397c (g := (mkF m 196 #[vJ q0, .second, vJ q1, .second, vJ q2, .second, vI p3, vR b1, vR bb7, vI 1, vI v23, vI v29] [(.ref b1)])) rfl (by rw [hml]; rfl) (Steps.refl _) (argsL := []) (rest := []) (lenOf pd_2 rfl) rfl (by show 2 * 0 + _ ≤ _; exact Nat.le_of_eq rfl) (hb hby at_196) (fun _ _ => ⟨rfl, eq388, (by decide : 7 + 0 ≤ _), (by decide : 522 + 0 ≤ _)⟩)
          dsimp only [Pt.U, Pt.locs, Pt.cells, Pt.slots] at X397 lq397 yq397 zq397 st397 hQ397
          subst lq397 yq397 zq397
          obtain ⟨rfl, Nq397, eq397⟩ := hQ397
          have N397 := Fr.app N388 Nq397
          have ks399 := own_ct ks396 st397
          have ks400 : own_R p e below (A0) (T397.setTop (mkF m 214 #[vJ q0, .second, vJ q1, .second, vJ q2, .second, vI p3, vR b1, vR bb7, vI 1, vI v23, vI v29] [(.int 1), (.long (own_by cc398))])) := fun t k => ks399 t (by
            refine XS.iload X397.here hx rfl (hb hby at_199) rfl ?_
            refine XS.ifYes X397.here hx rfl (pc0 := 201) (pc' := 209) rfl (hb hby at_201) rfl ((if0 _ _).trans (feq hc35).2) (by decide) (by decide) ?_
            refine XS.iconst X397.here hx rfl (hb hby at_209) ?_
            show Steps p.tables e below (T397.setTop (mkF m 210 #[vJ q0, .second, vJ q1, .second, vJ q2, .second, vI p3, vR b1, vR bb7, vI 1, vI v23, vI v29] [(.int 1), (.long (own_by cc398))])) _
            refine XS.goto X397.here hx rfl (pc0 := 210) (pc' := 214) rfl (hb hby at_210) (by decide) (by decide) ?_
            exact k)
          obtain ⟨_, _, ⟨T401, L401, k401, n401⟩, -, X401, ⟨Lc401, hQ401, lq401, yq401, zq401⟩, st401⟩ := Jvm.LawKit.callS X397 hx (y := (⟨"com/example/thin_feed/thinfeed/store/LongFloorMapBytesPinLaw", "expected", "(Z)J"⟩ : MethodName)) hown (mvT hZ (own_w hw 38 rfl)) (mvT hZ (own_w hw 39 rfl)) (mvT hZ (own_w hw 40 rfl)) (mvT hZ (own_w hw 41 rfl)) (by decide) (backOf (W := 2) (rm6 l Z a0 hw [] (1 : Int32) T378.heap n0 Zn378 ) hZ (own_w hw 41 rfl) (own_w hw 40 rfl) (by decide) (by decide)) (g := (mkF m 214 #[vJ q0, .second, vJ q1, .second, vJ q2, .second, vI p3, vR b1, vR bb7, vI 1, vI v23, vI v29] [(.int 1), (.long (own_by cc398))])) rfl (by rw [hml]; rfl) (argsL := [(.int 1)]) (rest := [(.long (own_by cc398))]) (lenOf pd_4 rfl) rfl (by show 2 * 0 + _ ≤ _; exact Nat.le_of_eq rfl) (hb hby at_214) (fun _ _ => ⟨rfl, eq397, (by decide : 7 + 0 ≤ _), (by decide : 522 + 0 ≤ _)⟩)
          dsimp only [Pt.U, Pt.locs, Pt.cells, Pt.slots] at X401 lq401 yq401 zq401 st401 hQ401
          subst lq401 yq401 zq401
          obtain ⟨rfl, Nq401, eq401⟩ := hQ401
          have N401 := Fr.app N397 Nq401
          have ks402 := own_c ks400 st401
          have ks403 : own_R p e below (A0) (T401.setTop (mkF m 218 #[vJ q0, .second, vJ q1, .second, vJ q2, .second, vI p3, vR b1, vR bb7, vI 1, vI v23, vI v29] [(.int (lcmpW (own_by cc398) (own_exp (1 : Int32))))])) := fun t k => ks402 t (by
            refine XS.lcmp X401.here hx rfl (hb hby at_217) rfl ?_
            exact k)
          have hB404 : own_by cc398 = (own_exp (1 : Int32)) := own_fin hc398 (own_leaf_17 q0 q1 q2 p3 v23 v29 hv23 hv29 hc35 hc266 hc393 hc395).1 (own_leaf_17 q0 q1 q2 p3 v23 v29 hv23 hv29 hc35 hc266 hc393 hc395).2
          have ks405 : own_R p e below (A0) (T401.setTop (mkF m 230 #[vJ q0, .second, vJ q1, .second, vJ q2, .second, vI p3, vR b1, vR bb7, vI 1, vI v23, vI v29] [(.int 1)])) := fun t k => ks403 t (by
            refine XS.ifNo X401.here hx rfl (hb hby at_218) rfl ((if0 _ _).trans (teq ((lw_eq _ _).mpr hB404)).2) ?_
            refine XS.iconst X401.here hx rfl (hb hby at_221) ?_
            refine XS.goto X401.here hx rfl (pc0 := 222) (pc' := 226) rfl (hb hby at_222) (by decide) (by decide) ?_
            show Steps p.tables e below (T401.setTop (mkF m 226 #[vJ q0, .second, vJ q1, .second, vJ q2, .second, vI p3, vR b1, vR bb7, vI 1, vI v23, vI v29] [(.int 1)])) _
            refine XS.istore X401.here hx rfl (hb hby at_226) rfl (l' := #[vJ q0, .second, vJ q1, .second, vJ q2, .second, vI p3, vR b1, vR bb7, vI 1, vI v23, vI v29]) rfl ?_
            refine XS.iload X401.here hx rfl (hb hby at_228) rfl ?_
            exact k)
          obtain ⟨fs, hr, hrun, hended, hW, hsame⟩ := X401.leave (v := some (.int 1)) (fun h => by rw [Bd.returns] at h; cases h) hlk
          refine ⟨_, _, kz _ (ks405 _ ?_), hrun, hended, _, _, rfl, ?_, ⟨_, rfl⟩, hW, hsame.mono (by decide) (by decide)⟩
          · exact retN X401 hx (t := .boolean) Bd.returns (by simp) (hb hby at_230) hr
          · show Q0 Z q0 q1 q2 p3 u1 cl1 h0 n0 _ T401.heap _
            rw [eq401]
            exact ⟨rfl, N401⟩
        · skip
          have ks406 : own_R p e below (A0) (T388.setTop (mkF m 174 #[vJ q0, .second, vJ q1, .second, vJ q2, .second, vI p3, vR b1, vR bb7, vI 1, vI v23, vI v29] [(.long q0), (.ref b1)])) := fun t k => ks394 t (by
            refine XS.ifNo X388.here hx rfl (hb hby at_168) rfl ((if0 _ _).trans (feq hc395).1) ?_
            refine XS.aload X388.here hx rfl (hb hby at_171) rfl rfl ?_
            refine XS.lloadN X388.here hx rfl (hb hby at_173) rfl ?_
            exact k)
          obtain ⟨cq407, kq407, q407a, q407b, q407c⟩ := isOf hZ eq388 f385
          obtain ⟨_, _, ⟨T407, L407, k407, n407⟩, -, X407, ⟨Lc407, hQ407, lq407, yq407, zq407⟩, st407⟩ := X388.virtualBack hx (y := (⟨"com/example/thin_feed/thinfeed/store/LongFloorMap", "remove", "(J)V"⟩ : MethodName)) (z := (⟨"com/example/thin_feed/thinfeed/store/LongFloorMap", "remove", "(J)V"⟩ : MethodName)) hown (mvT hZ (own_w hw 84 rfl)) (mvT hZ (own_w hw 85 rfl)) (notFace_of_selects (args := #[]) (mvT hZ (own_w hw 87 rfl))) (mvT hZ (own_w hw 87 rfl)) (mvT hZ (own_w hw 86 rfl)) (by decide) (backOf (W := 0) (rm12M l Z a0 hw [] b1 q0 bb7 _ T378.heap n0 Zn378 MM378) hZ (own_w hw 88 rfl) (own_w hw 2 rfl) (by decide) (by decide)) q407a q407c (g := (mkF m 174 #[vJ q0, .second, vJ q1, .second, vJ q2, .second, vI p3, vR b1, vR bb7, vI 1, vI v23, vI v29] [(.long q0), (.ref b1)])) rfl (by rw [hml]; rfl) (Steps.refl _) (argsL := [(.long q0)]) (rest := []) (lenOf pd_10 rfl) rfl (by show 2 * 0 + _ ≤ _; exact Nat.le_of_eq rfl) (hb hby at_174) (fun _ _ => ⟨rfl, eq388, (by decide : 7 + 0 ≤ _), (by decide : 522 + 0 ≤ _)⟩)
          dsimp only [Pt.U, Pt.locs, Pt.cells, Pt.slots] at X407 lq407 yq407 zq407 st407 hQ407
          subst lq407 yq407 zq407
          obtain ⟨rfl, Nq407, Zn407, Xq407, MM407⟩ := hQ407
          have N407 := Fr.app N388 Nq407
          have ks408 := own_ct ks406 st407
          have ks411 : own_R p e below (A0) (T407.setTop (mkF m 183 #[vJ q0, .second, vJ q1, .second, vJ q2, .second, vI p3, vR b1, vR bb7, vI 1, vI 0, vI v29] [(.int (lcmpW q1 q0))])) := fun t k => ks408 t (by
            refine XS.iconst X407.here hx rfl (hb hby at_177) ?_
            refine XS.istore X407.here hx rfl (hb hby at_178) rfl (l' := #[vJ q0, .second, vJ q1, .second, vJ q2, .second, vI p3, vR b1, vR bb7, vI 1, vI 0, vI v29]) rfl ?_
            refine XS.lloadN X407.here hx rfl (hb hby at_180) rfl ?_
            show Steps p.tables e below (T407.setTop (mkF m 181 #[vJ q0, .second, vJ q1, .second, vJ q2, .second, vI p3, vR b1, vR bb7, vI 1, vI 0, vI v29] [(.long q1)])) _
            refine XS.lloadN X407.here hx rfl (hb hby at_181) rfl ?_
            refine XS.lcmp X407.here hx rfl (hb hby at_182) rfl ?_
            exact k)
          obtain ⟨v410, hv410⟩ : ∃ z : Int32, z = (if q1 = q0 then (0 : Int32) else v29) := ⟨_, rfl⟩
          have ks412 : own_R p e below (A0) (T407.setTop (mkF m 189 #[vJ q0, .second, vJ q1, .second, vJ q2, .second, vI p3, vR b1, vR bb7, vI 1, vI 0, vI v410] [])) := fun t k => ks411 t (by
            by_cases hc409 : q1 = q0
            · skip
              have qq413 : v410 = (0 : Int32) := by rw [hv410, if_pos hc409]
              rw [qq413] at k
              refine XS.ifNo X407.here hx rfl (hb hby at_183) rfl ((if0 _ _).trans (teq ((lw_eq _ _).mpr hc409)).2) ?_
              refine XS.iconst X407.here hx rfl (hb hby at_186) ?_
              refine XS.istore X407.here hx rfl (hb hby at_187) rfl (l' := #[vJ q0, .second, vJ q1, .second, vJ q2, .second, vI p3, vR b1, vR bb7, vI 1, vI 0, vI 0]) rfl ?_
              exact k
            · skip
              have qq414 : v410 = v29 := by rw [hv410, if_neg hc409]
              rw [qq414] at k
              refine XS.ifYes X407.here hx rfl (pc0 := 183) (pc' := 189) rfl (hb hby at_183) rfl ((if0 _ _).trans (feq (fun q => hc409 ((lw_eq _ _).mp q))).2) (by decide) (by decide) ?_
              exact k)
          have ks415 : own_R p e below (A0) (T407.setTop (mkF m 196 #[vJ q0, .second, vJ q1, .second, vJ q2, .second, vI p3, vR b1, vR bb7, vI 1, vI 0, vI v410] [(.ref b1)])) := fun t k => ks412 t (by
            refine XS.iload X407.here hx rfl (hb hby at_189) rfl ?_
            refine XS.ifNo X407.here hx rfl (hb hby at_191) rfl ((if0 _ _).trans (feq (by decide)).1) ?_
            refine XS.aload X407.here hx rfl (hb hby at_194) rfl rfl ?_
            exact k)
          obtain ⟨f417, sh417, kf417, ksh417, cc417, vf417, vs417, Ff417, Fs417, Fc417, Vf417, Vs417, hc417⟩ := own_view MM407
          have f418 := (Xq407 _ _ f385)
          obtain ⟨cq416, kq416, q416a, q416b, q416c⟩ := isOf hZ rfl f418
          obtain ⟨_, _, ⟨T416, L416, k416, n416⟩, -, X416, ⟨Lc416, hQ416, lq416, yq416, zq416⟩, st416⟩ := X407.virtualBack hx (y := (⟨"com/example/thin_feed/thinfeed/store/LongFloorMap", "bytes", "()J"⟩ : MethodName)) (z := (⟨"com/example/thin_feed/thinfeed/store/LongFloorMap", "bytes", "()J"⟩ : MethodName)) hown (mvT hZ (own_w hw 23 rfl)) (mvT hZ (own_w hw 24 rfl)) (notFace_of_selects (args := #[]) (mvT hZ (own_w hw 26 rfl))) (mvT hZ (own_w hw 26 rfl)) (mvT hZ (own_w hw 25 rfl)) (by decide) (backOf (W := 0) (rm4 l Z a0 hw [] b1 f417 sh417 kf417 ksh417 cc417 vf417 vs417 T407.heap n0 Zn407 Ff417 Fs417 Fc417 Vf417 Vs417) hZ (own_w hw 27 rfl) (own_w hw 2 rfl) (by decide) (by decide)) q416a q416c (g := (mkF m 196 #[vJ q0, .second, vJ q1, .second, vJ q2, .second, vI p3, vR b1, vR bb7, vI 1, vI 0, vI v410] [(.ref b1)])) rfl (by rw [hml]; rfl) (Steps.refl _) (argsL := []) (rest := []) (lenOf pd_2 rfl) rfl (by show 2 * 0 + _ ≤ _; exact Nat.le_of_eq rfl) (hb hby at_196) (fun _ _ => ⟨rfl, rfl, (by decide : 7 + 0 ≤ _), (by decide : 522 + 0 ≤ _)⟩)
          dsimp only [Pt.U, Pt.locs, Pt.cells, Pt.slots] at X416 lq416 yq416 zq416 st416 hQ416
          subst lq416 yq416 zq416
          obtain ⟨rfl, Nq416, eq416⟩ := hQ416
          have N416 := Fr.app N407 Nq416
          have ks419 := own_ct ks415 st416
          have ks422 : own_R p e below (A0) (T416.setTop (mkF m 206 #[vJ q0, .second, vJ q1, .second, vJ q2, .second, vI p3, vR b1, vR bb7, vI 1, vI 0, vI v410] [(.int v410), (.long (own_by cc417))])) := fun t k => ks419 t (by
            refine XS.iload X416.here hx rfl (hb hby at_199) rfl ?_
            refine XS.ifNo X416.here hx rfl (hb hby at_201) rfl ((if0 _ _).trans (teq (by decide)).2) ?_
            refine XS.iload X416.here hx rfl (hb hby at_204) rfl ?_
            exact k)
          obtain ⟨v421, hv421⟩ : ∃ z : Int32, z = (if v410 = (0 : Int32) then (0 : Int32) else (1 : Int32)) := ⟨_, rfl⟩
          have ks423 : own_R p e below (A0) (T416.setTop (mkF m 214 #[vJ q0, .second, vJ q1, .second, vJ q2, .second, vI p3, vR b1, vR bb7, vI 1, vI 0, vI v410] [(.int v421), (.long (own_by cc417))])) := fun t k => ks422 t (by
            by_cases hc420 : v410 = (0 : Int32)
            · skip
              have qq424 : v421 = (0 : Int32) := by rw [hv421, if_pos hc420]
              rw [qq424] at k
              refine XS.ifYes X416.here hx rfl (pc0 := 206) (pc' := 213) rfl (hb hby at_206) rfl ((if0 _ _).trans (teq hc420).1) (by decide) (by decide) ?_
              refine XS.iconst X416.here hx rfl (hb hby at_213) ?_
              exact k
            · skip
              have qq425 : v421 = (1 : Int32) := by rw [hv421, if_neg hc420]
              rw [qq425] at k
              refine XS.ifNo X416.here hx rfl (hb hby at_206) rfl ((if0 _ _).trans (feq hc420).1) ?_
              refine XS.iconst X416.here hx rfl (hb hby at_209) ?_
              refine XS.goto X416.here hx rfl (pc0 := 210) (pc' := 214) rfl (hb hby at_210) (by decide) (by decide) ?_
              exact k)
          obtain ⟨_, _, ⟨T426, L426, k426, n426⟩, -, X426, ⟨Lc426, hQ426, lq426, yq426, zq426⟩, st426⟩ := Jvm.LawKit.callS X416 hx (y := (⟨"com/example/thin_feed/thinfeed/store/LongFloorMapBytesPinLaw", "expected", "(Z)J"⟩ : MethodName)) hown (mvT hZ (own_w hw 38 rfl)) (mvT hZ (own_w hw 39 rfl)) (mvT hZ (own_w hw 40 rfl)) (mvT hZ (own_w hw 41 rfl)) (by decide) (backOf (W := 2) (rm6 l Z a0 hw [] v421 T407.heap n0 Zn407 ) hZ (own_w hw 41 rfl) (own_w hw 40 rfl) (by decide) (by decide)) (g := (mkF m 214 #[vJ q0, .second, vJ q1, .second, vJ q2, .second, vI p3, vR b1, vR bb7, vI 1, vI 0, vI v410] [(.int v421), (.long (own_by cc417))])) rfl (by rw [hml]; rfl) (argsL := [(.int v421)]) (rest := [(.long (own_by cc417))]) (lenOf pd_4 rfl) rfl (by show 2 * 0 + _ ≤ _; exact Nat.le_of_eq rfl) (hb hby at_214) (fun _ _ => ⟨rfl, eq416, (by decide : 7 + 0 ≤ _), (by decide : 522 + 0 ≤ _)⟩)
          dsimp only [Pt.U, Pt.locs, Pt.cells, Pt.slots] at X426 lq426 yq426 zq426 st426 hQ426
          subst lq426 yq426 zq426
          obtain ⟨rfl, Nq426, eq426⟩ := hQ426
          have N426 := Fr.app N416 Nq426
          have ks427 := own_c ks423 st426
          have ks428 : own_R p e below (A0) (T426.setTop (mkF m 218 #[vJ q0, .second, vJ q1, .second, vJ q2, .second, vI p3, vR b1, vR bb7, vI 1, vI 0, vI v410] [(.int (lcmpW (own_by cc417) (own_exp v421)))])) := fun t k => ks427 t (by
            refine XS.lcmp X426.here hx rfl (hb hby at_217) rfl ?_
            exact k)
          have hB429 : own_by cc417 = (own_exp v421) := own_fin hc417 (own_leaf_18 q0 q1 q2 p3 v23 v29 v410 v421 hv23 hv29 hv410 hv421 hc35 hc266 hc393 hc395).1 (own_leaf_18 q0 q1 q2 p3 v23 v29 v410 v421 hv23 hv29 hv410 hv421 hc35 hc266 hc393 hc395).2
          have ks430 : own_R p e below (A0) (T426.setTop (mkF m 230 #[vJ q0, .second, vJ q1, .second, vJ q2, .second, vI p3, vR b1, vR bb7, vI 1, vI 0, vI v410] [(.int 1)])) := fun t k => ks428 t (by
            refine XS.ifNo X426.here hx rfl (hb hby at_218) rfl ((if0 _ _).trans (teq ((lw_eq _ _).mpr hB429)).2) ?_
            refine XS.iconst X426.here hx rfl (hb hby at_221) ?_
            refine XS.goto X426.here hx rfl (pc0 := 222) (pc' := 226) rfl (hb hby at_222) (by decide) (by decide) ?_
            show Steps p.tables e below (T426.setTop (mkF m 226 #[vJ q0, .second, vJ q1, .second, vJ q2, .second, vI p3, vR b1, vR bb7, vI 1, vI 0, vI v410] [(.int 1)])) _
            refine XS.istore X426.here hx rfl (hb hby at_226) rfl (l' := #[vJ q0, .second, vJ q1, .second, vJ q2, .second, vI p3, vR b1, vR bb7, vI 1, vI 0, vI v410]) rfl ?_
            refine XS.iload X426.here hx rfl (hb hby at_228) rfl ?_
            exact k)
          obtain ⟨fs, hr, hrun, hended, hW, hsame⟩ := X426.leave (v := some (.int 1)) (fun h => by rw [Bd.returns] at h; cases h) hlk
          refine ⟨_, _, kz _ (ks430 _ ?_), hrun, hended, _, _, rfl, ?_, ⟨_, rfl⟩, hW, hsame.mono (by decide) (by decide)⟩
          · exact retN X426 hx (t := .boolean) Bd.returns (by simp) (hb hby at_230) hr
          · show Q0 Z q0 q1 q2 p3 u1 cl1 h0 n0 _ T426.heap _
            rw [eq426]
            exact ⟨rfl, N426⟩
      · skip
        have ks431 : own_R p e below (A0) (T388.setTop (mkF m 140 #[vJ q0, .second, vJ q1, .second, vJ q2, .second, vI p3, vR b1, vR bb7, vI 1, vI v23, vI v29] [(.long q2), (.ref b1)])) := fun t k => ks392 t (by
          refine XS.ifNo X388.here hx rfl (hb hby at_133) rfl ((if0 _ _).trans (feq hc393).1) ?_
          refine XS.aload X388.here hx rfl (hb hby at_136) rfl rfl ?_
          refine XS.lload X388.here hx rfl (hb hby at_138) rfl ?_
          exact k)
        obtain ⟨cq432, kq432, q432a, q432b, q432c⟩ := isOf hZ eq388 f385
        obtain ⟨_, _, ⟨T432, L432, k432, n432⟩, -, X432, ⟨Lc432, hQ432, lq432, yq432, zq432⟩, st432⟩ := X388.virtualBack hx (y := (⟨"com/example/thin_feed/thinfeed/store/LongFloorMap", "remove", "(J)V"⟩ : MethodName)) (z := (⟨"com/example/thin_feed/thinfeed/store/LongFloorMap", "remove", "(J)V"⟩ : MethodName)) hown (mvT hZ (own_w hw 84 rfl)) (mvT hZ (own_w hw 85 rfl)) (notFace_of_selects (args := #[]) (mvT hZ (own_w hw 87 rfl))) (mvT hZ (own_w hw 87 rfl)) (mvT hZ (own_w hw 86 rfl)) (by decide) (backOf (W := 0) (rm12M l Z a0 hw [] b1 q2 bb7 _ T378.heap n0 Zn378 MM378) hZ (own_w hw 88 rfl) (own_w hw 2 rfl) (by decide) (by decide)) q432a q432c (g := (mkF m 140 #[vJ q0, .second, vJ q1, .second, vJ q2, .second, vI p3, vR b1, vR bb7, vI 1, vI v23, vI v29] [(.long q2), (.ref b1)])) rfl (by rw [hml]; rfl) (Steps.refl _) (argsL := [(.long q2)]) (rest := []) (lenOf pd_10 rfl) rfl (by show 2 * 0 + _ ≤ _; exact Nat.le_of_eq rfl) (hb hby at_140) (fun _ _ => ⟨rfl, eq388, (by decide : 7 + 0 ≤ _), (by decide : 522 + 0 ≤ _)⟩)
        dsimp only [Pt.U, Pt.locs, Pt.cells, Pt.slots] at X432 lq432 yq432 zq432 st432 hQ432
        subst lq432 yq432 zq432
        obtain ⟨rfl, Nq432, Zn432, Xq432, MM432⟩ := hQ432
        have N432 := Fr.app N388 Nq432
        have ks433 := own_ct ks431 st432
        have ks436 : own_R p e below (A0) (T432.setTop (mkF m 147 #[vJ q0, .second, vJ q1, .second, vJ q2, .second, vI p3, vR b1, vR bb7, vI 1, vI v23, vI v29] [(.int (lcmpW q2 q0))])) := fun t k => ks433 t (by
          refine XS.lload X432.here hx rfl (hb hby at_143) rfl ?_
          refine XS.lloadN X432.here hx rfl (hb hby at_145) rfl ?_
          refine XS.lcmp X432.here hx rfl (hb hby at_146) rfl ?_
          exact k)
        obtain ⟨v435, hv435⟩ : ∃ z : Int32, z = (if q2 = q0 then (0 : Int32) else v23) := ⟨_, rfl⟩
        have ks437 : own_R p e below (A0) (T432.setTop (mkF m 153 #[vJ q0, .second, vJ q1, .second, vJ q2, .second, vI p3, vR b1, vR bb7, vI 1, vI v435, vI v29] [])) := fun t k => ks436 t (by
          by_cases hc434 : q2 = q0
          · skip
            have qq438 : v435 = (0 : Int32) := by rw [hv435, if_pos hc434]
            rw [qq438] at k
            refine XS.ifNo X432.here hx rfl (hb hby at_147) rfl ((if0 _ _).trans (teq ((lw_eq _ _).mpr hc434)).2) ?_
            refine XS.iconst X432.here hx rfl (hb hby at_150) ?_
            refine XS.istore X432.here hx rfl (hb hby at_151) rfl (l' := #[vJ q0, .second, vJ q1, .second, vJ q2, .second, vI p3, vR b1, vR bb7, vI 1, vI 0, vI v29]) rfl ?_
            exact k
          · skip
            have qq439 : v435 = v23 := by rw [hv435, if_neg hc434]
            rw [qq439] at k
            refine XS.ifYes X432.here hx rfl (pc0 := 147) (pc' := 153) rfl (hb hby at_147) rfl ((if0 _ _).trans (feq (fun q => hc434 ((lw_eq _ _).mp q))).2) (by decide) (by decide) ?_
            exact k)
        have ks442 : own_R p e below (A0) (T432.setTop (mkF m 157 #[vJ q0, .second, vJ q1, .second, vJ q2, .second, vI p3, vR b1, vR bb7, vI 1, vI v435, vI v29] [(.int (lcmpW q2 q1))])) := fun t k => ks437 t (by
          refine XS.lload X432.here hx rfl (hb hby at_153) rfl ?_
          refine XS.lloadN X432.here hx rfl (hb hby at_155) rfl ?_
          refine XS.lcmp X432.here hx rfl (hb hby at_156) rfl ?_
          exact k)
        obtain ⟨v441, hv441⟩ : ∃ z : Int32, z = (if q2 = q1 then (0 : Int32) else v29) := ⟨_, rfl⟩
        have ks443 : own_R p e below (A0) (T432.setTop (mkF m 163 #[vJ q0, .second, vJ q1, .second, vJ q2, .second, vI p3, vR b1, vR bb7, vI 1, vI v435, vI v441] [])) := fun t k => ks442 t (by
          by_cases hc440 : q2 = q1
          · skip
            have qq444 : v441 = (0 : Int32) := by rw [hv441, if_pos hc440]
            rw [qq444] at k
            refine XS.ifNo X432.here hx rfl (hb hby at_157) rfl ((if0 _ _).trans (teq ((lw_eq _ _).mpr hc440)).2) ?_
            refine XS.iconst X432.here hx rfl (hb hby at_160) ?_
            refine XS.istore X432.here hx rfl (hb hby at_161) rfl (l' := #[vJ q0, .second, vJ q1, .second, vJ q2, .second, vI p3, vR b1, vR bb7, vI 1, vI v435, vI 0]) rfl ?_
            exact k
          · skip
            have qq445 : v441 = v29 := by rw [hv441, if_neg hc440]
            rw [qq445] at k
            refine XS.ifYes X432.here hx rfl (pc0 := 157) (pc' := 163) rfl (hb hby at_157) rfl ((if0 _ _).trans (feq (fun q => hc440 ((lw_eq _ _).mp q))).2) (by decide) (by decide) ?_
            exact k)
        have ks446 : own_R p e below (A0) (T432.setTop (mkF m 168 #[vJ q0, .second, vJ q1, .second, vJ q2, .second, vI p3, vR b1, vR bb7, vI 1, vI v435, vI v441] [(.int (p3 &&& (8 : Int32)))])) := fun t k => ks443 t (by
          refine XS.iload X432.here hx rfl (hb hby at_163) rfl ?_
          refine XS.bipush X432.here hx rfl (hb hby at_165) ?_
          refine XS.iand X432.here hx rfl (hb hby at_167) rfl ?_
          exact k)
        by_cases hc447 : (p3 &&& (8 : Int32)) = (0 : Int32)
        · skip
          have ks448 : own_R p e below (A0) (T432.setTop (mkF m 196 #[vJ q0, .second, vJ q1, .second, vJ q2, .second, vI p3, vR b1, vR bb7, vI 1, vI v435, vI v441] [(.ref b1)])) := fun t k => ks446 t (by
            refine XS.ifYes X432.here hx rfl (pc0 := 168) (pc' := 189) rfl (hb hby at_168) rfl ((if0 _ _).trans (teq hc447).1) (by decide) (by decide) ?_
            refine XS.iload X432.here hx rfl (hb hby at_189) rfl ?_
            refine XS.ifNo X432.here hx rfl (hb hby at_191) rfl ((if0 _ _).trans (feq (by decide)).1) ?_
            show Steps p.tables e below (T432.setTop (mkF m 194 #[vJ q0, .second, vJ q1, .second, vJ q2, .second, vI p3, vR b1, vR bb7, vI 1, vI v435, vI v441] [])) _
            refine XS.aload X432.here hx rfl (hb hby at_194) rfl rfl ?_
            exact k)
          obtain ⟨f450, sh450, kf450, ksh450, cc450, vf450, vs450, Ff450, Fs450, Fc450, Vf450, Vs450, hc450⟩ := own_view MM432
          have f451 := (Xq432 _ _ f385)
          obtain ⟨cq449, kq449, q449a, q449b, q449c⟩ := isOf hZ rfl f451
          obtain ⟨_, _, ⟨T449, L449, k449, n449⟩, -, X449, ⟨Lc449, hQ449, lq449, yq449, zq449⟩, st449⟩ := X432.virtualBack hx (y := (⟨"com/example/thin_feed/thinfeed/store/LongFloorMap", "bytes", "()J"⟩ : MethodName)) (z := (⟨"com/example/thin_feed/thinfeed/store/LongFloorMap", "bytes", "()J"⟩ : MethodName)) hown (mvT hZ (own_w hw 23 rfl)) (mvT hZ (own_w hw 24 rfl)) (notFace_of_selects (args := #[]) (mvT hZ (own_w hw 26 rfl))) (mvT hZ (own_w hw 26 rfl)) (mvT hZ (own_w hw 25 rfl)) (by decide) (backOf (W := 0) (rm4 l Z a0 hw [] b1 f450 sh450 kf450 ksh450 cc450 vf450 vs450 T432.heap n0 Zn432 Ff450 Fs450 Fc450 Vf450 Vs450) hZ (own_w hw 27 rfl) (own_w hw 2 rfl) (by decide) (by decide)) q449a q449c (g := (mkF m 196 #[vJ q0, .second, vJ q1, .second, vJ q2, .second, vI p3, vR b1, vR bb7, vI 1, vI v435, vI v441] [(.ref b1)])) rfl (by rw [hml]; rfl) (Steps.refl _) (argsL := []) (rest := []) (lenOf pd_2 rfl) rfl (by show 2 * 0 + _ ≤ _; exact Nat.le_of_eq rfl) (hb hby at_196) (fun _ _ => ⟨rfl, rfl, (by decide : 7 + 0 ≤ _), (by decide : 522 + 0 ≤ _)⟩)
          dsimp only [Pt.U, Pt.locs, Pt.cells, Pt.slots] at X449 lq449 yq449 zq449 st449 hQ449
          subst lq449 yq449 zq449
          obtain ⟨rfl, Nq449, eq449⟩ := hQ449
          have N449 := Fr.app N432 Nq449
          have ks452 := own_ct ks448 st449
          have ks456 : own_R p e below (A0) (T449.setTop (mkF m 201 #[vJ q0, .second, vJ q1, .second, vJ q2, .second, vI p3, vR b1, vR bb7, vI 1, vI v435, vI v441] [(.int v435), (.long (own_by cc450))])) := fun t k => ks452 t (by
            refine XS.iload X449.here hx rfl (hb hby at_199) rfl ?_
            exact k)
          obtain ⟨v455, hv455⟩ : ∃ z : Int32, z = (if v435 = (0 : Int32) then (if v441 = (0 : Int32) then (0 : Int32) else (1 : Int32)) else (1 : Int32)) := ⟨_, rfl⟩
          have ks457 : own_R p e below (A0) (T449.setTop (mkF m 214 #[vJ q0, .second, vJ q1, .second, vJ q2, .second, vI p3, vR b1, vR bb7, vI 1, vI v435, vI v441] [(.int v455), (.long (own_by cc450))])) := fun t k => ks456 t (by
            by_cases hc453 : v435 = (0 : Int32)
            · skip
              refine XS.ifNo X449.here hx rfl (hb hby at_201) rfl ((if0 _ _).trans (teq hc453).2) ?_
              refine XS.iload X449.here hx rfl (hb hby at_204) rfl ?_
              by_cases hc454 : v441 = (0 : Int32)
              · skip
                have qq458 : v455 = (0 : Int32) := by rw [hv455, if_pos hc453, if_pos hc454]
                rw [qq458] at k
                refine XS.ifYes X449.here hx rfl (pc0 := 206) (pc' := 213) rfl (hb hby at_206) rfl ((if0 _ _).trans (teq hc454).1) (by decide) (by decide) ?_
                show Steps p.tables e below (T449.setTop (mkF m 213 #[vJ q0, .second, vJ q1, .second, vJ q2, .second, vI p3, vR b1, vR bb7, vI 1, vI v435, vI v441] [(.long (own_by cc450))])) _
                refine XS.iconst X449.here hx rfl (hb hby at_213) ?_
                exact k
              · skip
                have qq459 : v455 = (1 : Int32) := by rw [hv455, if_pos hc453, if_neg hc454]
                rw [qq459] at k
                refine XS.ifNo X449.here hx rfl (hb hby at_206) rfl ((if0 _ _).trans (feq hc454).1) ?_
                show Steps p.tables e below (T449.setTop (mkF m 209 #[vJ q0, .second, vJ q1, .second, vJ q2, .second, vI p3, vR b1, vR bb7, vI 1, vI v435, vI v441] [(.long (own_by cc450))])) _
                refine XS.iconst X449.here hx rfl (hb hby at_209) ?_
                refine XS.goto X449.here hx rfl (pc0 := 210) (pc' := 214) rfl (hb hby at_210) (by decide) (by decide) ?_
                exact k
            · skip
              have qq460 : v455 = (1 : Int32) := by rw [hv455, if_neg hc453]
              rw [qq460] at k
              refine XS.ifYes X449.here hx rfl (pc0 := 201) (pc' := 209) rfl (hb hby at_201) rfl ((if0 _ _).trans (feq hc453).2) (by decide) (by decide) ?_
              refine XS.iconst X449.here hx rfl (hb hby at_209) ?_
              refine XS.goto X449.here hx rfl (pc0 := 210) (pc' := 214) rfl (hb hby at_210) (by decide) (by decide) ?_
              exact k)
          obtain ⟨_, _, ⟨T461, L461, k461, n461⟩, -, X461, ⟨Lc461, hQ461, lq461, yq461, zq461⟩, st461⟩ := Jvm.LawKit.callS X449 hx (y := (⟨"com/example/thin_feed/thinfeed/store/LongFloorMapBytesPinLaw", "expected", "(Z)J"⟩ : MethodName)) hown (mvT hZ (own_w hw 38 rfl)) (mvT hZ (own_w hw 39 rfl)) (mvT hZ (own_w hw 40 rfl)) (mvT hZ (own_w hw 41 rfl)) (by decide) (backOf (W := 2) (rm6 l Z a0 hw [] v455 T432.heap n0 Zn432 ) hZ (own_w hw 41 rfl) (own_w hw 40 rfl) (by decide) (by decide)) (g := (mkF m 214 #[vJ q0, .second, vJ q1, .second, vJ q2, .second, vI p3, vR b1, vR bb7, vI 1, vI v435, vI v441] [(.int v455), (.long (own_by cc450))])) rfl (by rw [hml]; rfl) (argsL := [(.int v455)]) (rest := [(.long (own_by cc450))]) (lenOf pd_4 rfl) rfl (by show 2 * 0 + _ ≤ _; exact Nat.le_of_eq rfl) (hb hby at_214) (fun _ _ => ⟨rfl, eq449, (by decide : 7 + 0 ≤ _), (by decide : 522 + 0 ≤ _)⟩)
          dsimp only [Pt.U, Pt.locs, Pt.cells, Pt.slots] at X461 lq461 yq461 zq461 st461 hQ461
          subst lq461 yq461 zq461
          obtain ⟨rfl, Nq461, eq461⟩ := hQ461
          have N461 := Fr.app N449 Nq461
          have ks462 := own_c ks457 st461
          have ks463 : own_R p e below (A0) (T461.setTop (mkF m 218 #[vJ q0, .second, vJ q1, .second, vJ q2, .second, vI p3, vR b1, vR bb7, vI 1, vI v435, vI v441] [(.int (lcmpW (own_by cc450) (own_exp v455)))])) := fun t k => ks462 t (by
            refine XS.lcmp X461.here hx rfl (hb hby at_217) rfl ?_
            exact k)
          have hB464 : own_by cc450 = (own_exp v455) := own_fin hc450 (own_leaf_19 q0 q1 q2 p3 v23 v29 v435 v441 v455 hv23 hv29 hv435 hv441 hv455 hc35 hc266 hc393 hc447).1 (own_leaf_19 q0 q1 q2 p3 v23 v29 v435 v441 v455 hv23 hv29 hv435 hv441 hv455 hc35 hc266 hc393 hc447).2
          have ks465 : own_R p e below (A0) (T461.setTop (mkF m 230 #[vJ q0, .second, vJ q1, .second, vJ q2, .second, vI p3, vR b1, vR bb7, vI 1, vI v435, vI v441] [(.int 1)])) := fun t k => ks463 t (by
            refine XS.ifNo X461.here hx rfl (hb hby at_218) rfl ((if0 _ _).trans (teq ((lw_eq _ _).mpr hB464)).2) ?_
            refine XS.iconst X461.here hx rfl (hb hby at_221) ?_
            refine XS.goto X461.here hx rfl (pc0 := 222) (pc' := 226) rfl (hb hby at_222) (by decide) (by decide) ?_
            show Steps p.tables e below (T461.setTop (mkF m 226 #[vJ q0, .second, vJ q1, .second, vJ q2, .second, vI p3, vR b1, vR bb7, vI 1, vI v435, vI v441] [(.int 1)])) _
            refine XS.istore X461.here hx rfl (hb hby at_226) rfl (l' := #[vJ q0, .second, vJ q1, .second, vJ q2, .second, vI p3, vR b1, vR bb7, vI 1, vI v435, vI v441]) rfl ?_
            refine XS.iload X461.here hx rfl (hb hby at_228) rfl ?_
            exact k)
          obtain ⟨fs, hr, hrun, hended, hW, hsame⟩ := X461.leave (v := some (.int 1)) (fun h => by rw [Bd.returns] at h; cases h) hlk
          refine ⟨_, _, kz _ (ks465 _ ?_), hrun, hended, _, _, rfl, ?_, ⟨_, rfl⟩, hW, hsame.mono (by decide) (by decide)⟩
          · exact retN X461 hx (t := .boolean) Bd.returns (by simp) (hb hby at_230) hr
          · show Q0 Z q0 q1 q2 p3 u1 cl1 h0 n0 _ T461.heap _
            rw [eq461]
            exact ⟨rfl, N461⟩
        · skip
          have ks466 : own_R p e below (A0) (T432.setTop (mkF m 174 #[vJ q0, .second, vJ q1, .second, vJ q2, .second, vI p3, vR b1, vR bb7, vI 1, vI v435, vI v441] [(.long q0), (.ref b1)])) := fun t k => ks446 t (by
            refine XS.ifNo X432.here hx rfl (hb hby at_168) rfl ((if0 _ _).trans (feq hc447).1) ?_
            refine XS.aload X432.here hx rfl (hb hby at_171) rfl rfl ?_
            refine XS.lloadN X432.here hx rfl (hb hby at_173) rfl ?_
            exact k)
          have f468 := (Xq432 _ _ f385)
          obtain ⟨cq467, kq467, q467a, q467b, q467c⟩ := isOf hZ rfl f468
          obtain ⟨_, _, ⟨T467, L467, k467, n467⟩, -, X467, ⟨Lc467, hQ467, lq467, yq467, zq467⟩, st467⟩ := X432.virtualBack hx (y := (⟨"com/example/thin_feed/thinfeed/store/LongFloorMap", "remove", "(J)V"⟩ : MethodName)) (z := (⟨"com/example/thin_feed/thinfeed/store/LongFloorMap", "remove", "(J)V"⟩ : MethodName)) hown (mvT hZ (own_w hw 84 rfl)) (mvT hZ (own_w hw 85 rfl)) (notFace_of_selects (args := #[]) (mvT hZ (own_w hw 87 rfl))) (mvT hZ (own_w hw 87 rfl)) (mvT hZ (own_w hw 86 rfl)) (by decide) (backOf (W := 0) (rm12M l Z a0 hw [] b1 q0 bb7 _ T432.heap n0 Zn432 MM432) hZ (own_w hw 88 rfl) (own_w hw 2 rfl) (by decide) (by decide)) q467a q467c (g := (mkF m 174 #[vJ q0, .second, vJ q1, .second, vJ q2, .second, vI p3, vR b1, vR bb7, vI 1, vI v435, vI v441] [(.long q0), (.ref b1)])) rfl (by rw [hml]; rfl) (Steps.refl _) (argsL := [(.long q0)]) (rest := []) (lenOf pd_10 rfl) rfl (by show 2 * 0 + _ ≤ _; exact Nat.le_of_eq rfl) (hb hby at_174) (fun _ _ => ⟨rfl, rfl, (by decide : 7 + 0 ≤ _), (by decide : 522 + 0 ≤ _)⟩)
          dsimp only [Pt.U, Pt.locs, Pt.cells, Pt.slots] at X467 lq467 yq467 zq467 st467 hQ467
          subst lq467 yq467 zq467
          obtain ⟨rfl, Nq467, Zn467, Xq467, MM467⟩ := hQ467
          have N467 := Fr.app N432 Nq467
          have ks469 := own_ct ks466 st467
          have ks472 : own_R p e below (A0) (T467.setTop (mkF m 183 #[vJ q0, .second, vJ q1, .second, vJ q2, .second, vI p3, vR b1, vR bb7, vI 1, vI 0, vI v441] [(.int (lcmpW q1 q0))])) := fun t k => ks469 t (by
            refine XS.iconst X467.here hx rfl (hb hby at_177) ?_
            refine XS.istore X467.here hx rfl (hb hby at_178) rfl (l' := #[vJ q0, .second, vJ q1, .second, vJ q2, .second, vI p3, vR b1, vR bb7, vI 1, vI 0, vI v441]) rfl ?_
            refine XS.lloadN X467.here hx rfl (hb hby at_180) rfl ?_
            show Steps p.tables e below (T467.setTop (mkF m 181 #[vJ q0, .second, vJ q1, .second, vJ q2, .second, vI p3, vR b1, vR bb7, vI 1, vI 0, vI v441] [(.long q1)])) _
            refine XS.lloadN X467.here hx rfl (hb hby at_181) rfl ?_
            refine XS.lcmp X467.here hx rfl (hb hby at_182) rfl ?_
            exact k)
          obtain ⟨v471, hv471⟩ : ∃ z : Int32, z = (if q1 = q0 then (0 : Int32) else v441) := ⟨_, rfl⟩
          have ks473 : own_R p e below (A0) (T467.setTop (mkF m 189 #[vJ q0, .second, vJ q1, .second, vJ q2, .second, vI p3, vR b1, vR bb7, vI 1, vI 0, vI v471] [])) := fun t k => ks472 t (by
            by_cases hc470 : q1 = q0
            · skip
              have qq474 : v471 = (0 : Int32) := by rw [hv471, if_pos hc470]
              rw [qq474] at k
              refine XS.ifNo X467.here hx rfl (hb hby at_183) rfl ((if0 _ _).trans (teq ((lw_eq _ _).mpr hc470)).2) ?_
              refine XS.iconst X467.here hx rfl (hb hby at_186) ?_
              refine XS.istore X467.here hx rfl (hb hby at_187) rfl (l' := #[vJ q0, .second, vJ q1, .second, vJ q2, .second, vI p3, vR b1, vR bb7, vI 1, vI 0, vI 0]) rfl ?_
              exact k
            · skip
              have qq475 : v471 = v441 := by rw [hv471, if_neg hc470]
              rw [qq475] at k
              refine XS.ifYes X467.here hx rfl (pc0 := 183) (pc' := 189) rfl (hb hby at_183) rfl ((if0 _ _).trans (feq (fun q => hc470 ((lw_eq _ _).mp q))).2) (by decide) (by decide) ?_
              exact k)
          have ks476 : own_R p e below (A0) (T467.setTop (mkF m 196 #[vJ q0, .second, vJ q1, .second, vJ q2, .second, vI p3, vR b1, vR bb7, vI 1, vI 0, vI v471] [(.ref b1)])) := fun t k => ks473 t (by
            refine XS.iload X467.here hx rfl (hb hby at_189) rfl ?_
            refine XS.ifNo X467.here hx rfl (hb hby at_191) rfl ((if0 _ _).trans (feq (by decide)).1) ?_
            refine XS.aload X467.here hx rfl (hb hby at_194) rfl rfl ?_
            exact k)
          obtain ⟨f478, sh478, kf478, ksh478, cc478, vf478, vs478, Ff478, Fs478, Fc478, Vf478, Vs478, hc478⟩ := own_view MM467
          have f479 := (Xq467 _ _ f468)
          obtain ⟨cq477, kq477, q477a, q477b, q477c⟩ := isOf hZ rfl f479
          obtain ⟨_, _, ⟨T477, L477, k477, n477⟩, -, X477, ⟨Lc477, hQ477, lq477, yq477, zq477⟩, st477⟩ := X467.virtualBack hx (y := (⟨"com/example/thin_feed/thinfeed/store/LongFloorMap", "bytes", "()J"⟩ : MethodName)) (z := (⟨"com/example/thin_feed/thinfeed/store/LongFloorMap", "bytes", "()J"⟩ : MethodName)) hown (mvT hZ (own_w hw 23 rfl)) (mvT hZ (own_w hw 24 rfl)) (notFace_of_selects (args := #[]) (mvT hZ (own_w hw 26 rfl))) (mvT hZ (own_w hw 26 rfl)) (mvT hZ (own_w hw 25 rfl)) (by decide) (backOf (W := 0) (rm4 l Z a0 hw [] b1 f478 sh478 kf478 ksh478 cc478 vf478 vs478 T467.heap n0 Zn467 Ff478 Fs478 Fc478 Vf478 Vs478) hZ (own_w hw 27 rfl) (own_w hw 2 rfl) (by decide) (by decide)) q477a q477c (g := (mkF m 196 #[vJ q0, .second, vJ q1, .second, vJ q2, .second, vI p3, vR b1, vR bb7, vI 1, vI 0, vI v471] [(.ref b1)])) rfl (by rw [hml]; rfl) (Steps.refl _) (argsL := []) (rest := []) (lenOf pd_2 rfl) rfl (by show 2 * 0 + _ ≤ _; exact Nat.le_of_eq rfl) (hb hby at_196) (fun _ _ => ⟨rfl, rfl, (by decide : 7 + 0 ≤ _), (by decide : 522 + 0 ≤ _)⟩)
          dsimp only [Pt.U, Pt.locs, Pt.cells, Pt.slots] at X477 lq477 yq477 zq477 st477 hQ477
          subst lq477 yq477 zq477
          obtain ⟨rfl, Nq477, eq477⟩ := hQ477
          have N477 := Fr.app N467 Nq477
          have ks480 := own_ct ks476 st477
          have ks483 : own_R p e below (A0) (T477.setTop (mkF m 206 #[vJ q0, .second, vJ q1, .second, vJ q2, .second, vI p3, vR b1, vR bb7, vI 1, vI 0, vI v471] [(.int v471), (.long (own_by cc478))])) := fun t k => ks480 t (by
            refine XS.iload X477.here hx rfl (hb hby at_199) rfl ?_
            refine XS.ifNo X477.here hx rfl (hb hby at_201) rfl ((if0 _ _).trans (teq (by decide)).2) ?_
            refine XS.iload X477.here hx rfl (hb hby at_204) rfl ?_
            exact k)
          obtain ⟨v482, hv482⟩ : ∃ z : Int32, z = (if v471 = (0 : Int32) then (0 : Int32) else (1 : Int32)) := ⟨_, rfl⟩
          have ks484 : own_R p e below (A0) (T477.setTop (mkF m 214 #[vJ q0, .second, vJ q1, .second, vJ q2, .second, vI p3, vR b1, vR bb7, vI 1, vI 0, vI v471] [(.int v482), (.long (own_by cc478))])) := fun t k => ks483 t (by
            by_cases hc481 : v471 = (0 : Int32)
            · skip
              have qq485 : v482 = (0 : Int32) := by rw [hv482, if_pos hc481]
              rw [qq485] at k
              refine XS.ifYes X477.here hx rfl (pc0 := 206) (pc' := 213) rfl (hb hby at_206) rfl ((if0 _ _).trans (teq hc481).1) (by decide) (by decide) ?_
              refine XS.iconst X477.here hx rfl (hb hby at_213) ?_
              exact k
            · skip
              have qq486 : v482 = (1 : Int32) := by rw [hv482, if_neg hc481]
              rw [qq486] at k
              refine XS.ifNo X477.here hx rfl (hb hby at_206) rfl ((if0 _ _).trans (feq hc481).1) ?_
              refine XS.iconst X477.here hx rfl (hb hby at_209) ?_
              refine XS.goto X477.here hx rfl (pc0 := 210) (pc' := 214) rfl (hb hby at_210) (by decide) (by decide) ?_
              exact k)
          obtain ⟨_, _, ⟨T487, L487, k487, n487⟩, -, X487, ⟨Lc487, hQ487, lq487, yq487, zq487⟩, st487⟩ := Jvm.LawKit.callS X477 hx (y := (⟨"com/example/thin_feed/thinfeed/store/LongFloorMapBytesPinLaw", "expected", "(Z)J"⟩ : MethodName)) hown (mvT hZ (own_w hw 38 rfl)) (mvT hZ (own_w hw 39 rfl)) (mvT hZ (own_w hw 40 rfl)) (mvT hZ (own_w hw 41 rfl)) (by decide) (backOf (W := 2) (rm6 l Z a0 hw [] v482 T467.heap n0 Zn467 ) hZ (own_w hw 41 rfl) (own_w hw 40 rfl) (by decide) (by decide)) (g := (mkF m 214 #[vJ q0, .second, vJ q1, .second, vJ q2, .second, vI p3, vR b1, vR bb7, vI 1, vI 0, vI v471] [(.int v482), (.long (own_by cc478))])) rfl (by rw [hml]; rfl) (argsL := [(.int v482)]) (rest := [(.long (own_by cc478))]) (lenOf pd_4 rfl) rfl (by show 2 * 0 + _ ≤ _; exact Nat.le_of_eq rfl) (hb hby at_214) (fun _ _ => ⟨rfl, eq477, (by decide : 7 + 0 ≤ _), (by decide : 522 + 0 ≤ _)⟩)
          dsimp only [Pt.U, Pt.locs, Pt.cells, Pt.slots] at X487 lq487 yq487 zq487 st487 hQ487
          subst lq487 yq487 zq487
          obtain ⟨rfl, Nq487, eq487⟩ := hQ487
          have N487 := Fr.app N477 Nq487
          have ks488 := own_c ks484 st487
          have ks489 : own_R p e below (A0) (T487.setTop (mkF m 218 #[vJ q0, .second, vJ q1, .second, vJ q2, .second, vI p3, vR b1, vR bb7, vI 1, vI 0, vI v471] [(.int (lcmpW (own_by cc478) (own_exp v482)))])) := fun t k => ks488 t (by
            refine XS.lcmp X487.here hx rfl (hb hby at_217) rfl ?_
            exact k)
          have hB490 : own_by cc478 = (own_exp v482) := own_fin hc478 (own_leaf_20 q0 q1 q2 p3 v23 v29 v435 v441 v471 v482 hv23 hv29 hv435 hv441 hv471 hv482 hc35 hc266 hc393 hc447).1 (own_leaf_20 q0 q1 q2 p3 v23 v29 v435 v441 v471 v482 hv23 hv29 hv435 hv441 hv471 hv482 hc35 hc266 hc393 hc447).2
          have ks491 : own_R p e below (A0) (T487.setTop (mkF m 230 #[vJ q0, .second, vJ q1, .second, vJ q2, .second, vI p3, vR b1, vR bb7, vI 1, vI 0, vI v471] [(.int 1)])) := fun t k => ks489 t (by
            refine XS.ifNo X487.here hx rfl (hb hby at_218) rfl ((if0 _ _).trans (teq ((lw_eq _ _).mpr hB490)).2) ?_
            refine XS.iconst X487.here hx rfl (hb hby at_221) ?_
            refine XS.goto X487.here hx rfl (pc0 := 222) (pc' := 226) rfl (hb hby at_222) (by decide) (by decide) ?_
            show Steps p.tables e below (T487.setTop (mkF m 226 #[vJ q0, .second, vJ q1, .second, vJ q2, .second, vI p3, vR b1, vR bb7, vI 1, vI 0, vI v471] [(.int 1)])) _
            refine XS.istore X487.here hx rfl (hb hby at_226) rfl (l' := #[vJ q0, .second, vJ q1, .second, vJ q2, .second, vI p3, vR b1, vR bb7, vI 1, vI 0, vI v471]) rfl ?_
            refine XS.iload X487.here hx rfl (hb hby at_228) rfl ?_
            exact k)
          obtain ⟨fs, hr, hrun, hended, hW, hsame⟩ := X487.leave (v := some (.int 1)) (fun h => by rw [Bd.returns] at h; cases h) hlk
          refine ⟨_, _, kz _ (ks491 _ ?_), hrun, hended, _, _, rfl, ?_, ⟨_, rfl⟩, hW, hsame.mono (by decide) (by decide)⟩
          · exact retN X487 hx (t := .boolean) Bd.returns (by simp) (hb hby at_230) hr
          · show Q0 Z q0 q1 q2 p3 u1 cl1 h0 n0 _ T487.heap _
            rw [eq487]
            exact ⟨rfl, N487⟩
set_option maxRecDepth 65536 in
set_option maxHeartbeats 40000000 in
theorem comes_1 {Post : Tables → Env → Array Value → State → Outcome → State → Prop} (hpost : ∀ tb e args s v u, (limb_1_1.after args s (.returned v) u = true ∧ limb_1_2.after args s (.returned v) u = true ∧ True) → FrameEnd s (.returned v) u (Jvm.fieldLocs frame_1_writes args s ++ Jvm.arrayLocs frame_1_arrays args s ++ Jvm.staticLocs frame_1_statics s) 24 1152 → Post tb e args s (.returned v) u) :
    ArmFor flags0 classFile x code maxLocals ret World_1 tables_1 room_1 Calls_1 rest_1 Pre_1 Post := by
  intro l hfl _ _ p e ha hc hk s m args below hf hA hF happ hP
  obtain ⟨hcalls, hrest, hpre⟩ := hP
  obtain ⟨-, -, -, hnamed, -, -, -, hat⟩ := (Spec.applies_iff hf).mp happ
  obtain ⟨hg, hn⟩ := and_e (Cond.before_iff.mp (show (Jvm.Cond.and given_1 narrow_1).before args s = true from hpre))
  obtain ⟨g1, g2⟩ := and_e hg
  obtain ⟨g3, g4⟩ := and_e g2
  obtain ⟨g5, g6⟩ := and_e g4
  obtain ⟨g7, g8⟩ := and_e g6
  obtain ⟨w0, w1, w2, w3, rfl⟩ : ∃ w0 w1 w2 w3 : Value, args = #[w0, w1, w2, w3] := by
    have hs : args.size = 4 := by simpa [Cond.value, given_1] using g1
    obtain ⟨L⟩ := args
    match L, hs with
    | [w0, w1, w2, w3], _ => exact ⟨w0, w1, w2, w3, rfl⟩
  have hw := fun d (hd : d ∈ tables_1) => atoms_spec (ws := Jvm.Cond.code x code maxLocals ret :: tables_1) hat d (List.mem_cons_of_mem _ hd)
  have hfit : Fit s := fun {y c} hc i hi => by
    obtain ⟨ha, rfl⟩ := Array.getElem?_eq_some_iff.mp hc
    have q := List.all_eq_true.mp ((Array.all_eq_true_iff_forall_mem.mp hF) _ (Array.getElem_mem ha)) i (List.mem_range.mpr hi)
    simpa [Array.getElem?_eq_getElem hi] using q
  obtain ⟨hsets, hown0⟩ := atoms_of _ (rest_1_c_eq ▸ (show rest_1_c.before _ s = true from hrest))
  have hr0 := Cond.before_iff.mp hown0
  obtain ⟨i0, ei0⟩ := isL_v g3
  obtain rfl : w0 = (.long i0) := Option.some.inj ei0
  obtain ⟨i1, ei1⟩ := isL_v g5
  obtain rfl : w1 = (.long i1) := Option.some.inj ei1
  obtain ⟨i2, ei2⟩ := isL_v g7
  obtain rfl : w2 = (.long i2) := Option.some.inj ei2
  obtain ⟨i3, ei3⟩ := is_v g8
  obtain rfl : w3 = (.int i3) := Option.some.inj ei3
  have j2 := (Cond.before_iff.mp (hsets _ (List.mem_of_getElem? (i := 4) rfl)))
  obtain ⟨u1, ev1⟩ := arr_v j2
  obtain ⟨cl1, Aq1⟩ := Arr.start ev1 j2
  have Sq1 := Sta.start ev1 (Or.inr ⟨(own_w hw 21 rfl), hsets _ (List.mem_of_getElem? (i := 2) rfl)⟩)
  have Sq2 := Sta.start (own_eqi (Cond.before_iff.mp (hsets _ (List.mem_of_getElem? (i := 3) rfl)))) (Or.inl (hsets _ (List.mem_of_getElem? (i := 1) rfl)))
  obtain ⟨ls1, le1⟩ := own_len (Cond.before_iff.mp (hsets _ (List.mem_of_getElem? (i := 6) rfl))) ev1 Aq1
  have hs1 : cl1.slots.size = 256 := by have := len_toInt ls1; rw [le1] at this; exact Int.ofNat.inj this.symm
  have Bq1 := own_box_start (fun _ => ev1) Aq1 hs1 (Cond.before_iff.mp (hsets _ (List.mem_of_getElem? (i := 7) rfl)))
  obtain ⟨n, o, h1, h2, h3, _, L, rfl, ⟨rfl, N⟩, hq⟩ := rm0 l s _ hw tables_1 i0 i1 i2 i3 u1 cl1 s.heap s.heap.size (Nat.le_refl _) (Old.start s) Sq1 Sq2 Aq1 hs1 Bq1 p e ha hc hk s m _ below hf ((Spec.applies_iff_loose hf).mp happ).1 ⟨rfl, State.Warmed39.refl s, rfl⟩ trivial
  refine ⟨n, _, h1, h2, h3, hpost _ _ _ _ _ _ ⟨Cond.after_iff.mpr rfl, Cond.after_iff.mpr (eq_i res_at (Term.int_eval (1)) rfl), trivial⟩ ⟨hq.1, hq.2.1, (hq.2.2.sift fun y hy => Or.inr (N y hy)).mono (by decide) (by decide)⟩⟩
theorem main_1_1 : Claimed_1_1 := comes_1 fun _ _ _ _ _ _ h hF => ⟨h.1, hF⟩
theorem main_1_2 : Claimed_1_2 := comes_1 fun _ _ _ _ _ _ h hF => ⟨h.2.1, hF⟩
end Jvm.Pilot.@@N@@
namespace Jvm.Pilot.@@N@@
open Jvm Jvm.ClassFile Sem Op Lib Jvm.Free Jvm.Stand Jvm.Pilot.@@N@@.Jvm.D
/-! MADE BY PROGRAM (witnessworld.py) out of the Statement's table words and the real class files: 25 classes; the members and pool entries that the words name. The judged class is class 1, her method 2. -/
namespace start1
open Jvm.ClassFile
def u (s : String) : CpInfo := .utf8 (stringToUtf16 s)
/-- a pool by its gaps: so many unusable entries, then the entry; so many at the end -/
def gap : Nat → List CpInfo → List CpInfo
  | 0, r => r
  | n + 1, r => .unusable :: gap n r
def poolList (es : List (Nat × CpInfo)) (last : Nat) : List CpInfo := es.foldr (fun e r => gap e.1 (e.2 :: r)) (gap last [])
def pool (es : List (Nat × CpInfo)) (last : Nat) : Array CpInfo := ⟨poolList es last⟩
def fileOf (pool : Array CpInfo) (this : Nat) (attrs : Array Attribute := #[]) (ms : Array MethodInfo := #[]) (fl : Nat := 33) (sup : Nat := 0) (ifs : Array Nat := #[]) (fds : Array FieldInfo := #[]) : ClassFile where
  minorVersion := 0
  majorVersion := 65
  constantPool := pool
  accessFlags := fl
  thisClass := this
  superClass := sup
  interfaces := ifs
  fields := fds
  methods := ms
  attributes := attrs
def plain (name : String) (sup : Option ClassId) : Class where
  name := name
  kind := .ordinary
  loader := none
  accessFlags := 33
  super := sup
  interfaces := #[]
  cf := none
  fields := #[]
  methods := #[]
  instanceTypes := #[]
  staticTypes := #[]
  resolved := #[]
  callSites := []
  init := .initialized
  statics := none
  mirror := none

def pool0 : Array CpInfo := pool [(5, u "<init>"), (0, u "()V"), (1, .class_ 10), (1, u "java/lang/Object")] 113

def k0c0 : Code := { maxStack := 0, maxLocals := 1, code := object_method_1_code, exceptionTable := #[], attributes := #[] }
def k0m0 : Method := { name := "<init>", desc := "()V", sig := { parameters := [], returnType := none }, accessFlags := 1, code := some k0c0 }
/-- java/lang/Object -/
def k0 : Class := { plain "java/lang/Object" none with
  accessFlags := 33
  interfaces := #[]
  cf := some (fileOf pool0 8 #[] #[{ accessFlags := 1, nameIndex := 5, descriptorIndex := 6, attributes := #[] }] 33 0 #[] #[])
  fields := #[]
  methods := #[k0m0]
  instanceTypes := #[]
  staticTypes := #[]
  resolved := Array.replicate 124 none
  statics := none }

def pool1 : Array CpInfo := pool [(2, .class_ 4), (0, .nameAndType 5 6), (0, u "java/lang/Object"), (0, u "<init>"), (0, u "()V"), (0, .long 48), (1, .long 3128), (1, .class_ 12), (0, u "com/example/thin_feed/thinfeed/store/LongFloorMap"), (0, .methodref 11 3), (0, .methodref 15 16), (0, .class_ 17), (0, .nameAndType 18 19), (0, u "java/lang/Integer"), (0, u "valueOf"), (0, u "(I)Ljava/lang/Integer;"), (0, .methodref 11 21), (0, .nameAndType 22 23), (0, u "bytes"), (0, u "()J"), (0, .methodref 25 26), (0, .class_ 27), (0, .nameAndType 28 29), (0, u "com/example/thin_feed/thinfeed/store/LongFloorMapBytesPinLaw"), (0, u "expected"), (0, u "(Z)J"), (0, .methodref 11 31), (0, .nameAndType 32 33), (0, u "put"), (0, u "(JLjava/lang/Object;)V"), (0, .methodref 11 35), (0, .nameAndType 36 37), (0, u "remove"), (0, u "(J)V"), (3, u "law"), (0, u "(JJJI)Z")] 2

def k1m0 : Method := { name := "<init>", desc := "()V", sig := { parameters := [], returnType := none }, accessFlags := 1, code := none }
def k1c1 : Code := { maxStack := 4, maxLocals := 5, code := method_2_code, exceptionTable := #[], attributes := #[] }
def k1m1 : Method := { name := "expected", desc := "(Z)J", sig := { parameters := [.boolean], returnType := some .long }, accessFlags := 10, code := some k1c1 }
def k1c2 : Code := { maxStack := 4, maxLocals := 12, code := code, exceptionTable := #[], attributes := #[] }
def k1m2 : Method := { name := "law", desc := "(JJJI)Z", sig := { parameters := [.long, .long, .long, .int], returnType := some .boolean }, accessFlags := 9, code := some k1c2 }
/-- com/example/thin_feed/thinfeed/store/LongFloorMapBytesPinLaw -/
def k1 : Class := { plain "com/example/thin_feed/thinfeed/store/LongFloorMapBytesPinLaw" (some 0) with
  accessFlags := 49
  interfaces := #[]
  cf := some (fileOf pool1 25 #[] #[{ accessFlags := 1, nameIndex := 5, descriptorIndex := 6, attributes := #[] }, { accessFlags := 10, nameIndex := 28, descriptorIndex := 29, attributes := #[] }, { accessFlags := 9, nameIndex := 41, descriptorIndex := 42, attributes := #[] }] 49 2 #[] #[])
  fields := #[]
  methods := #[k1m0, k1m1, k1m2]
  instanceTypes := #[]
  staticTypes := #[]
  resolved := Array.replicate 45 none
  statics := none }

def pool2 : Array CpInfo := pool [(8, .class_ 10), (1, u "java/lang/Iterable"), (24, .class_ 36), (0, u "java/lang/Object")] 25

/-- java/lang/Iterable -/
def k2 : Class := { plain "java/lang/Iterable" (some 0) with
  accessFlags := 1537
  interfaces := #[]
  cf := some (fileOf pool2 8 #[] #[] 1537 35 #[] #[])
  fields := #[]
  methods := #[]
  instanceTypes := #[]
  staticTypes := #[]
  resolved := Array.replicate 62 none
  statics := none }

def pool3 : Array CpInfo := pool [(1, .methodref 2 3), (0, .class_ 4), (0, .nameAndType 5 6), (0, u "java/lang/Object"), (0, u "<init>"), (0, u "()V"), (0, .fieldref 8 9), (0, .class_ 10), (0, .nameAndType 11 12), (0, u "com/example/thin_feed/thinfeed/store/LongFloorMap"), (0, u "firsts"), (0, u "[J"), (0, .class_ 14), (0, u "com/example/thin_feed/thinfeed/store/LongFloorMap$Shelf"), (0, .fieldref 8 16), (0, .nameAndType 17 18), (0, u "shelves"), (0, u "[Lcom/example/thin_feed/thinfeed/store/LongFloorMap$Shelf;"), (0, .fieldref 8 20), (0, .nameAndType 21 22), (0, u "shelfCount"), (0, u "I"), (0, .methodref 8 24), (0, .nameAndType 25 26), (0, u "floorIndex"), (0, u "([JIJ)I"), (0, .fieldref 13 28), (0, .nameAndType 29 12), (0, u "keys"), (0, .fieldref 13 31), (0, .nameAndType 32 22), (0, u "size"), (16, .methodref 13 3), (0, .methodref 8 51), (0, .nameAndType 52 53), (0, u "insertShelf"), (0, u "(ILcom/example/thin_feed/thinfeed/store/LongFloorMap$Shelf;)V"), (0, .methodref 55 56), (0, .class_ 57), (0, .nameAndType 58 59), (0, u "java/lang/Math"), (0, u "max"), (0, u "(II)I"), (0, .fieldref 13 61), (0, .nameAndType 62 63), (0, u "values"), (0, u "[Ljava/lang/Object;"), (3, u "(I)V"), (0, .methodref 69 70), (0, .class_ 71), (0, .nameAndType 72 73), (0, u "java/lang/System"), (0, u "arraycopy"), (0, u "(Ljava/lang/Object;ILjava/lang/Object;II)V"), (0, .fieldref 8 31), (0, .methodref 8 76), (0, .nameAndType 77 67), (0, u "removeShelf"), (0, .methodref 8 79), (0, .nameAndType 80 81), (0, u "joins"), (0, u "(I)Z"), (3, .methodref 86 87), (0, .class_ 88), (0, .nameAndType 89 90), (0, u "com/example/thin_feed/thinfeed/store/HeapBytes"), (0, u "array"), (0, u "(II)J"), (0, .long 24), (1, .class_ 94), (0, u "com/example/thin_feed/thinfeed/store/LongFloorMap$1"), (17, .class_ 113), (0, u "java/lang/Iterable"), (0, u "SHELF_ENTRIES"), (2, u "SHELF_BYTES"), (0, u "J"), (8, u "put"), (0, u "(JLjava/lang/Object;)V"), (1, u "remove"), (0, u "(J)V"), (1, u "bytes"), (0, u "()J")] 10

def k3c0 : Code := { maxStack := 2, maxLocals := 1, code := prog_25_method_1_code, exceptionTable := #[], attributes := #[] }
def k3m0 : Method := { name := "<init>", desc := "()V", sig := { parameters := [], returnType := none }, accessFlags := 0, code := some k3c0 }
def k3c1 : Code := { maxStack := 6, maxLocals := 8, code := prog_25_method_6_code, exceptionTable := #[], attributes := #[] }
def k3m1 : Method := { name := "put", desc := "(JLjava/lang/Object;)V", sig := { parameters := [.long, (.object "java/lang/Object")], returnType := none }, accessFlags := 0, code := some k3c1 }
def k3c2 : Code := { maxStack := 6, maxLocals := 6, code := prog_25_method_7_code, exceptionTable := #[], attributes := #[] }
def k3m2 : Method := { name := "remove", desc := "(J)V", sig := { parameters := [.long], returnType := none }, accessFlags := 0, code := some k3c2 }
def k3c3 : Code := { maxStack := 6, maxLocals := 5, code := prog_25_method_9_code, exceptionTable := #[], attributes := #[] }
def k3m3 : Method := { name := "bytes", desc := "()J", sig := { parameters := [], returnType := some .long }, accessFlags := 0, code := some k3c3 }
def k3c4 : Code := { maxStack := 4, maxLocals := 7, code := prog_25_method_11_code, exceptionTable := #[], attributes := #[] }
def k3m4 : Method := { name := "floorIndex", desc := "([JIJ)I", sig := { parameters := [(.array .long), .int, .long], returnType := some .int }, accessFlags := 10, code := some k3c4 }
def k3c5 : Code := { maxStack := 4, maxLocals := 2, code := prog_25_method_13_code, exceptionTable := #[], attributes := #[] }
def k3m5 : Method := { name := "joins", desc := "(I)Z", sig := { parameters := [.int], returnType := some .boolean }, accessFlags := 2, code := some k3c5 }
def k3c6 : Code := { maxStack := 6, maxLocals := 3, code := prog_25_method_15_code, exceptionTable := #[], attributes := #[] }
def k3m6 : Method := { name := "insertShelf", desc := "(ILcom/example/thin_feed/thinfeed/store/LongFloorMap$Shelf;)V", sig := { parameters := [.int, (.object "com/example/thin_feed/thinfeed/store/LongFloorMap$Shelf")], returnType := none }, accessFlags := 2, code := some k3c6 }
def k3c7 : Code := { maxStack := 6, maxLocals := 2, code := prog_25_method_16_code, exceptionTable := #[], attributes := #[] }
def k3m7 : Method := { name := "removeShelf", desc := "(I)V", sig := { parameters := [.int], returnType := none }, accessFlags := 2, code := some k3c7 }
/-- com/example/thin_feed/thinfeed/store/LongFloorMap -/
def k3 : Class := { plain "com/example/thin_feed/thinfeed/store/LongFloorMap" (some 0) with
  accessFlags := 48
  interfaces := #[2]
  cf := some (fileOf pool3 8 #[.nestMembers #[13, 93]] #[{ accessFlags := 0, nameIndex := 5, descriptorIndex := 6, attributes := #[] }, { accessFlags := 0, nameIndex := 127, descriptorIndex := 128, attributes := #[] }, { accessFlags := 0, nameIndex := 130, descriptorIndex := 131, attributes := #[] }, { accessFlags := 0, nameIndex := 133, descriptorIndex := 134, attributes := #[] }, { accessFlags := 10, nameIndex := 25, descriptorIndex := 26, attributes := #[] }, { accessFlags := 2, nameIndex := 80, descriptorIndex := 81, attributes := #[] }, { accessFlags := 2, nameIndex := 52, descriptorIndex := 53, attributes := #[] }, { accessFlags := 2, nameIndex := 77, descriptorIndex := 67, attributes := #[] }] 48 2 #[112] #[{ accessFlags := 26, nameIndex := 114, descriptorIndex := 22, attributes := #[] }, { accessFlags := 26, nameIndex := 117, descriptorIndex := 118, attributes := #[] }, { accessFlags := 2, nameIndex := 11, descriptorIndex := 12, attributes := #[] }, { accessFlags := 2, nameIndex := 17, descriptorIndex := 18, attributes := #[] }, { accessFlags := 2, nameIndex := 21, descriptorIndex := 22, attributes := #[] }, { accessFlags := 2, nameIndex := 32, descriptorIndex := 22, attributes := #[] }])
  fields := #[{ name := "SHELF_ENTRIES", type := .int, accessFlags := 26, slot := 0, constantValue := 0 }, { name := "SHELF_BYTES", type := .long, accessFlags := 26, slot := 1, constantValue := 0 }, { name := "firsts", type := (.array .long), accessFlags := 2, slot := 0, constantValue := 0 }, { name := "shelves", type := (.array (.object "com/example/thin_feed/thinfeed/store/LongFloorMap$Shelf")), accessFlags := 2, slot := 1, constantValue := 0 }, { name := "shelfCount", type := .int, accessFlags := 2, slot := 2, constantValue := 0 }, { name := "size", type := .int, accessFlags := 2, slot := 3, constantValue := 0 }]
  methods := #[k3m0, k3m1, k3m2, k3m3, k3m4, k3m5, k3m6, k3m7]
  instanceTypes := #[(.array .long), (.array (.object "com/example/thin_feed/thinfeed/store/LongFloorMap$Shelf")), .int, .int]
  staticTypes := #[.int, .long]
  resolved := ((((((Array.replicate 145 none).setIfInBounds 13 (some (.cls 4))).setIfInBounds 27 (some (.field 4 0))).setIfInBounds 30 (some (.field 4 2))).setIfInBounds 60 (some (.field 4 1))).setIfInBounds 49 (some (.method ⟨4, 0⟩)))
  statics := none }

def pool4 : Array CpInfo := pool [(1, .class_ 2), (0, u "com/example/thin_feed/thinfeed/store/LongFloorMap"), (0, .methodref 4 5), (0, .class_ 6), (0, .nameAndType 7 8), (0, u "java/lang/Object"), (0, u "<init>"), (0, u "()V"), (0, .fieldref 10 11), (0, .class_ 12), (0, .nameAndType 13 14), (0, u "com/example/thin_feed/thinfeed/store/LongFloorMap$Shelf"), (0, u "keys"), (0, u "[J"), (0, .fieldref 10 16), (0, .nameAndType 17 18), (0, u "values"), (0, u "[Ljava/lang/Object;"), (0, u "size"), (0, u "I")] 7

def k4c0 : Code := { maxStack := 2, maxLocals := 1, code := prog_27_method_1_code, exceptionTable := #[], attributes := #[] }
def k4m0 : Method := { name := "<init>", desc := "()V", sig := { parameters := [], returnType := none }, accessFlags := 2, code := some k4c0 }
/-- com/example/thin_feed/thinfeed/store/LongFloorMap$Shelf -/
def k4 : Class := { plain "com/example/thin_feed/thinfeed/store/LongFloorMap$Shelf" (some 0) with
  accessFlags := 48
  interfaces := #[]
  cf := some (fileOf pool4 10 #[.nestHost 1] #[{ accessFlags := 2, nameIndex := 7, descriptorIndex := 8, attributes := #[] }] 48 4 #[] #[{ accessFlags := 18, nameIndex := 13, descriptorIndex := 14, attributes := #[] }, { accessFlags := 18, nameIndex := 17, descriptorIndex := 18, attributes := #[] }, { accessFlags := 2, nameIndex := 19, descriptorIndex := 20, attributes := #[] }])
  fields := #[{ name := "keys", type := (.array .long), accessFlags := 18, slot := 0, constantValue := 0 }, { name := "values", type := (.array (.object "java/lang/Object")), accessFlags := 18, slot := 1, constantValue := 0 }, { name := "size", type := .int, accessFlags := 2, slot := 2, constantValue := 0 }]
  methods := #[k4m0]
  instanceTypes := #[(.array .long), (.array (.object "java/lang/Object")), .int]
  staticTypes := #[]
  resolved := Array.replicate 28 none
  statics := none }

def pool5 : Array CpInfo := pool [(1, .class_ 2), (0, u "java/io/Serializable"), (0, .class_ 4), (0, u "java/lang/Object")] 2

/-- java/io/Serializable -/
def k5 : Class := { plain "java/io/Serializable" (some 0) with
  accessFlags := 1537
  interfaces := #[]
  cf := some (fileOf pool5 1 #[] #[] 1537 3 #[] #[])
  fields := #[]
  methods := #[]
  instanceTypes := #[]
  staticTypes := #[]
  resolved := Array.replicate 7 none
  statics := none }

def pool6 : Array CpInfo := pool [(1, .methodref 2 3), (0, .class_ 4), (0, .nameAndType 5 6), (0, u "java/lang/Object"), (0, u "<init>"), (0, u "()V"), (1, .class_ 10), (1, u "java/lang/Number"), (2, .class_ 14), (0, u "java/io/Serializable"), (0, u "serialVersionUID"), (0, u "J")] 20

def k6c0 : Code := { maxStack := 1, maxLocals := 1, code := jdk_18_method_1_code, exceptionTable := #[], attributes := #[] }
def k6m0 : Method := { name := "<init>", desc := "()V", sig := { parameters := [], returnType := none }, accessFlags := 1, code := some k6c0 }
/-- java/lang/Number -/
def k6 : Class := { plain "java/lang/Number" (some 0) with
  accessFlags := 1057
  interfaces := #[5]
  cf := some (fileOf pool6 8 #[] #[{ accessFlags := 1, nameIndex := 5, descriptorIndex := 6, attributes := #[] }] 1057 2 #[13] #[{ accessFlags := 26, nameIndex := 15, descriptorIndex := 16, attributes := #[] }])
  fields := #[{ name := "serialVersionUID", type := .long, accessFlags := 26, slot := 0, constantValue := 0 }]
  methods := #[k6m0]
  instanceTypes := #[]
  staticTypes := #[.long]
  resolved := Array.replicate 37 none
  statics := none }

def pool7 : Array CpInfo := pool [(1, .class_ 2), (0, u "java/lang/Comparable"), (0, .class_ 4), (0, u "java/lang/Object")] 7

/-- java/lang/Comparable -/
def k7 : Class := { plain "java/lang/Comparable" (some 0) with
  accessFlags := 1537
  interfaces := #[]
  cf := some (fileOf pool7 1 #[] #[] 1537 3 #[] #[])
  fields := #[]
  methods := #[]
  instanceTypes := #[]
  staticTypes := #[]
  resolved := Array.replicate 12 none
  statics := none }

def pool8 : Array CpInfo := pool [(1, .class_ 2), (0, u "java/lang/constant/Constable"), (0, .class_ 4), (0, u "java/lang/Object")] 6

/-- java/lang/constant/Constable -/
def k8 : Class := { plain "java/lang/constant/Constable" (some 0) with
  accessFlags := 1537
  interfaces := #[]
  cf := some (fileOf pool8 1 #[] #[] 1537 3 #[] #[])
  fields := #[]
  methods := #[]
  instanceTypes := #[]
  staticTypes := #[]
  resolved := Array.replicate 11 none
  statics := none }

def pool9 : Array CpInfo := pool [(1, .class_ 2), (0, u "java/lang/constant/ConstantDesc"), (0, .class_ 4), (0, u "java/lang/Object")] 32

/-- java/lang/constant/ConstantDesc -/
def k9 : Class := { plain "java/lang/constant/ConstantDesc" (some 0) with
  accessFlags := 1537
  interfaces := #[]
  cf := some (fileOf pool9 1 #[] #[] 1537 3 #[] #[])
  fields := #[]
  methods := #[]
  instanceTypes := #[]
  staticTypes := #[]
  resolved := Array.replicate 37 none
  statics := none }

def pool10 : Array CpInfo := pool [(1, .class_ 2), (0, u "java/lang/Integer"), (16, u "digits"), (0, u "[C"), (46, u "<init>"), (17, u "DigitOnes"), (0, u "[B"), (2, u "DigitTens"), (10, .nameAndType 67 101), (0, u "()V"), (85, u "valueOf"), (0, u "(I)Ljava/lang/Integer;"), (0, .class_ 190), (0, u "java/lang/Integer$IntegerCache"), (0, .fieldref 189 192), (0, .nameAndType 193 194), (0, u "high"), (0, u "I"), (0, .fieldref 189 196), (0, .nameAndType 197 198), (0, u "cache"), (0, u "[Ljava/lang/Integer;"), (0, .methodref 1 200), (0, .nameAndType 67 201), (0, u "(I)V"), (0, .methodref 203 100), (0, .class_ 204), (0, u "java/lang/Number"), (0, .fieldref 1 206), (0, .nameAndType 207 194), (0, u "value"), (94, u "TYPE"), (0, u "Ljava/lang/Class;"), (0, .class_ 305), (0, u "java/lang/Comparable"), (0, .class_ 307), (0, u "java/lang/constant/Constable"), (0, .class_ 309), (0, u "java/lang/constant/ConstantDesc"), (0, u "MIN_VALUE"), (1, u "MAX_VALUE"), (3, u "SIZE"), (1, u "BYTES"), (1, u "serialVersionUID"), (0, u "J")] 131

def k10c0 : Code := { maxStack := 3, maxLocals := 1, code := jdk_33_method_22_code, exceptionTable := #[], attributes := #[] }
def k10m0 : Method := { name := "valueOf", desc := "(I)Ljava/lang/Integer;", sig := { parameters := [.int], returnType := some (.object "java/lang/Integer") }, accessFlags := 9, code := some k10c0 }
def k10c1 : Code := { maxStack := 2, maxLocals := 2, code := jdk_33_method_23_code, exceptionTable := #[], attributes := #[] }
def k10m1 : Method := { name := "<init>", desc := "(I)V", sig := { parameters := [.int], returnType := none }, accessFlags := 1, code := some k10c1 }
/-- java/lang/Integer -/
def k10 : Class := { plain "java/lang/Integer" (some 6) with
  accessFlags := 49
  interfaces := #[7, 8, 9]
  cf := some (fileOf pool10 1 #[.nestMembers #[189]] #[{ accessFlags := 9, nameIndex := 187, descriptorIndex := 188, attributes := #[] }, { accessFlags := 1, nameIndex := 67, descriptorIndex := 201, attributes := #[] }] 49 203 #[304, 306, 308] #[{ accessFlags := 25, nameIndex := 310, descriptorIndex := 194, attributes := #[] }, { accessFlags := 25, nameIndex := 312, descriptorIndex := 194, attributes := #[] }, { accessFlags := 25, nameIndex := 302, descriptorIndex := 303, attributes := #[] }, { accessFlags := 24, nameIndex := 19, descriptorIndex := 20, attributes := #[] }, { accessFlags := 24, nameIndex := 89, descriptorIndex := 86, attributes := #[] }, { accessFlags := 24, nameIndex := 85, descriptorIndex := 86, attributes := #[] }, { accessFlags := 18, nameIndex := 207, descriptorIndex := 194, attributes := #[] }, { accessFlags := 25, nameIndex := 316, descriptorIndex := 194, attributes := #[] }, { accessFlags := 25, nameIndex := 318, descriptorIndex := 194, attributes := #[] }, { accessFlags := 26, nameIndex := 320, descriptorIndex := 321, attributes := #[] }])
  fields := #[{ name := "MIN_VALUE", type := .int, accessFlags := 25, slot := 0, constantValue := 0 }, { name := "MAX_VALUE", type := .int, accessFlags := 25, slot := 1, constantValue := 0 }, { name := "TYPE", type := (.object "java/lang/Class"), accessFlags := 25, slot := 2, constantValue := 0 }, { name := "digits", type := (.array .char), accessFlags := 24, slot := 3, constantValue := 0 }, { name := "DigitTens", type := (.array .byte), accessFlags := 24, slot := 4, constantValue := 0 }, { name := "DigitOnes", type := (.array .byte), accessFlags := 24, slot := 5, constantValue := 0 }, { name := "value", type := .int, accessFlags := 18, slot := 0, constantValue := 0 }, { name := "SIZE", type := .int, accessFlags := 25, slot := 6, constantValue := 0 }, { name := "BYTES", type := .int, accessFlags := 25, slot := 7, constantValue := 0 }, { name := "serialVersionUID", type := .long, accessFlags := 26, slot := 8, constantValue := 0 }]
  methods := #[k10m0, k10m1]
  instanceTypes := #[.int]
  staticTypes := #[.int, .int, (.object "java/lang/Class"), (.array .char), (.array .byte), (.array .byte), .int, .int, .long]
  resolved := Array.replicate 453 none
  statics := none }

def pool11 : Array CpInfo := pool [(2, .class_ 4), (1, u "java/lang/Object"), (0, u "<init>"), (0, u "()V"), (0, .class_ 8), (0, u "java/lang/Integer"), (7, .class_ 18), (1, u "java/lang/Integer$IntegerCache"), (0, u "$assertionsDisabled"), (0, u "Z"), (26, u "high"), (0, u "I"), (8, u "archivedCache"), (0, u "[Ljava/lang/Integer;"), (12, u "cache"), (0, u "low")] 27

def k11m0 : Method := { name := "<init>", desc := "()V", sig := { parameters := [], returnType := none }, accessFlags := 2, code := none }
/-- java/lang/Integer$IntegerCache -/
def k11 : Class := { plain "java/lang/Integer$IntegerCache" (some 0) with
  accessFlags := 48
  interfaces := #[]
  cf := some (fileOf pool11 16 #[.nestHost 7] #[{ accessFlags := 2, nameIndex := 5, descriptorIndex := 6, attributes := #[] }] 48 2 #[] #[{ accessFlags := 24, nameIndex := 72, descriptorIndex := 48, attributes := #[] }, { accessFlags := 24, nameIndex := 47, descriptorIndex := 48, attributes := #[] }, { accessFlags := 24, nameIndex := 71, descriptorIndex := 58, attributes := #[] }, { accessFlags := 8, nameIndex := 57, descriptorIndex := 58, attributes := #[] }, { accessFlags := 4120, nameIndex := 19, descriptorIndex := 20, attributes := #[] }])
  fields := #[{ name := "low", type := .int, accessFlags := 24, slot := 0, constantValue := 0 }, { name := "high", type := .int, accessFlags := 24, slot := 1, constantValue := 0 }, { name := "cache", type := (.array (.object "java/lang/Integer")), accessFlags := 24, slot := 2, constantValue := 0 }, { name := "archivedCache", type := (.array (.object "java/lang/Integer")), accessFlags := 8, slot := 3, constantValue := 0 }, { name := "$assertionsDisabled", type := .boolean, accessFlags := 4120, slot := 4, constantValue := 0 }]
  methods := #[k11m0]
  instanceTypes := #[]
  staticTypes := #[.int, .int, (.array (.object "java/lang/Integer")), (.array (.object "java/lang/Integer")), .boolean]
  resolved := Array.replicate 100 none
  statics := some 0 }

def pool12 : Array CpInfo := pool [(2, .class_ 4), (1, u "java/lang/Object"), (0, u "<init>"), (0, u "()V"), (0, .class_ 8), (0, u "com/example/thin_feed/thinfeed/store/HeapBytes"), (0, .long 16), (1, .long 7), (1, .long 18446744073709551608), (1, u "TREE_MAP_ENTRY"), (0, u "J"), (3, u "REFERENCE"), (0, u "I"), (1, u "ARRAY_HEADER"), (3, u "array"), (0, u "(II)J")] 2

def k12m0 : Method := { name := "<init>", desc := "()V", sig := { parameters := [], returnType := none }, accessFlags := 2, code := none }
def k12c1 : Code := { maxStack := 6, maxLocals := 2, code := prog_24_method_2_code, exceptionTable := #[], attributes := #[] }
def k12m1 : Method := { name := "array", desc := "(II)J", sig := { parameters := [.int, .int], returnType := some .long }, accessFlags := 8, code := some k12c1 }
/-- com/example/thin_feed/thinfeed/store/HeapBytes -/
def k12 : Class := { plain "com/example/thin_feed/thinfeed/store/HeapBytes" (some 0) with
  accessFlags := 48
  interfaces := #[]
  cf := some (fileOf pool12 7 #[] #[{ accessFlags := 2, nameIndex := 5, descriptorIndex := 6, attributes := #[] }, { accessFlags := 8, nameIndex := 27, descriptorIndex := 28, attributes := #[] }] 48 2 #[] #[{ accessFlags := 24, nameIndex := 15, descriptorIndex := 16, attributes := #[] }, { accessFlags := 24, nameIndex := 20, descriptorIndex := 21, attributes := #[] }, { accessFlags := 26, nameIndex := 23, descriptorIndex := 21, attributes := #[] }])
  fields := #[{ name := "TREE_MAP_ENTRY", type := .long, accessFlags := 24, slot := 0, constantValue := 0 }, { name := "REFERENCE", type := .int, accessFlags := 24, slot := 1, constantValue := 0 }, { name := "ARRAY_HEADER", type := .int, accessFlags := 26, slot := 2, constantValue := 0 }]
  methods := #[k12m0, k12m1]
  instanceTypes := #[]
  staticTypes := #[.long, .int, .int]
  resolved := Array.replicate 31 none
  statics := none }

def pool13 : Array CpInfo := pool [(2, .class_ 4), (1, u "java/lang/Object"), (0, u "<init>"), (0, u "()V"), (1, .class_ 10), (1, u "java/lang/System"), (0, u "allowSecurityManager"), (0, u "I"), (16, u "cons"), (0, u "Ljava/io/Console;"), (77, .class_ 110), (1, u "java/lang/System$CallersHolder"), (43, u "initialErrStream"), (0, u "Ljava/io/PrintStream;"), (19, u "security"), (0, u "Ljava/lang/SecurityManager;"), (31, .class_ 209), (0, u "java/lang/System$1"), (7, u "props"), (0, u "Ljava/util/Properties;"), (2, u "lineSeparator"), (0, u "Ljava/lang/String;"), (96, .class_ 321), (1, u "java/lang/System$LoggerFinder"), (5, .class_ 328), (0, u "java/lang/System$Logger"), (67, u "err"), (2, u "out"), (91, u "notSupportedJnuEncoding"), (15, u "in"), (17, u "initialIn"), (0, u "Ljava/io/InputStream;"), (35, u "bootLayer"), (0, u "Ljava/lang/ModuleLayer;"), (99, .class_ 664), (0, u "java/lang/System$2"), (9, u "NEVER"), (2, u "MAYBE"), (49, u "arraycopy"), (0, u "(Ljava/lang/Object;ILjava/lang/Object;II)V"), (72, .class_ 802), (0, u "java/lang/System$Logger$Level")] 31

def k13m0 : Method := { name := "<init>", desc := "()V", sig := { parameters := [], returnType := none }, accessFlags := 2, code := none }
def k13m1 : Method := { name := "arraycopy", desc := "(Ljava/lang/Object;ILjava/lang/Object;II)V", sig := { parameters := [(.object "java/lang/Object"), .int, (.object "java/lang/Object"), .int, .int], returnType := none }, accessFlags := 265, code := none }
/-- java/lang/System -/
def k13 : Class := { plain "java/lang/System" (some 0) with
  accessFlags := 49
  interfaces := #[]
  cf := some (fileOf pool13 8 #[.nestMembers #[319, 327, 801, 108, 663, 208]] #[{ accessFlags := 2, nameIndex := 5, descriptorIndex := 6, attributes := #[] }, { accessFlags := 265, nameIndex := 727, descriptorIndex := 728, attributes := #[] }] 49 2 #[] #[{ accessFlags := 25, nameIndex := 507, descriptorIndex := 526, attributes := #[] }, { accessFlags := 25, nameIndex := 399, descriptorIndex := 155, attributes := #[] }, { accessFlags := 25, nameIndex := 396, descriptorIndex := 155, attributes := #[] }, { accessFlags := 10, nameIndex := 525, descriptorIndex := 526, attributes := #[] }, { accessFlags := 26, nameIndex := 674, descriptorIndex := 12, attributes := #[] }, { accessFlags := 26, nameIndex := 677, descriptorIndex := 12, attributes := #[] }, { accessFlags := 10, nameIndex := 11, descriptorIndex := 12, attributes := #[] }, { accessFlags := 74, nameIndex := 175, descriptorIndex := 176, attributes := #[] }, { accessFlags := 10, nameIndex := 491, descriptorIndex := 222, attributes := #[] }, { accessFlags := 74, nameIndex := 29, descriptorIndex := 30, attributes := #[] }, { accessFlags := 74, nameIndex := 154, descriptorIndex := 155, attributes := #[] }, { accessFlags := 10, nameIndex := 217, descriptorIndex := 218, attributes := #[] }, { accessFlags := 10, nameIndex := 221, descriptorIndex := 222, attributes := #[] }, { accessFlags := 8, nameIndex := 562, descriptorIndex := 563, attributes := #[] }])
  fields := #[{ name := "in", type := (.object "java/io/InputStream"), accessFlags := 25, slot := 0, constantValue := 0 }, { name := "out", type := (.object "java/io/PrintStream"), accessFlags := 25, slot := 1, constantValue := 0 }, { name := "err", type := (.object "java/io/PrintStream"), accessFlags := 25, slot := 2, constantValue := 0 }, { name := "initialIn", type := (.object "java/io/InputStream"), accessFlags := 10, slot := 3, constantValue := 0 }, { name := "NEVER", type := .int, accessFlags := 26, slot := 4, constantValue := 0 }, { name := "MAYBE", type := .int, accessFlags := 26, slot := 5, constantValue := 0 }, { name := "allowSecurityManager", type := .int, accessFlags := 10, slot := 6, constantValue := 0 }, { name := "security", type := (.object "java/lang/SecurityManager"), accessFlags := 74, slot := 7, constantValue := 0 }, { name := "notSupportedJnuEncoding", type := (.object "java/lang/String"), accessFlags := 10, slot := 8, constantValue := 0 }, { name := "cons", type := (.object "java/io/Console"), accessFlags := 74, slot := 9, constantValue := 0 }, { name := "initialErrStream", type := (.object "java/io/PrintStream"), accessFlags := 74, slot := 10, constantValue := 0 }, { name := "props", type := (.object "java/util/Properties"), accessFlags := 10, slot := 11, constantValue := 0 }, { name := "lineSeparator", type := (.object "java/lang/String"), accessFlags := 10, slot := 12, constantValue := 0 }, { name := "bootLayer", type := (.object "java/lang/ModuleLayer"), accessFlags := 8, slot := 13, constantValue := 0 }]
  methods := #[k13m0, k13m1]
  instanceTypes := #[]
  staticTypes := #[(.object "java/io/InputStream"), (.object "java/io/PrintStream"), (.object "java/io/PrintStream"), (.object "java/io/InputStream"), .int, .int, .int, (.object "java/lang/SecurityManager"), (.object "java/lang/String"), (.object "java/io/Console"), (.object "java/io/PrintStream"), (.object "java/util/Properties"), (.object "java/lang/String"), (.object "java/lang/ModuleLayer")]
  resolved := Array.replicate 834 none
  statics := none }

def pool14 : Array CpInfo := pool [(1, .class_ 2), (0, u "java/lang/Math"), (1, .class_ 6), (1, u "java/lang/Object"), (0, u "<init>"), (0, u "()V"), (89, .class_ 100), (1, u "java/lang/Math$RandomNumberGeneratorHolder"), (71, u "negativeZeroFloatBits"), (0, u "J"), (2, u "negativeZeroDoubleBits"), (21, u "max"), (46, u "$assertionsDisabled"), (0, u "Z"), (88, u "(II)I"), (2, u "twoToTheDoubleScaleDown"), (0, u "D"), (4, u "twoToTheDoubleScaleUp"), (9, u "E"), (3, u "PI"), (2, u "TAU"), (2, u "DEGREES_TO_RADIANS"), (0, u "RADIANS_TO_DEGREES")] 94

def k14m0 : Method := { name := "<init>", desc := "()V", sig := { parameters := [], returnType := none }, accessFlags := 2, code := none }
def k14c1 : Code := { maxStack := 2, maxLocals := 2, code := jdk_29_method_65_code, exceptionTable := #[], attributes := #[] }
def k14m1 : Method := { name := "max", desc := "(II)I", sig := { parameters := [.int, .int], returnType := some .int }, accessFlags := 9, code := some k14c1 }
/-- java/lang/Math -/
def k14 : Class := { plain "java/lang/Math" (some 0) with
  accessFlags := 49
  interfaces := #[]
  cf := some (fileOf pool14 1 #[.nestMembers #[98]] #[{ accessFlags := 2, nameIndex := 7, descriptorIndex := 8, attributes := #[] }, { accessFlags := 9, nameIndex := 198, descriptorIndex := 335, attributes := #[] }] 49 4 #[] #[{ accessFlags := 25, nameIndex := 354, descriptorIndex := 339, attributes := #[] }, { accessFlags := 25, nameIndex := 358, descriptorIndex := 339, attributes := #[] }, { accessFlags := 25, nameIndex := 361, descriptorIndex := 339, attributes := #[] }, { accessFlags := 26, nameIndex := 364, descriptorIndex := 339, attributes := #[] }, { accessFlags := 26, nameIndex := 365, descriptorIndex := 339, attributes := #[] }, { accessFlags := 26, nameIndex := 172, descriptorIndex := 173, attributes := #[] }, { accessFlags := 26, nameIndex := 176, descriptorIndex := 173, attributes := #[] }, { accessFlags := 8, nameIndex := 344, descriptorIndex := 339, attributes := #[] }, { accessFlags := 8, nameIndex := 338, descriptorIndex := 339, attributes := #[] }, { accessFlags := 4120, nameIndex := 245, descriptorIndex := 246, attributes := #[] }])
  fields := #[{ name := "E", type := .double, accessFlags := 25, slot := 0, constantValue := 0 }, { name := "PI", type := .double, accessFlags := 25, slot := 1, constantValue := 0 }, { name := "TAU", type := .double, accessFlags := 25, slot := 2, constantValue := 0 }, { name := "DEGREES_TO_RADIANS", type := .double, accessFlags := 26, slot := 3, constantValue := 0 }, { name := "RADIANS_TO_DEGREES", type := .double, accessFlags := 26, slot := 4, constantValue := 0 }, { name := "negativeZeroFloatBits", type := .long, accessFlags := 26, slot := 5, constantValue := 0 }, { name := "negativeZeroDoubleBits", type := .long, accessFlags := 26, slot := 6, constantValue := 0 }, { name := "twoToTheDoubleScaleUp", type := .double, accessFlags := 8, slot := 7, constantValue := 0 }, { name := "twoToTheDoubleScaleDown", type := .double, accessFlags := 8, slot := 8, constantValue := 0 }, { name := "$assertionsDisabled", type := .boolean, accessFlags := 4120, slot := 9, constantValue := 0 }]
  methods := #[k14m0, k14m1]
  instanceTypes := #[]
  staticTypes := #[.double, .double, .double, .double, .double, .long, .long, .double, .double, .boolean]
  resolved := Array.replicate 460 none
  statics := none }

def pool15 : Array CpInfo := pool [(1, u "java/lang/Cloneable"), (0, .class_ 1), (0, u "java/lang/Object"), (0, .class_ 3)] 3

/-- java/lang/Cloneable -/
def k15 : Class := { plain "java/lang/Cloneable" (some 0) with
  accessFlags := 1537
  interfaces := #[]
  cf := some (fileOf pool15 2 #[] #[] 1537 4 #[] #[])
  fields := #[]
  methods := #[]
  instanceTypes := #[]
  staticTypes := #[]
  resolved := Array.replicate 8 none
  statics := none }

/-- the primitive byte -/
def k16 : Class := { plain "byte" none with kind := .primitive 'B', accessFlags := 0x411 }
/-- [B -/
def k17 : Class := { plain "[B" (some 0) with kind := .array 16 .byte, interfaces := #[15, 5], accessFlags := 1041 }

/-- the primitive int -/
def k18 : Class := { plain "int" none with kind := .primitive 'I', accessFlags := 0x411 }
/-- [I -/
def k19 : Class := { plain "[I" (some 0) with kind := .array 18 .int, interfaces := #[15, 5], accessFlags := 1041 }

/-- the primitive long -/
def k20 : Class := { plain "long" none with kind := .primitive 'J', accessFlags := 0x411 }
/-- [J -/
def k21 : Class := { plain "[J" (some 0) with kind := .array 20 .long, interfaces := #[15, 5], accessFlags := 1041 }

/-- [Lcom/example/thin_feed/thinfeed/store/LongFloorMap$Shelf; -/
def k22 : Class := { plain "[Lcom/example/thin_feed/thinfeed/store/LongFloorMap$Shelf;" (some 0) with kind := .array 4 (.object "com/example/thin_feed/thinfeed/store/LongFloorMap$Shelf"), interfaces := #[15, 5], accessFlags := 1041 }

/-- [Ljava/lang/Integer; -/
def k23 : Class := { plain "[Ljava/lang/Integer;" (some 0) with kind := .array 10 (.object "java/lang/Integer"), interfaces := #[15, 5], accessFlags := 1041 }

/-- [Ljava/lang/Object; -/
def k24 : Class := { plain "[Ljava/lang/Object;" (some 0) with kind := .array 0 (.object "java/lang/Object"), interfaces := #[15, 5], accessFlags := 1041 }

def heap : Heap := #[{ cls := 11, slots := #[.int 0, .int 127, .ref 1, .null, .int 0], vm := .statics 11 },
  { cls := 23, slots := #[.ref 2, .ref 3, .ref 4, .ref 5, .ref 6, .ref 7, .ref 8, .ref 9, .ref 10, .ref 11, .ref 12, .ref 13, .ref 14, .ref 15, .ref 16, .ref 17, .ref 18, .ref 19, .ref 20, .ref 21, .ref 22, .ref 23, .ref 24, .ref 25, .ref 26, .ref 27, .ref 28, .ref 29, .ref 30, .ref 31, .ref 32, .ref 33, .ref 34, .ref 35, .ref 36, .ref 37, .ref 38, .ref 39, .ref 40, .ref 41, .ref 42, .ref 43, .ref 44, .ref 45, .ref 46, .ref 47, .ref 48, .ref 49, .ref 50, .ref 51, .ref 52, .ref 53, .ref 54, .ref 55, .ref 56, .ref 57, .ref 58, .ref 59, .ref 60, .ref 61, .ref 62, .ref 63, .ref 64, .ref 65, .ref 66, .ref 67, .ref 68, .ref 69, .ref 70, .ref 71, .ref 72, .ref 73, .ref 74, .ref 75, .ref 76, .ref 77, .ref 78, .ref 79, .ref 80, .ref 81, .ref 82, .ref 83, .ref 84, .ref 85, .ref 86, .ref 87, .ref 88, .ref 89, .ref 90, .ref 91, .ref 92, .ref 93, .ref 94, .ref 95, .ref 96, .ref 97, .ref 98, .ref 99, .ref 100, .ref 101, .ref 102, .ref 103, .ref 104, .ref 105, .ref 106, .ref 107, .ref 108, .ref 109, .ref 110, .ref 111, .ref 112, .ref 113, .ref 114, .ref 115, .ref 116, .ref 117, .ref 118, .ref 119, .ref 120, .ref 121, .ref 122, .ref 123, .ref 124, .ref 125, .ref 126, .ref 127, .ref 128, .ref 129, .ref 130, .ref 131, .ref 132, .ref 133, .ref 134, .ref 135, .ref 136, .ref 137, .ref 138, .ref 139, .ref 140, .ref 141, .ref 142, .ref 143, .ref 144, .ref 145, .ref 146, .ref 147, .ref 148, .ref 149, .ref 150, .ref 151, .ref 152, .ref 153, .ref 154, .ref 155, .ref 156, .ref 157, .ref 158, .ref 159, .ref 160, .ref 161, .ref 162, .ref 163, .ref 164, .ref 165, .ref 166, .ref 167, .ref 168, .ref 169, .ref 170, .ref 171, .ref 172, .ref 173, .ref 174, .ref 175, .ref 176, .ref 177, .ref 178, .ref 179, .ref 180, .ref 181, .ref 182, .ref 183, .ref 184, .ref 185, .ref 186, .ref 187, .ref 188, .ref 189, .ref 190, .ref 191, .ref 192, .ref 193, .ref 194, .ref 195, .ref 196, .ref 197, .ref 198, .ref 199, .ref 200, .ref 201, .ref 202, .ref 203, .ref 204, .ref 205, .ref 206, .ref 207, .ref 208, .ref 209, .ref 210, .ref 211, .ref 212, .ref 213, .ref 214, .ref 215, .ref 216, .ref 217, .ref 218, .ref 219, .ref 220, .ref 221, .ref 222, .ref 223, .ref 224, .ref 225, .ref 226, .ref 227, .ref 228, .ref 229, .ref 230, .ref 231, .ref 232, .ref 233, .ref 234, .ref 235, .ref 236, .ref 237, .ref 238, .ref 239, .ref 240, .ref 241, .ref 242, .ref 243, .ref 244, .ref 245, .ref 246, .ref 247, .ref 248, .ref 249, .ref 250, .ref 251, .ref 252, .ref 253, .ref 254, .ref 255, .ref 256, .ref 257], vm := .none },
  { cls := 10, slots := #[.int (-128)], vm := .none },
  { cls := 10, slots := #[.int (-127)], vm := .none },
  { cls := 10, slots := #[.int (-126)], vm := .none },
  { cls := 10, slots := #[.int (-125)], vm := .none },
  { cls := 10, slots := #[.int (-124)], vm := .none },
  { cls := 10, slots := #[.int (-123)], vm := .none },
  { cls := 10, slots := #[.int (-122)], vm := .none },
  { cls := 10, slots := #[.int (-121)], vm := .none },
  { cls := 10, slots := #[.int (-120)], vm := .none },
  { cls := 10, slots := #[.int (-119)], vm := .none },
  { cls := 10, slots := #[.int (-118)], vm := .none },
  { cls := 10, slots := #[.int (-117)], vm := .none },
  { cls := 10, slots := #[.int (-116)], vm := .none },
  { cls := 10, slots := #[.int (-115)], vm := .none },
  { cls := 10, slots := #[.int (-114)], vm := .none },
  { cls := 10, slots := #[.int (-113)], vm := .none },
  { cls := 10, slots := #[.int (-112)], vm := .none },
  { cls := 10, slots := #[.int (-111)], vm := .none },
  { cls := 10, slots := #[.int (-110)], vm := .none },
  { cls := 10, slots := #[.int (-109)], vm := .none },
  { cls := 10, slots := #[.int (-108)], vm := .none },
  { cls := 10, slots := #[.int (-107)], vm := .none },
  { cls := 10, slots := #[.int (-106)], vm := .none },
  { cls := 10, slots := #[.int (-105)], vm := .none },
  { cls := 10, slots := #[.int (-104)], vm := .none },
  { cls := 10, slots := #[.int (-103)], vm := .none },
  { cls := 10, slots := #[.int (-102)], vm := .none },
  { cls := 10, slots := #[.int (-101)], vm := .none },
  { cls := 10, slots := #[.int (-100)], vm := .none },
  { cls := 10, slots := #[.int (-99)], vm := .none },
  { cls := 10, slots := #[.int (-98)], vm := .none },
  { cls := 10, slots := #[.int (-97)], vm := .none },
  { cls := 10, slots := #[.int (-96)], vm := .none },
  { cls := 10, slots := #[.int (-95)], vm := .none },
  { cls := 10, slots := #[.int (-94)], vm := .none },
  { cls := 10, slots := #[.int (-93)], vm := .none },
  { cls := 10, slots := #[.int (-92)], vm := .none },
  { cls := 10, slots := #[.int (-91)], vm := .none },
  { cls := 10, slots := #[.int (-90)], vm := .none },
  { cls := 10, slots := #[.int (-89)], vm := .none },
  { cls := 10, slots := #[.int (-88)], vm := .none },
  { cls := 10, slots := #[.int (-87)], vm := .none },
  { cls := 10, slots := #[.int (-86)], vm := .none },
  { cls := 10, slots := #[.int (-85)], vm := .none },
  { cls := 10, slots := #[.int (-84)], vm := .none },
  { cls := 10, slots := #[.int (-83)], vm := .none },
  { cls := 10, slots := #[.int (-82)], vm := .none },
  { cls := 10, slots := #[.int (-81)], vm := .none },
  { cls := 10, slots := #[.int (-80)], vm := .none },
  { cls := 10, slots := #[.int (-79)], vm := .none },
  { cls := 10, slots := #[.int (-78)], vm := .none },
  { cls := 10, slots := #[.int (-77)], vm := .none },
  { cls := 10, slots := #[.int (-76)], vm := .none },
  { cls := 10, slots := #[.int (-75)], vm := .none },
  { cls := 10, slots := #[.int (-74)], vm := .none },
  { cls := 10, slots := #[.int (-73)], vm := .none },
  { cls := 10, slots := #[.int (-72)], vm := .none },
  { cls := 10, slots := #[.int (-71)], vm := .none },
  { cls := 10, slots := #[.int (-70)], vm := .none },
  { cls := 10, slots := #[.int (-69)], vm := .none },
  { cls := 10, slots := #[.int (-68)], vm := .none },
  { cls := 10, slots := #[.int (-67)], vm := .none },
  { cls := 10, slots := #[.int (-66)], vm := .none },
  { cls := 10, slots := #[.int (-65)], vm := .none },
  { cls := 10, slots := #[.int (-64)], vm := .none },
  { cls := 10, slots := #[.int (-63)], vm := .none },
  { cls := 10, slots := #[.int (-62)], vm := .none },
  { cls := 10, slots := #[.int (-61)], vm := .none },
  { cls := 10, slots := #[.int (-60)], vm := .none },
  { cls := 10, slots := #[.int (-59)], vm := .none },
  { cls := 10, slots := #[.int (-58)], vm := .none },
  { cls := 10, slots := #[.int (-57)], vm := .none },
  { cls := 10, slots := #[.int (-56)], vm := .none },
  { cls := 10, slots := #[.int (-55)], vm := .none },
  { cls := 10, slots := #[.int (-54)], vm := .none },
  { cls := 10, slots := #[.int (-53)], vm := .none },
  { cls := 10, slots := #[.int (-52)], vm := .none },
  { cls := 10, slots := #[.int (-51)], vm := .none },
  { cls := 10, slots := #[.int (-50)], vm := .none },
  { cls := 10, slots := #[.int (-49)], vm := .none },
  { cls := 10, slots := #[.int (-48)], vm := .none },
  { cls := 10, slots := #[.int (-47)], vm := .none },
  { cls := 10, slots := #[.int (-46)], vm := .none },
  { cls := 10, slots := #[.int (-45)], vm := .none },
  { cls := 10, slots := #[.int (-44)], vm := .none },
  { cls := 10, slots := #[.int (-43)], vm := .none },
  { cls := 10, slots := #[.int (-42)], vm := .none },
  { cls := 10, slots := #[.int (-41)], vm := .none },
  { cls := 10, slots := #[.int (-40)], vm := .none },
  { cls := 10, slots := #[.int (-39)], vm := .none },
  { cls := 10, slots := #[.int (-38)], vm := .none },
  { cls := 10, slots := #[.int (-37)], vm := .none },
  { cls := 10, slots := #[.int (-36)], vm := .none },
  { cls := 10, slots := #[.int (-35)], vm := .none },
  { cls := 10, slots := #[.int (-34)], vm := .none },
  { cls := 10, slots := #[.int (-33)], vm := .none },
  { cls := 10, slots := #[.int (-32)], vm := .none },
  { cls := 10, slots := #[.int (-31)], vm := .none },
  { cls := 10, slots := #[.int (-30)], vm := .none },
  { cls := 10, slots := #[.int (-29)], vm := .none },
  { cls := 10, slots := #[.int (-28)], vm := .none },
  { cls := 10, slots := #[.int (-27)], vm := .none },
  { cls := 10, slots := #[.int (-26)], vm := .none },
  { cls := 10, slots := #[.int (-25)], vm := .none },
  { cls := 10, slots := #[.int (-24)], vm := .none },
  { cls := 10, slots := #[.int (-23)], vm := .none },
  { cls := 10, slots := #[.int (-22)], vm := .none },
  { cls := 10, slots := #[.int (-21)], vm := .none },
  { cls := 10, slots := #[.int (-20)], vm := .none },
  { cls := 10, slots := #[.int (-19)], vm := .none },
  { cls := 10, slots := #[.int (-18)], vm := .none },
  { cls := 10, slots := #[.int (-17)], vm := .none },
  { cls := 10, slots := #[.int (-16)], vm := .none },
  { cls := 10, slots := #[.int (-15)], vm := .none },
  { cls := 10, slots := #[.int (-14)], vm := .none },
  { cls := 10, slots := #[.int (-13)], vm := .none },
  { cls := 10, slots := #[.int (-12)], vm := .none },
  { cls := 10, slots := #[.int (-11)], vm := .none },
  { cls := 10, slots := #[.int (-10)], vm := .none },
  { cls := 10, slots := #[.int (-9)], vm := .none },
  { cls := 10, slots := #[.int (-8)], vm := .none },
  { cls := 10, slots := #[.int (-7)], vm := .none },
  { cls := 10, slots := #[.int (-6)], vm := .none },
  { cls := 10, slots := #[.int (-5)], vm := .none },
  { cls := 10, slots := #[.int (-4)], vm := .none },
  { cls := 10, slots := #[.int (-3)], vm := .none },
  { cls := 10, slots := #[.int (-2)], vm := .none },
  { cls := 10, slots := #[.int (-1)], vm := .none },
  { cls := 10, slots := #[.int 0], vm := .none },
  { cls := 10, slots := #[.int 1], vm := .none },
  { cls := 10, slots := #[.int 2], vm := .none },
  { cls := 10, slots := #[.int 3], vm := .none },
  { cls := 10, slots := #[.int 4], vm := .none },
  { cls := 10, slots := #[.int 5], vm := .none },
  { cls := 10, slots := #[.int 6], vm := .none },
  { cls := 10, slots := #[.int 7], vm := .none },
  { cls := 10, slots := #[.int 8], vm := .none },
  { cls := 10, slots := #[.int 9], vm := .none },
  { cls := 10, slots := #[.int 10], vm := .none },
  { cls := 10, slots := #[.int 11], vm := .none },
  { cls := 10, slots := #[.int 12], vm := .none },
  { cls := 10, slots := #[.int 13], vm := .none },
  { cls := 10, slots := #[.int 14], vm := .none },
  { cls := 10, slots := #[.int 15], vm := .none },
  { cls := 10, slots := #[.int 16], vm := .none },
  { cls := 10, slots := #[.int 17], vm := .none },
  { cls := 10, slots := #[.int 18], vm := .none },
  { cls := 10, slots := #[.int 19], vm := .none },
  { cls := 10, slots := #[.int 20], vm := .none },
  { cls := 10, slots := #[.int 21], vm := .none },
  { cls := 10, slots := #[.int 22], vm := .none },
  { cls := 10, slots := #[.int 23], vm := .none },
  { cls := 10, slots := #[.int 24], vm := .none },
  { cls := 10, slots := #[.int 25], vm := .none },
  { cls := 10, slots := #[.int 26], vm := .none },
  { cls := 10, slots := #[.int 27], vm := .none },
  { cls := 10, slots := #[.int 28], vm := .none },
  { cls := 10, slots := #[.int 29], vm := .none },
  { cls := 10, slots := #[.int 30], vm := .none },
  { cls := 10, slots := #[.int 31], vm := .none },
  { cls := 10, slots := #[.int 32], vm := .none },
  { cls := 10, slots := #[.int 33], vm := .none },
  { cls := 10, slots := #[.int 34], vm := .none },
  { cls := 10, slots := #[.int 35], vm := .none },
  { cls := 10, slots := #[.int 36], vm := .none },
  { cls := 10, slots := #[.int 37], vm := .none },
  { cls := 10, slots := #[.int 38], vm := .none },
  { cls := 10, slots := #[.int 39], vm := .none },
  { cls := 10, slots := #[.int 40], vm := .none },
  { cls := 10, slots := #[.int 41], vm := .none },
  { cls := 10, slots := #[.int 42], vm := .none },
  { cls := 10, slots := #[.int 43], vm := .none },
  { cls := 10, slots := #[.int 44], vm := .none },
  { cls := 10, slots := #[.int 45], vm := .none },
  { cls := 10, slots := #[.int 46], vm := .none },
  { cls := 10, slots := #[.int 47], vm := .none },
  { cls := 10, slots := #[.int 48], vm := .none },
  { cls := 10, slots := #[.int 49], vm := .none },
  { cls := 10, slots := #[.int 50], vm := .none },
  { cls := 10, slots := #[.int 51], vm := .none },
  { cls := 10, slots := #[.int 52], vm := .none },
  { cls := 10, slots := #[.int 53], vm := .none },
  { cls := 10, slots := #[.int 54], vm := .none },
  { cls := 10, slots := #[.int 55], vm := .none },
  { cls := 10, slots := #[.int 56], vm := .none },
  { cls := 10, slots := #[.int 57], vm := .none },
  { cls := 10, slots := #[.int 58], vm := .none },
  { cls := 10, slots := #[.int 59], vm := .none },
  { cls := 10, slots := #[.int 60], vm := .none },
  { cls := 10, slots := #[.int 61], vm := .none },
  { cls := 10, slots := #[.int 62], vm := .none },
  { cls := 10, slots := #[.int 63], vm := .none },
  { cls := 10, slots := #[.int 64], vm := .none },
  { cls := 10, slots := #[.int 65], vm := .none },
  { cls := 10, slots := #[.int 66], vm := .none },
  { cls := 10, slots := #[.int 67], vm := .none },
  { cls := 10, slots := #[.int 68], vm := .none },
  { cls := 10, slots := #[.int 69], vm := .none },
  { cls := 10, slots := #[.int 70], vm := .none },
  { cls := 10, slots := #[.int 71], vm := .none },
  { cls := 10, slots := #[.int 72], vm := .none },
  { cls := 10, slots := #[.int 73], vm := .none },
  { cls := 10, slots := #[.int 74], vm := .none },
  { cls := 10, slots := #[.int 75], vm := .none },
  { cls := 10, slots := #[.int 76], vm := .none },
  { cls := 10, slots := #[.int 77], vm := .none },
  { cls := 10, slots := #[.int 78], vm := .none },
  { cls := 10, slots := #[.int 79], vm := .none },
  { cls := 10, slots := #[.int 80], vm := .none },
  { cls := 10, slots := #[.int 81], vm := .none },
  { cls := 10, slots := #[.int 82], vm := .none },
  { cls := 10, slots := #[.int 83], vm := .none },
  { cls := 10, slots := #[.int 84], vm := .none },
  { cls := 10, slots := #[.int 85], vm := .none },
  { cls := 10, slots := #[.int 86], vm := .none },
  { cls := 10, slots := #[.int 87], vm := .none },
  { cls := 10, slots := #[.int 88], vm := .none },
  { cls := 10, slots := #[.int 89], vm := .none },
  { cls := 10, slots := #[.int 90], vm := .none },
  { cls := 10, slots := #[.int 91], vm := .none },
  { cls := 10, slots := #[.int 92], vm := .none },
  { cls := 10, slots := #[.int 93], vm := .none },
  { cls := 10, slots := #[.int 94], vm := .none },
  { cls := 10, slots := #[.int 95], vm := .none },
  { cls := 10, slots := #[.int 96], vm := .none },
  { cls := 10, slots := #[.int 97], vm := .none },
  { cls := 10, slots := #[.int 98], vm := .none },
  { cls := 10, slots := #[.int 99], vm := .none },
  { cls := 10, slots := #[.int 100], vm := .none },
  { cls := 10, slots := #[.int 101], vm := .none },
  { cls := 10, slots := #[.int 102], vm := .none },
  { cls := 10, slots := #[.int 103], vm := .none },
  { cls := 10, slots := #[.int 104], vm := .none },
  { cls := 10, slots := #[.int 105], vm := .none },
  { cls := 10, slots := #[.int 106], vm := .none },
  { cls := 10, slots := #[.int 107], vm := .none },
  { cls := 10, slots := #[.int 108], vm := .none },
  { cls := 10, slots := #[.int 109], vm := .none },
  { cls := 10, slots := #[.int 110], vm := .none },
  { cls := 10, slots := #[.int 111], vm := .none },
  { cls := 10, slots := #[.int 112], vm := .none },
  { cls := 10, slots := #[.int 113], vm := .none },
  { cls := 10, slots := #[.int 114], vm := .none },
  { cls := 10, slots := #[.int 115], vm := .none },
  { cls := 10, slots := #[.int 116], vm := .none },
  { cls := 10, slots := #[.int 117], vm := .none },
  { cls := 10, slots := #[.int 118], vm := .none },
  { cls := 10, slots := #[.int 119], vm := .none },
  { cls := 10, slots := #[.int 120], vm := .none },
  { cls := 10, slots := #[.int 121], vm := .none },
  { cls := 10, slots := #[.int 122], vm := .none },
  { cls := 10, slots := #[.int 123], vm := .none },
  { cls := 10, slots := #[.int 124], vm := .none },
  { cls := 10, slots := #[.int 125], vm := .none },
  { cls := 10, slots := #[.int 126], vm := .none },
  { cls := 10, slots := #[.int 127], vm := .none }]
def classes : Array Class := #[k0, k1, k2, k3, k4, k5, k6, k7, k8, k9, k10, k11, k12, k13, k14, k15, k16, k17, k18, k19, k20, k21, k22, k23, k24]
def interned : List (Array UInt16 × Addr) := []
def slotsUsed : Nat := 517
def theMethod : MethodId := ⟨1, 2⟩
def args0 : Array Value := #[.long 5, .long 6, .long 7, .int 3]
def aboutOver (below : List Frame) : State where
  vm := { classes := classes, interned := interned.toArray }
  heap := heap
  slotsUsed := slotsUsed
  threads := #[{ frames := .invoking theMethod args0 :: below }]
def below0 : List Frame := [.native { method := ⟨0, 0⟩, args := #[] }]
def about1 : State := aboutOver below0
def p0 : Program := .bare "" "" ""
def e0 : Env := launch0.env 0 0 0
theorem w_frames : about1.frames = Frame.invoking theMethod args0 :: below0 := rfl
set_option maxRecDepth 65536 in
theorem w_args : argsFit about1.vm theMethod args0 = true := by decide +kernel
set_option maxRecDepth 65536 in
theorem w_heap : heapFits about1 = true := by decide +kernel
set_option maxRecDepth 65536 in
theorem w_runnable : about1.curStatus? = some .runnable := by decide +kernel
set_option maxRecDepth 65536 in
theorem w_alone : about1.alone = true := by decide +kernel
set_option maxRecDepth 65536 in
theorem w_named : about1.methodNamed? x = some theMethod := by decide +kernel
set_option maxRecDepth 65536 in
theorem w_hears : about1.hears theMethod below0 = true := by decide +kernel
set_option maxRecDepth 65536 in
theorem w_ripe : about1.ripe theMethod args0 below0 = true := by decide +kernel
theorem w_running : about1.status = .running := rfl
set_option maxRecDepth 65536 in
theorem w_room : about1.hasRoom e0.platform room_1 = true :=
  launch0.hasRoom_least _ room_1 (by decide +kernel) (by decide +kernel) (by decide +kernel) (by decide +kernel) (by decide +kernel) (by decide +kernel)
theorem allAtoms_all (ts : List Jvm.Cond) (a : Array Jvm.Value) (st : Jvm.State) : (allAtoms ts).before a st = ts.all (fun c => c.before a st) := by
  induction ts with
  | nil => rfl
  | cons c t ih =>
    show (Jvm.Cond.and c (allAtoms t)).before a st = _
    rw [Jvm.Cond.before_and, ih, List.all_cons]
def words1 : List Jvm.Cond := Jvm.Cond.code x code maxLocals ret :: tables_1
/-- a 'code' word, met by the world's own term for the bytes: nothing is compared byte by byte -/
theorem code_word {y : MethodName} {bytes : ByteArray} {mx : Nat} {rt : Option FieldType} {a : Array Value} {s : State} {m : MethodId} {meth : Method} {c : Code} (h1 : s.methodNamed? y = some m) (h2 : s.vm.method? m = some meth) (h3 : meth.code = some c) (h4 : c.code = bytes)
    (h5 : (c.maxLocals == mx && c.exceptionTable.isEmpty && decide (c.maxStack ≤ mostOperands) && decide (meth.sig.returnType = rt) && !meth.locks && decide (parseMethodDescriptor y.desc = some meth.sig)) = true) : (Jvm.Cond.code y bytes mx rt).before a s = true := by
  simp only [Bool.and_eq_true, beq_iff_eq, Bool.not_eq_true', decide_eq_true_eq] at h5
  obtain ⟨⟨⟨⟨⟨g1, g2⟩, g3⟩, g4⟩, g5⟩, g6⟩ := h5
  simp [Cond.before, Cond.holds, Cond.value, h1, h2, h3, h4, g1, g2, g3, g4, g5, g6]
def isCode : Jvm.Cond → Bool
  | .code _ _ _ _ => true
  | _ => false
theorem all_split {L : List Jvm.Cond} {P : Jvm.Cond → Bool} (h1 : L.all (fun c => isCode c || P c) = true) (h2 : ∀ c ∈ L.filter isCode, P c = true) : L.all P = true := by
  refine List.all_eq_true.mpr fun c hc => ?_
  have h := List.all_eq_true.mp h1 c hc
  rcases Bool.eq_false_or_eq_true (isCode c) with hi | hi
  · exact h2 c (List.mem_filter.mpr ⟨hc, hi⟩)
  · simpa [hi] using h
set_option maxRecDepth 65536 in
theorem w_c0 : (Jvm.Cond.code x code maxLocals ret).before args0 about1 = true := code_word (m := ⟨1, 2⟩) (meth := k1m2) (c := k1c2) (by decide +kernel) rfl rfl rfl (by decide +kernel)
set_option maxRecDepth 65536 in
theorem w_c1 : (Jvm.Cond.code ({ cls := "com/example/thin_feed/thinfeed/store/LongFloorMap", name := "<init>", desc := "()V" } : Jvm.MethodName) prog_25_method_1_code (1 : Nat) (Option.none : Option Jvm.ClassFile.FieldType)).before args0 about1 = true := code_word (m := ⟨3, 0⟩) (meth := k3m0) (c := k3c0) (by decide +kernel) rfl rfl rfl (by decide +kernel)
set_option maxRecDepth 65536 in
theorem w_c2 : (Jvm.Cond.code ({ cls := "java/lang/Object", name := "<init>", desc := "()V" } : Jvm.MethodName) object_method_1_code (1 : Nat) (Option.none : Option Jvm.ClassFile.FieldType)).before args0 about1 = true := code_word (m := ⟨0, 0⟩) (meth := k0m0) (c := k0c0) (by decide +kernel) rfl rfl rfl (by decide +kernel)
set_option maxRecDepth 65536 in
theorem w_c3 : (Jvm.Cond.code ({ cls := "java/lang/Integer", name := "valueOf", desc := "(I)Ljava/lang/Integer;" } : Jvm.MethodName) jdk_33_method_22_code (1 : Nat) (Option.some (Jvm.ClassFile.FieldType.object "java/lang/Integer"))).before args0 about1 = true := code_word (m := ⟨10, 0⟩) (meth := k10m0) (c := k10c0) (by decide +kernel) rfl rfl rfl (by decide +kernel)
set_option maxRecDepth 65536 in
theorem w_c4 : (Jvm.Cond.code ({ cls := "com/example/thin_feed/thinfeed/store/LongFloorMap", name := "bytes", desc := "()J" } : Jvm.MethodName) prog_25_method_9_code (5 : Nat) (Option.some Jvm.ClassFile.FieldType.long)).before args0 about1 = true := code_word (m := ⟨3, 3⟩) (meth := k3m3) (c := k3c3) (by decide +kernel) rfl rfl rfl (by decide +kernel)
set_option maxRecDepth 65536 in
theorem w_c5 : (Jvm.Cond.code ({ cls := "com/example/thin_feed/thinfeed/store/HeapBytes", name := "array", desc := "(II)J" } : Jvm.MethodName) prog_24_method_2_code (2 : Nat) (Option.some Jvm.ClassFile.FieldType.long)).before args0 about1 = true := code_word (m := ⟨12, 1⟩) (meth := k12m1) (c := k12c1) (by decide +kernel) rfl rfl rfl (by decide +kernel)
set_option maxRecDepth 65536 in
theorem w_c6 : (Jvm.Cond.code ({ cls := "com/example/thin_feed/thinfeed/store/LongFloorMapBytesPinLaw", name := "expected", desc := "(Z)J" } : Jvm.MethodName) method_2_code (5 : Nat) (Option.some Jvm.ClassFile.FieldType.long)).before args0 about1 = true := code_word (m := ⟨1, 1⟩) (meth := k1m1) (c := k1c1) (by decide +kernel) rfl rfl rfl (by decide +kernel)
set_option maxRecDepth 65536 in
theorem w_c7 : (Jvm.Cond.code ({ cls := "com/example/thin_feed/thinfeed/store/LongFloorMap", name := "put", desc := "(JLjava/lang/Object;)V" } : Jvm.MethodName) prog_25_method_6_code (8 : Nat) (Option.none : Option Jvm.ClassFile.FieldType)).before args0 about1 = true := code_word (m := ⟨3, 1⟩) (meth := k3m1) (c := k3c1) (by decide +kernel) rfl rfl rfl (by decide +kernel)
set_option maxRecDepth 65536 in
theorem w_c8 : (Jvm.Cond.code ({ cls := "com/example/thin_feed/thinfeed/store/LongFloorMap$Shelf", name := "<init>", desc := "()V" } : Jvm.MethodName) prog_27_method_1_code (1 : Nat) (Option.none : Option Jvm.ClassFile.FieldType)).before args0 about1 = true := code_word (m := ⟨4, 0⟩) (meth := k4m0) (c := k4c0) (by decide +kernel) rfl rfl rfl (by decide +kernel)
set_option maxRecDepth 65536 in
theorem w_c9 : (Jvm.Cond.code ({ cls := "com/example/thin_feed/thinfeed/store/LongFloorMap", name := "insertShelf", desc := "(ILcom/example/thin_feed/thinfeed/store/LongFloorMap$Shelf;)V" } : Jvm.MethodName) prog_25_method_15_code (3 : Nat) (Option.none : Option Jvm.ClassFile.FieldType)).before args0 about1 = true := code_word (m := ⟨3, 6⟩) (meth := k3m6) (c := k3c6) (by decide +kernel) rfl rfl rfl (by decide +kernel)
set_option maxRecDepth 65536 in
theorem w_c10 : (Jvm.Cond.code ({ cls := "com/example/thin_feed/thinfeed/store/LongFloorMap", name := "floorIndex", desc := "([JIJ)I" } : Jvm.MethodName) prog_25_method_11_code (7 : Nat) (Option.some Jvm.ClassFile.FieldType.int)).before args0 about1 = true := code_word (m := ⟨3, 4⟩) (meth := k3m4) (c := k3c4) (by decide +kernel) rfl rfl rfl (by decide +kernel)
set_option maxRecDepth 65536 in
theorem w_c11 : (Jvm.Cond.code ({ cls := "java/lang/Math", name := "max", desc := "(II)I" } : Jvm.MethodName) jdk_29_method_65_code (2 : Nat) (Option.some Jvm.ClassFile.FieldType.int)).before args0 about1 = true := code_word (m := ⟨14, 1⟩) (meth := k14m1) (c := k14c1) (by decide +kernel) rfl rfl rfl (by decide +kernel)
set_option maxRecDepth 65536 in
theorem w_c12 : (Jvm.Cond.code ({ cls := "com/example/thin_feed/thinfeed/store/LongFloorMap", name := "remove", desc := "(J)V" } : Jvm.MethodName) prog_25_method_7_code (6 : Nat) (Option.none : Option Jvm.ClassFile.FieldType)).before args0 about1 = true := code_word (m := ⟨3, 2⟩) (meth := k3m2) (c := k3c2) (by decide +kernel) rfl rfl rfl (by decide +kernel)
set_option maxRecDepth 65536 in
theorem w_c13 : (Jvm.Cond.code ({ cls := "java/lang/Integer", name := "<init>", desc := "(I)V" } : Jvm.MethodName) jdk_33_method_23_code (2 : Nat) (Option.none : Option Jvm.ClassFile.FieldType)).before args0 about1 = true := code_word (m := ⟨10, 1⟩) (meth := k10m1) (c := k10c1) (by decide +kernel) rfl rfl rfl (by decide +kernel)
set_option maxRecDepth 65536 in
theorem w_c14 : (Jvm.Cond.code ({ cls := "java/lang/Number", name := "<init>", desc := "()V" } : Jvm.MethodName) jdk_18_method_1_code (1 : Nat) (Option.none : Option Jvm.ClassFile.FieldType)).before args0 about1 = true := code_word (m := ⟨6, 0⟩) (meth := k6m0) (c := k6c0) (by decide +kernel) rfl rfl rfl (by decide +kernel)
set_option maxRecDepth 65536 in
theorem w_c15 : (Jvm.Cond.code ({ cls := "com/example/thin_feed/thinfeed/store/LongFloorMap", name := "joins", desc := "(I)Z" } : Jvm.MethodName) prog_25_method_13_code (2 : Nat) (Option.some Jvm.ClassFile.FieldType.boolean)).before args0 about1 = true := code_word (m := ⟨3, 5⟩) (meth := k3m5) (c := k3c5) (by decide +kernel) rfl rfl rfl (by decide +kernel)
set_option maxRecDepth 65536 in
theorem w_c16 : (Jvm.Cond.code ({ cls := "com/example/thin_feed/thinfeed/store/LongFloorMap", name := "removeShelf", desc := "(I)V" } : Jvm.MethodName) prog_25_method_16_code (2 : Nat) (Option.none : Option Jvm.ClassFile.FieldType)).before args0 about1 = true := code_word (m := ⟨3, 7⟩) (meth := k3m7) (c := k3c7) (by decide +kernel) rfl rfl rfl (by decide +kernel)
def codes1 : List Jvm.Cond := [Jvm.Cond.code x code maxLocals ret, Jvm.Cond.code ({ cls := "com/example/thin_feed/thinfeed/store/LongFloorMap", name := "<init>", desc := "()V" } : Jvm.MethodName) prog_25_method_1_code (1 : Nat) (Option.none : Option Jvm.ClassFile.FieldType), Jvm.Cond.code ({ cls := "java/lang/Object", name := "<init>", desc := "()V" } : Jvm.MethodName) object_method_1_code (1 : Nat) (Option.none : Option Jvm.ClassFile.FieldType), Jvm.Cond.code ({ cls := "java/lang/Integer", name := "valueOf", desc := "(I)Ljava/lang/Integer;" } : Jvm.MethodName) jdk_33_method_22_code (1 : Nat) (Option.some (Jvm.ClassFile.FieldType.object "java/lang/Integer")), Jvm.Cond.code ({ cls := "com/example/thin_feed/thinfeed/store/LongFloorMap", name := "bytes", desc := "()J" } : Jvm.MethodName) prog_25_method_9_code (5 : Nat) (Option.some Jvm.ClassFile.FieldType.long), Jvm.Cond.code ({ cls := "com/example/thin_feed/thinfeed/store/HeapBytes", name := "array", desc := "(II)J" } : Jvm.MethodName) prog_24_method_2_code (2 : Nat) (Option.some Jvm.ClassFile.FieldType.long), Jvm.Cond.code ({ cls := "com/example/thin_feed/thinfeed/store/LongFloorMapBytesPinLaw", name := "expected", desc := "(Z)J" } : Jvm.MethodName) method_2_code (5 : Nat) (Option.some Jvm.ClassFile.FieldType.long), Jvm.Cond.code ({ cls := "com/example/thin_feed/thinfeed/store/LongFloorMap", name := "put", desc := "(JLjava/lang/Object;)V" } : Jvm.MethodName) prog_25_method_6_code (8 : Nat) (Option.none : Option Jvm.ClassFile.FieldType), Jvm.Cond.code ({ cls := "com/example/thin_feed/thinfeed/store/LongFloorMap$Shelf", name := "<init>", desc := "()V" } : Jvm.MethodName) prog_27_method_1_code (1 : Nat) (Option.none : Option Jvm.ClassFile.FieldType), Jvm.Cond.code ({ cls := "com/example/thin_feed/thinfeed/store/LongFloorMap", name := "insertShelf", desc := "(ILcom/example/thin_feed/thinfeed/store/LongFloorMap$Shelf;)V" } : Jvm.MethodName) prog_25_method_15_code (3 : Nat) (Option.none : Option Jvm.ClassFile.FieldType), Jvm.Cond.code ({ cls := "com/example/thin_feed/thinfeed/store/LongFloorMap", name := "floorIndex", desc := "([JIJ)I" } : Jvm.MethodName) prog_25_method_11_code (7 : Nat) (Option.some Jvm.ClassFile.FieldType.int), Jvm.Cond.code ({ cls := "java/lang/Math", name := "max", desc := "(II)I" } : Jvm.MethodName) jdk_29_method_65_code (2 : Nat) (Option.some Jvm.ClassFile.FieldType.int), Jvm.Cond.code ({ cls := "com/example/thin_feed/thinfeed/store/LongFloorMap", name := "remove", desc := "(J)V" } : Jvm.MethodName) prog_25_method_7_code (6 : Nat) (Option.none : Option Jvm.ClassFile.FieldType), Jvm.Cond.code ({ cls := "java/lang/Integer", name := "<init>", desc := "(I)V" } : Jvm.MethodName) jdk_33_method_23_code (2 : Nat) (Option.none : Option Jvm.ClassFile.FieldType), Jvm.Cond.code ({ cls := "java/lang/Number", name := "<init>", desc := "()V" } : Jvm.MethodName) jdk_18_method_1_code (1 : Nat) (Option.none : Option Jvm.ClassFile.FieldType), Jvm.Cond.code ({ cls := "com/example/thin_feed/thinfeed/store/LongFloorMap", name := "joins", desc := "(I)Z" } : Jvm.MethodName) prog_25_method_13_code (2 : Nat) (Option.some Jvm.ClassFile.FieldType.boolean), Jvm.Cond.code ({ cls := "com/example/thin_feed/thinfeed/store/LongFloorMap", name := "removeShelf", desc := "(I)V" } : Jvm.MethodName) prog_25_method_16_code (2 : Nat) (Option.none : Option Jvm.ClassFile.FieldType)]
set_option maxRecDepth 65536 in
theorem codes_eq : words1.filter isCode = codes1 := rfl
theorem w_codes : ∀ c ∈ words1.filter isCode, c.before args0 about1 = true := by
  rw [codes_eq]
  intro c hc
  simp only [codes1, List.mem_cons, List.not_mem_nil, or_false] at hc
  rcases hc with rfl | rfl | rfl | rfl | rfl | rfl | rfl | rfl | rfl | rfl | rfl | rfl | rfl | rfl | rfl | rfl | rfl
  · exact w_c0
  · exact w_c1
  · exact w_c2
  · exact w_c3
  · exact w_c4
  · exact w_c5
  · exact w_c6
  · exact w_c7
  · exact w_c8
  · exact w_c9
  · exact w_c10
  · exact w_c11
  · exact w_c12
  · exact w_c13
  · exact w_c14
  · exact w_c15
  · exact w_c16
set_option maxRecDepth 65536 in
theorem w_t1 : (words1.take 24).all (fun c => isCode c || c.before args0 about1) = true := by decide +kernel
set_option maxRecDepth 65536 in
theorem w_t2 : ((words1.drop 24).take 24).all (fun c => isCode c || c.before args0 about1) = true := by decide +kernel
set_option maxRecDepth 65536 in
theorem w_t3 : (((words1.drop 24).drop 24).take 24).all (fun c => isCode c || c.before args0 about1) = true := by decide +kernel
set_option maxRecDepth 65536 in
theorem w_t4 : ((((words1.drop 24).drop 24).drop 24).take 24).all (fun c => isCode c || c.before args0 about1) = true := by decide +kernel
set_option maxRecDepth 65536 in
theorem w_t5 : ((((words1.drop 24).drop 24).drop 24).drop 24).all (fun c => isCode c || c.before args0 about1) = true := by decide +kernel
theorem w_tables : (allAtoms (Jvm.Cond.code x code maxLocals ret :: tables_1)).before args0 about1 = true := by
  rw [allAtoms_all]
  show words1.all (fun c => c.before args0 about1) = true
  refine all_split ?_ w_codes
  rw [← List.take_append_drop 24 words1, List.all_append, w_t1, ← List.take_append_drop 24 (words1.drop 24), List.all_append, w_t2, ← List.take_append_drop 24 ((words1.drop 24).drop 24), List.all_append, w_t3, ← List.take_append_drop 24 (((words1.drop 24).drop 24).drop 24), List.all_append, w_t4, w_t5]
  rfl
set_option maxRecDepth 65536 in
theorem w_rest : rest_1_c.before args0 about1 = true := by decide +kernel
set_option maxRecDepth 65536 in
theorem w_case : (Jvm.Cond.and given_1 narrow_1).before args0 about1 = true := by decide +kernel
theorem w_applies : (headSpec (Jvm.Cond.code x code maxLocals ret :: tables_1) room_1).applies x e0.platform about1 = true :=
  (Spec.applies_iff w_frames).mpr ⟨w_running, w_runnable, w_alone, w_named, w_hears, w_ripe, w_room, w_tables⟩
theorem atStart : AtStart classFile x code maxLocals ret World_1 tables_1 room_1 Calls_1 rest_1 Pre_1 launch0 p0 e0 about1 theMethod args0 below0 :=
  ⟨lists_1, trivial, launch0.admits_env _ _ _, launch0.least_env, fairChoices_fair.cas, fairChoices_fair.clock, w_frames, w_args, w_heap, w_applies, trivial, w_rest, w_case⟩
end start1
theorem witness_1 : WitnessClaimed_1 := ⟨start1.p0, start1.e0, start1.about1, start1.theMethod, start1.args0, start1.below0, start1.atStart⟩
end Jvm.Pilot.@@N@@

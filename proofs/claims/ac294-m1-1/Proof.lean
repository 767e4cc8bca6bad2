import JvmDerived
import JvmDerived.Pilot.@@N@@Statement
import JvmDerived.Pilot.@@N@@Code
set_option linter.unusedVariables false
set_option linter.unusedSimpArgs false
@@BLOCK:NumsL.lean.txt@@
namespace Jvm.Pilot.@@N@@
open Jvm Jvm.ClassFile Sem Op Lib Jvm.Free Jvm.Stand Jvm.LawKit Jvm.RoadKit Bundle Jvm.Pilot.@@N@@.Jvm.D
section Own
variable {p : Program} {l : Launch} {e : Env} {R : Room} {s : State} {m : MethodId} {args : Array Value} {below : List Frame} {meth : Method} {c : Code} {T : State} {locs : List Loc} {cells slots : Nat}
/-- from t the invocation comes to its end, and F holds there -/
def own_Ends (p : Program) (e : Env) (below : List Frame) (F : State → Outcome → Prop) (t : State) : Prop := ∃ s₂ o, Steps p.tables e below t s₂ ∧ s₂.status = .running ∧ Ended s₂ below o ∧ F s₂ o
theorem own_pre {F : State → Outcome → Prop} {t t' : State} (k : ∀ u, Steps p.tables e below t' u → Steps p.tables e below t u) (h : own_Ends p e below F t') : own_Ends p e below F t := by
  obtain ⟨s₂, o, h1, h2⟩ := h
  exact ⟨s₂, o, k _ h1, h2⟩
/-- what is asked of the end: G of the value, the heap and the places written; the frame -/
def own_Fin (s : State) (G : Option Value → Heap → List Loc → Prop) (C S : Nat) (s₂ : State) (o : Outcome) : Prop := ∃ v L, o = .returned v ∧ G v s₂.heap L ∧ FrameEnd s o s₂ L C S
theorem own_out (X : Stand p l e R s m args below meth c T locs cells slots) {v : Option Value} (hv : meth.sig.returnType = none → v = none) (hlk : meth.locks = false) {g : JFrame} {G : Option Value → Heap → List Loc → Prop} {C S : Nat} {h : Heap} (eT : T.heap = h) (hG : G v h locs) (hC : cells ≤ C) (hS : slots ≤ S)
    (st : ∀ fs, (∀ (f : JFrame) (acts : List Action), f.method = m → f.locked = none → f.entered = [] → (doReturn e (T.setTop f) acts v).1 = T.setFrames fs) → Steps p.tables e below (T.setTop g) (T.setFrames fs)) : own_Ends p e below (own_Fin s G C S) (T.setTop g) := by
  obtain ⟨fs, hr, hrun, hended, hW, hsame⟩ := X.leave (v := v) hv hlk
  subst eT
  exact ⟨_, _, st fs hr, hrun, hended, v, locs, rfl, hG, ⟨_, rfl⟩, hW, hsame.mono hC hS⟩
theorem own_retN (X : Stand p l e R s m args below meth c T locs cells slots) (hx : p.tables.exec = Jvm.exec) {pc : Nat} {Ls : Array Slot} {z z' : Int32} {t : FieldType} {rest : List Value} (hret : meth.sig.returnType = some t) (ht : t = .boolean ∨ t = .byte ∨ t = .char ∨ t = .short) (hd : decode c.code pc = .ok (.ireturn, 1)) (hlk : meth.locks = false) (hz : nar t z = z')
    {G : Option Value → Heap → List Loc → Prop} {C S : Nat} {h : Heap} (eT : T.heap = h) (hG : G (some (.int z')) h locs) (hC : cells ≤ C) (hS : slots ≤ S) : own_Ends p e below (own_Fin s G C S) (T.setTop (mkF m pc Ls (.int z :: rest))) := by
  subst hz
  exact own_out X (fun h => by rw [hret] at h; cases h) hlk eT hG hC hS (fun fs hr => retN X hx hret ht hd hr)
theorem own_retI (X : Stand p l e R s m args below meth c T locs cells slots) (hx : p.tables.exec = Jvm.exec) {pc : Nat} {Ls : Array Slot} {z : Int32} {rest : List Value} (hret : meth.sig.returnType = some .int) (hd : decode c.code pc = .ok (.ireturn, 1)) (hlk : meth.locks = false)
    {G : Option Value → Heap → List Loc → Prop} {C S : Nat} {h : Heap} (eT : T.heap = h) (hG : G (some (.int z)) h locs) (hC : cells ≤ C) (hS : slots ≤ S) : own_Ends p e below (own_Fin s G C S) (T.setTop (mkF m pc Ls (.int z :: rest))) :=
  own_out X (fun h => by rw [hret] at h; cases h) hlk eT hG hC hS (fun fs hr => retOut X hx hret rfl (Or.inl ⟨rfl, Or.inl rfl, _, rfl⟩) hd hr)
theorem own_retJ (X : Stand p l e R s m args below meth c T locs cells slots) (hx : p.tables.exec = Jvm.exec) {pc : Nat} {Ls : Array Slot} {z : Int64} {rest : List Value} (hret : meth.sig.returnType = some .long) (hd : decode c.code pc = .ok (.lreturn, 1)) (hlk : meth.locks = false)
    {G : Option Value → Heap → List Loc → Prop} {C S : Nat} {h : Heap} (eT : T.heap = h) (hG : G (some (.long z)) h locs) (hC : cells ≤ C) (hS : slots ≤ S) : own_Ends p e below (own_Fin s G C S) (T.setTop (mkF m pc Ls (.long z :: rest))) :=
  own_out X (fun h => by rw [hret] at h; cases h) hlk eT hG hC hS (fun fs hr => retOut X hx hret rfl (Or.inr (Or.inl ⟨rfl, rfl, _, rfl⟩)) hd hr)
theorem own_retR (X : Stand p l e R s m args below meth c T locs cells slots) (hx : p.tables.exec = Jvm.exec) {pc : Nat} {Ls : Array Slot} {a : Addr} {t : FieldType} {rest : List Value} (hret : meth.sig.returnType = some t) (ht : t.isReference = true) (hd : decode c.code pc = .ok (.areturn, 1)) (hlk : meth.locks = false)
    {G : Option Value → Heap → List Loc → Prop} {C S : Nat} {h : Heap} (eT : T.heap = h) (hG : G (some (.ref a)) h locs) (hC : cells ≤ C) (hS : slots ≤ S) : own_Ends p e below (own_Fin s G C S) (T.setTop (mkF m pc Ls (.ref a :: rest))) :=
  own_out X (fun h => by rw [hret] at h; cases h) hlk eT hG hC hS (fun fs hr => retOut X hx hret (by cases t <;> first | rfl | (simp [FieldType.isReference] at ht)) (Or.inr (Or.inr (Or.inr (Or.inr ⟨rfl, ht, rfl⟩)))) hd hr)
theorem own_retV (X : Stand p l e R s m args below meth c T locs cells slots) (hx : p.tables.exec = Jvm.exec) {pc : Nat} {Ls : Array Slot} (hret : meth.sig.returnType = none) (hd : decode c.code pc = .ok (.return_, 1)) (hlk : meth.locks = false)
    {G : Option Value → Heap → List Loc → Prop} {C S : Nat} {h : Heap} (eT : T.heap = h) (hG : G none h locs) (hC : cells ≤ C) (hS : slots ≤ S) : own_Ends p e below (own_Fin s G C S) (T.setTop (mkF m pc Ls [])) :=
  own_out X (fun _ => rfl) hlk eT hG hC hS (fun fs hr => X.returnOut hx hret hd hr)
theorem own_hide {n0 : Nat} (X : Stand p l e R s m args below meth c T locs cells slots) (N : Fr n0 locs) : ∃ L, Stand p l e R s m args below meth c T L cells slots ∧ Fr n0 L := ⟨_, X, N⟩
theorem own_len (X : Stand p l e R s m args below meth c T locs cells slots) (hx : p.tables.exec = Jvm.exec) {h : Heap} (eT : T.heap = h) {Z : State} (hZ : Z.Warmed39 s.vm) {a : Addr} {cl : Cell} {ty : FieldType} {z : Int32} (A : Arr Z h a cl ty) (S : cl.slots.size = z.toNatClampNeg) (M : ¬ z < 0)
    {g : JFrame} (hg : g.method = m) {rest : List Value} (hs : g.stack = .ref a :: rest) (hd : decode c.code g.pc = .ok (.arraylength, 1)) {target : State} (k : Steps p.tables e below (T.setTop { g with pc := g.pc + 1, stack := .int z :: rest }) target) : Steps p.tables e below (T.setTop g) target := by
  refine X.arraylength hx (by rw [eT]; exact A.1) (State.isArrayOf_alike hZ.alike A.2.1) hg hs hd _ ?_
  rw [len_of S M]
  exact k
theorem own_setAny {Z : State} {h h' : Heap} {a : Addr} {cl : Cell} {k : ClassId} {ty : FieldType} {z : Int32} {vs : List Value} {dv v : Value} {j : Nat} (A : Arr Z h a cl ty) (q1 : cl.cls = k) (S : cl.slots.size = z.toNatClampNeg) (q3 : ¬ z < 0) (H : Has cl vs dv) (G : ∀ i, i < cl.slots.size → fits ty (vs.getD i dv) = true) (hv : fits ty v = true) (W : Wr h h' a j v) : ∃ vs', Arv Z h' a k ty z vs' dv := by
  have E : ∀ x, x < (cl.setSlot j v).slots.size → (cl.setSlot j v).slots[x]? = some ((cl.setSlot j v).slots.toList.getD x dv) := fun x hx => by
    rw [List.getD_eq_getElem?_getD, Array.getElem?_toList, Array.getElem?_eq_getElem hx]; rfl
  refine ⟨(cl.setSlot j v).slots.toList, _, A.same W, q1, by rw [sz_set]; exact S, q3, E, fun x hx => ?_⟩
  have hx' := hx
  rw [sz_set] at hx'
  have e1 := E x hx
  by_cases u : j = x
  · subst u
    have : (cl.setSlot j v).slots[j]? = some v := by simp [Cell.setSlot, hx']
    rw [this] at e1
    rw [← Option.some.inj e1]; exact hv
  · have : (cl.setSlot j v).slots[x]? = cl.slots[x]? := by simp [Cell.setSlot, Array.getElem?_setIfInBounds_ne u]
    rw [this, H x hx'] at e1
    rw [← Option.some.inj e1]; exact G x hx'
theorem own_staK {Z : State} {h h' : Heap} {a : Addr} {C n d D : String} {v : Value} (F : Sta Z h C n d v) (K : Keep h h' [a]) (E : Exa Z h a D) : Sta Z h' C n d v := by
  obtain ⟨cf, i, k, f, st, cell, h1, h2, h3, h4, h5, h6, h7⟩ := F
  obtain ⟨cl, kc, g1, -, -, g4, -⟩ := E
  have ne : st ≠ a := fun q => by subst q; cases h5.symm.trans g1; rw [h6] at g4; cases g4
  exact ⟨cf, i, k, f, st, cell, h1, h2, h3, h4, K.2.1 st cell h5 (ninS ne nin0), h6, h7⟩
theorem own_staK0 {Z : State} {h h' : Heap} {C n d : String} {v : Value} (F : Sta Z h C n d v) (K : Keep h h' []) : Sta Z h' C n d v := by
  obtain ⟨cf, i, k, f, st, cell, h1, h2, h3, h4, h5, h6, h7⟩ := F
  exact ⟨cf, i, k, f, st, cell, h1, h2, h3, h4, K.2.1 st cell h5 nin0, h6, h7⟩
theorem own_selP {Z : State} {a0 : Array Value} {y : MethodName} {kk : Nat} (hZ : Z.Warmed39 s.vm) (wi : (Cond.instantiable y.cls kk).before a0 Z = true) (wp : (Cond.privateMethod y).before a0 Z = true) (wm : (Cond.instanceMethod y).before a0 Z = true) (hy : y.cls ≠ "java/lang/invoke/MethodHandle" ∧ y.cls ≠ "java/lang/invoke/VarHandle") : (Cond.selects y.cls y y).before args s = true := by
  have wi' : (Cond.instantiable y.cls kk).before args s = true := mvT hZ wi
  obtain ⟨c', k', h1, h2, -, h4, -⟩ := Cond.instantiable_spec wi'
  have h5 : k'.isInterface = false := by
    cases q : k'.isInterface with
    | false => rfl
    | true => rw [q] at h4; simp at h4
  exact selects_self_of_private h1 h2 h5 (Cond.privateMethod_at (mvP hZ wp (args := args))) (mvT hZ wm) hy
/-- what lcmp pushes; the unsigned shifts -/
def own_cmpL (x y : Int64) : Int32 := if x > y then 1 else if x = y then 0 else -1
def own_ushr (x y : Int32) : Int32 := (x.toUInt32 >>> (y &&& 31).toUInt32).toInt32
def own_ushrL (x : Int64) (y : Int32) : Int64 := (x.toUInt64 >>> (y &&& 0x3f).toInt64.toUInt64).toInt64
theorem own_clt (x y : Int64) : own_cmpL x y < 0 ↔ x < y := lw_lt x y
theorem own_cgt (x y : Int64) : 0 < own_cmpL x y ↔ y < x := lw_gt x y
theorem own_ceq (x y : Int64) : own_cmpL x y = 0 ↔ x = y := lw_eq x y
end Own
theorem own_d1_0 : decode method_3_code 0 = .ok (.iload_n 0, 1) := by decide +kernel
theorem own_d1_1 : decode method_3_code 1 = .ok (.iconst 4, 1) := by decide +kernel
theorem own_d1_2 : decode method_3_code 2 = .ok (.iload_n 1, 1) := by decide +kernel
theorem own_d1_3 : decode method_3_code 3 = .ok (.imul, 1) := by decide +kernel
theorem own_d1_4 : decode method_3_code 4 = .ok (.iushr, 1) := by decide +kernel
theorem own_d1_5 : decode method_3_code 5 = .ok (.bipush 15, 2) := by decide +kernel
theorem own_d1_7 : decode method_3_code 7 = .ok (.iand, 1) := by decide +kernel
theorem own_d1_8 : decode method_3_code 8 = .ok (.istore_n 2, 1) := by decide +kernel
theorem own_d1_9 : decode method_3_code 9 = .ok (.iload_n 2, 1) := by decide +kernel
theorem own_d1_10 : decode method_3_code 10 = .ok (.bipush 15, 2) := by decide +kernel
theorem own_d1_12 : decode method_3_code 12 = .ok (.if_icmp .ne 8, 3) := by decide +kernel
theorem own_d1_15 : decode method_3_code 15 = .ok (.ldc 7, 2) := by decide +kernel
theorem own_d1_17 : decode method_3_code 17 = .ok (.goto 4, 3) := by decide +kernel
theorem own_d1_20 : decode method_3_code 20 = .ok (.iload_n 2, 1) := by decide +kernel
theorem own_d1_21 : decode method_3_code 21 = .ok (.ireturn, 1) := by decide +kernel
def own_mark (p0 : Int32) (p1 : Int32) : Int32 := if ((own_ushr p0 ((4 : Int32) * p1)) &&& (15 : Int32)) = (15 : Int32) then (2147483647 : Int32) else ((own_ushr p0 ((4 : Int32) * p1)) &&& (15 : Int32))
theorem own_pn0 : plainName "com/example/bisimilar/bisimilar/equivalence/RefinementHistoryClassStartPinLaw" = true := by first | (simp [plainName, overriddenIn]; done) | decide +kernel
theorem own_ef_rm1 (m : MethodId) (x0 : Int32) (x1 : Int32) : entryFrame m #[(.int x0), (.int x1)] 3 = mkF m 0 #[.val (.int x0), .val (.int x1), .unset] [] := by first | (simp [entryFrame, mkF, argsToLocals, Value.category]; done) | rfl
def own_Q_rm1 (Z : State) (p0 : Int32) (p1 : Int32) (h0 : Heap) (n0 : Nat) (v : Option Value) (h : Heap) (L : List Loc) : Prop := v = some (.int (own_mark p0 p1)) ∧ Fr n0 L ∧ h = h0
set_option maxRecDepth 65536 in
set_option maxHeartbeats 40000000 in
theorem rm1 (l : Launch) (Z : State) (a0 : Array Value) (hw : ∀ d ∈ tables_1, d.before a0 Z = true) (ws : List Jvm.Cond) (p0 : Int32) (p1 : Int32) (h0 : Heap) (n0 : Nat) (Z0 : n0 ≤ h0.size) :
    MetFree l (⟨"com/example/bisimilar/bisimilar/equivalence/RefinementHistoryClassStartPinLaw", "mark", "(II)I"⟩ : MethodName) (head1 (Jvm.Cond.code (⟨"com/example/bisimilar/bisimilar/equivalence/RefinementHistoryClassStartPinLaw", "mark", "(II)I"⟩ : MethodName) method_3_code 3 (some .int) :: ws) ({ frames := 0, cells := 0, slots := 0, locals := 0 } : Room)) (fun a U => a = #[(.int p0), (.int p1)] ∧ Z.Warmed39 U.vm ∧ U.heap = h0) (fun _ _ _ _ _ => True) (fun _ U o U' => ∃ v L, o = .returned v ∧ (own_Q_rm1 Z p0 p1 h0 n0) v U'.heap L ∧ FrameEnd U o U' L ({ frames := 0, cells := 0, slots := 0, locals := 0 } : Room).cells ({ frames := 0, cells := 0, slots := 0, locals := 0 } : Room).slots) := by
  refine MetFree.of_bodySF (plainFor_of_name own_pn0) hisR ?_
  intro p e s m args below meth c s₁ Bd hml0 hP hK
  obtain ⟨rfl, hZ, hh⟩ := hP
  have hx := Bd.exec
  have hby := Bd.bytes
  have hml : c.maxLocals = 3 := hml0
  have hown : s.vm.findClass "com/example/bisimilar/bisimilar/equivalence/RefinementHistoryClassStartPinLaw" = some m.cls := findClass_of_methodNamed Bd.named
  have hnm := (name_of_methodNamed Bd.named Bd.method).1
  have hlk : meth.locks = false := BodyLoose.notSynchronized Bd
  have X0 : Stand p l e ({ frames := 0, cells := 0, slots := 0, locals := 0 } : Room) s m #[(.int p0), (.int p1)] below meth c s₁ [] 0 0 := Stand.of_body Bd
  have e0 : s₁.heap = h0 := by rw [← hh, Bd.state]; rfl
  have N0 := Fr.nil n0
  show own_Ends p e below (own_Fin s (own_Q_rm1 Z p0 p1 h0 n0) ({ frames := 0, cells := 0, slots := 0, locals := 0 } : Room).cells ({ frames := 0, cells := 0, slots := 0, locals := 0 } : Room).slots) _
  refine own_pre (fun t k => castTop (own_ef_rm1 m p0 p1) k) ?_
  have J0 : ∀ (G : Option Value → Heap → List Loc → Prop) (hG : ∀ L, Fr n0 L → G (some (.int (if ((own_ushr p0 ((4 : Int32) * p1)) &&& (15 : Int32)) = (15 : Int32) then (2147483647 : Int32) else ((own_ushr p0 ((4 : Int32) * p1)) &&& (15 : Int32))))) h0 L), own_Ends p e below (own_Fin s G ({ frames := 0, cells := 0, slots := 0, locals := 0 } : Room).cells ({ frames := 0, cells := 0, slots := 0, locals := 0 } : Room).slots) (s₁.setTop (mkF m 0 #[.val (.int p0), .val (.int p1), .unset] [])) := by
    intro G hG
    show own_Ends _ _ _ _ (s₁.setTop (mkF m 0 #[.val (.int p0), .val (.int p1), .unset] []))
    refine own_pre (fun t k => XS.iloadN X0.here hx rfl (hb hby own_d1_0) rfl k) ?_
    show own_Ends _ _ _ _ (s₁.setTop (mkF m 1 #[.val (.int p0), .val (.int p1), .unset] [(.int p0)]))
    refine own_pre (fun t k => XS.iconst X0.here hx rfl (hb hby own_d1_1) k) ?_
    show own_Ends _ _ _ _ (s₁.setTop (mkF m 2 #[.val (.int p0), .val (.int p1), .unset] [(.int (4 : Int32)), (.int p0)]))
    refine own_pre (fun t k => XS.iloadN X0.here hx rfl (hb hby own_d1_2) rfl k) ?_
    show own_Ends _ _ _ _ (s₁.setTop (mkF m 3 #[.val (.int p0), .val (.int p1), .unset] [(.int p1), (.int (4 : Int32)), (.int p0)]))
    refine own_pre (fun t k => XS.imul X0.here hx rfl (hb hby own_d1_3) rfl k) ?_
    show own_Ends _ _ _ _ (s₁.setTop (mkF m 4 #[.val (.int p0), .val (.int p1), .unset] [(.int ((4 : Int32) * p1)), (.int p0)]))
    refine own_pre (fun t k => XS.iushr X0.here hx rfl (hb hby own_d1_4) rfl k) ?_
    show own_Ends _ _ _ _ (s₁.setTop (mkF m 5 #[.val (.int p0), .val (.int p1), .unset] [(.int (own_ushr p0 ((4 : Int32) * p1)))]))
    refine own_pre (fun t k => XS.bipush X0.here hx rfl (hb hby own_d1_5) k) ?_
    show own_Ends _ _ _ _ (s₁.setTop (mkF m 7 #[.val (.int p0), .val (.int p1), .unset] [(.int (15 : Int32)), (.int (own_ushr p0 ((4 : Int32) * p1)))]))
    refine own_pre (fun t k => XS.iand X0.here hx rfl (hb hby own_d1_7) rfl k) ?_
    show own_Ends _ _ _ _ (s₁.setTop (mkF m 8 #[.val (.int p0), .val (.int p1), .unset] [(.int ((own_ushr p0 ((4 : Int32) * p1)) &&& (15 : Int32)))]))
    refine own_pre (fun t k => XS.istoreN X0.here hx rfl (hb hby own_d1_8) rfl (l' := #[.val (.int p0), .val (.int p1), .val (.int ((own_ushr p0 ((4 : Int32) * p1)) &&& (15 : Int32)))]) rfl k) ?_
    show own_Ends _ _ _ _ (s₁.setTop (mkF m 9 #[.val (.int p0), .val (.int p1), .val (.int ((own_ushr p0 ((4 : Int32) * p1)) &&& (15 : Int32)))] []))
    refine own_pre (fun t k => XS.iloadN X0.here hx rfl (hb hby own_d1_9) rfl k) ?_
    show own_Ends _ _ _ _ (s₁.setTop (mkF m 10 #[.val (.int p0), .val (.int p1), .val (.int ((own_ushr p0 ((4 : Int32) * p1)) &&& (15 : Int32)))] [(.int ((own_ushr p0 ((4 : Int32) * p1)) &&& (15 : Int32)))]))
    refine own_pre (fun t k => XS.bipush X0.here hx rfl (hb hby own_d1_10) k) ?_
    show own_Ends _ _ _ _ (s₁.setTop (mkF m 12 #[.val (.int p0), .val (.int p1), .val (.int ((own_ushr p0 ((4 : Int32) * p1)) &&& (15 : Int32)))] [(.int (15 : Int32)), (.int ((own_ushr p0 ((4 : Int32) * p1)) &&& (15 : Int32)))]))
    by_cases hc101 : ((own_ushr p0 ((4 : Int32) * p1)) &&& (15 : Int32)) = (15 : Int32)
    · skip
      rw [if_pos hc101] at hG
      refine own_pre (fun t k => XS.icmpNo X0.here hx rfl (hb hby own_d1_12) rfl (teq hc101).2 k) ?_
      show own_Ends _ _ _ _ (s₁.setTop (mkF m 15 #[.val (.int p0), .val (.int p1), .val (.int ((own_ushr p0 ((4 : Int32) * p1)) &&& (15 : Int32)))] []))
      refine own_pre (fun t k => X0.ldcInt hx hown (mvT hZ (hw _ (List.mem_of_getElem? (i := 0) rfl))) (g := (mkF m 15 #[.val (.int p0), .val (.int p1), .val (.int ((own_ushr p0 ((4 : Int32) * p1)) &&& (15 : Int32)))] [])) rfl (hb hby own_d1_15) _ k) ?_
      show own_Ends _ _ _ _ (s₁.setTop (mkF m 17 #[.val (.int p0), .val (.int p1), .val (.int ((own_ushr p0 ((4 : Int32) * p1)) &&& (15 : Int32)))] [(.int (2147483647 : Int32))]))
      refine own_pre (fun t k => XS.goto X0.here hx rfl (pc0 := 17) (pc' := 21) rfl (hb hby own_d1_17) (by decide) (by decide) k) ?_
      show own_Ends _ _ _ _ (s₁.setTop (mkF m 21 #[.val (.int p0), .val (.int p1), .val (.int ((own_ushr p0 ((4 : Int32) * p1)) &&& (15 : Int32)))] [(.int (2147483647 : Int32))]))
      exact own_retI X0 hx Bd.returns (hb hby own_d1_21) hlk e0 (hG _ N0) (by decide) (by decide)
    · skip
      rw [if_neg hc101] at hG
      refine own_pre (fun t k => XS.icmpYes X0.here hx rfl (pc0 := 12) (pc' := 20) rfl (hb hby own_d1_12) rfl (feq hc101).2 (by decide) (by decide) k) ?_
      show own_Ends _ _ _ _ (s₁.setTop (mkF m 20 #[.val (.int p0), .val (.int p1), .val (.int ((own_ushr p0 ((4 : Int32) * p1)) &&& (15 : Int32)))] []))
      refine own_pre (fun t k => XS.iloadN X0.here hx rfl (hb hby own_d1_20) rfl k) ?_
      show own_Ends _ _ _ _ (s₁.setTop (mkF m 21 #[.val (.int p0), .val (.int p1), .val (.int ((own_ushr p0 ((4 : Int32) * p1)) &&& (15 : Int32)))] [(.int ((own_ushr p0 ((4 : Int32) * p1)) &&& (15 : Int32)))]))
      exact own_retI X0 hx Bd.returns (hb hby own_d1_21) hlk e0 (hG _ N0) (by decide) (by decide)
  exact J0 _ fun L q => ⟨rfl, q, rfl⟩
theorem own_d6_0 : decode jdk_29_method_69_code 0 = .ok (.iload_n 0, 1) := by decide +kernel
theorem own_d6_1 : decode jdk_29_method_69_code 1 = .ok (.iload_n 1, 1) := by decide +kernel
theorem own_d6_2 : decode jdk_29_method_69_code 2 = .ok (.if_icmp .gt 7, 3) := by decide +kernel
theorem own_d6_5 : decode jdk_29_method_69_code 5 = .ok (.iload_n 0, 1) := by decide +kernel
theorem own_d6_6 : decode jdk_29_method_69_code 6 = .ok (.goto 4, 3) := by decide +kernel
theorem own_d6_9 : decode jdk_29_method_69_code 9 = .ok (.iload_n 1, 1) := by decide +kernel
theorem own_d6_10 : decode jdk_29_method_69_code 10 = .ok (.ireturn, 1) := by decide +kernel
def own_min (p0 : Int32) (p1 : Int32) : Int32 := if p1 < p0 then p1 else p0
theorem own_ef_rm2 (m : MethodId) (x0 : Int32) (x1 : Int32) : entryFrame m #[(.int x0), (.int x1)] 2 = mkF m 0 #[.val (.int x0), .val (.int x1)] [] := by first | (simp [entryFrame, mkF, argsToLocals, Value.category]; done) | rfl
def own_Q_rm2 (Z : State) (p0 : Int32) (p1 : Int32) (h0 : Heap) (n0 : Nat) (v : Option Value) (h : Heap) (L : List Loc) : Prop := v = some (.int (own_min p0 p1)) ∧ Fr n0 L ∧ h = h0
set_option maxRecDepth 65536 in
set_option maxHeartbeats 40000000 in
theorem rm2 (l : Launch) (Z : State) (a0 : Array Value) (hw : ∀ d ∈ tables_1, d.before a0 Z = true) (ws : List Jvm.Cond) (p0 : Int32) (p1 : Int32) (h0 : Heap) (n0 : Nat) (Z0 : n0 ≤ h0.size) :
    MetFree l (⟨"java/lang/Math", "min", "(II)I"⟩ : MethodName) (head1 (Jvm.Cond.code (⟨"java/lang/Math", "min", "(II)I"⟩ : MethodName) jdk_29_method_69_code 2 (some .int) :: ws) ({ frames := 0, cells := 0, slots := 0, locals := 0 } : Room)) (fun a U => a = #[(.int p0), (.int p1)] ∧ Z.Warmed39 U.vm ∧ U.heap = h0) (fun _ _ _ _ _ => True) (fun _ U o U' => ∃ v L, o = .returned v ∧ (own_Q_rm2 Z p0 p1 h0 n0) v U'.heap L ∧ FrameEnd U o U' L ({ frames := 0, cells := 0, slots := 0, locals := 0 } : Room).cells ({ frames := 0, cells := 0, slots := 0, locals := 0 } : Room).slots) := by
  refine MetFree.of_bodySF (Jvm.Free.JP.mathPlain rfl (by decide +kernel)) hisR ?_
  intro p e s m args below meth c s₁ Bd hml0 hP hK
  obtain ⟨rfl, hZ, hh⟩ := hP
  have hx := Bd.exec
  have hby := Bd.bytes
  have hml : c.maxLocals = 2 := hml0
  have hown : s.vm.findClass "java/lang/Math" = some m.cls := findClass_of_methodNamed Bd.named
  have hnm := (name_of_methodNamed Bd.named Bd.method).1
  have hlk : meth.locks = false := BodyLoose.notSynchronized Bd
  have X0 : Stand p l e ({ frames := 0, cells := 0, slots := 0, locals := 0 } : Room) s m #[(.int p0), (.int p1)] below meth c s₁ [] 0 0 := Stand.of_body Bd
  have e0 : s₁.heap = h0 := by rw [← hh, Bd.state]; rfl
  have N0 := Fr.nil n0
  show own_Ends p e below (own_Fin s (own_Q_rm2 Z p0 p1 h0 n0) ({ frames := 0, cells := 0, slots := 0, locals := 0 } : Room).cells ({ frames := 0, cells := 0, slots := 0, locals := 0 } : Room).slots) _
  refine own_pre (fun t k => castTop (own_ef_rm2 m p0 p1) k) ?_
  have J0 : ∀ (G : Option Value → Heap → List Loc → Prop) (hG : ∀ L, Fr n0 L → G (some (.int (if p1 < p0 then p1 else p0))) h0 L), own_Ends p e below (own_Fin s G ({ frames := 0, cells := 0, slots := 0, locals := 0 } : Room).cells ({ frames := 0, cells := 0, slots := 0, locals := 0 } : Room).slots) (s₁.setTop (mkF m 0 #[.val (.int p0), .val (.int p1)] [])) := by
    intro G hG
    show own_Ends _ _ _ _ (s₁.setTop (mkF m 0 #[.val (.int p0), .val (.int p1)] []))
    refine own_pre (fun t k => XS.iloadN X0.here hx rfl (hb hby own_d6_0) rfl k) ?_
    show own_Ends _ _ _ _ (s₁.setTop (mkF m 1 #[.val (.int p0), .val (.int p1)] [(.int p0)]))
    refine own_pre (fun t k => XS.iloadN X0.here hx rfl (hb hby own_d6_1) rfl k) ?_
    show own_Ends _ _ _ _ (s₁.setTop (mkF m 2 #[.val (.int p0), .val (.int p1)] [(.int p1), (.int p0)]))
    by_cases hc102 : p1 < p0
    · skip
      rw [if_pos hc102] at hG
      refine own_pre (fun t k => XS.icmpYes X0.here hx rfl (pc0 := 2) (pc' := 9) rfl (hb hby own_d6_2) rfl (tlt hc102).2.2.1 (by decide) (by decide) k) ?_
      show own_Ends _ _ _ _ (s₁.setTop (mkF m 9 #[.val (.int p0), .val (.int p1)] []))
      refine own_pre (fun t k => XS.iloadN X0.here hx rfl (hb hby own_d6_9) rfl k) ?_
      show own_Ends _ _ _ _ (s₁.setTop (mkF m 10 #[.val (.int p0), .val (.int p1)] [(.int p1)]))
      exact own_retI X0 hx Bd.returns (hb hby own_d6_10) hlk e0 (hG _ N0) (by decide) (by decide)
    · skip
      rw [if_neg hc102] at hG
      refine own_pre (fun t k => XS.icmpNo X0.here hx rfl (hb hby own_d6_2) rfl (flt hc102).2.2.1 k) ?_
      show own_Ends _ _ _ _ (s₁.setTop (mkF m 5 #[.val (.int p0), .val (.int p1)] []))
      refine own_pre (fun t k => XS.iloadN X0.here hx rfl (hb hby own_d6_5) rfl k) ?_
      show own_Ends _ _ _ _ (s₁.setTop (mkF m 6 #[.val (.int p0), .val (.int p1)] [(.int p0)]))
      refine own_pre (fun t k => XS.goto X0.here hx rfl (pc0 := 6) (pc' := 10) rfl (hb hby own_d6_6) (by decide) (by decide) k) ?_
      show own_Ends _ _ _ _ (s₁.setTop (mkF m 10 #[.val (.int p0), .val (.int p1)] [(.int p0)]))
      exact own_retI X0 hx Bd.returns (hb hby own_d6_10) hlk e0 (hG _ N0) (by decide) (by decide)
  exact J0 _ fun L q => ⟨rfl, q, rfl⟩
/-! the plain part: a segment tree over n ≤ 6 leaves -/
def own_leaf (n : Nat) (mk : Nat → Int32) (i : Nat) : Int32 := if i = n then 0 else mk (i - n)
def own_lvF (n : Nat) (mk : Nat → Int32) : Nat → Nat → Int32
  | 0, _ => 0
  | f + 1, i => if n ≤ i then own_leaf n mk i else own_min (own_lvF n mk f (2 * i)) (own_lvF n mk f (2 * i + 1))
def own_lv (n : Nat) (mk : Nat → Int32) (i : Nat) : Int32 := own_lvF n mk 4 i
theorem own_lv_irr {n : Nat} {mk : Nat → Int32} : ∀ f i, n ≤ i * 2 ^ f → own_lvF n mk (f + 1) i = own_lvF n mk (f + 2) i
  | 0, i, h => by
    have : n ≤ i := by simpa using h
    simp only [own_lvF, if_pos this]
  | f + 1, i, h => by
    show (if n ≤ i then _ else own_min (own_lvF n mk (f + 1) (2 * i)) (own_lvF n mk (f + 1) (2 * i + 1))) = (if n ≤ i then _ else own_min (own_lvF n mk (f + 2) (2 * i)) (own_lvF n mk (f + 2) (2 * i + 1)))
    have h' : n ≤ (2 * i) * 2 ^ f := by rw [Nat.pow_succ] at h; rw [Nat.mul_comm 2 i, Nat.mul_assoc, Nat.mul_comm 2]; exact h
    have h'' : n ≤ (2 * i + 1) * 2 ^ f := Nat.le_trans h' (Nat.mul_le_mul_right _ (by omega))
    rw [own_lv_irr f _ h', own_lv_irr f _ h'']
theorem own_lv_leaf {n : Nat} {mk : Nat → Int32} {i : Nat} (h : n ≤ i) : own_lv n mk i = own_leaf n mk i := if_pos h
theorem own_lv_node {n : Nat} {mk : Nat → Int32} {i : Nat} (hn : n ≤ 6) (h0 : 1 ≤ i) (h : i < n) : own_lv n mk i = own_min (own_lv n mk (2 * i)) (own_lv n mk (2 * i + 1)) := by
  have e1 := own_lv_irr (n := n) (mk := mk) 2 (2 * i) (by omega)
  have e2 := own_lv_irr (n := n) (mk := mk) 2 (2 * i + 1) (by omega)
  show (if n ≤ i then _ else own_min (own_lvF n mk 3 (2 * i)) (own_lvF n mk 3 (2 * i + 1))) = _
  rw [if_neg (by omega), e1, e2]
  rfl
/-- what the search sees of the tree -/
def own_BF (n : Nat) (b : Nat → Bool) : Nat → Nat → Bool
  | 0, _ => true
  | f + 1, i => if n ≤ i then (if i = n then true else b (i - n)) else (own_BF n b f (2 * i) || own_BF n b f (2 * i + 1))
theorem own_min_lt (r a b : Int32) : r < own_min a b ↔ r < a ∧ r < b := by
  unfold own_min
  simp only [Int32.lt_iff_toInt_lt]
  split <;> omega
theorem own_BF_eq {n : Nat} {mk : Nat → Int32} {r : Int32} (hr : ¬ r < 0) : ∀ f i, own_BF n (fun j => decide (¬ r < mk j)) f i = decide (¬ r < own_lvF n mk f i)
  | 0, i => by simp [own_BF, own_lvF, hr]
  | f + 1, i => by
    have e1 : own_BF n (fun j => decide (¬ r < mk j)) (f + 1) i = if n ≤ i then (if i = n then true else decide (¬ r < mk (i - n))) else (own_BF n (fun j => decide (¬ r < mk j)) f (2 * i) || own_BF n (fun j => decide (¬ r < mk j)) f (2 * i + 1)) := rfl
    have e2 : own_lvF n mk (f + 1) i = if n ≤ i then own_leaf n mk i else own_min (own_lvF n mk f (2 * i)) (own_lvF n mk f (2 * i + 1)) := rfl
    rw [e1]
    by_cases h : n ≤ i
    · rw [if_pos h] at e2 ⊢
      unfold own_leaf at e2
      by_cases e : i = n
      · rw [if_pos e] at e2 ⊢; simp [e2, hr]
      · rw [if_neg e] at e2 ⊢; simp [e2]
    · rw [if_neg h] at e2 ⊢
      rw [own_BF_eq hr f, own_BF_eq hr f]
      simp only [e2]
      have e3 := own_min_lt r (own_lvF n mk f (2 * i)) (own_lvF n mk f (2 * i + 1))
      by_cases a1 : r < own_lvF n mk f (2 * i) <;> by_cases a2 : r < own_lvF n mk f (2 * i + 1) <;> simp [e3, a1, a2]
/-- up from the leaves -/
def own_up (B : Nat → Bool) : Nat → Nat → Nat → Int32 → Int32
  | 0, _, _, node => node
  | f + 1, fr, to, node =>
    if fr < to then
      (if to % 2 = 1 then
        (if B (to - 1) then Int32.ofNat (to - 1)
         else own_up B f ((if fr % 2 = 1 then fr + 1 else fr) / 2) ((to - 1) / 2) (if fr % 2 = 1 ∧ B fr = true then Int32.ofNat fr else node))
       else own_up B f ((if fr % 2 = 1 then fr + 1 else fr) / 2) (to / 2) (if fr % 2 = 1 ∧ B fr = true then Int32.ofNat fr else node))
    else node
/-- and down again -/
def own_down (B : Nat → Bool) (n : Nat) : Nat → Nat → Nat
  | 0, node => node
  | f + 1, node => if node < n then own_down B n f (if B (2 * node + 1) then 2 * node + 1 else 2 * node) else node
def own_bits (b1 b2 b3 b4 b5 : Bool) (j : Nat) : Bool := if j = 1 then b1 else if j = 2 then b2 else if j = 3 then b3 else if j = 4 then b4 else if j = 5 then b5 else true
def own_want (pos : Nat) (b1 b2 b3 b4 b5 : Bool) : Nat := if 5 ≤ pos ∧ b5 = true then 5 else if 4 ≤ pos ∧ b4 = true then 4 else if 3 ≤ pos ∧ b3 = true then 3 else if 2 ≤ pos ∧ b2 = true then 2 else if 1 ≤ pos ∧ b1 = true then 1 else 0
set_option maxRecDepth 100000 in
theorem own_all : ∀ (n : Fin 7) (pos : Fin 6) (b1 b2 b3 b4 b5 : Bool), 1 ≤ n.val → pos.val < n.val →
    (own_up (own_BF n.val (own_bits b1 b2 b3 b4 b5) 4) 4 n.val (pos.val + 1 + n.val) (-1)).toNatClampNeg < 2 * n.val ∧ 1 ≤ (own_up (own_BF n.val (own_bits b1 b2 b3 b4 b5) 4) 4 n.val (pos.val + 1 + n.val) (-1)).toInt ∧
    own_down (own_BF n.val (own_bits b1 b2 b3 b4 b5) 4) n.val 3 (own_up (own_BF n.val (own_bits b1 b2 b3 b4 b5) 4) 4 n.val (pos.val + 1 + n.val) (-1)).toNatClampNeg = n.val + own_want pos.val b1 b2 b3 b4 b5 := by decide +kernel
/-! the lists -/
def own_posN (n k : Nat) : Nat → List Nat
  | 0 => List.replicate n 0
  | p + 1 => if p < n then (own_posN n k p).set ((p + k) % n) p else own_posN n k p
def own_posL (n k p : Nat) : List Value := (own_posN n k p).map fun x => .int (Int32.ofNat x)
def own_splL (n : Nat) (mk : Nat → Int32) : Nat → List Value
  | 0 => List.replicate n (.int (0 : Int32))
  | p + 1 => if p < n then (own_splL n mk p).set p (.int (mk p)) else own_splL n mk p
theorem own_posLen (n k : Nat) : ∀ p, (own_posN n k p).length = n
  | 0 => by simp [own_posN]
  | p + 1 => by
    show (if p < n then _ else _ : List Nat).length = n
    split
    · rw [List.length_set]; exact own_posLen n k p
    · exact own_posLen n k p
theorem own_splLen (n : Nat) (mk : Nat → Int32) : ∀ p, (own_splL n mk p).length = n
  | 0 => by simp [own_splL]
  | p + 1 => by
    show (if p < n then _ else _ : List Value).length = n
    split
    · rw [List.length_set]; exact own_splLen n mk p
    · exact own_splLen n mk p
theorem own_splAt {n : Nat} {mk : Nat → Int32} : ∀ p j, j < p → j < n → (own_splL n mk p)[j]? = some (.int (mk j))
  | 0, j, h, _ => by omega
  | p + 1, j, h, hn => by
    show (if p < n then _ else _ : List Value)[j]? = _
    by_cases e : j = p
    · subst e
      rw [if_pos hn, List.getElem?_set_self (by rw [own_splLen]; exact hn)]
    · split
      · rw [List.getElem?_set_ne (by omega)]; exact own_splAt p j (by omega) hn
      · exact own_splAt p j (by omega) hn
theorem own_posAll : ∀ (n : Fin 7) (k st : Fin 6), k.val < n.val → st.val < n.val → (own_posN n.val k.val 6)[st.val]? = some ((st.val + n.val - k.val) % n.val) := by decide +kernel
theorem own_posAt {n k st : Nat} (hn : n ≤ 6) (hk : k < n) (hst : st < n) : (own_posL n k 6).getD st (.int (0 : Int32)) = .int (Int32.ofNat ((st + n - k) % n)) := by
  have := own_posAll ⟨n, by omega⟩ ⟨k, by omega⟩ ⟨st, by omega⟩ hk hst
  simp only at this
  simp [own_posL, List.getD_eq_getElem?_getD, this]
theorem own_toInt {n : Nat} (h : n < 2 ^ 31) : (Int32.ofNat n).toInt = n := Int32.toInt_ofNat_of_lt h
theorem own_clamp {n : Nat} (h : n < 2 ^ 31) : (Int32.ofNat n).toNatClampNeg = n := by
  simp only [Int32.toNatClampNeg, own_toInt h]
  rfl
theorem own_addN (s n : Nat) : Int32.ofNat s + Int32.ofNat n = Int32.ofNat (s + n) := (Int32.ofNat_add s n).symm
theorem own_ltN {a b : Nat} (ha : a < 2 ^ 31) (hb : b < 2 ^ 31) : Int32.ofNat a < Int32.ofNat b ↔ a < b := by
  rw [Int32.lt_iff_toInt_lt, own_toInt ha, own_toInt hb]
  omega
theorem own_nnN {a : Nat} (ha : a < 2 ^ 31) : ¬ Int32.ofNat a < 0 := by
  rw [Int32.lt_iff_toInt_lt, own_toInt ha]
  have : (0 : Int32).toInt = 0 := rfl
  omega
theorem own_inN {a b : Nat} (hb : b < 2 ^ 31) (h : a < b) : ¬ Int32.ofNat a < 0 ∧ Int32.ofNat a < Int32.ofNat b := ⟨own_nnN (by omega), (own_ltN (by omega) hb).mpr h⟩
theorem own_ofInt {x : Int32} {k : Nat} (h : x.toInt = k) (hk : k < 2 ^ 31) : x = Int32.ofNat k := by
  apply Int32.toInt_inj.mp
  rw [h, own_toInt hk]
theorem own_remN {a b : Nat} (ha : a < 2 ^ 31) (hb : b < 2 ^ 31) : Int32.ofNat a % Int32.ofNat b = Int32.ofNat (a % b) := by
  apply own_ofInt
  · rw [Jvm.Kit.i32_rem_nonneg (by rw [own_toInt ha]; omega), own_toInt ha, own_toInt hb]
    norm_cast
  · exact Nat.lt_of_le_of_lt (Nat.mod_le _ _) ha
theorem own_subN {a b : Nat} (ha : a < 2 ^ 31) (h : b ≤ a) : Int32.ofNat a - Int32.ofNat b = Int32.ofNat (a - b) := by
  apply own_ofInt
  · have e1 := own_toInt ha
    have e2 := own_toInt (n := b) (by omega)
    rw [Jvm.Kit.i32_sub (by omega) (by omega)]
    omega
  · omega
theorem own_mulN {a b : Nat} (h : a * b < 2 ^ 31) : Int32.ofNat a * Int32.ofNat b = Int32.ofNat (a * b) := (Int32.ofNat_mul a b).symm
theorem own_nzN {n : Nat} (h1 : 1 ≤ n) (h : n < 2 ^ 31) : Int32.ofNat n ≠ 0 := fun q => by
  have e := own_toInt h
  rw [q] at e
  have : (0 : Int32).toInt = 0 := rfl
  omega
/-! what the law's first rows make -/
theorem own_getn {x y : Int32} (h : 1 + (y &&& 7) % 6 = x) : ∃ n : Nat, 1 ≤ n ∧ n ≤ 6 ∧ x = Int32.ofNat n := by
  have e1 : (y &&& 7).toInt = y.toInt % 2 ^ 3 := Jvm.Kit.i32_mask y 7 (by decide) (by decide)
  have e2 : ((y &&& 7) % 6).toInt = (y &&& 7).toInt % (6 : Int32).toInt := Jvm.Kit.i32_rem_nonneg (by rw [e1]; omega)
  have e3 : (6 : Int32).toInt = 6 := rfl
  rw [e3] at e2
  have e4 : (1 : Int32).toInt = 1 := rfl
  have e5 : (1 + (y &&& 7) % 6).toInt = (1 : Int32).toInt + ((y &&& 7) % 6).toInt := Jvm.Kit.i32_add (by omega) (by omega)
  rw [h] at e5
  exact ⟨x.toInt.toNat, by omega, by omega, own_ofInt (by omega) (by omega)⟩
theorem own_getk {x y : Int32} {n : Nat} (h1 : 1 ≤ n) (hn : n ≤ 6) (h : (y &&& 2147483647) % Int32.ofNat n = x) : ∃ k : Nat, k < n ∧ x = Int32.ofNat k := by
  have e1 : (y &&& 2147483647).toInt = y.toInt % 2 ^ 31 := Jvm.Kit.i32_mask y 2147483647 (by decide) (by decide)
  have e2 : ((y &&& 2147483647) % Int32.ofNat n).toInt = (y &&& 2147483647).toInt % (Int32.ofNat n).toInt := Jvm.Kit.i32_rem_nonneg (by rw [e1]; omega)
  rw [h, own_toInt (n := n) (by omega)] at e2
  have m1 := Int.emod_nonneg (y &&& 2147483647).toInt (show (n : Int) ≠ 0 by omega)
  have m2 := Int.emod_lt_of_pos (y &&& 2147483647).toInt (show (0 : Int) < n by omega)
  exact ⟨x.toInt.toNat, by omega, own_ofInt (by omega) (by omega)⟩
theorem own_pos {st k n : Nat} (h1 : 1 ≤ n) (hn : n ≤ 6) (hk : k < n) (hst : st < n) : ((Int32.ofNat st - Int32.ofNat k) + Int32.ofNat n) % Int32.ofNat n = Int32.ofNat ((st + n - k) % n) := by
  have e1 := own_toInt (n := st) (by omega)
  have e2 := own_toInt (n := k) (by omega)
  have e3 := own_toInt (n := n) (by omega)
  have a1 : (Int32.ofNat st - Int32.ofNat k).toInt = (Int32.ofNat st).toInt - (Int32.ofNat k).toInt := Jvm.Kit.i32_sub (by omega) (by omega)
  have a2 : (Int32.ofNat st - Int32.ofNat k + Int32.ofNat n).toInt = (Int32.ofNat st - Int32.ofNat k).toInt + (Int32.ofNat n).toInt := Jvm.Kit.i32_add (by omega) (by omega)
  have a3 : (Int32.ofNat st - Int32.ofNat k) + Int32.ofNat n = Int32.ofNat (st + n - k) := own_ofInt (by omega) (by omega)
  rw [a3, own_remN (by omega) (by omega)]
theorem own_r0 (y : Int32) : ¬ (y &&& 2147483647) < 0 := by
  have e1 : (y &&& 2147483647).toInt = y.toInt % 2 ^ 31 := Jvm.Kit.i32_mask y 2147483647 (by decide) (by decide)
  have : (0 : Int32).toInt = 0 := rfl
  rw [Int32.lt_iff_toInt_lt]
  omega
theorem own_r16 (y : Int32) : ¬ (y &&& 2147483647) % 16 < 0 := by
  have e1 : (y &&& 2147483647).toInt = y.toInt % 2 ^ 31 := Jvm.Kit.i32_mask y 2147483647 (by decide) (by decide)
  have e2 : ((y &&& 2147483647) % 16).toInt = (y &&& 2147483647).toInt % (16 : Int32).toInt := Jvm.Kit.i32_rem_nonneg (by rw [e1]; omega)
  have e3 : (16 : Int32).toInt = 16 := rfl
  rw [e3] at e2
  have : (0 : Int32).toInt = 0 := rfl
  rw [Int32.lt_iff_toInt_lt]
  omega

def own_mkf (m : Int32) (j : Nat) : Int32 := if j ≤ 5 then own_mark m (Int32.ofNat j) else 0
theorem own_posLlen (n k p : Nat) : (own_posL n k p).length = n := by simp [own_posL, own_posLen]
theorem own_posSucc {n k p : Nat} (h : p < n) : own_posL n k (p + 1) = (own_posL n k p).set ((p + k) % n) (.int (Int32.ofNat p)) := by
  simp only [own_posL, own_posN, if_pos h, List.map_set]
theorem own_posSkip {n k p : Nat} (h : ¬ p < n) : own_posL n k (p + 1) = own_posL n k p := by
  simp only [own_posL, own_posN, if_neg h]
theorem own_splSucc {n p : Nat} {mk : Nat → Int32} (h : p < n) : own_splL n mk (p + 1) = (own_splL n mk p).set p (.int (mk p)) := if_pos h
theorem own_splSkip {n p : Nat} {mk : Nat → Int32} (h : ¬ p < n) : own_splL n mk (p + 1) = own_splL n mk p := if_neg h
theorem own_repD (n : Nat) (d : Value) (i : Nat) : (List.replicate n d).getD i d = ([] : List Value).getD i d := by
  simp only [List.getD_eq_getElem?_getD, List.getElem?_replicate]
  split <;> rfl
theorem own_pos0 (n k : Nat) (i : Nat) : (own_posL n k 0).getD i (.int (0 : Int32)) = ([] : List Value).getD i (.int (0 : Int32)) := by
  have : own_posL n k 0 = List.replicate n (.int (Int32.ofNat 0)) := by simp [own_posL, own_posN]
  rw [this]
  exact own_repD n _ i
theorem own_spl0 (n : Nat) (mk : Nat → Int32) (i : Nat) : (own_splL n mk 0).getD i (.int (0 : Int32)) = ([] : List Value).getD i (.int (0 : Int32)) := own_repD n _ i
/-- the tree's list when the leaves are laid -/
def own_cpL (n : Nat) (mk : Nat → Int32) : List Value := (List.range (2 * n)).map fun i => .int (if i < n then 0 else mk (i - n))
theorem own_cpLen {n : Nat} {mk : Nat → Int32} : (own_cpL n mk).length = 2 * n := by simp [own_cpL]
theorem own_cpAt {n : Nat} {mk : Nat → Int32} {i : Nat} (h : i < 2 * n) : (own_cpL n mk)[i]? = some (.int (if i < n then 0 else mk (i - n))) := by
  simp [own_cpL, h]
theorem own_cpEq {n : Nat} {mk : Nat → Int32} (h1 : 1 ≤ n) (hn : n ≤ 6) (i : Nat) : (own_cpL n mk).getD i (Value.int (0 : Int32)) = ((([] : List Value) ++ List.replicate (2 * n) (Value.int (0 : Int32))).take (Int32.ofNat n).toNatClampNeg ++ ((List.range (Int32.ofNat n).toNatClampNeg).map fun i => (own_splL n mk 6).getD ((0 : Int32).toNatClampNeg + i) (Value.int (0 : Int32))) ++ (([] : List Value) ++ List.replicate (2 * n) (Value.int (0 : Int32))).drop ((Int32.ofNat n).toNatClampNeg + (Int32.ofNat n).toNatClampNeg)).getD i (Value.int (0 : Int32)) := by
  have e0 : (0 : Int32).toNatClampNeg = 0 := rfl
  rw [own_clamp (by omega), e0]
  simp only [List.nil_append, List.getD_eq_getElem?_getD, Nat.zero_add]
  by_cases a : i < n
  · rw [own_cpAt (by omega), if_pos a, List.append_assoc, List.getElem?_append_left (by simp; omega)]
    simp [List.getElem?_take, a, List.getElem?_replicate, show i < 2 * n by omega]
    split <;> rfl
  · by_cases b : i < 2 * n
    · rw [own_cpAt b, if_neg a, List.append_assoc, List.getElem?_append_right (by simp; omega), List.getElem?_append_left (by simp; omega)]
      have : (own_splL n mk 6)[i - n]? = some (.int (mk (i - n))) := own_splAt 6 (i - n) (by omega) (by omega)
      simp only [List.length_take, List.length_replicate, show min n (2 * n) = n by omega]
      simp [show i - n < n by omega, this]
    · rw [List.getElem?_eq_none (by rw [own_cpLen]; omega), List.getElem?_eq_none (by simp; omega)]
theorem own_lv0 {n : Nat} {mk : Nat → Int32} (h1 : 1 ≤ n) (hn : n ≤ 6) (j : Nat) (h : n - 1 < j) (hj : j < 2 * n) : ((own_cpL n mk).set n (.int (0 : Int32))).getD j (.int (0 : Int32)) = .int (own_lv n mk j) := by
  rw [own_lv_leaf (by omega), List.getD_eq_getElem?_getD]
  unfold own_leaf
  by_cases e : j = n
  · subst e
    rw [List.getElem?_set_self (by rw [own_cpLen]; omega), if_pos rfl]
    rfl
  · rw [List.getElem?_set_ne (by omega), own_cpAt hj, if_neg (by omega), if_neg e]
    rfl
theorem own_lvset {n i : Nat} {mk : Nat → Int32} {vs : List Value} (hn : n ≤ 6) (hi : i + 1 < n) (hlen : vs.length = 2 * n) (hv : ∀ j, i + 1 < j → j < 2 * n → vs.getD j (.int (0 : Int32)) = .int (own_lv n mk j)) (j : Nat) (h : i < j) (hj : j < 2 * n) : (vs.set (i + 1) (.int (own_min (own_lv n mk (2 * (i + 1))) (own_lv n mk (2 * (i + 1) + 1))))).getD j (.int (0 : Int32)) = .int (own_lv n mk j) := by
  by_cases e : j = i + 1
  · subst e
    rw [List.getD_eq_getElem?_getD, List.getElem?_set_self (by omega), own_lv_node hn (by omega) hi]
    rfl
  · have := hv j (by omega) hj
    rw [List.getD_eq_getElem?_getD] at this ⊢
    rw [List.getElem?_set_ne (by omega)]
    exact this
theorem own_gt0 {n : Nat} (h : 1 ≤ n) (hn : n < 2 ^ 31 := by omega) : (0 : Int32) < Int32.ofNat n := by
  rw [Int32.lt_iff_toInt_lt, own_toInt hn]
  have : (0 : Int32).toInt = 0 := rfl
  omega
theorem own_two {n : Nat} : (2 : Int32) * Int32.ofNat n = Int32.ofNat (2 * n) := (Int32.ofNat_mul 2 n).symm
theorem own_plus1 {n : Nat} : Int32.ofNat n + (1 : Int32) = Int32.ofNat (n + 1) := (Int32.ofNat_add n 1).symm
theorem own_dec {i : Nat} : Int32.ofNat (i + 1) + (-1 : Int32) = Int32.ofNat i := by
  rw [← own_plus1, Int32.add_assoc]
  exact Int32.add_zero _
theorem own_minus1 {i : Nat} (h : 1 ≤ i) : Int32.ofNat i + (-1 : Int32) = Int32.ofNat (i - 1) := by
  obtain ⟨j, rfl⟩ : ∃ j, i = j + 1 := ⟨i - 1, by omega⟩
  exact own_dec
theorem own_sub1 {n : Nat} (hn : n < 2 ^ 31) (h : 1 ≤ n) : Int32.ofNat n - (1 : Int32) = Int32.ofNat (n - 1) := own_subN (b := 1) hn h
theorem own_to {pos n : Nat} : Int32.ofNat pos + (1 : Int32) + Int32.ofNat n = Int32.ofNat (pos + 1 + n) := by rw [own_plus1, own_addN]
theorem own_cap {n : Nat} (h1 : 1 ≤ n) (hn : n ≤ 6) : ¬ (0 : Int32) < own_cmpL ((2 : Int64) * (Int32.ofNat n).toInt64) (2147483639 : Int64) := by
  have e1 : (Int32.ofNat n).toInt64.toInt = n := by rw [Jvm.Kit.i64_of_i32, own_toInt (by omega)]
  have e2 : (2 : Int64).toInt = 2 := rfl
  have e3 : (2147483639 : Int64).toInt = 2147483639 := rfl
  have e4 : ((2 : Int64) * (Int32.ofNat n).toInt64).toInt = (2 : Int64).toInt * (Int32.ofNat n).toInt64.toInt := Jvm.Kit.i64_mul (by rw [e1, e2]; omega) (by rw [e1, e2]; omega)
  rw [own_cgt, Int64.lt_iff_toInt_lt, e4, e1, e2, e3]
  omega
theorem own_geN {a b : Nat} (ha : a < 2 ^ 31) (hb : b < 2 ^ 31) (h : b ≤ a) : ¬ Int32.ofNat a < Int32.ofNat b := fun q => by
  have := (own_ltN ha hb).mp q
  omega
theorem own_odd {a : Nat} (ha : a < 2 ^ 31) : (Int32.ofNat a &&& (1 : Int32)) = (1 : Int32) ↔ a % 2 = 1 := by
  have e1 : (Int32.ofNat a &&& 1).toInt = (Int32.ofNat a).toInt % 2 ^ 1 := Jvm.Kit.i32_mask _ 1 (by decide) (by decide)
  rw [own_toInt ha] at e1
  have e2 : (1 : Int32).toInt = 1 := rfl
  rw [← Int32.toInt_inj, e1, e2]
  omega
theorem own_half {a : Nat} (ha : a < 2 ^ 31) : Int32.ofNat a >>> ((1 : Int32) &&& 31) = Int32.ofNat (a / 2) := by
  apply own_ofInt
  · rw [Jvm.Kit.i32_shr _ _ (k := 1) (by decide), own_toInt ha]
    norm_cast
  · omega
theorem own_pw2 {n d e f : Nat} (h : n ≤ d * 2 ^ (f + 1)) (he : 2 * d ≤ e) : n ≤ e * 2 ^ f := by
  refine Nat.le_trans h ?_
  rw [Nat.pow_succ, Nat.mul_comm (2 ^ f) 2, ← Nat.mul_assoc, Nat.mul_comm d 2]
  exact Nat.mul_le_mul_right _ he
theorem own_down0 {n f d : Nat} {r : Int32} {mk : Nat → Int32} (h : d < n) (q : r < own_lv n mk (2 * d + 1)) : own_down (fun i => decide (¬ r < own_lv n mk i)) n (f + 1) d = own_down (fun i => decide (¬ r < own_lv n mk i)) n f (2 * d) := by
  simp only [own_down, if_pos h]
  rw [if_neg (by simpa using q)]
theorem own_down1 {n f d : Nat} {r : Int32} {mk : Nat → Int32} (h : d < n) (q : ¬ r < own_lv n mk (2 * d + 1)) : own_down (fun i => decide (¬ r < own_lv n mk i)) n (f + 1) d = own_down (fun i => decide (¬ r < own_lv n mk i)) n f (2 * d + 1) := by
  simp only [own_down, if_pos h]
  rw [if_pos (by simpa using q)]
theorem own_upEnd {B : Nat → Bool} {f fr to : Nat} {node : Int32} (h : ¬ fr < to) : own_up B (f + 1) fr to node = node := by
  simp only [own_up, if_neg h]
theorem own_upBreak {n f fr to : Nat} {node r : Int32} {mk : Nat → Int32} (h : fr < to) (ht : to % 2 = 1) (q : ¬ r < own_lv n mk (to - 1)) : own_up (fun i => decide (¬ r < own_lv n mk i)) (f + 1) fr to node = Int32.ofNat (to - 1) := by
  simp only [own_up, if_pos h, if_pos ht]
  rw [if_pos (by simpa using q)]
/-- what becomes of the left end and of the node -/
def own_Left (n : Nat) (r : Int32) (mk : Nat → Int32) (fr fr' : Nat) (node node' : Int32) : Prop := (if fr % 2 = 1 then fr + 1 else fr) / 2 = fr' ∧ (if fr % 2 = 1 ∧ decide (¬ r < own_lv n mk fr) = true then Int32.ofNat fr else node) = node'
theorem own_oddYes {n fr : Nat} {r node : Int32} {mk : Nat → Int32} (h : fr % 2 = 1) (q : r < own_lv n mk fr) : own_Left n r mk fr ((fr + 1) / 2) node node := by
  refine ⟨by rw [if_pos h], if_neg fun z => ?_⟩
  have := z.2
  simp [q] at this
theorem own_oddNo {n fr : Nat} {r node : Int32} {mk : Nat → Int32} (h : fr % 2 = 1) (q : ¬ r < own_lv n mk fr) : own_Left n r mk fr ((fr + 1) / 2) node (Int32.ofNat fr) := ⟨by rw [if_pos h], if_pos ⟨h, by simpa using q⟩⟩
theorem own_even {n fr : Nat} {r node : Int32} {mk : Nat → Int32} (h : ¬ fr % 2 = 1) : own_Left n r mk fr (fr / 2) node node := ⟨by rw [if_neg h], if_neg fun z => h z.1⟩
theorem own_upGo {n f fr to : Nat} {node r : Int32} {mk : Nat → Int32} (h : fr < to) {fr' to' : Nat} {node' : Int32} (hl : own_Left n r mk fr fr' node node') (ht : (to % 2 = 1 ∧ (to - 1) / 2 = to' ∧ r < own_lv n mk (to - 1)) ∨ (¬ to % 2 = 1 ∧ to / 2 = to')) : own_up (fun i => decide (¬ r < own_lv n mk i)) (f + 1) fr to node = own_up (fun i => decide (¬ r < own_lv n mk i)) f fr' to' node' := by
  obtain ⟨l1, l2⟩ := hl
  simp only [own_up, if_pos h]
  rcases ht with ⟨t1, t2, t3⟩ | ⟨t1, t2⟩
  · rw [if_pos t1, if_neg (by simpa using t3), l1, t2, l2]
  · rw [if_neg t1, l1, t2, l2]
/-! the law's answer -/
theorem own_BF_congr {n : Nat} {b b' : Nat → Bool} (h : ∀ j, 1 ≤ j → b j = b' j) : ∀ f i, own_BF n b f i = own_BF n b' f i
  | 0, _ => rfl
  | f + 1, i => by
    simp only [own_BF]
    by_cases q : n ≤ i
    · rw [if_pos q, if_pos q]
      by_cases e : i = n
      · rw [if_pos e, if_pos e]
      · rw [if_neg e, if_neg e]; exact h _ (by omega)
    · rw [if_neg q, if_neg q, own_BF_congr h f, own_BF_congr h f]
theorem own_B {n : Nat} {r m : Int32} (hr : ¬ r < 0) : (fun i => decide (¬ r < own_lv n (own_mkf m) i)) = own_BF n (own_bits (decide (¬ r < own_mark m 1)) (decide (¬ r < own_mark m 2)) (decide (¬ r < own_mark m 3)) (decide (¬ r < own_mark m 4)) (decide (¬ r < own_mark m 5))) 4 := by
  funext i
  have e := own_BF_eq (n := n) (mk := own_mkf m) hr 4 i
  rw [show own_lv n (own_mkf m) i = own_lvF n (own_mkf m) 4 i from rfl, ← e]
  refine own_BF_congr (fun j hj => ?_) 4 i
  unfold own_bits
  by_cases e1 : j = 1
  · subst e1; rfl
  rw [if_neg e1]
  by_cases e2 : j = 2
  · subst e2; rfl
  rw [if_neg e2]
  by_cases e3 : j = 3
  · subst e3; rfl
  rw [if_neg e3]
  by_cases e4 : j = 4
  · subst e4; rfl
  rw [if_neg e4]
  by_cases e5 : j = 5
  · subst e5; rfl
  rw [if_neg e5]
  have : own_mkf m j = 0 := if_neg (by omega)
  rw [this]
  simp [hr]
def own_got (n pos : Nat) (mk : Nat → Int32) (r : Int32) : Int32 := Int32.ofNat (own_down (fun i => decide (¬ r < own_lv n mk i)) n 3 (own_up (fun i => decide (¬ r < own_lv n mk i)) 4 n (pos + 1 + n) (-1)).toNatClampNeg) - Int32.ofNat n
theorem own_U {n pos : Nat} {r m : Int32} (h1 : 1 ≤ n) (hn : n ≤ 6) (hp : pos < n) (hr : ¬ r < 0) : own_up (fun i => decide (¬ r < own_lv n (own_mkf m) i)) 4 n (pos + 1 + n) (-1) = Int32.ofNat (own_up (fun i => decide (¬ r < own_lv n (own_mkf m) i)) 4 n (pos + 1 + n) (-1)).toNatClampNeg ∧ 1 ≤ (own_up (fun i => decide (¬ r < own_lv n (own_mkf m) i)) 4 n (pos + 1 + n) (-1)).toNatClampNeg ∧ (own_up (fun i => decide (¬ r < own_lv n (own_mkf m) i)) 4 n (pos + 1 + n) (-1)).toNatClampNeg < 2 * n := by
  rw [own_B hr]
  obtain ⟨q1, q2, -⟩ := own_all ⟨n, by omega⟩ ⟨pos, by omega⟩ (decide (¬ r < own_mark m 1)) (decide (¬ r < own_mark m 2)) (decide (¬ r < own_mark m 3)) (decide (¬ r < own_mark m 4)) (decide (¬ r < own_mark m 5)) h1 hp
  simp only at q1 q2
  generalize own_up _ 4 n (pos + 1 + n) (-1) = u at *
  have e : u.toNatClampNeg = u.toInt.toNat := rfl
  refine ⟨own_ofInt (by rw [e]; omega) (by omega), by rw [e]; omega, q1⟩
def own_s (p r m j u : Int32) : Int32 := if p < j then u else (if r < m then u else j)
theorem own_s_def (p r m j u : Int32) : own_s p r m j u = if p < j then u else (if r < m then u else j) := rfl
def own_sb (p : Int32) (b : Bool) (j u : Int32) : Int32 := if p < j then u else (if b = true then j else u)
theorem own_s_b (p r m j u : Int32) : own_s p r m j u = own_sb p (decide (¬ r < m)) j u := by
  by_cases h0 : p < j <;> by_cases h : r < m <;> simp [own_s, own_sb, h0, h]
theorem own_wantAll : ∀ (pos : Fin 6) (b1 b2 b3 b4 b5 : Bool), own_sb (Int32.ofNat pos.val) b5 5 (own_sb (Int32.ofNat pos.val) b4 4 (own_sb (Int32.ofNat pos.val) b3 3 (own_sb (Int32.ofNat pos.val) b2 2 (own_sb (Int32.ofNat pos.val) b1 1 0)))) = Int32.ofNat (own_want pos.val b1 b2 b3 b4 b5) := by decide +kernel
theorem own_main {n pos : Nat} {r m : Int32} (h1 : 1 ≤ n) (hn : n ≤ 6) (hp : pos < n) (hr : ¬ r < 0) : own_got n pos (own_mkf m) r = own_s (Int32.ofNat pos) r (own_mark m (5 : Int32)) (5 : Int32) (own_s (Int32.ofNat pos) r (own_mark m (4 : Int32)) (4 : Int32) (own_s (Int32.ofNat pos) r (own_mark m (3 : Int32)) (3 : Int32) (own_s (Int32.ofNat pos) r (own_mark m (2 : Int32)) (2 : Int32) (own_s (Int32.ofNat pos) r (own_mark m (1 : Int32)) (1 : Int32) (0 : Int32))))) := by
  obtain ⟨-, -, q3⟩ := own_all ⟨n, by omega⟩ ⟨pos, by omega⟩ (decide (¬ r < own_mark m 1)) (decide (¬ r < own_mark m 2)) (decide (¬ r < own_mark m 3)) (decide (¬ r < own_mark m 4)) (decide (¬ r < own_mark m 5)) h1 hp
  have w := own_wantAll ⟨pos, by omega⟩ (decide (¬ r < own_mark m 1)) (decide (¬ r < own_mark m 2)) (decide (¬ r < own_mark m 3)) (decide (¬ r < own_mark m 4)) (decide (¬ r < own_mark m 5))
  simp only at q3 w
  unfold own_got
  rw [own_B hr, q3, own_s_b, own_s_b, own_s_b, own_s_b, own_s_b, w, own_subN ?_ (by omega)]
  · congr 1; omega
  · have : own_want pos (decide (¬ r < own_mark m 1)) (decide (¬ r < own_mark m 2)) (decide (¬ r < own_mark m 3)) (decide (¬ r < own_mark m 4)) (decide (¬ r < own_mark m 5)) ≤ 5 := by
      unfold own_want
      repeat' split
      all_goals omega
    omega
theorem own_gotpos {st k n : Nat} {x : Int32} (h1 : 1 ≤ n) (hn : n ≤ 6) (hk : k < n) (hst : st < n) (h : ((Int32.ofNat st - Int32.ofNat k) + Int32.ofNat n) % Int32.ofNat n = x) : x = Int32.ofNat ((st + n - k) % n) := h.symm.trans (own_pos h1 hn hk hst)

theorem own_d2_0 : decode method_4_code 0 = .ok (.iload 6, 2) := by decide +kernel
theorem own_d2_2 : decode method_4_code 2 = .ok (.iload 4, 2) := by decide +kernel
theorem own_d2_4 : decode method_4_code 4 = .ok (.if_icmp .ge 33, 3) := by decide +kernel
theorem own_d2_7 : decode method_4_code 7 = .ok (.iload 6, 2) := by decide +kernel
theorem own_d2_9 : decode method_4_code 9 = .ok (.iload 5, 2) := by decide +kernel
theorem own_d2_11 : decode method_4_code 11 = .ok (.iadd, 1) := by decide +kernel
theorem own_d2_12 : decode method_4_code 12 = .ok (.iload 4, 2) := by decide +kernel
theorem own_d2_14 : decode method_4_code 14 = .ok (.irem, 1) := by decide +kernel
theorem own_d2_15 : decode method_4_code 15 = .ok (.istore 7, 2) := by decide +kernel
theorem own_d2_17 : decode method_4_code 17 = .ok (.aload_n 0, 1) := by decide +kernel
theorem own_d2_18 : decode method_4_code 18 = .ok (.iload 6, 2) := by decide +kernel
theorem own_d2_20 : decode method_4_code 20 = .ok (.iload 7, 2) := by decide +kernel
theorem own_d2_22 : decode method_4_code 22 = .ok (.iastore, 1) := by decide +kernel
theorem own_d2_23 : decode method_4_code 23 = .ok (.aload_n 1, 1) := by decide +kernel
theorem own_d2_24 : decode method_4_code 24 = .ok (.iload 7, 2) := by decide +kernel
theorem own_d2_26 : decode method_4_code 26 = .ok (.iload 6, 2) := by decide +kernel
theorem own_d2_28 : decode method_4_code 28 = .ok (.iastore, 1) := by decide +kernel
theorem own_d2_29 : decode method_4_code 29 = .ok (.aload_n 2, 1) := by decide +kernel
theorem own_d2_30 : decode method_4_code 30 = .ok (.iload 6, 2) := by decide +kernel
theorem own_d2_32 : decode method_4_code 32 = .ok (.aload_n 3, 1) := by decide +kernel
theorem own_d2_33 : decode method_4_code 33 = .ok (.iload 6, 2) := by decide +kernel
theorem own_d2_35 : decode method_4_code 35 = .ok (.iaload, 1) := by decide +kernel
theorem own_d2_36 : decode method_4_code 36 = .ok (.iastore, 1) := by decide +kernel
theorem own_d2_37 : decode method_4_code 37 = .ok (.return_, 1) := by decide +kernel
theorem own_ef_rm3 (m : MethodId) (x0 : Addr) (x1 : Addr) (x2 : Addr) (x3 : Addr) (x4 : Int32) (x5 : Int32) (x6 : Int32) : entryFrame m #[(.ref x0), (.ref x1), (.ref x2), (.ref x3), (.int x4), (.int x5), (.int x6)] 8 = mkF m 0 #[.val (.ref x0), .val (.ref x1), .val (.ref x2), .val (.ref x3), .val (.int x4), .val (.int x5), .val (.int x6), .unset] [] := by first | (simp [entryFrame, mkF, argsToLocals, Value.category]; done) | rfl
def own_Q_rm3 (Z : State) (r0 : Addr) (r1 : Addr) (r2 : Addr) (r3 : Addr) (p4 : Int32) (p5 : Int32) (p6 : Int32) (n kk pi : Nat) (mk : Nat → Int32) (k0 k1 k2 k3 : ClassId) (v0 mkl : List Value) (h0 : Heap) (n0 : Nat) (v : Option Value) (h : Heap) (L : List Loc) : Prop := v = none ∧ Fr n0 L ∧ Keep h0 h [r0, r1, r2] ∧ (∃ v0' : List Value, Arv Z h r0 k0 .int (Int32.ofNat n) v0' (.int (0 : Int32))) ∧ Arv Z h r1 k1 .int (Int32.ofNat n) (own_posL n kk (pi + 1)) (.int (0 : Int32)) ∧ Arv Z h r2 k2 .int (Int32.ofNat n) (own_splL n mk (pi + 1)) (.int (0 : Int32))
set_option maxRecDepth 65536 in
set_option maxHeartbeats 40000000 in
theorem rm3 (l : Launch) (Z : State) (a0 : Array Value) (hw : ∀ d ∈ tables_1, d.before a0 Z = true) (ws : List Jvm.Cond) (r0 : Addr) (r1 : Addr) (r2 : Addr) (r3 : Addr) (p4 : Int32) (p5 : Int32) (p6 : Int32) (n kk pi : Nat) (mk : Nat → Int32) (k0 k1 k2 k3 : ClassId) (v0 mkl : List Value) (h0 : Heap) (n0 : Nat) (Z0 : n0 ≤ h0.size) (h_p4 : p4 = (Int32.ofNat n)) (h_p5 : p5 = (Int32.ofNat kk)) (h_p6 : p6 = (Int32.ofNat pi)) (V0 : Arv Z h0 r0 k0 .int (Int32.ofNat n) v0 (.int (0 : Int32))) (V1 : Arv Z h0 r1 k1 .int (Int32.ofNat n) (own_posL n kk pi) (.int (0 : Int32))) (V2 : Arv Z h0 r2 k2 .int (Int32.ofNat n) (own_splL n mk pi) (.int (0 : Int32))) (V3 : Arv Z h0 r3 k3 .int (6 : Int32) mkl (.int (0 : Int32))) (g0 : n0 ≤ r0) (g1 : n0 ≤ r1) (g2 : n0 ≤ r2) (ne01 : r0 ≠ r1) (ne02 : r0 ≠ r2) (ne03 : r0 ≠ r3) (ne12 : r1 ≠ r2) (ne13 : r1 ≠ r3) (ne23 : r2 ≠ r3) (h1 : 1 ≤ n) (hn : n ≤ 6) (hk : kk < n) (hp6 : pi < 6) (hmk : mkl.getD pi (.int (0 : Int32)) = .int (mk pi)) :
    MetFree l (⟨"com/example/bisimilar/bisimilar/equivalence/RefinementHistoryClassStartPinLaw", "set", "([I[I[I[IIII)V"⟩ : MethodName) (head1 (Jvm.Cond.code (⟨"com/example/bisimilar/bisimilar/equivalence/RefinementHistoryClassStartPinLaw", "set", "([I[I[I[IIII)V"⟩ : MethodName) method_4_code 8 none :: ws) ({ frames := 0, cells := 0, slots := 0, locals := 0 } : Room)) (fun a U => a = #[(.ref r0), (.ref r1), (.ref r2), (.ref r3), (.int p4), (.int p5), (.int p6)] ∧ Z.Warmed39 U.vm ∧ U.heap = h0) (fun _ _ _ _ _ => True) (fun _ U o U' => ∃ v L, o = .returned v ∧ (own_Q_rm3 Z r0 r1 r2 r3 p4 p5 p6 n kk pi mk k0 k1 k2 k3 v0 mkl h0 n0) v U'.heap L ∧ FrameEnd U o U' L ({ frames := 0, cells := 0, slots := 0, locals := 0 } : Room).cells ({ frames := 0, cells := 0, slots := 0, locals := 0 } : Room).slots) := by
  refine MetFree.of_bodySF (plainFor_of_name own_pn0) hisR ?_
  intro p e s m args below meth c s₁ Bd hml0 hP hK
  obtain ⟨rfl, hZ, hh⟩ := hP
  have hx := Bd.exec
  have hby := Bd.bytes
  have hml : c.maxLocals = 8 := hml0
  have hown : s.vm.findClass "com/example/bisimilar/bisimilar/equivalence/RefinementHistoryClassStartPinLaw" = some m.cls := findClass_of_methodNamed Bd.named
  have hnm := (name_of_methodNamed Bd.named Bd.method).1
  have hlk : meth.locks = false := BodyLoose.notSynchronized Bd
  have X0 : Stand p l e ({ frames := 0, cells := 0, slots := 0, locals := 0 } : Room) s m #[(.ref r0), (.ref r1), (.ref r2), (.ref r3), (.int p4), (.int p5), (.int p6)] below meth c s₁ [] 0 0 := Stand.of_body Bd
  have e0 : s₁.heap = h0 := by rw [← hh, Bd.state]; rfl
  have N0 := Fr.nil n0
  show own_Ends p e below (own_Fin s (own_Q_rm3 Z r0 r1 r2 r3 p4 p5 p6 n kk pi mk k0 k1 k2 k3 v0 mkl h0 n0) ({ frames := 0, cells := 0, slots := 0, locals := 0 } : Room).cells ({ frames := 0, cells := 0, slots := 0, locals := 0 } : Room).slots) _
  refine own_pre (fun t k => castTop (own_ef_rm3 m r0 r1 r2 r3 p4 p5 p6) k) ?_
  subst h_p4 h_p5 h_p6
  have KK0 : Keep h0 h0 [r0, r1, r2] := Keep.refl _ _
  show own_Ends _ _ _ _ (s₁.setTop (mkF m 0 #[.val (.ref r0), .val (.ref r1), .val (.ref r2), .val (.ref r3), .val (.int (Int32.ofNat n)), .val (.int (Int32.ofNat kk)), .val (.int (Int32.ofNat pi)), .unset] []))
  refine own_pre (fun t k => XS.iload X0.here hx rfl (hb hby own_d2_0) rfl k) ?_
  show own_Ends _ _ _ _ (s₁.setTop (mkF m 2 #[.val (.ref r0), .val (.ref r1), .val (.ref r2), .val (.ref r3), .val (.int (Int32.ofNat n)), .val (.int (Int32.ofNat kk)), .val (.int (Int32.ofNat pi)), .unset] [(.int (Int32.ofNat pi))]))
  refine own_pre (fun t k => XS.iload X0.here hx rfl (hb hby own_d2_2) rfl k) ?_
  show own_Ends _ _ _ _ (s₁.setTop (mkF m 4 #[.val (.ref r0), .val (.ref r1), .val (.ref r2), .val (.ref r3), .val (.int (Int32.ofNat n)), .val (.int (Int32.ofNat kk)), .val (.int (Int32.ofNat pi)), .unset] [(.int (Int32.ofNat n)), (.int (Int32.ofNat pi))]))
  by_cases hc103 : (Int32.ofNat pi) < (Int32.ofNat n)
  · skip
    have hpn : pi < n := (own_ltN (by omega) (by omega)).mp hc103
    refine own_pre (fun t k => XS.icmpNo X0.here hx rfl (hb hby own_d2_4) rfl (tlt hc103).2.1 k) ?_
    show own_Ends _ _ _ _ (s₁.setTop (mkF m 7 #[.val (.ref r0), .val (.ref r1), .val (.ref r2), .val (.ref r3), .val (.int (Int32.ofNat n)), .val (.int (Int32.ofNat kk)), .val (.int (Int32.ofNat pi)), .unset] []))
    refine own_pre (fun t k => XS.iload X0.here hx rfl (hb hby own_d2_7) rfl k) ?_
    show own_Ends _ _ _ _ (s₁.setTop (mkF m 9 #[.val (.ref r0), .val (.ref r1), .val (.ref r2), .val (.ref r3), .val (.int (Int32.ofNat n)), .val (.int (Int32.ofNat kk)), .val (.int (Int32.ofNat pi)), .unset] [(.int (Int32.ofNat pi))]))
    refine own_pre (fun t k => XS.iload X0.here hx rfl (hb hby own_d2_9) rfl k) ?_
    show own_Ends _ _ _ _ (s₁.setTop (mkF m 11 #[.val (.ref r0), .val (.ref r1), .val (.ref r2), .val (.ref r3), .val (.int (Int32.ofNat n)), .val (.int (Int32.ofNat kk)), .val (.int (Int32.ofNat pi)), .unset] [(.int (Int32.ofNat kk)), (.int (Int32.ofNat pi))]))
    refine own_pre (fun t k => XS.iadd X0.here hx rfl (hb hby own_d2_11) rfl k) ?_
    show own_Ends _ _ _ _ (s₁.setTop (mkF m 12 #[.val (.ref r0), .val (.ref r1), .val (.ref r2), .val (.ref r3), .val (.int (Int32.ofNat n)), .val (.int (Int32.ofNat kk)), .val (.int (Int32.ofNat pi)), .unset] [(.int ((Int32.ofNat pi) + (Int32.ofNat kk)))]))
    refine own_pre (fun t k => XS.iload X0.here hx rfl (hb hby own_d2_12) rfl k) ?_
    show own_Ends _ _ _ _ (s₁.setTop (mkF m 14 #[.val (.ref r0), .val (.ref r1), .val (.ref r2), .val (.ref r3), .val (.int (Int32.ofNat n)), .val (.int (Int32.ofNat kk)), .val (.int (Int32.ofNat pi)), .unset] [(.int (Int32.ofNat n)), (.int ((Int32.ofNat pi) + (Int32.ofNat kk)))]))
    refine own_pre (fun t k => iremM X0 hx rfl (hb hby own_d2_14) rfl (own_nzN h1 (by omega)) k) ?_
    show own_Ends _ _ _ _ (s₁.setTop (mkF m 15 #[.val (.ref r0), .val (.ref r1), .val (.ref r2), .val (.ref r3), .val (.int (Int32.ofNat n)), .val (.int (Int32.ofNat kk)), .val (.int (Int32.ofNat pi)), .unset] [(.int (((Int32.ofNat pi) + (Int32.ofNat kk)) % (Int32.ofNat n)))]))
    rw [own_addN, own_remN (by omega) (by omega)]
    show own_Ends _ _ _ _ (s₁.setTop (mkF m 15 #[.val (.ref r0), .val (.ref r1), .val (.ref r2), .val (.ref r3), .val (.int (Int32.ofNat n)), .val (.int (Int32.ofNat kk)), .val (.int (Int32.ofNat pi)), .unset] [(.int (Int32.ofNat ((pi + kk) % n)))]))
    refine own_pre (fun t k => XS.istore X0.here hx rfl (hb hby own_d2_15) rfl (l' := #[.val (.ref r0), .val (.ref r1), .val (.ref r2), .val (.ref r3), .val (.int (Int32.ofNat n)), .val (.int (Int32.ofNat kk)), .val (.int (Int32.ofNat pi)), .val (.int (Int32.ofNat ((pi + kk) % n)))]) rfl k) ?_
    show own_Ends _ _ _ _ (s₁.setTop (mkF m 17 #[.val (.ref r0), .val (.ref r1), .val (.ref r2), .val (.ref r3), .val (.int (Int32.ofNat n)), .val (.int (Int32.ofNat kk)), .val (.int (Int32.ofNat pi)), .val (.int (Int32.ofNat ((pi + kk) % n)))] []))
    refine own_pre (fun t k => XS.aloadN X0.here hx rfl (hb hby own_d2_17) rfl rfl k) ?_
    show own_Ends _ _ _ _ (s₁.setTop (mkF m 18 #[.val (.ref r0), .val (.ref r1), .val (.ref r2), .val (.ref r3), .val (.int (Int32.ofNat n)), .val (.int (Int32.ofNat kk)), .val (.int (Int32.ofNat pi)), .val (.int (Int32.ofNat ((pi + kk) % n)))] [(.ref r0)]))
    refine own_pre (fun t k => XS.iload X0.here hx rfl (hb hby own_d2_18) rfl k) ?_
    show own_Ends _ _ _ _ (s₁.setTop (mkF m 20 #[.val (.ref r0), .val (.ref r1), .val (.ref r2), .val (.ref r3), .val (.int (Int32.ofNat n)), .val (.int (Int32.ofNat kk)), .val (.int (Int32.ofNat pi)), .val (.int (Int32.ofNat ((pi + kk) % n)))] [(.int (Int32.ofNat pi)), (.ref r0)]))
    refine own_pre (fun t k => XS.iload X0.here hx rfl (hb hby own_d2_20) rfl k) ?_
    show own_Ends _ _ _ _ (s₁.setTop (mkF m 22 #[.val (.ref r0), .val (.ref r1), .val (.ref r2), .val (.ref r3), .val (.int (Int32.ofNat n)), .val (.int (Int32.ofNat kk)), .val (.int (Int32.ofNat pi)), .val (.int (Int32.ofNat ((pi + kk) % n)))] [(.int (Int32.ofNat ((pi + kk) % n))), (.int (Int32.ofNat pi)), (.ref r0)]))
    obtain ⟨cl104, Ar104, qc104, S104, M104, H104, G104⟩ := id (V0)
    have hin104 : ¬ ((Int32.ofNat pi) < 0 ∨ cl104.slots.size ≤ ((Int32.ofNat pi)).toNatClampNeg) := inb_of S104 (own_inN (by omega) hpn)
    obtain ⟨T104, h104, X104, e104, W104, st104⟩ := stI X0 hx hZ e0 Ar104 (j := (Int32.ofNat pi)) hin104 (g := (mkF m 22 #[.val (.ref r0), .val (.ref r1), .val (.ref r2), .val (.ref r3), .val (.int (Int32.ofNat n)), .val (.int (Int32.ofNat kk)), .val (.int (Int32.ofNat pi)), .val (.int (Int32.ofNat ((pi + kk) % n)))] [(.int (Int32.ofNat ((pi + kk) % n))), (.int (Int32.ofNat pi)), (.ref r0)])) rfl rfl (hb hby own_d2_22)
    refine own_pre st104 ?_
    obtain ⟨vs104, f105⟩ := own_setAny Ar104 qc104 S104 M104 H104 G104 (show fits .int (.int (Int32.ofNat ((pi + kk) % n))) = true from rfl) W104
    have f106 := V1.other W104 (Ne.symm ne01)
    have f107 := V2.other W104 (Ne.symm ne02)
    have f108 := V3.other W104 (Ne.symm ne03)
    have N109 := Fr.snoc X104 N0 g0
    obtain ⟨LL104, X104, N109⟩ := own_hide X104 N109
    have Zn110 : n0 ≤ h104.size := by rw [W104.size]; exact Z0
    have K111 : Keep h0 h104 [r0, r1, r2] := KK0.wr W104 (Or.inl (by simp))
    show own_Ends _ _ _ _ (T104.setTop (mkF m 23 #[.val (.ref r0), .val (.ref r1), .val (.ref r2), .val (.ref r3), .val (.int (Int32.ofNat n)), .val (.int (Int32.ofNat kk)), .val (.int (Int32.ofNat pi)), .val (.int (Int32.ofNat ((pi + kk) % n)))] []))
    refine own_pre (fun t k => XS.aloadN X104.here hx rfl (hb hby own_d2_23) rfl rfl k) ?_
    show own_Ends _ _ _ _ (T104.setTop (mkF m 24 #[.val (.ref r0), .val (.ref r1), .val (.ref r2), .val (.ref r3), .val (.int (Int32.ofNat n)), .val (.int (Int32.ofNat kk)), .val (.int (Int32.ofNat pi)), .val (.int (Int32.ofNat ((pi + kk) % n)))] [(.ref r1)]))
    refine own_pre (fun t k => XS.iload X104.here hx rfl (hb hby own_d2_24) rfl k) ?_
    show own_Ends _ _ _ _ (T104.setTop (mkF m 26 #[.val (.ref r0), .val (.ref r1), .val (.ref r2), .val (.ref r3), .val (.int (Int32.ofNat n)), .val (.int (Int32.ofNat kk)), .val (.int (Int32.ofNat pi)), .val (.int (Int32.ofNat ((pi + kk) % n)))] [(.int (Int32.ofNat ((pi + kk) % n))), (.ref r1)]))
    refine own_pre (fun t k => XS.iload X104.here hx rfl (hb hby own_d2_26) rfl k) ?_
    show own_Ends _ _ _ _ (T104.setTop (mkF m 28 #[.val (.ref r0), .val (.ref r1), .val (.ref r2), .val (.ref r3), .val (.int (Int32.ofNat n)), .val (.int (Int32.ofNat kk)), .val (.int (Int32.ofNat pi)), .val (.int (Int32.ofNat ((pi + kk) % n)))] [(.int (Int32.ofNat pi)), (.int (Int32.ofNat ((pi + kk) % n))), (.ref r1)]))
    obtain ⟨cl112, Ar112, qc112, S112, M112, H112, G112⟩ := id (f106)
    have hin112 : ¬ ((Int32.ofNat ((pi + kk) % n)) < 0 ∨ cl112.slots.size ≤ ((Int32.ofNat ((pi + kk) % n))).toNatClampNeg) := inb_of S112 (own_inN (by omega) (Nat.mod_lt _ (by omega)))
    obtain ⟨T112, h112, X112, e112, W112, st112⟩ := stI X104 hx hZ e104 Ar112 (j := (Int32.ofNat ((pi + kk) % n))) hin112 (g := (mkF m 28 #[.val (.ref r0), .val (.ref r1), .val (.ref r2), .val (.ref r3), .val (.int (Int32.ofNat n)), .val (.int (Int32.ofNat kk)), .val (.int (Int32.ofNat pi)), .val (.int (Int32.ofNat ((pi + kk) % n)))] [(.int (Int32.ofNat pi)), (.int (Int32.ofNat ((pi + kk) % n))), (.ref r1)])) rfl rfl (hb hby own_d2_28)
    refine own_pre st112 ?_
    have f113 : Arv Z h112 r1 k1 .int (Int32.ofNat n) (own_posL n kk (pi + 1)) (.int (0 : Int32)) := by rw [own_posSucc hpn]; exact Arv.set Ar112 qc112 S112 M112 H112 G112 (show fits .int (.int (Int32.ofNat pi)) = true from rfl) W112 ((pi + kk) % n) (own_clamp (Nat.lt_of_lt_of_le (Nat.mod_lt _ (by omega)) (by omega))) (by rw [own_posLlen]; exact Nat.mod_lt _ (by omega))
    have f114 := f107.other W112 (Ne.symm ne12)
    have f115 := f108.other W112 (Ne.symm ne13)
    have f116 := f105.other W112 ne01
    have N117 := Fr.snoc X112 N109 g1
    obtain ⟨LL112, X112, N117⟩ := own_hide X112 N117
    have Zn118 : n0 ≤ h112.size := by rw [W112.size]; exact Zn110
    have K119 : Keep h0 h112 [r0, r1, r2] := K111.wr W112 (Or.inl (by simp))
    show own_Ends _ _ _ _ (T112.setTop (mkF m 29 #[.val (.ref r0), .val (.ref r1), .val (.ref r2), .val (.ref r3), .val (.int (Int32.ofNat n)), .val (.int (Int32.ofNat kk)), .val (.int (Int32.ofNat pi)), .val (.int (Int32.ofNat ((pi + kk) % n)))] []))
    refine own_pre (fun t k => XS.aloadN X112.here hx rfl (hb hby own_d2_29) rfl rfl k) ?_
    show own_Ends _ _ _ _ (T112.setTop (mkF m 30 #[.val (.ref r0), .val (.ref r1), .val (.ref r2), .val (.ref r3), .val (.int (Int32.ofNat n)), .val (.int (Int32.ofNat kk)), .val (.int (Int32.ofNat pi)), .val (.int (Int32.ofNat ((pi + kk) % n)))] [(.ref r2)]))
    refine own_pre (fun t k => XS.iload X112.here hx rfl (hb hby own_d2_30) rfl k) ?_
    show own_Ends _ _ _ _ (T112.setTop (mkF m 32 #[.val (.ref r0), .val (.ref r1), .val (.ref r2), .val (.ref r3), .val (.int (Int32.ofNat n)), .val (.int (Int32.ofNat kk)), .val (.int (Int32.ofNat pi)), .val (.int (Int32.ofNat ((pi + kk) % n)))] [(.int (Int32.ofNat pi)), (.ref r2)]))
    refine own_pre (fun t k => XS.aloadN X112.here hx rfl (hb hby own_d2_32) rfl rfl k) ?_
    show own_Ends _ _ _ _ (T112.setTop (mkF m 33 #[.val (.ref r0), .val (.ref r1), .val (.ref r2), .val (.ref r3), .val (.int (Int32.ofNat n)), .val (.int (Int32.ofNat kk)), .val (.int (Int32.ofNat pi)), .val (.int (Int32.ofNat ((pi + kk) % n)))] [(.ref r3), (.int (Int32.ofNat pi)), (.ref r2)]))
    refine own_pre (fun t k => XS.iload X112.here hx rfl (hb hby own_d2_33) rfl k) ?_
    show own_Ends _ _ _ _ (T112.setTop (mkF m 35 #[.val (.ref r0), .val (.ref r1), .val (.ref r2), .val (.ref r3), .val (.int (Int32.ofNat n)), .val (.int (Int32.ofNat kk)), .val (.int (Int32.ofNat pi)), .val (.int (Int32.ofNat ((pi + kk) % n)))] [(.int (Int32.ofNat pi)), (.ref r3), (.int (Int32.ofNat pi)), (.ref r2)]))
    obtain ⟨cl120, Ar120, qc120, S120, M120, H120, G120⟩ := id (f115)
    have hin120 : ¬ ((Int32.ofNat pi) < 0 ∨ cl120.slots.size ≤ ((Int32.ofNat pi)).toNatClampNeg) := inb_of S120 (own_inN (b := 6) (by omega) hp6)
    have hat120 : cl120.slots[((Int32.ofNat pi)).toNatClampNeg]? = some (.int (mk pi)) := H120.at hin120 (by rw [own_clamp (by omega)]; exact hmk)
    refine own_pre (fun t k => X112.iaload hx (j := (Int32.ofNat pi)) (v := (.int (mk pi))) (by rw [e112]; exact Ar120.1) (State.isArrayOf_alike hZ.alike Ar120.2.1) Ar120.2.2 hin120 hat120 (g := (mkF m 35 #[.val (.ref r0), .val (.ref r1), .val (.ref r2), .val (.ref r3), .val (.int (Int32.ofNat n)), .val (.int (Int32.ofNat kk)), .val (.int (Int32.ofNat pi)), .val (.int (Int32.ofNat ((pi + kk) % n)))] [(.int (Int32.ofNat pi)), (.ref r3), (.int (Int32.ofNat pi)), (.ref r2)])) rfl rfl (hb hby own_d2_35) _ k) ?_
    show own_Ends _ _ _ _ (T112.setTop (mkF m 36 #[.val (.ref r0), .val (.ref r1), .val (.ref r2), .val (.ref r3), .val (.int (Int32.ofNat n)), .val (.int (Int32.ofNat kk)), .val (.int (Int32.ofNat pi)), .val (.int (Int32.ofNat ((pi + kk) % n)))] [(.int (mk pi)), (.int (Int32.ofNat pi)), (.ref r2)]))
    obtain ⟨cl121, Ar121, qc121, S121, M121, H121, G121⟩ := id (f114)
    have hin121 : ¬ ((Int32.ofNat pi) < 0 ∨ cl121.slots.size ≤ ((Int32.ofNat pi)).toNatClampNeg) := inb_of S121 (own_inN (by omega) hpn)
    obtain ⟨T121, h121, X121, e121, W121, st121⟩ := stI X112 hx hZ e112 Ar121 (j := (Int32.ofNat pi)) hin121 (g := (mkF m 36 #[.val (.ref r0), .val (.ref r1), .val (.ref r2), .val (.ref r3), .val (.int (Int32.ofNat n)), .val (.int (Int32.ofNat kk)), .val (.int (Int32.ofNat pi)), .val (.int (Int32.ofNat ((pi + kk) % n)))] [(.int (mk pi)), (.int (Int32.ofNat pi)), (.ref r2)])) rfl rfl (hb hby own_d2_36)
    refine own_pre st121 ?_
    have f122 : Arv Z h121 r2 k2 .int (Int32.ofNat n) (own_splL n mk (pi + 1)) (.int (0 : Int32)) := by rw [own_splSucc hpn]; exact Arv.set Ar121 qc121 S121 M121 H121 G121 (show fits .int (.int (mk pi)) = true from rfl) W121 pi (own_clamp (by omega)) (by rw [own_splLen]; exact hpn)
    have f123 := f115.other W121 (Ne.symm ne23)
    have f124 := f116.other W121 ne02
    have f125 := f113.other W121 ne12
    have N126 := Fr.snoc X121 N117 g2
    obtain ⟨LL121, X121, N126⟩ := own_hide X121 N126
    have Zn127 : n0 ≤ h121.size := by rw [W121.size]; exact Zn118
    have K128 : Keep h0 h121 [r0, r1, r2] := K119.wr W121 (Or.inl (by simp))
    show own_Ends _ _ _ _ (T121.setTop (mkF m 37 #[.val (.ref r0), .val (.ref r1), .val (.ref r2), .val (.ref r3), .val (.int (Int32.ofNat n)), .val (.int (Int32.ofNat kk)), .val (.int (Int32.ofNat pi)), .val (.int (Int32.ofNat ((pi + kk) % n)))] []))
    exact own_retV X121 hx Bd.returns (hb hby own_d2_37) hlk e121 ⟨rfl, N126, K128, ⟨_, f124⟩, f125, f122⟩ (by decide) (by decide)
  · skip
    have hpn : ¬ pi < n := fun q => hc103 ((own_ltN (by omega) (by omega)).mpr q)
    refine own_pre (fun t k => XS.icmpYes X0.here hx rfl (pc0 := 4) (pc' := 37) rfl (hb hby own_d2_4) rfl (flt hc103).2.1 (by decide) (by decide) k) ?_
    show own_Ends _ _ _ _ (s₁.setTop (mkF m 37 #[.val (.ref r0), .val (.ref r1), .val (.ref r2), .val (.ref r3), .val (.int (Int32.ofNat n)), .val (.int (Int32.ofNat kk)), .val (.int (Int32.ofNat pi)), .unset] []))
    exact own_retV X0 hx Bd.returns (hb hby own_d2_37) hlk e0 ⟨rfl, N0, KK0, ⟨_, V0⟩, by rw [own_posSkip hpn]; exact V1, by rw [own_splSkip hpn]; exact V2⟩ (by decide) (by decide)
theorem own_d3_0 : decode prog_22_method_1_code 0 = .ok (.aload_n 0, 1) := by decide +kernel
theorem own_d3_1 : decode prog_22_method_1_code 1 = .ok (.invokespecial 3, 3) := by decide +kernel
theorem own_d3_4 : decode prog_22_method_1_code 4 = .ok (.aload_n 0, 1) := by decide +kernel
theorem own_d3_5 : decode prog_22_method_1_code 5 = .ok (.aload_n 1, 1) := by decide +kernel
theorem own_d3_6 : decode prog_22_method_1_code 6 = .ok (.putfield 9, 3) := by decide +kernel
theorem own_d3_9 : decode prog_22_method_1_code 9 = .ok (.aload_n 0, 1) := by decide +kernel
theorem own_d3_10 : decode prog_22_method_1_code 10 = .ok (.aload_n 2, 1) := by decide +kernel
theorem own_d3_11 : decode prog_22_method_1_code 11 = .ok (.putfield 15, 3) := by decide +kernel
theorem own_d3_14 : decode prog_22_method_1_code 14 = .ok (.aload_n 0, 1) := by decide +kernel
theorem own_d3_15 : decode prog_22_method_1_code 15 = .ok (.aload_n 1, 1) := by decide +kernel
theorem own_d3_16 : decode prog_22_method_1_code 16 = .ok (.arraylength, 1) := by decide +kernel
theorem own_d3_17 : decode prog_22_method_1_code 17 = .ok (.putfield 18, 3) := by decide +kernel
theorem own_d3_20 : decode prog_22_method_1_code 20 = .ok (.ldc2_w 22, 3) := by decide +kernel
theorem own_d3_23 : decode prog_22_method_1_code 23 = .ok (.aload_n 0, 1) := by decide +kernel
theorem own_d3_24 : decode prog_22_method_1_code 24 = .ok (.getfield 18, 3) := by decide +kernel
theorem own_d3_27 : decode prog_22_method_1_code 27 = .ok (.i2l, 1) := by decide +kernel
theorem own_d3_28 : decode prog_22_method_1_code 28 = .ok (.lmul, 1) := by decide +kernel
theorem own_d3_29 : decode prog_22_method_1_code 29 = .ok (.ldc2_w 24, 3) := by decide +kernel
theorem own_d3_32 : decode prog_22_method_1_code 32 = .ok (.lcmp, 1) := by decide +kernel
theorem own_d3_33 : decode prog_22_method_1_code 33 = .ok (.ifCond .le 20, 3) := by decide +kernel
theorem own_d3_53 : decode prog_22_method_1_code 53 = .ok (.aload_n 0, 1) := by decide +kernel
theorem own_d3_54 : decode prog_22_method_1_code 54 = .ok (.iconst 2, 1) := by decide +kernel
theorem own_d3_55 : decode prog_22_method_1_code 55 = .ok (.aload_n 0, 1) := by decide +kernel
theorem own_d3_56 : decode prog_22_method_1_code 56 = .ok (.getfield 18, 3) := by decide +kernel
theorem own_d3_59 : decode prog_22_method_1_code 59 = .ok (.imul, 1) := by decide +kernel
theorem own_d3_60 : decode prog_22_method_1_code 60 = .ok (.newarray .int, 2) := by decide +kernel
theorem own_d3_62 : decode prog_22_method_1_code 62 = .ok (.putfield 35, 3) := by decide +kernel
theorem own_d3_65 : decode prog_22_method_1_code 65 = .ok (.aload_n 3, 1) := by decide +kernel
theorem own_d3_66 : decode prog_22_method_1_code 66 = .ok (.iconst 0, 1) := by decide +kernel
theorem own_d3_67 : decode prog_22_method_1_code 67 = .ok (.aload_n 0, 1) := by decide +kernel
theorem own_d3_68 : decode prog_22_method_1_code 68 = .ok (.getfield 35, 3) := by decide +kernel
theorem own_d3_71 : decode prog_22_method_1_code 71 = .ok (.aload_n 0, 1) := by decide +kernel
theorem own_d3_72 : decode prog_22_method_1_code 72 = .ok (.getfield 18, 3) := by decide +kernel
theorem own_d3_75 : decode prog_22_method_1_code 75 = .ok (.aload_n 0, 1) := by decide +kernel
theorem own_d3_76 : decode prog_22_method_1_code 76 = .ok (.getfield 18, 3) := by decide +kernel
theorem own_d3_79 : decode prog_22_method_1_code 79 = .ok (.invokestatic 38, 3) := by decide +kernel
theorem own_d3_82 : decode prog_22_method_1_code 82 = .ok (.aload_n 0, 1) := by decide +kernel
theorem own_d3_83 : decode prog_22_method_1_code 83 = .ok (.getfield 18, 3) := by decide +kernel
theorem own_d3_86 : decode prog_22_method_1_code 86 = .ok (.ifCond .le 13, 3) := by decide +kernel
theorem own_d3_89 : decode prog_22_method_1_code 89 = .ok (.aload_n 0, 1) := by decide +kernel
theorem own_d3_90 : decode prog_22_method_1_code 90 = .ok (.getfield 35, 3) := by decide +kernel
theorem own_d3_93 : decode prog_22_method_1_code 93 = .ok (.aload_n 0, 1) := by decide +kernel
theorem own_d3_94 : decode prog_22_method_1_code 94 = .ok (.getfield 18, 3) := by decide +kernel
theorem own_d3_97 : decode prog_22_method_1_code 97 = .ok (.iconst 0, 1) := by decide +kernel
theorem own_d3_98 : decode prog_22_method_1_code 98 = .ok (.iastore, 1) := by decide +kernel
theorem own_d3_99 : decode prog_22_method_1_code 99 = .ok (.aload_n 0, 1) := by decide +kernel
theorem own_d3_100 : decode prog_22_method_1_code 100 = .ok (.getfield 18, 3) := by decide +kernel
theorem own_d3_103 : decode prog_22_method_1_code 103 = .ok (.iconst 1, 1) := by decide +kernel
theorem own_d3_104 : decode prog_22_method_1_code 104 = .ok (.isub, 1) := by decide +kernel
theorem own_d3_105 : decode prog_22_method_1_code 105 = .ok (.istore 4, 2) := by decide +kernel
theorem own_d3_107 : decode prog_22_method_1_code 107 = .ok (.iload 4, 2) := by decide +kernel
theorem own_d3_109 : decode prog_22_method_1_code 109 = .ok (.ifCond .le 39, 3) := by decide +kernel
theorem own_d3_148 : decode prog_22_method_1_code 148 = .ok (.return_, 1) := by decide +kernel
theorem own_d3_112 : decode prog_22_method_1_code 112 = .ok (.aload_n 0, 1) := by decide +kernel
theorem own_d3_113 : decode prog_22_method_1_code 113 = .ok (.getfield 35, 3) := by decide +kernel
theorem own_d3_116 : decode prog_22_method_1_code 116 = .ok (.iload 4, 2) := by decide +kernel
theorem own_d3_118 : decode prog_22_method_1_code 118 = .ok (.aload_n 0, 1) := by decide +kernel
theorem own_d3_119 : decode prog_22_method_1_code 119 = .ok (.getfield 35, 3) := by decide +kernel
theorem own_d3_122 : decode prog_22_method_1_code 122 = .ok (.iconst 2, 1) := by decide +kernel
theorem own_d3_123 : decode prog_22_method_1_code 123 = .ok (.iload 4, 2) := by decide +kernel
theorem own_d3_125 : decode prog_22_method_1_code 125 = .ok (.imul, 1) := by decide +kernel
theorem own_d3_126 : decode prog_22_method_1_code 126 = .ok (.iaload, 1) := by decide +kernel
theorem own_d3_127 : decode prog_22_method_1_code 127 = .ok (.aload_n 0, 1) := by decide +kernel
theorem own_d3_128 : decode prog_22_method_1_code 128 = .ok (.getfield 35, 3) := by decide +kernel
theorem own_d3_131 : decode prog_22_method_1_code 131 = .ok (.iconst 2, 1) := by decide +kernel
theorem own_d3_132 : decode prog_22_method_1_code 132 = .ok (.iload 4, 2) := by decide +kernel
theorem own_d3_134 : decode prog_22_method_1_code 134 = .ok (.imul, 1) := by decide +kernel
theorem own_d3_135 : decode prog_22_method_1_code 135 = .ok (.iconst 1, 1) := by decide +kernel
theorem own_d3_136 : decode prog_22_method_1_code 136 = .ok (.iadd, 1) := by decide +kernel
theorem own_d3_137 : decode prog_22_method_1_code 137 = .ok (.iaload, 1) := by decide +kernel
theorem own_pd0 : parseMethodDescriptor "(II)I" = some ⟨[.int, .int], some .int⟩ := by decide +kernel
theorem own_d3_138 : decode prog_22_method_1_code 138 = .ok (.invokestatic 44, 3) := by decide +kernel
theorem own_d3_141 : decode prog_22_method_1_code 141 = .ok (.iastore, 1) := by decide +kernel
theorem own_d3_142 : decode prog_22_method_1_code 142 = .ok (.iinc 4 (-1), 3) := by decide +kernel
theorem own_d3_145 : decode prog_22_method_1_code 145 = .ok (.goto (-38), 3) := by decide +kernel
theorem own_pn1 : plainName "com/example/bisimilar/bisimilar/equivalence/RefinementHistory" = true := by first | (simp [plainName, overriddenIn]; done) | decide +kernel
theorem own_ef_rm4 (m : MethodId) (x0 : Addr) (x1 : Addr) (x2 : Addr) (x3 : Addr) : entryFrame m #[(.ref x0), (.ref x1), (.ref x2), (.ref x3)] 5 = mkF m 0 #[.val (.ref x0), .val (.ref x1), .val (.ref x2), .val (.ref x3), .unset] [] := by first | (simp [entryFrame, mkF, argsToLocals, Value.category]; done) | rfl
def own_Q_rm4 (Z : State) (a0r r1 r2 r3 : Addr) (n : Nat) (mk : Nat → Int32) (k1 k3 : ClassId) (v1 : List Value) (h0 : Heap) (n0 : Nat) (v : Option Value) (h : Heap) (L : List Loc) : Prop := v = none ∧ Fr n0 L ∧ Keep h0 h [a0r] ∧ ∃ (b : Addr) (kb : ClassId) (vs : List Value), Fld Z h a0r "com/example/bisimilar/bisimilar/equivalence/RefinementHistory" "position" "[I" (.ref r2) ∧ Fld Z h a0r "com/example/bisimilar/bisimilar/equivalence/RefinementHistory" "leaves" "I" (.int (Int32.ofNat n)) ∧ Fld Z h a0r "com/example/bisimilar/bisimilar/equivalence/RefinementHistory" "least" "[I" (.ref b) ∧ Arv Z h b kb .int (Int32.ofNat (2 * n)) vs (.int (0 : Int32)) ∧ a0r ≠ b ∧ h0.size ≤ b ∧ (∀ j, 0 < j → j < 2 * n → vs.getD j (.int (0 : Int32)) = .int (own_lv n mk j))
set_option maxRecDepth 65536 in
set_option maxHeartbeats 40000000 in
theorem rm4 (l : Launch) (Z : State) (a0 : Array Value) (hw : ∀ d ∈ tables_1, d.before a0 Z = true) (ws : List Jvm.Cond) (a0r r1 r2 r3 : Addr) (n : Nat) (mk : Nat → Int32) (k1 k3 : ClassId) (v1 : List Value) (h0 : Heap) (n0 : Nat) (Z0 : n0 ≤ h0.size) (EX : Exa Z h0 a0r "com/example/bisimilar/bisimilar/equivalence/RefinementHistory") (g0r : n0 ≤ a0r) (F_states : Fld Z h0 a0r "com/example/bisimilar/bisimilar/equivalence/RefinementHistory" "states" "[I" .null) (F_position : Fld Z h0 a0r "com/example/bisimilar/bisimilar/equivalence/RefinementHistory" "position" "[I" .null) (F_leaves : Fld Z h0 a0r "com/example/bisimilar/bisimilar/equivalence/RefinementHistory" "leaves" "I" (.int (0 : Int32))) (F_least : Fld Z h0 a0r "com/example/bisimilar/bisimilar/equivalence/RefinementHistory" "least" "[I" .null) (V1 : Arv Z h0 r1 k1 .int (Int32.ofNat n) v1 (.int (0 : Int32))) (V3 : Arv Z h0 r3 k3 .int (Int32.ofNat n) (own_splL n mk 6) (.int (0 : Int32))) (ne1 : a0r ≠ r1) (ne3 : a0r ≠ r3) (h1 : 1 ≤ n) (hn : n ≤ 6) :
    MetFree l (⟨"com/example/bisimilar/bisimilar/equivalence/RefinementHistory", "<init>", "([I[I[I)V"⟩ : MethodName) (head1 (Jvm.Cond.code (⟨"com/example/bisimilar/bisimilar/equivalence/RefinementHistory", "<init>", "([I[I[I)V"⟩ : MethodName) prog_22_method_1_code 5 none :: ws) ({ frames := 1, cells := 1, slots := 12, locals := 18 } : Room)) (fun a U => a = #[(.ref a0r), (.ref r1), (.ref r2), (.ref r3)] ∧ Z.Warmed39 U.vm ∧ U.heap = h0) (fun _ _ _ _ _ => True) (fun _ U o U' => ∃ v L, o = .returned v ∧ (own_Q_rm4 Z a0r r1 r2 r3 n mk k1 k3 v1 h0 n0) v U'.heap L ∧ FrameEnd U o U' L ({ frames := 1, cells := 1, slots := 12, locals := 18 } : Room).cells ({ frames := 1, cells := 1, slots := 12, locals := 18 } : Room).slots) := by
  refine MetFree.of_bodySF (plainFor_of_name own_pn1) hisR ?_
  intro p e s m args below meth c s₁ Bd hml0 hP hK
  obtain ⟨rfl, hZ, hh⟩ := hP
  have hx := Bd.exec
  have hby := Bd.bytes
  have hml : c.maxLocals = 5 := hml0
  have hown : s.vm.findClass "com/example/bisimilar/bisimilar/equivalence/RefinementHistory" = some m.cls := findClass_of_methodNamed Bd.named
  have hnm := (name_of_methodNamed Bd.named Bd.method).1
  have hlk : meth.locks = false := BodyLoose.notSynchronized Bd
  have X0 : Stand p l e ({ frames := 1, cells := 1, slots := 12, locals := 18 } : Room) s m #[(.ref a0r), (.ref r1), (.ref r2), (.ref r3)] below meth c s₁ [] 0 0 := Stand.of_body Bd
  have e0 : s₁.heap = h0 := by rw [← hh, Bd.state]; rfl
  have N0 := Fr.nil n0
  show own_Ends p e below (own_Fin s (own_Q_rm4 Z a0r r1 r2 r3 n mk k1 k3 v1 h0 n0) ({ frames := 1, cells := 1, slots := 12, locals := 18 } : Room).cells ({ frames := 1, cells := 1, slots := 12, locals := 18 } : Room).slots) _
  refine own_pre (fun t k => castTop (own_ef_rm4 m a0r r1 r2 r3) k) ?_
  have KK0 : Keep h0 h0 [a0r] := Keep.refl _ _
  show own_Ends _ _ _ _ (s₁.setTop (mkF m 0 #[.val (.ref a0r), .val (.ref r1), .val (.ref r2), .val (.ref r3), .unset] []))
  refine own_pre (fun t k => XS.aloadN X0.here hx rfl (hb hby own_d3_0) rfl rfl k) ?_
  show own_Ends _ _ _ _ (s₁.setTop (mkF m 1 #[.val (.ref a0r), .val (.ref r1), .val (.ref r2), .val (.ref r3), .unset] [(.ref a0r)]))
  obtain ⟨T129, X129, e129, st129⟩ := initO X0 hx hZ hown (hw _ (List.mem_of_getElem? (i := 15) rfl)) (hw _ (List.mem_of_getElem? (i := 16) rfl)) (hw _ (List.mem_of_getElem? (i := 17) rfl)) e0 (g := (mkF m 1 #[.val (.ref a0r), .val (.ref r1), .val (.ref r2), .val (.ref r3), .unset] [(.ref a0r)])) rfl (by rw [hml]; rfl) rfl (hb hby own_d3_1) (by decide) (W := 0) (by show 2 * 0 + _ ≤ _; exact Nat.le_of_eq rfl) (by decide)
  refine own_pre st129 ?_
  show own_Ends _ _ _ _ (T129.setTop (mkF m 4 #[.val (.ref a0r), .val (.ref r1), .val (.ref r2), .val (.ref r3), .unset] []))
  refine own_pre (fun t k => XS.aloadN X129.here hx rfl (hb hby own_d3_4) rfl rfl k) ?_
  show own_Ends _ _ _ _ (T129.setTop (mkF m 5 #[.val (.ref a0r), .val (.ref r1), .val (.ref r2), .val (.ref r3), .unset] [(.ref a0r)]))
  refine own_pre (fun t k => XS.aloadN X129.here hx rfl (hb hby own_d3_5) rfl rfl k) ?_
  show own_Ends _ _ _ _ (T129.setTop (mkF m 6 #[.val (.ref a0r), .val (.ref r1), .val (.ref r2), .val (.ref r3), .unset] [(.ref r1), (.ref a0r)]))
  obtain ⟨T130, h130, X130, e130, W130, st130⟩ := putF X129 hx hZ hown (host := "") (Or.inl (hw _ (List.mem_of_getElem? (i := 18) rfl))) Via.refl e129 F_states EX (Or.inr ⟨(hw _ (List.mem_of_getElem? (i := 19) rfl)), rfl, hnm⟩) (hw _ (List.mem_of_getElem? (i := 10) rfl)) (ty := (.array .int)) (by decide) rfl rfl (g := (mkF m 6 #[.val (.ref a0r), .val (.ref r1), .val (.ref r2), .val (.ref r3), .unset] [(.ref r1), (.ref a0r)])) rfl rfl (hb hby own_d3_6)
  refine own_pre st130 ?_
  have fw130 := F_states.same W130
  have f131 := EX.wr W130
  have f132 := F_position.other W130 (Or.inr (slot_ne (Or.inr (hw _ (List.mem_of_getElem? (i := 21) rfl))) (Or.inr (hw _ (List.mem_of_getElem? (i := 19) rfl))) (by decide) (t := (.array .int)) (t' := (.array .int)) (by decide) (by decide)))
  have f133 := F_leaves.other W130 (Or.inr (slot_ne (Or.inr (hw _ (List.mem_of_getElem? (i := 23) rfl))) (Or.inr (hw _ (List.mem_of_getElem? (i := 19) rfl))) (by decide) (t := .int) (t' := (.array .int)) (by decide) (by decide)))
  have f134 := F_least.other W130 (Or.inr (slot_ne (Or.inr (hw _ (List.mem_of_getElem? (i := 27) rfl))) (Or.inr (hw _ (List.mem_of_getElem? (i := 19) rfl))) (by decide) (t := (.array .int)) (t' := (.array .int)) (by decide) (by decide)))
  have f135 := V1.other W130 (Ne.symm ne1)
  have f136 := V3.other W130 (Ne.symm ne3)
  have N137 := Fr.snoc X130 N0 g0r
  obtain ⟨LL130, X130, N137⟩ := own_hide X130 N137
  have Zn138 : n0 ≤ h130.size := by rw [W130.size]; exact Z0
  have K139 : Keep h0 h130 [a0r] := KK0.wr W130 (Or.inl (by simp))
  show own_Ends _ _ _ _ (T130.setTop (mkF m 9 #[.val (.ref a0r), .val (.ref r1), .val (.ref r2), .val (.ref r3), .unset] []))
  refine own_pre (fun t k => XS.aloadN X130.here hx rfl (hb hby own_d3_9) rfl rfl k) ?_
  show own_Ends _ _ _ _ (T130.setTop (mkF m 10 #[.val (.ref a0r), .val (.ref r1), .val (.ref r2), .val (.ref r3), .unset] [(.ref a0r)]))
  refine own_pre (fun t k => XS.aloadN X130.here hx rfl (hb hby own_d3_10) rfl rfl k) ?_
  show own_Ends _ _ _ _ (T130.setTop (mkF m 11 #[.val (.ref a0r), .val (.ref r1), .val (.ref r2), .val (.ref r3), .unset] [(.ref r2), (.ref a0r)]))
  obtain ⟨T140, h140, X140, e140, W140, st140⟩ := putF X130 hx hZ hown (host := "") (Or.inl (hw _ (List.mem_of_getElem? (i := 20) rfl))) Via.refl e130 f132 f131 (Or.inr ⟨(hw _ (List.mem_of_getElem? (i := 21) rfl)), rfl, hnm⟩) (hw _ (List.mem_of_getElem? (i := 10) rfl)) (ty := (.array .int)) (by decide) rfl rfl (g := (mkF m 11 #[.val (.ref a0r), .val (.ref r1), .val (.ref r2), .val (.ref r3), .unset] [(.ref r2), (.ref a0r)])) rfl rfl (hb hby own_d3_11)
  refine own_pre st140 ?_
  have fw140 := f132.same W140
  have f141 := f131.wr W140
  have f142 := f133.other W140 (Or.inr (slot_ne (Or.inr (hw _ (List.mem_of_getElem? (i := 23) rfl))) (Or.inr (hw _ (List.mem_of_getElem? (i := 21) rfl))) (by decide) (t := .int) (t' := (.array .int)) (by decide) (by decide)))
  have f143 := f134.other W140 (Or.inr (slot_ne (Or.inr (hw _ (List.mem_of_getElem? (i := 27) rfl))) (Or.inr (hw _ (List.mem_of_getElem? (i := 21) rfl))) (by decide) (t := (.array .int)) (t' := (.array .int)) (by decide) (by decide)))
  have f144 := f135.other W140 (Ne.symm ne1)
  have f145 := f136.other W140 (Ne.symm ne3)
  have f146 := fw130.other W140 (Or.inr (slot_ne (Or.inr (hw _ (List.mem_of_getElem? (i := 19) rfl))) (Or.inr (hw _ (List.mem_of_getElem? (i := 21) rfl))) (by decide) (t := (.array .int)) (t' := (.array .int)) (by decide) (by decide)))
  have N147 := Fr.snoc X140 N137 g0r
  obtain ⟨LL140, X140, N147⟩ := own_hide X140 N147
  have Zn148 : n0 ≤ h140.size := by rw [W140.size]; exact Zn138
  have K149 : Keep h0 h140 [a0r] := K139.wr W140 (Or.inl (by simp))
  show own_Ends _ _ _ _ (T140.setTop (mkF m 14 #[.val (.ref a0r), .val (.ref r1), .val (.ref r2), .val (.ref r3), .unset] []))
  refine own_pre (fun t k => XS.aloadN X140.here hx rfl (hb hby own_d3_14) rfl rfl k) ?_
  show own_Ends _ _ _ _ (T140.setTop (mkF m 15 #[.val (.ref a0r), .val (.ref r1), .val (.ref r2), .val (.ref r3), .unset] [(.ref a0r)]))
  refine own_pre (fun t k => XS.aloadN X140.here hx rfl (hb hby own_d3_15) rfl rfl k) ?_
  show own_Ends _ _ _ _ (T140.setTop (mkF m 16 #[.val (.ref a0r), .val (.ref r1), .val (.ref r2), .val (.ref r3), .unset] [(.ref r1), (.ref a0r)]))
  obtain ⟨cl150, Ar150, -, S150, M150, -, -⟩ := id (f144)
  refine own_pre (fun t k => own_len X140 hx e140 hZ Ar150 S150 M150 (g := (mkF m 16 #[.val (.ref a0r), .val (.ref r1), .val (.ref r2), .val (.ref r3), .unset] [(.ref r1), (.ref a0r)])) rfl rfl (hb hby own_d3_16) k) ?_
  show own_Ends _ _ _ _ (T140.setTop (mkF m 17 #[.val (.ref a0r), .val (.ref r1), .val (.ref r2), .val (.ref r3), .unset] [(.int (Int32.ofNat n)), (.ref a0r)]))
  obtain ⟨T151, h151, X151, e151, W151, st151⟩ := putF X140 hx hZ hown (host := "") (Or.inl (hw _ (List.mem_of_getElem? (i := 22) rfl))) Via.refl e140 f142 f141 (Or.inr ⟨(hw _ (List.mem_of_getElem? (i := 23) rfl)), rfl, hnm⟩) (hw _ (List.mem_of_getElem? (i := 10) rfl)) (ty := .int) (by decide) rfl rfl (g := (mkF m 17 #[.val (.ref a0r), .val (.ref r1), .val (.ref r2), .val (.ref r3), .unset] [(.int (Int32.ofNat n)), (.ref a0r)])) rfl rfl (hb hby own_d3_17)
  refine own_pre st151 ?_
  have fw151 := f142.same W151
  have f152 := f141.wr W151
  have f153 := f143.other W151 (Or.inr (slot_ne (Or.inr (hw _ (List.mem_of_getElem? (i := 27) rfl))) (Or.inr (hw _ (List.mem_of_getElem? (i := 23) rfl))) (by decide) (t := (.array .int)) (t' := .int) (by decide) (by decide)))
  have f154 := f144.other W151 (Ne.symm ne1)
  have f155 := f145.other W151 (Ne.symm ne3)
  have f156 := f146.other W151 (Or.inr (slot_ne (Or.inr (hw _ (List.mem_of_getElem? (i := 19) rfl))) (Or.inr (hw _ (List.mem_of_getElem? (i := 23) rfl))) (by decide) (t := (.array .int)) (t' := .int) (by decide) (by decide)))
  have f157 := fw140.other W151 (Or.inr (slot_ne (Or.inr (hw _ (List.mem_of_getElem? (i := 21) rfl))) (Or.inr (hw _ (List.mem_of_getElem? (i := 23) rfl))) (by decide) (t := (.array .int)) (t' := .int) (by decide) (by decide)))
  have N158 := Fr.snoc X151 N147 g0r
  obtain ⟨LL151, X151, N158⟩ := own_hide X151 N158
  have Zn159 : n0 ≤ h151.size := by rw [W151.size]; exact Zn148
  have K160 : Keep h0 h151 [a0r] := K149.wr W151 (Or.inl (by simp))
  show own_Ends _ _ _ _ (T151.setTop (mkF m 20 #[.val (.ref a0r), .val (.ref r1), .val (.ref r2), .val (.ref r3), .unset] []))
  refine own_pre (fun t k => X151.ldc2Long hx hown (mvT hZ (hw _ (List.mem_of_getElem? (i := 24) rfl))) (g := (mkF m 20 #[.val (.ref a0r), .val (.ref r1), .val (.ref r2), .val (.ref r3), .unset] [])) rfl (hb hby own_d3_20) _ k) ?_
  show own_Ends _ _ _ _ (T151.setTop (mkF m 23 #[.val (.ref a0r), .val (.ref r1), .val (.ref r2), .val (.ref r3), .unset] [(.long (2 : Int64))]))
  refine own_pre (fun t k => XS.aloadN X151.here hx rfl (hb hby own_d3_23) rfl rfl k) ?_
  show own_Ends _ _ _ _ (T151.setTop (mkF m 24 #[.val (.ref a0r), .val (.ref r1), .val (.ref r2), .val (.ref r3), .unset] [(.ref a0r), (.long (2 : Int64))]))
  obtain ⟨T161, X161, e161, st161⟩ := getF X151 hx hZ hown (host := "") (Or.inl (hw _ (List.mem_of_getElem? (i := 22) rfl))) Via.refl e151 fw151 (g := (mkF m 24 #[.val (.ref a0r), .val (.ref r1), .val (.ref r2), .val (.ref r3), .unset] [(.ref a0r), (.long (2 : Int64))])) rfl rfl (hb hby own_d3_24)
  refine own_pre st161 ?_
  show own_Ends _ _ _ _ (T161.setTop (mkF m 27 #[.val (.ref a0r), .val (.ref r1), .val (.ref r2), .val (.ref r3), .unset] [(.int (Int32.ofNat n)), (.long (2 : Int64))]))
  refine own_pre (fun t k => XS.i2l X161.here hx rfl (hb hby own_d3_27) rfl k) ?_
  show own_Ends _ _ _ _ (T161.setTop (mkF m 28 #[.val (.ref a0r), .val (.ref r1), .val (.ref r2), .val (.ref r3), .unset] [(.long ((Int32.ofNat n).toInt64)), (.long (2 : Int64))]))
  refine own_pre (fun t k => XS.lmul X161.here hx rfl (hb hby own_d3_28) rfl k) ?_
  show own_Ends _ _ _ _ (T161.setTop (mkF m 29 #[.val (.ref a0r), .val (.ref r1), .val (.ref r2), .val (.ref r3), .unset] [(.long ((2 : Int64) * ((Int32.ofNat n).toInt64)))]))
  refine own_pre (fun t k => X161.ldc2Long hx hown (mvT hZ (hw _ (List.mem_of_getElem? (i := 25) rfl))) (g := (mkF m 29 #[.val (.ref a0r), .val (.ref r1), .val (.ref r2), .val (.ref r3), .unset] [(.long ((2 : Int64) * ((Int32.ofNat n).toInt64)))])) rfl (hb hby own_d3_29) _ k) ?_
  show own_Ends _ _ _ _ (T161.setTop (mkF m 32 #[.val (.ref a0r), .val (.ref r1), .val (.ref r2), .val (.ref r3), .unset] [(.long (2147483639 : Int64)), (.long ((2 : Int64) * ((Int32.ofNat n).toInt64)))]))
  refine own_pre (fun t k => XS.lcmp X161.here hx rfl (hb hby own_d3_32) rfl k) ?_
  show own_Ends _ _ _ _ (T161.setTop (mkF m 33 #[.val (.ref a0r), .val (.ref r1), .val (.ref r2), .val (.ref r3), .unset] [(.int (own_cmpL ((2 : Int64) * ((Int32.ofNat n).toInt64)) (2147483639 : Int64)))]))
  refine own_pre (fun t k => XS.ifYes X161.here hx rfl (pc0 := 33) (pc' := 53) rfl (hb hby own_d3_33) rfl ((if0 _ _).trans (flt (own_cap h1 hn : ¬ ((0 : Int32) < (own_cmpL ((2 : Int64) * ((Int32.ofNat n).toInt64)) (2147483639 : Int64))))).2.2.2) (by decide) (by decide) k) ?_
  show own_Ends _ _ _ _ (T161.setTop (mkF m 53 #[.val (.ref a0r), .val (.ref r1), .val (.ref r2), .val (.ref r3), .unset] []))
  refine own_pre (fun t k => XS.aloadN X161.here hx rfl (hb hby own_d3_53) rfl rfl k) ?_
  show own_Ends _ _ _ _ (T161.setTop (mkF m 54 #[.val (.ref a0r), .val (.ref r1), .val (.ref r2), .val (.ref r3), .unset] [(.ref a0r)]))
  refine own_pre (fun t k => XS.iconst X161.here hx rfl (hb hby own_d3_54) k) ?_
  show own_Ends _ _ _ _ (T161.setTop (mkF m 55 #[.val (.ref a0r), .val (.ref r1), .val (.ref r2), .val (.ref r3), .unset] [(.int (2 : Int32)), (.ref a0r)]))
  refine own_pre (fun t k => XS.aloadN X161.here hx rfl (hb hby own_d3_55) rfl rfl k) ?_
  show own_Ends _ _ _ _ (T161.setTop (mkF m 56 #[.val (.ref a0r), .val (.ref r1), .val (.ref r2), .val (.ref r3), .unset] [(.ref a0r), (.int (2 : Int32)), (.ref a0r)]))
  obtain ⟨T162, X162, e162, st162⟩ := getF X161 hx hZ hown (host := "") (Or.inl (hw _ (List.mem_of_getElem? (i := 22) rfl))) Via.refl e161 fw151 (g := (mkF m 56 #[.val (.ref a0r), .val (.ref r1), .val (.ref r2), .val (.ref r3), .unset] [(.ref a0r), (.int (2 : Int32)), (.ref a0r)])) rfl rfl (hb hby own_d3_56)
  refine own_pre st162 ?_
  show own_Ends _ _ _ _ (T162.setTop (mkF m 59 #[.val (.ref a0r), .val (.ref r1), .val (.ref r2), .val (.ref r3), .unset] [(.int (Int32.ofNat n)), (.int (2 : Int32)), (.ref a0r)]))
  refine own_pre (fun t k => XS.imul X162.here hx rfl (hb hby own_d3_59) rfl k) ?_
  show own_Ends _ _ _ _ (T162.setTop (mkF m 60 #[.val (.ref a0r), .val (.ref r1), .val (.ref r2), .val (.ref r3), .unset] [(.int ((2 : Int32) * (Int32.ofNat n))), (.ref a0r)]))
  rw [own_two]
  show own_Ends _ _ _ _ (T162.setTop (mkF m 60 #[.val (.ref a0r), .val (.ref r1), .val (.ref r2), .val (.ref r3), .unset] [(.int (Int32.ofNat (2 * n))), (.ref a0r)]))
  obtain ⟨T163, h163, k163, X163, e163, E163, A163, st163⟩ := newP X162 hx hZ (hw _ (List.mem_of_getElem? (i := 1) rfl)) e162 (g := (mkF m 60 #[.val (.ref a0r), .val (.ref r1), .val (.ref r2), .val (.ref r3), .unset] [(.int (Int32.ofNat (2 * n))), (.ref a0r)])) rfl (hb hby own_d3_60) rfl (own_nnN (by omega)) (cap := 12) (by rw [own_clamp (by omega)]; omega) (by decide) (by decide) (by decide)
  obtain ⟨b163, g163⟩ : ∃ z, z = h151.size := ⟨_, rfl⟩
  rw [← g163] at A163 st163
  refine own_pre st163 ?_
  have ne164 : a0r ≠ b163 := Nat.ne_of_lt (Nat.lt_of_lt_of_le f152.lt (Nat.le_of_eq g163.symm))
  have ne165 : r1 ≠ b163 := Nat.ne_of_lt (Nat.lt_of_lt_of_le f154.lt (Nat.le_of_eq g163.symm))
  have ne166 : r3 ≠ b163 := Nat.ne_of_lt (Nat.lt_of_lt_of_le f155.lt (Nat.le_of_eq g163.symm))
  have f167 := f152.ext E163
  have f168 := f153.ext E163
  have f169 := f154.ext E163
  have f170 := f155.ext E163
  have f171 := f156.ext E163
  have f172 := f157.ext E163
  have f173 := fw151.ext E163
  have L174 : n0 ≤ b163 := Nat.le_trans Zn159 (Nat.le_of_eq g163.symm)
  have L175 : h0.size ≤ b163 := Nat.le_trans K160.1 (Nat.le_of_eq g163.symm)
  have K176 : Keep h0 h163 [a0r] := K160.ext E163
  have Zn177 : n0 ≤ h163.size := Nat.le_trans Zn159 E163.1
  have f178 : Arv Z h163 b163 k163 .int (Int32.ofNat (2 * n)) [] (.int (0 : Int32)) := Arv.new A163 (own_nnN (by omega))
  show own_Ends _ _ _ _ (T163.setTop (mkF m 62 #[.val (.ref a0r), .val (.ref r1), .val (.ref r2), .val (.ref r3), .unset] [(.ref b163), (.ref a0r)]))
  obtain ⟨T179, h179, X179, e179, W179, st179⟩ := putF X163 hx hZ hown (host := "") (Or.inl (hw _ (List.mem_of_getElem? (i := 26) rfl))) Via.refl e163 f168 f167 (Or.inr ⟨(hw _ (List.mem_of_getElem? (i := 27) rfl)), rfl, hnm⟩) (hw _ (List.mem_of_getElem? (i := 10) rfl)) (ty := (.array .int)) (by decide) rfl rfl (g := (mkF m 62 #[.val (.ref a0r), .val (.ref r1), .val (.ref r2), .val (.ref r3), .unset] [(.ref b163), (.ref a0r)])) rfl rfl (hb hby own_d3_62)
  refine own_pre st179 ?_
  have fw179 := f168.same W179
  have f180 := f167.wr W179
  have f181 := f169.other W179 (Ne.symm ne1)
  have f182 := f170.other W179 (Ne.symm ne3)
  have f183 := f171.other W179 (Or.inr (slot_ne (Or.inr (hw _ (List.mem_of_getElem? (i := 19) rfl))) (Or.inr (hw _ (List.mem_of_getElem? (i := 27) rfl))) (by decide) (t := (.array .int)) (t' := (.array .int)) (by decide) (by decide)))
  have f184 := f172.other W179 (Or.inr (slot_ne (Or.inr (hw _ (List.mem_of_getElem? (i := 21) rfl))) (Or.inr (hw _ (List.mem_of_getElem? (i := 27) rfl))) (by decide) (t := (.array .int)) (t' := (.array .int)) (by decide) (by decide)))
  have f185 := f173.other W179 (Or.inr (slot_ne (Or.inr (hw _ (List.mem_of_getElem? (i := 23) rfl))) (Or.inr (hw _ (List.mem_of_getElem? (i := 27) rfl))) (by decide) (t := .int) (t' := (.array .int)) (by decide) (by decide)))
  have f186 := f178.other W179 (Ne.symm ne164)
  have N187 := Fr.snoc X179 N158 g0r
  obtain ⟨LL179, X179, N187⟩ := own_hide X179 N187
  have Zn188 : n0 ≤ h179.size := by rw [W179.size]; exact Zn177
  have K189 : Keep h0 h179 [a0r] := K176.wr W179 (Or.inl (by simp))
  show own_Ends _ _ _ _ (T179.setTop (mkF m 65 #[.val (.ref a0r), .val (.ref r1), .val (.ref r2), .val (.ref r3), .unset] []))
  refine own_pre (fun t k => XS.aloadN X179.here hx rfl (hb hby own_d3_65) rfl rfl k) ?_
  show own_Ends _ _ _ _ (T179.setTop (mkF m 66 #[.val (.ref a0r), .val (.ref r1), .val (.ref r2), .val (.ref r3), .unset] [(.ref r3)]))
  refine own_pre (fun t k => XS.iconst X179.here hx rfl (hb hby own_d3_66) k) ?_
  show own_Ends _ _ _ _ (T179.setTop (mkF m 67 #[.val (.ref a0r), .val (.ref r1), .val (.ref r2), .val (.ref r3), .unset] [(.int (0 : Int32)), (.ref r3)]))
  refine own_pre (fun t k => XS.aloadN X179.here hx rfl (hb hby own_d3_67) rfl rfl k) ?_
  show own_Ends _ _ _ _ (T179.setTop (mkF m 68 #[.val (.ref a0r), .val (.ref r1), .val (.ref r2), .val (.ref r3), .unset] [(.ref a0r), (.int (0 : Int32)), (.ref r3)]))
  obtain ⟨T190, X190, e190, st190⟩ := getF X179 hx hZ hown (host := "") (Or.inl (hw _ (List.mem_of_getElem? (i := 26) rfl))) Via.refl e179 fw179 (g := (mkF m 68 #[.val (.ref a0r), .val (.ref r1), .val (.ref r2), .val (.ref r3), .unset] [(.ref a0r), (.int (0 : Int32)), (.ref r3)])) rfl rfl (hb hby own_d3_68)
  refine own_pre st190 ?_
  show own_Ends _ _ _ _ (T190.setTop (mkF m 71 #[.val (.ref a0r), .val (.ref r1), .val (.ref r2), .val (.ref r3), .unset] [(.ref b163), (.int (0 : Int32)), (.ref r3)]))
  refine own_pre (fun t k => XS.aloadN X190.here hx rfl (hb hby own_d3_71) rfl rfl k) ?_
  show own_Ends _ _ _ _ (T190.setTop (mkF m 72 #[.val (.ref a0r), .val (.ref r1), .val (.ref r2), .val (.ref r3), .unset] [(.ref a0r), (.ref b163), (.int (0 : Int32)), (.ref r3)]))
  obtain ⟨T191, X191, e191, st191⟩ := getF X190 hx hZ hown (host := "") (Or.inl (hw _ (List.mem_of_getElem? (i := 22) rfl))) Via.refl e190 f185 (g := (mkF m 72 #[.val (.ref a0r), .val (.ref r1), .val (.ref r2), .val (.ref r3), .unset] [(.ref a0r), (.ref b163), (.int (0 : Int32)), (.ref r3)])) rfl rfl (hb hby own_d3_72)
  refine own_pre st191 ?_
  show own_Ends _ _ _ _ (T191.setTop (mkF m 75 #[.val (.ref a0r), .val (.ref r1), .val (.ref r2), .val (.ref r3), .unset] [(.int (Int32.ofNat n)), (.ref b163), (.int (0 : Int32)), (.ref r3)]))
  refine own_pre (fun t k => XS.aloadN X191.here hx rfl (hb hby own_d3_75) rfl rfl k) ?_
  show own_Ends _ _ _ _ (T191.setTop (mkF m 76 #[.val (.ref a0r), .val (.ref r1), .val (.ref r2), .val (.ref r3), .unset] [(.ref a0r), (.int (Int32.ofNat n)), (.ref b163), (.int (0 : Int32)), (.ref r3)]))
  obtain ⟨T192, X192, e192, st192⟩ := getF X191 hx hZ hown (host := "") (Or.inl (hw _ (List.mem_of_getElem? (i := 22) rfl))) Via.refl e191 f185 (g := (mkF m 76 #[.val (.ref a0r), .val (.ref r1), .val (.ref r2), .val (.ref r3), .unset] [(.ref a0r), (.int (Int32.ofNat n)), (.ref b163), (.int (0 : Int32)), (.ref r3)])) rfl rfl (hb hby own_d3_76)
  refine own_pre st192 ?_
  show own_Ends _ _ _ _ (T192.setTop (mkF m 79 #[.val (.ref a0r), .val (.ref r1), .val (.ref r2), .val (.ref r3), .unset] [(.int (Int32.ofNat n)), (.int (Int32.ofNat n)), (.ref b163), (.int (0 : Int32)), (.ref r3)]))
  have vp193 := f186.pad (pad_rep [] (.int (0 : Int32)) (2 * n))
  obtain ⟨T193, h193, L193, X193, e193, Nc193, Kc193, vc193, st193⟩ := cpA X192 hx hZ hown (hw _ (List.mem_of_getElem? (i := 28) rfl)) (hw _ (List.mem_of_getElem? (i := 31) rfl)) (hw _ (List.mem_of_getElem? (i := 29) rfl)) (hw _ (List.mem_of_getElem? (i := 30) rfl)) e192 f182 vp193 (Or.inl ⟨rfl, rfl⟩) (sp := (0 : Int32)) (dp := (Int32.ofNat n)) (nn := (Int32.ofNat n)) (by decide) (own_nnN (by omega)) (own_nnN (by omega)) (by show 0 + _ ≤ _; omega) (by rw [own_clamp (by omega), own_clamp (by omega)]; omega) rfl (by rw [own_clamp (by omega)]; simp; omega) N187 L174 (g := (mkF m 79 #[.val (.ref a0r), .val (.ref r1), .val (.ref r2), .val (.ref r3), .unset] [(.int (Int32.ofNat n)), (.int (Int32.ofNat n)), (.ref b163), (.int (0 : Int32)), (.ref r3)])) rfl (by rw [hml]; rfl) rfl (hb hby own_d3_79) (by decide) (W := 0) (by show 2 * 0 + _ ≤ _; exact Nat.le_of_eq rfl) (by decide)
  refine own_pre st193 ?_
  have vf193 : Arv Z h193 b163 k163 .int (Int32.ofNat (2 * n)) (own_cpL n mk) (.int (0 : Int32)) := vc193.pad (own_cpEq h1 hn)
  have f194 := f180.keep Kc193
  have f195 := f181.keep Kc193 (ninS ne165 nin0)
  have f196 := f182.keep Kc193 (ninS ne166 nin0)
  have f197 := f183.keep Kc193 (ninS ne164 nin0)
  have f198 := f184.keep Kc193 (ninS ne164 nin0)
  have f199 := f185.keep Kc193 (ninS ne164 nin0)
  have f200 := fw179.keep Kc193 (ninS ne164 nin0)
  have Zc193 : n0 ≤ h193.size := Nat.le_trans Zn188 Kc193.1
  have Kd193 : Keep h0 h193 [a0r] := K189.trans Kc193 (allS (Or.inr L175) all0)
  show own_Ends _ _ _ _ (T193.setTop (mkF m 82 #[.val (.ref a0r), .val (.ref r1), .val (.ref r2), .val (.ref r3), .unset] []))
  refine own_pre (fun t k => XS.aloadN X193.here hx rfl (hb hby own_d3_82) rfl rfl k) ?_
  show own_Ends _ _ _ _ (T193.setTop (mkF m 83 #[.val (.ref a0r), .val (.ref r1), .val (.ref r2), .val (.ref r3), .unset] [(.ref a0r)]))
  obtain ⟨T201, X201, e201, st201⟩ := getF X193 hx hZ hown (host := "") (Or.inl (hw _ (List.mem_of_getElem? (i := 22) rfl))) Via.refl e193 f199 (g := (mkF m 83 #[.val (.ref a0r), .val (.ref r1), .val (.ref r2), .val (.ref r3), .unset] [(.ref a0r)])) rfl rfl (hb hby own_d3_83)
  refine own_pre st201 ?_
  show own_Ends _ _ _ _ (T201.setTop (mkF m 86 #[.val (.ref a0r), .val (.ref r1), .val (.ref r2), .val (.ref r3), .unset] [(.int (Int32.ofNat n))]))
  refine own_pre (fun t k => XS.ifNo X201.here hx rfl (hb hby own_d3_86) rfl ((if0 _ _).trans (tlt (own_gt0 h1 : (0 : Int32) < (Int32.ofNat n))).2.2.2) k) ?_
  show own_Ends _ _ _ _ (T201.setTop (mkF m 89 #[.val (.ref a0r), .val (.ref r1), .val (.ref r2), .val (.ref r3), .unset] []))
  refine own_pre (fun t k => XS.aloadN X201.here hx rfl (hb hby own_d3_89) rfl rfl k) ?_
  show own_Ends _ _ _ _ (T201.setTop (mkF m 90 #[.val (.ref a0r), .val (.ref r1), .val (.ref r2), .val (.ref r3), .unset] [(.ref a0r)]))
  obtain ⟨T202, X202, e202, st202⟩ := getF X201 hx hZ hown (host := "") (Or.inl (hw _ (List.mem_of_getElem? (i := 26) rfl))) Via.refl e201 f200 (g := (mkF m 90 #[.val (.ref a0r), .val (.ref r1), .val (.ref r2), .val (.ref r3), .unset] [(.ref a0r)])) rfl rfl (hb hby own_d3_90)
  refine own_pre st202 ?_
  show own_Ends _ _ _ _ (T202.setTop (mkF m 93 #[.val (.ref a0r), .val (.ref r1), .val (.ref r2), .val (.ref r3), .unset] [(.ref b163)]))
  refine own_pre (fun t k => XS.aloadN X202.here hx rfl (hb hby own_d3_93) rfl rfl k) ?_
  show own_Ends _ _ _ _ (T202.setTop (mkF m 94 #[.val (.ref a0r), .val (.ref r1), .val (.ref r2), .val (.ref r3), .unset] [(.ref a0r), (.ref b163)]))
  obtain ⟨T203, X203, e203, st203⟩ := getF X202 hx hZ hown (host := "") (Or.inl (hw _ (List.mem_of_getElem? (i := 22) rfl))) Via.refl e202 f199 (g := (mkF m 94 #[.val (.ref a0r), .val (.ref r1), .val (.ref r2), .val (.ref r3), .unset] [(.ref a0r), (.ref b163)])) rfl rfl (hb hby own_d3_94)
  refine own_pre st203 ?_
  show own_Ends _ _ _ _ (T203.setTop (mkF m 97 #[.val (.ref a0r), .val (.ref r1), .val (.ref r2), .val (.ref r3), .unset] [(.int (Int32.ofNat n)), (.ref b163)]))
  refine own_pre (fun t k => XS.iconst X203.here hx rfl (hb hby own_d3_97) k) ?_
  show own_Ends _ _ _ _ (T203.setTop (mkF m 98 #[.val (.ref a0r), .val (.ref r1), .val (.ref r2), .val (.ref r3), .unset] [(.int (0 : Int32)), (.int (Int32.ofNat n)), (.ref b163)]))
  obtain ⟨cl204, Ar204, qc204, S204, M204, H204, G204⟩ := id (vf193)
  have hin204 : ¬ ((Int32.ofNat n) < 0 ∨ cl204.slots.size ≤ ((Int32.ofNat n)).toNatClampNeg) := inb_of S204 (own_inN (by omega) (by omega))
  obtain ⟨T204, h204, X204, e204, W204, st204⟩ := stI X203 hx hZ e203 Ar204 (j := (Int32.ofNat n)) hin204 (g := (mkF m 98 #[.val (.ref a0r), .val (.ref r1), .val (.ref r2), .val (.ref r3), .unset] [(.int (0 : Int32)), (.int (Int32.ofNat n)), (.ref b163)])) rfl rfl (hb hby own_d3_98)
  refine own_pre st204 ?_
  have f205 := Arv.set Ar204 qc204 S204 M204 H204 G204 (show fits .int (.int (0 : Int32)) = true from rfl) W204 n (own_clamp (by omega)) (by rw [own_cpLen]; omega)
  have f206 := f194.wr W204
  have f207 := f195.other W204 ne165
  have f208 := f196.other W204 ne166
  have f209 := f197.other W204 (Or.inl ne164)
  have f210 := f198.other W204 (Or.inl ne164)
  have f211 := f199.other W204 (Or.inl ne164)
  have f212 := f200.other W204 (Or.inl ne164)
  have N213 := Fr.snoc X204 Nc193 L174
  obtain ⟨LL204, X204, N213⟩ := own_hide X204 N213
  have Zn214 : n0 ≤ h204.size := by rw [W204.size]; exact Zc193
  have K215 : Keep h0 h204 [a0r] := Kd193.wr W204 (Or.inr L175)
  show own_Ends _ _ _ _ (T204.setTop (mkF m 99 #[.val (.ref a0r), .val (.ref r1), .val (.ref r2), .val (.ref r3), .unset] []))
  refine own_pre (fun t k => XS.aloadN X204.here hx rfl (hb hby own_d3_99) rfl rfl k) ?_
  show own_Ends _ _ _ _ (T204.setTop (mkF m 100 #[.val (.ref a0r), .val (.ref r1), .val (.ref r2), .val (.ref r3), .unset] [(.ref a0r)]))
  obtain ⟨T216, X216, e216, st216⟩ := getF X204 hx hZ hown (host := "") (Or.inl (hw _ (List.mem_of_getElem? (i := 22) rfl))) Via.refl e204 f211 (g := (mkF m 100 #[.val (.ref a0r), .val (.ref r1), .val (.ref r2), .val (.ref r3), .unset] [(.ref a0r)])) rfl rfl (hb hby own_d3_100)
  refine own_pre st216 ?_
  show own_Ends _ _ _ _ (T216.setTop (mkF m 103 #[.val (.ref a0r), .val (.ref r1), .val (.ref r2), .val (.ref r3), .unset] [(.int (Int32.ofNat n))]))
  refine own_pre (fun t k => XS.iconst X216.here hx rfl (hb hby own_d3_103) k) ?_
  show own_Ends _ _ _ _ (T216.setTop (mkF m 104 #[.val (.ref a0r), .val (.ref r1), .val (.ref r2), .val (.ref r3), .unset] [(.int (1 : Int32)), (.int (Int32.ofNat n))]))
  refine own_pre (fun t k => XS.isub X216.here hx rfl (hb hby own_d3_104) rfl k) ?_
  show own_Ends _ _ _ _ (T216.setTop (mkF m 105 #[.val (.ref a0r), .val (.ref r1), .val (.ref r2), .val (.ref r3), .unset] [(.int ((Int32.ofNat n) - (1 : Int32)))]))
  rw [own_sub1 (by omega) h1]
  show own_Ends _ _ _ _ (T216.setTop (mkF m 105 #[.val (.ref a0r), .val (.ref r1), .val (.ref r2), .val (.ref r3), .unset] [(.int (Int32.ofNat (n - 1)))]))
  refine own_pre (fun t k => XS.istore X216.here hx rfl (hb hby own_d3_105) rfl (l' := #[.val (.ref a0r), .val (.ref r1), .val (.ref r2), .val (.ref r3), .val (.int (Int32.ofNat (n - 1)))]) rfl k) ?_
  have LP : ∀ (i : Nat) (TT : State) (LL : List Loc) (hh : Heap) (vs : List Value) (XX : Stand p l e ({ frames := 1, cells := 1, slots := 12, locals := 18 } : Room) s m #[(.ref a0r), (.ref r1), (.ref r2), (.ref r3)] below meth c TT LL 1 12) (eT : TT.heap = hh) (NN : Fr n0 LL) (Zh : n0 ≤ hh.size) (Kh : Keep h0 hh [a0r]) (EXh : Exa Z hh a0r "com/example/bisimilar/bisimilar/equivalence/RefinementHistory") (Fs : Fld Z hh a0r "com/example/bisimilar/bisimilar/equivalence/RefinementHistory" "states" "[I" (.ref r1)) (Fp : Fld Z hh a0r "com/example/bisimilar/bisimilar/equivalence/RefinementHistory" "position" "[I" (.ref r2)) (Fl : Fld Z hh a0r "com/example/bisimilar/bisimilar/equivalence/RefinementHistory" "leaves" "I" (.int (Int32.ofNat n))) (Fe : Fld Z hh a0r "com/example/bisimilar/bisimilar/equivalence/RefinementHistory" "least" "[I" (.ref b163)) (VV : Arv Z hh b163 k163 .int (Int32.ofNat (2 * n)) vs (.int (0 : Int32))) (hin : i < n) (hlen : vs.length = 2 * n) (hv : ∀ j, i < j → j < 2 * n → vs.getD j (.int (0 : Int32)) = .int (own_lv n mk j)), own_Ends p e below (own_Fin s (fun v h L => v = none ∧ Fr n0 L ∧ Keep h0 h [a0r] ∧ ∃ (b : Addr) (kb : ClassId) (vs : List Value), Fld Z h a0r "com/example/bisimilar/bisimilar/equivalence/RefinementHistory" "position" "[I" (.ref r2) ∧ Fld Z h a0r "com/example/bisimilar/bisimilar/equivalence/RefinementHistory" "leaves" "I" (.int (Int32.ofNat n)) ∧ Fld Z h a0r "com/example/bisimilar/bisimilar/equivalence/RefinementHistory" "least" "[I" (.ref b) ∧ Arv Z h b kb .int (Int32.ofNat (2 * n)) vs (.int (0 : Int32)) ∧ a0r ≠ b ∧ h0.size ≤ b ∧ (∀ j, 0 < j → j < 2 * n → vs.getD j (.int (0 : Int32)) = .int (own_lv n mk j))) ({ frames := 1, cells := 1, slots := 12, locals := 18 } : Room).cells ({ frames := 1, cells := 1, slots := 12, locals := 18 } : Room).slots) (TT.setTop (mkF m 107 #[.val (.ref a0r), .val (.ref r1), .val (.ref r2), .val (.ref r3), .val (.int (Int32.ofNat i))] [])) := by
    intro i
    induction i with
    | zero =>
      intro TT LL hh vs XX eT NN Zh Kh EXh Fs Fp Fl Fe VV hin hlen hv
      show own_Ends _ _ _ _ (TT.setTop (mkF m 107 #[.val (.ref a0r), .val (.ref r1), .val (.ref r2), .val (.ref r3), .val (.int (Int32.ofNat 0))] []))
      refine own_pre (fun t k => XS.iload XX.here hx rfl (hb hby own_d3_107) rfl k) ?_
      show own_Ends _ _ _ _ (TT.setTop (mkF m 109 #[.val (.ref a0r), .val (.ref r1), .val (.ref r2), .val (.ref r3), .val (.int (Int32.ofNat 0))] [(.int (Int32.ofNat 0))]))
      refine own_pre (fun t k => XS.ifYes XX.here hx rfl (pc0 := 109) (pc' := 148) rfl (hb hby own_d3_109) rfl ((if0 _ _).trans (flt ((by decide) : ¬ ((0 : Int32) < (Int32.ofNat 0)))).2.2.2) (by decide) (by decide) k) ?_
      show own_Ends _ _ _ _ (TT.setTop (mkF m 148 #[.val (.ref a0r), .val (.ref r1), .val (.ref r2), .val (.ref r3), .val (.int (Int32.ofNat 0))] []))
      exact own_retV XX hx Bd.returns (hb hby own_d3_148) hlk eT ⟨rfl, NN, Kh, b163, _, _, Fp, Fl, Fe, VV, ne164, L175, hv⟩ (by decide) (by decide)
    | succ i ih =>
      intro TT LL hh vs XX eT NN Zh Kh EXh Fs Fp Fl Fe VV hin hlen hv
      show own_Ends _ _ _ _ (TT.setTop (mkF m 107 #[.val (.ref a0r), .val (.ref r1), .val (.ref r2), .val (.ref r3), .val (.int (Int32.ofNat (i + 1)))] []))
      refine own_pre (fun t k => XS.iload XX.here hx rfl (hb hby own_d3_107) rfl k) ?_
      show own_Ends _ _ _ _ (TT.setTop (mkF m 109 #[.val (.ref a0r), .val (.ref r1), .val (.ref r2), .val (.ref r3), .val (.int (Int32.ofNat (i + 1)))] [(.int (Int32.ofNat (i + 1)))]))
      refine own_pre (fun t k => XS.ifNo XX.here hx rfl (hb hby own_d3_109) rfl ((if0 _ _).trans (tlt (own_gt0 (by omega) : (0 : Int32) < (Int32.ofNat (i + 1)))).2.2.2) k) ?_
      show own_Ends _ _ _ _ (TT.setTop (mkF m 112 #[.val (.ref a0r), .val (.ref r1), .val (.ref r2), .val (.ref r3), .val (.int (Int32.ofNat (i + 1)))] []))
      refine own_pre (fun t k => XS.aloadN XX.here hx rfl (hb hby own_d3_112) rfl rfl k) ?_
      show own_Ends _ _ _ _ (TT.setTop (mkF m 113 #[.val (.ref a0r), .val (.ref r1), .val (.ref r2), .val (.ref r3), .val (.int (Int32.ofNat (i + 1)))] [(.ref a0r)]))
      obtain ⟨T217, X217, e217, st217⟩ := getF XX hx hZ hown (host := "") (Or.inl (hw _ (List.mem_of_getElem? (i := 26) rfl))) Via.refl eT Fe (g := (mkF m 113 #[.val (.ref a0r), .val (.ref r1), .val (.ref r2), .val (.ref r3), .val (.int (Int32.ofNat (i + 1)))] [(.ref a0r)])) rfl rfl (hb hby own_d3_113)
      refine own_pre st217 ?_
      show own_Ends _ _ _ _ (T217.setTop (mkF m 116 #[.val (.ref a0r), .val (.ref r1), .val (.ref r2), .val (.ref r3), .val (.int (Int32.ofNat (i + 1)))] [(.ref b163)]))
      refine own_pre (fun t k => XS.iload X217.here hx rfl (hb hby own_d3_116) rfl k) ?_
      show own_Ends _ _ _ _ (T217.setTop (mkF m 118 #[.val (.ref a0r), .val (.ref r1), .val (.ref r2), .val (.ref r3), .val (.int (Int32.ofNat (i + 1)))] [(.int (Int32.ofNat (i + 1))), (.ref b163)]))
      refine own_pre (fun t k => XS.aloadN X217.here hx rfl (hb hby own_d3_118) rfl rfl k) ?_
      show own_Ends _ _ _ _ (T217.setTop (mkF m 119 #[.val (.ref a0r), .val (.ref r1), .val (.ref r2), .val (.ref r3), .val (.int (Int32.ofNat (i + 1)))] [(.ref a0r), (.int (Int32.ofNat (i + 1))), (.ref b163)]))
      obtain ⟨T218, X218, e218, st218⟩ := getF X217 hx hZ hown (host := "") (Or.inl (hw _ (List.mem_of_getElem? (i := 26) rfl))) Via.refl e217 Fe (g := (mkF m 119 #[.val (.ref a0r), .val (.ref r1), .val (.ref r2), .val (.ref r3), .val (.int (Int32.ofNat (i + 1)))] [(.ref a0r), (.int (Int32.ofNat (i + 1))), (.ref b163)])) rfl rfl (hb hby own_d3_119)
      refine own_pre st218 ?_
      show own_Ends _ _ _ _ (T218.setTop (mkF m 122 #[.val (.ref a0r), .val (.ref r1), .val (.ref r2), .val (.ref r3), .val (.int (Int32.ofNat (i + 1)))] [(.ref b163), (.int (Int32.ofNat (i + 1))), (.ref b163)]))
      refine own_pre (fun t k => XS.iconst X218.here hx rfl (hb hby own_d3_122) k) ?_
      show own_Ends _ _ _ _ (T218.setTop (mkF m 123 #[.val (.ref a0r), .val (.ref r1), .val (.ref r2), .val (.ref r3), .val (.int (Int32.ofNat (i + 1)))] [(.int (2 : Int32)), (.ref b163), (.int (Int32.ofNat (i + 1))), (.ref b163)]))
      refine own_pre (fun t k => XS.iload X218.here hx rfl (hb hby own_d3_123) rfl k) ?_
      show own_Ends _ _ _ _ (T218.setTop (mkF m 125 #[.val (.ref a0r), .val (.ref r1), .val (.ref r2), .val (.ref r3), .val (.int (Int32.ofNat (i + 1)))] [(.int (Int32.ofNat (i + 1))), (.int (2 : Int32)), (.ref b163), (.int (Int32.ofNat (i + 1))), (.ref b163)]))
      refine own_pre (fun t k => XS.imul X218.here hx rfl (hb hby own_d3_125) rfl k) ?_
      show own_Ends _ _ _ _ (T218.setTop (mkF m 126 #[.val (.ref a0r), .val (.ref r1), .val (.ref r2), .val (.ref r3), .val (.int (Int32.ofNat (i + 1)))] [(.int ((2 : Int32) * (Int32.ofNat (i + 1)))), (.ref b163), (.int (Int32.ofNat (i + 1))), (.ref b163)]))
      rw [own_two]
      show own_Ends _ _ _ _ (T218.setTop (mkF m 126 #[.val (.ref a0r), .val (.ref r1), .val (.ref r2), .val (.ref r3), .val (.int (Int32.ofNat (i + 1)))] [(.int (Int32.ofNat (2 * (i + 1)))), (.ref b163), (.int (Int32.ofNat (i + 1))), (.ref b163)]))
      obtain ⟨cl219, Ar219, qc219, S219, M219, H219, G219⟩ := id (VV)
      have hin219 : ¬ ((Int32.ofNat (2 * (i + 1))) < 0 ∨ cl219.slots.size ≤ ((Int32.ofNat (2 * (i + 1)))).toNatClampNeg) := inb_of S219 (own_inN (by omega) (show 2 * (i + 1) < 2 * n by omega))
      have hat219 : cl219.slots[((Int32.ofNat (2 * (i + 1)))).toNatClampNeg]? = some (.int (own_lv n mk (2 * (i + 1)))) := H219.at hin219 (by rw [own_clamp (by omega)]; exact hv _ (by omega) (by omega))
      refine own_pre (fun t k => X218.iaload hx (j := (Int32.ofNat (2 * (i + 1)))) (v := (.int (own_lv n mk (2 * (i + 1))))) (by rw [e218]; exact Ar219.1) (State.isArrayOf_alike hZ.alike Ar219.2.1) Ar219.2.2 hin219 hat219 (g := (mkF m 126 #[.val (.ref a0r), .val (.ref r1), .val (.ref r2), .val (.ref r3), .val (.int (Int32.ofNat (i + 1)))] [(.int (Int32.ofNat (2 * (i + 1)))), (.ref b163), (.int (Int32.ofNat (i + 1))), (.ref b163)])) rfl rfl (hb hby own_d3_126) _ k) ?_
      show own_Ends _ _ _ _ (T218.setTop (mkF m 127 #[.val (.ref a0r), .val (.ref r1), .val (.ref r2), .val (.ref r3), .val (.int (Int32.ofNat (i + 1)))] [(.int (own_lv n mk (2 * (i + 1)))), (.int (Int32.ofNat (i + 1))), (.ref b163)]))
      refine own_pre (fun t k => XS.aloadN X218.here hx rfl (hb hby own_d3_127) rfl rfl k) ?_
      show own_Ends _ _ _ _ (T218.setTop (mkF m 128 #[.val (.ref a0r), .val (.ref r1), .val (.ref r2), .val (.ref r3), .val (.int (Int32.ofNat (i + 1)))] [(.ref a0r), (.int (own_lv n mk (2 * (i + 1)))), (.int (Int32.ofNat (i + 1))), (.ref b163)]))
      obtain ⟨T220, X220, e220, st220⟩ := getF X218 hx hZ hown (host := "") (Or.inl (hw _ (List.mem_of_getElem? (i := 26) rfl))) Via.refl e218 Fe (g := (mkF m 128 #[.val (.ref a0r), .val (.ref r1), .val (.ref r2), .val (.ref r3), .val (.int (Int32.ofNat (i + 1)))] [(.ref a0r), (.int (own_lv n mk (2 * (i + 1)))), (.int (Int32.ofNat (i + 1))), (.ref b163)])) rfl rfl (hb hby own_d3_128)
      refine own_pre st220 ?_
      show own_Ends _ _ _ _ (T220.setTop (mkF m 131 #[.val (.ref a0r), .val (.ref r1), .val (.ref r2), .val (.ref r3), .val (.int (Int32.ofNat (i + 1)))] [(.ref b163), (.int (own_lv n mk (2 * (i + 1)))), (.int (Int32.ofNat (i + 1))), (.ref b163)]))
      refine own_pre (fun t k => XS.iconst X220.here hx rfl (hb hby own_d3_131) k) ?_
      show own_Ends _ _ _ _ (T220.setTop (mkF m 132 #[.val (.ref a0r), .val (.ref r1), .val (.ref r2), .val (.ref r3), .val (.int (Int32.ofNat (i + 1)))] [(.int (2 : Int32)), (.ref b163), (.int (own_lv n mk (2 * (i + 1)))), (.int (Int32.ofNat (i + 1))), (.ref b163)]))
      refine own_pre (fun t k => XS.iload X220.here hx rfl (hb hby own_d3_132) rfl k) ?_
      show own_Ends _ _ _ _ (T220.setTop (mkF m 134 #[.val (.ref a0r), .val (.ref r1), .val (.ref r2), .val (.ref r3), .val (.int (Int32.ofNat (i + 1)))] [(.int (Int32.ofNat (i + 1))), (.int (2 : Int32)), (.ref b163), (.int (own_lv n mk (2 * (i + 1)))), (.int (Int32.ofNat (i + 1))), (.ref b163)]))
      refine own_pre (fun t k => XS.imul X220.here hx rfl (hb hby own_d3_134) rfl k) ?_
      show own_Ends _ _ _ _ (T220.setTop (mkF m 135 #[.val (.ref a0r), .val (.ref r1), .val (.ref r2), .val (.ref r3), .val (.int (Int32.ofNat (i + 1)))] [(.int ((2 : Int32) * (Int32.ofNat (i + 1)))), (.ref b163), (.int (own_lv n mk (2 * (i + 1)))), (.int (Int32.ofNat (i + 1))), (.ref b163)]))
      refine own_pre (fun t k => XS.iconst X220.here hx rfl (hb hby own_d3_135) k) ?_
      show own_Ends _ _ _ _ (T220.setTop (mkF m 136 #[.val (.ref a0r), .val (.ref r1), .val (.ref r2), .val (.ref r3), .val (.int (Int32.ofNat (i + 1)))] [(.int (1 : Int32)), (.int ((2 : Int32) * (Int32.ofNat (i + 1)))), (.ref b163), (.int (own_lv n mk (2 * (i + 1)))), (.int (Int32.ofNat (i + 1))), (.ref b163)]))
      refine own_pre (fun t k => XS.iadd X220.here hx rfl (hb hby own_d3_136) rfl k) ?_
      show own_Ends _ _ _ _ (T220.setTop (mkF m 137 #[.val (.ref a0r), .val (.ref r1), .val (.ref r2), .val (.ref r3), .val (.int (Int32.ofNat (i + 1)))] [(.int (((2 : Int32) * (Int32.ofNat (i + 1))) + (1 : Int32))), (.ref b163), (.int (own_lv n mk (2 * (i + 1)))), (.int (Int32.ofNat (i + 1))), (.ref b163)]))
      rw [own_two, own_plus1]
      show own_Ends _ _ _ _ (T220.setTop (mkF m 137 #[.val (.ref a0r), .val (.ref r1), .val (.ref r2), .val (.ref r3), .val (.int (Int32.ofNat (i + 1)))] [(.int (Int32.ofNat (2 * (i + 1) + 1))), (.ref b163), (.int (own_lv n mk (2 * (i + 1)))), (.int (Int32.ofNat (i + 1))), (.ref b163)]))
      obtain ⟨cl221, Ar221, qc221, S221, M221, H221, G221⟩ := id (VV)
      have hin221 : ¬ ((Int32.ofNat (2 * (i + 1) + 1)) < 0 ∨ cl221.slots.size ≤ ((Int32.ofNat (2 * (i + 1) + 1))).toNatClampNeg) := inb_of S221 (own_inN (by omega) (show 2 * (i + 1) + 1 < 2 * n by omega))
      have hat221 : cl221.slots[((Int32.ofNat (2 * (i + 1) + 1))).toNatClampNeg]? = some (.int (own_lv n mk (2 * (i + 1) + 1))) := H221.at hin221 (by rw [own_clamp (by omega)]; exact hv _ (by omega) (by omega))
      refine own_pre (fun t k => X220.iaload hx (j := (Int32.ofNat (2 * (i + 1) + 1))) (v := (.int (own_lv n mk (2 * (i + 1) + 1)))) (by rw [e220]; exact Ar221.1) (State.isArrayOf_alike hZ.alike Ar221.2.1) Ar221.2.2 hin221 hat221 (g := (mkF m 137 #[.val (.ref a0r), .val (.ref r1), .val (.ref r2), .val (.ref r3), .val (.int (Int32.ofNat (i + 1)))] [(.int (Int32.ofNat (2 * (i + 1) + 1))), (.ref b163), (.int (own_lv n mk (2 * (i + 1)))), (.int (Int32.ofNat (i + 1))), (.ref b163)])) rfl rfl (hb hby own_d3_137) _ k) ?_
      show own_Ends _ _ _ _ (T220.setTop (mkF m 138 #[.val (.ref a0r), .val (.ref r1), .val (.ref r2), .val (.ref r3), .val (.int (Int32.ofNat (i + 1)))] [(.int (own_lv n mk (2 * (i + 1) + 1))), (.int (own_lv n mk (2 * (i + 1)))), (.int (Int32.ofNat (i + 1))), (.ref b163)]))
      obtain ⟨_, _, ⟨T222, L222, k222, n222⟩, -, X222, ⟨Lc222, hQ222, l222, y222, z222⟩, st222⟩ := Jvm.LawKit.callS X220 hx (y := (⟨"java/lang/Math", "min", "(II)I"⟩ : MethodName)) hown (mvT hZ (hw _ (List.mem_of_getElem? (i := 37) rfl))) (mvT hZ (hw _ (List.mem_of_getElem? (i := 38) rfl))) (mvT hZ (hw _ (List.mem_of_getElem? (i := 39) rfl))) (mvT hZ (hw _ (List.mem_of_getElem? (i := 40) rfl))) (by decide) (backOf (W := 2) (rm2 l Z a0 hw [] (own_lv n mk (2 * (i + 1))) (own_lv n mk (2 * (i + 1) + 1)) hh n0 Zh) hZ (hw _ (List.mem_of_getElem? (i := 40) rfl)) (hw _ (List.mem_of_getElem? (i := 39) rfl)) (by decide) (by decide)) (g := (mkF m 138 #[.val (.ref a0r), .val (.ref r1), .val (.ref r2), .val (.ref r3), .val (.int (Int32.ofNat (i + 1)))] [(.int (own_lv n mk (2 * (i + 1) + 1))), (.int (own_lv n mk (2 * (i + 1)))), (.int (Int32.ofNat (i + 1))), (.ref b163)])) rfl (by rw [hml]; rfl) (argsL := [(.int (own_lv n mk (2 * (i + 1)))), (.int (own_lv n mk (2 * (i + 1) + 1)))]) (rest := [(.int (Int32.ofNat (i + 1))), (.ref b163)]) (lenOf own_pd0 rfl) rfl (by show 2 * 0 + _ ≤ _; exact Nat.le_of_eq rfl) (hb hby own_d3_138) (fun _ _ => ⟨rfl, e220, (by decide : 1 + 0 ≤ _), (by decide : 12 + 0 ≤ _)⟩)
      dsimp only [Pt.U, Pt.locs, Pt.cells, Pt.slots] at X222 l222 y222 z222 st222 hQ222
      subst l222 y222 z222
      obtain ⟨rfl, Nq222, e222⟩ := hQ222
      have N222 := Fr.app NN Nq222
      obtain ⟨LL222, X222, N222⟩ := own_hide X222 N222
      refine own_pre st222 ?_
      show own_Ends _ _ _ _ (T222.setTop (mkF m 141 #[.val (.ref a0r), .val (.ref r1), .val (.ref r2), .val (.ref r3), .val (.int (Int32.ofNat (i + 1)))] [(.int (own_min (own_lv n mk (2 * (i + 1))) (own_lv n mk (2 * (i + 1) + 1)))), (.int (Int32.ofNat (i + 1))), (.ref b163)]))
      obtain ⟨cl223, Ar223, qc223, S223, M223, H223, G223⟩ := id (VV)
      have hin223 : ¬ ((Int32.ofNat (i + 1)) < 0 ∨ cl223.slots.size ≤ ((Int32.ofNat (i + 1))).toNatClampNeg) := inb_of S223 (own_inN (by omega) (by omega))
      obtain ⟨T223, h223, X223, e223, W223, st223⟩ := stI X222 hx hZ e222 Ar223 (j := (Int32.ofNat (i + 1))) hin223 (g := (mkF m 141 #[.val (.ref a0r), .val (.ref r1), .val (.ref r2), .val (.ref r3), .val (.int (Int32.ofNat (i + 1)))] [(.int (own_min (own_lv n mk (2 * (i + 1))) (own_lv n mk (2 * (i + 1) + 1)))), (.int (Int32.ofNat (i + 1))), (.ref b163)])) rfl rfl (hb hby own_d3_141)
      refine own_pre st223 ?_
      have f224 := Arv.set Ar223 qc223 S223 M223 H223 G223 (show fits .int (.int (own_min (own_lv n mk (2 * (i + 1))) (own_lv n mk (2 * (i + 1) + 1)))) = true from rfl) W223 (i + 1) (own_clamp (by omega)) (by rw [hlen]; omega)
      have f225 := EXh.wr W223
      have f226 := Fs.other W223 (Or.inl ne164)
      have f227 := Fp.other W223 (Or.inl ne164)
      have f228 := Fl.other W223 (Or.inl ne164)
      have f229 := Fe.other W223 (Or.inl ne164)
      have N230 := Fr.snoc X223 N222 L174
      obtain ⟨LL223, X223, N230⟩ := own_hide X223 N230
      have Zn231 : n0 ≤ h223.size := by rw [W223.size]; exact Zh
      have K232 : Keep h0 h223 [a0r] := Kh.wr W223 (Or.inr L175)
      show own_Ends _ _ _ _ (T223.setTop (mkF m 142 #[.val (.ref a0r), .val (.ref r1), .val (.ref r2), .val (.ref r3), .val (.int (Int32.ofNat (i + 1)))] []))
      refine own_pre (fun t k => XS.iinc X223.here hx rfl (hb hby own_d3_142) rfl (l' := #[.val (.ref a0r), .val (.ref r1), .val (.ref r2), .val (.ref r3), .val (.int ((Int32.ofNat (i + 1)) + (-1 : Int32)))]) rfl k) ?_
      show own_Ends _ _ _ _ (T223.setTop (mkF m 145 #[.val (.ref a0r), .val (.ref r1), .val (.ref r2), .val (.ref r3), .val (.int ((Int32.ofNat (i + 1)) + (-1 : Int32)))] []))
      refine own_pre (fun t k => XS.goto X223.here hx rfl (pc0 := 145) (pc' := 107) rfl (hb hby own_d3_145) (by decide) (by decide) k) ?_
      show own_Ends _ _ _ _ (T223.setTop (mkF m 107 #[.val (.ref a0r), .val (.ref r1), .val (.ref r2), .val (.ref r3), .val (.int ((Int32.ofNat (i + 1)) + (-1 : Int32)))] []))
      rw [own_dec]
      exact ih _ _ _ _ X223 e223 N230 Zn231 K232 f225 f226 f227 f228 f229 f224 (by omega) (by rw [List.length_set]; exact hlen) (own_lvset hn (by omega) hlen hv)
  show own_Ends _ _ _ _ (T216.setTop (mkF m 107 #[.val (.ref a0r), .val (.ref r1), .val (.ref r2), .val (.ref r3), .val (.int (Int32.ofNat (n - 1)))] []))
  exact LP (n - 1) _ _ _ _ X216 e216 N213 Zn214 K215 f206 f209 f210 f211 f212 f205 (by omega) (by rw [List.length_set]; exact own_cpLen) (own_lv0 h1 hn)
theorem own_d5_101 : decode prog_22_method_3_code 101 = .ok (.iload 4, 2) := by decide +kernel
theorem own_d5_103 : decode prog_22_method_3_code 103 = .ok (.aload_n 0, 1) := by decide +kernel
theorem own_d5_104 : decode prog_22_method_3_code 104 = .ok (.getfield 18, 3) := by decide +kernel
theorem own_d5_107 : decode prog_22_method_3_code 107 = .ok (.if_icmp .ge 36, 3) := by decide +kernel
theorem own_d5_143 : decode prog_22_method_3_code 143 = .ok (.iload 4, 2) := by decide +kernel
theorem own_d5_145 : decode prog_22_method_3_code 145 = .ok (.aload_n 0, 1) := by decide +kernel
theorem own_d5_146 : decode prog_22_method_3_code 146 = .ok (.getfield 18, 3) := by decide +kernel
theorem own_d5_149 : decode prog_22_method_3_code 149 = .ok (.isub, 1) := by decide +kernel
theorem own_d5_150 : decode prog_22_method_3_code 150 = .ok (.ireturn, 1) := by decide +kernel
theorem own_d5_110 : decode prog_22_method_3_code 110 = .ok (.aload_n 0, 1) := by decide +kernel
theorem own_d5_111 : decode prog_22_method_3_code 111 = .ok (.getfield 35, 3) := by decide +kernel
theorem own_d5_114 : decode prog_22_method_3_code 114 = .ok (.iconst 2, 1) := by decide +kernel
theorem own_d5_115 : decode prog_22_method_3_code 115 = .ok (.iload 4, 2) := by decide +kernel
theorem own_d5_117 : decode prog_22_method_3_code 117 = .ok (.imul, 1) := by decide +kernel
theorem own_d5_118 : decode prog_22_method_3_code 118 = .ok (.iconst 1, 1) := by decide +kernel
theorem own_d5_119 : decode prog_22_method_3_code 119 = .ok (.iadd, 1) := by decide +kernel
theorem own_d5_120 : decode prog_22_method_3_code 120 = .ok (.iaload, 1) := by decide +kernel
theorem own_d5_121 : decode prog_22_method_3_code 121 = .ok (.iload_n 2, 1) := by decide +kernel
theorem own_d5_122 : decode prog_22_method_3_code 122 = .ok (.if_icmp .gt 12, 3) := by decide +kernel
theorem own_d5_134 : decode prog_22_method_3_code 134 = .ok (.iconst 2, 1) := by decide +kernel
theorem own_d5_135 : decode prog_22_method_3_code 135 = .ok (.iload 4, 2) := by decide +kernel
theorem own_d5_137 : decode prog_22_method_3_code 137 = .ok (.imul, 1) := by decide +kernel
theorem own_d5_138 : decode prog_22_method_3_code 138 = .ok (.istore 4, 2) := by decide +kernel
theorem own_d5_140 : decode prog_22_method_3_code 140 = .ok (.goto (-39), 3) := by decide +kernel
theorem own_d5_125 : decode prog_22_method_3_code 125 = .ok (.iconst 2, 1) := by decide +kernel
theorem own_d5_126 : decode prog_22_method_3_code 126 = .ok (.iload 4, 2) := by decide +kernel
theorem own_d5_128 : decode prog_22_method_3_code 128 = .ok (.imul, 1) := by decide +kernel
theorem own_d5_129 : decode prog_22_method_3_code 129 = .ok (.iconst 1, 1) := by decide +kernel
theorem own_d5_130 : decode prog_22_method_3_code 130 = .ok (.iadd, 1) := by decide +kernel
theorem own_d5_131 : decode prog_22_method_3_code 131 = .ok (.goto 7, 3) := by decide +kernel
theorem own_d5_98 : decode prog_22_method_3_code 98 = .ok (.iload_n 3, 1) := by decide +kernel
theorem own_d5_99 : decode prog_22_method_3_code 99 = .ok (.istore 4, 2) := by decide +kernel
theorem own_d5_23 : decode prog_22_method_3_code 23 = .ok (.iload 4, 2) := by decide +kernel
theorem own_d5_25 : decode prog_22_method_3_code 25 = .ok (.iload 5, 2) := by decide +kernel
theorem own_d5_27 : decode prog_22_method_3_code 27 = .ok (.if_icmp .ge 71, 3) := by decide +kernel
theorem own_d5_30 : decode prog_22_method_3_code 30 = .ok (.iload 4, 2) := by decide +kernel
theorem own_d5_32 : decode prog_22_method_3_code 32 = .ok (.iconst 1, 1) := by decide +kernel
theorem own_d5_33 : decode prog_22_method_3_code 33 = .ok (.iand, 1) := by decide +kernel
theorem own_d5_34 : decode prog_22_method_3_code 34 = .ok (.iconst 1, 1) := by decide +kernel
theorem own_d5_35 : decode prog_22_method_3_code 35 = .ok (.if_icmp .ne 20, 3) := by decide +kernel
theorem own_d5_38 : decode prog_22_method_3_code 38 = .ok (.aload_n 0, 1) := by decide +kernel
theorem own_d5_39 : decode prog_22_method_3_code 39 = .ok (.getfield 35, 3) := by decide +kernel
theorem own_d5_42 : decode prog_22_method_3_code 42 = .ok (.iload 4, 2) := by decide +kernel
theorem own_d5_44 : decode prog_22_method_3_code 44 = .ok (.iaload, 1) := by decide +kernel
theorem own_d5_45 : decode prog_22_method_3_code 45 = .ok (.iload_n 2, 1) := by decide +kernel
theorem own_d5_46 : decode prog_22_method_3_code 46 = .ok (.if_icmp .gt 6, 3) := by decide +kernel
theorem own_d5_52 : decode prog_22_method_3_code 52 = .ok (.iinc 4 1, 3) := by decide +kernel
theorem own_d5_55 : decode prog_22_method_3_code 55 = .ok (.iload 5, 2) := by decide +kernel
theorem own_d5_57 : decode prog_22_method_3_code 57 = .ok (.iconst 1, 1) := by decide +kernel
theorem own_d5_58 : decode prog_22_method_3_code 58 = .ok (.iand, 1) := by decide +kernel
theorem own_d5_59 : decode prog_22_method_3_code 59 = .ok (.iconst 1, 1) := by decide +kernel
theorem own_d5_60 : decode prog_22_method_3_code 60 = .ok (.if_icmp .ne 23, 3) := by decide +kernel
theorem own_d5_63 : decode prog_22_method_3_code 63 = .ok (.aload_n 0, 1) := by decide +kernel
theorem own_d5_64 : decode prog_22_method_3_code 64 = .ok (.getfield 35, 3) := by decide +kernel
theorem own_d5_67 : decode prog_22_method_3_code 67 = .ok (.iinc 5 (-1), 3) := by decide +kernel
theorem own_d5_70 : decode prog_22_method_3_code 70 = .ok (.iload 5, 2) := by decide +kernel
theorem own_d5_72 : decode prog_22_method_3_code 72 = .ok (.iaload, 1) := by decide +kernel
theorem own_d5_73 : decode prog_22_method_3_code 73 = .ok (.iload_n 2, 1) := by decide +kernel
theorem own_d5_74 : decode prog_22_method_3_code 74 = .ok (.if_icmp .gt 9, 3) := by decide +kernel
theorem own_d5_83 : decode prog_22_method_3_code 83 = .ok (.iload 4, 2) := by decide +kernel
theorem own_d5_85 : decode prog_22_method_3_code 85 = .ok (.iconst 1, 1) := by decide +kernel
theorem own_d5_86 : decode prog_22_method_3_code 86 = .ok (.ishr, 1) := by decide +kernel
theorem own_d5_87 : decode prog_22_method_3_code 87 = .ok (.istore 4, 2) := by decide +kernel
theorem own_d5_89 : decode prog_22_method_3_code 89 = .ok (.iload 5, 2) := by decide +kernel
theorem own_d5_91 : decode prog_22_method_3_code 91 = .ok (.iconst 1, 1) := by decide +kernel
theorem own_d5_92 : decode prog_22_method_3_code 92 = .ok (.ishr, 1) := by decide +kernel
theorem own_d5_93 : decode prog_22_method_3_code 93 = .ok (.istore 5, 2) := by decide +kernel
theorem own_d5_95 : decode prog_22_method_3_code 95 = .ok (.goto (-72), 3) := by decide +kernel
theorem own_d5_77 : decode prog_22_method_3_code 77 = .ok (.iload 5, 2) := by decide +kernel
theorem own_d5_79 : decode prog_22_method_3_code 79 = .ok (.istore_n 3, 1) := by decide +kernel
theorem own_d5_80 : decode prog_22_method_3_code 80 = .ok (.goto 18, 3) := by decide +kernel
theorem own_d5_49 : decode prog_22_method_3_code 49 = .ok (.iload 4, 2) := by decide +kernel
theorem own_d5_51 : decode prog_22_method_3_code 51 = .ok (.istore_n 3, 1) := by decide +kernel
theorem own_d5_0 : decode prog_22_method_3_code 0 = .ok (.iconst (-1), 1) := by decide +kernel
theorem own_d5_1 : decode prog_22_method_3_code 1 = .ok (.istore_n 3, 1) := by decide +kernel
theorem own_d5_2 : decode prog_22_method_3_code 2 = .ok (.aload_n 0, 1) := by decide +kernel
theorem own_d5_3 : decode prog_22_method_3_code 3 = .ok (.getfield 18, 3) := by decide +kernel
theorem own_d5_6 : decode prog_22_method_3_code 6 = .ok (.istore 4, 2) := by decide +kernel
theorem own_d5_8 : decode prog_22_method_3_code 8 = .ok (.aload_n 0, 1) := by decide +kernel
theorem own_d5_9 : decode prog_22_method_3_code 9 = .ok (.getfield 15, 3) := by decide +kernel
theorem own_d5_12 : decode prog_22_method_3_code 12 = .ok (.iload_n 1, 1) := by decide +kernel
theorem own_d5_13 : decode prog_22_method_3_code 13 = .ok (.iaload, 1) := by decide +kernel
theorem own_d5_14 : decode prog_22_method_3_code 14 = .ok (.iconst 1, 1) := by decide +kernel
theorem own_d5_15 : decode prog_22_method_3_code 15 = .ok (.iadd, 1) := by decide +kernel
theorem own_d5_16 : decode prog_22_method_3_code 16 = .ok (.aload_n 0, 1) := by decide +kernel
theorem own_d5_17 : decode prog_22_method_3_code 17 = .ok (.getfield 18, 3) := by decide +kernel
theorem own_d5_20 : decode prog_22_method_3_code 20 = .ok (.iadd, 1) := by decide +kernel
theorem own_d5_21 : decode prog_22_method_3_code 21 = .ok (.istore 5, 2) := by decide +kernel
theorem own_ef_rm5 (m : MethodId) (x0 : Addr) (x1 : Int32) (x2 : Int32) : entryFrame m #[(.ref x0), (.int x1), (.int x2)] 6 = mkF m 0 #[.val (.ref x0), .val (.int x1), .val (.int x2), .unset, .unset, .unset] [] := by first | (simp [entryFrame, mkF, argsToLocals, Value.category]; done) | rfl
def own_Q_rm5 (Z : State) (a0r : Addr) (p1 p2 : Int32) (st n pos : Nat) (mk : Nat → Int32) (r2 b : Addr) (k2 kb : ClassId) (vp vs : List Value) (h0 : Heap) (n0 : Nat) (v : Option Value) (h : Heap) (L : List Loc) : Prop := v = some (.int ((Int32.ofNat (own_down (fun i => decide (¬ p2 < own_lv n mk i)) n 3 (own_up (fun i => decide (¬ p2 < own_lv n mk i)) 4 n (pos + 1 + n) (-1)).toNatClampNeg)) - (Int32.ofNat n))) ∧ Fr n0 L ∧ h = h0
set_option maxRecDepth 65536 in
set_option maxHeartbeats 40000000 in
theorem rm5 (l : Launch) (Z : State) (a0 : Array Value) (hw : ∀ d ∈ tables_1, d.before a0 Z = true) (ws : List Jvm.Cond) (a0r : Addr) (p1 p2 : Int32) (st n pos : Nat) (mk : Nat → Int32) (r2 b : Addr) (k2 kb : ClassId) (vp vs : List Value) (h0 : Heap) (n0 : Nat) (Z0 : n0 ≤ h0.size) (h_p1 : p1 = (Int32.ofNat st)) (F_position : Fld Z h0 a0r "com/example/bisimilar/bisimilar/equivalence/RefinementHistory" "position" "[I" (.ref r2)) (F_leaves : Fld Z h0 a0r "com/example/bisimilar/bisimilar/equivalence/RefinementHistory" "leaves" "I" (.int (Int32.ofNat n))) (F_least : Fld Z h0 a0r "com/example/bisimilar/bisimilar/equivalence/RefinementHistory" "least" "[I" (.ref b)) (V2 : Arv Z h0 r2 k2 .int (Int32.ofNat n) vp (.int (0 : Int32))) (VB : Arv Z h0 b kb .int (Int32.ofNat (2 * n)) vs (.int (0 : Int32))) (h1 : 1 ≤ n) (hn : n ≤ 6) (hst : st < n) (hpos : pos < n) (hvp : vp.getD st (.int (0 : Int32)) = .int (Int32.ofNat pos)) (hvs : ∀ j, 0 < j → j < 2 * n → vs.getD j (.int (0 : Int32)) = .int (own_lv n mk j)) (hU : (own_up (fun i => decide (¬ p2 < own_lv n mk i)) 4 n (pos + 1 + n) (-1)) = Int32.ofNat (own_up (fun i => decide (¬ p2 < own_lv n mk i)) 4 n (pos + 1 + n) (-1)).toNatClampNeg) (hu1 : 1 ≤ (own_up (fun i => decide (¬ p2 < own_lv n mk i)) 4 n (pos + 1 + n) (-1)).toNatClampNeg) (hu2 : (own_up (fun i => decide (¬ p2 < own_lv n mk i)) 4 n (pos + 1 + n) (-1)).toNatClampNeg < 2 * n) :
    MetFree l (⟨"com/example/bisimilar/bisimilar/equivalence/RefinementHistory", "classStart", "(II)I"⟩ : MethodName) (head1 (Jvm.Cond.code (⟨"com/example/bisimilar/bisimilar/equivalence/RefinementHistory", "classStart", "(II)I"⟩ : MethodName) prog_22_method_3_code 6 (some .int) :: ws) ({ frames := 0, cells := 0, slots := 0, locals := 0 } : Room)) (fun a U => a = #[(.ref a0r), (.int p1), (.int p2)] ∧ Z.Warmed39 U.vm ∧ U.heap = h0) (fun _ _ _ _ _ => True) (fun _ U o U' => ∃ v L, o = .returned v ∧ (own_Q_rm5 Z a0r p1 p2 st n pos mk r2 b k2 kb vp vs h0 n0) v U'.heap L ∧ FrameEnd U o U' L ({ frames := 0, cells := 0, slots := 0, locals := 0 } : Room).cells ({ frames := 0, cells := 0, slots := 0, locals := 0 } : Room).slots) := by
  refine MetFree.of_bodySF (plainFor_of_name own_pn1) hisR ?_
  intro p e s m args below meth c s₁ Bd hml0 hP hK
  obtain ⟨rfl, hZ, hh⟩ := hP
  have hx := Bd.exec
  have hby := Bd.bytes
  have hml : c.maxLocals = 6 := hml0
  have hown : s.vm.findClass "com/example/bisimilar/bisimilar/equivalence/RefinementHistory" = some m.cls := findClass_of_methodNamed Bd.named
  have hnm := (name_of_methodNamed Bd.named Bd.method).1
  have hlk : meth.locks = false := BodyLoose.notSynchronized Bd
  have X0 : Stand p l e ({ frames := 0, cells := 0, slots := 0, locals := 0 } : Room) s m #[(.ref a0r), (.int p1), (.int p2)] below meth c s₁ [] 0 0 := Stand.of_body Bd
  have e0 : s₁.heap = h0 := by rw [← hh, Bd.state]; rfl
  have N0 := Fr.nil n0
  show own_Ends p e below (own_Fin s (own_Q_rm5 Z a0r p1 p2 st n pos mk r2 b k2 kb vp vs h0 n0) ({ frames := 0, cells := 0, slots := 0, locals := 0 } : Room).cells ({ frames := 0, cells := 0, slots := 0, locals := 0 } : Room).slots) _
  refine own_pre (fun t k => castTop (own_ef_rm5 m a0r p1 p2) k) ?_
  subst h_p1
  have LD : ∀ (f d : Nat) (x3 x5 y4 : Int32) (TT : State) (LL : List Loc) (XX : Stand p l e ({ frames := 0, cells := 0, slots := 0, locals := 0 } : Room) s m #[(.ref a0r), (.int (Int32.ofNat st)), (.int p2)] below meth c TT LL 0 0) (eT : TT.heap = h0) (NN : Fr n0 LL) (hf : n ≤ d * 2 ^ f) (hd1 : 1 ≤ d) (hd2 : d < 2 * n) (hy4 : y4 = Int32.ofNat d) (hres : own_down (fun i => decide (¬ p2 < own_lv n mk i)) n f d = (own_down (fun i => decide (¬ p2 < own_lv n mk i)) n 3 (own_up (fun i => decide (¬ p2 < own_lv n mk i)) 4 n (pos + 1 + n) (-1)).toNatClampNeg)), own_Ends p e below (own_Fin s (fun v h L => v = some (.int ((Int32.ofNat (own_down (fun i => decide (¬ p2 < own_lv n mk i)) n 3 (own_up (fun i => decide (¬ p2 < own_lv n mk i)) 4 n (pos + 1 + n) (-1)).toNatClampNeg)) - (Int32.ofNat n))) ∧ Fr n0 L ∧ h = h0) ({ frames := 0, cells := 0, slots := 0, locals := 0 } : Room).cells ({ frames := 0, cells := 0, slots := 0, locals := 0 } : Room).slots) (TT.setTop (mkF m 101 #[.val (.ref a0r), .val (.int (Int32.ofNat st)), .val (.int p2), .val (.int x3), .val (.int y4), .val (.int x5)] [])) := by
    intro f
    induction f with
    | zero =>
      intro d x3 x5 y4 TT LL XX eT NN hf hd1 hd2 hy4 hres
      subst hy4
      show own_Ends _ _ _ _ (TT.setTop (mkF m 101 #[.val (.ref a0r), .val (.int (Int32.ofNat st)), .val (.int p2), .val (.int x3), .val (.int (Int32.ofNat d)), .val (.int x5)] []))
      refine own_pre (fun t k => XS.iload XX.here hx rfl (hb hby own_d5_101) rfl k) ?_
      show own_Ends _ _ _ _ (TT.setTop (mkF m 103 #[.val (.ref a0r), .val (.int (Int32.ofNat st)), .val (.int p2), .val (.int x3), .val (.int (Int32.ofNat d)), .val (.int x5)] [(.int (Int32.ofNat d))]))
      refine own_pre (fun t k => XS.aloadN XX.here hx rfl (hb hby own_d5_103) rfl rfl k) ?_
      show own_Ends _ _ _ _ (TT.setTop (mkF m 104 #[.val (.ref a0r), .val (.int (Int32.ofNat st)), .val (.int p2), .val (.int x3), .val (.int (Int32.ofNat d)), .val (.int x5)] [(.ref a0r), (.int (Int32.ofNat d))]))
      obtain ⟨T233, X233, e233, st233⟩ := getF XX hx hZ hown (host := "") (Or.inl (hw _ (List.mem_of_getElem? (i := 22) rfl))) Via.refl eT F_leaves (g := (mkF m 104 #[.val (.ref a0r), .val (.int (Int32.ofNat st)), .val (.int p2), .val (.int x3), .val (.int (Int32.ofNat d)), .val (.int x5)] [(.ref a0r), (.int (Int32.ofNat d))])) rfl rfl (hb hby own_d5_104)
      refine own_pre st233 ?_
      show own_Ends _ _ _ _ (T233.setTop (mkF m 107 #[.val (.ref a0r), .val (.int (Int32.ofNat st)), .val (.int p2), .val (.int x3), .val (.int (Int32.ofNat d)), .val (.int x5)] [(.int (Int32.ofNat n)), (.int (Int32.ofNat d))]))
      refine own_pre (fun t k => XS.icmpYes X233.here hx rfl (pc0 := 107) (pc' := 143) rfl (hb hby own_d5_107) rfl (flt (own_geN (by omega) (by omega) (by simpa using hf) : ¬ ((Int32.ofNat d) < (Int32.ofNat n)))).2.1 (by decide) (by decide) k) ?_
      show own_Ends _ _ _ _ (T233.setTop (mkF m 143 #[.val (.ref a0r), .val (.int (Int32.ofNat st)), .val (.int p2), .val (.int x3), .val (.int (Int32.ofNat d)), .val (.int x5)] []))
      refine own_pre (fun t k => XS.iload X233.here hx rfl (hb hby own_d5_143) rfl k) ?_
      show own_Ends _ _ _ _ (T233.setTop (mkF m 145 #[.val (.ref a0r), .val (.int (Int32.ofNat st)), .val (.int p2), .val (.int x3), .val (.int (Int32.ofNat d)), .val (.int x5)] [(.int (Int32.ofNat d))]))
      refine own_pre (fun t k => XS.aloadN X233.here hx rfl (hb hby own_d5_145) rfl rfl k) ?_
      show own_Ends _ _ _ _ (T233.setTop (mkF m 146 #[.val (.ref a0r), .val (.int (Int32.ofNat st)), .val (.int p2), .val (.int x3), .val (.int (Int32.ofNat d)), .val (.int x5)] [(.ref a0r), (.int (Int32.ofNat d))]))
      obtain ⟨T234, X234, e234, st234⟩ := getF X233 hx hZ hown (host := "") (Or.inl (hw _ (List.mem_of_getElem? (i := 22) rfl))) Via.refl e233 F_leaves (g := (mkF m 146 #[.val (.ref a0r), .val (.int (Int32.ofNat st)), .val (.int p2), .val (.int x3), .val (.int (Int32.ofNat d)), .val (.int x5)] [(.ref a0r), (.int (Int32.ofNat d))])) rfl rfl (hb hby own_d5_146)
      refine own_pre st234 ?_
      show own_Ends _ _ _ _ (T234.setTop (mkF m 149 #[.val (.ref a0r), .val (.int (Int32.ofNat st)), .val (.int p2), .val (.int x3), .val (.int (Int32.ofNat d)), .val (.int x5)] [(.int (Int32.ofNat n)), (.int (Int32.ofNat d))]))
      refine own_pre (fun t k => XS.isub X234.here hx rfl (hb hby own_d5_149) rfl k) ?_
      show own_Ends _ _ _ _ (T234.setTop (mkF m 150 #[.val (.ref a0r), .val (.int (Int32.ofNat st)), .val (.int p2), .val (.int x3), .val (.int (Int32.ofNat d)), .val (.int x5)] [(.int ((Int32.ofNat d) - (Int32.ofNat n)))]))
      exact own_retI X234 hx Bd.returns (hb hby own_d5_150) hlk e234 ⟨congrArg (fun z => some (Value.int (Int32.ofNat z - Int32.ofNat n))) hres, NN, rfl⟩ (by decide) (by decide)
    | succ f ih =>
      intro d x3 x5 y4 TT LL XX eT NN hf hd1 hd2 hy4 hres
      subst hy4
      show own_Ends _ _ _ _ (TT.setTop (mkF m 101 #[.val (.ref a0r), .val (.int (Int32.ofNat st)), .val (.int p2), .val (.int x3), .val (.int (Int32.ofNat d)), .val (.int x5)] []))
      refine own_pre (fun t k => XS.iload XX.here hx rfl (hb hby own_d5_101) rfl k) ?_
      show own_Ends _ _ _ _ (TT.setTop (mkF m 103 #[.val (.ref a0r), .val (.int (Int32.ofNat st)), .val (.int p2), .val (.int x3), .val (.int (Int32.ofNat d)), .val (.int x5)] [(.int (Int32.ofNat d))]))
      refine own_pre (fun t k => XS.aloadN XX.here hx rfl (hb hby own_d5_103) rfl rfl k) ?_
      show own_Ends _ _ _ _ (TT.setTop (mkF m 104 #[.val (.ref a0r), .val (.int (Int32.ofNat st)), .val (.int p2), .val (.int x3), .val (.int (Int32.ofNat d)), .val (.int x5)] [(.ref a0r), (.int (Int32.ofNat d))]))
      obtain ⟨T235, X235, e235, st235⟩ := getF XX hx hZ hown (host := "") (Or.inl (hw _ (List.mem_of_getElem? (i := 22) rfl))) Via.refl eT F_leaves (g := (mkF m 104 #[.val (.ref a0r), .val (.int (Int32.ofNat st)), .val (.int p2), .val (.int x3), .val (.int (Int32.ofNat d)), .val (.int x5)] [(.ref a0r), (.int (Int32.ofNat d))])) rfl rfl (hb hby own_d5_104)
      refine own_pre st235 ?_
      show own_Ends _ _ _ _ (T235.setTop (mkF m 107 #[.val (.ref a0r), .val (.int (Int32.ofNat st)), .val (.int p2), .val (.int x3), .val (.int (Int32.ofNat d)), .val (.int x5)] [(.int (Int32.ofNat n)), (.int (Int32.ofNat d))]))
      by_cases hc236 : (Int32.ofNat d) < (Int32.ofNat n)
      · skip
        have hdn : d < n := (own_ltN (by omega) (by omega)).mp hc236
        refine own_pre (fun t k => XS.icmpNo X235.here hx rfl (hb hby own_d5_107) rfl (tlt hc236).2.1 k) ?_
        show own_Ends _ _ _ _ (T235.setTop (mkF m 110 #[.val (.ref a0r), .val (.int (Int32.ofNat st)), .val (.int p2), .val (.int x3), .val (.int (Int32.ofNat d)), .val (.int x5)] []))
        refine own_pre (fun t k => XS.aloadN X235.here hx rfl (hb hby own_d5_110) rfl rfl k) ?_
        show own_Ends _ _ _ _ (T235.setTop (mkF m 111 #[.val (.ref a0r), .val (.int (Int32.ofNat st)), .val (.int p2), .val (.int x3), .val (.int (Int32.ofNat d)), .val (.int x5)] [(.ref a0r)]))
        obtain ⟨T237, X237, e237, st237⟩ := getF X235 hx hZ hown (host := "") (Or.inl (hw _ (List.mem_of_getElem? (i := 26) rfl))) Via.refl e235 F_least (g := (mkF m 111 #[.val (.ref a0r), .val (.int (Int32.ofNat st)), .val (.int p2), .val (.int x3), .val (.int (Int32.ofNat d)), .val (.int x5)] [(.ref a0r)])) rfl rfl (hb hby own_d5_111)
        refine own_pre st237 ?_
        show own_Ends _ _ _ _ (T237.setTop (mkF m 114 #[.val (.ref a0r), .val (.int (Int32.ofNat st)), .val (.int p2), .val (.int x3), .val (.int (Int32.ofNat d)), .val (.int x5)] [(.ref b)]))
        refine own_pre (fun t k => XS.iconst X237.here hx rfl (hb hby own_d5_114) k) ?_
        show own_Ends _ _ _ _ (T237.setTop (mkF m 115 #[.val (.ref a0r), .val (.int (Int32.ofNat st)), .val (.int p2), .val (.int x3), .val (.int (Int32.ofNat d)), .val (.int x5)] [(.int (2 : Int32)), (.ref b)]))
        refine own_pre (fun t k => XS.iload X237.here hx rfl (hb hby own_d5_115) rfl k) ?_
        show own_Ends _ _ _ _ (T237.setTop (mkF m 117 #[.val (.ref a0r), .val (.int (Int32.ofNat st)), .val (.int p2), .val (.int x3), .val (.int (Int32.ofNat d)), .val (.int x5)] [(.int (Int32.ofNat d)), (.int (2 : Int32)), (.ref b)]))
        refine own_pre (fun t k => XS.imul X237.here hx rfl (hb hby own_d5_117) rfl k) ?_
        show own_Ends _ _ _ _ (T237.setTop (mkF m 118 #[.val (.ref a0r), .val (.int (Int32.ofNat st)), .val (.int p2), .val (.int x3), .val (.int (Int32.ofNat d)), .val (.int x5)] [(.int ((2 : Int32) * (Int32.ofNat d))), (.ref b)]))
        refine own_pre (fun t k => XS.iconst X237.here hx rfl (hb hby own_d5_118) k) ?_
        show own_Ends _ _ _ _ (T237.setTop (mkF m 119 #[.val (.ref a0r), .val (.int (Int32.ofNat st)), .val (.int p2), .val (.int x3), .val (.int (Int32.ofNat d)), .val (.int x5)] [(.int (1 : Int32)), (.int ((2 : Int32) * (Int32.ofNat d))), (.ref b)]))
        refine own_pre (fun t k => XS.iadd X237.here hx rfl (hb hby own_d5_119) rfl k) ?_
        show own_Ends _ _ _ _ (T237.setTop (mkF m 120 #[.val (.ref a0r), .val (.int (Int32.ofNat st)), .val (.int p2), .val (.int x3), .val (.int (Int32.ofNat d)), .val (.int x5)] [(.int (((2 : Int32) * (Int32.ofNat d)) + (1 : Int32))), (.ref b)]))
        rw [own_two, own_plus1]
        show own_Ends _ _ _ _ (T237.setTop (mkF m 120 #[.val (.ref a0r), .val (.int (Int32.ofNat st)), .val (.int p2), .val (.int x3), .val (.int (Int32.ofNat d)), .val (.int x5)] [(.int (Int32.ofNat (2 * d + 1))), (.ref b)]))
        obtain ⟨cl238, Ar238, qc238, S238, M238, H238, G238⟩ := id (VB)
        have hin238 : ¬ ((Int32.ofNat (2 * d + 1)) < 0 ∨ cl238.slots.size ≤ ((Int32.ofNat (2 * d + 1))).toNatClampNeg) := inb_of S238 (own_inN (by omega) (show 2 * d + 1 < 2 * n by omega))
        have hat238 : cl238.slots[((Int32.ofNat (2 * d + 1))).toNatClampNeg]? = some (.int (own_lv n mk (2 * d + 1))) := H238.at hin238 (by rw [own_clamp (by omega)]; exact hvs _ (by omega) (by omega))
        refine own_pre (fun t k => X237.iaload hx (j := (Int32.ofNat (2 * d + 1))) (v := (.int (own_lv n mk (2 * d + 1)))) (by rw [e237]; exact Ar238.1) (State.isArrayOf_alike hZ.alike Ar238.2.1) Ar238.2.2 hin238 hat238 (g := (mkF m 120 #[.val (.ref a0r), .val (.int (Int32.ofNat st)), .val (.int p2), .val (.int x3), .val (.int (Int32.ofNat d)), .val (.int x5)] [(.int (Int32.ofNat (2 * d + 1))), (.ref b)])) rfl rfl (hb hby own_d5_120) _ k) ?_
        show own_Ends _ _ _ _ (T237.setTop (mkF m 121 #[.val (.ref a0r), .val (.int (Int32.ofNat st)), .val (.int p2), .val (.int x3), .val (.int (Int32.ofNat d)), .val (.int x5)] [(.int (own_lv n mk (2 * d + 1)))]))
        refine own_pre (fun t k => XS.iloadN X237.here hx rfl (hb hby own_d5_121) rfl k) ?_
        show own_Ends _ _ _ _ (T237.setTop (mkF m 122 #[.val (.ref a0r), .val (.int (Int32.ofNat st)), .val (.int p2), .val (.int x3), .val (.int (Int32.ofNat d)), .val (.int x5)] [(.int p2), (.int (own_lv n mk (2 * d + 1)))]))
        by_cases hc239 : p2 < (own_lv n mk (2 * d + 1))
        · skip
          refine own_pre (fun t k => XS.icmpYes X237.here hx rfl (pc0 := 122) (pc' := 134) rfl (hb hby own_d5_122) rfl (tlt hc239).2.2.1 (by decide) (by decide) k) ?_
          show own_Ends _ _ _ _ (T237.setTop (mkF m 134 #[.val (.ref a0r), .val (.int (Int32.ofNat st)), .val (.int p2), .val (.int x3), .val (.int (Int32.ofNat d)), .val (.int x5)] []))
          refine own_pre (fun t k => XS.iconst X237.here hx rfl (hb hby own_d5_134) k) ?_
          show own_Ends _ _ _ _ (T237.setTop (mkF m 135 #[.val (.ref a0r), .val (.int (Int32.ofNat st)), .val (.int p2), .val (.int x3), .val (.int (Int32.ofNat d)), .val (.int x5)] [(.int (2 : Int32))]))
          refine own_pre (fun t k => XS.iload X237.here hx rfl (hb hby own_d5_135) rfl k) ?_
          show own_Ends _ _ _ _ (T237.setTop (mkF m 137 #[.val (.ref a0r), .val (.int (Int32.ofNat st)), .val (.int p2), .val (.int x3), .val (.int (Int32.ofNat d)), .val (.int x5)] [(.int (Int32.ofNat d)), (.int (2 : Int32))]))
          refine own_pre (fun t k => XS.imul X237.here hx rfl (hb hby own_d5_137) rfl k) ?_
          show own_Ends _ _ _ _ (T237.setTop (mkF m 138 #[.val (.ref a0r), .val (.int (Int32.ofNat st)), .val (.int p2), .val (.int x3), .val (.int (Int32.ofNat d)), .val (.int x5)] [(.int ((2 : Int32) * (Int32.ofNat d)))]))
          rw [own_two]
          show own_Ends _ _ _ _ (T237.setTop (mkF m 138 #[.val (.ref a0r), .val (.int (Int32.ofNat st)), .val (.int p2), .val (.int x3), .val (.int (Int32.ofNat d)), .val (.int x5)] [(.int (Int32.ofNat (2 * d)))]))
          refine own_pre (fun t k => XS.istore X237.here hx rfl (hb hby own_d5_138) rfl (l' := #[.val (.ref a0r), .val (.int (Int32.ofNat st)), .val (.int p2), .val (.int x3), .val (.int (Int32.ofNat (2 * d))), .val (.int x5)]) rfl k) ?_
          show own_Ends _ _ _ _ (T237.setTop (mkF m 140 #[.val (.ref a0r), .val (.int (Int32.ofNat st)), .val (.int p2), .val (.int x3), .val (.int (Int32.ofNat (2 * d))), .val (.int x5)] []))
          refine own_pre (fun t k => XS.goto X237.here hx rfl (pc0 := 140) (pc' := 101) rfl (hb hby own_d5_140) (by decide) (by decide) k) ?_
          show own_Ends _ _ _ _ (T237.setTop (mkF m 101 #[.val (.ref a0r), .val (.int (Int32.ofNat st)), .val (.int p2), .val (.int x3), .val (.int (Int32.ofNat (2 * d))), .val (.int x5)] []))
          exact ih (2 * d) _ _ _ _ _ X237 e237 NN (own_pw2 hf (by omega)) (by omega) (by omega) rfl (by rw [← hres]; exact (own_down0 hdn hc239).symm)
        · skip
          refine own_pre (fun t k => XS.icmpNo X237.here hx rfl (hb hby own_d5_122) rfl (flt hc239).2.2.1 k) ?_
          show own_Ends _ _ _ _ (T237.setTop (mkF m 125 #[.val (.ref a0r), .val (.int (Int32.ofNat st)), .val (.int p2), .val (.int x3), .val (.int (Int32.ofNat d)), .val (.int x5)] []))
          refine own_pre (fun t k => XS.iconst X237.here hx rfl (hb hby own_d5_125) k) ?_
          show own_Ends _ _ _ _ (T237.setTop (mkF m 126 #[.val (.ref a0r), .val (.int (Int32.ofNat st)), .val (.int p2), .val (.int x3), .val (.int (Int32.ofNat d)), .val (.int x5)] [(.int (2 : Int32))]))
          refine own_pre (fun t k => XS.iload X237.here hx rfl (hb hby own_d5_126) rfl k) ?_
          show own_Ends _ _ _ _ (T237.setTop (mkF m 128 #[.val (.ref a0r), .val (.int (Int32.ofNat st)), .val (.int p2), .val (.int x3), .val (.int (Int32.ofNat d)), .val (.int x5)] [(.int (Int32.ofNat d)), (.int (2 : Int32))]))
          refine own_pre (fun t k => XS.imul X237.here hx rfl (hb hby own_d5_128) rfl k) ?_
          show own_Ends _ _ _ _ (T237.setTop (mkF m 129 #[.val (.ref a0r), .val (.int (Int32.ofNat st)), .val (.int p2), .val (.int x3), .val (.int (Int32.ofNat d)), .val (.int x5)] [(.int ((2 : Int32) * (Int32.ofNat d)))]))
          refine own_pre (fun t k => XS.iconst X237.here hx rfl (hb hby own_d5_129) k) ?_
          show own_Ends _ _ _ _ (T237.setTop (mkF m 130 #[.val (.ref a0r), .val (.int (Int32.ofNat st)), .val (.int p2), .val (.int x3), .val (.int (Int32.ofNat d)), .val (.int x5)] [(.int (1 : Int32)), (.int ((2 : Int32) * (Int32.ofNat d)))]))
          refine own_pre (fun t k => XS.iadd X237.here hx rfl (hb hby own_d5_130) rfl k) ?_
          show own_Ends _ _ _ _ (T237.setTop (mkF m 131 #[.val (.ref a0r), .val (.int (Int32.ofNat st)), .val (.int p2), .val (.int x3), .val (.int (Int32.ofNat d)), .val (.int x5)] [(.int (((2 : Int32) * (Int32.ofNat d)) + (1 : Int32)))]))
          refine own_pre (fun t k => XS.goto X237.here hx rfl (pc0 := 131) (pc' := 138) rfl (hb hby own_d5_131) (by decide) (by decide) k) ?_
          show own_Ends _ _ _ _ (T237.setTop (mkF m 138 #[.val (.ref a0r), .val (.int (Int32.ofNat st)), .val (.int p2), .val (.int x3), .val (.int (Int32.ofNat d)), .val (.int x5)] [(.int (((2 : Int32) * (Int32.ofNat d)) + (1 : Int32)))]))
          rw [own_two, own_plus1]
          show own_Ends _ _ _ _ (T237.setTop (mkF m 138 #[.val (.ref a0r), .val (.int (Int32.ofNat st)), .val (.int p2), .val (.int x3), .val (.int (Int32.ofNat d)), .val (.int x5)] [(.int (Int32.ofNat (2 * d + 1)))]))
          refine own_pre (fun t k => XS.istore X237.here hx rfl (hb hby own_d5_138) rfl (l' := #[.val (.ref a0r), .val (.int (Int32.ofNat st)), .val (.int p2), .val (.int x3), .val (.int (Int32.ofNat (2 * d + 1))), .val (.int x5)]) rfl k) ?_
          show own_Ends _ _ _ _ (T237.setTop (mkF m 140 #[.val (.ref a0r), .val (.int (Int32.ofNat st)), .val (.int p2), .val (.int x3), .val (.int (Int32.ofNat (2 * d + 1))), .val (.int x5)] []))
          refine own_pre (fun t k => XS.goto X237.here hx rfl (pc0 := 140) (pc' := 101) rfl (hb hby own_d5_140) (by decide) (by decide) k) ?_
          show own_Ends _ _ _ _ (T237.setTop (mkF m 101 #[.val (.ref a0r), .val (.int (Int32.ofNat st)), .val (.int p2), .val (.int x3), .val (.int (Int32.ofNat (2 * d + 1))), .val (.int x5)] []))
          exact ih (2 * d + 1) _ _ _ _ _ X237 e237 NN (own_pw2 hf (by omega)) (by omega) (by omega) rfl (by rw [← hres]; exact (own_down1 hdn hc239).symm)
      · skip
        have hdn : ¬ d < n := fun q => hc236 ((own_ltN (by omega) (by omega)).mpr q)
        have hres : d = (own_down (fun i => decide (¬ p2 < own_lv n mk i)) n 3 (own_up (fun i => decide (¬ p2 < own_lv n mk i)) 4 n (pos + 1 + n) (-1)).toNatClampNeg) := by rw [← hres]; exact (if_neg hdn).symm
        refine own_pre (fun t k => XS.icmpYes X235.here hx rfl (pc0 := 107) (pc' := 143) rfl (hb hby own_d5_107) rfl (flt hc236).2.1 (by decide) (by decide) k) ?_
        show own_Ends _ _ _ _ (T235.setTop (mkF m 143 #[.val (.ref a0r), .val (.int (Int32.ofNat st)), .val (.int p2), .val (.int x3), .val (.int (Int32.ofNat d)), .val (.int x5)] []))
        refine own_pre (fun t k => XS.iload X235.here hx rfl (hb hby own_d5_143) rfl k) ?_
        show own_Ends _ _ _ _ (T235.setTop (mkF m 145 #[.val (.ref a0r), .val (.int (Int32.ofNat st)), .val (.int p2), .val (.int x3), .val (.int (Int32.ofNat d)), .val (.int x5)] [(.int (Int32.ofNat d))]))
        refine own_pre (fun t k => XS.aloadN X235.here hx rfl (hb hby own_d5_145) rfl rfl k) ?_
        show own_Ends _ _ _ _ (T235.setTop (mkF m 146 #[.val (.ref a0r), .val (.int (Int32.ofNat st)), .val (.int p2), .val (.int x3), .val (.int (Int32.ofNat d)), .val (.int x5)] [(.ref a0r), (.int (Int32.ofNat d))]))
        obtain ⟨T240, X240, e240, st240⟩ := getF X235 hx hZ hown (host := "") (Or.inl (hw _ (List.mem_of_getElem? (i := 22) rfl))) Via.refl e235 F_leaves (g := (mkF m 146 #[.val (.ref a0r), .val (.int (Int32.ofNat st)), .val (.int p2), .val (.int x3), .val (.int (Int32.ofNat d)), .val (.int x5)] [(.ref a0r), (.int (Int32.ofNat d))])) rfl rfl (hb hby own_d5_146)
        refine own_pre st240 ?_
        show own_Ends _ _ _ _ (T240.setTop (mkF m 149 #[.val (.ref a0r), .val (.int (Int32.ofNat st)), .val (.int p2), .val (.int x3), .val (.int (Int32.ofNat d)), .val (.int x5)] [(.int (Int32.ofNat n)), (.int (Int32.ofNat d))]))
        refine own_pre (fun t k => XS.isub X240.here hx rfl (hb hby own_d5_149) rfl k) ?_
        show own_Ends _ _ _ _ (T240.setTop (mkF m 150 #[.val (.ref a0r), .val (.int (Int32.ofNat st)), .val (.int p2), .val (.int x3), .val (.int (Int32.ofNat d)), .val (.int x5)] [(.int ((Int32.ofNat d) - (Int32.ofNat n)))]))
        exact own_retI X240 hx Bd.returns (hb hby own_d5_150) hlk e240 ⟨congrArg (fun z => some (Value.int (Int32.ofNat z - Int32.ofNat n))) hres, NN, rfl⟩ (by decide) (by decide)
  have J98 : ∀ (x4 x5 : Int32) (TT : State) (LL : List Loc) (XX : Stand p l e ({ frames := 0, cells := 0, slots := 0, locals := 0 } : Room) s m #[(.ref a0r), (.int (Int32.ofNat st)), (.int p2)] below meth c TT LL 0 0) (eT : TT.heap = h0) (NN : Fr n0 LL), own_Ends p e below (own_Fin s (fun v h L => v = some (.int ((Int32.ofNat (own_down (fun i => decide (¬ p2 < own_lv n mk i)) n 3 (own_up (fun i => decide (¬ p2 < own_lv n mk i)) 4 n (pos + 1 + n) (-1)).toNatClampNeg)) - (Int32.ofNat n))) ∧ Fr n0 L ∧ h = h0) ({ frames := 0, cells := 0, slots := 0, locals := 0 } : Room).cells ({ frames := 0, cells := 0, slots := 0, locals := 0 } : Room).slots) (TT.setTop (mkF m 98 #[.val (.ref a0r), .val (.int (Int32.ofNat st)), .val (.int p2), .val (.int (own_up (fun i => decide (¬ p2 < own_lv n mk i)) 4 n (pos + 1 + n) (-1))), .val (.int x4), .val (.int x5)] [])) := by
    intro x4 x5 TT LL XX eT NN
    show own_Ends _ _ _ _ (TT.setTop (mkF m 98 #[.val (.ref a0r), .val (.int (Int32.ofNat st)), .val (.int p2), .val (.int (own_up (fun i => decide (¬ p2 < own_lv n mk i)) 4 n (pos + 1 + n) (-1))), .val (.int x4), .val (.int x5)] []))
    refine own_pre (fun t k => XS.iloadN XX.here hx rfl (hb hby own_d5_98) rfl k) ?_
    show own_Ends _ _ _ _ (TT.setTop (mkF m 99 #[.val (.ref a0r), .val (.int (Int32.ofNat st)), .val (.int p2), .val (.int (own_up (fun i => decide (¬ p2 < own_lv n mk i)) 4 n (pos + 1 + n) (-1))), .val (.int x4), .val (.int x5)] [(.int (own_up (fun i => decide (¬ p2 < own_lv n mk i)) 4 n (pos + 1 + n) (-1)))]))
    refine own_pre (fun t k => XS.istore XX.here hx rfl (hb hby own_d5_99) rfl (l' := #[.val (.ref a0r), .val (.int (Int32.ofNat st)), .val (.int p2), .val (.int (own_up (fun i => decide (¬ p2 < own_lv n mk i)) 4 n (pos + 1 + n) (-1))), .val (.int (own_up (fun i => decide (¬ p2 < own_lv n mk i)) 4 n (pos + 1 + n) (-1))), .val (.int x5)]) rfl k) ?_
    show own_Ends _ _ _ _ (TT.setTop (mkF m 101 #[.val (.ref a0r), .val (.int (Int32.ofNat st)), .val (.int p2), .val (.int (own_up (fun i => decide (¬ p2 < own_lv n mk i)) 4 n (pos + 1 + n) (-1))), .val (.int (own_up (fun i => decide (¬ p2 < own_lv n mk i)) 4 n (pos + 1 + n) (-1))), .val (.int x5)] []))
    exact LD 3 (own_up (fun i => decide (¬ p2 < own_lv n mk i)) 4 n (pos + 1 + n) (-1)).toNatClampNeg _ x5 _ _ _ XX eT NN (by omega) hu1 hu2 hU rfl
  have LU : ∀ (f fr to : Nat) (node : Int32) (TT : State) (LL : List Loc) (XX : Stand p l e ({ frames := 0, cells := 0, slots := 0, locals := 0 } : Room) s m #[(.ref a0r), (.int (Int32.ofNat st)), (.int p2)] below meth c TT LL 0 0) (eT : TT.heap = h0) (NN : Fr n0 LL) (hf : to < 2 ^ f) (hf4 : f ≤ 4) (hfr : 1 ≤ fr) (hfr6 : fr ≤ 6) (hto : to ≤ 2 * n) (hres : own_up (fun i => decide (¬ p2 < own_lv n mk i)) f fr to node = (own_up (fun i => decide (¬ p2 < own_lv n mk i)) 4 n (pos + 1 + n) (-1))), own_Ends p e below (own_Fin s (fun v h L => v = some (.int ((Int32.ofNat (own_down (fun i => decide (¬ p2 < own_lv n mk i)) n 3 (own_up (fun i => decide (¬ p2 < own_lv n mk i)) 4 n (pos + 1 + n) (-1)).toNatClampNeg)) - (Int32.ofNat n))) ∧ Fr n0 L ∧ h = h0) ({ frames := 0, cells := 0, slots := 0, locals := 0 } : Room).cells ({ frames := 0, cells := 0, slots := 0, locals := 0 } : Room).slots) (TT.setTop (mkF m 23 #[.val (.ref a0r), .val (.int (Int32.ofNat st)), .val (.int p2), .val (.int node), .val (.int (Int32.ofNat fr)), .val (.int (Int32.ofNat to))] [])) := by
    intro f
    induction f with
    | zero =>
      intro fr to node TT LL XX eT NN hf hf4 hfr hfr6 hto hres
      show own_Ends _ _ _ _ (TT.setTop (mkF m 23 #[.val (.ref a0r), .val (.int (Int32.ofNat st)), .val (.int p2), .val (.int node), .val (.int (Int32.ofNat fr)), .val (.int (Int32.ofNat to))] []))
      refine own_pre (fun t k => XS.iload XX.here hx rfl (hb hby own_d5_23) rfl k) ?_
      show own_Ends _ _ _ _ (TT.setTop (mkF m 25 #[.val (.ref a0r), .val (.int (Int32.ofNat st)), .val (.int p2), .val (.int node), .val (.int (Int32.ofNat fr)), .val (.int (Int32.ofNat to))] [(.int (Int32.ofNat fr))]))
      refine own_pre (fun t k => XS.iload XX.here hx rfl (hb hby own_d5_25) rfl k) ?_
      show own_Ends _ _ _ _ (TT.setTop (mkF m 27 #[.val (.ref a0r), .val (.int (Int32.ofNat st)), .val (.int p2), .val (.int node), .val (.int (Int32.ofNat fr)), .val (.int (Int32.ofNat to))] [(.int (Int32.ofNat to)), (.int (Int32.ofNat fr))]))
      refine own_pre (fun t k => XS.icmpYes XX.here hx rfl (pc0 := 27) (pc' := 98) rfl (hb hby own_d5_27) rfl (flt (own_geN (by omega) (by omega) (by simp at hf; omega) : ¬ ((Int32.ofNat fr) < (Int32.ofNat to)))).2.1 (by decide) (by decide) k) ?_
      show own_Ends _ _ _ _ (TT.setTop (mkF m 98 #[.val (.ref a0r), .val (.int (Int32.ofNat st)), .val (.int p2), .val (.int node), .val (.int (Int32.ofNat fr)), .val (.int (Int32.ofNat to))] []))
      have hz : node = (own_up (fun i => decide (¬ p2 < own_lv n mk i)) 4 n (pos + 1 + n) (-1)) := hres
      rw [hz]
      exact J98 _ _ _ _ XX eT NN
    | succ f ih =>
      intro fr to node TT LL XX eT NN hf hf4 hfr hfr6 hto hres
      show own_Ends _ _ _ _ (TT.setTop (mkF m 23 #[.val (.ref a0r), .val (.int (Int32.ofNat st)), .val (.int p2), .val (.int node), .val (.int (Int32.ofNat fr)), .val (.int (Int32.ofNat to))] []))
      refine own_pre (fun t k => XS.iload XX.here hx rfl (hb hby own_d5_23) rfl k) ?_
      show own_Ends _ _ _ _ (TT.setTop (mkF m 25 #[.val (.ref a0r), .val (.int (Int32.ofNat st)), .val (.int p2), .val (.int node), .val (.int (Int32.ofNat fr)), .val (.int (Int32.ofNat to))] [(.int (Int32.ofNat fr))]))
      refine own_pre (fun t k => XS.iload XX.here hx rfl (hb hby own_d5_25) rfl k) ?_
      show own_Ends _ _ _ _ (TT.setTop (mkF m 27 #[.val (.ref a0r), .val (.int (Int32.ofNat st)), .val (.int p2), .val (.int node), .val (.int (Int32.ofNat fr)), .val (.int (Int32.ofNat to))] [(.int (Int32.ofNat to)), (.int (Int32.ofNat fr))]))
      by_cases hc241 : (Int32.ofNat fr) < (Int32.ofNat to)
      · skip
        have hlt : fr < to := (own_ltN (by omega) (by omega)).mp hc241
        refine own_pre (fun t k => XS.icmpNo XX.here hx rfl (hb hby own_d5_27) rfl (tlt hc241).2.1 k) ?_
        show own_Ends _ _ _ _ (TT.setTop (mkF m 30 #[.val (.ref a0r), .val (.int (Int32.ofNat st)), .val (.int p2), .val (.int node), .val (.int (Int32.ofNat fr)), .val (.int (Int32.ofNat to))] []))
        refine own_pre (fun t k => XS.iload XX.here hx rfl (hb hby own_d5_30) rfl k) ?_
        show own_Ends _ _ _ _ (TT.setTop (mkF m 32 #[.val (.ref a0r), .val (.int (Int32.ofNat st)), .val (.int p2), .val (.int node), .val (.int (Int32.ofNat fr)), .val (.int (Int32.ofNat to))] [(.int (Int32.ofNat fr))]))
        refine own_pre (fun t k => XS.iconst XX.here hx rfl (hb hby own_d5_32) k) ?_
        show own_Ends _ _ _ _ (TT.setTop (mkF m 33 #[.val (.ref a0r), .val (.int (Int32.ofNat st)), .val (.int p2), .val (.int node), .val (.int (Int32.ofNat fr)), .val (.int (Int32.ofNat to))] [(.int (1 : Int32)), (.int (Int32.ofNat fr))]))
        refine own_pre (fun t k => XS.iand XX.here hx rfl (hb hby own_d5_33) rfl k) ?_
        show own_Ends _ _ _ _ (TT.setTop (mkF m 34 #[.val (.ref a0r), .val (.int (Int32.ofNat st)), .val (.int p2), .val (.int node), .val (.int (Int32.ofNat fr)), .val (.int (Int32.ofNat to))] [(.int ((Int32.ofNat fr) &&& (1 : Int32)))]))
        refine own_pre (fun t k => XS.iconst XX.here hx rfl (hb hby own_d5_34) k) ?_
        show own_Ends _ _ _ _ (TT.setTop (mkF m 35 #[.val (.ref a0r), .val (.int (Int32.ofNat st)), .val (.int p2), .val (.int node), .val (.int (Int32.ofNat fr)), .val (.int (Int32.ofNat to))] [(.int (1 : Int32)), (.int ((Int32.ofNat fr) &&& (1 : Int32)))]))
        by_cases hc242 : ((Int32.ofNat fr) &&& (1 : Int32)) = (1 : Int32)
        · skip
          have ho : fr % 2 = 1 := (own_odd (by omega)).mp hc242
          refine own_pre (fun t k => XS.icmpNo XX.here hx rfl (hb hby own_d5_35) rfl (teq hc242).2 k) ?_
          show own_Ends _ _ _ _ (TT.setTop (mkF m 38 #[.val (.ref a0r), .val (.int (Int32.ofNat st)), .val (.int p2), .val (.int node), .val (.int (Int32.ofNat fr)), .val (.int (Int32.ofNat to))] []))
          refine own_pre (fun t k => XS.aloadN XX.here hx rfl (hb hby own_d5_38) rfl rfl k) ?_
          show own_Ends _ _ _ _ (TT.setTop (mkF m 39 #[.val (.ref a0r), .val (.int (Int32.ofNat st)), .val (.int p2), .val (.int node), .val (.int (Int32.ofNat fr)), .val (.int (Int32.ofNat to))] [(.ref a0r)]))
          obtain ⟨T243, X243, e243, st243⟩ := getF XX hx hZ hown (host := "") (Or.inl (hw _ (List.mem_of_getElem? (i := 26) rfl))) Via.refl eT F_least (g := (mkF m 39 #[.val (.ref a0r), .val (.int (Int32.ofNat st)), .val (.int p2), .val (.int node), .val (.int (Int32.ofNat fr)), .val (.int (Int32.ofNat to))] [(.ref a0r)])) rfl rfl (hb hby own_d5_39)
          refine own_pre st243 ?_
          show own_Ends _ _ _ _ (T243.setTop (mkF m 42 #[.val (.ref a0r), .val (.int (Int32.ofNat st)), .val (.int p2), .val (.int node), .val (.int (Int32.ofNat fr)), .val (.int (Int32.ofNat to))] [(.ref b)]))
          refine own_pre (fun t k => XS.iload X243.here hx rfl (hb hby own_d5_42) rfl k) ?_
          show own_Ends _ _ _ _ (T243.setTop (mkF m 44 #[.val (.ref a0r), .val (.int (Int32.ofNat st)), .val (.int p2), .val (.int node), .val (.int (Int32.ofNat fr)), .val (.int (Int32.ofNat to))] [(.int (Int32.ofNat fr)), (.ref b)]))
          obtain ⟨cl244, Ar244, qc244, S244, M244, H244, G244⟩ := id (VB)
          have hin244 : ¬ ((Int32.ofNat fr) < 0 ∨ cl244.slots.size ≤ ((Int32.ofNat fr)).toNatClampNeg) := inb_of S244 (own_inN (by omega) (show fr < 2 * n by omega))
          have hat244 : cl244.slots[((Int32.ofNat fr)).toNatClampNeg]? = some (.int (own_lv n mk (fr))) := H244.at hin244 (by rw [own_clamp (by omega)]; exact hvs _ (by omega) (by omega))
          refine own_pre (fun t k => X243.iaload hx (j := (Int32.ofNat fr)) (v := (.int (own_lv n mk (fr)))) (by rw [e243]; exact Ar244.1) (State.isArrayOf_alike hZ.alike Ar244.2.1) Ar244.2.2 hin244 hat244 (g := (mkF m 44 #[.val (.ref a0r), .val (.int (Int32.ofNat st)), .val (.int p2), .val (.int node), .val (.int (Int32.ofNat fr)), .val (.int (Int32.ofNat to))] [(.int (Int32.ofNat fr)), (.ref b)])) rfl rfl (hb hby own_d5_44) _ k) ?_
          show own_Ends _ _ _ _ (T243.setTop (mkF m 45 #[.val (.ref a0r), .val (.int (Int32.ofNat st)), .val (.int p2), .val (.int node), .val (.int (Int32.ofNat fr)), .val (.int (Int32.ofNat to))] [(.int (own_lv n mk (fr)))]))
          refine own_pre (fun t k => XS.iloadN X243.here hx rfl (hb hby own_d5_45) rfl k) ?_
          show own_Ends _ _ _ _ (T243.setTop (mkF m 46 #[.val (.ref a0r), .val (.int (Int32.ofNat st)), .val (.int p2), .val (.int node), .val (.int (Int32.ofNat fr)), .val (.int (Int32.ofNat to))] [(.int p2), (.int (own_lv n mk (fr)))]))
          by_cases hc245 : p2 < (own_lv n mk (fr))
          · skip
            refine own_pre (fun t k => XS.icmpYes X243.here hx rfl (pc0 := 46) (pc' := 52) rfl (hb hby own_d5_46) rfl (tlt hc245).2.2.1 (by decide) (by decide) k) ?_
            show own_Ends _ _ _ _ (T243.setTop (mkF m 52 #[.val (.ref a0r), .val (.int (Int32.ofNat st)), .val (.int p2), .val (.int node), .val (.int (Int32.ofNat fr)), .val (.int (Int32.ofNat to))] []))
            refine own_pre (fun t k => XS.iinc X243.here hx rfl (hb hby own_d5_52) rfl (l' := #[.val (.ref a0r), .val (.int (Int32.ofNat st)), .val (.int p2), .val (.int node), .val (.int ((Int32.ofNat fr) + (1 : Int32))), .val (.int (Int32.ofNat to))]) rfl k) ?_
            show own_Ends _ _ _ _ (T243.setTop (mkF m 55 #[.val (.ref a0r), .val (.int (Int32.ofNat st)), .val (.int p2), .val (.int node), .val (.int ((Int32.ofNat fr) + (1 : Int32))), .val (.int (Int32.ofNat to))] []))
            rw [own_plus1]
            show own_Ends _ _ _ _ (T243.setTop (mkF m 55 #[.val (.ref a0r), .val (.int (Int32.ofNat st)), .val (.int p2), .val (.int node), .val (.int (Int32.ofNat (fr + 1))), .val (.int (Int32.ofNat to))] []))
            refine own_pre (fun t k => XS.iload X243.here hx rfl (hb hby own_d5_55) rfl k) ?_
            show own_Ends _ _ _ _ (T243.setTop (mkF m 57 #[.val (.ref a0r), .val (.int (Int32.ofNat st)), .val (.int p2), .val (.int node), .val (.int (Int32.ofNat (fr + 1))), .val (.int (Int32.ofNat to))] [(.int (Int32.ofNat to))]))
            refine own_pre (fun t k => XS.iconst X243.here hx rfl (hb hby own_d5_57) k) ?_
            show own_Ends _ _ _ _ (T243.setTop (mkF m 58 #[.val (.ref a0r), .val (.int (Int32.ofNat st)), .val (.int p2), .val (.int node), .val (.int (Int32.ofNat (fr + 1))), .val (.int (Int32.ofNat to))] [(.int (1 : Int32)), (.int (Int32.ofNat to))]))
            refine own_pre (fun t k => XS.iand X243.here hx rfl (hb hby own_d5_58) rfl k) ?_
            show own_Ends _ _ _ _ (T243.setTop (mkF m 59 #[.val (.ref a0r), .val (.int (Int32.ofNat st)), .val (.int p2), .val (.int node), .val (.int (Int32.ofNat (fr + 1))), .val (.int (Int32.ofNat to))] [(.int ((Int32.ofNat to) &&& (1 : Int32)))]))
            refine own_pre (fun t k => XS.iconst X243.here hx rfl (hb hby own_d5_59) k) ?_
            show own_Ends _ _ _ _ (T243.setTop (mkF m 60 #[.val (.ref a0r), .val (.int (Int32.ofNat st)), .val (.int p2), .val (.int node), .val (.int (Int32.ofNat (fr + 1))), .val (.int (Int32.ofNat to))] [(.int (1 : Int32)), (.int ((Int32.ofNat to) &&& (1 : Int32)))]))
            by_cases hc246 : ((Int32.ofNat to) &&& (1 : Int32)) = (1 : Int32)
            · skip
              have ht : to % 2 = 1 := (own_odd (by omega)).mp hc246
              refine own_pre (fun t k => XS.icmpNo X243.here hx rfl (hb hby own_d5_60) rfl (teq hc246).2 k) ?_
              show own_Ends _ _ _ _ (T243.setTop (mkF m 63 #[.val (.ref a0r), .val (.int (Int32.ofNat st)), .val (.int p2), .val (.int node), .val (.int (Int32.ofNat (fr + 1))), .val (.int (Int32.ofNat to))] []))
              refine own_pre (fun t k => XS.aloadN X243.here hx rfl (hb hby own_d5_63) rfl rfl k) ?_
              show own_Ends _ _ _ _ (T243.setTop (mkF m 64 #[.val (.ref a0r), .val (.int (Int32.ofNat st)), .val (.int p2), .val (.int node), .val (.int (Int32.ofNat (fr + 1))), .val (.int (Int32.ofNat to))] [(.ref a0r)]))
              obtain ⟨T247, X247, e247, st247⟩ := getF X243 hx hZ hown (host := "") (Or.inl (hw _ (List.mem_of_getElem? (i := 26) rfl))) Via.refl e243 F_least (g := (mkF m 64 #[.val (.ref a0r), .val (.int (Int32.ofNat st)), .val (.int p2), .val (.int node), .val (.int (Int32.ofNat (fr + 1))), .val (.int (Int32.ofNat to))] [(.ref a0r)])) rfl rfl (hb hby own_d5_64)
              refine own_pre st247 ?_
              show own_Ends _ _ _ _ (T247.setTop (mkF m 67 #[.val (.ref a0r), .val (.int (Int32.ofNat st)), .val (.int p2), .val (.int node), .val (.int (Int32.ofNat (fr + 1))), .val (.int (Int32.ofNat to))] [(.ref b)]))
              refine own_pre (fun t k => XS.iinc X247.here hx rfl (hb hby own_d5_67) rfl (l' := #[.val (.ref a0r), .val (.int (Int32.ofNat st)), .val (.int p2), .val (.int node), .val (.int (Int32.ofNat (fr + 1))), .val (.int ((Int32.ofNat to) + (-1 : Int32)))]) rfl k) ?_
              show own_Ends _ _ _ _ (T247.setTop (mkF m 70 #[.val (.ref a0r), .val (.int (Int32.ofNat st)), .val (.int p2), .val (.int node), .val (.int (Int32.ofNat (fr + 1))), .val (.int ((Int32.ofNat to) + (-1 : Int32)))] [(.ref b)]))
              rw [own_minus1 (by omega)]
              show own_Ends _ _ _ _ (T247.setTop (mkF m 70 #[.val (.ref a0r), .val (.int (Int32.ofNat st)), .val (.int p2), .val (.int node), .val (.int (Int32.ofNat (fr + 1))), .val (.int (Int32.ofNat (to - 1)))] [(.ref b)]))
              refine own_pre (fun t k => XS.iload X247.here hx rfl (hb hby own_d5_70) rfl k) ?_
              show own_Ends _ _ _ _ (T247.setTop (mkF m 72 #[.val (.ref a0r), .val (.int (Int32.ofNat st)), .val (.int p2), .val (.int node), .val (.int (Int32.ofNat (fr + 1))), .val (.int (Int32.ofNat (to - 1)))] [(.int (Int32.ofNat (to - 1))), (.ref b)]))
              obtain ⟨cl248, Ar248, qc248, S248, M248, H248, G248⟩ := id (VB)
              have hin248 : ¬ ((Int32.ofNat (to - 1)) < 0 ∨ cl248.slots.size ≤ ((Int32.ofNat (to - 1))).toNatClampNeg) := inb_of S248 (own_inN (by omega) (show to - 1 < 2 * n by omega))
              have hat248 : cl248.slots[((Int32.ofNat (to - 1))).toNatClampNeg]? = some (.int (own_lv n mk (to - 1))) := H248.at hin248 (by rw [own_clamp (by omega)]; exact hvs _ (by omega) (by omega))
              refine own_pre (fun t k => X247.iaload hx (j := (Int32.ofNat (to - 1))) (v := (.int (own_lv n mk (to - 1)))) (by rw [e247]; exact Ar248.1) (State.isArrayOf_alike hZ.alike Ar248.2.1) Ar248.2.2 hin248 hat248 (g := (mkF m 72 #[.val (.ref a0r), .val (.int (Int32.ofNat st)), .val (.int p2), .val (.int node), .val (.int (Int32.ofNat (fr + 1))), .val (.int (Int32.ofNat (to - 1)))] [(.int (Int32.ofNat (to - 1))), (.ref b)])) rfl rfl (hb hby own_d5_72) _ k) ?_
              show own_Ends _ _ _ _ (T247.setTop (mkF m 73 #[.val (.ref a0r), .val (.int (Int32.ofNat st)), .val (.int p2), .val (.int node), .val (.int (Int32.ofNat (fr + 1))), .val (.int (Int32.ofNat (to - 1)))] [(.int (own_lv n mk (to - 1)))]))
              refine own_pre (fun t k => XS.iloadN X247.here hx rfl (hb hby own_d5_73) rfl k) ?_
              show own_Ends _ _ _ _ (T247.setTop (mkF m 74 #[.val (.ref a0r), .val (.int (Int32.ofNat st)), .val (.int p2), .val (.int node), .val (.int (Int32.ofNat (fr + 1))), .val (.int (Int32.ofNat (to - 1)))] [(.int p2), (.int (own_lv n mk (to - 1)))]))
              by_cases hc249 : p2 < (own_lv n mk (to - 1))
              · skip
                refine own_pre (fun t k => XS.icmpYes X247.here hx rfl (pc0 := 74) (pc' := 83) rfl (hb hby own_d5_74) rfl (tlt hc249).2.2.1 (by decide) (by decide) k) ?_
                show own_Ends _ _ _ _ (T247.setTop (mkF m 83 #[.val (.ref a0r), .val (.int (Int32.ofNat st)), .val (.int p2), .val (.int node), .val (.int (Int32.ofNat (fr + 1))), .val (.int (Int32.ofNat (to - 1)))] []))
                refine own_pre (fun t k => XS.iload X247.here hx rfl (hb hby own_d5_83) rfl k) ?_
                show own_Ends _ _ _ _ (T247.setTop (mkF m 85 #[.val (.ref a0r), .val (.int (Int32.ofNat st)), .val (.int p2), .val (.int node), .val (.int (Int32.ofNat (fr + 1))), .val (.int (Int32.ofNat (to - 1)))] [(.int (Int32.ofNat (fr + 1)))]))
                refine own_pre (fun t k => XS.iconst X247.here hx rfl (hb hby own_d5_85) k) ?_
                show own_Ends _ _ _ _ (T247.setTop (mkF m 86 #[.val (.ref a0r), .val (.int (Int32.ofNat st)), .val (.int p2), .val (.int node), .val (.int (Int32.ofNat (fr + 1))), .val (.int (Int32.ofNat (to - 1)))] [(.int (1 : Int32)), (.int (Int32.ofNat (fr + 1)))]))
                refine own_pre (fun t k => XS.ishr X247.here hx rfl (hb hby own_d5_86) rfl k) ?_
                show own_Ends _ _ _ _ (T247.setTop (mkF m 87 #[.val (.ref a0r), .val (.int (Int32.ofNat st)), .val (.int p2), .val (.int node), .val (.int (Int32.ofNat (fr + 1))), .val (.int (Int32.ofNat (to - 1)))] [(.int ((Int32.ofNat (fr + 1)) >>> ((1 : Int32) &&& 31)))]))
                refine own_pre (fun t k => XS.istore X247.here hx rfl (hb hby own_d5_87) rfl (l' := #[.val (.ref a0r), .val (.int (Int32.ofNat st)), .val (.int p2), .val (.int node), .val (.int ((Int32.ofNat (fr + 1)) >>> ((1 : Int32) &&& 31))), .val (.int (Int32.ofNat (to - 1)))]) rfl k) ?_
                show own_Ends _ _ _ _ (T247.setTop (mkF m 89 #[.val (.ref a0r), .val (.int (Int32.ofNat st)), .val (.int p2), .val (.int node), .val (.int ((Int32.ofNat (fr + 1)) >>> ((1 : Int32) &&& 31))), .val (.int (Int32.ofNat (to - 1)))] []))
                refine own_pre (fun t k => XS.iload X247.here hx rfl (hb hby own_d5_89) rfl k) ?_
                show own_Ends _ _ _ _ (T247.setTop (mkF m 91 #[.val (.ref a0r), .val (.int (Int32.ofNat st)), .val (.int p2), .val (.int node), .val (.int ((Int32.ofNat (fr + 1)) >>> ((1 : Int32) &&& 31))), .val (.int (Int32.ofNat (to - 1)))] [(.int (Int32.ofNat (to - 1)))]))
                refine own_pre (fun t k => XS.iconst X247.here hx rfl (hb hby own_d5_91) k) ?_
                show own_Ends _ _ _ _ (T247.setTop (mkF m 92 #[.val (.ref a0r), .val (.int (Int32.ofNat st)), .val (.int p2), .val (.int node), .val (.int ((Int32.ofNat (fr + 1)) >>> ((1 : Int32) &&& 31))), .val (.int (Int32.ofNat (to - 1)))] [(.int (1 : Int32)), (.int (Int32.ofNat (to - 1)))]))
                refine own_pre (fun t k => XS.ishr X247.here hx rfl (hb hby own_d5_92) rfl k) ?_
                show own_Ends _ _ _ _ (T247.setTop (mkF m 93 #[.val (.ref a0r), .val (.int (Int32.ofNat st)), .val (.int p2), .val (.int node), .val (.int ((Int32.ofNat (fr + 1)) >>> ((1 : Int32) &&& 31))), .val (.int (Int32.ofNat (to - 1)))] [(.int ((Int32.ofNat (to - 1)) >>> ((1 : Int32) &&& 31)))]))
                refine own_pre (fun t k => XS.istore X247.here hx rfl (hb hby own_d5_93) rfl (l' := #[.val (.ref a0r), .val (.int (Int32.ofNat st)), .val (.int p2), .val (.int node), .val (.int ((Int32.ofNat (fr + 1)) >>> ((1 : Int32) &&& 31))), .val (.int ((Int32.ofNat (to - 1)) >>> ((1 : Int32) &&& 31)))]) rfl k) ?_
                show own_Ends _ _ _ _ (T247.setTop (mkF m 95 #[.val (.ref a0r), .val (.int (Int32.ofNat st)), .val (.int p2), .val (.int node), .val (.int ((Int32.ofNat (fr + 1)) >>> ((1 : Int32) &&& 31))), .val (.int ((Int32.ofNat (to - 1)) >>> ((1 : Int32) &&& 31)))] []))
                refine own_pre (fun t k => XS.goto X247.here hx rfl (pc0 := 95) (pc' := 23) rfl (hb hby own_d5_95) (by decide) (by decide) k) ?_
                show own_Ends _ _ _ _ (T247.setTop (mkF m 23 #[.val (.ref a0r), .val (.int (Int32.ofNat st)), .val (.int p2), .val (.int node), .val (.int ((Int32.ofNat (fr + 1)) >>> ((1 : Int32) &&& 31))), .val (.int ((Int32.ofNat (to - 1)) >>> ((1 : Int32) &&& 31)))] []))
                rw [own_half (by omega), own_half (by omega)]
                exact ih ((fr + 1) / 2) ((to - 1) / 2) _ _ _ X247 e247 NN (by rw [Nat.pow_succ] at hf; omega) (by omega) (by omega) (by omega) (by omega) (by rw [← hres]; exact (own_upGo hlt (fr' := ((fr + 1) / 2)) (to' := ((to - 1) / 2)) (node' := node) (own_oddYes ho hc245) (Or.inl ⟨ht, rfl, hc249⟩)).symm)
              · skip
                refine own_pre (fun t k => XS.icmpNo X247.here hx rfl (hb hby own_d5_74) rfl (flt hc249).2.2.1 k) ?_
                show own_Ends _ _ _ _ (T247.setTop (mkF m 77 #[.val (.ref a0r), .val (.int (Int32.ofNat st)), .val (.int p2), .val (.int node), .val (.int (Int32.ofNat (fr + 1))), .val (.int (Int32.ofNat (to - 1)))] []))
                refine own_pre (fun t k => XS.iload X247.here hx rfl (hb hby own_d5_77) rfl k) ?_
                show own_Ends _ _ _ _ (T247.setTop (mkF m 79 #[.val (.ref a0r), .val (.int (Int32.ofNat st)), .val (.int p2), .val (.int node), .val (.int (Int32.ofNat (fr + 1))), .val (.int (Int32.ofNat (to - 1)))] [(.int (Int32.ofNat (to - 1)))]))
                refine own_pre (fun t k => XS.istoreN X247.here hx rfl (hb hby own_d5_79) rfl (l' := #[.val (.ref a0r), .val (.int (Int32.ofNat st)), .val (.int p2), .val (.int (Int32.ofNat (to - 1))), .val (.int (Int32.ofNat (fr + 1))), .val (.int (Int32.ofNat (to - 1)))]) rfl k) ?_
                show own_Ends _ _ _ _ (T247.setTop (mkF m 80 #[.val (.ref a0r), .val (.int (Int32.ofNat st)), .val (.int p2), .val (.int (Int32.ofNat (to - 1))), .val (.int (Int32.ofNat (fr + 1))), .val (.int (Int32.ofNat (to - 1)))] []))
                refine own_pre (fun t k => XS.goto X247.here hx rfl (pc0 := 80) (pc' := 98) rfl (hb hby own_d5_80) (by decide) (by decide) k) ?_
                show own_Ends _ _ _ _ (T247.setTop (mkF m 98 #[.val (.ref a0r), .val (.int (Int32.ofNat st)), .val (.int p2), .val (.int (Int32.ofNat (to - 1))), .val (.int (Int32.ofNat (fr + 1))), .val (.int (Int32.ofNat (to - 1)))] []))
                have hz : (Int32.ofNat (to - 1)) = (own_up (fun i => decide (¬ p2 < own_lv n mk i)) 4 n (pos + 1 + n) (-1)) := by rw [← hres]; exact (own_upBreak hlt ht hc249).symm
                rw [hz]
                exact J98 _ _ _ _ X247 e247 NN
            · skip
              have ht : ¬ to % 2 = 1 := fun q => hc246 ((own_odd (by omega)).mpr q)
              refine own_pre (fun t k => XS.icmpYes X243.here hx rfl (pc0 := 60) (pc' := 83) rfl (hb hby own_d5_60) rfl (feq hc246).2 (by decide) (by decide) k) ?_
              show own_Ends _ _ _ _ (T243.setTop (mkF m 83 #[.val (.ref a0r), .val (.int (Int32.ofNat st)), .val (.int p2), .val (.int node), .val (.int (Int32.ofNat (fr + 1))), .val (.int (Int32.ofNat to))] []))
              refine own_pre (fun t k => XS.iload X243.here hx rfl (hb hby own_d5_83) rfl k) ?_
              show own_Ends _ _ _ _ (T243.setTop (mkF m 85 #[.val (.ref a0r), .val (.int (Int32.ofNat st)), .val (.int p2), .val (.int node), .val (.int (Int32.ofNat (fr + 1))), .val (.int (Int32.ofNat to))] [(.int (Int32.ofNat (fr + 1)))]))
              refine own_pre (fun t k => XS.iconst X243.here hx rfl (hb hby own_d5_85) k) ?_
              show own_Ends _ _ _ _ (T243.setTop (mkF m 86 #[.val (.ref a0r), .val (.int (Int32.ofNat st)), .val (.int p2), .val (.int node), .val (.int (Int32.ofNat (fr + 1))), .val (.int (Int32.ofNat to))] [(.int (1 : Int32)), (.int (Int32.ofNat (fr + 1)))]))
              refine own_pre (fun t k => XS.ishr X243.here hx rfl (hb hby own_d5_86) rfl k) ?_
              show own_Ends _ _ _ _ (T243.setTop (mkF m 87 #[.val (.ref a0r), .val (.int (Int32.ofNat st)), .val (.int p2), .val (.int node), .val (.int (Int32.ofNat (fr + 1))), .val (.int (Int32.ofNat to))] [(.int ((Int32.ofNat (fr + 1)) >>> ((1 : Int32) &&& 31)))]))
              refine own_pre (fun t k => XS.istore X243.here hx rfl (hb hby own_d5_87) rfl (l' := #[.val (.ref a0r), .val (.int (Int32.ofNat st)), .val (.int p2), .val (.int node), .val (.int ((Int32.ofNat (fr + 1)) >>> ((1 : Int32) &&& 31))), .val (.int (Int32.ofNat to))]) rfl k) ?_
              show own_Ends _ _ _ _ (T243.setTop (mkF m 89 #[.val (.ref a0r), .val (.int (Int32.ofNat st)), .val (.int p2), .val (.int node), .val (.int ((Int32.ofNat (fr + 1)) >>> ((1 : Int32) &&& 31))), .val (.int (Int32.ofNat to))] []))
              refine own_pre (fun t k => XS.iload X243.here hx rfl (hb hby own_d5_89) rfl k) ?_
              show own_Ends _ _ _ _ (T243.setTop (mkF m 91 #[.val (.ref a0r), .val (.int (Int32.ofNat st)), .val (.int p2), .val (.int node), .val (.int ((Int32.ofNat (fr + 1)) >>> ((1 : Int32) &&& 31))), .val (.int (Int32.ofNat to))] [(.int (Int32.ofNat to))]))
              refine own_pre (fun t k => XS.iconst X243.here hx rfl (hb hby own_d5_91) k) ?_
              show own_Ends _ _ _ _ (T243.setTop (mkF m 92 #[.val (.ref a0r), .val (.int (Int32.ofNat st)), .val (.int p2), .val (.int node), .val (.int ((Int32.ofNat (fr + 1)) >>> ((1 : Int32) &&& 31))), .val (.int (Int32.ofNat to))] [(.int (1 : Int32)), (.int (Int32.ofNat to))]))
              refine own_pre (fun t k => XS.ishr X243.here hx rfl (hb hby own_d5_92) rfl k) ?_
              show own_Ends _ _ _ _ (T243.setTop (mkF m 93 #[.val (.ref a0r), .val (.int (Int32.ofNat st)), .val (.int p2), .val (.int node), .val (.int ((Int32.ofNat (fr + 1)) >>> ((1 : Int32) &&& 31))), .val (.int (Int32.ofNat to))] [(.int ((Int32.ofNat to) >>> ((1 : Int32) &&& 31)))]))
              refine own_pre (fun t k => XS.istore X243.here hx rfl (hb hby own_d5_93) rfl (l' := #[.val (.ref a0r), .val (.int (Int32.ofNat st)), .val (.int p2), .val (.int node), .val (.int ((Int32.ofNat (fr + 1)) >>> ((1 : Int32) &&& 31))), .val (.int ((Int32.ofNat to) >>> ((1 : Int32) &&& 31)))]) rfl k) ?_
              show own_Ends _ _ _ _ (T243.setTop (mkF m 95 #[.val (.ref a0r), .val (.int (Int32.ofNat st)), .val (.int p2), .val (.int node), .val (.int ((Int32.ofNat (fr + 1)) >>> ((1 : Int32) &&& 31))), .val (.int ((Int32.ofNat to) >>> ((1 : Int32) &&& 31)))] []))
              refine own_pre (fun t k => XS.goto X243.here hx rfl (pc0 := 95) (pc' := 23) rfl (hb hby own_d5_95) (by decide) (by decide) k) ?_
              show own_Ends _ _ _ _ (T243.setTop (mkF m 23 #[.val (.ref a0r), .val (.int (Int32.ofNat st)), .val (.int p2), .val (.int node), .val (.int ((Int32.ofNat (fr + 1)) >>> ((1 : Int32) &&& 31))), .val (.int ((Int32.ofNat to) >>> ((1 : Int32) &&& 31)))] []))
              rw [own_half (by omega), own_half (by omega)]
              exact ih ((fr + 1) / 2) (to / 2) _ _ _ X243 e243 NN (by rw [Nat.pow_succ] at hf; omega) (by omega) (by omega) (by omega) (by omega) (by rw [← hres]; exact (own_upGo hlt (fr' := ((fr + 1) / 2)) (to' := (to / 2)) (node' := node) (own_oddYes ho hc245) (Or.inr ⟨ht, rfl⟩)).symm)
          · skip
            refine own_pre (fun t k => XS.icmpNo X243.here hx rfl (hb hby own_d5_46) rfl (flt hc245).2.2.1 k) ?_
            show own_Ends _ _ _ _ (T243.setTop (mkF m 49 #[.val (.ref a0r), .val (.int (Int32.ofNat st)), .val (.int p2), .val (.int node), .val (.int (Int32.ofNat fr)), .val (.int (Int32.ofNat to))] []))
            refine own_pre (fun t k => XS.iload X243.here hx rfl (hb hby own_d5_49) rfl k) ?_
            show own_Ends _ _ _ _ (T243.setTop (mkF m 51 #[.val (.ref a0r), .val (.int (Int32.ofNat st)), .val (.int p2), .val (.int node), .val (.int (Int32.ofNat fr)), .val (.int (Int32.ofNat to))] [(.int (Int32.ofNat fr))]))
            refine own_pre (fun t k => XS.istoreN X243.here hx rfl (hb hby own_d5_51) rfl (l' := #[.val (.ref a0r), .val (.int (Int32.ofNat st)), .val (.int p2), .val (.int (Int32.ofNat fr)), .val (.int (Int32.ofNat fr)), .val (.int (Int32.ofNat to))]) rfl k) ?_
            show own_Ends _ _ _ _ (T243.setTop (mkF m 52 #[.val (.ref a0r), .val (.int (Int32.ofNat st)), .val (.int p2), .val (.int (Int32.ofNat fr)), .val (.int (Int32.ofNat fr)), .val (.int (Int32.ofNat to))] []))
            refine own_pre (fun t k => XS.iinc X243.here hx rfl (hb hby own_d5_52) rfl (l' := #[.val (.ref a0r), .val (.int (Int32.ofNat st)), .val (.int p2), .val (.int (Int32.ofNat fr)), .val (.int ((Int32.ofNat fr) + (1 : Int32))), .val (.int (Int32.ofNat to))]) rfl k) ?_
            show own_Ends _ _ _ _ (T243.setTop (mkF m 55 #[.val (.ref a0r), .val (.int (Int32.ofNat st)), .val (.int p2), .val (.int (Int32.ofNat fr)), .val (.int ((Int32.ofNat fr) + (1 : Int32))), .val (.int (Int32.ofNat to))] []))
            rw [own_plus1]
            show own_Ends _ _ _ _ (T243.setTop (mkF m 55 #[.val (.ref a0r), .val (.int (Int32.ofNat st)), .val (.int p2), .val (.int (Int32.ofNat fr)), .val (.int (Int32.ofNat (fr + 1))), .val (.int (Int32.ofNat to))] []))
            refine own_pre (fun t k => XS.iload X243.here hx rfl (hb hby own_d5_55) rfl k) ?_
            show own_Ends _ _ _ _ (T243.setTop (mkF m 57 #[.val (.ref a0r), .val (.int (Int32.ofNat st)), .val (.int p2), .val (.int (Int32.ofNat fr)), .val (.int (Int32.ofNat (fr + 1))), .val (.int (Int32.ofNat to))] [(.int (Int32.ofNat to))]))
            refine own_pre (fun t k => XS.iconst X243.here hx rfl (hb hby own_d5_57) k) ?_
            show own_Ends _ _ _ _ (T243.setTop (mkF m 58 #[.val (.ref a0r), .val (.int (Int32.ofNat st)), .val (.int p2), .val (.int (Int32.ofNat fr)), .val (.int (Int32.ofNat (fr + 1))), .val (.int (Int32.ofNat to))] [(.int (1 : Int32)), (.int (Int32.ofNat to))]))
            refine own_pre (fun t k => XS.iand X243.here hx rfl (hb hby own_d5_58) rfl k) ?_
            show own_Ends _ _ _ _ (T243.setTop (mkF m 59 #[.val (.ref a0r), .val (.int (Int32.ofNat st)), .val (.int p2), .val (.int (Int32.ofNat fr)), .val (.int (Int32.ofNat (fr + 1))), .val (.int (Int32.ofNat to))] [(.int ((Int32.ofNat to) &&& (1 : Int32)))]))
            refine own_pre (fun t k => XS.iconst X243.here hx rfl (hb hby own_d5_59) k) ?_
            show own_Ends _ _ _ _ (T243.setTop (mkF m 60 #[.val (.ref a0r), .val (.int (Int32.ofNat st)), .val (.int p2), .val (.int (Int32.ofNat fr)), .val (.int (Int32.ofNat (fr + 1))), .val (.int (Int32.ofNat to))] [(.int (1 : Int32)), (.int ((Int32.ofNat to) &&& (1 : Int32)))]))
            by_cases hc250 : ((Int32.ofNat to) &&& (1 : Int32)) = (1 : Int32)
            · skip
              have ht : to % 2 = 1 := (own_odd (by omega)).mp hc250
              refine own_pre (fun t k => XS.icmpNo X243.here hx rfl (hb hby own_d5_60) rfl (teq hc250).2 k) ?_
              show own_Ends _ _ _ _ (T243.setTop (mkF m 63 #[.val (.ref a0r), .val (.int (Int32.ofNat st)), .val (.int p2), .val (.int (Int32.ofNat fr)), .val (.int (Int32.ofNat (fr + 1))), .val (.int (Int32.ofNat to))] []))
              refine own_pre (fun t k => XS.aloadN X243.here hx rfl (hb hby own_d5_63) rfl rfl k) ?_
              show own_Ends _ _ _ _ (T243.setTop (mkF m 64 #[.val (.ref a0r), .val (.int (Int32.ofNat st)), .val (.int p2), .val (.int (Int32.ofNat fr)), .val (.int (Int32.ofNat (fr + 1))), .val (.int (Int32.ofNat to))] [(.ref a0r)]))
              obtain ⟨T251, X251, e251, st251⟩ := getF X243 hx hZ hown (host := "") (Or.inl (hw _ (List.mem_of_getElem? (i := 26) rfl))) Via.refl e243 F_least (g := (mkF m 64 #[.val (.ref a0r), .val (.int (Int32.ofNat st)), .val (.int p2), .val (.int (Int32.ofNat fr)), .val (.int (Int32.ofNat (fr + 1))), .val (.int (Int32.ofNat to))] [(.ref a0r)])) rfl rfl (hb hby own_d5_64)
              refine own_pre st251 ?_
              show own_Ends _ _ _ _ (T251.setTop (mkF m 67 #[.val (.ref a0r), .val (.int (Int32.ofNat st)), .val (.int p2), .val (.int (Int32.ofNat fr)), .val (.int (Int32.ofNat (fr + 1))), .val (.int (Int32.ofNat to))] [(.ref b)]))
              refine own_pre (fun t k => XS.iinc X251.here hx rfl (hb hby own_d5_67) rfl (l' := #[.val (.ref a0r), .val (.int (Int32.ofNat st)), .val (.int p2), .val (.int (Int32.ofNat fr)), .val (.int (Int32.ofNat (fr + 1))), .val (.int ((Int32.ofNat to) + (-1 : Int32)))]) rfl k) ?_
              show own_Ends _ _ _ _ (T251.setTop (mkF m 70 #[.val (.ref a0r), .val (.int (Int32.ofNat st)), .val (.int p2), .val (.int (Int32.ofNat fr)), .val (.int (Int32.ofNat (fr + 1))), .val (.int ((Int32.ofNat to) + (-1 : Int32)))] [(.ref b)]))
              rw [own_minus1 (by omega)]
              show own_Ends _ _ _ _ (T251.setTop (mkF m 70 #[.val (.ref a0r), .val (.int (Int32.ofNat st)), .val (.int p2), .val (.int (Int32.ofNat fr)), .val (.int (Int32.ofNat (fr + 1))), .val (.int (Int32.ofNat (to - 1)))] [(.ref b)]))
              refine own_pre (fun t k => XS.iload X251.here hx rfl (hb hby own_d5_70) rfl k) ?_
              show own_Ends _ _ _ _ (T251.setTop (mkF m 72 #[.val (.ref a0r), .val (.int (Int32.ofNat st)), .val (.int p2), .val (.int (Int32.ofNat fr)), .val (.int (Int32.ofNat (fr + 1))), .val (.int (Int32.ofNat (to - 1)))] [(.int (Int32.ofNat (to - 1))), (.ref b)]))
              obtain ⟨cl252, Ar252, qc252, S252, M252, H252, G252⟩ := id (VB)
              have hin252 : ¬ ((Int32.ofNat (to - 1)) < 0 ∨ cl252.slots.size ≤ ((Int32.ofNat (to - 1))).toNatClampNeg) := inb_of S252 (own_inN (by omega) (show to - 1 < 2 * n by omega))
              have hat252 : cl252.slots[((Int32.ofNat (to - 1))).toNatClampNeg]? = some (.int (own_lv n mk (to - 1))) := H252.at hin252 (by rw [own_clamp (by omega)]; exact hvs _ (by omega) (by omega))
              refine own_pre (fun t k => X251.iaload hx (j := (Int32.ofNat (to - 1))) (v := (.int (own_lv n mk (to - 1)))) (by rw [e251]; exact Ar252.1) (State.isArrayOf_alike hZ.alike Ar252.2.1) Ar252.2.2 hin252 hat252 (g := (mkF m 72 #[.val (.ref a0r), .val (.int (Int32.ofNat st)), .val (.int p2), .val (.int (Int32.ofNat fr)), .val (.int (Int32.ofNat (fr + 1))), .val (.int (Int32.ofNat (to - 1)))] [(.int (Int32.ofNat (to - 1))), (.ref b)])) rfl rfl (hb hby own_d5_72) _ k) ?_
              show own_Ends _ _ _ _ (T251.setTop (mkF m 73 #[.val (.ref a0r), .val (.int (Int32.ofNat st)), .val (.int p2), .val (.int (Int32.ofNat fr)), .val (.int (Int32.ofNat (fr + 1))), .val (.int (Int32.ofNat (to - 1)))] [(.int (own_lv n mk (to - 1)))]))
              refine own_pre (fun t k => XS.iloadN X251.here hx rfl (hb hby own_d5_73) rfl k) ?_
              show own_Ends _ _ _ _ (T251.setTop (mkF m 74 #[.val (.ref a0r), .val (.int (Int32.ofNat st)), .val (.int p2), .val (.int (Int32.ofNat fr)), .val (.int (Int32.ofNat (fr + 1))), .val (.int (Int32.ofNat (to - 1)))] [(.int p2), (.int (own_lv n mk (to - 1)))]))
              by_cases hc253 : p2 < (own_lv n mk (to - 1))
              · skip
                refine own_pre (fun t k => XS.icmpYes X251.here hx rfl (pc0 := 74) (pc' := 83) rfl (hb hby own_d5_74) rfl (tlt hc253).2.2.1 (by decide) (by decide) k) ?_
                show own_Ends _ _ _ _ (T251.setTop (mkF m 83 #[.val (.ref a0r), .val (.int (Int32.ofNat st)), .val (.int p2), .val (.int (Int32.ofNat fr)), .val (.int (Int32.ofNat (fr + 1))), .val (.int (Int32.ofNat (to - 1)))] []))
                refine own_pre (fun t k => XS.iload X251.here hx rfl (hb hby own_d5_83) rfl k) ?_
                show own_Ends _ _ _ _ (T251.setTop (mkF m 85 #[.val (.ref a0r), .val (.int (Int32.ofNat st)), .val (.int p2), .val (.int (Int32.ofNat fr)), .val (.int (Int32.ofNat (fr + 1))), .val (.int (Int32.ofNat (to - 1)))] [(.int (Int32.ofNat (fr + 1)))]))
                refine own_pre (fun t k => XS.iconst X251.here hx rfl (hb hby own_d5_85) k) ?_
                show own_Ends _ _ _ _ (T251.setTop (mkF m 86 #[.val (.ref a0r), .val (.int (Int32.ofNat st)), .val (.int p2), .val (.int (Int32.ofNat fr)), .val (.int (Int32.ofNat (fr + 1))), .val (.int (Int32.ofNat (to - 1)))] [(.int (1 : Int32)), (.int (Int32.ofNat (fr + 1)))]))
                refine own_pre (fun t k => XS.ishr X251.here hx rfl (hb hby own_d5_86) rfl k) ?_
                show own_Ends _ _ _ _ (T251.setTop (mkF m 87 #[.val (.ref a0r), .val (.int (Int32.ofNat st)), .val (.int p2), .val (.int (Int32.ofNat fr)), .val (.int (Int32.ofNat (fr + 1))), .val (.int (Int32.ofNat (to - 1)))] [(.int ((Int32.ofNat (fr + 1)) >>> ((1 : Int32) &&& 31)))]))
                refine own_pre (fun t k => XS.istore X251.here hx rfl (hb hby own_d5_87) rfl (l' := #[.val (.ref a0r), .val (.int (Int32.ofNat st)), .val (.int p2), .val (.int (Int32.ofNat fr)), .val (.int ((Int32.ofNat (fr + 1)) >>> ((1 : Int32) &&& 31))), .val (.int (Int32.ofNat (to - 1)))]) rfl k) ?_
                show own_Ends _ _ _ _ (T251.setTop (mkF m 89 #[.val (.ref a0r), .val (.int (Int32.ofNat st)), .val (.int p2), .val (.int (Int32.ofNat fr)), .val (.int ((Int32.ofNat (fr + 1)) >>> ((1 : Int32) &&& 31))), .val (.int (Int32.ofNat (to - 1)))] []))
                refine own_pre (fun t k => XS.iload X251.here hx rfl (hb hby own_d5_89) rfl k) ?_
                show own_Ends _ _ _ _ (T251.setTop (mkF m 91 #[.val (.ref a0r), .val (.int (Int32.ofNat st)), .val (.int p2), .val (.int (Int32.ofNat fr)), .val (.int ((Int32.ofNat (fr + 1)) >>> ((1 : Int32) &&& 31))), .val (.int (Int32.ofNat (to - 1)))] [(.int (Int32.ofNat (to - 1)))]))
                refine own_pre (fun t k => XS.iconst X251.here hx rfl (hb hby own_d5_91) k) ?_
                show own_Ends _ _ _ _ (T251.setTop (mkF m 92 #[.val (.ref a0r), .val (.int (Int32.ofNat st)), .val (.int p2), .val (.int (Int32.ofNat fr)), .val (.int ((Int32.ofNat (fr + 1)) >>> ((1 : Int32) &&& 31))), .val (.int (Int32.ofNat (to - 1)))] [(.int (1 : Int32)), (.int (Int32.ofNat (to - 1)))]))
                refine own_pre (fun t k => XS.ishr X251.here hx rfl (hb hby own_d5_92) rfl k) ?_
                show own_Ends _ _ _ _ (T251.setTop (mkF m 93 #[.val (.ref a0r), .val (.int (Int32.ofNat st)), .val (.int p2), .val (.int (Int32.ofNat fr)), .val (.int ((Int32.ofNat (fr + 1)) >>> ((1 : Int32) &&& 31))), .val (.int (Int32.ofNat (to - 1)))] [(.int ((Int32.ofNat (to - 1)) >>> ((1 : Int32) &&& 31)))]))
                refine own_pre (fun t k => XS.istore X251.here hx rfl (hb hby own_d5_93) rfl (l' := #[.val (.ref a0r), .val (.int (Int32.ofNat st)), .val (.int p2), .val (.int (Int32.ofNat fr)), .val (.int ((Int32.ofNat (fr + 1)) >>> ((1 : Int32) &&& 31))), .val (.int ((Int32.ofNat (to - 1)) >>> ((1 : Int32) &&& 31)))]) rfl k) ?_
                show own_Ends _ _ _ _ (T251.setTop (mkF m 95 #[.val (.ref a0r), .val (.int (Int32.ofNat st)), .val (.int p2), .val (.int (Int32.ofNat fr)), .val (.int ((Int32.ofNat (fr + 1)) >>> ((1 : Int32) &&& 31))), .val (.int ((Int32.ofNat (to - 1)) >>> ((1 : Int32) &&& 31)))] []))
                refine own_pre (fun t k => XS.goto X251.here hx rfl (pc0 := 95) (pc' := 23) rfl (hb hby own_d5_95) (by decide) (by decide) k) ?_
                show own_Ends _ _ _ _ (T251.setTop (mkF m 23 #[.val (.ref a0r), .val (.int (Int32.ofNat st)), .val (.int p2), .val (.int (Int32.ofNat fr)), .val (.int ((Int32.ofNat (fr + 1)) >>> ((1 : Int32) &&& 31))), .val (.int ((Int32.ofNat (to - 1)) >>> ((1 : Int32) &&& 31)))] []))
                rw [own_half (by omega), own_half (by omega)]
                exact ih ((fr + 1) / 2) ((to - 1) / 2) _ _ _ X251 e251 NN (by rw [Nat.pow_succ] at hf; omega) (by omega) (by omega) (by omega) (by omega) (by rw [← hres]; exact (own_upGo hlt (fr' := ((fr + 1) / 2)) (to' := ((to - 1) / 2)) (node' := (Int32.ofNat fr)) (own_oddNo ho hc245) (Or.inl ⟨ht, rfl, hc253⟩)).symm)
              · skip
                refine own_pre (fun t k => XS.icmpNo X251.here hx rfl (hb hby own_d5_74) rfl (flt hc253).2.2.1 k) ?_
                show own_Ends _ _ _ _ (T251.setTop (mkF m 77 #[.val (.ref a0r), .val (.int (Int32.ofNat st)), .val (.int p2), .val (.int (Int32.ofNat fr)), .val (.int (Int32.ofNat (fr + 1))), .val (.int (Int32.ofNat (to - 1)))] []))
                refine own_pre (fun t k => XS.iload X251.here hx rfl (hb hby own_d5_77) rfl k) ?_
                show own_Ends _ _ _ _ (T251.setTop (mkF m 79 #[.val (.ref a0r), .val (.int (Int32.ofNat st)), .val (.int p2), .val (.int (Int32.ofNat fr)), .val (.int (Int32.ofNat (fr + 1))), .val (.int (Int32.ofNat (to - 1)))] [(.int (Int32.ofNat (to - 1)))]))
                refine own_pre (fun t k => XS.istoreN X251.here hx rfl (hb hby own_d5_79) rfl (l' := #[.val (.ref a0r), .val (.int (Int32.ofNat st)), .val (.int p2), .val (.int (Int32.ofNat (to - 1))), .val (.int (Int32.ofNat (fr + 1))), .val (.int (Int32.ofNat (to - 1)))]) rfl k) ?_
                show own_Ends _ _ _ _ (T251.setTop (mkF m 80 #[.val (.ref a0r), .val (.int (Int32.ofNat st)), .val (.int p2), .val (.int (Int32.ofNat (to - 1))), .val (.int (Int32.ofNat (fr + 1))), .val (.int (Int32.ofNat (to - 1)))] []))
                refine own_pre (fun t k => XS.goto X251.here hx rfl (pc0 := 80) (pc' := 98) rfl (hb hby own_d5_80) (by decide) (by decide) k) ?_
                show own_Ends _ _ _ _ (T251.setTop (mkF m 98 #[.val (.ref a0r), .val (.int (Int32.ofNat st)), .val (.int p2), .val (.int (Int32.ofNat (to - 1))), .val (.int (Int32.ofNat (fr + 1))), .val (.int (Int32.ofNat (to - 1)))] []))
                have hz : (Int32.ofNat (to - 1)) = (own_up (fun i => decide (¬ p2 < own_lv n mk i)) 4 n (pos + 1 + n) (-1)) := by rw [← hres]; exact (own_upBreak hlt ht hc253).symm
                rw [hz]
                exact J98 _ _ _ _ X251 e251 NN
            · skip
              have ht : ¬ to % 2 = 1 := fun q => hc250 ((own_odd (by omega)).mpr q)
              refine own_pre (fun t k => XS.icmpYes X243.here hx rfl (pc0 := 60) (pc' := 83) rfl (hb hby own_d5_60) rfl (feq hc250).2 (by decide) (by decide) k) ?_
              show own_Ends _ _ _ _ (T243.setTop (mkF m 83 #[.val (.ref a0r), .val (.int (Int32.ofNat st)), .val (.int p2), .val (.int (Int32.ofNat fr)), .val (.int (Int32.ofNat (fr + 1))), .val (.int (Int32.ofNat to))] []))
              refine own_pre (fun t k => XS.iload X243.here hx rfl (hb hby own_d5_83) rfl k) ?_
              show own_Ends _ _ _ _ (T243.setTop (mkF m 85 #[.val (.ref a0r), .val (.int (Int32.ofNat st)), .val (.int p2), .val (.int (Int32.ofNat fr)), .val (.int (Int32.ofNat (fr + 1))), .val (.int (Int32.ofNat to))] [(.int (Int32.ofNat (fr + 1)))]))
              refine own_pre (fun t k => XS.iconst X243.here hx rfl (hb hby own_d5_85) k) ?_
              show own_Ends _ _ _ _ (T243.setTop (mkF m 86 #[.val (.ref a0r), .val (.int (Int32.ofNat st)), .val (.int p2), .val (.int (Int32.ofNat fr)), .val (.int (Int32.ofNat (fr + 1))), .val (.int (Int32.ofNat to))] [(.int (1 : Int32)), (.int (Int32.ofNat (fr + 1)))]))
              refine own_pre (fun t k => XS.ishr X243.here hx rfl (hb hby own_d5_86) rfl k) ?_
              show own_Ends _ _ _ _ (T243.setTop (mkF m 87 #[.val (.ref a0r), .val (.int (Int32.ofNat st)), .val (.int p2), .val (.int (Int32.ofNat fr)), .val (.int (Int32.ofNat (fr + 1))), .val (.int (Int32.ofNat to))] [(.int ((Int32.ofNat (fr + 1)) >>> ((1 : Int32) &&& 31)))]))
              refine own_pre (fun t k => XS.istore X243.here hx rfl (hb hby own_d5_87) rfl (l' := #[.val (.ref a0r), .val (.int (Int32.ofNat st)), .val (.int p2), .val (.int (Int32.ofNat fr)), .val (.int ((Int32.ofNat (fr + 1)) >>> ((1 : Int32) &&& 31))), .val (.int (Int32.ofNat to))]) rfl k) ?_
              show own_Ends _ _ _ _ (T243.setTop (mkF m 89 #[.val (.ref a0r), .val (.int (Int32.ofNat st)), .val (.int p2), .val (.int (Int32.ofNat fr)), .val (.int ((Int32.ofNat (fr + 1)) >>> ((1 : Int32) &&& 31))), .val (.int (Int32.ofNat to))] []))
              refine own_pre (fun t k => XS.iload X243.here hx rfl (hb hby own_d5_89) rfl k) ?_
              show own_Ends _ _ _ _ (T243.setTop (mkF m 91 #[.val (.ref a0r), .val (.int (Int32.ofNat st)), .val (.int p2), .val (.int (Int32.ofNat fr)), .val (.int ((Int32.ofNat (fr + 1)) >>> ((1 : Int32) &&& 31))), .val (.int (Int32.ofNat to))] [(.int (Int32.ofNat to))]))
              refine own_pre (fun t k => XS.iconst X243.here hx rfl (hb hby own_d5_91) k) ?_
              show own_Ends _ _ _ _ (T243.setTop (mkF m 92 #[.val (.ref a0r), .val (.int (Int32.ofNat st)), .val (.int p2), .val (.int (Int32.ofNat fr)), .val (.int ((Int32.ofNat (fr + 1)) >>> ((1 : Int32) &&& 31))), .val (.int (Int32.ofNat to))] [(.int (1 : Int32)), (.int (Int32.ofNat to))]))
              refine own_pre (fun t k => XS.ishr X243.here hx rfl (hb hby own_d5_92) rfl k) ?_
              show own_Ends _ _ _ _ (T243.setTop (mkF m 93 #[.val (.ref a0r), .val (.int (Int32.ofNat st)), .val (.int p2), .val (.int (Int32.ofNat fr)), .val (.int ((Int32.ofNat (fr + 1)) >>> ((1 : Int32) &&& 31))), .val (.int (Int32.ofNat to))] [(.int ((Int32.ofNat to) >>> ((1 : Int32) &&& 31)))]))
              refine own_pre (fun t k => XS.istore X243.here hx rfl (hb hby own_d5_93) rfl (l' := #[.val (.ref a0r), .val (.int (Int32.ofNat st)), .val (.int p2), .val (.int (Int32.ofNat fr)), .val (.int ((Int32.ofNat (fr + 1)) >>> ((1 : Int32) &&& 31))), .val (.int ((Int32.ofNat to) >>> ((1 : Int32) &&& 31)))]) rfl k) ?_
              show own_Ends _ _ _ _ (T243.setTop (mkF m 95 #[.val (.ref a0r), .val (.int (Int32.ofNat st)), .val (.int p2), .val (.int (Int32.ofNat fr)), .val (.int ((Int32.ofNat (fr + 1)) >>> ((1 : Int32) &&& 31))), .val (.int ((Int32.ofNat to) >>> ((1 : Int32) &&& 31)))] []))
              refine own_pre (fun t k => XS.goto X243.here hx rfl (pc0 := 95) (pc' := 23) rfl (hb hby own_d5_95) (by decide) (by decide) k) ?_
              show own_Ends _ _ _ _ (T243.setTop (mkF m 23 #[.val (.ref a0r), .val (.int (Int32.ofNat st)), .val (.int p2), .val (.int (Int32.ofNat fr)), .val (.int ((Int32.ofNat (fr + 1)) >>> ((1 : Int32) &&& 31))), .val (.int ((Int32.ofNat to) >>> ((1 : Int32) &&& 31)))] []))
              rw [own_half (by omega), own_half (by omega)]
              exact ih ((fr + 1) / 2) (to / 2) _ _ _ X243 e243 NN (by rw [Nat.pow_succ] at hf; omega) (by omega) (by omega) (by omega) (by omega) (by rw [← hres]; exact (own_upGo hlt (fr' := ((fr + 1) / 2)) (to' := (to / 2)) (node' := (Int32.ofNat fr)) (own_oddNo ho hc245) (Or.inr ⟨ht, rfl⟩)).symm)
        · skip
          have ho : ¬ fr % 2 = 1 := fun q => hc242 ((own_odd (by omega)).mpr q)
          refine own_pre (fun t k => XS.icmpYes XX.here hx rfl (pc0 := 35) (pc' := 55) rfl (hb hby own_d5_35) rfl (feq hc242).2 (by decide) (by decide) k) ?_
          show own_Ends _ _ _ _ (TT.setTop (mkF m 55 #[.val (.ref a0r), .val (.int (Int32.ofNat st)), .val (.int p2), .val (.int node), .val (.int (Int32.ofNat fr)), .val (.int (Int32.ofNat to))] []))
          refine own_pre (fun t k => XS.iload XX.here hx rfl (hb hby own_d5_55) rfl k) ?_
          show own_Ends _ _ _ _ (TT.setTop (mkF m 57 #[.val (.ref a0r), .val (.int (Int32.ofNat st)), .val (.int p2), .val (.int node), .val (.int (Int32.ofNat fr)), .val (.int (Int32.ofNat to))] [(.int (Int32.ofNat to))]))
          refine own_pre (fun t k => XS.iconst XX.here hx rfl (hb hby own_d5_57) k) ?_
          show own_Ends _ _ _ _ (TT.setTop (mkF m 58 #[.val (.ref a0r), .val (.int (Int32.ofNat st)), .val (.int p2), .val (.int node), .val (.int (Int32.ofNat fr)), .val (.int (Int32.ofNat to))] [(.int (1 : Int32)), (.int (Int32.ofNat to))]))
          refine own_pre (fun t k => XS.iand XX.here hx rfl (hb hby own_d5_58) rfl k) ?_
          show own_Ends _ _ _ _ (TT.setTop (mkF m 59 #[.val (.ref a0r), .val (.int (Int32.ofNat st)), .val (.int p2), .val (.int node), .val (.int (Int32.ofNat fr)), .val (.int (Int32.ofNat to))] [(.int ((Int32.ofNat to) &&& (1 : Int32)))]))
          refine own_pre (fun t k => XS.iconst XX.here hx rfl (hb hby own_d5_59) k) ?_
          show own_Ends _ _ _ _ (TT.setTop (mkF m 60 #[.val (.ref a0r), .val (.int (Int32.ofNat st)), .val (.int p2), .val (.int node), .val (.int (Int32.ofNat fr)), .val (.int (Int32.ofNat to))] [(.int (1 : Int32)), (.int ((Int32.ofNat to) &&& (1 : Int32)))]))
          by_cases hc254 : ((Int32.ofNat to) &&& (1 : Int32)) = (1 : Int32)
          · skip
            have ht : to % 2 = 1 := (own_odd (by omega)).mp hc254
            refine own_pre (fun t k => XS.icmpNo XX.here hx rfl (hb hby own_d5_60) rfl (teq hc254).2 k) ?_
            show own_Ends _ _ _ _ (TT.setTop (mkF m 63 #[.val (.ref a0r), .val (.int (Int32.ofNat st)), .val (.int p2), .val (.int node), .val (.int (Int32.ofNat fr)), .val (.int (Int32.ofNat to))] []))
            refine own_pre (fun t k => XS.aloadN XX.here hx rfl (hb hby own_d5_63) rfl rfl k) ?_
            show own_Ends _ _ _ _ (TT.setTop (mkF m 64 #[.val (.ref a0r), .val (.int (Int32.ofNat st)), .val (.int p2), .val (.int node), .val (.int (Int32.ofNat fr)), .val (.int (Int32.ofNat to))] [(.ref a0r)]))
            obtain ⟨T255, X255, e255, st255⟩ := getF XX hx hZ hown (host := "") (Or.inl (hw _ (List.mem_of_getElem? (i := 26) rfl))) Via.refl eT F_least (g := (mkF m 64 #[.val (.ref a0r), .val (.int (Int32.ofNat st)), .val (.int p2), .val (.int node), .val (.int (Int32.ofNat fr)), .val (.int (Int32.ofNat to))] [(.ref a0r)])) rfl rfl (hb hby own_d5_64)
            refine own_pre st255 ?_
            show own_Ends _ _ _ _ (T255.setTop (mkF m 67 #[.val (.ref a0r), .val (.int (Int32.ofNat st)), .val (.int p2), .val (.int node), .val (.int (Int32.ofNat fr)), .val (.int (Int32.ofNat to))] [(.ref b)]))
            refine own_pre (fun t k => XS.iinc X255.here hx rfl (hb hby own_d5_67) rfl (l' := #[.val (.ref a0r), .val (.int (Int32.ofNat st)), .val (.int p2), .val (.int node), .val (.int (Int32.ofNat fr)), .val (.int ((Int32.ofNat to) + (-1 : Int32)))]) rfl k) ?_
            show own_Ends _ _ _ _ (T255.setTop (mkF m 70 #[.val (.ref a0r), .val (.int (Int32.ofNat st)), .val (.int p2), .val (.int node), .val (.int (Int32.ofNat fr)), .val (.int ((Int32.ofNat to) + (-1 : Int32)))] [(.ref b)]))
            rw [own_minus1 (by omega)]
            show own_Ends _ _ _ _ (T255.setTop (mkF m 70 #[.val (.ref a0r), .val (.int (Int32.ofNat st)), .val (.int p2), .val (.int node), .val (.int (Int32.ofNat fr)), .val (.int (Int32.ofNat (to - 1)))] [(.ref b)]))
            refine own_pre (fun t k => XS.iload X255.here hx rfl (hb hby own_d5_70) rfl k) ?_
            show own_Ends _ _ _ _ (T255.setTop (mkF m 72 #[.val (.ref a0r), .val (.int (Int32.ofNat st)), .val (.int p2), .val (.int node), .val (.int (Int32.ofNat fr)), .val (.int (Int32.ofNat (to - 1)))] [(.int (Int32.ofNat (to - 1))), (.ref b)]))
            obtain ⟨cl256, Ar256, qc256, S256, M256, H256, G256⟩ := id (VB)
            have hin256 : ¬ ((Int32.ofNat (to - 1)) < 0 ∨ cl256.slots.size ≤ ((Int32.ofNat (to - 1))).toNatClampNeg) := inb_of S256 (own_inN (by omega) (show to - 1 < 2 * n by omega))
            have hat256 : cl256.slots[((Int32.ofNat (to - 1))).toNatClampNeg]? = some (.int (own_lv n mk (to - 1))) := H256.at hin256 (by rw [own_clamp (by omega)]; exact hvs _ (by omega) (by omega))
            refine own_pre (fun t k => X255.iaload hx (j := (Int32.ofNat (to - 1))) (v := (.int (own_lv n mk (to - 1)))) (by rw [e255]; exact Ar256.1) (State.isArrayOf_alike hZ.alike Ar256.2.1) Ar256.2.2 hin256 hat256 (g := (mkF m 72 #[.val (.ref a0r), .val (.int (Int32.ofNat st)), .val (.int p2), .val (.int node), .val (.int (Int32.ofNat fr)), .val (.int (Int32.ofNat (to - 1)))] [(.int (Int32.ofNat (to - 1))), (.ref b)])) rfl rfl (hb hby own_d5_72) _ k) ?_
            show own_Ends _ _ _ _ (T255.setTop (mkF m 73 #[.val (.ref a0r), .val (.int (Int32.ofNat st)), .val (.int p2), .val (.int node), .val (.int (Int32.ofNat fr)), .val (.int (Int32.ofNat (to - 1)))] [(.int (own_lv n mk (to - 1)))]))
            refine own_pre (fun t k => XS.iloadN X255.here hx rfl (hb hby own_d5_73) rfl k) ?_
            show own_Ends _ _ _ _ (T255.setTop (mkF m 74 #[.val (.ref a0r), .val (.int (Int32.ofNat st)), .val (.int p2), .val (.int node), .val (.int (Int32.ofNat fr)), .val (.int (Int32.ofNat (to - 1)))] [(.int p2), (.int (own_lv n mk (to - 1)))]))
            by_cases hc257 : p2 < (own_lv n mk (to - 1))
            · skip
              refine own_pre (fun t k => XS.icmpYes X255.here hx rfl (pc0 := 74) (pc' := 83) rfl (hb hby own_d5_74) rfl (tlt hc257).2.2.1 (by decide) (by decide) k) ?_
              show own_Ends _ _ _ _ (T255.setTop (mkF m 83 #[.val (.ref a0r), .val (.int (Int32.ofNat st)), .val (.int p2), .val (.int node), .val (.int (Int32.ofNat fr)), .val (.int (Int32.ofNat (to - 1)))] []))
              refine own_pre (fun t k => XS.iload X255.here hx rfl (hb hby own_d5_83) rfl k) ?_
              show own_Ends _ _ _ _ (T255.setTop (mkF m 85 #[.val (.ref a0r), .val (.int (Int32.ofNat st)), .val (.int p2), .val (.int node), .val (.int (Int32.ofNat fr)), .val (.int (Int32.ofNat (to - 1)))] [(.int (Int32.ofNat fr))]))
              refine own_pre (fun t k => XS.iconst X255.here hx rfl (hb hby own_d5_85) k) ?_
              show own_Ends _ _ _ _ (T255.setTop (mkF m 86 #[.val (.ref a0r), .val (.int (Int32.ofNat st)), .val (.int p2), .val (.int node), .val (.int (Int32.ofNat fr)), .val (.int (Int32.ofNat (to - 1)))] [(.int (1 : Int32)), (.int (Int32.ofNat fr))]))
              refine own_pre (fun t k => XS.ishr X255.here hx rfl (hb hby own_d5_86) rfl k) ?_
              show own_Ends _ _ _ _ (T255.setTop (mkF m 87 #[.val (.ref a0r), .val (.int (Int32.ofNat st)), .val (.int p2), .val (.int node), .val (.int (Int32.ofNat fr)), .val (.int (Int32.ofNat (to - 1)))] [(.int ((Int32.ofNat fr) >>> ((1 : Int32) &&& 31)))]))
              refine own_pre (fun t k => XS.istore X255.here hx rfl (hb hby own_d5_87) rfl (l' := #[.val (.ref a0r), .val (.int (Int32.ofNat st)), .val (.int p2), .val (.int node), .val (.int ((Int32.ofNat fr) >>> ((1 : Int32) &&& 31))), .val (.int (Int32.ofNat (to - 1)))]) rfl k) ?_
              show own_Ends _ _ _ _ (T255.setTop (mkF m 89 #[.val (.ref a0r), .val (.int (Int32.ofNat st)), .val (.int p2), .val (.int node), .val (.int ((Int32.ofNat fr) >>> ((1 : Int32) &&& 31))), .val (.int (Int32.ofNat (to - 1)))] []))
              refine own_pre (fun t k => XS.iload X255.here hx rfl (hb hby own_d5_89) rfl k) ?_
              show own_Ends _ _ _ _ (T255.setTop (mkF m 91 #[.val (.ref a0r), .val (.int (Int32.ofNat st)), .val (.int p2), .val (.int node), .val (.int ((Int32.ofNat fr) >>> ((1 : Int32) &&& 31))), .val (.int (Int32.ofNat (to - 1)))] [(.int (Int32.ofNat (to - 1)))]))
              refine own_pre (fun t k => XS.iconst X255.here hx rfl (hb hby own_d5_91) k) ?_
              show own_Ends _ _ _ _ (T255.setTop (mkF m 92 #[.val (.ref a0r), .val (.int (Int32.ofNat st)), .val (.int p2), .val (.int node), .val (.int ((Int32.ofNat fr) >>> ((1 : Int32) &&& 31))), .val (.int (Int32.ofNat (to - 1)))] [(.int (1 : Int32)), (.int (Int32.ofNat (to - 1)))]))
              refine own_pre (fun t k => XS.ishr X255.here hx rfl (hb hby own_d5_92) rfl k) ?_
              show own_Ends _ _ _ _ (T255.setTop (mkF m 93 #[.val (.ref a0r), .val (.int (Int32.ofNat st)), .val (.int p2), .val (.int node), .val (.int ((Int32.ofNat fr) >>> ((1 : Int32) &&& 31))), .val (.int (Int32.ofNat (to - 1)))] [(.int ((Int32.ofNat (to - 1)) >>> ((1 : Int32) &&& 31)))]))
              refine own_pre (fun t k => XS.istore X255.here hx rfl (hb hby own_d5_93) rfl (l' := #[.val (.ref a0r), .val (.int (Int32.ofNat st)), .val (.int p2), .val (.int node), .val (.int ((Int32.ofNat fr) >>> ((1 : Int32) &&& 31))), .val (.int ((Int32.ofNat (to - 1)) >>> ((1 : Int32) &&& 31)))]) rfl k) ?_
              show own_Ends _ _ _ _ (T255.setTop (mkF m 95 #[.val (.ref a0r), .val (.int (Int32.ofNat st)), .val (.int p2), .val (.int node), .val (.int ((Int32.ofNat fr) >>> ((1 : Int32) &&& 31))), .val (.int ((Int32.ofNat (to - 1)) >>> ((1 : Int32) &&& 31)))] []))
              refine own_pre (fun t k => XS.goto X255.here hx rfl (pc0 := 95) (pc' := 23) rfl (hb hby own_d5_95) (by decide) (by decide) k) ?_
              show own_Ends _ _ _ _ (T255.setTop (mkF m 23 #[.val (.ref a0r), .val (.int (Int32.ofNat st)), .val (.int p2), .val (.int node), .val (.int ((Int32.ofNat fr) >>> ((1 : Int32) &&& 31))), .val (.int ((Int32.ofNat (to - 1)) >>> ((1 : Int32) &&& 31)))] []))
              rw [own_half (by omega), own_half (by omega)]
              exact ih (fr / 2) ((to - 1) / 2) _ _ _ X255 e255 NN (by rw [Nat.pow_succ] at hf; omega) (by omega) (by omega) (by omega) (by omega) (by rw [← hres]; exact (own_upGo hlt (fr' := (fr / 2)) (to' := ((to - 1) / 2)) (node' := node) (own_even ho) (Or.inl ⟨ht, rfl, hc257⟩)).symm)
            · skip
              refine own_pre (fun t k => XS.icmpNo X255.here hx rfl (hb hby own_d5_74) rfl (flt hc257).2.2.1 k) ?_
              show own_Ends _ _ _ _ (T255.setTop (mkF m 77 #[.val (.ref a0r), .val (.int (Int32.ofNat st)), .val (.int p2), .val (.int node), .val (.int (Int32.ofNat fr)), .val (.int (Int32.ofNat (to - 1)))] []))
              refine own_pre (fun t k => XS.iload X255.here hx rfl (hb hby own_d5_77) rfl k) ?_
              show own_Ends _ _ _ _ (T255.setTop (mkF m 79 #[.val (.ref a0r), .val (.int (Int32.ofNat st)), .val (.int p2), .val (.int node), .val (.int (Int32.ofNat fr)), .val (.int (Int32.ofNat (to - 1)))] [(.int (Int32.ofNat (to - 1)))]))
              refine own_pre (fun t k => XS.istoreN X255.here hx rfl (hb hby own_d5_79) rfl (l' := #[.val (.ref a0r), .val (.int (Int32.ofNat st)), .val (.int p2), .val (.int (Int32.ofNat (to - 1))), .val (.int (Int32.ofNat fr)), .val (.int (Int32.ofNat (to - 1)))]) rfl k) ?_
              show own_Ends _ _ _ _ (T255.setTop (mkF m 80 #[.val (.ref a0r), .val (.int (Int32.ofNat st)), .val (.int p2), .val (.int (Int32.ofNat (to - 1))), .val (.int (Int32.ofNat fr)), .val (.int (Int32.ofNat (to - 1)))] []))
              refine own_pre (fun t k => XS.goto X255.here hx rfl (pc0 := 80) (pc' := 98) rfl (hb hby own_d5_80) (by decide) (by decide) k) ?_
              show own_Ends _ _ _ _ (T255.setTop (mkF m 98 #[.val (.ref a0r), .val (.int (Int32.ofNat st)), .val (.int p2), .val (.int (Int32.ofNat (to - 1))), .val (.int (Int32.ofNat fr)), .val (.int (Int32.ofNat (to - 1)))] []))
              have hz : (Int32.ofNat (to - 1)) = (own_up (fun i => decide (¬ p2 < own_lv n mk i)) 4 n (pos + 1 + n) (-1)) := by rw [← hres]; exact (own_upBreak hlt ht hc257).symm
              rw [hz]
              exact J98 _ _ _ _ X255 e255 NN
          · skip
            have ht : ¬ to % 2 = 1 := fun q => hc254 ((own_odd (by omega)).mpr q)
            refine own_pre (fun t k => XS.icmpYes XX.here hx rfl (pc0 := 60) (pc' := 83) rfl (hb hby own_d5_60) rfl (feq hc254).2 (by decide) (by decide) k) ?_
            show own_Ends _ _ _ _ (TT.setTop (mkF m 83 #[.val (.ref a0r), .val (.int (Int32.ofNat st)), .val (.int p2), .val (.int node), .val (.int (Int32.ofNat fr)), .val (.int (Int32.ofNat to))] []))
            refine own_pre (fun t k => XS.iload XX.here hx rfl (hb hby own_d5_83) rfl k) ?_
            show own_Ends _ _ _ _ (TT.setTop (mkF m 85 #[.val (.ref a0r), .val (.int (Int32.ofNat st)), .val (.int p2), .val (.int node), .val (.int (Int32.ofNat fr)), .val (.int (Int32.ofNat to))] [(.int (Int32.ofNat fr))]))
            refine own_pre (fun t k => XS.iconst XX.here hx rfl (hb hby own_d5_85) k) ?_
            show own_Ends _ _ _ _ (TT.setTop (mkF m 86 #[.val (.ref a0r), .val (.int (Int32.ofNat st)), .val (.int p2), .val (.int node), .val (.int (Int32.ofNat fr)), .val (.int (Int32.ofNat to))] [(.int (1 : Int32)), (.int (Int32.ofNat fr))]))
            refine own_pre (fun t k => XS.ishr XX.here hx rfl (hb hby own_d5_86) rfl k) ?_
            show own_Ends _ _ _ _ (TT.setTop (mkF m 87 #[.val (.ref a0r), .val (.int (Int32.ofNat st)), .val (.int p2), .val (.int node), .val (.int (Int32.ofNat fr)), .val (.int (Int32.ofNat to))] [(.int ((Int32.ofNat fr) >>> ((1 : Int32) &&& 31)))]))
            refine own_pre (fun t k => XS.istore XX.here hx rfl (hb hby own_d5_87) rfl (l' := #[.val (.ref a0r), .val (.int (Int32.ofNat st)), .val (.int p2), .val (.int node), .val (.int ((Int32.ofNat fr) >>> ((1 : Int32) &&& 31))), .val (.int (Int32.ofNat to))]) rfl k) ?_
            show own_Ends _ _ _ _ (TT.setTop (mkF m 89 #[.val (.ref a0r), .val (.int (Int32.ofNat st)), .val (.int p2), .val (.int node), .val (.int ((Int32.ofNat fr) >>> ((1 : Int32) &&& 31))), .val (.int (Int32.ofNat to))] []))
            refine own_pre (fun t k => XS.iload XX.here hx rfl (hb hby own_d5_89) rfl k) ?_
            show own_Ends _ _ _ _ (TT.setTop (mkF m 91 #[.val (.ref a0r), .val (.int (Int32.ofNat st)), .val (.int p2), .val (.int node), .val (.int ((Int32.ofNat fr) >>> ((1 : Int32) &&& 31))), .val (.int (Int32.ofNat to))] [(.int (Int32.ofNat to))]))
            refine own_pre (fun t k => XS.iconst XX.here hx rfl (hb hby own_d5_91) k) ?_
            show own_Ends _ _ _ _ (TT.setTop (mkF m 92 #[.val (.ref a0r), .val (.int (Int32.ofNat st)), .val (.int p2), .val (.int node), .val (.int ((Int32.ofNat fr) >>> ((1 : Int32) &&& 31))), .val (.int (Int32.ofNat to))] [(.int (1 : Int32)), (.int (Int32.ofNat to))]))
            refine own_pre (fun t k => XS.ishr XX.here hx rfl (hb hby own_d5_92) rfl k) ?_
            show own_Ends _ _ _ _ (TT.setTop (mkF m 93 #[.val (.ref a0r), .val (.int (Int32.ofNat st)), .val (.int p2), .val (.int node), .val (.int ((Int32.ofNat fr) >>> ((1 : Int32) &&& 31))), .val (.int (Int32.ofNat to))] [(.int ((Int32.ofNat to) >>> ((1 : Int32) &&& 31)))]))
            refine own_pre (fun t k => XS.istore XX.here hx rfl (hb hby own_d5_93) rfl (l' := #[.val (.ref a0r), .val (.int (Int32.ofNat st)), .val (.int p2), .val (.int node), .val (.int ((Int32.ofNat fr) >>> ((1 : Int32) &&& 31))), .val (.int ((Int32.ofNat to) >>> ((1 : Int32) &&& 31)))]) rfl k) ?_
            show own_Ends _ _ _ _ (TT.setTop (mkF m 95 #[.val (.ref a0r), .val (.int (Int32.ofNat st)), .val (.int p2), .val (.int node), .val (.int ((Int32.ofNat fr) >>> ((1 : Int32) &&& 31))), .val (.int ((Int32.ofNat to) >>> ((1 : Int32) &&& 31)))] []))
            refine own_pre (fun t k => XS.goto XX.here hx rfl (pc0 := 95) (pc' := 23) rfl (hb hby own_d5_95) (by decide) (by decide) k) ?_
            show own_Ends _ _ _ _ (TT.setTop (mkF m 23 #[.val (.ref a0r), .val (.int (Int32.ofNat st)), .val (.int p2), .val (.int node), .val (.int ((Int32.ofNat fr) >>> ((1 : Int32) &&& 31))), .val (.int ((Int32.ofNat to) >>> ((1 : Int32) &&& 31)))] []))
            rw [own_half (by omega), own_half (by omega)]
            exact ih (fr / 2) (to / 2) _ _ _ XX eT NN (by rw [Nat.pow_succ] at hf; omega) (by omega) (by omega) (by omega) (by omega) (by rw [← hres]; exact (own_upGo hlt (fr' := (fr / 2)) (to' := (to / 2)) (node' := node) (own_even ho) (Or.inr ⟨ht, rfl⟩)).symm)
      · skip
        have hlt : ¬ fr < to := fun q => hc241 ((own_ltN (by omega) (by omega)).mpr q)
        refine own_pre (fun t k => XS.icmpYes XX.here hx rfl (pc0 := 27) (pc' := 98) rfl (hb hby own_d5_27) rfl (flt hc241).2.1 (by decide) (by decide) k) ?_
        show own_Ends _ _ _ _ (TT.setTop (mkF m 98 #[.val (.ref a0r), .val (.int (Int32.ofNat st)), .val (.int p2), .val (.int node), .val (.int (Int32.ofNat fr)), .val (.int (Int32.ofNat to))] []))
        have hz : node = (own_up (fun i => decide (¬ p2 < own_lv n mk i)) 4 n (pos + 1 + n) (-1)) := by rw [← hres]; exact (own_upEnd hlt).symm
        rw [hz]
        exact J98 _ _ _ _ XX eT NN
  show own_Ends _ _ _ _ (s₁.setTop (mkF m 0 #[.val (.ref a0r), .val (.int (Int32.ofNat st)), .val (.int p2), .unset, .unset, .unset] []))
  refine own_pre (fun t k => XS.iconst X0.here hx rfl (hb hby own_d5_0) k) ?_
  show own_Ends _ _ _ _ (s₁.setTop (mkF m 1 #[.val (.ref a0r), .val (.int (Int32.ofNat st)), .val (.int p2), .unset, .unset, .unset] [(.int (-1 : Int32))]))
  refine own_pre (fun t k => XS.istoreN X0.here hx rfl (hb hby own_d5_1) rfl (l' := #[.val (.ref a0r), .val (.int (Int32.ofNat st)), .val (.int p2), .val (.int (-1 : Int32)), .unset, .unset]) rfl k) ?_
  show own_Ends _ _ _ _ (s₁.setTop (mkF m 2 #[.val (.ref a0r), .val (.int (Int32.ofNat st)), .val (.int p2), .val (.int (-1 : Int32)), .unset, .unset] []))
  refine own_pre (fun t k => XS.aloadN X0.here hx rfl (hb hby own_d5_2) rfl rfl k) ?_
  show own_Ends _ _ _ _ (s₁.setTop (mkF m 3 #[.val (.ref a0r), .val (.int (Int32.ofNat st)), .val (.int p2), .val (.int (-1 : Int32)), .unset, .unset] [(.ref a0r)]))
  obtain ⟨T258, X258, e258, st258⟩ := getF X0 hx hZ hown (host := "") (Or.inl (hw _ (List.mem_of_getElem? (i := 22) rfl))) Via.refl e0 F_leaves (g := (mkF m 3 #[.val (.ref a0r), .val (.int (Int32.ofNat st)), .val (.int p2), .val (.int (-1 : Int32)), .unset, .unset] [(.ref a0r)])) rfl rfl (hb hby own_d5_3)
  refine own_pre st258 ?_
  show own_Ends _ _ _ _ (T258.setTop (mkF m 6 #[.val (.ref a0r), .val (.int (Int32.ofNat st)), .val (.int p2), .val (.int (-1 : Int32)), .unset, .unset] [(.int (Int32.ofNat n))]))
  refine own_pre (fun t k => XS.istore X258.here hx rfl (hb hby own_d5_6) rfl (l' := #[.val (.ref a0r), .val (.int (Int32.ofNat st)), .val (.int p2), .val (.int (-1 : Int32)), .val (.int (Int32.ofNat n)), .unset]) rfl k) ?_
  show own_Ends _ _ _ _ (T258.setTop (mkF m 8 #[.val (.ref a0r), .val (.int (Int32.ofNat st)), .val (.int p2), .val (.int (-1 : Int32)), .val (.int (Int32.ofNat n)), .unset] []))
  refine own_pre (fun t k => XS.aloadN X258.here hx rfl (hb hby own_d5_8) rfl rfl k) ?_
  show own_Ends _ _ _ _ (T258.setTop (mkF m 9 #[.val (.ref a0r), .val (.int (Int32.ofNat st)), .val (.int p2), .val (.int (-1 : Int32)), .val (.int (Int32.ofNat n)), .unset] [(.ref a0r)]))
  obtain ⟨T259, X259, e259, st259⟩ := getF X258 hx hZ hown (host := "") (Or.inl (hw _ (List.mem_of_getElem? (i := 20) rfl))) Via.refl e258 F_position (g := (mkF m 9 #[.val (.ref a0r), .val (.int (Int32.ofNat st)), .val (.int p2), .val (.int (-1 : Int32)), .val (.int (Int32.ofNat n)), .unset] [(.ref a0r)])) rfl rfl (hb hby own_d5_9)
  refine own_pre st259 ?_
  show own_Ends _ _ _ _ (T259.setTop (mkF m 12 #[.val (.ref a0r), .val (.int (Int32.ofNat st)), .val (.int p2), .val (.int (-1 : Int32)), .val (.int (Int32.ofNat n)), .unset] [(.ref r2)]))
  refine own_pre (fun t k => XS.iloadN X259.here hx rfl (hb hby own_d5_12) rfl k) ?_
  show own_Ends _ _ _ _ (T259.setTop (mkF m 13 #[.val (.ref a0r), .val (.int (Int32.ofNat st)), .val (.int p2), .val (.int (-1 : Int32)), .val (.int (Int32.ofNat n)), .unset] [(.int (Int32.ofNat st)), (.ref r2)]))
  obtain ⟨cl260, Ar260, qc260, S260, M260, H260, G260⟩ := id (V2)
  have hin260 : ¬ ((Int32.ofNat st) < 0 ∨ cl260.slots.size ≤ ((Int32.ofNat st)).toNatClampNeg) := inb_of S260 (own_inN (by omega) hst)
  have hat260 : cl260.slots[((Int32.ofNat st)).toNatClampNeg]? = some (.int (Int32.ofNat pos)) := H260.at hin260 (by rw [own_clamp (by omega)]; exact hvp)
  refine own_pre (fun t k => X259.iaload hx (j := (Int32.ofNat st)) (v := (.int (Int32.ofNat pos))) (by rw [e259]; exact Ar260.1) (State.isArrayOf_alike hZ.alike Ar260.2.1) Ar260.2.2 hin260 hat260 (g := (mkF m 13 #[.val (.ref a0r), .val (.int (Int32.ofNat st)), .val (.int p2), .val (.int (-1 : Int32)), .val (.int (Int32.ofNat n)), .unset] [(.int (Int32.ofNat st)), (.ref r2)])) rfl rfl (hb hby own_d5_13) _ k) ?_
  show own_Ends _ _ _ _ (T259.setTop (mkF m 14 #[.val (.ref a0r), .val (.int (Int32.ofNat st)), .val (.int p2), .val (.int (-1 : Int32)), .val (.int (Int32.ofNat n)), .unset] [(.int (Int32.ofNat pos))]))
  refine own_pre (fun t k => XS.iconst X259.here hx rfl (hb hby own_d5_14) k) ?_
  show own_Ends _ _ _ _ (T259.setTop (mkF m 15 #[.val (.ref a0r), .val (.int (Int32.ofNat st)), .val (.int p2), .val (.int (-1 : Int32)), .val (.int (Int32.ofNat n)), .unset] [(.int (1 : Int32)), (.int (Int32.ofNat pos))]))
  refine own_pre (fun t k => XS.iadd X259.here hx rfl (hb hby own_d5_15) rfl k) ?_
  show own_Ends _ _ _ _ (T259.setTop (mkF m 16 #[.val (.ref a0r), .val (.int (Int32.ofNat st)), .val (.int p2), .val (.int (-1 : Int32)), .val (.int (Int32.ofNat n)), .unset] [(.int ((Int32.ofNat pos) + (1 : Int32)))]))
  refine own_pre (fun t k => XS.aloadN X259.here hx rfl (hb hby own_d5_16) rfl rfl k) ?_
  show own_Ends _ _ _ _ (T259.setTop (mkF m 17 #[.val (.ref a0r), .val (.int (Int32.ofNat st)), .val (.int p2), .val (.int (-1 : Int32)), .val (.int (Int32.ofNat n)), .unset] [(.ref a0r), (.int ((Int32.ofNat pos) + (1 : Int32)))]))
  obtain ⟨T261, X261, e261, st261⟩ := getF X259 hx hZ hown (host := "") (Or.inl (hw _ (List.mem_of_getElem? (i := 22) rfl))) Via.refl e259 F_leaves (g := (mkF m 17 #[.val (.ref a0r), .val (.int (Int32.ofNat st)), .val (.int p2), .val (.int (-1 : Int32)), .val (.int (Int32.ofNat n)), .unset] [(.ref a0r), (.int ((Int32.ofNat pos) + (1 : Int32)))])) rfl rfl (hb hby own_d5_17)
  refine own_pre st261 ?_
  show own_Ends _ _ _ _ (T261.setTop (mkF m 20 #[.val (.ref a0r), .val (.int (Int32.ofNat st)), .val (.int p2), .val (.int (-1 : Int32)), .val (.int (Int32.ofNat n)), .unset] [(.int (Int32.ofNat n)), (.int ((Int32.ofNat pos) + (1 : Int32)))]))
  refine own_pre (fun t k => XS.iadd X261.here hx rfl (hb hby own_d5_20) rfl k) ?_
  show own_Ends _ _ _ _ (T261.setTop (mkF m 21 #[.val (.ref a0r), .val (.int (Int32.ofNat st)), .val (.int p2), .val (.int (-1 : Int32)), .val (.int (Int32.ofNat n)), .unset] [(.int (((Int32.ofNat pos) + (1 : Int32)) + (Int32.ofNat n)))]))
  refine own_pre (fun t k => XS.istore X261.here hx rfl (hb hby own_d5_21) rfl (l' := #[.val (.ref a0r), .val (.int (Int32.ofNat st)), .val (.int p2), .val (.int (-1 : Int32)), .val (.int (Int32.ofNat n)), .val (.int (((Int32.ofNat pos) + (1 : Int32)) + (Int32.ofNat n)))]) rfl k) ?_
  show own_Ends _ _ _ _ (T261.setTop (mkF m 23 #[.val (.ref a0r), .val (.int (Int32.ofNat st)), .val (.int p2), .val (.int (-1 : Int32)), .val (.int (Int32.ofNat n)), .val (.int (((Int32.ofNat pos) + (1 : Int32)) + (Int32.ofNat n)))] []))
  rw [own_to]
  exact LU 4 n (pos + 1 + n) _ _ _ X261 e261 N0 (by omega) (by omega) h1 hn (by omega) rfl
theorem own_pd1 : parseMethodDescriptor "([I[I[I[IIII)V" = some ⟨[(.array .int), (.array .int), (.array .int), (.array .int), .int, .int, .int], none⟩ := by decide +kernel
theorem own_pd2 : parseMethodDescriptor "([I[I[I)V" = some ⟨[(.array .int), (.array .int), (.array .int)], none⟩ := by decide +kernel
theorem own_ef_rm0 (m : MethodId) (x0 : Int32) (x1 : Int32) (x2 : Int32) (x3 : Int32) : entryFrame m #[(.int x0), (.int x1), (.int x2), (.int x3)] maxLocals = mkF m 0 #[.val (.int x0), .val (.int x1), .val (.int x2), .val (.int x3), .unset, .unset, .unset, .unset, .unset, .unset, .unset, .unset, .unset, .unset, .unset, .unset] [] := by first | (simp [entryFrame, mkF, argsToLocals, Value.category, maxLocals]; done) | rfl
def own_Q_rm0 (Z : State) (p0 : Int32) (p1 : Int32) (p2 : Int32) (p3 : Int32) (h0 : Heap) (n0 : Nat) (v : Option Value) (h : Heap) (L : List Loc) : Prop := v = some (.int 1) ∧ Fr n0 L
set_option maxRecDepth 65536 in
set_option maxHeartbeats 40000000 in
theorem rm0 (l : Launch) (Z : State) (a0 : Array Value) (hw : ∀ d ∈ tables_1, d.before a0 Z = true) (ws : List Jvm.Cond) (p0 : Int32) (p1 : Int32) (p2 : Int32) (p3 : Int32) (h0 : Heap) (n0 : Nat) (Z0 : n0 ≤ h0.size) :
    MetFree l x (head1 (Jvm.Cond.code x code maxLocals ret :: ws) room_1) (fun a U => a = #[(.int p0), (.int p1), (.int p2), (.int p3)] ∧ Z.Warmed39 U.vm ∧ U.heap = h0) (fun _ _ _ _ _ => True) (fun _ U o U' => ∃ v L, o = .returned v ∧ (own_Q_rm0 Z p0 p1 p2 p3 h0 n0) v U'.heap L ∧ FrameEnd U o U' L 24 192) := by
  refine MetFree.of_bodySF (plainFor_of_name own_pn0) hisR ?_
  intro p e s m args below meth c s₁ Bd hml0 hP hK
  obtain ⟨rfl, hZ, hh⟩ := hP
  have hx := Bd.exec
  have hby := Bd.bytes
  have hml : c.maxLocals = 16 := hml0
  have hown : s.vm.findClass "com/example/bisimilar/bisimilar/equivalence/RefinementHistoryClassStartPinLaw" = some m.cls := findClass_of_methodNamed Bd.named
  have hnm := (name_of_methodNamed Bd.named Bd.method).1
  have hlk : meth.locks = false := BodyLoose.notSynchronized Bd
  have X0 : Stand p l e room_1 s m #[(.int p0), (.int p1), (.int p2), (.int p3)] below meth c s₁ [] 0 0 := Stand.of_body Bd
  have e0 : s₁.heap = h0 := by rw [← hh, Bd.state]; rfl
  have N0 := Fr.nil n0
  show own_Ends p e below (own_Fin s (own_Q_rm0 Z p0 p1 p2 p3 h0 n0) 24 192) _
  refine own_pre (fun t k => castTop (own_ef_rm0 m p0 p1 p2 p3) k) ?_
  show own_Ends _ _ _ _ (s₁.setTop (mkF m 0 #[.val (.int p0), .val (.int p1), .val (.int p2), .val (.int p3), .unset, .unset, .unset, .unset, .unset, .unset, .unset, .unset, .unset, .unset, .unset, .unset] []))
  refine own_pre (fun t k => XS.iconst X0.here hx rfl (hb hby at_0) k) ?_
  show own_Ends _ _ _ _ (s₁.setTop (mkF m 1 #[.val (.int p0), .val (.int p1), .val (.int p2), .val (.int p3), .unset, .unset, .unset, .unset, .unset, .unset, .unset, .unset, .unset, .unset, .unset, .unset] [(.int (1 : Int32))]))
  refine own_pre (fun t k => XS.iloadN X0.here hx rfl (hb hby at_1) rfl k) ?_
  show own_Ends _ _ _ _ (s₁.setTop (mkF m 2 #[.val (.int p0), .val (.int p1), .val (.int p2), .val (.int p3), .unset, .unset, .unset, .unset, .unset, .unset, .unset, .unset, .unset, .unset, .unset, .unset] [(.int p0), (.int (1 : Int32))]))
  refine own_pre (fun t k => XS.bipush X0.here hx rfl (hb hby at_2) k) ?_
  show own_Ends _ _ _ _ (s₁.setTop (mkF m 4 #[.val (.int p0), .val (.int p1), .val (.int p2), .val (.int p3), .unset, .unset, .unset, .unset, .unset, .unset, .unset, .unset, .unset, .unset, .unset, .unset] [(.int (7 : Int32)), (.int p0), (.int (1 : Int32))]))
  refine own_pre (fun t k => XS.iand X0.here hx rfl (hb hby at_4) rfl k) ?_
  show own_Ends _ _ _ _ (s₁.setTop (mkF m 5 #[.val (.int p0), .val (.int p1), .val (.int p2), .val (.int p3), .unset, .unset, .unset, .unset, .unset, .unset, .unset, .unset, .unset, .unset, .unset, .unset] [(.int (p0 &&& (7 : Int32))), (.int (1 : Int32))]))
  refine own_pre (fun t k => XS.bipush X0.here hx rfl (hb hby at_5) k) ?_
  show own_Ends _ _ _ _ (s₁.setTop (mkF m 7 #[.val (.int p0), .val (.int p1), .val (.int p2), .val (.int p3), .unset, .unset, .unset, .unset, .unset, .unset, .unset, .unset, .unset, .unset, .unset, .unset] [(.int (6 : Int32)), (.int (p0 &&& (7 : Int32))), (.int (1 : Int32))]))
  refine own_pre (fun t k => iremM X0 hx rfl (hb hby at_7) rfl (by decide) k) ?_
  show own_Ends _ _ _ _ (s₁.setTop (mkF m 8 #[.val (.int p0), .val (.int p1), .val (.int p2), .val (.int p3), .unset, .unset, .unset, .unset, .unset, .unset, .unset, .unset, .unset, .unset, .unset, .unset] [(.int ((p0 &&& (7 : Int32)) % (6 : Int32))), (.int (1 : Int32))]))
  refine own_pre (fun t k => XS.iadd X0.here hx rfl (hb hby at_8) rfl k) ?_
  show own_Ends _ _ _ _ (s₁.setTop (mkF m 9 #[.val (.int p0), .val (.int p1), .val (.int p2), .val (.int p3), .unset, .unset, .unset, .unset, .unset, .unset, .unset, .unset, .unset, .unset, .unset, .unset] [(.int ((1 : Int32) + ((p0 &&& (7 : Int32)) % (6 : Int32))))]))
  refine own_pre (fun t k => XS.istore X0.here hx rfl (hb hby at_9) rfl (l' := #[.val (.int p0), .val (.int p1), .val (.int p2), .val (.int p3), .val (.int ((1 : Int32) + ((p0 &&& (7 : Int32)) % (6 : Int32)))), .unset, .unset, .unset, .unset, .unset, .unset, .unset, .unset, .unset, .unset, .unset]) rfl k) ?_
  show own_Ends _ _ _ _ (s₁.setTop (mkF m 11 #[.val (.int p0), .val (.int p1), .val (.int p2), .val (.int p3), .val (.int ((1 : Int32) + ((p0 &&& (7 : Int32)) % (6 : Int32)))), .unset, .unset, .unset, .unset, .unset, .unset, .unset, .unset, .unset, .unset, .unset] []))
  generalize hx4 : ((1 : Int32) + ((p0 &&& (7 : Int32)) % (6 : Int32))) = x4
  show own_Ends _ _ _ _ (s₁.setTop (mkF m 11 #[.val (.int p0), .val (.int p1), .val (.int p2), .val (.int p3), .val (.int x4), .unset, .unset, .unset, .unset, .unset, .unset, .unset, .unset, .unset, .unset, .unset] []))
  obtain ⟨n, h1, hn, rfl⟩ := own_getn hx4
  show own_Ends _ _ _ _ (s₁.setTop (mkF m 11 #[.val (.int p0), .val (.int p1), .val (.int p2), .val (.int p3), .val (.int (Int32.ofNat n)), .unset, .unset, .unset, .unset, .unset, .unset, .unset, .unset, .unset, .unset, .unset] []))
  refine own_pre (fun t k => XS.iloadN X0.here hx rfl (hb hby at_11) rfl k) ?_
  show own_Ends _ _ _ _ (s₁.setTop (mkF m 12 #[.val (.int p0), .val (.int p1), .val (.int p2), .val (.int p3), .val (.int (Int32.ofNat n)), .unset, .unset, .unset, .unset, .unset, .unset, .unset, .unset, .unset, .unset, .unset] [(.int p0)]))
  refine own_pre (fun t k => XS.iconst X0.here hx rfl (hb hby at_12) k) ?_
  show own_Ends _ _ _ _ (s₁.setTop (mkF m 13 #[.val (.int p0), .val (.int p1), .val (.int p2), .val (.int p3), .val (.int (Int32.ofNat n)), .unset, .unset, .unset, .unset, .unset, .unset, .unset, .unset, .unset, .unset, .unset] [(.int (4 : Int32)), (.int p0)]))
  refine own_pre (fun t k => XS.iushr X0.here hx rfl (hb hby at_13) rfl k) ?_
  show own_Ends _ _ _ _ (s₁.setTop (mkF m 14 #[.val (.int p0), .val (.int p1), .val (.int p2), .val (.int p3), .val (.int (Int32.ofNat n)), .unset, .unset, .unset, .unset, .unset, .unset, .unset, .unset, .unset, .unset, .unset] [(.int (own_ushr p0 (4 : Int32)))]))
  refine own_pre (fun t k => X0.ldcInt hx hown (mvT hZ (hw _ (List.mem_of_getElem? (i := 0) rfl))) (g := (mkF m 14 #[.val (.int p0), .val (.int p1), .val (.int p2), .val (.int p3), .val (.int (Int32.ofNat n)), .unset, .unset, .unset, .unset, .unset, .unset, .unset, .unset, .unset, .unset, .unset] [(.int (own_ushr p0 (4 : Int32)))])) rfl (hb hby at_14) _ k) ?_
  show own_Ends _ _ _ _ (s₁.setTop (mkF m 16 #[.val (.int p0), .val (.int p1), .val (.int p2), .val (.int p3), .val (.int (Int32.ofNat n)), .unset, .unset, .unset, .unset, .unset, .unset, .unset, .unset, .unset, .unset, .unset] [(.int (2147483647 : Int32)), (.int (own_ushr p0 (4 : Int32)))]))
  refine own_pre (fun t k => XS.iand X0.here hx rfl (hb hby at_16) rfl k) ?_
  show own_Ends _ _ _ _ (s₁.setTop (mkF m 17 #[.val (.int p0), .val (.int p1), .val (.int p2), .val (.int p3), .val (.int (Int32.ofNat n)), .unset, .unset, .unset, .unset, .unset, .unset, .unset, .unset, .unset, .unset, .unset] [(.int ((own_ushr p0 (4 : Int32)) &&& (2147483647 : Int32)))]))
  refine own_pre (fun t k => XS.iload X0.here hx rfl (hb hby at_17) rfl k) ?_
  show own_Ends _ _ _ _ (s₁.setTop (mkF m 19 #[.val (.int p0), .val (.int p1), .val (.int p2), .val (.int p3), .val (.int (Int32.ofNat n)), .unset, .unset, .unset, .unset, .unset, .unset, .unset, .unset, .unset, .unset, .unset] [(.int (Int32.ofNat n)), (.int ((own_ushr p0 (4 : Int32)) &&& (2147483647 : Int32)))]))
  refine own_pre (fun t k => iremM X0 hx rfl (hb hby at_19) rfl (own_nzN h1 (by omega)) k) ?_
  show own_Ends _ _ _ _ (s₁.setTop (mkF m 20 #[.val (.int p0), .val (.int p1), .val (.int p2), .val (.int p3), .val (.int (Int32.ofNat n)), .unset, .unset, .unset, .unset, .unset, .unset, .unset, .unset, .unset, .unset, .unset] [(.int (((own_ushr p0 (4 : Int32)) &&& (2147483647 : Int32)) % (Int32.ofNat n)))]))
  refine own_pre (fun t k => XS.istore X0.here hx rfl (hb hby at_20) rfl (l' := #[.val (.int p0), .val (.int p1), .val (.int p2), .val (.int p3), .val (.int (Int32.ofNat n)), .val (.int (((own_ushr p0 (4 : Int32)) &&& (2147483647 : Int32)) % (Int32.ofNat n))), .unset, .unset, .unset, .unset, .unset, .unset, .unset, .unset, .unset, .unset]) rfl k) ?_
  show own_Ends _ _ _ _ (s₁.setTop (mkF m 22 #[.val (.int p0), .val (.int p1), .val (.int p2), .val (.int p3), .val (.int (Int32.ofNat n)), .val (.int (((own_ushr p0 (4 : Int32)) &&& (2147483647 : Int32)) % (Int32.ofNat n))), .unset, .unset, .unset, .unset, .unset, .unset, .unset, .unset, .unset, .unset] []))
  generalize hx5 : (((own_ushr p0 (4 : Int32)) &&& (2147483647 : Int32)) % (Int32.ofNat n)) = x5
  show own_Ends _ _ _ _ (s₁.setTop (mkF m 22 #[.val (.int p0), .val (.int p1), .val (.int p2), .val (.int p3), .val (.int (Int32.ofNat n)), .val (.int x5), .unset, .unset, .unset, .unset, .unset, .unset, .unset, .unset, .unset, .unset] []))
  obtain ⟨kk, hk, rfl⟩ := own_getk h1 hn hx5
  show own_Ends _ _ _ _ (s₁.setTop (mkF m 22 #[.val (.int p0), .val (.int p1), .val (.int p2), .val (.int p3), .val (.int (Int32.ofNat n)), .val (.int (Int32.ofNat kk)), .unset, .unset, .unset, .unset, .unset, .unset, .unset, .unset, .unset, .unset] []))
  refine own_pre (fun t k => XS.bipush X0.here hx rfl (hb hby at_22) k) ?_
  show own_Ends _ _ _ _ (s₁.setTop (mkF m 24 #[.val (.int p0), .val (.int p1), .val (.int p2), .val (.int p3), .val (.int (Int32.ofNat n)), .val (.int (Int32.ofNat kk)), .unset, .unset, .unset, .unset, .unset, .unset, .unset, .unset, .unset, .unset] [(.int (6 : Int32))]))
  obtain ⟨T262, h262, k262, X262, e262, E262, A262, st262⟩ := newP X0 hx hZ (hw _ (List.mem_of_getElem? (i := 1) rfl)) e0 (g := (mkF m 24 #[.val (.int p0), .val (.int p1), .val (.int p2), .val (.int p3), .val (.int (Int32.ofNat n)), .val (.int (Int32.ofNat kk)), .unset, .unset, .unset, .unset, .unset, .unset, .unset, .unset, .unset, .unset] [(.int (6 : Int32))])) rfl (hb hby at_24) rfl (by decide) (cap := 6) (by decide) (by decide) (by decide) (by decide)
  obtain ⟨b262, g262⟩ : ∃ z, z = h0.size := ⟨_, rfl⟩
  rw [← g262] at A262 st262
  refine own_pre st262 ?_
  have L263 : n0 ≤ b262 := Nat.le_trans Z0 (Nat.le_of_eq g262.symm)
  have Zn264 : n0 ≤ h262.size := Nat.le_trans Z0 E262.1
  have f265 : Arv Z h262 b262 k262 .int (6 : Int32) [(.int (0 : Int32)), (.int (0 : Int32)), (.int (0 : Int32)), (.int (0 : Int32)), (.int (0 : Int32)), (.int (0 : Int32))] (.int (0 : Int32)) := (Arv.new A262 (by decide)).pad (pad_rep [] (.int (0 : Int32)) 6)
  show own_Ends _ _ _ _ (T262.setTop (mkF m 26 #[.val (.int p0), .val (.int p1), .val (.int p2), .val (.int p3), .val (.int (Int32.ofNat n)), .val (.int (Int32.ofNat kk)), .unset, .unset, .unset, .unset, .unset, .unset, .unset, .unset, .unset, .unset] [(.ref b262)]))
  refine own_pre (fun t k => XS.astore X262.here hx rfl (hb hby at_26) rfl rfl (l' := #[.val (.int p0), .val (.int p1), .val (.int p2), .val (.int p3), .val (.int (Int32.ofNat n)), .val (.int (Int32.ofNat kk)), .val (.ref b262), .unset, .unset, .unset, .unset, .unset, .unset, .unset, .unset, .unset]) rfl k) ?_
  show own_Ends _ _ _ _ (T262.setTop (mkF m 28 #[.val (.int p0), .val (.int p1), .val (.int p2), .val (.int p3), .val (.int (Int32.ofNat n)), .val (.int (Int32.ofNat kk)), .val (.ref b262), .unset, .unset, .unset, .unset, .unset, .unset, .unset, .unset, .unset] []))
  refine own_pre (fun t k => XS.aload X262.here hx rfl (hb hby at_28) rfl rfl k) ?_
  show own_Ends _ _ _ _ (T262.setTop (mkF m 30 #[.val (.int p0), .val (.int p1), .val (.int p2), .val (.int p3), .val (.int (Int32.ofNat n)), .val (.int (Int32.ofNat kk)), .val (.ref b262), .unset, .unset, .unset, .unset, .unset, .unset, .unset, .unset, .unset] [(.ref b262)]))
  refine own_pre (fun t k => XS.iconst X262.here hx rfl (hb hby at_30) k) ?_
  show own_Ends _ _ _ _ (T262.setTop (mkF m 31 #[.val (.int p0), .val (.int p1), .val (.int p2), .val (.int p3), .val (.int (Int32.ofNat n)), .val (.int (Int32.ofNat kk)), .val (.ref b262), .unset, .unset, .unset, .unset, .unset, .unset, .unset, .unset, .unset] [(.int (0 : Int32)), (.ref b262)]))
  refine own_pre (fun t k => XS.iloadN X262.here hx rfl (hb hby at_31) rfl k) ?_
  show own_Ends _ _ _ _ (T262.setTop (mkF m 32 #[.val (.int p0), .val (.int p1), .val (.int p2), .val (.int p3), .val (.int (Int32.ofNat n)), .val (.int (Int32.ofNat kk)), .val (.ref b262), .unset, .unset, .unset, .unset, .unset, .unset, .unset, .unset, .unset] [(.int p1), (.int (0 : Int32)), (.ref b262)]))
  refine own_pre (fun t k => XS.iconst X262.here hx rfl (hb hby at_32) k) ?_
  show own_Ends _ _ _ _ (T262.setTop (mkF m 33 #[.val (.int p0), .val (.int p1), .val (.int p2), .val (.int p3), .val (.int (Int32.ofNat n)), .val (.int (Int32.ofNat kk)), .val (.ref b262), .unset, .unset, .unset, .unset, .unset, .unset, .unset, .unset, .unset] [(.int (0 : Int32)), (.int p1), (.int (0 : Int32)), (.ref b262)]))
  obtain ⟨_, _, ⟨T266, L266, k266, n266⟩, -, X266, ⟨Lc266, hQ266, l266, y266, z266⟩, st266⟩ := Jvm.LawKit.callS X262 hx (y := (⟨"com/example/bisimilar/bisimilar/equivalence/RefinementHistoryClassStartPinLaw", "mark", "(II)I"⟩ : MethodName)) hown (mvT hZ (hw _ (List.mem_of_getElem? (i := 2) rfl))) (mvT hZ (hw _ (List.mem_of_getElem? (i := 3) rfl))) (mvT hZ (hw _ (List.mem_of_getElem? (i := 4) rfl))) (mvT hZ (hw _ (List.mem_of_getElem? (i := 5) rfl))) (by decide) (backOf (W := 2) (rm1 l Z a0 hw [] p1 (0 : Int32) h262 n0 Zn264) hZ (hw _ (List.mem_of_getElem? (i := 5) rfl)) (hw _ (List.mem_of_getElem? (i := 4) rfl)) (by decide) (by decide)) (g := (mkF m 33 #[.val (.int p0), .val (.int p1), .val (.int p2), .val (.int p3), .val (.int (Int32.ofNat n)), .val (.int (Int32.ofNat kk)), .val (.ref b262), .unset, .unset, .unset, .unset, .unset, .unset, .unset, .unset, .unset] [(.int (0 : Int32)), (.int p1), (.int (0 : Int32)), (.ref b262)])) rfl (by rw [hml]; rfl) (argsL := [(.int p1), (.int (0 : Int32))]) (rest := [(.int (0 : Int32)), (.ref b262)]) (lenOf own_pd0 rfl) rfl (by show 2 * 0 + _ ≤ _; exact Nat.le_of_eq rfl) (hb hby at_33) (fun _ _ => ⟨rfl, e262, (by decide : 1 + 0 ≤ _), (by decide : 6 + 0 ≤ _)⟩)
  dsimp only [Pt.U, Pt.locs, Pt.cells, Pt.slots] at X266 l266 y266 z266 st266 hQ266
  subst l266 y266 z266
  obtain ⟨rfl, Nq266, e266⟩ := hQ266
  have N266 := Fr.app N0 Nq266
  obtain ⟨LL266, X266, N266⟩ := own_hide X266 N266
  refine own_pre st266 ?_
  show own_Ends _ _ _ _ (T266.setTop (mkF m 36 #[.val (.int p0), .val (.int p1), .val (.int p2), .val (.int p3), .val (.int (Int32.ofNat n)), .val (.int (Int32.ofNat kk)), .val (.ref b262), .unset, .unset, .unset, .unset, .unset, .unset, .unset, .unset, .unset] [(.int (own_mark p1 (0 : Int32))), (.int (0 : Int32)), (.ref b262)]))
  obtain ⟨cl267, Ar267, qc267, S267, M267, H267, G267⟩ := id (f265)
  have hin267 : ¬ ((0 : Int32) < 0 ∨ cl267.slots.size ≤ ((0 : Int32)).toNatClampNeg) := inb_of S267 ⟨by decide, by decide⟩
  obtain ⟨T267, h267, X267, e267, W267, st267⟩ := stI X266 hx hZ e266 Ar267 (j := (0 : Int32)) hin267 (g := (mkF m 36 #[.val (.int p0), .val (.int p1), .val (.int p2), .val (.int p3), .val (.int (Int32.ofNat n)), .val (.int (Int32.ofNat kk)), .val (.ref b262), .unset, .unset, .unset, .unset, .unset, .unset, .unset, .unset, .unset] [(.int (own_mark p1 (0 : Int32))), (.int (0 : Int32)), (.ref b262)])) rfl rfl (hb hby at_36)
  refine own_pre st267 ?_
  have f268x := Arv.set Ar267 qc267 S267 M267 H267 G267 (show fits .int (.int (own_mark p1 (0 : Int32))) = true from rfl) W267 0 rfl (Nat.le_of_ble_eq_true rfl)
  have f268 : Arv Z h267 b262 k262 .int (6 : Int32) [(.int (own_mark p1 (0 : Int32))), (.int (0 : Int32)), (.int (0 : Int32)), (.int (0 : Int32)), (.int (0 : Int32)), (.int (0 : Int32))] (.int (0 : Int32)) := f268x
  have N269 := Fr.snoc X267 N266 L263
  obtain ⟨LL267, X267, N269⟩ := own_hide X267 N269
  have Zn270 : n0 ≤ h267.size := by rw [W267.size]; exact Zn264
  show own_Ends _ _ _ _ (T267.setTop (mkF m 37 #[.val (.int p0), .val (.int p1), .val (.int p2), .val (.int p3), .val (.int (Int32.ofNat n)), .val (.int (Int32.ofNat kk)), .val (.ref b262), .unset, .unset, .unset, .unset, .unset, .unset, .unset, .unset, .unset] []))
  refine own_pre (fun t k => XS.aload X267.here hx rfl (hb hby at_37) rfl rfl k) ?_
  show own_Ends _ _ _ _ (T267.setTop (mkF m 39 #[.val (.int p0), .val (.int p1), .val (.int p2), .val (.int p3), .val (.int (Int32.ofNat n)), .val (.int (Int32.ofNat kk)), .val (.ref b262), .unset, .unset, .unset, .unset, .unset, .unset, .unset, .unset, .unset] [(.ref b262)]))
  refine own_pre (fun t k => XS.iconst X267.here hx rfl (hb hby at_39) k) ?_
  show own_Ends _ _ _ _ (T267.setTop (mkF m 40 #[.val (.int p0), .val (.int p1), .val (.int p2), .val (.int p3), .val (.int (Int32.ofNat n)), .val (.int (Int32.ofNat kk)), .val (.ref b262), .unset, .unset, .unset, .unset, .unset, .unset, .unset, .unset, .unset] [(.int (1 : Int32)), (.ref b262)]))
  refine own_pre (fun t k => XS.iloadN X267.here hx rfl (hb hby at_40) rfl k) ?_
  show own_Ends _ _ _ _ (T267.setTop (mkF m 41 #[.val (.int p0), .val (.int p1), .val (.int p2), .val (.int p3), .val (.int (Int32.ofNat n)), .val (.int (Int32.ofNat kk)), .val (.ref b262), .unset, .unset, .unset, .unset, .unset, .unset, .unset, .unset, .unset] [(.int p1), (.int (1 : Int32)), (.ref b262)]))
  refine own_pre (fun t k => XS.iconst X267.here hx rfl (hb hby at_41) k) ?_
  show own_Ends _ _ _ _ (T267.setTop (mkF m 42 #[.val (.int p0), .val (.int p1), .val (.int p2), .val (.int p3), .val (.int (Int32.ofNat n)), .val (.int (Int32.ofNat kk)), .val (.ref b262), .unset, .unset, .unset, .unset, .unset, .unset, .unset, .unset, .unset] [(.int (1 : Int32)), (.int p1), (.int (1 : Int32)), (.ref b262)]))
  obtain ⟨_, _, ⟨T271, L271, k271, n271⟩, -, X271, ⟨Lc271, hQ271, l271, y271, z271⟩, st271⟩ := Jvm.LawKit.callS X267 hx (y := (⟨"com/example/bisimilar/bisimilar/equivalence/RefinementHistoryClassStartPinLaw", "mark", "(II)I"⟩ : MethodName)) hown (mvT hZ (hw _ (List.mem_of_getElem? (i := 2) rfl))) (mvT hZ (hw _ (List.mem_of_getElem? (i := 3) rfl))) (mvT hZ (hw _ (List.mem_of_getElem? (i := 4) rfl))) (mvT hZ (hw _ (List.mem_of_getElem? (i := 5) rfl))) (by decide) (backOf (W := 2) (rm1 l Z a0 hw [] p1 (1 : Int32) h267 n0 Zn270) hZ (hw _ (List.mem_of_getElem? (i := 5) rfl)) (hw _ (List.mem_of_getElem? (i := 4) rfl)) (by decide) (by decide)) (g := (mkF m 42 #[.val (.int p0), .val (.int p1), .val (.int p2), .val (.int p3), .val (.int (Int32.ofNat n)), .val (.int (Int32.ofNat kk)), .val (.ref b262), .unset, .unset, .unset, .unset, .unset, .unset, .unset, .unset, .unset] [(.int (1 : Int32)), (.int p1), (.int (1 : Int32)), (.ref b262)])) rfl (by rw [hml]; rfl) (argsL := [(.int p1), (.int (1 : Int32))]) (rest := [(.int (1 : Int32)), (.ref b262)]) (lenOf own_pd0 rfl) rfl (by show 2 * 0 + _ ≤ _; exact Nat.le_of_eq rfl) (hb hby at_42) (fun _ _ => ⟨rfl, e267, (by decide : 1 + 0 ≤ _), (by decide : 6 + 0 ≤ _)⟩)
  dsimp only [Pt.U, Pt.locs, Pt.cells, Pt.slots] at X271 l271 y271 z271 st271 hQ271
  subst l271 y271 z271
  obtain ⟨rfl, Nq271, e271⟩ := hQ271
  have N271 := Fr.app N269 Nq271
  obtain ⟨LL271, X271, N271⟩ := own_hide X271 N271
  refine own_pre st271 ?_
  show own_Ends _ _ _ _ (T271.setTop (mkF m 45 #[.val (.int p0), .val (.int p1), .val (.int p2), .val (.int p3), .val (.int (Int32.ofNat n)), .val (.int (Int32.ofNat kk)), .val (.ref b262), .unset, .unset, .unset, .unset, .unset, .unset, .unset, .unset, .unset] [(.int (own_mark p1 (1 : Int32))), (.int (1 : Int32)), (.ref b262)]))
  obtain ⟨cl272, Ar272, qc272, S272, M272, H272, G272⟩ := id (f268)
  have hin272 : ¬ ((1 : Int32) < 0 ∨ cl272.slots.size ≤ ((1 : Int32)).toNatClampNeg) := inb_of S272 ⟨by decide, by decide⟩
  obtain ⟨T272, h272, X272, e272, W272, st272⟩ := stI X271 hx hZ e271 Ar272 (j := (1 : Int32)) hin272 (g := (mkF m 45 #[.val (.int p0), .val (.int p1), .val (.int p2), .val (.int p3), .val (.int (Int32.ofNat n)), .val (.int (Int32.ofNat kk)), .val (.ref b262), .unset, .unset, .unset, .unset, .unset, .unset, .unset, .unset, .unset] [(.int (own_mark p1 (1 : Int32))), (.int (1 : Int32)), (.ref b262)])) rfl rfl (hb hby at_45)
  refine own_pre st272 ?_
  have f273x := Arv.set Ar272 qc272 S272 M272 H272 G272 (show fits .int (.int (own_mark p1 (1 : Int32))) = true from rfl) W272 1 rfl (Nat.le_of_ble_eq_true rfl)
  have f273 : Arv Z h272 b262 k262 .int (6 : Int32) [(.int (own_mark p1 (0 : Int32))), (.int (own_mark p1 (1 : Int32))), (.int (0 : Int32)), (.int (0 : Int32)), (.int (0 : Int32)), (.int (0 : Int32))] (.int (0 : Int32)) := f273x
  have N274 := Fr.snoc X272 N271 L263
  obtain ⟨LL272, X272, N274⟩ := own_hide X272 N274
  have Zn275 : n0 ≤ h272.size := by rw [W272.size]; exact Zn270
  show own_Ends _ _ _ _ (T272.setTop (mkF m 46 #[.val (.int p0), .val (.int p1), .val (.int p2), .val (.int p3), .val (.int (Int32.ofNat n)), .val (.int (Int32.ofNat kk)), .val (.ref b262), .unset, .unset, .unset, .unset, .unset, .unset, .unset, .unset, .unset] []))
  refine own_pre (fun t k => XS.aload X272.here hx rfl (hb hby at_46) rfl rfl k) ?_
  show own_Ends _ _ _ _ (T272.setTop (mkF m 48 #[.val (.int p0), .val (.int p1), .val (.int p2), .val (.int p3), .val (.int (Int32.ofNat n)), .val (.int (Int32.ofNat kk)), .val (.ref b262), .unset, .unset, .unset, .unset, .unset, .unset, .unset, .unset, .unset] [(.ref b262)]))
  refine own_pre (fun t k => XS.iconst X272.here hx rfl (hb hby at_48) k) ?_
  show own_Ends _ _ _ _ (T272.setTop (mkF m 49 #[.val (.int p0), .val (.int p1), .val (.int p2), .val (.int p3), .val (.int (Int32.ofNat n)), .val (.int (Int32.ofNat kk)), .val (.ref b262), .unset, .unset, .unset, .unset, .unset, .unset, .unset, .unset, .unset] [(.int (2 : Int32)), (.ref b262)]))
  refine own_pre (fun t k => XS.iloadN X272.here hx rfl (hb hby at_49) rfl k) ?_
  show own_Ends _ _ _ _ (T272.setTop (mkF m 50 #[.val (.int p0), .val (.int p1), .val (.int p2), .val (.int p3), .val (.int (Int32.ofNat n)), .val (.int (Int32.ofNat kk)), .val (.ref b262), .unset, .unset, .unset, .unset, .unset, .unset, .unset, .unset, .unset] [(.int p1), (.int (2 : Int32)), (.ref b262)]))
  refine own_pre (fun t k => XS.iconst X272.here hx rfl (hb hby at_50) k) ?_
  show own_Ends _ _ _ _ (T272.setTop (mkF m 51 #[.val (.int p0), .val (.int p1), .val (.int p2), .val (.int p3), .val (.int (Int32.ofNat n)), .val (.int (Int32.ofNat kk)), .val (.ref b262), .unset, .unset, .unset, .unset, .unset, .unset, .unset, .unset, .unset] [(.int (2 : Int32)), (.int p1), (.int (2 : Int32)), (.ref b262)]))
  obtain ⟨_, _, ⟨T276, L276, k276, n276⟩, -, X276, ⟨Lc276, hQ276, l276, y276, z276⟩, st276⟩ := Jvm.LawKit.callS X272 hx (y := (⟨"com/example/bisimilar/bisimilar/equivalence/RefinementHistoryClassStartPinLaw", "mark", "(II)I"⟩ : MethodName)) hown (mvT hZ (hw _ (List.mem_of_getElem? (i := 2) rfl))) (mvT hZ (hw _ (List.mem_of_getElem? (i := 3) rfl))) (mvT hZ (hw _ (List.mem_of_getElem? (i := 4) rfl))) (mvT hZ (hw _ (List.mem_of_getElem? (i := 5) rfl))) (by decide) (backOf (W := 2) (rm1 l Z a0 hw [] p1 (2 : Int32) h272 n0 Zn275) hZ (hw _ (List.mem_of_getElem? (i := 5) rfl)) (hw _ (List.mem_of_getElem? (i := 4) rfl)) (by decide) (by decide)) (g := (mkF m 51 #[.val (.int p0), .val (.int p1), .val (.int p2), .val (.int p3), .val (.int (Int32.ofNat n)), .val (.int (Int32.ofNat kk)), .val (.ref b262), .unset, .unset, .unset, .unset, .unset, .unset, .unset, .unset, .unset] [(.int (2 : Int32)), (.int p1), (.int (2 : Int32)), (.ref b262)])) rfl (by rw [hml]; rfl) (argsL := [(.int p1), (.int (2 : Int32))]) (rest := [(.int (2 : Int32)), (.ref b262)]) (lenOf own_pd0 rfl) rfl (by show 2 * 0 + _ ≤ _; exact Nat.le_of_eq rfl) (hb hby at_51) (fun _ _ => ⟨rfl, e272, (by decide : 1 + 0 ≤ _), (by decide : 6 + 0 ≤ _)⟩)
  dsimp only [Pt.U, Pt.locs, Pt.cells, Pt.slots] at X276 l276 y276 z276 st276 hQ276
  subst l276 y276 z276
  obtain ⟨rfl, Nq276, e276⟩ := hQ276
  have N276 := Fr.app N274 Nq276
  obtain ⟨LL276, X276, N276⟩ := own_hide X276 N276
  refine own_pre st276 ?_
  show own_Ends _ _ _ _ (T276.setTop (mkF m 54 #[.val (.int p0), .val (.int p1), .val (.int p2), .val (.int p3), .val (.int (Int32.ofNat n)), .val (.int (Int32.ofNat kk)), .val (.ref b262), .unset, .unset, .unset, .unset, .unset, .unset, .unset, .unset, .unset] [(.int (own_mark p1 (2 : Int32))), (.int (2 : Int32)), (.ref b262)]))
  obtain ⟨cl277, Ar277, qc277, S277, M277, H277, G277⟩ := id (f273)
  have hin277 : ¬ ((2 : Int32) < 0 ∨ cl277.slots.size ≤ ((2 : Int32)).toNatClampNeg) := inb_of S277 ⟨by decide, by decide⟩
  obtain ⟨T277, h277, X277, e277, W277, st277⟩ := stI X276 hx hZ e276 Ar277 (j := (2 : Int32)) hin277 (g := (mkF m 54 #[.val (.int p0), .val (.int p1), .val (.int p2), .val (.int p3), .val (.int (Int32.ofNat n)), .val (.int (Int32.ofNat kk)), .val (.ref b262), .unset, .unset, .unset, .unset, .unset, .unset, .unset, .unset, .unset] [(.int (own_mark p1 (2 : Int32))), (.int (2 : Int32)), (.ref b262)])) rfl rfl (hb hby at_54)
  refine own_pre st277 ?_
  have f278x := Arv.set Ar277 qc277 S277 M277 H277 G277 (show fits .int (.int (own_mark p1 (2 : Int32))) = true from rfl) W277 2 rfl (Nat.le_of_ble_eq_true rfl)
  have f278 : Arv Z h277 b262 k262 .int (6 : Int32) [(.int (own_mark p1 (0 : Int32))), (.int (own_mark p1 (1 : Int32))), (.int (own_mark p1 (2 : Int32))), (.int (0 : Int32)), (.int (0 : Int32)), (.int (0 : Int32))] (.int (0 : Int32)) := f278x
  have N279 := Fr.snoc X277 N276 L263
  obtain ⟨LL277, X277, N279⟩ := own_hide X277 N279
  have Zn280 : n0 ≤ h277.size := by rw [W277.size]; exact Zn275
  show own_Ends _ _ _ _ (T277.setTop (mkF m 55 #[.val (.int p0), .val (.int p1), .val (.int p2), .val (.int p3), .val (.int (Int32.ofNat n)), .val (.int (Int32.ofNat kk)), .val (.ref b262), .unset, .unset, .unset, .unset, .unset, .unset, .unset, .unset, .unset] []))
  refine own_pre (fun t k => XS.aload X277.here hx rfl (hb hby at_55) rfl rfl k) ?_
  show own_Ends _ _ _ _ (T277.setTop (mkF m 57 #[.val (.int p0), .val (.int p1), .val (.int p2), .val (.int p3), .val (.int (Int32.ofNat n)), .val (.int (Int32.ofNat kk)), .val (.ref b262), .unset, .unset, .unset, .unset, .unset, .unset, .unset, .unset, .unset] [(.ref b262)]))
  refine own_pre (fun t k => XS.iconst X277.here hx rfl (hb hby at_57) k) ?_
  show own_Ends _ _ _ _ (T277.setTop (mkF m 58 #[.val (.int p0), .val (.int p1), .val (.int p2), .val (.int p3), .val (.int (Int32.ofNat n)), .val (.int (Int32.ofNat kk)), .val (.ref b262), .unset, .unset, .unset, .unset, .unset, .unset, .unset, .unset, .unset] [(.int (3 : Int32)), (.ref b262)]))
  refine own_pre (fun t k => XS.iloadN X277.here hx rfl (hb hby at_58) rfl k) ?_
  show own_Ends _ _ _ _ (T277.setTop (mkF m 59 #[.val (.int p0), .val (.int p1), .val (.int p2), .val (.int p3), .val (.int (Int32.ofNat n)), .val (.int (Int32.ofNat kk)), .val (.ref b262), .unset, .unset, .unset, .unset, .unset, .unset, .unset, .unset, .unset] [(.int p1), (.int (3 : Int32)), (.ref b262)]))
  refine own_pre (fun t k => XS.iconst X277.here hx rfl (hb hby at_59) k) ?_
  show own_Ends _ _ _ _ (T277.setTop (mkF m 60 #[.val (.int p0), .val (.int p1), .val (.int p2), .val (.int p3), .val (.int (Int32.ofNat n)), .val (.int (Int32.ofNat kk)), .val (.ref b262), .unset, .unset, .unset, .unset, .unset, .unset, .unset, .unset, .unset] [(.int (3 : Int32)), (.int p1), (.int (3 : Int32)), (.ref b262)]))
  obtain ⟨_, _, ⟨T281, L281, k281, n281⟩, -, X281, ⟨Lc281, hQ281, l281, y281, z281⟩, st281⟩ := Jvm.LawKit.callS X277 hx (y := (⟨"com/example/bisimilar/bisimilar/equivalence/RefinementHistoryClassStartPinLaw", "mark", "(II)I"⟩ : MethodName)) hown (mvT hZ (hw _ (List.mem_of_getElem? (i := 2) rfl))) (mvT hZ (hw _ (List.mem_of_getElem? (i := 3) rfl))) (mvT hZ (hw _ (List.mem_of_getElem? (i := 4) rfl))) (mvT hZ (hw _ (List.mem_of_getElem? (i := 5) rfl))) (by decide) (backOf (W := 2) (rm1 l Z a0 hw [] p1 (3 : Int32) h277 n0 Zn280) hZ (hw _ (List.mem_of_getElem? (i := 5) rfl)) (hw _ (List.mem_of_getElem? (i := 4) rfl)) (by decide) (by decide)) (g := (mkF m 60 #[.val (.int p0), .val (.int p1), .val (.int p2), .val (.int p3), .val (.int (Int32.ofNat n)), .val (.int (Int32.ofNat kk)), .val (.ref b262), .unset, .unset, .unset, .unset, .unset, .unset, .unset, .unset, .unset] [(.int (3 : Int32)), (.int p1), (.int (3 : Int32)), (.ref b262)])) rfl (by rw [hml]; rfl) (argsL := [(.int p1), (.int (3 : Int32))]) (rest := [(.int (3 : Int32)), (.ref b262)]) (lenOf own_pd0 rfl) rfl (by show 2 * 0 + _ ≤ _; exact Nat.le_of_eq rfl) (hb hby at_60) (fun _ _ => ⟨rfl, e277, (by decide : 1 + 0 ≤ _), (by decide : 6 + 0 ≤ _)⟩)
  dsimp only [Pt.U, Pt.locs, Pt.cells, Pt.slots] at X281 l281 y281 z281 st281 hQ281
  subst l281 y281 z281
  obtain ⟨rfl, Nq281, e281⟩ := hQ281
  have N281 := Fr.app N279 Nq281
  obtain ⟨LL281, X281, N281⟩ := own_hide X281 N281
  refine own_pre st281 ?_
  show own_Ends _ _ _ _ (T281.setTop (mkF m 63 #[.val (.int p0), .val (.int p1), .val (.int p2), .val (.int p3), .val (.int (Int32.ofNat n)), .val (.int (Int32.ofNat kk)), .val (.ref b262), .unset, .unset, .unset, .unset, .unset, .unset, .unset, .unset, .unset] [(.int (own_mark p1 (3 : Int32))), (.int (3 : Int32)), (.ref b262)]))
  obtain ⟨cl282, Ar282, qc282, S282, M282, H282, G282⟩ := id (f278)
  have hin282 : ¬ ((3 : Int32) < 0 ∨ cl282.slots.size ≤ ((3 : Int32)).toNatClampNeg) := inb_of S282 ⟨by decide, by decide⟩
  obtain ⟨T282, h282, X282, e282, W282, st282⟩ := stI X281 hx hZ e281 Ar282 (j := (3 : Int32)) hin282 (g := (mkF m 63 #[.val (.int p0), .val (.int p1), .val (.int p2), .val (.int p3), .val (.int (Int32.ofNat n)), .val (.int (Int32.ofNat kk)), .val (.ref b262), .unset, .unset, .unset, .unset, .unset, .unset, .unset, .unset, .unset] [(.int (own_mark p1 (3 : Int32))), (.int (3 : Int32)), (.ref b262)])) rfl rfl (hb hby at_63)
  refine own_pre st282 ?_
  have f283x := Arv.set Ar282 qc282 S282 M282 H282 G282 (show fits .int (.int (own_mark p1 (3 : Int32))) = true from rfl) W282 3 rfl (Nat.le_of_ble_eq_true rfl)
  have f283 : Arv Z h282 b262 k262 .int (6 : Int32) [(.int (own_mark p1 (0 : Int32))), (.int (own_mark p1 (1 : Int32))), (.int (own_mark p1 (2 : Int32))), (.int (own_mark p1 (3 : Int32))), (.int (0 : Int32)), (.int (0 : Int32))] (.int (0 : Int32)) := f283x
  have N284 := Fr.snoc X282 N281 L263
  obtain ⟨LL282, X282, N284⟩ := own_hide X282 N284
  have Zn285 : n0 ≤ h282.size := by rw [W282.size]; exact Zn280
  show own_Ends _ _ _ _ (T282.setTop (mkF m 64 #[.val (.int p0), .val (.int p1), .val (.int p2), .val (.int p3), .val (.int (Int32.ofNat n)), .val (.int (Int32.ofNat kk)), .val (.ref b262), .unset, .unset, .unset, .unset, .unset, .unset, .unset, .unset, .unset] []))
  refine own_pre (fun t k => XS.aload X282.here hx rfl (hb hby at_64) rfl rfl k) ?_
  show own_Ends _ _ _ _ (T282.setTop (mkF m 66 #[.val (.int p0), .val (.int p1), .val (.int p2), .val (.int p3), .val (.int (Int32.ofNat n)), .val (.int (Int32.ofNat kk)), .val (.ref b262), .unset, .unset, .unset, .unset, .unset, .unset, .unset, .unset, .unset] [(.ref b262)]))
  refine own_pre (fun t k => XS.iconst X282.here hx rfl (hb hby at_66) k) ?_
  show own_Ends _ _ _ _ (T282.setTop (mkF m 67 #[.val (.int p0), .val (.int p1), .val (.int p2), .val (.int p3), .val (.int (Int32.ofNat n)), .val (.int (Int32.ofNat kk)), .val (.ref b262), .unset, .unset, .unset, .unset, .unset, .unset, .unset, .unset, .unset] [(.int (4 : Int32)), (.ref b262)]))
  refine own_pre (fun t k => XS.iloadN X282.here hx rfl (hb hby at_67) rfl k) ?_
  show own_Ends _ _ _ _ (T282.setTop (mkF m 68 #[.val (.int p0), .val (.int p1), .val (.int p2), .val (.int p3), .val (.int (Int32.ofNat n)), .val (.int (Int32.ofNat kk)), .val (.ref b262), .unset, .unset, .unset, .unset, .unset, .unset, .unset, .unset, .unset] [(.int p1), (.int (4 : Int32)), (.ref b262)]))
  refine own_pre (fun t k => XS.iconst X282.here hx rfl (hb hby at_68) k) ?_
  show own_Ends _ _ _ _ (T282.setTop (mkF m 69 #[.val (.int p0), .val (.int p1), .val (.int p2), .val (.int p3), .val (.int (Int32.ofNat n)), .val (.int (Int32.ofNat kk)), .val (.ref b262), .unset, .unset, .unset, .unset, .unset, .unset, .unset, .unset, .unset] [(.int (4 : Int32)), (.int p1), (.int (4 : Int32)), (.ref b262)]))
  obtain ⟨_, _, ⟨T286, L286, k286, n286⟩, -, X286, ⟨Lc286, hQ286, l286, y286, z286⟩, st286⟩ := Jvm.LawKit.callS X282 hx (y := (⟨"com/example/bisimilar/bisimilar/equivalence/RefinementHistoryClassStartPinLaw", "mark", "(II)I"⟩ : MethodName)) hown (mvT hZ (hw _ (List.mem_of_getElem? (i := 2) rfl))) (mvT hZ (hw _ (List.mem_of_getElem? (i := 3) rfl))) (mvT hZ (hw _ (List.mem_of_getElem? (i := 4) rfl))) (mvT hZ (hw _ (List.mem_of_getElem? (i := 5) rfl))) (by decide) (backOf (W := 2) (rm1 l Z a0 hw [] p1 (4 : Int32) h282 n0 Zn285) hZ (hw _ (List.mem_of_getElem? (i := 5) rfl)) (hw _ (List.mem_of_getElem? (i := 4) rfl)) (by decide) (by decide)) (g := (mkF m 69 #[.val (.int p0), .val (.int p1), .val (.int p2), .val (.int p3), .val (.int (Int32.ofNat n)), .val (.int (Int32.ofNat kk)), .val (.ref b262), .unset, .unset, .unset, .unset, .unset, .unset, .unset, .unset, .unset] [(.int (4 : Int32)), (.int p1), (.int (4 : Int32)), (.ref b262)])) rfl (by rw [hml]; rfl) (argsL := [(.int p1), (.int (4 : Int32))]) (rest := [(.int (4 : Int32)), (.ref b262)]) (lenOf own_pd0 rfl) rfl (by show 2 * 0 + _ ≤ _; exact Nat.le_of_eq rfl) (hb hby at_69) (fun _ _ => ⟨rfl, e282, (by decide : 1 + 0 ≤ _), (by decide : 6 + 0 ≤ _)⟩)
  dsimp only [Pt.U, Pt.locs, Pt.cells, Pt.slots] at X286 l286 y286 z286 st286 hQ286
  subst l286 y286 z286
  obtain ⟨rfl, Nq286, e286⟩ := hQ286
  have N286 := Fr.app N284 Nq286
  obtain ⟨LL286, X286, N286⟩ := own_hide X286 N286
  refine own_pre st286 ?_
  show own_Ends _ _ _ _ (T286.setTop (mkF m 72 #[.val (.int p0), .val (.int p1), .val (.int p2), .val (.int p3), .val (.int (Int32.ofNat n)), .val (.int (Int32.ofNat kk)), .val (.ref b262), .unset, .unset, .unset, .unset, .unset, .unset, .unset, .unset, .unset] [(.int (own_mark p1 (4 : Int32))), (.int (4 : Int32)), (.ref b262)]))
  obtain ⟨cl287, Ar287, qc287, S287, M287, H287, G287⟩ := id (f283)
  have hin287 : ¬ ((4 : Int32) < 0 ∨ cl287.slots.size ≤ ((4 : Int32)).toNatClampNeg) := inb_of S287 ⟨by decide, by decide⟩
  obtain ⟨T287, h287, X287, e287, W287, st287⟩ := stI X286 hx hZ e286 Ar287 (j := (4 : Int32)) hin287 (g := (mkF m 72 #[.val (.int p0), .val (.int p1), .val (.int p2), .val (.int p3), .val (.int (Int32.ofNat n)), .val (.int (Int32.ofNat kk)), .val (.ref b262), .unset, .unset, .unset, .unset, .unset, .unset, .unset, .unset, .unset] [(.int (own_mark p1 (4 : Int32))), (.int (4 : Int32)), (.ref b262)])) rfl rfl (hb hby at_72)
  refine own_pre st287 ?_
  have f288x := Arv.set Ar287 qc287 S287 M287 H287 G287 (show fits .int (.int (own_mark p1 (4 : Int32))) = true from rfl) W287 4 rfl (Nat.le_of_ble_eq_true rfl)
  have f288 : Arv Z h287 b262 k262 .int (6 : Int32) [(.int (own_mark p1 (0 : Int32))), (.int (own_mark p1 (1 : Int32))), (.int (own_mark p1 (2 : Int32))), (.int (own_mark p1 (3 : Int32))), (.int (own_mark p1 (4 : Int32))), (.int (0 : Int32))] (.int (0 : Int32)) := f288x
  have N289 := Fr.snoc X287 N286 L263
  obtain ⟨LL287, X287, N289⟩ := own_hide X287 N289
  have Zn290 : n0 ≤ h287.size := by rw [W287.size]; exact Zn285
  show own_Ends _ _ _ _ (T287.setTop (mkF m 73 #[.val (.int p0), .val (.int p1), .val (.int p2), .val (.int p3), .val (.int (Int32.ofNat n)), .val (.int (Int32.ofNat kk)), .val (.ref b262), .unset, .unset, .unset, .unset, .unset, .unset, .unset, .unset, .unset] []))
  refine own_pre (fun t k => XS.aload X287.here hx rfl (hb hby at_73) rfl rfl k) ?_
  show own_Ends _ _ _ _ (T287.setTop (mkF m 75 #[.val (.int p0), .val (.int p1), .val (.int p2), .val (.int p3), .val (.int (Int32.ofNat n)), .val (.int (Int32.ofNat kk)), .val (.ref b262), .unset, .unset, .unset, .unset, .unset, .unset, .unset, .unset, .unset] [(.ref b262)]))
  refine own_pre (fun t k => XS.iconst X287.here hx rfl (hb hby at_75) k) ?_
  show own_Ends _ _ _ _ (T287.setTop (mkF m 76 #[.val (.int p0), .val (.int p1), .val (.int p2), .val (.int p3), .val (.int (Int32.ofNat n)), .val (.int (Int32.ofNat kk)), .val (.ref b262), .unset, .unset, .unset, .unset, .unset, .unset, .unset, .unset, .unset] [(.int (5 : Int32)), (.ref b262)]))
  refine own_pre (fun t k => XS.iloadN X287.here hx rfl (hb hby at_76) rfl k) ?_
  show own_Ends _ _ _ _ (T287.setTop (mkF m 77 #[.val (.int p0), .val (.int p1), .val (.int p2), .val (.int p3), .val (.int (Int32.ofNat n)), .val (.int (Int32.ofNat kk)), .val (.ref b262), .unset, .unset, .unset, .unset, .unset, .unset, .unset, .unset, .unset] [(.int p1), (.int (5 : Int32)), (.ref b262)]))
  refine own_pre (fun t k => XS.iconst X287.here hx rfl (hb hby at_77) k) ?_
  show own_Ends _ _ _ _ (T287.setTop (mkF m 78 #[.val (.int p0), .val (.int p1), .val (.int p2), .val (.int p3), .val (.int (Int32.ofNat n)), .val (.int (Int32.ofNat kk)), .val (.ref b262), .unset, .unset, .unset, .unset, .unset, .unset, .unset, .unset, .unset] [(.int (5 : Int32)), (.int p1), (.int (5 : Int32)), (.ref b262)]))
  obtain ⟨_, _, ⟨T291, L291, k291, n291⟩, -, X291, ⟨Lc291, hQ291, l291, y291, z291⟩, st291⟩ := Jvm.LawKit.callS X287 hx (y := (⟨"com/example/bisimilar/bisimilar/equivalence/RefinementHistoryClassStartPinLaw", "mark", "(II)I"⟩ : MethodName)) hown (mvT hZ (hw _ (List.mem_of_getElem? (i := 2) rfl))) (mvT hZ (hw _ (List.mem_of_getElem? (i := 3) rfl))) (mvT hZ (hw _ (List.mem_of_getElem? (i := 4) rfl))) (mvT hZ (hw _ (List.mem_of_getElem? (i := 5) rfl))) (by decide) (backOf (W := 2) (rm1 l Z a0 hw [] p1 (5 : Int32) h287 n0 Zn290) hZ (hw _ (List.mem_of_getElem? (i := 5) rfl)) (hw _ (List.mem_of_getElem? (i := 4) rfl)) (by decide) (by decide)) (g := (mkF m 78 #[.val (.int p0), .val (.int p1), .val (.int p2), .val (.int p3), .val (.int (Int32.ofNat n)), .val (.int (Int32.ofNat kk)), .val (.ref b262), .unset, .unset, .unset, .unset, .unset, .unset, .unset, .unset, .unset] [(.int (5 : Int32)), (.int p1), (.int (5 : Int32)), (.ref b262)])) rfl (by rw [hml]; rfl) (argsL := [(.int p1), (.int (5 : Int32))]) (rest := [(.int (5 : Int32)), (.ref b262)]) (lenOf own_pd0 rfl) rfl (by show 2 * 0 + _ ≤ _; exact Nat.le_of_eq rfl) (hb hby at_78) (fun _ _ => ⟨rfl, e287, (by decide : 1 + 0 ≤ _), (by decide : 6 + 0 ≤ _)⟩)
  dsimp only [Pt.U, Pt.locs, Pt.cells, Pt.slots] at X291 l291 y291 z291 st291 hQ291
  subst l291 y291 z291
  obtain ⟨rfl, Nq291, e291⟩ := hQ291
  have N291 := Fr.app N289 Nq291
  obtain ⟨LL291, X291, N291⟩ := own_hide X291 N291
  refine own_pre st291 ?_
  show own_Ends _ _ _ _ (T291.setTop (mkF m 81 #[.val (.int p0), .val (.int p1), .val (.int p2), .val (.int p3), .val (.int (Int32.ofNat n)), .val (.int (Int32.ofNat kk)), .val (.ref b262), .unset, .unset, .unset, .unset, .unset, .unset, .unset, .unset, .unset] [(.int (own_mark p1 (5 : Int32))), (.int (5 : Int32)), (.ref b262)]))
  obtain ⟨cl292, Ar292, qc292, S292, M292, H292, G292⟩ := id (f288)
  have hin292 : ¬ ((5 : Int32) < 0 ∨ cl292.slots.size ≤ ((5 : Int32)).toNatClampNeg) := inb_of S292 ⟨by decide, by decide⟩
  obtain ⟨T292, h292, X292, e292, W292, st292⟩ := stI X291 hx hZ e291 Ar292 (j := (5 : Int32)) hin292 (g := (mkF m 81 #[.val (.int p0), .val (.int p1), .val (.int p2), .val (.int p3), .val (.int (Int32.ofNat n)), .val (.int (Int32.ofNat kk)), .val (.ref b262), .unset, .unset, .unset, .unset, .unset, .unset, .unset, .unset, .unset] [(.int (own_mark p1 (5 : Int32))), (.int (5 : Int32)), (.ref b262)])) rfl rfl (hb hby at_81)
  refine own_pre st292 ?_
  have f293x := Arv.set Ar292 qc292 S292 M292 H292 G292 (show fits .int (.int (own_mark p1 (5 : Int32))) = true from rfl) W292 5 rfl (Nat.le_of_ble_eq_true rfl)
  have f293 : Arv Z h292 b262 k262 .int (6 : Int32) [(.int (own_mark p1 (0 : Int32))), (.int (own_mark p1 (1 : Int32))), (.int (own_mark p1 (2 : Int32))), (.int (own_mark p1 (3 : Int32))), (.int (own_mark p1 (4 : Int32))), (.int (own_mark p1 (5 : Int32)))] (.int (0 : Int32)) := f293x
  have N294 := Fr.snoc X292 N291 L263
  obtain ⟨LL292, X292, N294⟩ := own_hide X292 N294
  have Zn295 : n0 ≤ h292.size := by rw [W292.size]; exact Zn290
  show own_Ends _ _ _ _ (T292.setTop (mkF m 82 #[.val (.int p0), .val (.int p1), .val (.int p2), .val (.int p3), .val (.int (Int32.ofNat n)), .val (.int (Int32.ofNat kk)), .val (.ref b262), .unset, .unset, .unset, .unset, .unset, .unset, .unset, .unset, .unset] []))
  refine own_pre (fun t k => XS.iload X292.here hx rfl (hb hby at_82) rfl k) ?_
  show own_Ends _ _ _ _ (T292.setTop (mkF m 84 #[.val (.int p0), .val (.int p1), .val (.int p2), .val (.int p3), .val (.int (Int32.ofNat n)), .val (.int (Int32.ofNat kk)), .val (.ref b262), .unset, .unset, .unset, .unset, .unset, .unset, .unset, .unset, .unset] [(.int (Int32.ofNat n))]))
  obtain ⟨T296, h296, k296, X296, e296, E296, A296, st296⟩ := newP X292 hx hZ (hw _ (List.mem_of_getElem? (i := 1) rfl)) e292 (g := (mkF m 84 #[.val (.int p0), .val (.int p1), .val (.int p2), .val (.int p3), .val (.int (Int32.ofNat n)), .val (.int (Int32.ofNat kk)), .val (.ref b262), .unset, .unset, .unset, .unset, .unset, .unset, .unset, .unset, .unset] [(.int (Int32.ofNat n))])) rfl (hb hby at_84) rfl (own_nnN (by omega)) (cap := 6) (by rw [own_clamp (by omega)]; omega) (by decide) (by decide) (by decide)
  obtain ⟨b296, g296⟩ : ∃ z, z = h292.size := ⟨_, rfl⟩
  rw [← g296] at A296 st296
  refine own_pre st296 ?_
  have ne297 : b262 ≠ b296 := Nat.ne_of_lt (Nat.lt_of_lt_of_le f293.lt (Nat.le_of_eq g296.symm))
  have f298 := f293.ext E296
  have L299 : n0 ≤ b296 := Nat.le_trans Zn295 (Nat.le_of_eq g296.symm)
  have Zn300 : n0 ≤ h296.size := Nat.le_trans Zn295 E296.1
  have f301 : Arv Z h296 b296 k296 .int (Int32.ofNat n) [] (.int (0 : Int32)) := Arv.new A296 (own_nnN (by omega))
  show own_Ends _ _ _ _ (T296.setTop (mkF m 86 #[.val (.int p0), .val (.int p1), .val (.int p2), .val (.int p3), .val (.int (Int32.ofNat n)), .val (.int (Int32.ofNat kk)), .val (.ref b262), .unset, .unset, .unset, .unset, .unset, .unset, .unset, .unset, .unset] [(.ref b296)]))
  refine own_pre (fun t k => XS.astore X296.here hx rfl (hb hby at_86) rfl rfl (l' := #[.val (.int p0), .val (.int p1), .val (.int p2), .val (.int p3), .val (.int (Int32.ofNat n)), .val (.int (Int32.ofNat kk)), .val (.ref b262), .val (.ref b296), .unset, .unset, .unset, .unset, .unset, .unset, .unset, .unset]) rfl k) ?_
  show own_Ends _ _ _ _ (T296.setTop (mkF m 88 #[.val (.int p0), .val (.int p1), .val (.int p2), .val (.int p3), .val (.int (Int32.ofNat n)), .val (.int (Int32.ofNat kk)), .val (.ref b262), .val (.ref b296), .unset, .unset, .unset, .unset, .unset, .unset, .unset, .unset] []))
  refine own_pre (fun t k => XS.iload X296.here hx rfl (hb hby at_88) rfl k) ?_
  show own_Ends _ _ _ _ (T296.setTop (mkF m 90 #[.val (.int p0), .val (.int p1), .val (.int p2), .val (.int p3), .val (.int (Int32.ofNat n)), .val (.int (Int32.ofNat kk)), .val (.ref b262), .val (.ref b296), .unset, .unset, .unset, .unset, .unset, .unset, .unset, .unset] [(.int (Int32.ofNat n))]))
  obtain ⟨T302, h302, k302, X302, e302, E302, A302, st302⟩ := newP X296 hx hZ (hw _ (List.mem_of_getElem? (i := 1) rfl)) e296 (g := (mkF m 90 #[.val (.int p0), .val (.int p1), .val (.int p2), .val (.int p3), .val (.int (Int32.ofNat n)), .val (.int (Int32.ofNat kk)), .val (.ref b262), .val (.ref b296), .unset, .unset, .unset, .unset, .unset, .unset, .unset, .unset] [(.int (Int32.ofNat n))])) rfl (hb hby at_90) rfl (own_nnN (by omega)) (cap := 6) (by rw [own_clamp (by omega)]; omega) (by decide) (by decide) (by decide)
  obtain ⟨b302, g302⟩ : ∃ z, z = h296.size := ⟨_, rfl⟩
  rw [← g302] at A302 st302
  refine own_pre st302 ?_
  have ne303 : b262 ≠ b302 := Nat.ne_of_lt (Nat.lt_of_lt_of_le f298.lt (Nat.le_of_eq g302.symm))
  have ne304 : b296 ≠ b302 := Nat.ne_of_lt (Nat.lt_of_lt_of_le f301.lt (Nat.le_of_eq g302.symm))
  have f305 := f298.ext E302
  have f306 := f301.ext E302
  have L307 : n0 ≤ b302 := Nat.le_trans Zn300 (Nat.le_of_eq g302.symm)
  have Zn308 : n0 ≤ h302.size := Nat.le_trans Zn300 E302.1
  have f309 : Arv Z h302 b302 k302 .int (Int32.ofNat n) [] (.int (0 : Int32)) := Arv.new A302 (own_nnN (by omega))
  show own_Ends _ _ _ _ (T302.setTop (mkF m 92 #[.val (.int p0), .val (.int p1), .val (.int p2), .val (.int p3), .val (.int (Int32.ofNat n)), .val (.int (Int32.ofNat kk)), .val (.ref b262), .val (.ref b296), .unset, .unset, .unset, .unset, .unset, .unset, .unset, .unset] [(.ref b302)]))
  refine own_pre (fun t k => XS.astore X302.here hx rfl (hb hby at_92) rfl rfl (l' := #[.val (.int p0), .val (.int p1), .val (.int p2), .val (.int p3), .val (.int (Int32.ofNat n)), .val (.int (Int32.ofNat kk)), .val (.ref b262), .val (.ref b296), .val (.ref b302), .unset, .unset, .unset, .unset, .unset, .unset, .unset]) rfl k) ?_
  show own_Ends _ _ _ _ (T302.setTop (mkF m 94 #[.val (.int p0), .val (.int p1), .val (.int p2), .val (.int p3), .val (.int (Int32.ofNat n)), .val (.int (Int32.ofNat kk)), .val (.ref b262), .val (.ref b296), .val (.ref b302), .unset, .unset, .unset, .unset, .unset, .unset, .unset] []))
  refine own_pre (fun t k => XS.iload X302.here hx rfl (hb hby at_94) rfl k) ?_
  show own_Ends _ _ _ _ (T302.setTop (mkF m 96 #[.val (.int p0), .val (.int p1), .val (.int p2), .val (.int p3), .val (.int (Int32.ofNat n)), .val (.int (Int32.ofNat kk)), .val (.ref b262), .val (.ref b296), .val (.ref b302), .unset, .unset, .unset, .unset, .unset, .unset, .unset] [(.int (Int32.ofNat n))]))
  obtain ⟨T310, h310, k310, X310, e310, E310, A310, st310⟩ := newP X302 hx hZ (hw _ (List.mem_of_getElem? (i := 1) rfl)) e302 (g := (mkF m 96 #[.val (.int p0), .val (.int p1), .val (.int p2), .val (.int p3), .val (.int (Int32.ofNat n)), .val (.int (Int32.ofNat kk)), .val (.ref b262), .val (.ref b296), .val (.ref b302), .unset, .unset, .unset, .unset, .unset, .unset, .unset] [(.int (Int32.ofNat n))])) rfl (hb hby at_96) rfl (own_nnN (by omega)) (cap := 6) (by rw [own_clamp (by omega)]; omega) (by decide) (by decide) (by decide)
  obtain ⟨b310, g310⟩ : ∃ z, z = h302.size := ⟨_, rfl⟩
  rw [← g310] at A310 st310
  refine own_pre st310 ?_
  have ne311 : b262 ≠ b310 := Nat.ne_of_lt (Nat.lt_of_lt_of_le f305.lt (Nat.le_of_eq g310.symm))
  have ne312 : b296 ≠ b310 := Nat.ne_of_lt (Nat.lt_of_lt_of_le f306.lt (Nat.le_of_eq g310.symm))
  have ne313 : b302 ≠ b310 := Nat.ne_of_lt (Nat.lt_of_lt_of_le f309.lt (Nat.le_of_eq g310.symm))
  have f314 := f305.ext E310
  have f315 := f306.ext E310
  have f316 := f309.ext E310
  have L317 : n0 ≤ b310 := Nat.le_trans Zn308 (Nat.le_of_eq g310.symm)
  have Zn318 : n0 ≤ h310.size := Nat.le_trans Zn308 E310.1
  have f319 : Arv Z h310 b310 k310 .int (Int32.ofNat n) [] (.int (0 : Int32)) := Arv.new A310 (own_nnN (by omega))
  show own_Ends _ _ _ _ (T310.setTop (mkF m 98 #[.val (.int p0), .val (.int p1), .val (.int p2), .val (.int p3), .val (.int (Int32.ofNat n)), .val (.int (Int32.ofNat kk)), .val (.ref b262), .val (.ref b296), .val (.ref b302), .unset, .unset, .unset, .unset, .unset, .unset, .unset] [(.ref b310)]))
  refine own_pre (fun t k => XS.astore X310.here hx rfl (hb hby at_98) rfl rfl (l' := #[.val (.int p0), .val (.int p1), .val (.int p2), .val (.int p3), .val (.int (Int32.ofNat n)), .val (.int (Int32.ofNat kk)), .val (.ref b262), .val (.ref b296), .val (.ref b302), .val (.ref b310), .unset, .unset, .unset, .unset, .unset, .unset]) rfl k) ?_
  have f320 : Arv Z h310 b302 k302 .int (Int32.ofNat n) (own_posL n kk 0) (.int (0 : Int32)) := f316.pad (own_pos0 n kk)
  have f321 : Arv Z h310 b310 k310 .int (Int32.ofNat n) (own_splL n (own_mkf p1) 0) (.int (0 : Int32)) := f319.pad (own_spl0 n _)
  show own_Ends _ _ _ _ (T310.setTop (mkF m 100 #[.val (.int p0), .val (.int p1), .val (.int p2), .val (.int p3), .val (.int (Int32.ofNat n)), .val (.int (Int32.ofNat kk)), .val (.ref b262), .val (.ref b296), .val (.ref b302), .val (.ref b310), .unset, .unset, .unset, .unset, .unset, .unset] []))
  refine own_pre (fun t k => XS.aload X310.here hx rfl (hb hby at_100) rfl rfl k) ?_
  show own_Ends _ _ _ _ (T310.setTop (mkF m 102 #[.val (.int p0), .val (.int p1), .val (.int p2), .val (.int p3), .val (.int (Int32.ofNat n)), .val (.int (Int32.ofNat kk)), .val (.ref b262), .val (.ref b296), .val (.ref b302), .val (.ref b310), .unset, .unset, .unset, .unset, .unset, .unset] [(.ref b296)]))
  refine own_pre (fun t k => XS.aload X310.here hx rfl (hb hby at_102) rfl rfl k) ?_
  show own_Ends _ _ _ _ (T310.setTop (mkF m 104 #[.val (.int p0), .val (.int p1), .val (.int p2), .val (.int p3), .val (.int (Int32.ofNat n)), .val (.int (Int32.ofNat kk)), .val (.ref b262), .val (.ref b296), .val (.ref b302), .val (.ref b310), .unset, .unset, .unset, .unset, .unset, .unset] [(.ref b302), (.ref b296)]))
  refine own_pre (fun t k => XS.aload X310.here hx rfl (hb hby at_104) rfl rfl k) ?_
  show own_Ends _ _ _ _ (T310.setTop (mkF m 106 #[.val (.int p0), .val (.int p1), .val (.int p2), .val (.int p3), .val (.int (Int32.ofNat n)), .val (.int (Int32.ofNat kk)), .val (.ref b262), .val (.ref b296), .val (.ref b302), .val (.ref b310), .unset, .unset, .unset, .unset, .unset, .unset] [(.ref b310), (.ref b302), (.ref b296)]))
  refine own_pre (fun t k => XS.aload X310.here hx rfl (hb hby at_106) rfl rfl k) ?_
  show own_Ends _ _ _ _ (T310.setTop (mkF m 108 #[.val (.int p0), .val (.int p1), .val (.int p2), .val (.int p3), .val (.int (Int32.ofNat n)), .val (.int (Int32.ofNat kk)), .val (.ref b262), .val (.ref b296), .val (.ref b302), .val (.ref b310), .unset, .unset, .unset, .unset, .unset, .unset] [(.ref b262), (.ref b310), (.ref b302), (.ref b296)]))
  refine own_pre (fun t k => XS.iload X310.here hx rfl (hb hby at_108) rfl k) ?_
  show own_Ends _ _ _ _ (T310.setTop (mkF m 110 #[.val (.int p0), .val (.int p1), .val (.int p2), .val (.int p3), .val (.int (Int32.ofNat n)), .val (.int (Int32.ofNat kk)), .val (.ref b262), .val (.ref b296), .val (.ref b302), .val (.ref b310), .unset, .unset, .unset, .unset, .unset, .unset] [(.int (Int32.ofNat n)), (.ref b262), (.ref b310), (.ref b302), (.ref b296)]))
  refine own_pre (fun t k => XS.iload X310.here hx rfl (hb hby at_110) rfl k) ?_
  show own_Ends _ _ _ _ (T310.setTop (mkF m 112 #[.val (.int p0), .val (.int p1), .val (.int p2), .val (.int p3), .val (.int (Int32.ofNat n)), .val (.int (Int32.ofNat kk)), .val (.ref b262), .val (.ref b296), .val (.ref b302), .val (.ref b310), .unset, .unset, .unset, .unset, .unset, .unset] [(.int (Int32.ofNat kk)), (.int (Int32.ofNat n)), (.ref b262), (.ref b310), (.ref b302), (.ref b296)]))
  refine own_pre (fun t k => XS.iconst X310.here hx rfl (hb hby at_112) k) ?_
  show own_Ends _ _ _ _ (T310.setTop (mkF m 113 #[.val (.int p0), .val (.int p1), .val (.int p2), .val (.int p3), .val (.int (Int32.ofNat n)), .val (.int (Int32.ofNat kk)), .val (.ref b262), .val (.ref b296), .val (.ref b302), .val (.ref b310), .unset, .unset, .unset, .unset, .unset, .unset] [(.int (0 : Int32)), (.int (Int32.ofNat kk)), (.int (Int32.ofNat n)), (.ref b262), (.ref b310), (.ref b302), (.ref b296)]))
  obtain ⟨_, _, ⟨T322, L322, k322, n322⟩, -, X322, ⟨Lc322, hQ322, l322, y322, z322⟩, st322⟩ := Jvm.LawKit.callS X310 hx (y := (⟨"com/example/bisimilar/bisimilar/equivalence/RefinementHistoryClassStartPinLaw", "set", "([I[I[I[IIII)V"⟩ : MethodName)) hown (mvT hZ (hw _ (List.mem_of_getElem? (i := 6) rfl))) (mvT hZ (hw _ (List.mem_of_getElem? (i := 7) rfl))) (mvT hZ (hw _ (List.mem_of_getElem? (i := 4) rfl))) (mvT hZ (hw _ (List.mem_of_getElem? (i := 8) rfl))) (by decide) (backOf (W := 0) (rm3 l Z a0 hw [] b296 b302 b310 b262 (Int32.ofNat n) (Int32.ofNat kk) (0 : Int32) n kk 0 (own_mkf p1) k296 k302 k310 k262 [] [(.int (own_mark p1 (0 : Int32))), (.int (own_mark p1 (1 : Int32))), (.int (own_mark p1 (2 : Int32))), (.int (own_mark p1 (3 : Int32))), (.int (own_mark p1 (4 : Int32))), (.int (own_mark p1 (5 : Int32)))] h310 n0 Zn318 rfl rfl rfl f315 f320 f321 f314 L299 L307 L317 ne304 ne312 (Ne.symm ne297) ne313 (Ne.symm ne303) (Ne.symm ne311) h1 hn hk (by decide) rfl) hZ (hw _ (List.mem_of_getElem? (i := 8) rfl)) (hw _ (List.mem_of_getElem? (i := 4) rfl)) (by decide) (by decide)) (g := (mkF m 113 #[.val (.int p0), .val (.int p1), .val (.int p2), .val (.int p3), .val (.int (Int32.ofNat n)), .val (.int (Int32.ofNat kk)), .val (.ref b262), .val (.ref b296), .val (.ref b302), .val (.ref b310), .unset, .unset, .unset, .unset, .unset, .unset] [(.int (0 : Int32)), (.int (Int32.ofNat kk)), (.int (Int32.ofNat n)), (.ref b262), (.ref b310), (.ref b302), (.ref b296)])) rfl (by rw [hml]; rfl) (argsL := [(.ref b296), (.ref b302), (.ref b310), (.ref b262), (.int (Int32.ofNat n)), (.int (Int32.ofNat kk)), (.int (0 : Int32))]) (rest := []) (lenOf own_pd1 rfl) rfl (by show 2 * 0 + _ ≤ _; exact Nat.le_of_eq rfl) (hb hby at_113) (fun _ _ => ⟨rfl, e310, (by decide : 4 + 0 ≤ _), (by decide : 24 + 0 ≤ _)⟩)
  dsimp only [Pt.U, Pt.locs, Pt.cells, Pt.slots] at X322 l322 y322 z322 st322 hQ322
  subst l322 y322 z322
  obtain ⟨rfl, Nq322, Kq322, ⟨vz322, va322⟩, vb322, vc322⟩ := hQ322
  have N322 := Fr.app N294 Nq322
  obtain ⟨LL322, X322, N322⟩ := own_hide X322 N322
  have f323 := f314.keep Kq322 (ninS ne297 (ninS ne303 (ninS ne311 nin0)))
  have Zn322 : n0 ≤ T322.heap.size := Nat.le_trans Zn318 Kq322.1
  refine own_pre st322 ?_
  show own_Ends _ _ _ _ (T322.setTop (mkF m 116 #[.val (.int p0), .val (.int p1), .val (.int p2), .val (.int p3), .val (.int (Int32.ofNat n)), .val (.int (Int32.ofNat kk)), .val (.ref b262), .val (.ref b296), .val (.ref b302), .val (.ref b310), .unset, .unset, .unset, .unset, .unset, .unset] []))
  refine own_pre (fun t k => XS.aload X322.here hx rfl (hb hby at_116) rfl rfl k) ?_
  show own_Ends _ _ _ _ (T322.setTop (mkF m 118 #[.val (.int p0), .val (.int p1), .val (.int p2), .val (.int p3), .val (.int (Int32.ofNat n)), .val (.int (Int32.ofNat kk)), .val (.ref b262), .val (.ref b296), .val (.ref b302), .val (.ref b310), .unset, .unset, .unset, .unset, .unset, .unset] [(.ref b296)]))
  refine own_pre (fun t k => XS.aload X322.here hx rfl (hb hby at_118) rfl rfl k) ?_
  show own_Ends _ _ _ _ (T322.setTop (mkF m 120 #[.val (.int p0), .val (.int p1), .val (.int p2), .val (.int p3), .val (.int (Int32.ofNat n)), .val (.int (Int32.ofNat kk)), .val (.ref b262), .val (.ref b296), .val (.ref b302), .val (.ref b310), .unset, .unset, .unset, .unset, .unset, .unset] [(.ref b302), (.ref b296)]))
  refine own_pre (fun t k => XS.aload X322.here hx rfl (hb hby at_120) rfl rfl k) ?_
  show own_Ends _ _ _ _ (T322.setTop (mkF m 122 #[.val (.int p0), .val (.int p1), .val (.int p2), .val (.int p3), .val (.int (Int32.ofNat n)), .val (.int (Int32.ofNat kk)), .val (.ref b262), .val (.ref b296), .val (.ref b302), .val (.ref b310), .unset, .unset, .unset, .unset, .unset, .unset] [(.ref b310), (.ref b302), (.ref b296)]))
  refine own_pre (fun t k => XS.aload X322.here hx rfl (hb hby at_122) rfl rfl k) ?_
  show own_Ends _ _ _ _ (T322.setTop (mkF m 124 #[.val (.int p0), .val (.int p1), .val (.int p2), .val (.int p3), .val (.int (Int32.ofNat n)), .val (.int (Int32.ofNat kk)), .val (.ref b262), .val (.ref b296), .val (.ref b302), .val (.ref b310), .unset, .unset, .unset, .unset, .unset, .unset] [(.ref b262), (.ref b310), (.ref b302), (.ref b296)]))
  refine own_pre (fun t k => XS.iload X322.here hx rfl (hb hby at_124) rfl k) ?_
  show own_Ends _ _ _ _ (T322.setTop (mkF m 126 #[.val (.int p0), .val (.int p1), .val (.int p2), .val (.int p3), .val (.int (Int32.ofNat n)), .val (.int (Int32.ofNat kk)), .val (.ref b262), .val (.ref b296), .val (.ref b302), .val (.ref b310), .unset, .unset, .unset, .unset, .unset, .unset] [(.int (Int32.ofNat n)), (.ref b262), (.ref b310), (.ref b302), (.ref b296)]))
  refine own_pre (fun t k => XS.iload X322.here hx rfl (hb hby at_126) rfl k) ?_
  show own_Ends _ _ _ _ (T322.setTop (mkF m 128 #[.val (.int p0), .val (.int p1), .val (.int p2), .val (.int p3), .val (.int (Int32.ofNat n)), .val (.int (Int32.ofNat kk)), .val (.ref b262), .val (.ref b296), .val (.ref b302), .val (.ref b310), .unset, .unset, .unset, .unset, .unset, .unset] [(.int (Int32.ofNat kk)), (.int (Int32.ofNat n)), (.ref b262), (.ref b310), (.ref b302), (.ref b296)]))
  refine own_pre (fun t k => XS.iconst X322.here hx rfl (hb hby at_128) k) ?_
  show own_Ends _ _ _ _ (T322.setTop (mkF m 129 #[.val (.int p0), .val (.int p1), .val (.int p2), .val (.int p3), .val (.int (Int32.ofNat n)), .val (.int (Int32.ofNat kk)), .val (.ref b262), .val (.ref b296), .val (.ref b302), .val (.ref b310), .unset, .unset, .unset, .unset, .unset, .unset] [(.int (1 : Int32)), (.int (Int32.ofNat kk)), (.int (Int32.ofNat n)), (.ref b262), (.ref b310), (.ref b302), (.ref b296)]))
  obtain ⟨_, _, ⟨T324, L324, k324, n324⟩, -, X324, ⟨Lc324, hQ324, l324, y324, z324⟩, st324⟩ := Jvm.LawKit.callS X322 hx (y := (⟨"com/example/bisimilar/bisimilar/equivalence/RefinementHistoryClassStartPinLaw", "set", "([I[I[I[IIII)V"⟩ : MethodName)) hown (mvT hZ (hw _ (List.mem_of_getElem? (i := 6) rfl))) (mvT hZ (hw _ (List.mem_of_getElem? (i := 7) rfl))) (mvT hZ (hw _ (List.mem_of_getElem? (i := 4) rfl))) (mvT hZ (hw _ (List.mem_of_getElem? (i := 8) rfl))) (by decide) (backOf (W := 0) (rm3 l Z a0 hw [] b296 b302 b310 b262 (Int32.ofNat n) (Int32.ofNat kk) (1 : Int32) n kk 1 (own_mkf p1) k296 k302 k310 k262 vz322 [(.int (own_mark p1 (0 : Int32))), (.int (own_mark p1 (1 : Int32))), (.int (own_mark p1 (2 : Int32))), (.int (own_mark p1 (3 : Int32))), (.int (own_mark p1 (4 : Int32))), (.int (own_mark p1 (5 : Int32)))] T322.heap n0 Zn322 rfl rfl rfl va322 vb322 vc322 f323 L299 L307 L317 ne304 ne312 (Ne.symm ne297) ne313 (Ne.symm ne303) (Ne.symm ne311) h1 hn hk (by decide) rfl) hZ (hw _ (List.mem_of_getElem? (i := 8) rfl)) (hw _ (List.mem_of_getElem? (i := 4) rfl)) (by decide) (by decide)) (g := (mkF m 129 #[.val (.int p0), .val (.int p1), .val (.int p2), .val (.int p3), .val (.int (Int32.ofNat n)), .val (.int (Int32.ofNat kk)), .val (.ref b262), .val (.ref b296), .val (.ref b302), .val (.ref b310), .unset, .unset, .unset, .unset, .unset, .unset] [(.int (1 : Int32)), (.int (Int32.ofNat kk)), (.int (Int32.ofNat n)), (.ref b262), (.ref b310), (.ref b302), (.ref b296)])) rfl (by rw [hml]; rfl) (argsL := [(.ref b296), (.ref b302), (.ref b310), (.ref b262), (.int (Int32.ofNat n)), (.int (Int32.ofNat kk)), (.int (1 : Int32))]) (rest := []) (lenOf own_pd1 rfl) rfl (by show 2 * 0 + _ ≤ _; exact Nat.le_of_eq rfl) (hb hby at_129) (fun _ _ => ⟨rfl, rfl, (by decide : 4 + 0 ≤ _), (by decide : 24 + 0 ≤ _)⟩)
  dsimp only [Pt.U, Pt.locs, Pt.cells, Pt.slots] at X324 l324 y324 z324 st324 hQ324
  subst l324 y324 z324
  obtain ⟨rfl, Nq324, Kq324, ⟨vz324, va324⟩, vb324, vc324⟩ := hQ324
  have N324 := Fr.app N322 Nq324
  obtain ⟨LL324, X324, N324⟩ := own_hide X324 N324
  have f325 := f323.keep Kq324 (ninS ne297 (ninS ne303 (ninS ne311 nin0)))
  have Zn324 : n0 ≤ T324.heap.size := Nat.le_trans Zn322 Kq324.1
  refine own_pre st324 ?_
  show own_Ends _ _ _ _ (T324.setTop (mkF m 132 #[.val (.int p0), .val (.int p1), .val (.int p2), .val (.int p3), .val (.int (Int32.ofNat n)), .val (.int (Int32.ofNat kk)), .val (.ref b262), .val (.ref b296), .val (.ref b302), .val (.ref b310), .unset, .unset, .unset, .unset, .unset, .unset] []))
  refine own_pre (fun t k => XS.aload X324.here hx rfl (hb hby at_132) rfl rfl k) ?_
  show own_Ends _ _ _ _ (T324.setTop (mkF m 134 #[.val (.int p0), .val (.int p1), .val (.int p2), .val (.int p3), .val (.int (Int32.ofNat n)), .val (.int (Int32.ofNat kk)), .val (.ref b262), .val (.ref b296), .val (.ref b302), .val (.ref b310), .unset, .unset, .unset, .unset, .unset, .unset] [(.ref b296)]))
  refine own_pre (fun t k => XS.aload X324.here hx rfl (hb hby at_134) rfl rfl k) ?_
  show own_Ends _ _ _ _ (T324.setTop (mkF m 136 #[.val (.int p0), .val (.int p1), .val (.int p2), .val (.int p3), .val (.int (Int32.ofNat n)), .val (.int (Int32.ofNat kk)), .val (.ref b262), .val (.ref b296), .val (.ref b302), .val (.ref b310), .unset, .unset, .unset, .unset, .unset, .unset] [(.ref b302), (.ref b296)]))
  refine own_pre (fun t k => XS.aload X324.here hx rfl (hb hby at_136) rfl rfl k) ?_
  show own_Ends _ _ _ _ (T324.setTop (mkF m 138 #[.val (.int p0), .val (.int p1), .val (.int p2), .val (.int p3), .val (.int (Int32.ofNat n)), .val (.int (Int32.ofNat kk)), .val (.ref b262), .val (.ref b296), .val (.ref b302), .val (.ref b310), .unset, .unset, .unset, .unset, .unset, .unset] [(.ref b310), (.ref b302), (.ref b296)]))
  refine own_pre (fun t k => XS.aload X324.here hx rfl (hb hby at_138) rfl rfl k) ?_
  show own_Ends _ _ _ _ (T324.setTop (mkF m 140 #[.val (.int p0), .val (.int p1), .val (.int p2), .val (.int p3), .val (.int (Int32.ofNat n)), .val (.int (Int32.ofNat kk)), .val (.ref b262), .val (.ref b296), .val (.ref b302), .val (.ref b310), .unset, .unset, .unset, .unset, .unset, .unset] [(.ref b262), (.ref b310), (.ref b302), (.ref b296)]))
  refine own_pre (fun t k => XS.iload X324.here hx rfl (hb hby at_140) rfl k) ?_
  show own_Ends _ _ _ _ (T324.setTop (mkF m 142 #[.val (.int p0), .val (.int p1), .val (.int p2), .val (.int p3), .val (.int (Int32.ofNat n)), .val (.int (Int32.ofNat kk)), .val (.ref b262), .val (.ref b296), .val (.ref b302), .val (.ref b310), .unset, .unset, .unset, .unset, .unset, .unset] [(.int (Int32.ofNat n)), (.ref b262), (.ref b310), (.ref b302), (.ref b296)]))
  refine own_pre (fun t k => XS.iload X324.here hx rfl (hb hby at_142) rfl k) ?_
  show own_Ends _ _ _ _ (T324.setTop (mkF m 144 #[.val (.int p0), .val (.int p1), .val (.int p2), .val (.int p3), .val (.int (Int32.ofNat n)), .val (.int (Int32.ofNat kk)), .val (.ref b262), .val (.ref b296), .val (.ref b302), .val (.ref b310), .unset, .unset, .unset, .unset, .unset, .unset] [(.int (Int32.ofNat kk)), (.int (Int32.ofNat n)), (.ref b262), (.ref b310), (.ref b302), (.ref b296)]))
  refine own_pre (fun t k => XS.iconst X324.here hx rfl (hb hby at_144) k) ?_
  show own_Ends _ _ _ _ (T324.setTop (mkF m 145 #[.val (.int p0), .val (.int p1), .val (.int p2), .val (.int p3), .val (.int (Int32.ofNat n)), .val (.int (Int32.ofNat kk)), .val (.ref b262), .val (.ref b296), .val (.ref b302), .val (.ref b310), .unset, .unset, .unset, .unset, .unset, .unset] [(.int (2 : Int32)), (.int (Int32.ofNat kk)), (.int (Int32.ofNat n)), (.ref b262), (.ref b310), (.ref b302), (.ref b296)]))
  obtain ⟨_, _, ⟨T326, L326, k326, n326⟩, -, X326, ⟨Lc326, hQ326, l326, y326, z326⟩, st326⟩ := Jvm.LawKit.callS X324 hx (y := (⟨"com/example/bisimilar/bisimilar/equivalence/RefinementHistoryClassStartPinLaw", "set", "([I[I[I[IIII)V"⟩ : MethodName)) hown (mvT hZ (hw _ (List.mem_of_getElem? (i := 6) rfl))) (mvT hZ (hw _ (List.mem_of_getElem? (i := 7) rfl))) (mvT hZ (hw _ (List.mem_of_getElem? (i := 4) rfl))) (mvT hZ (hw _ (List.mem_of_getElem? (i := 8) rfl))) (by decide) (backOf (W := 0) (rm3 l Z a0 hw [] b296 b302 b310 b262 (Int32.ofNat n) (Int32.ofNat kk) (2 : Int32) n kk 2 (own_mkf p1) k296 k302 k310 k262 vz324 [(.int (own_mark p1 (0 : Int32))), (.int (own_mark p1 (1 : Int32))), (.int (own_mark p1 (2 : Int32))), (.int (own_mark p1 (3 : Int32))), (.int (own_mark p1 (4 : Int32))), (.int (own_mark p1 (5 : Int32)))] T324.heap n0 Zn324 rfl rfl rfl va324 vb324 vc324 f325 L299 L307 L317 ne304 ne312 (Ne.symm ne297) ne313 (Ne.symm ne303) (Ne.symm ne311) h1 hn hk (by decide) rfl) hZ (hw _ (List.mem_of_getElem? (i := 8) rfl)) (hw _ (List.mem_of_getElem? (i := 4) rfl)) (by decide) (by decide)) (g := (mkF m 145 #[.val (.int p0), .val (.int p1), .val (.int p2), .val (.int p3), .val (.int (Int32.ofNat n)), .val (.int (Int32.ofNat kk)), .val (.ref b262), .val (.ref b296), .val (.ref b302), .val (.ref b310), .unset, .unset, .unset, .unset, .unset, .unset] [(.int (2 : Int32)), (.int (Int32.ofNat kk)), (.int (Int32.ofNat n)), (.ref b262), (.ref b310), (.ref b302), (.ref b296)])) rfl (by rw [hml]; rfl) (argsL := [(.ref b296), (.ref b302), (.ref b310), (.ref b262), (.int (Int32.ofNat n)), (.int (Int32.ofNat kk)), (.int (2 : Int32))]) (rest := []) (lenOf own_pd1 rfl) rfl (by show 2 * 0 + _ ≤ _; exact Nat.le_of_eq rfl) (hb hby at_145) (fun _ _ => ⟨rfl, rfl, (by decide : 4 + 0 ≤ _), (by decide : 24 + 0 ≤ _)⟩)
  dsimp only [Pt.U, Pt.locs, Pt.cells, Pt.slots] at X326 l326 y326 z326 st326 hQ326
  subst l326 y326 z326
  obtain ⟨rfl, Nq326, Kq326, ⟨vz326, va326⟩, vb326, vc326⟩ := hQ326
  have N326 := Fr.app N324 Nq326
  obtain ⟨LL326, X326, N326⟩ := own_hide X326 N326
  have f327 := f325.keep Kq326 (ninS ne297 (ninS ne303 (ninS ne311 nin0)))
  have Zn326 : n0 ≤ T326.heap.size := Nat.le_trans Zn324 Kq326.1
  refine own_pre st326 ?_
  show own_Ends _ _ _ _ (T326.setTop (mkF m 148 #[.val (.int p0), .val (.int p1), .val (.int p2), .val (.int p3), .val (.int (Int32.ofNat n)), .val (.int (Int32.ofNat kk)), .val (.ref b262), .val (.ref b296), .val (.ref b302), .val (.ref b310), .unset, .unset, .unset, .unset, .unset, .unset] []))
  refine own_pre (fun t k => XS.aload X326.here hx rfl (hb hby at_148) rfl rfl k) ?_
  show own_Ends _ _ _ _ (T326.setTop (mkF m 150 #[.val (.int p0), .val (.int p1), .val (.int p2), .val (.int p3), .val (.int (Int32.ofNat n)), .val (.int (Int32.ofNat kk)), .val (.ref b262), .val (.ref b296), .val (.ref b302), .val (.ref b310), .unset, .unset, .unset, .unset, .unset, .unset] [(.ref b296)]))
  refine own_pre (fun t k => XS.aload X326.here hx rfl (hb hby at_150) rfl rfl k) ?_
  show own_Ends _ _ _ _ (T326.setTop (mkF m 152 #[.val (.int p0), .val (.int p1), .val (.int p2), .val (.int p3), .val (.int (Int32.ofNat n)), .val (.int (Int32.ofNat kk)), .val (.ref b262), .val (.ref b296), .val (.ref b302), .val (.ref b310), .unset, .unset, .unset, .unset, .unset, .unset] [(.ref b302), (.ref b296)]))
  refine own_pre (fun t k => XS.aload X326.here hx rfl (hb hby at_152) rfl rfl k) ?_
  show own_Ends _ _ _ _ (T326.setTop (mkF m 154 #[.val (.int p0), .val (.int p1), .val (.int p2), .val (.int p3), .val (.int (Int32.ofNat n)), .val (.int (Int32.ofNat kk)), .val (.ref b262), .val (.ref b296), .val (.ref b302), .val (.ref b310), .unset, .unset, .unset, .unset, .unset, .unset] [(.ref b310), (.ref b302), (.ref b296)]))
  refine own_pre (fun t k => XS.aload X326.here hx rfl (hb hby at_154) rfl rfl k) ?_
  show own_Ends _ _ _ _ (T326.setTop (mkF m 156 #[.val (.int p0), .val (.int p1), .val (.int p2), .val (.int p3), .val (.int (Int32.ofNat n)), .val (.int (Int32.ofNat kk)), .val (.ref b262), .val (.ref b296), .val (.ref b302), .val (.ref b310), .unset, .unset, .unset, .unset, .unset, .unset] [(.ref b262), (.ref b310), (.ref b302), (.ref b296)]))
  refine own_pre (fun t k => XS.iload X326.here hx rfl (hb hby at_156) rfl k) ?_
  show own_Ends _ _ _ _ (T326.setTop (mkF m 158 #[.val (.int p0), .val (.int p1), .val (.int p2), .val (.int p3), .val (.int (Int32.ofNat n)), .val (.int (Int32.ofNat kk)), .val (.ref b262), .val (.ref b296), .val (.ref b302), .val (.ref b310), .unset, .unset, .unset, .unset, .unset, .unset] [(.int (Int32.ofNat n)), (.ref b262), (.ref b310), (.ref b302), (.ref b296)]))
  refine own_pre (fun t k => XS.iload X326.here hx rfl (hb hby at_158) rfl k) ?_
  show own_Ends _ _ _ _ (T326.setTop (mkF m 160 #[.val (.int p0), .val (.int p1), .val (.int p2), .val (.int p3), .val (.int (Int32.ofNat n)), .val (.int (Int32.ofNat kk)), .val (.ref b262), .val (.ref b296), .val (.ref b302), .val (.ref b310), .unset, .unset, .unset, .unset, .unset, .unset] [(.int (Int32.ofNat kk)), (.int (Int32.ofNat n)), (.ref b262), (.ref b310), (.ref b302), (.ref b296)]))
  refine own_pre (fun t k => XS.iconst X326.here hx rfl (hb hby at_160) k) ?_
  show own_Ends _ _ _ _ (T326.setTop (mkF m 161 #[.val (.int p0), .val (.int p1), .val (.int p2), .val (.int p3), .val (.int (Int32.ofNat n)), .val (.int (Int32.ofNat kk)), .val (.ref b262), .val (.ref b296), .val (.ref b302), .val (.ref b310), .unset, .unset, .unset, .unset, .unset, .unset] [(.int (3 : Int32)), (.int (Int32.ofNat kk)), (.int (Int32.ofNat n)), (.ref b262), (.ref b310), (.ref b302), (.ref b296)]))
  obtain ⟨_, _, ⟨T328, L328, k328, n328⟩, -, X328, ⟨Lc328, hQ328, l328, y328, z328⟩, st328⟩ := Jvm.LawKit.callS X326 hx (y := (⟨"com/example/bisimilar/bisimilar/equivalence/RefinementHistoryClassStartPinLaw", "set", "([I[I[I[IIII)V"⟩ : MethodName)) hown (mvT hZ (hw _ (List.mem_of_getElem? (i := 6) rfl))) (mvT hZ (hw _ (List.mem_of_getElem? (i := 7) rfl))) (mvT hZ (hw _ (List.mem_of_getElem? (i := 4) rfl))) (mvT hZ (hw _ (List.mem_of_getElem? (i := 8) rfl))) (by decide) (backOf (W := 0) (rm3 l Z a0 hw [] b296 b302 b310 b262 (Int32.ofNat n) (Int32.ofNat kk) (3 : Int32) n kk 3 (own_mkf p1) k296 k302 k310 k262 vz326 [(.int (own_mark p1 (0 : Int32))), (.int (own_mark p1 (1 : Int32))), (.int (own_mark p1 (2 : Int32))), (.int (own_mark p1 (3 : Int32))), (.int (own_mark p1 (4 : Int32))), (.int (own_mark p1 (5 : Int32)))] T326.heap n0 Zn326 rfl rfl rfl va326 vb326 vc326 f327 L299 L307 L317 ne304 ne312 (Ne.symm ne297) ne313 (Ne.symm ne303) (Ne.symm ne311) h1 hn hk (by decide) rfl) hZ (hw _ (List.mem_of_getElem? (i := 8) rfl)) (hw _ (List.mem_of_getElem? (i := 4) rfl)) (by decide) (by decide)) (g := (mkF m 161 #[.val (.int p0), .val (.int p1), .val (.int p2), .val (.int p3), .val (.int (Int32.ofNat n)), .val (.int (Int32.ofNat kk)), .val (.ref b262), .val (.ref b296), .val (.ref b302), .val (.ref b310), .unset, .unset, .unset, .unset, .unset, .unset] [(.int (3 : Int32)), (.int (Int32.ofNat kk)), (.int (Int32.ofNat n)), (.ref b262), (.ref b310), (.ref b302), (.ref b296)])) rfl (by rw [hml]; rfl) (argsL := [(.ref b296), (.ref b302), (.ref b310), (.ref b262), (.int (Int32.ofNat n)), (.int (Int32.ofNat kk)), (.int (3 : Int32))]) (rest := []) (lenOf own_pd1 rfl) rfl (by show 2 * 0 + _ ≤ _; exact Nat.le_of_eq rfl) (hb hby at_161) (fun _ _ => ⟨rfl, rfl, (by decide : 4 + 0 ≤ _), (by decide : 24 + 0 ≤ _)⟩)
  dsimp only [Pt.U, Pt.locs, Pt.cells, Pt.slots] at X328 l328 y328 z328 st328 hQ328
  subst l328 y328 z328
  obtain ⟨rfl, Nq328, Kq328, ⟨vz328, va328⟩, vb328, vc328⟩ := hQ328
  have N328 := Fr.app N326 Nq328
  obtain ⟨LL328, X328, N328⟩ := own_hide X328 N328
  have f329 := f327.keep Kq328 (ninS ne297 (ninS ne303 (ninS ne311 nin0)))
  have Zn328 : n0 ≤ T328.heap.size := Nat.le_trans Zn326 Kq328.1
  refine own_pre st328 ?_
  show own_Ends _ _ _ _ (T328.setTop (mkF m 164 #[.val (.int p0), .val (.int p1), .val (.int p2), .val (.int p3), .val (.int (Int32.ofNat n)), .val (.int (Int32.ofNat kk)), .val (.ref b262), .val (.ref b296), .val (.ref b302), .val (.ref b310), .unset, .unset, .unset, .unset, .unset, .unset] []))
  refine own_pre (fun t k => XS.aload X328.here hx rfl (hb hby at_164) rfl rfl k) ?_
  show own_Ends _ _ _ _ (T328.setTop (mkF m 166 #[.val (.int p0), .val (.int p1), .val (.int p2), .val (.int p3), .val (.int (Int32.ofNat n)), .val (.int (Int32.ofNat kk)), .val (.ref b262), .val (.ref b296), .val (.ref b302), .val (.ref b310), .unset, .unset, .unset, .unset, .unset, .unset] [(.ref b296)]))
  refine own_pre (fun t k => XS.aload X328.here hx rfl (hb hby at_166) rfl rfl k) ?_
  show own_Ends _ _ _ _ (T328.setTop (mkF m 168 #[.val (.int p0), .val (.int p1), .val (.int p2), .val (.int p3), .val (.int (Int32.ofNat n)), .val (.int (Int32.ofNat kk)), .val (.ref b262), .val (.ref b296), .val (.ref b302), .val (.ref b310), .unset, .unset, .unset, .unset, .unset, .unset] [(.ref b302), (.ref b296)]))
  refine own_pre (fun t k => XS.aload X328.here hx rfl (hb hby at_168) rfl rfl k) ?_
  show own_Ends _ _ _ _ (T328.setTop (mkF m 170 #[.val (.int p0), .val (.int p1), .val (.int p2), .val (.int p3), .val (.int (Int32.ofNat n)), .val (.int (Int32.ofNat kk)), .val (.ref b262), .val (.ref b296), .val (.ref b302), .val (.ref b310), .unset, .unset, .unset, .unset, .unset, .unset] [(.ref b310), (.ref b302), (.ref b296)]))
  refine own_pre (fun t k => XS.aload X328.here hx rfl (hb hby at_170) rfl rfl k) ?_
  show own_Ends _ _ _ _ (T328.setTop (mkF m 172 #[.val (.int p0), .val (.int p1), .val (.int p2), .val (.int p3), .val (.int (Int32.ofNat n)), .val (.int (Int32.ofNat kk)), .val (.ref b262), .val (.ref b296), .val (.ref b302), .val (.ref b310), .unset, .unset, .unset, .unset, .unset, .unset] [(.ref b262), (.ref b310), (.ref b302), (.ref b296)]))
  refine own_pre (fun t k => XS.iload X328.here hx rfl (hb hby at_172) rfl k) ?_
  show own_Ends _ _ _ _ (T328.setTop (mkF m 174 #[.val (.int p0), .val (.int p1), .val (.int p2), .val (.int p3), .val (.int (Int32.ofNat n)), .val (.int (Int32.ofNat kk)), .val (.ref b262), .val (.ref b296), .val (.ref b302), .val (.ref b310), .unset, .unset, .unset, .unset, .unset, .unset] [(.int (Int32.ofNat n)), (.ref b262), (.ref b310), (.ref b302), (.ref b296)]))
  refine own_pre (fun t k => XS.iload X328.here hx rfl (hb hby at_174) rfl k) ?_
  show own_Ends _ _ _ _ (T328.setTop (mkF m 176 #[.val (.int p0), .val (.int p1), .val (.int p2), .val (.int p3), .val (.int (Int32.ofNat n)), .val (.int (Int32.ofNat kk)), .val (.ref b262), .val (.ref b296), .val (.ref b302), .val (.ref b310), .unset, .unset, .unset, .unset, .unset, .unset] [(.int (Int32.ofNat kk)), (.int (Int32.ofNat n)), (.ref b262), (.ref b310), (.ref b302), (.ref b296)]))
  refine own_pre (fun t k => XS.iconst X328.here hx rfl (hb hby at_176) k) ?_
  show own_Ends _ _ _ _ (T328.setTop (mkF m 177 #[.val (.int p0), .val (.int p1), .val (.int p2), .val (.int p3), .val (.int (Int32.ofNat n)), .val (.int (Int32.ofNat kk)), .val (.ref b262), .val (.ref b296), .val (.ref b302), .val (.ref b310), .unset, .unset, .unset, .unset, .unset, .unset] [(.int (4 : Int32)), (.int (Int32.ofNat kk)), (.int (Int32.ofNat n)), (.ref b262), (.ref b310), (.ref b302), (.ref b296)]))
  obtain ⟨_, _, ⟨T330, L330, k330, n330⟩, -, X330, ⟨Lc330, hQ330, l330, y330, z330⟩, st330⟩ := Jvm.LawKit.callS X328 hx (y := (⟨"com/example/bisimilar/bisimilar/equivalence/RefinementHistoryClassStartPinLaw", "set", "([I[I[I[IIII)V"⟩ : MethodName)) hown (mvT hZ (hw _ (List.mem_of_getElem? (i := 6) rfl))) (mvT hZ (hw _ (List.mem_of_getElem? (i := 7) rfl))) (mvT hZ (hw _ (List.mem_of_getElem? (i := 4) rfl))) (mvT hZ (hw _ (List.mem_of_getElem? (i := 8) rfl))) (by decide) (backOf (W := 0) (rm3 l Z a0 hw [] b296 b302 b310 b262 (Int32.ofNat n) (Int32.ofNat kk) (4 : Int32) n kk 4 (own_mkf p1) k296 k302 k310 k262 vz328 [(.int (own_mark p1 (0 : Int32))), (.int (own_mark p1 (1 : Int32))), (.int (own_mark p1 (2 : Int32))), (.int (own_mark p1 (3 : Int32))), (.int (own_mark p1 (4 : Int32))), (.int (own_mark p1 (5 : Int32)))] T328.heap n0 Zn328 rfl rfl rfl va328 vb328 vc328 f329 L299 L307 L317 ne304 ne312 (Ne.symm ne297) ne313 (Ne.symm ne303) (Ne.symm ne311) h1 hn hk (by decide) rfl) hZ (hw _ (List.mem_of_getElem? (i := 8) rfl)) (hw _ (List.mem_of_getElem? (i := 4) rfl)) (by decide) (by decide)) (g := (mkF m 177 #[.val (.int p0), .val (.int p1), .val (.int p2), .val (.int p3), .val (.int (Int32.ofNat n)), .val (.int (Int32.ofNat kk)), .val (.ref b262), .val (.ref b296), .val (.ref b302), .val (.ref b310), .unset, .unset, .unset, .unset, .unset, .unset] [(.int (4 : Int32)), (.int (Int32.ofNat kk)), (.int (Int32.ofNat n)), (.ref b262), (.ref b310), (.ref b302), (.ref b296)])) rfl (by rw [hml]; rfl) (argsL := [(.ref b296), (.ref b302), (.ref b310), (.ref b262), (.int (Int32.ofNat n)), (.int (Int32.ofNat kk)), (.int (4 : Int32))]) (rest := []) (lenOf own_pd1 rfl) rfl (by show 2 * 0 + _ ≤ _; exact Nat.le_of_eq rfl) (hb hby at_177) (fun _ _ => ⟨rfl, rfl, (by decide : 4 + 0 ≤ _), (by decide : 24 + 0 ≤ _)⟩)
  dsimp only [Pt.U, Pt.locs, Pt.cells, Pt.slots] at X330 l330 y330 z330 st330 hQ330
  subst l330 y330 z330
  obtain ⟨rfl, Nq330, Kq330, ⟨vz330, va330⟩, vb330, vc330⟩ := hQ330
  have N330 := Fr.app N328 Nq330
  obtain ⟨LL330, X330, N330⟩ := own_hide X330 N330
  have f331 := f329.keep Kq330 (ninS ne297 (ninS ne303 (ninS ne311 nin0)))
  have Zn330 : n0 ≤ T330.heap.size := Nat.le_trans Zn328 Kq330.1
  refine own_pre st330 ?_
  show own_Ends _ _ _ _ (T330.setTop (mkF m 180 #[.val (.int p0), .val (.int p1), .val (.int p2), .val (.int p3), .val (.int (Int32.ofNat n)), .val (.int (Int32.ofNat kk)), .val (.ref b262), .val (.ref b296), .val (.ref b302), .val (.ref b310), .unset, .unset, .unset, .unset, .unset, .unset] []))
  refine own_pre (fun t k => XS.aload X330.here hx rfl (hb hby at_180) rfl rfl k) ?_
  show own_Ends _ _ _ _ (T330.setTop (mkF m 182 #[.val (.int p0), .val (.int p1), .val (.int p2), .val (.int p3), .val (.int (Int32.ofNat n)), .val (.int (Int32.ofNat kk)), .val (.ref b262), .val (.ref b296), .val (.ref b302), .val (.ref b310), .unset, .unset, .unset, .unset, .unset, .unset] [(.ref b296)]))
  refine own_pre (fun t k => XS.aload X330.here hx rfl (hb hby at_182) rfl rfl k) ?_
  show own_Ends _ _ _ _ (T330.setTop (mkF m 184 #[.val (.int p0), .val (.int p1), .val (.int p2), .val (.int p3), .val (.int (Int32.ofNat n)), .val (.int (Int32.ofNat kk)), .val (.ref b262), .val (.ref b296), .val (.ref b302), .val (.ref b310), .unset, .unset, .unset, .unset, .unset, .unset] [(.ref b302), (.ref b296)]))
  refine own_pre (fun t k => XS.aload X330.here hx rfl (hb hby at_184) rfl rfl k) ?_
  show own_Ends _ _ _ _ (T330.setTop (mkF m 186 #[.val (.int p0), .val (.int p1), .val (.int p2), .val (.int p3), .val (.int (Int32.ofNat n)), .val (.int (Int32.ofNat kk)), .val (.ref b262), .val (.ref b296), .val (.ref b302), .val (.ref b310), .unset, .unset, .unset, .unset, .unset, .unset] [(.ref b310), (.ref b302), (.ref b296)]))
  refine own_pre (fun t k => XS.aload X330.here hx rfl (hb hby at_186) rfl rfl k) ?_
  show own_Ends _ _ _ _ (T330.setTop (mkF m 188 #[.val (.int p0), .val (.int p1), .val (.int p2), .val (.int p3), .val (.int (Int32.ofNat n)), .val (.int (Int32.ofNat kk)), .val (.ref b262), .val (.ref b296), .val (.ref b302), .val (.ref b310), .unset, .unset, .unset, .unset, .unset, .unset] [(.ref b262), (.ref b310), (.ref b302), (.ref b296)]))
  refine own_pre (fun t k => XS.iload X330.here hx rfl (hb hby at_188) rfl k) ?_
  show own_Ends _ _ _ _ (T330.setTop (mkF m 190 #[.val (.int p0), .val (.int p1), .val (.int p2), .val (.int p3), .val (.int (Int32.ofNat n)), .val (.int (Int32.ofNat kk)), .val (.ref b262), .val (.ref b296), .val (.ref b302), .val (.ref b310), .unset, .unset, .unset, .unset, .unset, .unset] [(.int (Int32.ofNat n)), (.ref b262), (.ref b310), (.ref b302), (.ref b296)]))
  refine own_pre (fun t k => XS.iload X330.here hx rfl (hb hby at_190) rfl k) ?_
  show own_Ends _ _ _ _ (T330.setTop (mkF m 192 #[.val (.int p0), .val (.int p1), .val (.int p2), .val (.int p3), .val (.int (Int32.ofNat n)), .val (.int (Int32.ofNat kk)), .val (.ref b262), .val (.ref b296), .val (.ref b302), .val (.ref b310), .unset, .unset, .unset, .unset, .unset, .unset] [(.int (Int32.ofNat kk)), (.int (Int32.ofNat n)), (.ref b262), (.ref b310), (.ref b302), (.ref b296)]))
  refine own_pre (fun t k => XS.iconst X330.here hx rfl (hb hby at_192) k) ?_
  show own_Ends _ _ _ _ (T330.setTop (mkF m 193 #[.val (.int p0), .val (.int p1), .val (.int p2), .val (.int p3), .val (.int (Int32.ofNat n)), .val (.int (Int32.ofNat kk)), .val (.ref b262), .val (.ref b296), .val (.ref b302), .val (.ref b310), .unset, .unset, .unset, .unset, .unset, .unset] [(.int (5 : Int32)), (.int (Int32.ofNat kk)), (.int (Int32.ofNat n)), (.ref b262), (.ref b310), (.ref b302), (.ref b296)]))
  obtain ⟨_, _, ⟨T332, L332, k332, n332⟩, -, X332, ⟨Lc332, hQ332, l332, y332, z332⟩, st332⟩ := Jvm.LawKit.callS X330 hx (y := (⟨"com/example/bisimilar/bisimilar/equivalence/RefinementHistoryClassStartPinLaw", "set", "([I[I[I[IIII)V"⟩ : MethodName)) hown (mvT hZ (hw _ (List.mem_of_getElem? (i := 6) rfl))) (mvT hZ (hw _ (List.mem_of_getElem? (i := 7) rfl))) (mvT hZ (hw _ (List.mem_of_getElem? (i := 4) rfl))) (mvT hZ (hw _ (List.mem_of_getElem? (i := 8) rfl))) (by decide) (backOf (W := 0) (rm3 l Z a0 hw [] b296 b302 b310 b262 (Int32.ofNat n) (Int32.ofNat kk) (5 : Int32) n kk 5 (own_mkf p1) k296 k302 k310 k262 vz330 [(.int (own_mark p1 (0 : Int32))), (.int (own_mark p1 (1 : Int32))), (.int (own_mark p1 (2 : Int32))), (.int (own_mark p1 (3 : Int32))), (.int (own_mark p1 (4 : Int32))), (.int (own_mark p1 (5 : Int32)))] T330.heap n0 Zn330 rfl rfl rfl va330 vb330 vc330 f331 L299 L307 L317 ne304 ne312 (Ne.symm ne297) ne313 (Ne.symm ne303) (Ne.symm ne311) h1 hn hk (by decide) rfl) hZ (hw _ (List.mem_of_getElem? (i := 8) rfl)) (hw _ (List.mem_of_getElem? (i := 4) rfl)) (by decide) (by decide)) (g := (mkF m 193 #[.val (.int p0), .val (.int p1), .val (.int p2), .val (.int p3), .val (.int (Int32.ofNat n)), .val (.int (Int32.ofNat kk)), .val (.ref b262), .val (.ref b296), .val (.ref b302), .val (.ref b310), .unset, .unset, .unset, .unset, .unset, .unset] [(.int (5 : Int32)), (.int (Int32.ofNat kk)), (.int (Int32.ofNat n)), (.ref b262), (.ref b310), (.ref b302), (.ref b296)])) rfl (by rw [hml]; rfl) (argsL := [(.ref b296), (.ref b302), (.ref b310), (.ref b262), (.int (Int32.ofNat n)), (.int (Int32.ofNat kk)), (.int (5 : Int32))]) (rest := []) (lenOf own_pd1 rfl) rfl (by show 2 * 0 + _ ≤ _; exact Nat.le_of_eq rfl) (hb hby at_193) (fun _ _ => ⟨rfl, rfl, (by decide : 4 + 0 ≤ _), (by decide : 24 + 0 ≤ _)⟩)
  dsimp only [Pt.U, Pt.locs, Pt.cells, Pt.slots] at X332 l332 y332 z332 st332 hQ332
  subst l332 y332 z332
  obtain ⟨rfl, Nq332, Kq332, ⟨vz332, va332⟩, vb332, vc332⟩ := hQ332
  have N332 := Fr.app N330 Nq332
  obtain ⟨LL332, X332, N332⟩ := own_hide X332 N332
  have f333 := f331.keep Kq332 (ninS ne297 (ninS ne303 (ninS ne311 nin0)))
  have Zn332 : n0 ≤ T332.heap.size := Nat.le_trans Zn330 Kq332.1
  refine own_pre st332 ?_
  show own_Ends _ _ _ _ (T332.setTop (mkF m 196 #[.val (.int p0), .val (.int p1), .val (.int p2), .val (.int p3), .val (.int (Int32.ofNat n)), .val (.int (Int32.ofNat kk)), .val (.ref b262), .val (.ref b296), .val (.ref b302), .val (.ref b310), .unset, .unset, .unset, .unset, .unset, .unset] []))
  have J219 : ∀ (x10 : Int32) (hr : ¬ x10 < 0), own_Ends p e below (own_Fin s (fun v h L => v = some (.int 1) ∧ Fr n0 L) 24 192) (T332.setTop (mkF m 219 #[.val (.int p0), .val (.int p1), .val (.int p2), .val (.int p3), .val (.int (Int32.ofNat n)), .val (.int (Int32.ofNat kk)), .val (.ref b262), .val (.ref b296), .val (.ref b302), .val (.ref b310), .val (.int x10), .unset, .unset, .unset, .unset, .unset] [])) := by
    intro x10 hr
    show own_Ends _ _ _ _ (T332.setTop (mkF m 219 #[.val (.int p0), .val (.int p1), .val (.int p2), .val (.int p3), .val (.int (Int32.ofNat n)), .val (.int (Int32.ofNat kk)), .val (.ref b262), .val (.ref b296), .val (.ref b302), .val (.ref b310), .val (.int x10), .unset, .unset, .unset, .unset, .unset] []))
    refine own_pre (fun t k => XS.iloadN X332.here hx rfl (hb hby at_219) rfl k) ?_
    show own_Ends _ _ _ _ (T332.setTop (mkF m 220 #[.val (.int p0), .val (.int p1), .val (.int p2), .val (.int p3), .val (.int (Int32.ofNat n)), .val (.int (Int32.ofNat kk)), .val (.ref b262), .val (.ref b296), .val (.ref b302), .val (.ref b310), .val (.int x10), .unset, .unset, .unset, .unset, .unset] [(.int p3)]))
    refine own_pre (fun t k => X332.ldcInt hx hown (mvT hZ (hw _ (List.mem_of_getElem? (i := 0) rfl))) (g := (mkF m 220 #[.val (.int p0), .val (.int p1), .val (.int p2), .val (.int p3), .val (.int (Int32.ofNat n)), .val (.int (Int32.ofNat kk)), .val (.ref b262), .val (.ref b296), .val (.ref b302), .val (.ref b310), .val (.int x10), .unset, .unset, .unset, .unset, .unset] [(.int p3)])) rfl (hb hby at_220) _ k) ?_
    show own_Ends _ _ _ _ (T332.setTop (mkF m 222 #[.val (.int p0), .val (.int p1), .val (.int p2), .val (.int p3), .val (.int (Int32.ofNat n)), .val (.int (Int32.ofNat kk)), .val (.ref b262), .val (.ref b296), .val (.ref b302), .val (.ref b310), .val (.int x10), .unset, .unset, .unset, .unset, .unset] [(.int (2147483647 : Int32)), (.int p3)]))
    refine own_pre (fun t k => XS.iand X332.here hx rfl (hb hby at_222) rfl k) ?_
    show own_Ends _ _ _ _ (T332.setTop (mkF m 223 #[.val (.int p0), .val (.int p1), .val (.int p2), .val (.int p3), .val (.int (Int32.ofNat n)), .val (.int (Int32.ofNat kk)), .val (.ref b262), .val (.ref b296), .val (.ref b302), .val (.ref b310), .val (.int x10), .unset, .unset, .unset, .unset, .unset] [(.int (p3 &&& (2147483647 : Int32)))]))
    refine own_pre (fun t k => XS.iload X332.here hx rfl (hb hby at_223) rfl k) ?_
    show own_Ends _ _ _ _ (T332.setTop (mkF m 225 #[.val (.int p0), .val (.int p1), .val (.int p2), .val (.int p3), .val (.int (Int32.ofNat n)), .val (.int (Int32.ofNat kk)), .val (.ref b262), .val (.ref b296), .val (.ref b302), .val (.ref b310), .val (.int x10), .unset, .unset, .unset, .unset, .unset] [(.int (Int32.ofNat n)), (.int (p3 &&& (2147483647 : Int32)))]))
    refine own_pre (fun t k => iremM X332 hx rfl (hb hby at_225) rfl (own_nzN h1 (by omega)) k) ?_
    show own_Ends _ _ _ _ (T332.setTop (mkF m 226 #[.val (.int p0), .val (.int p1), .val (.int p2), .val (.int p3), .val (.int (Int32.ofNat n)), .val (.int (Int32.ofNat kk)), .val (.ref b262), .val (.ref b296), .val (.ref b302), .val (.ref b310), .val (.int x10), .unset, .unset, .unset, .unset, .unset] [(.int ((p3 &&& (2147483647 : Int32)) % (Int32.ofNat n)))]))
    refine own_pre (fun t k => XS.istore X332.here hx rfl (hb hby at_226) rfl (l' := #[.val (.int p0), .val (.int p1), .val (.int p2), .val (.int p3), .val (.int (Int32.ofNat n)), .val (.int (Int32.ofNat kk)), .val (.ref b262), .val (.ref b296), .val (.ref b302), .val (.ref b310), .val (.int x10), .val (.int ((p3 &&& (2147483647 : Int32)) % (Int32.ofNat n))), .unset, .unset, .unset, .unset]) rfl k) ?_
    show own_Ends _ _ _ _ (T332.setTop (mkF m 228 #[.val (.int p0), .val (.int p1), .val (.int p2), .val (.int p3), .val (.int (Int32.ofNat n)), .val (.int (Int32.ofNat kk)), .val (.ref b262), .val (.ref b296), .val (.ref b302), .val (.ref b310), .val (.int x10), .val (.int ((p3 &&& (2147483647 : Int32)) % (Int32.ofNat n))), .unset, .unset, .unset, .unset] []))
    generalize hx11 : ((p3 &&& (2147483647 : Int32)) % (Int32.ofNat n)) = x11
    show own_Ends _ _ _ _ (T332.setTop (mkF m 228 #[.val (.int p0), .val (.int p1), .val (.int p2), .val (.int p3), .val (.int (Int32.ofNat n)), .val (.int (Int32.ofNat kk)), .val (.ref b262), .val (.ref b296), .val (.ref b302), .val (.ref b310), .val (.int x10), .val (.int x11), .unset, .unset, .unset, .unset] []))
    obtain ⟨st, hst, rfl⟩ := own_getk h1 hn hx11
    show own_Ends _ _ _ _ (T332.setTop (mkF m 228 #[.val (.int p0), .val (.int p1), .val (.int p2), .val (.int p3), .val (.int (Int32.ofNat n)), .val (.int (Int32.ofNat kk)), .val (.ref b262), .val (.ref b296), .val (.ref b302), .val (.ref b310), .val (.int x10), .val (.int (Int32.ofNat st)), .unset, .unset, .unset, .unset] []))
    refine own_pre (fun t k => XS.iload X332.here hx rfl (hb hby at_228) rfl k) ?_
    show own_Ends _ _ _ _ (T332.setTop (mkF m 230 #[.val (.int p0), .val (.int p1), .val (.int p2), .val (.int p3), .val (.int (Int32.ofNat n)), .val (.int (Int32.ofNat kk)), .val (.ref b262), .val (.ref b296), .val (.ref b302), .val (.ref b310), .val (.int x10), .val (.int (Int32.ofNat st)), .unset, .unset, .unset, .unset] [(.int (Int32.ofNat st))]))
    refine own_pre (fun t k => XS.iload X332.here hx rfl (hb hby at_230) rfl k) ?_
    show own_Ends _ _ _ _ (T332.setTop (mkF m 232 #[.val (.int p0), .val (.int p1), .val (.int p2), .val (.int p3), .val (.int (Int32.ofNat n)), .val (.int (Int32.ofNat kk)), .val (.ref b262), .val (.ref b296), .val (.ref b302), .val (.ref b310), .val (.int x10), .val (.int (Int32.ofNat st)), .unset, .unset, .unset, .unset] [(.int (Int32.ofNat kk)), (.int (Int32.ofNat st))]))
    refine own_pre (fun t k => XS.isub X332.here hx rfl (hb hby at_232) rfl k) ?_
    show own_Ends _ _ _ _ (T332.setTop (mkF m 233 #[.val (.int p0), .val (.int p1), .val (.int p2), .val (.int p3), .val (.int (Int32.ofNat n)), .val (.int (Int32.ofNat kk)), .val (.ref b262), .val (.ref b296), .val (.ref b302), .val (.ref b310), .val (.int x10), .val (.int (Int32.ofNat st)), .unset, .unset, .unset, .unset] [(.int ((Int32.ofNat st) - (Int32.ofNat kk)))]))
    refine own_pre (fun t k => XS.iload X332.here hx rfl (hb hby at_233) rfl k) ?_
    show own_Ends _ _ _ _ (T332.setTop (mkF m 235 #[.val (.int p0), .val (.int p1), .val (.int p2), .val (.int p3), .val (.int (Int32.ofNat n)), .val (.int (Int32.ofNat kk)), .val (.ref b262), .val (.ref b296), .val (.ref b302), .val (.ref b310), .val (.int x10), .val (.int (Int32.ofNat st)), .unset, .unset, .unset, .unset] [(.int (Int32.ofNat n)), (.int ((Int32.ofNat st) - (Int32.ofNat kk)))]))
    refine own_pre (fun t k => XS.iadd X332.here hx rfl (hb hby at_235) rfl k) ?_
    show own_Ends _ _ _ _ (T332.setTop (mkF m 236 #[.val (.int p0), .val (.int p1), .val (.int p2), .val (.int p3), .val (.int (Int32.ofNat n)), .val (.int (Int32.ofNat kk)), .val (.ref b262), .val (.ref b296), .val (.ref b302), .val (.ref b310), .val (.int x10), .val (.int (Int32.ofNat st)), .unset, .unset, .unset, .unset] [(.int (((Int32.ofNat st) - (Int32.ofNat kk)) + (Int32.ofNat n)))]))
    refine own_pre (fun t k => XS.iload X332.here hx rfl (hb hby at_236) rfl k) ?_
    show own_Ends _ _ _ _ (T332.setTop (mkF m 238 #[.val (.int p0), .val (.int p1), .val (.int p2), .val (.int p3), .val (.int (Int32.ofNat n)), .val (.int (Int32.ofNat kk)), .val (.ref b262), .val (.ref b296), .val (.ref b302), .val (.ref b310), .val (.int x10), .val (.int (Int32.ofNat st)), .unset, .unset, .unset, .unset] [(.int (Int32.ofNat n)), (.int (((Int32.ofNat st) - (Int32.ofNat kk)) + (Int32.ofNat n)))]))
    refine own_pre (fun t k => iremM X332 hx rfl (hb hby at_238) rfl (own_nzN h1 (by omega)) k) ?_
    show own_Ends _ _ _ _ (T332.setTop (mkF m 239 #[.val (.int p0), .val (.int p1), .val (.int p2), .val (.int p3), .val (.int (Int32.ofNat n)), .val (.int (Int32.ofNat kk)), .val (.ref b262), .val (.ref b296), .val (.ref b302), .val (.ref b310), .val (.int x10), .val (.int (Int32.ofNat st)), .unset, .unset, .unset, .unset] [(.int ((((Int32.ofNat st) - (Int32.ofNat kk)) + (Int32.ofNat n)) % (Int32.ofNat n)))]))
    refine own_pre (fun t k => XS.istore X332.here hx rfl (hb hby at_239) rfl (l' := #[.val (.int p0), .val (.int p1), .val (.int p2), .val (.int p3), .val (.int (Int32.ofNat n)), .val (.int (Int32.ofNat kk)), .val (.ref b262), .val (.ref b296), .val (.ref b302), .val (.ref b310), .val (.int x10), .val (.int (Int32.ofNat st)), .val (.int ((((Int32.ofNat st) - (Int32.ofNat kk)) + (Int32.ofNat n)) % (Int32.ofNat n))), .unset, .unset, .unset]) rfl k) ?_
    show own_Ends _ _ _ _ (T332.setTop (mkF m 241 #[.val (.int p0), .val (.int p1), .val (.int p2), .val (.int p3), .val (.int (Int32.ofNat n)), .val (.int (Int32.ofNat kk)), .val (.ref b262), .val (.ref b296), .val (.ref b302), .val (.ref b310), .val (.int x10), .val (.int (Int32.ofNat st)), .val (.int ((((Int32.ofNat st) - (Int32.ofNat kk)) + (Int32.ofNat n)) % (Int32.ofNat n))), .unset, .unset, .unset] []))
    generalize hx12 : ((((Int32.ofNat st) - (Int32.ofNat kk)) + (Int32.ofNat n)) % (Int32.ofNat n)) = x12
    show own_Ends _ _ _ _ (T332.setTop (mkF m 241 #[.val (.int p0), .val (.int p1), .val (.int p2), .val (.int p3), .val (.int (Int32.ofNat n)), .val (.int (Int32.ofNat kk)), .val (.ref b262), .val (.ref b296), .val (.ref b302), .val (.ref b310), .val (.int x10), .val (.int (Int32.ofNat st)), .val (.int x12), .unset, .unset, .unset] []))
    obtain rfl := own_gotpos h1 hn hk hst hx12
    show own_Ends _ _ _ _ (T332.setTop (mkF m 241 #[.val (.int p0), .val (.int p1), .val (.int p2), .val (.int p3), .val (.int (Int32.ofNat n)), .val (.int (Int32.ofNat kk)), .val (.ref b262), .val (.ref b296), .val (.ref b302), .val (.ref b310), .val (.int x10), .val (.int (Int32.ofNat st)), .val (.int (Int32.ofNat ((st + n - kk) % n))), .unset, .unset, .unset] []))
    obtain ⟨T334, h334, X334, e334, E334, A334, D334, -, st334⟩ := newO X332 hx hZ hown (hw _ (List.mem_of_getElem? (i := 9) rfl)) (hw _ (List.mem_of_getElem? (i := 10) rfl)) (hw _ (List.mem_of_getElem? (i := 11) rfl)) rfl (g := (mkF m 241 #[.val (.int p0), .val (.int p1), .val (.int p2), .val (.int p3), .val (.int (Int32.ofNat n)), .val (.int (Int32.ofNat kk)), .val (.ref b262), .val (.ref b296), .val (.ref b302), .val (.ref b310), .val (.int x10), .val (.int (Int32.ofNat st)), .val (.int (Int32.ofNat ((st + n - kk) % n))), .unset, .unset, .unset] [])) rfl (hb hby at_241) (by decide) (by decide)
    obtain ⟨b334, g334⟩ : ∃ z, z = T332.heap.size := ⟨_, rfl⟩
    rw [← g334] at A334 D334 st334
    refine own_pre st334 ?_
    have ne335 : b262 ≠ b334 := Nat.ne_of_lt (Nat.lt_of_lt_of_le f333.lt (Nat.le_of_eq g334.symm))
    have ne336 : b296 ≠ b334 := Nat.ne_of_lt (Nat.lt_of_lt_of_le va332.lt (Nat.le_of_eq g334.symm))
    have ne337 : b302 ≠ b334 := Nat.ne_of_lt (Nat.lt_of_lt_of_le vb332.lt (Nat.le_of_eq g334.symm))
    have ne338 : b310 ≠ b334 := Nat.ne_of_lt (Nat.lt_of_lt_of_le vc332.lt (Nat.le_of_eq g334.symm))
    have f339 := f333.ext E334
    have f340 := va332.ext E334
    have f341 := vb332.ext E334
    have f342 := vc332.ext E334
    have L343 : n0 ≤ b334 := Nat.le_trans Zn332 (Nat.le_of_eq g334.symm)
    have Zn344 : n0 ≤ h334.size := Nat.le_trans Zn332 E334.1
    have f345 : Fld Z h334 b334 "com/example/bisimilar/bisimilar/equivalence/RefinementHistory" "states" "[I" .null := D334 (Or.inr (hw _ (List.mem_of_getElem? (i := 19) rfl))) (ty := (.array .int)) (by decide)
    have f346 : Fld Z h334 b334 "com/example/bisimilar/bisimilar/equivalence/RefinementHistory" "position" "[I" .null := D334 (Or.inr (hw _ (List.mem_of_getElem? (i := 21) rfl))) (ty := (.array .int)) (by decide)
    have f347 : Fld Z h334 b334 "com/example/bisimilar/bisimilar/equivalence/RefinementHistory" "leaves" "I" (.int (0 : Int32)) := D334 (Or.inr (hw _ (List.mem_of_getElem? (i := 23) rfl))) (ty := .int) (by decide)
    have f348 : Fld Z h334 b334 "com/example/bisimilar/bisimilar/equivalence/RefinementHistory" "least" "[I" .null := D334 (Or.inr (hw _ (List.mem_of_getElem? (i := 27) rfl))) (ty := (.array .int)) (by decide)
    show own_Ends _ _ _ _ (T334.setTop (mkF m 244 #[.val (.int p0), .val (.int p1), .val (.int p2), .val (.int p3), .val (.int (Int32.ofNat n)), .val (.int (Int32.ofNat kk)), .val (.ref b262), .val (.ref b296), .val (.ref b302), .val (.ref b310), .val (.int x10), .val (.int (Int32.ofNat st)), .val (.int (Int32.ofNat ((st + n - kk) % n))), .unset, .unset, .unset] [(.ref b334)]))
    refine own_pre (fun t k => XS.dup X334.here hx rfl (hb hby at_244) rfl rfl k) ?_
    show own_Ends _ _ _ _ (T334.setTop (mkF m 245 #[.val (.int p0), .val (.int p1), .val (.int p2), .val (.int p3), .val (.int (Int32.ofNat n)), .val (.int (Int32.ofNat kk)), .val (.ref b262), .val (.ref b296), .val (.ref b302), .val (.ref b310), .val (.int x10), .val (.int (Int32.ofNat st)), .val (.int (Int32.ofNat ((st + n - kk) % n))), .unset, .unset, .unset] [(.ref b334), (.ref b334)]))
    refine own_pre (fun t k => XS.aload X334.here hx rfl (hb hby at_245) rfl rfl k) ?_
    show own_Ends _ _ _ _ (T334.setTop (mkF m 247 #[.val (.int p0), .val (.int p1), .val (.int p2), .val (.int p3), .val (.int (Int32.ofNat n)), .val (.int (Int32.ofNat kk)), .val (.ref b262), .val (.ref b296), .val (.ref b302), .val (.ref b310), .val (.int x10), .val (.int (Int32.ofNat st)), .val (.int (Int32.ofNat ((st + n - kk) % n))), .unset, .unset, .unset] [(.ref b296), (.ref b334), (.ref b334)]))
    refine own_pre (fun t k => XS.aload X334.here hx rfl (hb hby at_247) rfl rfl k) ?_
    show own_Ends _ _ _ _ (T334.setTop (mkF m 249 #[.val (.int p0), .val (.int p1), .val (.int p2), .val (.int p3), .val (.int (Int32.ofNat n)), .val (.int (Int32.ofNat kk)), .val (.ref b262), .val (.ref b296), .val (.ref b302), .val (.ref b310), .val (.int x10), .val (.int (Int32.ofNat st)), .val (.int (Int32.ofNat ((st + n - kk) % n))), .unset, .unset, .unset] [(.ref b302), (.ref b296), (.ref b334), (.ref b334)]))
    refine own_pre (fun t k => XS.aload X334.here hx rfl (hb hby at_249) rfl rfl k) ?_
    show own_Ends _ _ _ _ (T334.setTop (mkF m 251 #[.val (.int p0), .val (.int p1), .val (.int p2), .val (.int p3), .val (.int (Int32.ofNat n)), .val (.int (Int32.ofNat kk)), .val (.ref b262), .val (.ref b296), .val (.ref b302), .val (.ref b310), .val (.int x10), .val (.int (Int32.ofNat st)), .val (.int (Int32.ofNat ((st + n - kk) % n))), .unset, .unset, .unset] [(.ref b310), (.ref b302), (.ref b296), (.ref b334), (.ref b334)]))
    obtain ⟨_, _, ⟨T349, L349, k349, n349⟩, -, X349, ⟨Lc349, hQ349, l349, y349, z349⟩, st349⟩ := X334.specialBack hx (y := (⟨"com/example/bisimilar/bisimilar/equivalence/RefinementHistory", "<init>", "([I[I[I)V"⟩ : MethodName)) rfl hown (mvT hZ (hw _ (List.mem_of_getElem? (i := 12) rfl))) (mvT hZ (hw _ (List.mem_of_getElem? (i := 13) rfl))) (mvT hZ (hw _ (List.mem_of_getElem? (i := 14) rfl))) (by decide) (backOf (W := 1) (rm4 l Z a0 hw [] b334 b296 b302 b310 n (own_mkf p1) k296 k310 vz332 h334 n0 Zn344 A334 L343 f345 f346 f347 f348 f340 f342 (Ne.symm ne336) (Ne.symm ne338) h1 hn) hZ (hw _ (List.mem_of_getElem? (i := 14) rfl)) (hw _ (List.mem_of_getElem? (i := 11) rfl)) (by decide) (by decide)) (g := (mkF m 251 #[.val (.int p0), .val (.int p1), .val (.int p2), .val (.int p3), .val (.int (Int32.ofNat n)), .val (.int (Int32.ofNat kk)), .val (.ref b262), .val (.ref b296), .val (.ref b302), .val (.ref b310), .val (.int x10), .val (.int (Int32.ofNat st)), .val (.int (Int32.ofNat ((st + n - kk) % n))), .unset, .unset, .unset] [(.ref b310), (.ref b302), (.ref b296), (.ref b334), (.ref b334)])) rfl (by rw [hml]; rfl) (Steps.refl _) (a := b334) (argsL := [(.ref b296), (.ref b302), (.ref b310)]) (rest := [(.ref b334)]) (lenOf own_pd2 rfl) rfl (by show 2 * 0 + _ ≤ _; exact Nat.le_of_eq rfl) (hb hby at_251) (fun _ _ => ⟨rfl, e334, (by decide : 5 + 1 ≤ _), (by decide : 28 + 12 ≤ _)⟩)
    dsimp only [Pt.U, Pt.locs, Pt.cells, Pt.slots] at X349 l349 y349 z349 st349 hQ349
    subst l349 y349 z349
    obtain ⟨rfl, Nq349, Kq349, bl349, kl349, vl349, fa349, fb349, fc349, va349, na349, lb349, hv349⟩ := hQ349
    have N349 := Fr.app N332 Nq349
    obtain ⟨LL349, X349, N349⟩ := own_hide X349 N349
    have f350 := f339.keep Kq349 (ninS ne335 nin0)
    have f351 := f340.keep Kq349 (ninS ne336 nin0)
    have f352 := f341.keep Kq349 (ninS ne337 nin0)
    have f353 := f342.keep Kq349 (ninS ne338 nin0)
    have f354 := A334.keep Kq349
    have Zn349 : n0 ≤ T349.heap.size := Nat.le_trans Zn344 Kq349.1
    refine own_pre (fun t k => st349.trans k) ?_
    show own_Ends _ _ _ _ (T349.setTop (mkF m 254 #[.val (.int p0), .val (.int p1), .val (.int p2), .val (.int p3), .val (.int (Int32.ofNat n)), .val (.int (Int32.ofNat kk)), .val (.ref b262), .val (.ref b296), .val (.ref b302), .val (.ref b310), .val (.int x10), .val (.int (Int32.ofNat st)), .val (.int (Int32.ofNat ((st + n - kk) % n))), .unset, .unset, .unset] [(.ref b334)]))
    refine own_pre (fun t k => XS.astore X349.here hx rfl (hb hby at_254) rfl rfl (l' := #[.val (.int p0), .val (.int p1), .val (.int p2), .val (.int p3), .val (.int (Int32.ofNat n)), .val (.int (Int32.ofNat kk)), .val (.ref b262), .val (.ref b296), .val (.ref b302), .val (.ref b310), .val (.int x10), .val (.int (Int32.ofNat st)), .val (.int (Int32.ofNat ((st + n - kk) % n))), .val (.ref b334), .unset, .unset]) rfl k) ?_
    show own_Ends _ _ _ _ (T349.setTop (mkF m 256 #[.val (.int p0), .val (.int p1), .val (.int p2), .val (.int p3), .val (.int (Int32.ofNat n)), .val (.int (Int32.ofNat kk)), .val (.ref b262), .val (.ref b296), .val (.ref b302), .val (.ref b310), .val (.int x10), .val (.int (Int32.ofNat st)), .val (.int (Int32.ofNat ((st + n - kk) % n))), .val (.ref b334), .unset, .unset] []))
    refine own_pre (fun t k => XS.aload X349.here hx rfl (hb hby at_256) rfl rfl k) ?_
    show own_Ends _ _ _ _ (T349.setTop (mkF m 258 #[.val (.int p0), .val (.int p1), .val (.int p2), .val (.int p3), .val (.int (Int32.ofNat n)), .val (.int (Int32.ofNat kk)), .val (.ref b262), .val (.ref b296), .val (.ref b302), .val (.ref b310), .val (.int x10), .val (.int (Int32.ofNat st)), .val (.int (Int32.ofNat ((st + n - kk) % n))), .val (.ref b334), .unset, .unset] [(.ref b334)]))
    refine own_pre (fun t k => XS.iload X349.here hx rfl (hb hby at_258) rfl k) ?_
    show own_Ends _ _ _ _ (T349.setTop (mkF m 260 #[.val (.int p0), .val (.int p1), .val (.int p2), .val (.int p3), .val (.int (Int32.ofNat n)), .val (.int (Int32.ofNat kk)), .val (.ref b262), .val (.ref b296), .val (.ref b302), .val (.ref b310), .val (.int x10), .val (.int (Int32.ofNat st)), .val (.int (Int32.ofNat ((st + n - kk) % n))), .val (.ref b334), .unset, .unset] [(.int (Int32.ofNat st)), (.ref b334)]))
    refine own_pre (fun t k => XS.iload X349.here hx rfl (hb hby at_260) rfl k) ?_
    show own_Ends _ _ _ _ (T349.setTop (mkF m 262 #[.val (.int p0), .val (.int p1), .val (.int p2), .val (.int p3), .val (.int (Int32.ofNat n)), .val (.int (Int32.ofNat kk)), .val (.ref b262), .val (.ref b296), .val (.ref b302), .val (.ref b310), .val (.int x10), .val (.int (Int32.ofNat st)), .val (.int (Int32.ofNat ((st + n - kk) % n))), .val (.ref b334), .unset, .unset] [(.int x10), (.int (Int32.ofNat st)), (.ref b334)]))
    obtain ⟨cq355, kq355, q355a, q355b, q355c⟩ := isOf hZ rfl f354
    obtain ⟨_, _, ⟨T355, L355, k355, n355⟩, -, X355, ⟨Lc355, hQ355, l355, y355, z355⟩, st355⟩ := X349.virtualBack hx (y := (⟨"com/example/bisimilar/bisimilar/equivalence/RefinementHistory", "classStart", "(II)I"⟩ : MethodName)) (z := (⟨"com/example/bisimilar/bisimilar/equivalence/RefinementHistory", "classStart", "(II)I"⟩ : MethodName)) hown (mvT hZ (hw _ (List.mem_of_getElem? (i := 32) rfl))) (mvT hZ (hw _ (List.mem_of_getElem? (i := 33) rfl))) (notFace_of_selects (args := #[]) (mvT hZ (hw _ (List.mem_of_getElem? (i := 35) rfl)))) (mvT hZ (hw _ (List.mem_of_getElem? (i := 35) rfl))) (mvT hZ (hw _ (List.mem_of_getElem? (i := 34) rfl))) (by decide) (backOf (W := 0) (rm5 l Z a0 hw [] b334 (Int32.ofNat st) x10 st n ((st + n - kk) % n) (own_mkf p1) b302 bl349 k302 kl349 (own_posL n kk 6) vl349 T349.heap n0 Zn349 rfl fa349 fb349 fc349 f352 va349 h1 hn hst (Nat.mod_lt _ (by omega)) (own_posAt hn hk hst) hv349 (own_U h1 hn (Nat.mod_lt _ (by omega)) hr).1 (own_U h1 hn (Nat.mod_lt _ (by omega)) hr).2.1 (own_U h1 hn (Nat.mod_lt _ (by omega)) hr).2.2) hZ (hw _ (List.mem_of_getElem? (i := 36) rfl)) (hw _ (List.mem_of_getElem? (i := 11) rfl)) (by decide) (by decide)) q355a q355c (g := (mkF m 262 #[.val (.int p0), .val (.int p1), .val (.int p2), .val (.int p3), .val (.int (Int32.ofNat n)), .val (.int (Int32.ofNat kk)), .val (.ref b262), .val (.ref b296), .val (.ref b302), .val (.ref b310), .val (.int x10), .val (.int (Int32.ofNat st)), .val (.int (Int32.ofNat ((st + n - kk) % n))), .val (.ref b334), .unset, .unset] [(.int x10), (.int (Int32.ofNat st)), (.ref b334)])) rfl (by rw [hml]; rfl) (Steps.refl _) (argsL := [(.int (Int32.ofNat st)), (.int x10)]) (rest := []) (lenOf own_pd0 rfl) rfl (by show 2 * 0 + _ ≤ _; exact Nat.le_of_eq rfl) (hb hby at_262) (fun _ _ => ⟨rfl, rfl, (by decide : 6 + 0 ≤ _), (by decide : 40 + 0 ≤ _)⟩)
    dsimp only [Pt.U, Pt.locs, Pt.cells, Pt.slots] at X355 l355 y355 z355 st355 hQ355
    subst l355 y355 z355
    obtain ⟨rfl, Nq355, e355⟩ := hQ355
    have N355 := Fr.app N349 Nq355
    obtain ⟨LL355, X355, N355⟩ := own_hide X355 N355
    refine own_pre (fun t k => st355.trans k) ?_
    show own_Ends _ _ _ _ (T355.setTop (mkF m 265 #[.val (.int p0), .val (.int p1), .val (.int p2), .val (.int p3), .val (.int (Int32.ofNat n)), .val (.int (Int32.ofNat kk)), .val (.ref b262), .val (.ref b296), .val (.ref b302), .val (.ref b310), .val (.int x10), .val (.int (Int32.ofNat st)), .val (.int (Int32.ofNat ((st + n - kk) % n))), .val (.ref b334), .unset, .unset] [(.int (own_got n ((st + n - kk) % n) (own_mkf p1) x10))]))
    refine own_pre (fun t k => XS.istore X355.here hx rfl (hb hby at_265) rfl (l' := #[.val (.int p0), .val (.int p1), .val (.int p2), .val (.int p3), .val (.int (Int32.ofNat n)), .val (.int (Int32.ofNat kk)), .val (.ref b262), .val (.ref b296), .val (.ref b302), .val (.ref b310), .val (.int x10), .val (.int (Int32.ofNat st)), .val (.int (Int32.ofNat ((st + n - kk) % n))), .val (.ref b334), .val (.int (own_got n ((st + n - kk) % n) (own_mkf p1) x10)), .unset]) rfl k) ?_
    show own_Ends _ _ _ _ (T355.setTop (mkF m 267 #[.val (.int p0), .val (.int p1), .val (.int p2), .val (.int p3), .val (.int (Int32.ofNat n)), .val (.int (Int32.ofNat kk)), .val (.ref b262), .val (.ref b296), .val (.ref b302), .val (.ref b310), .val (.int x10), .val (.int (Int32.ofNat st)), .val (.int (Int32.ofNat ((st + n - kk) % n))), .val (.ref b334), .val (.int (own_got n ((st + n - kk) % n) (own_mkf p1) x10)), .unset] []))
    generalize hx14 : (own_got n ((st + n - kk) % n) (own_mkf p1) x10) = x14
    have J360 : ∀ (u15 : Int32) (hz : x14 = u15), own_Ends p e below (own_Fin s (fun v h L => v = some (.int 1) ∧ Fr n0 L) 24 192) (T355.setTop (mkF m 360 #[.val (.int p0), .val (.int p1), .val (.int p2), .val (.int p3), .val (.int (Int32.ofNat n)), .val (.int (Int32.ofNat kk)), .val (.ref b262), .val (.ref b296), .val (.ref b302), .val (.ref b310), .val (.int x10), .val (.int (Int32.ofNat st)), .val (.int (Int32.ofNat ((st + n - kk) % n))), .val (.ref b334), .val (.int x14), .val (.int u15)] [])) := by
      intro u15 hz
      show own_Ends _ _ _ _ (T355.setTop (mkF m 360 #[.val (.int p0), .val (.int p1), .val (.int p2), .val (.int p3), .val (.int (Int32.ofNat n)), .val (.int (Int32.ofNat kk)), .val (.ref b262), .val (.ref b296), .val (.ref b302), .val (.ref b310), .val (.int x10), .val (.int (Int32.ofNat st)), .val (.int (Int32.ofNat ((st + n - kk) % n))), .val (.ref b334), .val (.int x14), .val (.int u15)] []))
      refine own_pre (fun t k => XS.iload X355.here hx rfl (hb hby at_360) rfl k) ?_
      show own_Ends _ _ _ _ (T355.setTop (mkF m 362 #[.val (.int p0), .val (.int p1), .val (.int p2), .val (.int p3), .val (.int (Int32.ofNat n)), .val (.int (Int32.ofNat kk)), .val (.ref b262), .val (.ref b296), .val (.ref b302), .val (.ref b310), .val (.int x10), .val (.int (Int32.ofNat st)), .val (.int (Int32.ofNat ((st + n - kk) % n))), .val (.ref b334), .val (.int x14), .val (.int u15)] [(.int x14)]))
      refine own_pre (fun t k => XS.iload X355.here hx rfl (hb hby at_362) rfl k) ?_
      show own_Ends _ _ _ _ (T355.setTop (mkF m 364 #[.val (.int p0), .val (.int p1), .val (.int p2), .val (.int p3), .val (.int (Int32.ofNat n)), .val (.int (Int32.ofNat kk)), .val (.ref b262), .val (.ref b296), .val (.ref b302), .val (.ref b310), .val (.int x10), .val (.int (Int32.ofNat st)), .val (.int (Int32.ofNat ((st + n - kk) % n))), .val (.ref b334), .val (.int x14), .val (.int u15)] [(.int u15), (.int x14)]))
      refine own_pre (fun t k => XS.icmpNo X355.here hx rfl (hb hby at_364) rfl (teq (hz : x14 = u15)).2 k) ?_
      show own_Ends _ _ _ _ (T355.setTop (mkF m 367 #[.val (.int p0), .val (.int p1), .val (.int p2), .val (.int p3), .val (.int (Int32.ofNat n)), .val (.int (Int32.ofNat kk)), .val (.ref b262), .val (.ref b296), .val (.ref b302), .val (.ref b310), .val (.int x10), .val (.int (Int32.ofNat st)), .val (.int (Int32.ofNat ((st + n - kk) % n))), .val (.ref b334), .val (.int x14), .val (.int u15)] []))
      refine own_pre (fun t k => XS.iconst X355.here hx rfl (hb hby at_367) k) ?_
      show own_Ends _ _ _ _ (T355.setTop (mkF m 368 #[.val (.int p0), .val (.int p1), .val (.int p2), .val (.int p3), .val (.int (Int32.ofNat n)), .val (.int (Int32.ofNat kk)), .val (.ref b262), .val (.ref b296), .val (.ref b302), .val (.ref b310), .val (.int x10), .val (.int (Int32.ofNat st)), .val (.int (Int32.ofNat ((st + n - kk) % n))), .val (.ref b334), .val (.int x14), .val (.int u15)] [(.int (1 : Int32))]))
      refine own_pre (fun t k => XS.goto X355.here hx rfl (pc0 := 368) (pc' := 372) rfl (hb hby at_368) (by decide) (by decide) k) ?_
      show own_Ends _ _ _ _ (T355.setTop (mkF m 372 #[.val (.int p0), .val (.int p1), .val (.int p2), .val (.int p3), .val (.int (Int32.ofNat n)), .val (.int (Int32.ofNat kk)), .val (.ref b262), .val (.ref b296), .val (.ref b302), .val (.ref b310), .val (.int x10), .val (.int (Int32.ofNat st)), .val (.int (Int32.ofNat ((st + n - kk) % n))), .val (.ref b334), .val (.int x14), .val (.int u15)] [(.int (1 : Int32))]))
      exact own_retN X355 hx (t := .boolean) Bd.returns (by simp) (hb hby at_372) hlk rfl e355 ⟨rfl, N355⟩ (by decide) (by decide)
    have J342 : ∀ (u15 : Int32) (hz : x14 = (own_s (Int32.ofNat ((st + n - kk) % n)) x10 (own_mark p1 (5 : Int32)) (5 : Int32) u15)), own_Ends p e below (own_Fin s (fun v h L => v = some (.int 1) ∧ Fr n0 L) 24 192) (T355.setTop (mkF m 342 #[.val (.int p0), .val (.int p1), .val (.int p2), .val (.int p3), .val (.int (Int32.ofNat n)), .val (.int (Int32.ofNat kk)), .val (.ref b262), .val (.ref b296), .val (.ref b302), .val (.ref b310), .val (.int x10), .val (.int (Int32.ofNat st)), .val (.int (Int32.ofNat ((st + n - kk) % n))), .val (.ref b334), .val (.int x14), .val (.int u15)] [])) := by
      intro u15 hz
      show own_Ends _ _ _ _ (T355.setTop (mkF m 342 #[.val (.int p0), .val (.int p1), .val (.int p2), .val (.int p3), .val (.int (Int32.ofNat n)), .val (.int (Int32.ofNat kk)), .val (.ref b262), .val (.ref b296), .val (.ref b302), .val (.ref b310), .val (.int x10), .val (.int (Int32.ofNat st)), .val (.int (Int32.ofNat ((st + n - kk) % n))), .val (.ref b334), .val (.int x14), .val (.int u15)] []))
      refine own_pre (fun t k => XS.iload X355.here hx rfl (hb hby at_342) rfl k) ?_
      show own_Ends _ _ _ _ (T355.setTop (mkF m 344 #[.val (.int p0), .val (.int p1), .val (.int p2), .val (.int p3), .val (.int (Int32.ofNat n)), .val (.int (Int32.ofNat kk)), .val (.ref b262), .val (.ref b296), .val (.ref b302), .val (.ref b310), .val (.int x10), .val (.int (Int32.ofNat st)), .val (.int (Int32.ofNat ((st + n - kk) % n))), .val (.ref b334), .val (.int x14), .val (.int u15)] [(.int (Int32.ofNat ((st + n - kk) % n)))]))
      refine own_pre (fun t k => XS.iconst X355.here hx rfl (hb hby at_344) k) ?_
      show own_Ends _ _ _ _ (T355.setTop (mkF m 345 #[.val (.int p0), .val (.int p1), .val (.int p2), .val (.int p3), .val (.int (Int32.ofNat n)), .val (.int (Int32.ofNat kk)), .val (.ref b262), .val (.ref b296), .val (.ref b302), .val (.ref b310), .val (.int x10), .val (.int (Int32.ofNat st)), .val (.int (Int32.ofNat ((st + n - kk) % n))), .val (.ref b334), .val (.int x14), .val (.int u15)] [(.int (5 : Int32)), (.int (Int32.ofNat ((st + n - kk) % n)))]))
      by_cases hc356 : (Int32.ofNat ((st + n - kk) % n)) < (5 : Int32)
      · skip
        refine own_pre (fun t k => XS.icmpYes X355.here hx rfl (pc0 := 345) (pc' := 360) rfl (hb hby at_345) rfl (tlt hc356).1 (by decide) (by decide) k) ?_
        show own_Ends _ _ _ _ (T355.setTop (mkF m 360 #[.val (.int p0), .val (.int p1), .val (.int p2), .val (.int p3), .val (.int (Int32.ofNat n)), .val (.int (Int32.ofNat kk)), .val (.ref b262), .val (.ref b296), .val (.ref b302), .val (.ref b310), .val (.int x10), .val (.int (Int32.ofNat st)), .val (.int (Int32.ofNat ((st + n - kk) % n))), .val (.ref b334), .val (.int x14), .val (.int u15)] []))
        exact J360 _ (hz.trans (by rw [show own_s (Int32.ofNat ((st + n - kk) % n)) x10 (own_mark p1 (5 : Int32)) (5 : Int32) u15 = _ from own_s_def _ _ _ _ _, if_pos hc356]))
      · skip
        refine own_pre (fun t k => XS.icmpNo X355.here hx rfl (hb hby at_345) rfl (flt hc356).1 k) ?_
        show own_Ends _ _ _ _ (T355.setTop (mkF m 348 #[.val (.int p0), .val (.int p1), .val (.int p2), .val (.int p3), .val (.int (Int32.ofNat n)), .val (.int (Int32.ofNat kk)), .val (.ref b262), .val (.ref b296), .val (.ref b302), .val (.ref b310), .val (.int x10), .val (.int (Int32.ofNat st)), .val (.int (Int32.ofNat ((st + n - kk) % n))), .val (.ref b334), .val (.int x14), .val (.int u15)] []))
        refine own_pre (fun t k => XS.aload X355.here hx rfl (hb hby at_348) rfl rfl k) ?_
        show own_Ends _ _ _ _ (T355.setTop (mkF m 350 #[.val (.int p0), .val (.int p1), .val (.int p2), .val (.int p3), .val (.int (Int32.ofNat n)), .val (.int (Int32.ofNat kk)), .val (.ref b262), .val (.ref b296), .val (.ref b302), .val (.ref b310), .val (.int x10), .val (.int (Int32.ofNat st)), .val (.int (Int32.ofNat ((st + n - kk) % n))), .val (.ref b334), .val (.int x14), .val (.int u15)] [(.ref b262)]))
        refine own_pre (fun t k => XS.iconst X355.here hx rfl (hb hby at_350) k) ?_
        show own_Ends _ _ _ _ (T355.setTop (mkF m 351 #[.val (.int p0), .val (.int p1), .val (.int p2), .val (.int p3), .val (.int (Int32.ofNat n)), .val (.int (Int32.ofNat kk)), .val (.ref b262), .val (.ref b296), .val (.ref b302), .val (.ref b310), .val (.int x10), .val (.int (Int32.ofNat st)), .val (.int (Int32.ofNat ((st + n - kk) % n))), .val (.ref b334), .val (.int x14), .val (.int u15)] [(.int (5 : Int32)), (.ref b262)]))
        obtain ⟨cl357, Ar357, qc357, S357, M357, H357, G357⟩ := id (f350)
        have hin357 : ¬ ((5 : Int32) < 0 ∨ cl357.slots.size ≤ ((5 : Int32)).toNatClampNeg) := inb_of S357 ⟨by decide, by decide⟩
        have hat357 : cl357.slots[((5 : Int32)).toNatClampNeg]? = some (.int (own_mark p1 (5 : Int32))) := H357.at hin357 rfl
        refine own_pre (fun t k => X355.iaload hx (j := (5 : Int32)) (v := (.int (own_mark p1 (5 : Int32)))) (by rw [e355]; exact Ar357.1) (State.isArrayOf_alike hZ.alike Ar357.2.1) Ar357.2.2 hin357 hat357 (g := (mkF m 351 #[.val (.int p0), .val (.int p1), .val (.int p2), .val (.int p3), .val (.int (Int32.ofNat n)), .val (.int (Int32.ofNat kk)), .val (.ref b262), .val (.ref b296), .val (.ref b302), .val (.ref b310), .val (.int x10), .val (.int (Int32.ofNat st)), .val (.int (Int32.ofNat ((st + n - kk) % n))), .val (.ref b334), .val (.int x14), .val (.int u15)] [(.int (5 : Int32)), (.ref b262)])) rfl rfl (hb hby at_351) _ k) ?_
        show own_Ends _ _ _ _ (T355.setTop (mkF m 352 #[.val (.int p0), .val (.int p1), .val (.int p2), .val (.int p3), .val (.int (Int32.ofNat n)), .val (.int (Int32.ofNat kk)), .val (.ref b262), .val (.ref b296), .val (.ref b302), .val (.ref b310), .val (.int x10), .val (.int (Int32.ofNat st)), .val (.int (Int32.ofNat ((st + n - kk) % n))), .val (.ref b334), .val (.int x14), .val (.int u15)] [(.int (own_mark p1 (5 : Int32)))]))
        refine own_pre (fun t k => XS.iload X355.here hx rfl (hb hby at_352) rfl k) ?_
        show own_Ends _ _ _ _ (T355.setTop (mkF m 354 #[.val (.int p0), .val (.int p1), .val (.int p2), .val (.int p3), .val (.int (Int32.ofNat n)), .val (.int (Int32.ofNat kk)), .val (.ref b262), .val (.ref b296), .val (.ref b302), .val (.ref b310), .val (.int x10), .val (.int (Int32.ofNat st)), .val (.int (Int32.ofNat ((st + n - kk) % n))), .val (.ref b334), .val (.int x14), .val (.int u15)] [(.int x10), (.int (own_mark p1 (5 : Int32)))]))
        by_cases hc358 : x10 < (own_mark p1 (5 : Int32))
        · skip
          refine own_pre (fun t k => XS.icmpYes X355.here hx rfl (pc0 := 354) (pc' := 360) rfl (hb hby at_354) rfl (tlt hc358).2.2.1 (by decide) (by decide) k) ?_
          show own_Ends _ _ _ _ (T355.setTop (mkF m 360 #[.val (.int p0), .val (.int p1), .val (.int p2), .val (.int p3), .val (.int (Int32.ofNat n)), .val (.int (Int32.ofNat kk)), .val (.ref b262), .val (.ref b296), .val (.ref b302), .val (.ref b310), .val (.int x10), .val (.int (Int32.ofNat st)), .val (.int (Int32.ofNat ((st + n - kk) % n))), .val (.ref b334), .val (.int x14), .val (.int u15)] []))
          exact J360 _ (hz.trans (by rw [show own_s (Int32.ofNat ((st + n - kk) % n)) x10 (own_mark p1 (5 : Int32)) (5 : Int32) u15 = _ from own_s_def _ _ _ _ _, if_neg hc356, if_pos hc358]))
        · skip
          refine own_pre (fun t k => XS.icmpNo X355.here hx rfl (hb hby at_354) rfl (flt hc358).2.2.1 k) ?_
          show own_Ends _ _ _ _ (T355.setTop (mkF m 357 #[.val (.int p0), .val (.int p1), .val (.int p2), .val (.int p3), .val (.int (Int32.ofNat n)), .val (.int (Int32.ofNat kk)), .val (.ref b262), .val (.ref b296), .val (.ref b302), .val (.ref b310), .val (.int x10), .val (.int (Int32.ofNat st)), .val (.int (Int32.ofNat ((st + n - kk) % n))), .val (.ref b334), .val (.int x14), .val (.int u15)] []))
          refine own_pre (fun t k => XS.iconst X355.here hx rfl (hb hby at_357) k) ?_
          show own_Ends _ _ _ _ (T355.setTop (mkF m 358 #[.val (.int p0), .val (.int p1), .val (.int p2), .val (.int p3), .val (.int (Int32.ofNat n)), .val (.int (Int32.ofNat kk)), .val (.ref b262), .val (.ref b296), .val (.ref b302), .val (.ref b310), .val (.int x10), .val (.int (Int32.ofNat st)), .val (.int (Int32.ofNat ((st + n - kk) % n))), .val (.ref b334), .val (.int x14), .val (.int u15)] [(.int (5 : Int32))]))
          refine own_pre (fun t k => XS.istore X355.here hx rfl (hb hby at_358) rfl (l' := #[.val (.int p0), .val (.int p1), .val (.int p2), .val (.int p3), .val (.int (Int32.ofNat n)), .val (.int (Int32.ofNat kk)), .val (.ref b262), .val (.ref b296), .val (.ref b302), .val (.ref b310), .val (.int x10), .val (.int (Int32.ofNat st)), .val (.int (Int32.ofNat ((st + n - kk) % n))), .val (.ref b334), .val (.int x14), .val (.int (5 : Int32))]) rfl k) ?_
          show own_Ends _ _ _ _ (T355.setTop (mkF m 360 #[.val (.int p0), .val (.int p1), .val (.int p2), .val (.int p3), .val (.int (Int32.ofNat n)), .val (.int (Int32.ofNat kk)), .val (.ref b262), .val (.ref b296), .val (.ref b302), .val (.ref b310), .val (.int x10), .val (.int (Int32.ofNat st)), .val (.int (Int32.ofNat ((st + n - kk) % n))), .val (.ref b334), .val (.int x14), .val (.int (5 : Int32))] []))
          exact J360 _ (hz.trans (by rw [show own_s (Int32.ofNat ((st + n - kk) % n)) x10 (own_mark p1 (5 : Int32)) (5 : Int32) u15 = _ from own_s_def _ _ _ _ _, if_neg hc356, if_neg hc358]))
    have J324 : ∀ (u15 : Int32) (hz : x14 = (own_s (Int32.ofNat ((st + n - kk) % n)) x10 (own_mark p1 (5 : Int32)) (5 : Int32) (own_s (Int32.ofNat ((st + n - kk) % n)) x10 (own_mark p1 (4 : Int32)) (4 : Int32) u15))), own_Ends p e below (own_Fin s (fun v h L => v = some (.int 1) ∧ Fr n0 L) 24 192) (T355.setTop (mkF m 324 #[.val (.int p0), .val (.int p1), .val (.int p2), .val (.int p3), .val (.int (Int32.ofNat n)), .val (.int (Int32.ofNat kk)), .val (.ref b262), .val (.ref b296), .val (.ref b302), .val (.ref b310), .val (.int x10), .val (.int (Int32.ofNat st)), .val (.int (Int32.ofNat ((st + n - kk) % n))), .val (.ref b334), .val (.int x14), .val (.int u15)] [])) := by
      intro u15 hz
      show own_Ends _ _ _ _ (T355.setTop (mkF m 324 #[.val (.int p0), .val (.int p1), .val (.int p2), .val (.int p3), .val (.int (Int32.ofNat n)), .val (.int (Int32.ofNat kk)), .val (.ref b262), .val (.ref b296), .val (.ref b302), .val (.ref b310), .val (.int x10), .val (.int (Int32.ofNat st)), .val (.int (Int32.ofNat ((st + n - kk) % n))), .val (.ref b334), .val (.int x14), .val (.int u15)] []))
      refine own_pre (fun t k => XS.iload X355.here hx rfl (hb hby at_324) rfl k) ?_
      show own_Ends _ _ _ _ (T355.setTop (mkF m 326 #[.val (.int p0), .val (.int p1), .val (.int p2), .val (.int p3), .val (.int (Int32.ofNat n)), .val (.int (Int32.ofNat kk)), .val (.ref b262), .val (.ref b296), .val (.ref b302), .val (.ref b310), .val (.int x10), .val (.int (Int32.ofNat st)), .val (.int (Int32.ofNat ((st + n - kk) % n))), .val (.ref b334), .val (.int x14), .val (.int u15)] [(.int (Int32.ofNat ((st + n - kk) % n)))]))
      refine own_pre (fun t k => XS.iconst X355.here hx rfl (hb hby at_326) k) ?_
      show own_Ends _ _ _ _ (T355.setTop (mkF m 327 #[.val (.int p0), .val (.int p1), .val (.int p2), .val (.int p3), .val (.int (Int32.ofNat n)), .val (.int (Int32.ofNat kk)), .val (.ref b262), .val (.ref b296), .val (.ref b302), .val (.ref b310), .val (.int x10), .val (.int (Int32.ofNat st)), .val (.int (Int32.ofNat ((st + n - kk) % n))), .val (.ref b334), .val (.int x14), .val (.int u15)] [(.int (4 : Int32)), (.int (Int32.ofNat ((st + n - kk) % n)))]))
      by_cases hc359 : (Int32.ofNat ((st + n - kk) % n)) < (4 : Int32)
      · skip
        refine own_pre (fun t k => XS.icmpYes X355.here hx rfl (pc0 := 327) (pc' := 342) rfl (hb hby at_327) rfl (tlt hc359).1 (by decide) (by decide) k) ?_
        show own_Ends _ _ _ _ (T355.setTop (mkF m 342 #[.val (.int p0), .val (.int p1), .val (.int p2), .val (.int p3), .val (.int (Int32.ofNat n)), .val (.int (Int32.ofNat kk)), .val (.ref b262), .val (.ref b296), .val (.ref b302), .val (.ref b310), .val (.int x10), .val (.int (Int32.ofNat st)), .val (.int (Int32.ofNat ((st + n - kk) % n))), .val (.ref b334), .val (.int x14), .val (.int u15)] []))
        exact J342 _ (hz.trans (by rw [show own_s (Int32.ofNat ((st + n - kk) % n)) x10 (own_mark p1 (4 : Int32)) (4 : Int32) u15 = _ from own_s_def _ _ _ _ _, if_pos hc359]))
      · skip
        refine own_pre (fun t k => XS.icmpNo X355.here hx rfl (hb hby at_327) rfl (flt hc359).1 k) ?_
        show own_Ends _ _ _ _ (T355.setTop (mkF m 330 #[.val (.int p0), .val (.int p1), .val (.int p2), .val (.int p3), .val (.int (Int32.ofNat n)), .val (.int (Int32.ofNat kk)), .val (.ref b262), .val (.ref b296), .val (.ref b302), .val (.ref b310), .val (.int x10), .val (.int (Int32.ofNat st)), .val (.int (Int32.ofNat ((st + n - kk) % n))), .val (.ref b334), .val (.int x14), .val (.int u15)] []))
        refine own_pre (fun t k => XS.aload X355.here hx rfl (hb hby at_330) rfl rfl k) ?_
        show own_Ends _ _ _ _ (T355.setTop (mkF m 332 #[.val (.int p0), .val (.int p1), .val (.int p2), .val (.int p3), .val (.int (Int32.ofNat n)), .val (.int (Int32.ofNat kk)), .val (.ref b262), .val (.ref b296), .val (.ref b302), .val (.ref b310), .val (.int x10), .val (.int (Int32.ofNat st)), .val (.int (Int32.ofNat ((st + n - kk) % n))), .val (.ref b334), .val (.int x14), .val (.int u15)] [(.ref b262)]))
        refine own_pre (fun t k => XS.iconst X355.here hx rfl (hb hby at_332) k) ?_
        show own_Ends _ _ _ _ (T355.setTop (mkF m 333 #[.val (.int p0), .val (.int p1), .val (.int p2), .val (.int p3), .val (.int (Int32.ofNat n)), .val (.int (Int32.ofNat kk)), .val (.ref b262), .val (.ref b296), .val (.ref b302), .val (.ref b310), .val (.int x10), .val (.int (Int32.ofNat st)), .val (.int (Int32.ofNat ((st + n - kk) % n))), .val (.ref b334), .val (.int x14), .val (.int u15)] [(.int (4 : Int32)), (.ref b262)]))
        obtain ⟨cl360, Ar360, qc360, S360, M360, H360, G360⟩ := id (f350)
        have hin360 : ¬ ((4 : Int32) < 0 ∨ cl360.slots.size ≤ ((4 : Int32)).toNatClampNeg) := inb_of S360 ⟨by decide, by decide⟩
        have hat360 : cl360.slots[((4 : Int32)).toNatClampNeg]? = some (.int (own_mark p1 (4 : Int32))) := H360.at hin360 rfl
        refine own_pre (fun t k => X355.iaload hx (j := (4 : Int32)) (v := (.int (own_mark p1 (4 : Int32)))) (by rw [e355]; exact Ar360.1) (State.isArrayOf_alike hZ.alike Ar360.2.1) Ar360.2.2 hin360 hat360 (g := (mkF m 333 #[.val (.int p0), .val (.int p1), .val (.int p2), .val (.int p3), .val (.int (Int32.ofNat n)), .val (.int (Int32.ofNat kk)), .val (.ref b262), .val (.ref b296), .val (.ref b302), .val (.ref b310), .val (.int x10), .val (.int (Int32.ofNat st)), .val (.int (Int32.ofNat ((st + n - kk) % n))), .val (.ref b334), .val (.int x14), .val (.int u15)] [(.int (4 : Int32)), (.ref b262)])) rfl rfl (hb hby at_333) _ k) ?_
        show own_Ends _ _ _ _ (T355.setTop (mkF m 334 #[.val (.int p0), .val (.int p1), .val (.int p2), .val (.int p3), .val (.int (Int32.ofNat n)), .val (.int (Int32.ofNat kk)), .val (.ref b262), .val (.ref b296), .val (.ref b302), .val (.ref b310), .val (.int x10), .val (.int (Int32.ofNat st)), .val (.int (Int32.ofNat ((st + n - kk) % n))), .val (.ref b334), .val (.int x14), .val (.int u15)] [(.int (own_mark p1 (4 : Int32)))]))
        refine own_pre (fun t k => XS.iload X355.here hx rfl (hb hby at_334) rfl k) ?_
        show own_Ends _ _ _ _ (T355.setTop (mkF m 336 #[.val (.int p0), .val (.int p1), .val (.int p2), .val (.int p3), .val (.int (Int32.ofNat n)), .val (.int (Int32.ofNat kk)), .val (.ref b262), .val (.ref b296), .val (.ref b302), .val (.ref b310), .val (.int x10), .val (.int (Int32.ofNat st)), .val (.int (Int32.ofNat ((st + n - kk) % n))), .val (.ref b334), .val (.int x14), .val (.int u15)] [(.int x10), (.int (own_mark p1 (4 : Int32)))]))
        by_cases hc361 : x10 < (own_mark p1 (4 : Int32))
        · skip
          refine own_pre (fun t k => XS.icmpYes X355.here hx rfl (pc0 := 336) (pc' := 342) rfl (hb hby at_336) rfl (tlt hc361).2.2.1 (by decide) (by decide) k) ?_
          show own_Ends _ _ _ _ (T355.setTop (mkF m 342 #[.val (.int p0), .val (.int p1), .val (.int p2), .val (.int p3), .val (.int (Int32.ofNat n)), .val (.int (Int32.ofNat kk)), .val (.ref b262), .val (.ref b296), .val (.ref b302), .val (.ref b310), .val (.int x10), .val (.int (Int32.ofNat st)), .val (.int (Int32.ofNat ((st + n - kk) % n))), .val (.ref b334), .val (.int x14), .val (.int u15)] []))
          exact J342 _ (hz.trans (by rw [show own_s (Int32.ofNat ((st + n - kk) % n)) x10 (own_mark p1 (4 : Int32)) (4 : Int32) u15 = _ from own_s_def _ _ _ _ _, if_neg hc359, if_pos hc361]))
        · skip
          refine own_pre (fun t k => XS.icmpNo X355.here hx rfl (hb hby at_336) rfl (flt hc361).2.2.1 k) ?_
          show own_Ends _ _ _ _ (T355.setTop (mkF m 339 #[.val (.int p0), .val (.int p1), .val (.int p2), .val (.int p3), .val (.int (Int32.ofNat n)), .val (.int (Int32.ofNat kk)), .val (.ref b262), .val (.ref b296), .val (.ref b302), .val (.ref b310), .val (.int x10), .val (.int (Int32.ofNat st)), .val (.int (Int32.ofNat ((st + n - kk) % n))), .val (.ref b334), .val (.int x14), .val (.int u15)] []))
          refine own_pre (fun t k => XS.iconst X355.here hx rfl (hb hby at_339) k) ?_
          show own_Ends _ _ _ _ (T355.setTop (mkF m 340 #[.val (.int p0), .val (.int p1), .val (.int p2), .val (.int p3), .val (.int (Int32.ofNat n)), .val (.int (Int32.ofNat kk)), .val (.ref b262), .val (.ref b296), .val (.ref b302), .val (.ref b310), .val (.int x10), .val (.int (Int32.ofNat st)), .val (.int (Int32.ofNat ((st + n - kk) % n))), .val (.ref b334), .val (.int x14), .val (.int u15)] [(.int (4 : Int32))]))
          refine own_pre (fun t k => XS.istore X355.here hx rfl (hb hby at_340) rfl (l' := #[.val (.int p0), .val (.int p1), .val (.int p2), .val (.int p3), .val (.int (Int32.ofNat n)), .val (.int (Int32.ofNat kk)), .val (.ref b262), .val (.ref b296), .val (.ref b302), .val (.ref b310), .val (.int x10), .val (.int (Int32.ofNat st)), .val (.int (Int32.ofNat ((st + n - kk) % n))), .val (.ref b334), .val (.int x14), .val (.int (4 : Int32))]) rfl k) ?_
          show own_Ends _ _ _ _ (T355.setTop (mkF m 342 #[.val (.int p0), .val (.int p1), .val (.int p2), .val (.int p3), .val (.int (Int32.ofNat n)), .val (.int (Int32.ofNat kk)), .val (.ref b262), .val (.ref b296), .val (.ref b302), .val (.ref b310), .val (.int x10), .val (.int (Int32.ofNat st)), .val (.int (Int32.ofNat ((st + n - kk) % n))), .val (.ref b334), .val (.int x14), .val (.int (4 : Int32))] []))
          exact J342 _ (hz.trans (by rw [show own_s (Int32.ofNat ((st + n - kk) % n)) x10 (own_mark p1 (4 : Int32)) (4 : Int32) u15 = _ from own_s_def _ _ _ _ _, if_neg hc359, if_neg hc361]))
    have J306 : ∀ (u15 : Int32) (hz : x14 = (own_s (Int32.ofNat ((st + n - kk) % n)) x10 (own_mark p1 (5 : Int32)) (5 : Int32) (own_s (Int32.ofNat ((st + n - kk) % n)) x10 (own_mark p1 (4 : Int32)) (4 : Int32) (own_s (Int32.ofNat ((st + n - kk) % n)) x10 (own_mark p1 (3 : Int32)) (3 : Int32) u15)))), own_Ends p e below (own_Fin s (fun v h L => v = some (.int 1) ∧ Fr n0 L) 24 192) (T355.setTop (mkF m 306 #[.val (.int p0), .val (.int p1), .val (.int p2), .val (.int p3), .val (.int (Int32.ofNat n)), .val (.int (Int32.ofNat kk)), .val (.ref b262), .val (.ref b296), .val (.ref b302), .val (.ref b310), .val (.int x10), .val (.int (Int32.ofNat st)), .val (.int (Int32.ofNat ((st + n - kk) % n))), .val (.ref b334), .val (.int x14), .val (.int u15)] [])) := by
      intro u15 hz
      show own_Ends _ _ _ _ (T355.setTop (mkF m 306 #[.val (.int p0), .val (.int p1), .val (.int p2), .val (.int p3), .val (.int (Int32.ofNat n)), .val (.int (Int32.ofNat kk)), .val (.ref b262), .val (.ref b296), .val (.ref b302), .val (.ref b310), .val (.int x10), .val (.int (Int32.ofNat st)), .val (.int (Int32.ofNat ((st + n - kk) % n))), .val (.ref b334), .val (.int x14), .val (.int u15)] []))
      refine own_pre (fun t k => XS.iload X355.here hx rfl (hb hby at_306) rfl k) ?_
      show own_Ends _ _ _ _ (T355.setTop (mkF m 308 #[.val (.int p0), .val (.int p1), .val (.int p2), .val (.int p3), .val (.int (Int32.ofNat n)), .val (.int (Int32.ofNat kk)), .val (.ref b262), .val (.ref b296), .val (.ref b302), .val (.ref b310), .val (.int x10), .val (.int (Int32.ofNat st)), .val (.int (Int32.ofNat ((st + n - kk) % n))), .val (.ref b334), .val (.int x14), .val (.int u15)] [(.int (Int32.ofNat ((st + n - kk) % n)))]))
      refine own_pre (fun t k => XS.iconst X355.here hx rfl (hb hby at_308) k) ?_
      show own_Ends _ _ _ _ (T355.setTop (mkF m 309 #[.val (.int p0), .val (.int p1), .val (.int p2), .val (.int p3), .val (.int (Int32.ofNat n)), .val (.int (Int32.ofNat kk)), .val (.ref b262), .val (.ref b296), .val (.ref b302), .val (.ref b310), .val (.int x10), .val (.int (Int32.ofNat st)), .val (.int (Int32.ofNat ((st + n - kk) % n))), .val (.ref b334), .val (.int x14), .val (.int u15)] [(.int (3 : Int32)), (.int (Int32.ofNat ((st + n - kk) % n)))]))
      by_cases hc362 : (Int32.ofNat ((st + n - kk) % n)) < (3 : Int32)
      · skip
        refine own_pre (fun t k => XS.icmpYes X355.here hx rfl (pc0 := 309) (pc' := 324) rfl (hb hby at_309) rfl (tlt hc362).1 (by decide) (by decide) k) ?_
        show own_Ends _ _ _ _ (T355.setTop (mkF m 324 #[.val (.int p0), .val (.int p1), .val (.int p2), .val (.int p3), .val (.int (Int32.ofNat n)), .val (.int (Int32.ofNat kk)), .val (.ref b262), .val (.ref b296), .val (.ref b302), .val (.ref b310), .val (.int x10), .val (.int (Int32.ofNat st)), .val (.int (Int32.ofNat ((st + n - kk) % n))), .val (.ref b334), .val (.int x14), .val (.int u15)] []))
        exact J324 _ (hz.trans (by rw [show own_s (Int32.ofNat ((st + n - kk) % n)) x10 (own_mark p1 (3 : Int32)) (3 : Int32) u15 = _ from own_s_def _ _ _ _ _, if_pos hc362]))
      · skip
        refine own_pre (fun t k => XS.icmpNo X355.here hx rfl (hb hby at_309) rfl (flt hc362).1 k) ?_
        show own_Ends _ _ _ _ (T355.setTop (mkF m 312 #[.val (.int p0), .val (.int p1), .val (.int p2), .val (.int p3), .val (.int (Int32.ofNat n)), .val (.int (Int32.ofNat kk)), .val (.ref b262), .val (.ref b296), .val (.ref b302), .val (.ref b310), .val (.int x10), .val (.int (Int32.ofNat st)), .val (.int (Int32.ofNat ((st + n - kk) % n))), .val (.ref b334), .val (.int x14), .val (.int u15)] []))
        refine own_pre (fun t k => XS.aload X355.here hx rfl (hb hby at_312) rfl rfl k) ?_
        show own_Ends _ _ _ _ (T355.setTop (mkF m 314 #[.val (.int p0), .val (.int p1), .val (.int p2), .val (.int p3), .val (.int (Int32.ofNat n)), .val (.int (Int32.ofNat kk)), .val (.ref b262), .val (.ref b296), .val (.ref b302), .val (.ref b310), .val (.int x10), .val (.int (Int32.ofNat st)), .val (.int (Int32.ofNat ((st + n - kk) % n))), .val (.ref b334), .val (.int x14), .val (.int u15)] [(.ref b262)]))
        refine own_pre (fun t k => XS.iconst X355.here hx rfl (hb hby at_314) k) ?_
        show own_Ends _ _ _ _ (T355.setTop (mkF m 315 #[.val (.int p0), .val (.int p1), .val (.int p2), .val (.int p3), .val (.int (Int32.ofNat n)), .val (.int (Int32.ofNat kk)), .val (.ref b262), .val (.ref b296), .val (.ref b302), .val (.ref b310), .val (.int x10), .val (.int (Int32.ofNat st)), .val (.int (Int32.ofNat ((st + n - kk) % n))), .val (.ref b334), .val (.int x14), .val (.int u15)] [(.int (3 : Int32)), (.ref b262)]))
        obtain ⟨cl363, Ar363, qc363, S363, M363, H363, G363⟩ := id (f350)
        have hin363 : ¬ ((3 : Int32) < 0 ∨ cl363.slots.size ≤ ((3 : Int32)).toNatClampNeg) := inb_of S363 ⟨by decide, by decide⟩
        have hat363 : cl363.slots[((3 : Int32)).toNatClampNeg]? = some (.int (own_mark p1 (3 : Int32))) := H363.at hin363 rfl
        refine own_pre (fun t k => X355.iaload hx (j := (3 : Int32)) (v := (.int (own_mark p1 (3 : Int32)))) (by rw [e355]; exact Ar363.1) (State.isArrayOf_alike hZ.alike Ar363.2.1) Ar363.2.2 hin363 hat363 (g := (mkF m 315 #[.val (.int p0), .val (.int p1), .val (.int p2), .val (.int p3), .val (.int (Int32.ofNat n)), .val (.int (Int32.ofNat kk)), .val (.ref b262), .val (.ref b296), .val (.ref b302), .val (.ref b310), .val (.int x10), .val (.int (Int32.ofNat st)), .val (.int (Int32.ofNat ((st + n - kk) % n))), .val (.ref b334), .val (.int x14), .val (.int u15)] [(.int (3 : Int32)), (.ref b262)])) rfl rfl (hb hby at_315) _ k) ?_
        show own_Ends _ _ _ _ (T355.setTop (mkF m 316 #[.val (.int p0), .val (.int p1), .val (.int p2), .val (.int p3), .val (.int (Int32.ofNat n)), .val (.int (Int32.ofNat kk)), .val (.ref b262), .val (.ref b296), .val (.ref b302), .val (.ref b310), .val (.int x10), .val (.int (Int32.ofNat st)), .val (.int (Int32.ofNat ((st + n - kk) % n))), .val (.ref b334), .val (.int x14), .val (.int u15)] [(.int (own_mark p1 (3 : Int32)))]))
        refine own_pre (fun t k => XS.iload X355.here hx rfl (hb hby at_316) rfl k) ?_
        show own_Ends _ _ _ _ (T355.setTop (mkF m 318 #[.val (.int p0), .val (.int p1), .val (.int p2), .val (.int p3), .val (.int (Int32.ofNat n)), .val (.int (Int32.ofNat kk)), .val (.ref b262), .val (.ref b296), .val (.ref b302), .val (.ref b310), .val (.int x10), .val (.int (Int32.ofNat st)), .val (.int (Int32.ofNat ((st + n - kk) % n))), .val (.ref b334), .val (.int x14), .val (.int u15)] [(.int x10), (.int (own_mark p1 (3 : Int32)))]))
        by_cases hc364 : x10 < (own_mark p1 (3 : Int32))
        · skip
          refine own_pre (fun t k => XS.icmpYes X355.here hx rfl (pc0 := 318) (pc' := 324) rfl (hb hby at_318) rfl (tlt hc364).2.2.1 (by decide) (by decide) k) ?_
          show own_Ends _ _ _ _ (T355.setTop (mkF m 324 #[.val (.int p0), .val (.int p1), .val (.int p2), .val (.int p3), .val (.int (Int32.ofNat n)), .val (.int (Int32.ofNat kk)), .val (.ref b262), .val (.ref b296), .val (.ref b302), .val (.ref b310), .val (.int x10), .val (.int (Int32.ofNat st)), .val (.int (Int32.ofNat ((st + n - kk) % n))), .val (.ref b334), .val (.int x14), .val (.int u15)] []))
          exact J324 _ (hz.trans (by rw [show own_s (Int32.ofNat ((st + n - kk) % n)) x10 (own_mark p1 (3 : Int32)) (3 : Int32) u15 = _ from own_s_def _ _ _ _ _, if_neg hc362, if_pos hc364]))
        · skip
          refine own_pre (fun t k => XS.icmpNo X355.here hx rfl (hb hby at_318) rfl (flt hc364).2.2.1 k) ?_
          show own_Ends _ _ _ _ (T355.setTop (mkF m 321 #[.val (.int p0), .val (.int p1), .val (.int p2), .val (.int p3), .val (.int (Int32.ofNat n)), .val (.int (Int32.ofNat kk)), .val (.ref b262), .val (.ref b296), .val (.ref b302), .val (.ref b310), .val (.int x10), .val (.int (Int32.ofNat st)), .val (.int (Int32.ofNat ((st + n - kk) % n))), .val (.ref b334), .val (.int x14), .val (.int u15)] []))
          refine own_pre (fun t k => XS.iconst X355.here hx rfl (hb hby at_321) k) ?_
          show own_Ends _ _ _ _ (T355.setTop (mkF m 322 #[.val (.int p0), .val (.int p1), .val (.int p2), .val (.int p3), .val (.int (Int32.ofNat n)), .val (.int (Int32.ofNat kk)), .val (.ref b262), .val (.ref b296), .val (.ref b302), .val (.ref b310), .val (.int x10), .val (.int (Int32.ofNat st)), .val (.int (Int32.ofNat ((st + n - kk) % n))), .val (.ref b334), .val (.int x14), .val (.int u15)] [(.int (3 : Int32))]))
          refine own_pre (fun t k => XS.istore X355.here hx rfl (hb hby at_322) rfl (l' := #[.val (.int p0), .val (.int p1), .val (.int p2), .val (.int p3), .val (.int (Int32.ofNat n)), .val (.int (Int32.ofNat kk)), .val (.ref b262), .val (.ref b296), .val (.ref b302), .val (.ref b310), .val (.int x10), .val (.int (Int32.ofNat st)), .val (.int (Int32.ofNat ((st + n - kk) % n))), .val (.ref b334), .val (.int x14), .val (.int (3 : Int32))]) rfl k) ?_
          show own_Ends _ _ _ _ (T355.setTop (mkF m 324 #[.val (.int p0), .val (.int p1), .val (.int p2), .val (.int p3), .val (.int (Int32.ofNat n)), .val (.int (Int32.ofNat kk)), .val (.ref b262), .val (.ref b296), .val (.ref b302), .val (.ref b310), .val (.int x10), .val (.int (Int32.ofNat st)), .val (.int (Int32.ofNat ((st + n - kk) % n))), .val (.ref b334), .val (.int x14), .val (.int (3 : Int32))] []))
          exact J324 _ (hz.trans (by rw [show own_s (Int32.ofNat ((st + n - kk) % n)) x10 (own_mark p1 (3 : Int32)) (3 : Int32) u15 = _ from own_s_def _ _ _ _ _, if_neg hc362, if_neg hc364]))
    have J288 : ∀ (u15 : Int32) (hz : x14 = (own_s (Int32.ofNat ((st + n - kk) % n)) x10 (own_mark p1 (5 : Int32)) (5 : Int32) (own_s (Int32.ofNat ((st + n - kk) % n)) x10 (own_mark p1 (4 : Int32)) (4 : Int32) (own_s (Int32.ofNat ((st + n - kk) % n)) x10 (own_mark p1 (3 : Int32)) (3 : Int32) (own_s (Int32.ofNat ((st + n - kk) % n)) x10 (own_mark p1 (2 : Int32)) (2 : Int32) u15))))), own_Ends p e below (own_Fin s (fun v h L => v = some (.int 1) ∧ Fr n0 L) 24 192) (T355.setTop (mkF m 288 #[.val (.int p0), .val (.int p1), .val (.int p2), .val (.int p3), .val (.int (Int32.ofNat n)), .val (.int (Int32.ofNat kk)), .val (.ref b262), .val (.ref b296), .val (.ref b302), .val (.ref b310), .val (.int x10), .val (.int (Int32.ofNat st)), .val (.int (Int32.ofNat ((st + n - kk) % n))), .val (.ref b334), .val (.int x14), .val (.int u15)] [])) := by
      intro u15 hz
      show own_Ends _ _ _ _ (T355.setTop (mkF m 288 #[.val (.int p0), .val (.int p1), .val (.int p2), .val (.int p3), .val (.int (Int32.ofNat n)), .val (.int (Int32.ofNat kk)), .val (.ref b262), .val (.ref b296), .val (.ref b302), .val (.ref b310), .val (.int x10), .val (.int (Int32.ofNat st)), .val (.int (Int32.ofNat ((st + n - kk) % n))), .val (.ref b334), .val (.int x14), .val (.int u15)] []))
      refine own_pre (fun t k => XS.iload X355.here hx rfl (hb hby at_288) rfl k) ?_
      show own_Ends _ _ _ _ (T355.setTop (mkF m 290 #[.val (.int p0), .val (.int p1), .val (.int p2), .val (.int p3), .val (.int (Int32.ofNat n)), .val (.int (Int32.ofNat kk)), .val (.ref b262), .val (.ref b296), .val (.ref b302), .val (.ref b310), .val (.int x10), .val (.int (Int32.ofNat st)), .val (.int (Int32.ofNat ((st + n - kk) % n))), .val (.ref b334), .val (.int x14), .val (.int u15)] [(.int (Int32.ofNat ((st + n - kk) % n)))]))
      refine own_pre (fun t k => XS.iconst X355.here hx rfl (hb hby at_290) k) ?_
      show own_Ends _ _ _ _ (T355.setTop (mkF m 291 #[.val (.int p0), .val (.int p1), .val (.int p2), .val (.int p3), .val (.int (Int32.ofNat n)), .val (.int (Int32.ofNat kk)), .val (.ref b262), .val (.ref b296), .val (.ref b302), .val (.ref b310), .val (.int x10), .val (.int (Int32.ofNat st)), .val (.int (Int32.ofNat ((st + n - kk) % n))), .val (.ref b334), .val (.int x14), .val (.int u15)] [(.int (2 : Int32)), (.int (Int32.ofNat ((st + n - kk) % n)))]))
      by_cases hc365 : (Int32.ofNat ((st + n - kk) % n)) < (2 : Int32)
      · skip
        refine own_pre (fun t k => XS.icmpYes X355.here hx rfl (pc0 := 291) (pc' := 306) rfl (hb hby at_291) rfl (tlt hc365).1 (by decide) (by decide) k) ?_
        show own_Ends _ _ _ _ (T355.setTop (mkF m 306 #[.val (.int p0), .val (.int p1), .val (.int p2), .val (.int p3), .val (.int (Int32.ofNat n)), .val (.int (Int32.ofNat kk)), .val (.ref b262), .val (.ref b296), .val (.ref b302), .val (.ref b310), .val (.int x10), .val (.int (Int32.ofNat st)), .val (.int (Int32.ofNat ((st + n - kk) % n))), .val (.ref b334), .val (.int x14), .val (.int u15)] []))
        exact J306 _ (hz.trans (by rw [show own_s (Int32.ofNat ((st + n - kk) % n)) x10 (own_mark p1 (2 : Int32)) (2 : Int32) u15 = _ from own_s_def _ _ _ _ _, if_pos hc365]))
      · skip
        refine own_pre (fun t k => XS.icmpNo X355.here hx rfl (hb hby at_291) rfl (flt hc365).1 k) ?_
        show own_Ends _ _ _ _ (T355.setTop (mkF m 294 #[.val (.int p0), .val (.int p1), .val (.int p2), .val (.int p3), .val (.int (Int32.ofNat n)), .val (.int (Int32.ofNat kk)), .val (.ref b262), .val (.ref b296), .val (.ref b302), .val (.ref b310), .val (.int x10), .val (.int (Int32.ofNat st)), .val (.int (Int32.ofNat ((st + n - kk) % n))), .val (.ref b334), .val (.int x14), .val (.int u15)] []))
        refine own_pre (fun t k => XS.aload X355.here hx rfl (hb hby at_294) rfl rfl k) ?_
        show own_Ends _ _ _ _ (T355.setTop (mkF m 296 #[.val (.int p0), .val (.int p1), .val (.int p2), .val (.int p3), .val (.int (Int32.ofNat n)), .val (.int (Int32.ofNat kk)), .val (.ref b262), .val (.ref b296), .val (.ref b302), .val (.ref b310), .val (.int x10), .val (.int (Int32.ofNat st)), .val (.int (Int32.ofNat ((st + n - kk) % n))), .val (.ref b334), .val (.int x14), .val (.int u15)] [(.ref b262)]))
        refine own_pre (fun t k => XS.iconst X355.here hx rfl (hb hby at_296) k) ?_
        show own_Ends _ _ _ _ (T355.setTop (mkF m 297 #[.val (.int p0), .val (.int p1), .val (.int p2), .val (.int p3), .val (.int (Int32.ofNat n)), .val (.int (Int32.ofNat kk)), .val (.ref b262), .val (.ref b296), .val (.ref b302), .val (.ref b310), .val (.int x10), .val (.int (Int32.ofNat st)), .val (.int (Int32.ofNat ((st + n - kk) % n))), .val (.ref b334), .val (.int x14), .val (.int u15)] [(.int (2 : Int32)), (.ref b262)]))
        obtain ⟨cl366, Ar366, qc366, S366, M366, H366, G366⟩ := id (f350)
        have hin366 : ¬ ((2 : Int32) < 0 ∨ cl366.slots.size ≤ ((2 : Int32)).toNatClampNeg) := inb_of S366 ⟨by decide, by decide⟩
        have hat366 : cl366.slots[((2 : Int32)).toNatClampNeg]? = some (.int (own_mark p1 (2 : Int32))) := H366.at hin366 rfl
        refine own_pre (fun t k => X355.iaload hx (j := (2 : Int32)) (v := (.int (own_mark p1 (2 : Int32)))) (by rw [e355]; exact Ar366.1) (State.isArrayOf_alike hZ.alike Ar366.2.1) Ar366.2.2 hin366 hat366 (g := (mkF m 297 #[.val (.int p0), .val (.int p1), .val (.int p2), .val (.int p3), .val (.int (Int32.ofNat n)), .val (.int (Int32.ofNat kk)), .val (.ref b262), .val (.ref b296), .val (.ref b302), .val (.ref b310), .val (.int x10), .val (.int (Int32.ofNat st)), .val (.int (Int32.ofNat ((st + n - kk) % n))), .val (.ref b334), .val (.int x14), .val (.int u15)] [(.int (2 : Int32)), (.ref b262)])) rfl rfl (hb hby at_297) _ k) ?_
        show own_Ends _ _ _ _ (T355.setTop (mkF m 298 #[.val (.int p0), .val (.int p1), .val (.int p2), .val (.int p3), .val (.int (Int32.ofNat n)), .val (.int (Int32.ofNat kk)), .val (.ref b262), .val (.ref b296), .val (.ref b302), .val (.ref b310), .val (.int x10), .val (.int (Int32.ofNat st)), .val (.int (Int32.ofNat ((st + n - kk) % n))), .val (.ref b334), .val (.int x14), .val (.int u15)] [(.int (own_mark p1 (2 : Int32)))]))
        refine own_pre (fun t k => XS.iload X355.here hx rfl (hb hby at_298) rfl k) ?_
        show own_Ends _ _ _ _ (T355.setTop (mkF m 300 #[.val (.int p0), .val (.int p1), .val (.int p2), .val (.int p3), .val (.int (Int32.ofNat n)), .val (.int (Int32.ofNat kk)), .val (.ref b262), .val (.ref b296), .val (.ref b302), .val (.ref b310), .val (.int x10), .val (.int (Int32.ofNat st)), .val (.int (Int32.ofNat ((st + n - kk) % n))), .val (.ref b334), .val (.int x14), .val (.int u15)] [(.int x10), (.int (own_mark p1 (2 : Int32)))]))
        by_cases hc367 : x10 < (own_mark p1 (2 : Int32))
        · skip
          refine own_pre (fun t k => XS.icmpYes X355.here hx rfl (pc0 := 300) (pc' := 306) rfl (hb hby at_300) rfl (tlt hc367).2.2.1 (by decide) (by decide) k) ?_
          show own_Ends _ _ _ _ (T355.setTop (mkF m 306 #[.val (.int p0), .val (.int p1), .val (.int p2), .val (.int p3), .val (.int (Int32.ofNat n)), .val (.int (Int32.ofNat kk)), .val (.ref b262), .val (.ref b296), .val (.ref b302), .val (.ref b310), .val (.int x10), .val (.int (Int32.ofNat st)), .val (.int (Int32.ofNat ((st + n - kk) % n))), .val (.ref b334), .val (.int x14), .val (.int u15)] []))
          exact J306 _ (hz.trans (by rw [show own_s (Int32.ofNat ((st + n - kk) % n)) x10 (own_mark p1 (2 : Int32)) (2 : Int32) u15 = _ from own_s_def _ _ _ _ _, if_neg hc365, if_pos hc367]))
        · skip
          refine own_pre (fun t k => XS.icmpNo X355.here hx rfl (hb hby at_300) rfl (flt hc367).2.2.1 k) ?_
          show own_Ends _ _ _ _ (T355.setTop (mkF m 303 #[.val (.int p0), .val (.int p1), .val (.int p2), .val (.int p3), .val (.int (Int32.ofNat n)), .val (.int (Int32.ofNat kk)), .val (.ref b262), .val (.ref b296), .val (.ref b302), .val (.ref b310), .val (.int x10), .val (.int (Int32.ofNat st)), .val (.int (Int32.ofNat ((st + n - kk) % n))), .val (.ref b334), .val (.int x14), .val (.int u15)] []))
          refine own_pre (fun t k => XS.iconst X355.here hx rfl (hb hby at_303) k) ?_
          show own_Ends _ _ _ _ (T355.setTop (mkF m 304 #[.val (.int p0), .val (.int p1), .val (.int p2), .val (.int p3), .val (.int (Int32.ofNat n)), .val (.int (Int32.ofNat kk)), .val (.ref b262), .val (.ref b296), .val (.ref b302), .val (.ref b310), .val (.int x10), .val (.int (Int32.ofNat st)), .val (.int (Int32.ofNat ((st + n - kk) % n))), .val (.ref b334), .val (.int x14), .val (.int u15)] [(.int (2 : Int32))]))
          refine own_pre (fun t k => XS.istore X355.here hx rfl (hb hby at_304) rfl (l' := #[.val (.int p0), .val (.int p1), .val (.int p2), .val (.int p3), .val (.int (Int32.ofNat n)), .val (.int (Int32.ofNat kk)), .val (.ref b262), .val (.ref b296), .val (.ref b302), .val (.ref b310), .val (.int x10), .val (.int (Int32.ofNat st)), .val (.int (Int32.ofNat ((st + n - kk) % n))), .val (.ref b334), .val (.int x14), .val (.int (2 : Int32))]) rfl k) ?_
          show own_Ends _ _ _ _ (T355.setTop (mkF m 306 #[.val (.int p0), .val (.int p1), .val (.int p2), .val (.int p3), .val (.int (Int32.ofNat n)), .val (.int (Int32.ofNat kk)), .val (.ref b262), .val (.ref b296), .val (.ref b302), .val (.ref b310), .val (.int x10), .val (.int (Int32.ofNat st)), .val (.int (Int32.ofNat ((st + n - kk) % n))), .val (.ref b334), .val (.int x14), .val (.int (2 : Int32))] []))
          exact J306 _ (hz.trans (by rw [show own_s (Int32.ofNat ((st + n - kk) % n)) x10 (own_mark p1 (2 : Int32)) (2 : Int32) u15 = _ from own_s_def _ _ _ _ _, if_neg hc365, if_neg hc367]))
    have J270 : ∀ (u15 : Int32) (hz : x14 = (own_s (Int32.ofNat ((st + n - kk) % n)) x10 (own_mark p1 (5 : Int32)) (5 : Int32) (own_s (Int32.ofNat ((st + n - kk) % n)) x10 (own_mark p1 (4 : Int32)) (4 : Int32) (own_s (Int32.ofNat ((st + n - kk) % n)) x10 (own_mark p1 (3 : Int32)) (3 : Int32) (own_s (Int32.ofNat ((st + n - kk) % n)) x10 (own_mark p1 (2 : Int32)) (2 : Int32) (own_s (Int32.ofNat ((st + n - kk) % n)) x10 (own_mark p1 (1 : Int32)) (1 : Int32) u15)))))), own_Ends p e below (own_Fin s (fun v h L => v = some (.int 1) ∧ Fr n0 L) 24 192) (T355.setTop (mkF m 270 #[.val (.int p0), .val (.int p1), .val (.int p2), .val (.int p3), .val (.int (Int32.ofNat n)), .val (.int (Int32.ofNat kk)), .val (.ref b262), .val (.ref b296), .val (.ref b302), .val (.ref b310), .val (.int x10), .val (.int (Int32.ofNat st)), .val (.int (Int32.ofNat ((st + n - kk) % n))), .val (.ref b334), .val (.int x14), .val (.int u15)] [])) := by
      intro u15 hz
      show own_Ends _ _ _ _ (T355.setTop (mkF m 270 #[.val (.int p0), .val (.int p1), .val (.int p2), .val (.int p3), .val (.int (Int32.ofNat n)), .val (.int (Int32.ofNat kk)), .val (.ref b262), .val (.ref b296), .val (.ref b302), .val (.ref b310), .val (.int x10), .val (.int (Int32.ofNat st)), .val (.int (Int32.ofNat ((st + n - kk) % n))), .val (.ref b334), .val (.int x14), .val (.int u15)] []))
      refine own_pre (fun t k => XS.iload X355.here hx rfl (hb hby at_270) rfl k) ?_
      show own_Ends _ _ _ _ (T355.setTop (mkF m 272 #[.val (.int p0), .val (.int p1), .val (.int p2), .val (.int p3), .val (.int (Int32.ofNat n)), .val (.int (Int32.ofNat kk)), .val (.ref b262), .val (.ref b296), .val (.ref b302), .val (.ref b310), .val (.int x10), .val (.int (Int32.ofNat st)), .val (.int (Int32.ofNat ((st + n - kk) % n))), .val (.ref b334), .val (.int x14), .val (.int u15)] [(.int (Int32.ofNat ((st + n - kk) % n)))]))
      refine own_pre (fun t k => XS.iconst X355.here hx rfl (hb hby at_272) k) ?_
      show own_Ends _ _ _ _ (T355.setTop (mkF m 273 #[.val (.int p0), .val (.int p1), .val (.int p2), .val (.int p3), .val (.int (Int32.ofNat n)), .val (.int (Int32.ofNat kk)), .val (.ref b262), .val (.ref b296), .val (.ref b302), .val (.ref b310), .val (.int x10), .val (.int (Int32.ofNat st)), .val (.int (Int32.ofNat ((st + n - kk) % n))), .val (.ref b334), .val (.int x14), .val (.int u15)] [(.int (1 : Int32)), (.int (Int32.ofNat ((st + n - kk) % n)))]))
      by_cases hc368 : (Int32.ofNat ((st + n - kk) % n)) < (1 : Int32)
      · skip
        refine own_pre (fun t k => XS.icmpYes X355.here hx rfl (pc0 := 273) (pc' := 288) rfl (hb hby at_273) rfl (tlt hc368).1 (by decide) (by decide) k) ?_
        show own_Ends _ _ _ _ (T355.setTop (mkF m 288 #[.val (.int p0), .val (.int p1), .val (.int p2), .val (.int p3), .val (.int (Int32.ofNat n)), .val (.int (Int32.ofNat kk)), .val (.ref b262), .val (.ref b296), .val (.ref b302), .val (.ref b310), .val (.int x10), .val (.int (Int32.ofNat st)), .val (.int (Int32.ofNat ((st + n - kk) % n))), .val (.ref b334), .val (.int x14), .val (.int u15)] []))
        exact J288 _ (hz.trans (by rw [show own_s (Int32.ofNat ((st + n - kk) % n)) x10 (own_mark p1 (1 : Int32)) (1 : Int32) u15 = _ from own_s_def _ _ _ _ _, if_pos hc368]))
      · skip
        refine own_pre (fun t k => XS.icmpNo X355.here hx rfl (hb hby at_273) rfl (flt hc368).1 k) ?_
        show own_Ends _ _ _ _ (T355.setTop (mkF m 276 #[.val (.int p0), .val (.int p1), .val (.int p2), .val (.int p3), .val (.int (Int32.ofNat n)), .val (.int (Int32.ofNat kk)), .val (.ref b262), .val (.ref b296), .val (.ref b302), .val (.ref b310), .val (.int x10), .val (.int (Int32.ofNat st)), .val (.int (Int32.ofNat ((st + n - kk) % n))), .val (.ref b334), .val (.int x14), .val (.int u15)] []))
        refine own_pre (fun t k => XS.aload X355.here hx rfl (hb hby at_276) rfl rfl k) ?_
        show own_Ends _ _ _ _ (T355.setTop (mkF m 278 #[.val (.int p0), .val (.int p1), .val (.int p2), .val (.int p3), .val (.int (Int32.ofNat n)), .val (.int (Int32.ofNat kk)), .val (.ref b262), .val (.ref b296), .val (.ref b302), .val (.ref b310), .val (.int x10), .val (.int (Int32.ofNat st)), .val (.int (Int32.ofNat ((st + n - kk) % n))), .val (.ref b334), .val (.int x14), .val (.int u15)] [(.ref b262)]))
        refine own_pre (fun t k => XS.iconst X355.here hx rfl (hb hby at_278) k) ?_
        show own_Ends _ _ _ _ (T355.setTop (mkF m 279 #[.val (.int p0), .val (.int p1), .val (.int p2), .val (.int p3), .val (.int (Int32.ofNat n)), .val (.int (Int32.ofNat kk)), .val (.ref b262), .val (.ref b296), .val (.ref b302), .val (.ref b310), .val (.int x10), .val (.int (Int32.ofNat st)), .val (.int (Int32.ofNat ((st + n - kk) % n))), .val (.ref b334), .val (.int x14), .val (.int u15)] [(.int (1 : Int32)), (.ref b262)]))
        obtain ⟨cl369, Ar369, qc369, S369, M369, H369, G369⟩ := id (f350)
        have hin369 : ¬ ((1 : Int32) < 0 ∨ cl369.slots.size ≤ ((1 : Int32)).toNatClampNeg) := inb_of S369 ⟨by decide, by decide⟩
        have hat369 : cl369.slots[((1 : Int32)).toNatClampNeg]? = some (.int (own_mark p1 (1 : Int32))) := H369.at hin369 rfl
        refine own_pre (fun t k => X355.iaload hx (j := (1 : Int32)) (v := (.int (own_mark p1 (1 : Int32)))) (by rw [e355]; exact Ar369.1) (State.isArrayOf_alike hZ.alike Ar369.2.1) Ar369.2.2 hin369 hat369 (g := (mkF m 279 #[.val (.int p0), .val (.int p1), .val (.int p2), .val (.int p3), .val (.int (Int32.ofNat n)), .val (.int (Int32.ofNat kk)), .val (.ref b262), .val (.ref b296), .val (.ref b302), .val (.ref b310), .val (.int x10), .val (.int (Int32.ofNat st)), .val (.int (Int32.ofNat ((st + n - kk) % n))), .val (.ref b334), .val (.int x14), .val (.int u15)] [(.int (1 : Int32)), (.ref b262)])) rfl rfl (hb hby at_279) _ k) ?_
        show own_Ends _ _ _ _ (T355.setTop (mkF m 280 #[.val (.int p0), .val (.int p1), .val (.int p2), .val (.int p3), .val (.int (Int32.ofNat n)), .val (.int (Int32.ofNat kk)), .val (.ref b262), .val (.ref b296), .val (.ref b302), .val (.ref b310), .val (.int x10), .val (.int (Int32.ofNat st)), .val (.int (Int32.ofNat ((st + n - kk) % n))), .val (.ref b334), .val (.int x14), .val (.int u15)] [(.int (own_mark p1 (1 : Int32)))]))
        refine own_pre (fun t k => XS.iload X355.here hx rfl (hb hby at_280) rfl k) ?_
        show own_Ends _ _ _ _ (T355.setTop (mkF m 282 #[.val (.int p0), .val (.int p1), .val (.int p2), .val (.int p3), .val (.int (Int32.ofNat n)), .val (.int (Int32.ofNat kk)), .val (.ref b262), .val (.ref b296), .val (.ref b302), .val (.ref b310), .val (.int x10), .val (.int (Int32.ofNat st)), .val (.int (Int32.ofNat ((st + n - kk) % n))), .val (.ref b334), .val (.int x14), .val (.int u15)] [(.int x10), (.int (own_mark p1 (1 : Int32)))]))
        by_cases hc370 : x10 < (own_mark p1 (1 : Int32))
        · skip
          refine own_pre (fun t k => XS.icmpYes X355.here hx rfl (pc0 := 282) (pc' := 288) rfl (hb hby at_282) rfl (tlt hc370).2.2.1 (by decide) (by decide) k) ?_
          show own_Ends _ _ _ _ (T355.setTop (mkF m 288 #[.val (.int p0), .val (.int p1), .val (.int p2), .val (.int p3), .val (.int (Int32.ofNat n)), .val (.int (Int32.ofNat kk)), .val (.ref b262), .val (.ref b296), .val (.ref b302), .val (.ref b310), .val (.int x10), .val (.int (Int32.ofNat st)), .val (.int (Int32.ofNat ((st + n - kk) % n))), .val (.ref b334), .val (.int x14), .val (.int u15)] []))
          exact J288 _ (hz.trans (by rw [show own_s (Int32.ofNat ((st + n - kk) % n)) x10 (own_mark p1 (1 : Int32)) (1 : Int32) u15 = _ from own_s_def _ _ _ _ _, if_neg hc368, if_pos hc370]))
        · skip
          refine own_pre (fun t k => XS.icmpNo X355.here hx rfl (hb hby at_282) rfl (flt hc370).2.2.1 k) ?_
          show own_Ends _ _ _ _ (T355.setTop (mkF m 285 #[.val (.int p0), .val (.int p1), .val (.int p2), .val (.int p3), .val (.int (Int32.ofNat n)), .val (.int (Int32.ofNat kk)), .val (.ref b262), .val (.ref b296), .val (.ref b302), .val (.ref b310), .val (.int x10), .val (.int (Int32.ofNat st)), .val (.int (Int32.ofNat ((st + n - kk) % n))), .val (.ref b334), .val (.int x14), .val (.int u15)] []))
          refine own_pre (fun t k => XS.iconst X355.here hx rfl (hb hby at_285) k) ?_
          show own_Ends _ _ _ _ (T355.setTop (mkF m 286 #[.val (.int p0), .val (.int p1), .val (.int p2), .val (.int p3), .val (.int (Int32.ofNat n)), .val (.int (Int32.ofNat kk)), .val (.ref b262), .val (.ref b296), .val (.ref b302), .val (.ref b310), .val (.int x10), .val (.int (Int32.ofNat st)), .val (.int (Int32.ofNat ((st + n - kk) % n))), .val (.ref b334), .val (.int x14), .val (.int u15)] [(.int (1 : Int32))]))
          refine own_pre (fun t k => XS.istore X355.here hx rfl (hb hby at_286) rfl (l' := #[.val (.int p0), .val (.int p1), .val (.int p2), .val (.int p3), .val (.int (Int32.ofNat n)), .val (.int (Int32.ofNat kk)), .val (.ref b262), .val (.ref b296), .val (.ref b302), .val (.ref b310), .val (.int x10), .val (.int (Int32.ofNat st)), .val (.int (Int32.ofNat ((st + n - kk) % n))), .val (.ref b334), .val (.int x14), .val (.int (1 : Int32))]) rfl k) ?_
          show own_Ends _ _ _ _ (T355.setTop (mkF m 288 #[.val (.int p0), .val (.int p1), .val (.int p2), .val (.int p3), .val (.int (Int32.ofNat n)), .val (.int (Int32.ofNat kk)), .val (.ref b262), .val (.ref b296), .val (.ref b302), .val (.ref b310), .val (.int x10), .val (.int (Int32.ofNat st)), .val (.int (Int32.ofNat ((st + n - kk) % n))), .val (.ref b334), .val (.int x14), .val (.int (1 : Int32))] []))
          exact J288 _ (hz.trans (by rw [show own_s (Int32.ofNat ((st + n - kk) % n)) x10 (own_mark p1 (1 : Int32)) (1 : Int32) u15 = _ from own_s_def _ _ _ _ _, if_neg hc368, if_neg hc370]))
    show own_Ends _ _ _ _ (T355.setTop (mkF m 267 #[.val (.int p0), .val (.int p1), .val (.int p2), .val (.int p3), .val (.int (Int32.ofNat n)), .val (.int (Int32.ofNat kk)), .val (.ref b262), .val (.ref b296), .val (.ref b302), .val (.ref b310), .val (.int x10), .val (.int (Int32.ofNat st)), .val (.int (Int32.ofNat ((st + n - kk) % n))), .val (.ref b334), .val (.int x14), .unset] []))
    refine own_pre (fun t k => XS.iconst X355.here hx rfl (hb hby at_267) k) ?_
    show own_Ends _ _ _ _ (T355.setTop (mkF m 268 #[.val (.int p0), .val (.int p1), .val (.int p2), .val (.int p3), .val (.int (Int32.ofNat n)), .val (.int (Int32.ofNat kk)), .val (.ref b262), .val (.ref b296), .val (.ref b302), .val (.ref b310), .val (.int x10), .val (.int (Int32.ofNat st)), .val (.int (Int32.ofNat ((st + n - kk) % n))), .val (.ref b334), .val (.int x14), .unset] [(.int (0 : Int32))]))
    refine own_pre (fun t k => XS.istore X355.here hx rfl (hb hby at_268) rfl (l' := #[.val (.int p0), .val (.int p1), .val (.int p2), .val (.int p3), .val (.int (Int32.ofNat n)), .val (.int (Int32.ofNat kk)), .val (.ref b262), .val (.ref b296), .val (.ref b302), .val (.ref b310), .val (.int x10), .val (.int (Int32.ofNat st)), .val (.int (Int32.ofNat ((st + n - kk) % n))), .val (.ref b334), .val (.int x14), .val (.int (0 : Int32))]) rfl k) ?_
    show own_Ends _ _ _ _ (T355.setTop (mkF m 270 #[.val (.int p0), .val (.int p1), .val (.int p2), .val (.int p3), .val (.int (Int32.ofNat n)), .val (.int (Int32.ofNat kk)), .val (.ref b262), .val (.ref b296), .val (.ref b302), .val (.ref b310), .val (.int x10), .val (.int (Int32.ofNat st)), .val (.int (Int32.ofNat ((st + n - kk) % n))), .val (.ref b334), .val (.int x14), .val (.int (0 : Int32))] []))
    exact J270 _ (hx14.symm.trans (own_main h1 hn (Nat.mod_lt _ (by omega)) hr))
  show own_Ends _ _ _ _ (T332.setTop (mkF m 196 #[.val (.int p0), .val (.int p1), .val (.int p2), .val (.int p3), .val (.int (Int32.ofNat n)), .val (.int (Int32.ofNat kk)), .val (.ref b262), .val (.ref b296), .val (.ref b302), .val (.ref b310), .unset, .unset, .unset, .unset, .unset, .unset] []))
  refine own_pre (fun t k => XS.iloadN X332.here hx rfl (hb hby at_196) rfl k) ?_
  show own_Ends _ _ _ _ (T332.setTop (mkF m 197 #[.val (.int p0), .val (.int p1), .val (.int p2), .val (.int p3), .val (.int (Int32.ofNat n)), .val (.int (Int32.ofNat kk)), .val (.ref b262), .val (.ref b296), .val (.ref b302), .val (.ref b310), .unset, .unset, .unset, .unset, .unset, .unset] [(.int p0)]))
  refine own_pre (fun t k => XS.bipush X332.here hx rfl (hb hby at_197) k) ?_
  show own_Ends _ _ _ _ (T332.setTop (mkF m 199 #[.val (.int p0), .val (.int p1), .val (.int p2), .val (.int p3), .val (.int (Int32.ofNat n)), .val (.int (Int32.ofNat kk)), .val (.ref b262), .val (.ref b296), .val (.ref b302), .val (.ref b310), .unset, .unset, .unset, .unset, .unset, .unset] [(.int (8 : Int32)), (.int p0)]))
  refine own_pre (fun t k => XS.iand X332.here hx rfl (hb hby at_199) rfl k) ?_
  show own_Ends _ _ _ _ (T332.setTop (mkF m 200 #[.val (.int p0), .val (.int p1), .val (.int p2), .val (.int p3), .val (.int (Int32.ofNat n)), .val (.int (Int32.ofNat kk)), .val (.ref b262), .val (.ref b296), .val (.ref b302), .val (.ref b310), .unset, .unset, .unset, .unset, .unset, .unset] [(.int (p0 &&& (8 : Int32)))]))
  by_cases hc371 : (p0 &&& (8 : Int32)) = (0 : Int32)
  · skip
    refine own_pre (fun t k => XS.ifYes X332.here hx rfl (pc0 := 200) (pc' := 210) rfl (hb hby at_200) rfl ((if0 _ _).trans (teq hc371).1) (by decide) (by decide) k) ?_
    show own_Ends _ _ _ _ (T332.setTop (mkF m 210 #[.val (.int p0), .val (.int p1), .val (.int p2), .val (.int p3), .val (.int (Int32.ofNat n)), .val (.int (Int32.ofNat kk)), .val (.ref b262), .val (.ref b296), .val (.ref b302), .val (.ref b310), .unset, .unset, .unset, .unset, .unset, .unset] []))
    refine own_pre (fun t k => XS.iloadN X332.here hx rfl (hb hby at_210) rfl k) ?_
    show own_Ends _ _ _ _ (T332.setTop (mkF m 211 #[.val (.int p0), .val (.int p1), .val (.int p2), .val (.int p3), .val (.int (Int32.ofNat n)), .val (.int (Int32.ofNat kk)), .val (.ref b262), .val (.ref b296), .val (.ref b302), .val (.ref b310), .unset, .unset, .unset, .unset, .unset, .unset] [(.int p2)]))
    refine own_pre (fun t k => X332.ldcInt hx hown (mvT hZ (hw _ (List.mem_of_getElem? (i := 0) rfl))) (g := (mkF m 211 #[.val (.int p0), .val (.int p1), .val (.int p2), .val (.int p3), .val (.int (Int32.ofNat n)), .val (.int (Int32.ofNat kk)), .val (.ref b262), .val (.ref b296), .val (.ref b302), .val (.ref b310), .unset, .unset, .unset, .unset, .unset, .unset] [(.int p2)])) rfl (hb hby at_211) _ k) ?_
    show own_Ends _ _ _ _ (T332.setTop (mkF m 213 #[.val (.int p0), .val (.int p1), .val (.int p2), .val (.int p3), .val (.int (Int32.ofNat n)), .val (.int (Int32.ofNat kk)), .val (.ref b262), .val (.ref b296), .val (.ref b302), .val (.ref b310), .unset, .unset, .unset, .unset, .unset, .unset] [(.int (2147483647 : Int32)), (.int p2)]))
    refine own_pre (fun t k => XS.iand X332.here hx rfl (hb hby at_213) rfl k) ?_
    show own_Ends _ _ _ _ (T332.setTop (mkF m 214 #[.val (.int p0), .val (.int p1), .val (.int p2), .val (.int p3), .val (.int (Int32.ofNat n)), .val (.int (Int32.ofNat kk)), .val (.ref b262), .val (.ref b296), .val (.ref b302), .val (.ref b310), .unset, .unset, .unset, .unset, .unset, .unset] [(.int (p2 &&& (2147483647 : Int32)))]))
    refine own_pre (fun t k => XS.bipush X332.here hx rfl (hb hby at_214) k) ?_
    show own_Ends _ _ _ _ (T332.setTop (mkF m 216 #[.val (.int p0), .val (.int p1), .val (.int p2), .val (.int p3), .val (.int (Int32.ofNat n)), .val (.int (Int32.ofNat kk)), .val (.ref b262), .val (.ref b296), .val (.ref b302), .val (.ref b310), .unset, .unset, .unset, .unset, .unset, .unset] [(.int (16 : Int32)), (.int (p2 &&& (2147483647 : Int32)))]))
    refine own_pre (fun t k => iremM X332 hx rfl (hb hby at_216) rfl (by decide) k) ?_
    show own_Ends _ _ _ _ (T332.setTop (mkF m 217 #[.val (.int p0), .val (.int p1), .val (.int p2), .val (.int p3), .val (.int (Int32.ofNat n)), .val (.int (Int32.ofNat kk)), .val (.ref b262), .val (.ref b296), .val (.ref b302), .val (.ref b310), .unset, .unset, .unset, .unset, .unset, .unset] [(.int ((p2 &&& (2147483647 : Int32)) % (16 : Int32)))]))
    refine own_pre (fun t k => XS.istore X332.here hx rfl (hb hby at_217) rfl (l' := #[.val (.int p0), .val (.int p1), .val (.int p2), .val (.int p3), .val (.int (Int32.ofNat n)), .val (.int (Int32.ofNat kk)), .val (.ref b262), .val (.ref b296), .val (.ref b302), .val (.ref b310), .val (.int ((p2 &&& (2147483647 : Int32)) % (16 : Int32))), .unset, .unset, .unset, .unset, .unset]) rfl k) ?_
    show own_Ends _ _ _ _ (T332.setTop (mkF m 219 #[.val (.int p0), .val (.int p1), .val (.int p2), .val (.int p3), .val (.int (Int32.ofNat n)), .val (.int (Int32.ofNat kk)), .val (.ref b262), .val (.ref b296), .val (.ref b302), .val (.ref b310), .val (.int ((p2 &&& (2147483647 : Int32)) % (16 : Int32))), .unset, .unset, .unset, .unset, .unset] []))
    exact J219 _ (own_r16 p2)
  · skip
    refine own_pre (fun t k => XS.ifNo X332.here hx rfl (hb hby at_200) rfl ((if0 _ _).trans (feq hc371).1) k) ?_
    show own_Ends _ _ _ _ (T332.setTop (mkF m 203 #[.val (.int p0), .val (.int p1), .val (.int p2), .val (.int p3), .val (.int (Int32.ofNat n)), .val (.int (Int32.ofNat kk)), .val (.ref b262), .val (.ref b296), .val (.ref b302), .val (.ref b310), .unset, .unset, .unset, .unset, .unset, .unset] []))
    refine own_pre (fun t k => XS.iloadN X332.here hx rfl (hb hby at_203) rfl k) ?_
    show own_Ends _ _ _ _ (T332.setTop (mkF m 204 #[.val (.int p0), .val (.int p1), .val (.int p2), .val (.int p3), .val (.int (Int32.ofNat n)), .val (.int (Int32.ofNat kk)), .val (.ref b262), .val (.ref b296), .val (.ref b302), .val (.ref b310), .unset, .unset, .unset, .unset, .unset, .unset] [(.int p2)]))
    refine own_pre (fun t k => X332.ldcInt hx hown (mvT hZ (hw _ (List.mem_of_getElem? (i := 0) rfl))) (g := (mkF m 204 #[.val (.int p0), .val (.int p1), .val (.int p2), .val (.int p3), .val (.int (Int32.ofNat n)), .val (.int (Int32.ofNat kk)), .val (.ref b262), .val (.ref b296), .val (.ref b302), .val (.ref b310), .unset, .unset, .unset, .unset, .unset, .unset] [(.int p2)])) rfl (hb hby at_204) _ k) ?_
    show own_Ends _ _ _ _ (T332.setTop (mkF m 206 #[.val (.int p0), .val (.int p1), .val (.int p2), .val (.int p3), .val (.int (Int32.ofNat n)), .val (.int (Int32.ofNat kk)), .val (.ref b262), .val (.ref b296), .val (.ref b302), .val (.ref b310), .unset, .unset, .unset, .unset, .unset, .unset] [(.int (2147483647 : Int32)), (.int p2)]))
    refine own_pre (fun t k => XS.iand X332.here hx rfl (hb hby at_206) rfl k) ?_
    show own_Ends _ _ _ _ (T332.setTop (mkF m 207 #[.val (.int p0), .val (.int p1), .val (.int p2), .val (.int p3), .val (.int (Int32.ofNat n)), .val (.int (Int32.ofNat kk)), .val (.ref b262), .val (.ref b296), .val (.ref b302), .val (.ref b310), .unset, .unset, .unset, .unset, .unset, .unset] [(.int (p2 &&& (2147483647 : Int32)))]))
    refine own_pre (fun t k => XS.goto X332.here hx rfl (pc0 := 207) (pc' := 217) rfl (hb hby at_207) (by decide) (by decide) k) ?_
    show own_Ends _ _ _ _ (T332.setTop (mkF m 217 #[.val (.int p0), .val (.int p1), .val (.int p2), .val (.int p3), .val (.int (Int32.ofNat n)), .val (.int (Int32.ofNat kk)), .val (.ref b262), .val (.ref b296), .val (.ref b302), .val (.ref b310), .unset, .unset, .unset, .unset, .unset, .unset] [(.int (p2 &&& (2147483647 : Int32)))]))
    refine own_pre (fun t k => XS.istore X332.here hx rfl (hb hby at_217) rfl (l' := #[.val (.int p0), .val (.int p1), .val (.int p2), .val (.int p3), .val (.int (Int32.ofNat n)), .val (.int (Int32.ofNat kk)), .val (.ref b262), .val (.ref b296), .val (.ref b302), .val (.ref b310), .val (.int (p2 &&& (2147483647 : Int32))), .unset, .unset, .unset, .unset, .unset]) rfl k) ?_
    show own_Ends _ _ _ _ (T332.setTop (mkF m 219 #[.val (.int p0), .val (.int p1), .val (.int p2), .val (.int p3), .val (.int (Int32.ofNat n)), .val (.int (Int32.ofNat kk)), .val (.ref b262), .val (.ref b296), .val (.ref b302), .val (.ref b310), .val (.int (p2 &&& (2147483647 : Int32))), .unset, .unset, .unset, .unset, .unset] []))
    exact J219 _ (own_r0 p2)
set_option maxRecDepth 65536 in
set_option maxHeartbeats 40000000 in
theorem own_comes {Post : Tables → Env → Array Value → State → Outcome → State → Prop} (hpost : ∀ tb e args s v u, (limb_1_1.after args s (.returned v) u = true ∧ limb_1_2.after args s (.returned v) u = true ∧ True) → FrameEnd s (.returned v) u (Jvm.fieldLocs frame_1_writes args s ++ Jvm.arrayLocs frame_1_arrays args s ++ Jvm.staticLocs frame_1_statics s) 24 192 → Post tb e args s (.returned v) u) :
    ArmFor flags0 classFile x code maxLocals ret World_1 tables_1 room_1 Calls_1 rest_1 Pre_1 Post := by
  intro l hfl _ _ p e ha hc hk s m args below hf hA hF happ hP
  obtain ⟨hcalls, hrest, hpre⟩ := hP
  obtain ⟨-, -, -, hnamed, -, -, -, hat⟩ := (Spec.applies_iff hf).mp happ
  obtain ⟨hg, hn⟩ := and_e (Cond.before_iff.mp (show (Jvm.Cond.and given_1 narrow_1).before args s = true from hpre))
  obtain ⟨hcount, g0⟩ := and_e hg
  obtain ⟨hk0, g1⟩ := and_e g0
  obtain ⟨hk1, g2⟩ := and_e g1
  obtain ⟨hk2, g3⟩ := and_e g2
  obtain ⟨w0, w1, w2, w3, rfl⟩ : ∃ w0 w1 w2 w3 : Value, args = #[w0, w1, w2, w3] := by
    have hs : args.size = 4 := by simpa [Cond.value, given_1] using hcount
    obtain ⟨L⟩ := args
    match L, hs with
    | [w0, w1, w2, w3], _ => exact ⟨w0, w1, w2, w3, rfl⟩
  have hw := fun d (hd : d ∈ tables_1) => atoms_spec (ws := Jvm.Cond.code x code maxLocals ret :: tables_1) hat d (List.mem_cons_of_mem _ hd)
  have hfit : Fit s := fun {y c} hc i hi => by
    obtain ⟨ha, rfl⟩ := Array.getElem?_eq_some_iff.mp hc
    have q := List.all_eq_true.mp ((Array.all_eq_true_iff_forall_mem.mp hF) _ (Array.getElem_mem ha)) i (List.mem_range.mpr hi)
    simpa [Array.getElem?_eq_getElem hi] using q
  obtain ⟨i0, ei0⟩ := is_v hk0
  obtain rfl : w0 = (.int i0) := Option.some.inj ei0
  obtain ⟨i1, ei1⟩ := is_v hk1
  obtain rfl : w1 = (.int i1) := Option.some.inj ei1
  obtain ⟨i2, ei2⟩ := is_v hk2
  obtain rfl : w2 = (.int i2) := Option.some.inj ei2
  obtain ⟨i3, ei3⟩ := is_v g3
  obtain rfl : w3 = (.int i3) := Option.some.inj ei3
  obtain ⟨n, o, h1, h2, h3, _, L, rfl, ⟨rfl, N⟩, hq⟩ := rm0 l s _ hw tables_1 i0 i1 i2 i3 s.heap s.heap.size (Nat.le_refl _)  p e ha hc hk s m _ below hf ((Spec.applies_iff_loose hf).mp happ).1 ⟨rfl, State.Warmed39.refl s, rfl⟩ trivial
  refine ⟨n, _, h1, h2, h3, hpost _ _ _ _ _ _ ⟨Cond.after_iff.mpr rfl, Cond.after_iff.mpr (eq_i res_at (Term.int_eval (1)) rfl), trivial⟩ ⟨hq.1, hq.2.1, (hq.2.2.sift fun y hy => Or.inr (N y hy)).mono (by decide) (by decide)⟩⟩
theorem main_1_1 : Claimed_1_1 := own_comes fun _ _ _ _ _ _ h hF => ⟨h.1, hF⟩
theorem main_1_2 : Claimed_1_2 := own_comes fun _ _ _ _ _ _ h hF => ⟨h.2.1, hF⟩
end Jvm.Pilot.@@N@@
namespace Jvm.Pilot.@@N@@
open Jvm Jvm.ClassFile Sem Op Lib Jvm.Free Jvm.Stand Jvm.Pilot.@@N@@.Jvm.D
/-! MADE BY PROGRAM (witnessworld.py) out of the Statement's table words and the real class files: 11 classes; the members and pool entries that the words name. The judged class is class 1, her method 1. -/
namespace start1
open Jvm.ClassFile
def u (s : String) : CpInfo := .utf8 (stringToUtf16 s)
/-- a pool by its gaps: so many unusable entries, then the entry; so many at the end -/
def gap : Nat → List CpInfo → List CpInfo
  | 0, r => r
  | n + 1, r => .unusable :: gap n r
def poolList (es : List (Nat × CpInfo)) (last : Nat) : List CpInfo := es.foldr (fun e r => gap e.1 (e.2 :: r)) (gap last [])
def pool (es : List (Nat × CpInfo)) (last : Nat) : Array CpInfo := ⟨poolList es last⟩
def fileOf (pool : Array CpInfo) (this : Nat) (attrs : Array Attribute := #[]) (ms : Array MethodInfo := #[]) (fl : Nat := 33) (sup : Nat := 0) (ifs : Array Nat := #[]) (fds : Array FieldInfo := #[]) : ClassFile where
  minorVersion := 0
  majorVersion := 65
  constantPool := pool
  accessFlags := fl
  thisClass := this
  superClass := sup
  interfaces := ifs
  fields := fds
  methods := ms
  attributes := attrs
def plain (name : String) (sup : Option ClassId) : Class where
  name := name
  kind := .ordinary
  loader := none
  accessFlags := 33
  super := sup
  interfaces := #[]
  cf := none
  fields := #[]
  methods := #[]
  instanceTypes := #[]
  staticTypes := #[]
  resolved := #[]
  callSites := []
  init := .initialized
  statics := none
  mirror := none

def pool0 : Array CpInfo := pool [(5, u "<init>"), (0, u "()V"), (1, .class_ 10), (1, u "java/lang/Object")] 113

def k0c0 : Code := { maxStack := 0, maxLocals := 1, code := object_method_1_code, exceptionTable := #[], attributes := #[] }
def k0m0 : Method := { name := "<init>", desc := "()V", sig := { parameters := [], returnType := none }, accessFlags := 1, code := some k0c0 }
/-- java/lang/Object -/
def k0 : Class := { plain "java/lang/Object" none with
  accessFlags := 33
  interfaces := #[]
  cf := some (fileOf pool0 8 #[] #[{ accessFlags := 1, nameIndex := 5, descriptorIndex := 6, attributes := #[] }] 33 0 #[] #[])
  fields := #[]
  methods := #[k0m0]
  instanceTypes := #[]
  staticTypes := #[]
  resolved := Array.replicate 124 none
  statics := none }

def pool1 : Array CpInfo := pool [(2, .class_ 4), (1, u "java/lang/Object"), (0, u "<init>"), (0, u "()V"), (0, .integer 2147483647), (0, .methodref 9 10), (0, .class_ 11), (0, .nameAndType 12 13), (0, u "com/example/bisimilar/bisimilar/equivalence/RefinementHistoryClassStartPinLaw"), (0, u "mark"), (0, u "(II)I"), (0, .methodref 9 15), (0, .nameAndType 16 17), (0, u "set"), (0, u "([I[I[I[IIII)V"), (0, .class_ 19), (0, u "com/example/bisimilar/bisimilar/equivalence/RefinementHistory"), (0, .methodref 18 21), (0, .nameAndType 5 22), (0, u "([I[I[I)V"), (0, .methodref 18 24), (0, .nameAndType 25 13), (0, u "classStart"), (4, u "law"), (0, u "(IIII)Z")] 5

def k1m0 : Method := { name := "<init>", desc := "()V", sig := { parameters := [], returnType := none }, accessFlags := 1, code := none }
def k1c1 : Code := { maxStack := 7, maxLocals := 16, code := code, exceptionTable := #[], attributes := #[] }
def k1m1 : Method := { name := "law", desc := "(IIII)Z", sig := { parameters := [.int, .int, .int, .int], returnType := some .boolean }, accessFlags := 9, code := some k1c1 }
def k1c2 : Code := { maxStack := 3, maxLocals := 3, code := method_3_code, exceptionTable := #[], attributes := #[] }
def k1m2 : Method := { name := "mark", desc := "(II)I", sig := { parameters := [.int, .int], returnType := some .int }, accessFlags := 10, code := some k1c2 }
def k1c3 : Code := { maxStack := 4, maxLocals := 8, code := method_4_code, exceptionTable := #[], attributes := #[] }
def k1m3 : Method := { name := "set", desc := "([I[I[I[IIII)V", sig := { parameters := [(.array .int), (.array .int), (.array .int), (.array .int), .int, .int, .int], returnType := none }, accessFlags := 10, code := some k1c3 }
/-- com/example/bisimilar/bisimilar/equivalence/RefinementHistoryClassStartPinLaw -/
def k1 : Class := { plain "com/example/bisimilar/bisimilar/equivalence/RefinementHistoryClassStartPinLaw" (some 0) with
  accessFlags := 49
  interfaces := #[]
  cf := some (fileOf pool1 9 #[] #[{ accessFlags := 1, nameIndex := 5, descriptorIndex := 6, attributes := #[] }, { accessFlags := 9, nameIndex := 30, descriptorIndex := 31, attributes := #[] }, { accessFlags := 10, nameIndex := 12, descriptorIndex := 13, attributes := #[] }, { accessFlags := 10, nameIndex := 16, descriptorIndex := 17, attributes := #[] }] 49 2 #[] #[])
  fields := #[]
  methods := #[k1m0, k1m1, k1m2, k1m3]
  instanceTypes := #[]
  staticTypes := #[]
  resolved := Array.replicate 37 none
  statics := none }

def pool2 : Array CpInfo := pool [(3, .methodref 4 5), (0, .class_ 6), (0, .nameAndType 7 8), (0, u "java/lang/Object"), (0, u "<init>"), (0, u "()V"), (0, .fieldref 10 11), (0, .class_ 12), (0, .nameAndType 13 14), (0, u "com/example/bisimilar/bisimilar/equivalence/RefinementHistory"), (0, u "states"), (0, u "[I"), (0, .fieldref 10 16), (0, .nameAndType 17 14), (0, u "position"), (0, .fieldref 10 19), (0, .nameAndType 20 21), (0, u "leaves"), (0, u "I"), (0, .long 2), (1, .long 2147483639), (10, .fieldref 10 36), (0, .nameAndType 37 14), (0, u "least"), (0, .methodref 39 40), (0, .class_ 41), (0, .nameAndType 42 43), (0, u "java/lang/System"), (0, u "arraycopy"), (0, u "(Ljava/lang/Object;ILjava/lang/Object;II)V"), (0, .methodref 45 46), (0, .class_ 47), (0, .nameAndType 48 49), (0, u "java/lang/Math"), (0, u "min"), (0, u "(II)I"), (4, u "NEVER"), (1, u "MAX_LENGTH"), (1, u "([I[I[I)V"), (5, u "classStart")] 19

def k2c0 : Code := { maxStack := 6, maxLocals := 5, code := prog_22_method_1_code, exceptionTable := #[], attributes := #[] }
def k2m0 : Method := { name := "<init>", desc := "([I[I[I)V", sig := { parameters := [(.array .int), (.array .int), (.array .int)], returnType := none }, accessFlags := 0, code := some k2c0 }
def k2c1 : Code := { maxStack := 3, maxLocals := 6, code := prog_22_method_3_code, exceptionTable := #[], attributes := #[] }
def k2m1 : Method := { name := "classStart", desc := "(II)I", sig := { parameters := [.int, .int], returnType := some .int }, accessFlags := 0, code := some k2c1 }
/-- com/example/bisimilar/bisimilar/equivalence/RefinementHistory -/
def k2 : Class := { plain "com/example/bisimilar/bisimilar/equivalence/RefinementHistory" (some 0) with
  accessFlags := 32
  interfaces := #[]
  cf := some (fileOf pool2 10 #[] #[{ accessFlags := 0, nameIndex := 7, descriptorIndex := 58, attributes := #[] }, { accessFlags := 0, nameIndex := 64, descriptorIndex := 49, attributes := #[] }] 32 4 #[] #[{ accessFlags := 24, nameIndex := 54, descriptorIndex := 21, attributes := #[] }, { accessFlags := 26, nameIndex := 56, descriptorIndex := 21, attributes := #[] }, { accessFlags := 18, nameIndex := 13, descriptorIndex := 14, attributes := #[] }, { accessFlags := 18, nameIndex := 17, descriptorIndex := 14, attributes := #[] }, { accessFlags := 18, nameIndex := 37, descriptorIndex := 14, attributes := #[] }, { accessFlags := 18, nameIndex := 20, descriptorIndex := 21, attributes := #[] }])
  fields := #[{ name := "NEVER", type := .int, accessFlags := 24, slot := 0, constantValue := 0 }, { name := "MAX_LENGTH", type := .int, accessFlags := 26, slot := 1, constantValue := 0 }, { name := "states", type := (.array .int), accessFlags := 18, slot := 0, constantValue := 0 }, { name := "position", type := (.array .int), accessFlags := 18, slot := 1, constantValue := 0 }, { name := "least", type := (.array .int), accessFlags := 18, slot := 2, constantValue := 0 }, { name := "leaves", type := .int, accessFlags := 18, slot := 3, constantValue := 0 }]
  methods := #[k2m0, k2m1]
  instanceTypes := #[(.array .int), (.array .int), (.array .int), .int]
  staticTypes := #[.int, .int]
  resolved := Array.replicate 84 none
  statics := none }

def pool3 : Array CpInfo := pool [(2, .class_ 4), (1, u "java/lang/Object"), (0, u "<init>"), (0, u "()V"), (1, .class_ 10), (1, u "java/lang/System"), (0, u "allowSecurityManager"), (0, u "I"), (16, u "cons"), (0, u "Ljava/io/Console;"), (77, .class_ 110), (1, u "java/lang/System$CallersHolder"), (43, u "initialErrStream"), (0, u "Ljava/io/PrintStream;"), (19, u "security"), (0, u "Ljava/lang/SecurityManager;"), (31, .class_ 209), (0, u "java/lang/System$1"), (7, u "props"), (0, u "Ljava/util/Properties;"), (2, u "lineSeparator"), (0, u "Ljava/lang/String;"), (96, .class_ 321), (1, u "java/lang/System$LoggerFinder"), (5, .class_ 328), (0, u "java/lang/System$Logger"), (67, u "err"), (2, u "out"), (91, u "notSupportedJnuEncoding"), (15, u "in"), (17, u "initialIn"), (0, u "Ljava/io/InputStream;"), (35, u "bootLayer"), (0, u "Ljava/lang/ModuleLayer;"), (99, .class_ 664), (0, u "java/lang/System$2"), (9, u "NEVER"), (2, u "MAYBE"), (49, u "arraycopy"), (0, u "(Ljava/lang/Object;ILjava/lang/Object;II)V"), (72, .class_ 802), (0, u "java/lang/System$Logger$Level")] 31

def k3m0 : Method := { name := "<init>", desc := "()V", sig := { parameters := [], returnType := none }, accessFlags := 2, code := none }
def k3m1 : Method := { name := "arraycopy", desc := "(Ljava/lang/Object;ILjava/lang/Object;II)V", sig := { parameters := [(.object "java/lang/Object"), .int, (.object "java/lang/Object"), .int, .int], returnType := none }, accessFlags := 265, code := none }
/-- java/lang/System -/
def k3 : Class := { plain "java/lang/System" (some 0) with
  accessFlags := 49
  interfaces := #[]
  cf := some (fileOf pool3 8 #[.nestMembers #[319, 327, 801, 108, 663, 208]] #[{ accessFlags := 2, nameIndex := 5, descriptorIndex := 6, attributes := #[] }, { accessFlags := 265, nameIndex := 727, descriptorIndex := 728, attributes := #[] }] 49 2 #[] #[{ accessFlags := 25, nameIndex := 507, descriptorIndex := 526, attributes := #[] }, { accessFlags := 25, nameIndex := 399, descriptorIndex := 155, attributes := #[] }, { accessFlags := 25, nameIndex := 396, descriptorIndex := 155, attributes := #[] }, { accessFlags := 10, nameIndex := 525, descriptorIndex := 526, attributes := #[] }, { accessFlags := 26, nameIndex := 674, descriptorIndex := 12, attributes := #[] }, { accessFlags := 26, nameIndex := 677, descriptorIndex := 12, attributes := #[] }, { accessFlags := 10, nameIndex := 11, descriptorIndex := 12, attributes := #[] }, { accessFlags := 74, nameIndex := 175, descriptorIndex := 176, attributes := #[] }, { accessFlags := 10, nameIndex := 491, descriptorIndex := 222, attributes := #[] }, { accessFlags := 74, nameIndex := 29, descriptorIndex := 30, attributes := #[] }, { accessFlags := 74, nameIndex := 154, descriptorIndex := 155, attributes := #[] }, { accessFlags := 10, nameIndex := 217, descriptorIndex := 218, attributes := #[] }, { accessFlags := 10, nameIndex := 221, descriptorIndex := 222, attributes := #[] }, { accessFlags := 8, nameIndex := 562, descriptorIndex := 563, attributes := #[] }])
  fields := #[{ name := "in", type := (.object "java/io/InputStream"), accessFlags := 25, slot := 0, constantValue := 0 }, { name := "out", type := (.object "java/io/PrintStream"), accessFlags := 25, slot := 1, constantValue := 0 }, { name := "err", type := (.object "java/io/PrintStream"), accessFlags := 25, slot := 2, constantValue := 0 }, { name := "initialIn", type := (.object "java/io/InputStream"), accessFlags := 10, slot := 3, constantValue := 0 }, { name := "NEVER", type := .int, accessFlags := 26, slot := 4, constantValue := 0 }, { name := "MAYBE", type := .int, accessFlags := 26, slot := 5, constantValue := 0 }, { name := "allowSecurityManager", type := .int, accessFlags := 10, slot := 6, constantValue := 0 }, { name := "security", type := (.object "java/lang/SecurityManager"), accessFlags := 74, slot := 7, constantValue := 0 }, { name := "notSupportedJnuEncoding", type := (.object "java/lang/String"), accessFlags := 10, slot := 8, constantValue := 0 }, { name := "cons", type := (.object "java/io/Console"), accessFlags := 74, slot := 9, constantValue := 0 }, { name := "initialErrStream", type := (.object "java/io/PrintStream"), accessFlags := 74, slot := 10, constantValue := 0 }, { name := "props", type := (.object "java/util/Properties"), accessFlags := 10, slot := 11, constantValue := 0 }, { name := "lineSeparator", type := (.object "java/lang/String"), accessFlags := 10, slot := 12, constantValue := 0 }, { name := "bootLayer", type := (.object "java/lang/ModuleLayer"), accessFlags := 8, slot := 13, constantValue := 0 }]
  methods := #[k3m0, k3m1]
  instanceTypes := #[]
  staticTypes := #[(.object "java/io/InputStream"), (.object "java/io/PrintStream"), (.object "java/io/PrintStream"), (.object "java/io/InputStream"), .int, .int, .int, (.object "java/lang/SecurityManager"), (.object "java/lang/String"), (.object "java/io/Console"), (.object "java/io/PrintStream"), (.object "java/util/Properties"), (.object "java/lang/String"), (.object "java/lang/ModuleLayer")]
  resolved := Array.replicate 834 none
  statics := none }

def pool4 : Array CpInfo := pool [(1, .class_ 2), (0, u "java/lang/Math"), (1, .class_ 6), (1, u "java/lang/Object"), (0, u "<init>"), (0, u "()V"), (89, .class_ 100), (1, u "java/lang/Math$RandomNumberGeneratorHolder"), (71, u "negativeZeroFloatBits"), (0, u "J"), (2, u "negativeZeroDoubleBits"), (24, u "min"), (43, u "$assertionsDisabled"), (0, u "Z"), (88, u "(II)I"), (2, u "twoToTheDoubleScaleDown"), (0, u "D"), (4, u "twoToTheDoubleScaleUp"), (9, u "E"), (3, u "PI"), (2, u "TAU"), (2, u "DEGREES_TO_RADIANS"), (0, u "RADIANS_TO_DEGREES")] 94

def k4m0 : Method := { name := "<init>", desc := "()V", sig := { parameters := [], returnType := none }, accessFlags := 2, code := none }
def k4c1 : Code := { maxStack := 2, maxLocals := 2, code := jdk_29_method_69_code, exceptionTable := #[], attributes := #[] }
def k4m1 : Method := { name := "min", desc := "(II)I", sig := { parameters := [.int, .int], returnType := some .int }, accessFlags := 9, code := some k4c1 }
/-- java/lang/Math -/
def k4 : Class := { plain "java/lang/Math" (some 0) with
  accessFlags := 49
  interfaces := #[]
  cf := some (fileOf pool4 1 #[.nestMembers #[98]] #[{ accessFlags := 2, nameIndex := 7, descriptorIndex := 8, attributes := #[] }, { accessFlags := 9, nameIndex := 201, descriptorIndex := 335, attributes := #[] }] 49 4 #[] #[{ accessFlags := 25, nameIndex := 354, descriptorIndex := 339, attributes := #[] }, { accessFlags := 25, nameIndex := 358, descriptorIndex := 339, attributes := #[] }, { accessFlags := 25, nameIndex := 361, descriptorIndex := 339, attributes := #[] }, { accessFlags := 26, nameIndex := 364, descriptorIndex := 339, attributes := #[] }, { accessFlags := 26, nameIndex := 365, descriptorIndex := 339, attributes := #[] }, { accessFlags := 26, nameIndex := 172, descriptorIndex := 173, attributes := #[] }, { accessFlags := 26, nameIndex := 176, descriptorIndex := 173, attributes := #[] }, { accessFlags := 8, nameIndex := 344, descriptorIndex := 339, attributes := #[] }, { accessFlags := 8, nameIndex := 338, descriptorIndex := 339, attributes := #[] }, { accessFlags := 4120, nameIndex := 245, descriptorIndex := 246, attributes := #[] }])
  fields := #[{ name := "E", type := .double, accessFlags := 25, slot := 0, constantValue := 0 }, { name := "PI", type := .double, accessFlags := 25, slot := 1, constantValue := 0 }, { name := "TAU", type := .double, accessFlags := 25, slot := 2, constantValue := 0 }, { name := "DEGREES_TO_RADIANS", type := .double, accessFlags := 26, slot := 3, constantValue := 0 }, { name := "RADIANS_TO_DEGREES", type := .double, accessFlags := 26, slot := 4, constantValue := 0 }, { name := "negativeZeroFloatBits", type := .long, accessFlags := 26, slot := 5, constantValue := 0 }, { name := "negativeZeroDoubleBits", type := .long, accessFlags := 26, slot := 6, constantValue := 0 }, { name := "twoToTheDoubleScaleUp", type := .double, accessFlags := 8, slot := 7, constantValue := 0 }, { name := "twoToTheDoubleScaleDown", type := .double, accessFlags := 8, slot := 8, constantValue := 0 }, { name := "$assertionsDisabled", type := .boolean, accessFlags := 4120, slot := 9, constantValue := 0 }]
  methods := #[k4m0, k4m1]
  instanceTypes := #[]
  staticTypes := #[.double, .double, .double, .double, .double, .long, .long, .double, .double, .boolean]
  resolved := Array.replicate 460 none
  statics := none }

def pool5 : Array CpInfo := pool [(1, u "java/lang/Cloneable"), (0, .class_ 1), (0, u "java/lang/Object"), (0, .class_ 3)] 3

/-- java/lang/Cloneable -/
def k5 : Class := { plain "java/lang/Cloneable" (some 0) with
  accessFlags := 1537
  interfaces := #[]
  cf := some (fileOf pool5 2 #[] #[] 1537 4 #[] #[])
  fields := #[]
  methods := #[]
  instanceTypes := #[]
  staticTypes := #[]
  resolved := Array.replicate 8 none
  statics := none }

def pool6 : Array CpInfo := pool [(1, u "java/io/Serializable"), (0, .class_ 1), (0, u "java/lang/Object"), (0, .class_ 3)] 3

/-- java/io/Serializable -/
def k6 : Class := { plain "java/io/Serializable" (some 0) with
  accessFlags := 1537
  interfaces := #[]
  cf := some (fileOf pool6 2 #[] #[] 1537 4 #[] #[])
  fields := #[]
  methods := #[]
  instanceTypes := #[]
  staticTypes := #[]
  resolved := Array.replicate 8 none
  statics := none }

/-- the primitive byte -/
def k7 : Class := { plain "byte" none with kind := .primitive 'B', accessFlags := 0x411 }
/-- [B -/
def k8 : Class := { plain "[B" (some 0) with kind := .array 7 .byte, interfaces := #[5, 6], accessFlags := 1041 }

/-- the primitive int -/
def k9 : Class := { plain "int" none with kind := .primitive 'I', accessFlags := 0x411 }
/-- [I -/
def k10 : Class := { plain "[I" (some 0) with kind := .array 9 .int, interfaces := #[5, 6], accessFlags := 1041 }

def heap : Heap := #[]
def classes : Array Class := #[k0, k1, k2, k3, k4, k5, k6, k7, k8, k9, k10]
def interned : List (Array UInt16 × Addr) := []
def slotsUsed : Nat := 0
def theMethod : MethodId := ⟨1, 1⟩
def args0 : Array Value := #[.int 5, .int 6, .int 7, .int 8]
def aboutOver (below : List Frame) : State where
  vm := { classes := classes, interned := interned.toArray }
  heap := heap
  slotsUsed := slotsUsed
  threads := #[{ frames := .invoking theMethod args0 :: below }]
def below0 : List Frame := [.native { method := ⟨0, 0⟩, args := #[] }]
def about1 : State := aboutOver below0
def p0 : Program := .bare "" "" ""
def e0 : Env := launch0.env 0 0 0
theorem w_frames : about1.frames = Frame.invoking theMethod args0 :: below0 := rfl
set_option maxRecDepth 65536 in
theorem w_args : argsFit about1.vm theMethod args0 = true := by decide +kernel
set_option maxRecDepth 65536 in
theorem w_heap : heapFits about1 = true := by decide +kernel
set_option maxRecDepth 65536 in
theorem w_runnable : about1.curStatus? = some .runnable := by decide +kernel
set_option maxRecDepth 65536 in
theorem w_alone : about1.alone = true := by decide +kernel
set_option maxRecDepth 65536 in
theorem w_named : about1.methodNamed? x = some theMethod := by decide +kernel
set_option maxRecDepth 65536 in
theorem w_hears : about1.hears theMethod below0 = true := by decide +kernel
set_option maxRecDepth 65536 in
theorem w_ripe : about1.ripe theMethod args0 below0 = true := by decide +kernel
theorem w_running : about1.status = .running := rfl
set_option maxRecDepth 65536 in
theorem w_room : about1.hasRoom e0.platform room_1 = true :=
  launch0.hasRoom_least _ room_1 (by decide +kernel) (by decide +kernel) (by decide +kernel) (by decide +kernel) (by decide +kernel) (by decide +kernel)
theorem allAtoms_all (ts : List Jvm.Cond) (a : Array Jvm.Value) (st : Jvm.State) : (allAtoms ts).before a st = ts.all (fun c => c.before a st) := by
  induction ts with
  | nil => rfl
  | cons c t ih =>
    show (Jvm.Cond.and c (allAtoms t)).before a st = _
    rw [Jvm.Cond.before_and, ih, List.all_cons]
def words1 : List Jvm.Cond := Jvm.Cond.code x code maxLocals ret :: tables_1
/-- a 'code' word, met by the world's own term for the bytes: nothing is compared byte by byte -/
theorem code_word {y : MethodName} {bytes : ByteArray} {mx : Nat} {rt : Option FieldType} {a : Array Value} {s : State} {m : MethodId} {meth : Method} {c : Code} (h1 : s.methodNamed? y = some m) (h2 : s.vm.method? m = some meth) (h3 : meth.code = some c) (h4 : c.code = bytes)
    (h5 : (c.maxLocals == mx && c.exceptionTable.isEmpty && decide (c.maxStack ≤ mostOperands) && decide (meth.sig.returnType = rt) && !meth.locks && decide (parseMethodDescriptor y.desc = some meth.sig)) = true) : (Jvm.Cond.code y bytes mx rt).before a s = true := by
  simp only [Bool.and_eq_true, beq_iff_eq, Bool.not_eq_true', decide_eq_true_eq] at h5
  obtain ⟨⟨⟨⟨⟨g1, g2⟩, g3⟩, g4⟩, g5⟩, g6⟩ := h5
  simp [Cond.before, Cond.holds, Cond.value, h1, h2, h3, h4, g1, g2, g3, g4, g5, g6]
def isCode : Jvm.Cond → Bool
  | .code _ _ _ _ => true
  | _ => false
theorem all_split {L : List Jvm.Cond} {P : Jvm.Cond → Bool} (h1 : L.all (fun c => isCode c || P c) = true) (h2 : ∀ c ∈ L.filter isCode, P c = true) : L.all P = true := by
  refine List.all_eq_true.mpr fun c hc => ?_
  have h := List.all_eq_true.mp h1 c hc
  rcases Bool.eq_false_or_eq_true (isCode c) with hi | hi
  · exact h2 c (List.mem_filter.mpr ⟨hc, hi⟩)
  · simpa [hi] using h
set_option maxRecDepth 65536 in
theorem w_c0 : (Jvm.Cond.code x code maxLocals ret).before args0 about1 = true := code_word (m := ⟨1, 1⟩) (meth := k1m1) (c := k1c1) (by decide +kernel) rfl rfl rfl (by decide +kernel)
set_option maxRecDepth 65536 in
theorem w_c1 : (Jvm.Cond.code ({ cls := "com/example/bisimilar/bisimilar/equivalence/RefinementHistoryClassStartPinLaw", name := "mark", desc := "(II)I" } : Jvm.MethodName) method_3_code (3 : Nat) (Option.some Jvm.ClassFile.FieldType.int)).before args0 about1 = true := code_word (m := ⟨1, 2⟩) (meth := k1m2) (c := k1c2) (by decide +kernel) rfl rfl rfl (by decide +kernel)
set_option maxRecDepth 65536 in
theorem w_c2 : (Jvm.Cond.code ({ cls := "com/example/bisimilar/bisimilar/equivalence/RefinementHistoryClassStartPinLaw", name := "set", desc := "([I[I[I[IIII)V" } : Jvm.MethodName) method_4_code (8 : Nat) (Option.none : Option Jvm.ClassFile.FieldType)).before args0 about1 = true := code_word (m := ⟨1, 3⟩) (meth := k1m3) (c := k1c3) (by decide +kernel) rfl rfl rfl (by decide +kernel)
set_option maxRecDepth 65536 in
theorem w_c3 : (Jvm.Cond.code ({ cls := "com/example/bisimilar/bisimilar/equivalence/RefinementHistory", name := "<init>", desc := "([I[I[I)V" } : Jvm.MethodName) prog_22_method_1_code (5 : Nat) (Option.none : Option Jvm.ClassFile.FieldType)).before args0 about1 = true := code_word (m := ⟨2, 0⟩) (meth := k2m0) (c := k2c0) (by decide +kernel) rfl rfl rfl (by decide +kernel)
set_option maxRecDepth 65536 in
theorem w_c4 : (Jvm.Cond.code ({ cls := "java/lang/Object", name := "<init>", desc := "()V" } : Jvm.MethodName) object_method_1_code (1 : Nat) (Option.none : Option Jvm.ClassFile.FieldType)).before args0 about1 = true := code_word (m := ⟨0, 0⟩) (meth := k0m0) (c := k0c0) (by decide +kernel) rfl rfl rfl (by decide +kernel)
set_option maxRecDepth 65536 in
theorem w_c5 : (Jvm.Cond.code ({ cls := "com/example/bisimilar/bisimilar/equivalence/RefinementHistory", name := "classStart", desc := "(II)I" } : Jvm.MethodName) prog_22_method_3_code (6 : Nat) (Option.some Jvm.ClassFile.FieldType.int)).before args0 about1 = true := code_word (m := ⟨2, 1⟩) (meth := k2m1) (c := k2c1) (by decide +kernel) rfl rfl rfl (by decide +kernel)
set_option maxRecDepth 65536 in
theorem w_c6 : (Jvm.Cond.code ({ cls := "java/lang/Math", name := "min", desc := "(II)I" } : Jvm.MethodName) jdk_29_method_69_code (2 : Nat) (Option.some Jvm.ClassFile.FieldType.int)).before args0 about1 = true := code_word (m := ⟨4, 1⟩) (meth := k4m1) (c := k4c1) (by decide +kernel) rfl rfl rfl (by decide +kernel)
def codes1 : List Jvm.Cond := [Jvm.Cond.code x code maxLocals ret, Jvm.Cond.code ({ cls := "com/example/bisimilar/bisimilar/equivalence/RefinementHistoryClassStartPinLaw", name := "mark", desc := "(II)I" } : Jvm.MethodName) method_3_code (3 : Nat) (Option.some Jvm.ClassFile.FieldType.int), Jvm.Cond.code ({ cls := "com/example/bisimilar/bisimilar/equivalence/RefinementHistoryClassStartPinLaw", name := "set", desc := "([I[I[I[IIII)V" } : Jvm.MethodName) method_4_code (8 : Nat) (Option.none : Option Jvm.ClassFile.FieldType), Jvm.Cond.code ({ cls := "com/example/bisimilar/bisimilar/equivalence/RefinementHistory", name := "<init>", desc := "([I[I[I)V" } : Jvm.MethodName) prog_22_method_1_code (5 : Nat) (Option.none : Option Jvm.ClassFile.FieldType), Jvm.Cond.code ({ cls := "java/lang/Object", name := "<init>", desc := "()V" } : Jvm.MethodName) object_method_1_code (1 : Nat) (Option.none : Option Jvm.ClassFile.FieldType), Jvm.Cond.code ({ cls := "com/example/bisimilar/bisimilar/equivalence/RefinementHistory", name := "classStart", desc := "(II)I" } : Jvm.MethodName) prog_22_method_3_code (6 : Nat) (Option.some Jvm.ClassFile.FieldType.int), Jvm.Cond.code ({ cls := "java/lang/Math", name := "min", desc := "(II)I" } : Jvm.MethodName) jdk_29_method_69_code (2 : Nat) (Option.some Jvm.ClassFile.FieldType.int)]
set_option maxRecDepth 65536 in
theorem codes_eq : words1.filter isCode = codes1 := rfl
theorem w_codes : ∀ c ∈ words1.filter isCode, c.before args0 about1 = true := by
  rw [codes_eq]
  intro c hc
  simp only [codes1, List.mem_cons, List.not_mem_nil, or_false] at hc
  rcases hc with rfl | rfl | rfl | rfl | rfl | rfl | rfl
  · exact w_c0
  · exact w_c1
  · exact w_c2
  · exact w_c3
  · exact w_c4
  · exact w_c5
  · exact w_c6
set_option maxRecDepth 65536 in
theorem w_t1 : (words1.take 24).all (fun c => isCode c || c.before args0 about1) = true := by decide +kernel
set_option maxRecDepth 65536 in
theorem w_t2 : (words1.drop 24).all (fun c => isCode c || c.before args0 about1) = true := by decide +kernel
theorem w_tables : (allAtoms (Jvm.Cond.code x code maxLocals ret :: tables_1)).before args0 about1 = true := by
  rw [allAtoms_all]
  show words1.all (fun c => c.before args0 about1) = true
  refine all_split ?_ w_codes
  rw [← List.take_append_drop 24 words1, List.all_append, w_t1, w_t2]
  rfl
set_option maxRecDepth 65536 in
theorem w_case : (Jvm.Cond.and given_1 narrow_1).before args0 about1 = true := by decide +kernel
theorem w_applies : (headSpec (Jvm.Cond.code x code maxLocals ret :: tables_1) room_1).applies x e0.platform about1 = true :=
  (Spec.applies_iff w_frames).mpr ⟨w_running, w_runnable, w_alone, w_named, w_hears, w_ripe, w_room, w_tables⟩
theorem atStart : AtStart classFile x code maxLocals ret World_1 tables_1 room_1 Calls_1 rest_1 Pre_1 launch0 p0 e0 about1 theMethod args0 below0 :=
  ⟨lists_1, trivial, launch0.admits_env _ _ _, launch0.least_env, fairChoices_fair.cas, fairChoices_fair.clock, w_frames, w_args, w_heap, w_applies, trivial, trivial, w_case⟩
end start1
theorem witness_1 : WitnessClaimed_1 := ⟨start1.p0, start1.e0, start1.about1, start1.theMethod, start1.args0, start1.below0, start1.atStart⟩
end Jvm.Pilot.@@N@@

import JvmDerived
import JvmDerived.Pilot.@@N@@Statement
import JvmDerived.Pilot.@@N@@Code
set_option linter.unusedVariables false
set_option linter.unusedSimpArgs false
@@BLOCK:NumsL.lean.txt@@
namespace Jvm.Pilot.@@N@@
open Jvm Jvm.ClassFile Sem Op Lib Jvm.Free Jvm.Stand Jvm.LawKit Jvm.RoadKit Bundle Jvm.Pilot.@@N@@.Jvm.D
section Own
variable {p : Program} {l : Launch} {e : Env} {R : Room} {s : State} {m : MethodId} {args : Array Value} {below : List Frame} {meth : Method} {c : Code} {T : State} {locs : List Loc} {cells slots : Nat}
/-- from t the invocation comes to its end, and F holds there -/
def own_Ends (p : Program) (e : Env) (below : List Frame) (F : State → Outcome → Prop) (t : State) : Prop := ∃ s₂ o, Steps p.tables e below t s₂ ∧ s₂.status = .running ∧ Ended s₂ below o ∧ F s₂ o
theorem own_pre {F : State → Outcome → Prop} {t t' : State} (k : ∀ u, Steps p.tables e below t' u → Steps p.tables e below t u) (h : own_Ends p e below F t') : own_Ends p e below F t := by
  obtain ⟨s₂, o, h1, h2⟩ := h
  exact ⟨s₂, o, k _ h1, h2⟩
/-- what is asked of the end: G of the value, the heap and the places written; the frame -/
def own_Fin (s : State) (G : Option Value → Heap → List Loc → Prop) (C S : Nat) (s₂ : State) (o : Outcome) : Prop := ∃ v L, o = .returned v ∧ G v s₂.heap L ∧ FrameEnd s o s₂ L C S
theorem own_out (X : Stand p l e R s m args below meth c T locs cells slots) {v : Option Value} (hv : meth.sig.returnType = none → v = none) (hlk : meth.locks = false) {g : JFrame} {G : Option Value → Heap → List Loc → Prop} {C S : Nat} {h : Heap} (eT : T.heap = h) (hG : G v h locs) (hC : cells ≤ C) (hS : slots ≤ S)
    (st : ∀ fs, (∀ (f : JFrame) (acts : List Action), f.method = m → f.locked = none → f.entered = [] → (doReturn e (T.setTop f) acts v).1 = T.setFrames fs) → Steps p.tables e below (T.setTop g) (T.setFrames fs)) : own_Ends p e below (own_Fin s G C S) (T.setTop g) := by
  obtain ⟨fs, hr, hrun, hended, hW, hsame⟩ := X.leave (v := v) hv hlk
  subst eT
  exact ⟨_, _, st fs hr, hrun, hended, v, locs, rfl, hG, ⟨_, rfl⟩, hW, hsame.mono hC hS⟩
theorem own_retN (X : Stand p l e R s m args below meth c T locs cells slots) (hx : p.tables.exec = Jvm.exec) {pc : Nat} {Ls : Array Slot} {z z' : Int32} {t : FieldType} {rest : List Value} (hret : meth.sig.returnType = some t) (ht : t = .boolean ∨ t = .byte ∨ t = .char ∨ t = .short) (hd : decode c.code pc = .ok (.ireturn, 1)) (hlk : meth.locks = false) (hz : nar t z = z')
    {G : Option Value → Heap → List Loc → Prop} {C S : Nat} {h : Heap} (eT : T.heap = h) (hG : G (some (.int z')) h locs) (hC : cells ≤ C) (hS : slots ≤ S) : own_Ends p e below (own_Fin s G C S) (T.setTop (mkF m pc Ls (.int z :: rest))) := by
  subst hz
  exact own_out X (fun h => by rw [hret] at h; cases h) hlk eT hG hC hS (fun fs hr => retN X hx hret ht hd hr)
theorem own_retI (X : Stand p l e R s m args below meth c T locs cells slots) (hx : p.tables.exec = Jvm.exec) {pc : Nat} {Ls : Array Slot} {z : Int32} {rest : List Value} (hret : meth.sig.returnType = some .int) (hd : decode c.code pc = .ok (.ireturn, 1)) (hlk : meth.locks = false)
    {G : Option Value → Heap → List Loc → Prop} {C S : Nat} {h : Heap} (eT : T.heap = h) (hG : G (some (.int z)) h locs) (hC : cells ≤ C) (hS : slots ≤ S) : own_Ends p e below (own_Fin s G C S) (T.setTop (mkF m pc Ls (.int z :: rest))) :=
  own_out X (fun h => by rw [hret] at h; cases h) hlk eT hG hC hS (fun fs hr => retOut X hx hret rfl (Or.inl ⟨rfl, Or.inl rfl, _, rfl⟩) hd hr)
theorem own_retJ (X : Stand p l e R s m args below meth c T locs cells slots) (hx : p.tables.exec = Jvm.exec) {pc : Nat} {Ls : Array Slot} {z : Int64} {rest : List Value} (hret : meth.sig.returnType = some .long) (hd : decode c.code pc = .ok (.lreturn, 1)) (hlk : meth.locks = false)
    {G : Option Value → Heap → List Loc → Prop} {C S : Nat} {h : Heap} (eT : T.heap = h) (hG : G (some (.long z)) h locs) (hC : cells ≤ C) (hS : slots ≤ S) : own_Ends p e below (own_Fin s G C S) (T.setTop (mkF m pc Ls (.long z :: rest))) :=
  own_out X (fun h => by rw [hret] at h; cases h) hlk eT hG hC hS (fun fs hr => retOut X hx hret rfl (Or.inr (Or.inl ⟨rfl, rfl, _, rfl⟩)) hd hr)
theorem own_retR (X : Stand p l e R s m args below meth c T locs cells slots) (hx : p.tables.exec = Jvm.exec) {pc : Nat} {Ls : Array Slot} {a : Addr} {t : FieldType} {rest : List Value} (hret : meth.sig.returnType = some t) (ht : t.isReference = true) (hd : decode c.code pc = .ok (.areturn, 1)) (hlk : meth.locks = false)
    {G : Option Value → Heap → List Loc → Prop} {C S : Nat} {h : Heap} (eT : T.heap = h) (hG : G (some (.ref a)) h locs) (hC : cells ≤ C) (hS : slots ≤ S) : own_Ends p e below (own_Fin s G C S) (T.setTop (mkF m pc Ls (.ref a :: rest))) :=
  own_out X (fun h => by rw [hret] at h; cases h) hlk eT hG hC hS (fun fs hr => retOut X hx hret (by cases t <;> first | rfl | (simp [FieldType.isReference] at ht)) (Or.inr (Or.inr (Or.inr (Or.inr ⟨rfl, ht, rfl⟩)))) hd hr)
theorem own_retV (X : Stand p l e R s m args below meth c T locs cells slots) (hx : p.tables.exec = Jvm.exec) {pc : Nat} {Ls : Array Slot} (hret : meth.sig.returnType = none) (hd : decode c.code pc = .ok (.return_, 1)) (hlk : meth.locks = false)
    {G : Option Value → Heap → List Loc → Prop} {C S : Nat} {h : Heap} (eT : T.heap = h) (hG : G none h locs) (hC : cells ≤ C) (hS : slots ≤ S) : own_Ends p e below (own_Fin s G C S) (T.setTop (mkF m pc Ls [])) :=
  own_out X (fun _ => rfl) hlk eT hG hC hS (fun fs hr => X.returnOut hx hret hd hr)
theorem own_len (X : Stand p l e R s m args below meth c T locs cells slots) (hx : p.tables.exec = Jvm.exec) {h : Heap} (eT : T.heap = h) {Z : State} (hZ : Z.Warmed39 s.vm) {a : Addr} {cl : Cell} {ty : FieldType} {z : Int32} (A : Arr Z h a cl ty) (S : cl.slots.size = z.toNatClampNeg) (M : ¬ z < 0)
    {g : JFrame} (hg : g.method = m) {rest : List Value} (hs : g.stack = .ref a :: rest) (hd : decode c.code g.pc = .ok (.arraylength, 1)) {target : State} (k : Steps p.tables e below (T.setTop { g with pc := g.pc + 1, stack := .int z :: rest }) target) : Steps p.tables e below (T.setTop g) target := by
  refine X.arraylength hx (by rw [eT]; exact A.1) (State.isArrayOf_alike hZ.alike A.2.1) hg hs hd _ ?_
  rw [len_of S M]
  exact k
theorem own_setAny {Z : State} {h h' : Heap} {a : Addr} {cl : Cell} {k : ClassId} {ty : FieldType} {z : Int32} {vs : List Value} {dv v : Value} {j : Nat} (A : Arr Z h a cl ty) (q1 : cl.cls = k) (S : cl.slots.size = z.toNatClampNeg) (q3 : ¬ z < 0) (H : Has cl vs dv) (G : ∀ i, i < cl.slots.size → fits ty (vs.getD i dv) = true) (hv : fits ty v = true) (W : Wr h h' a j v) : ∃ vs', Arv Z h' a k ty z vs' dv := by
  have E : ∀ x, x < (cl.setSlot j v).slots.size → (cl.setSlot j v).slots[x]? = some ((cl.setSlot j v).slots.toList.getD x dv) := fun x hx => by
    rw [List.getD_eq_getElem?_getD, Array.getElem?_toList, Array.getElem?_eq_getElem hx]; rfl
  refine ⟨(cl.setSlot j v).slots.toList, _, A.same W, q1, by rw [sz_set]; exact S, q3, E, fun x hx => ?_⟩
  have hx' := hx
  rw [sz_set] at hx'
  have e1 := E x hx
  by_cases u : j = x
  · subst u
    have : (cl.setSlot j v).slots[j]? = some v := by simp [Cell.setSlot, hx']
    rw [this] at e1
    rw [← Option.some.inj e1]; exact hv
  · have : (cl.setSlot j v).slots[x]? = cl.slots[x]? := by simp [Cell.setSlot, Array.getElem?_setIfInBounds_ne u]
    rw [this, H x hx'] at e1
    rw [← Option.some.inj e1]; exact G x hx'
theorem own_staK {Z : State} {h h' : Heap} {a : Addr} {C n d D : String} {v : Value} (F : Sta Z h C n d v) (K : Keep h h' [a]) (E : Exa Z h a D) : Sta Z h' C n d v := by
  obtain ⟨cf, i, k, f, st, cell, h1, h2, h3, h4, h5, h6, h7⟩ := F
  obtain ⟨cl, kc, g1, -, -, g4, -⟩ := E
  have ne : st ≠ a := fun q => by subst q; cases h5.symm.trans g1; rw [h6] at g4; cases g4
  exact ⟨cf, i, k, f, st, cell, h1, h2, h3, h4, K.2.1 st cell h5 (ninS ne nin0), h6, h7⟩
theorem own_staK0 {Z : State} {h h' : Heap} {C n d : String} {v : Value} (F : Sta Z h C n d v) (K : Keep h h' []) : Sta Z h' C n d v := by
  obtain ⟨cf, i, k, f, st, cell, h1, h2, h3, h4, h5, h6, h7⟩ := F
  exact ⟨cf, i, k, f, st, cell, h1, h2, h3, h4, K.2.1 st cell h5 nin0, h6, h7⟩
theorem own_selP {Z : State} {a0 : Array Value} {y : MethodName} {kk : Nat} (hZ : Z.Warmed39 s.vm) (wi : (Cond.instantiable y.cls kk).before a0 Z = true) (wp : (Cond.privateMethod y).before a0 Z = true) (wm : (Cond.instanceMethod y).before a0 Z = true) (hy : y.cls ≠ "java/lang/invoke/MethodHandle" ∧ y.cls ≠ "java/lang/invoke/VarHandle") : (Cond.selects y.cls y y).before args s = true := by
  have wi' : (Cond.instantiable y.cls kk).before args s = true := mvT hZ wi
  obtain ⟨c', k', h1, h2, -, h4, -⟩ := Cond.instantiable_spec wi'
  have h5 : k'.isInterface = false := by
    cases q : k'.isInterface with
    | false => rfl
    | true => rw [q] at h4; simp at h4
  exact selects_self_of_private h1 h2 h5 (Cond.privateMethod_at (mvP hZ wp (args := args))) (mvT hZ wm) hy
/-- what lcmp pushes; the unsigned shifts -/
def own_cmpL (x y : Int64) : Int32 := if x > y then 1 else if x = y then 0 else -1
def own_ushr (x y : Int32) : Int32 := (x.toUInt32 >>> (y &&& 31).toUInt32).toInt32
def own_ushrL (x : Int64) (y : Int32) : Int64 := (x.toUInt64 >>> (y &&& 0x3f).toInt64.toUInt64).toInt64
theorem own_clt (x y : Int64) : own_cmpL x y < 0 ↔ x < y := lw_lt x y
theorem own_cgt (x y : Int64) : 0 < own_cmpL x y ↔ y < x := lw_gt x y
theorem own_ceq (x y : Int64) : own_cmpL x y = 0 ↔ x = y := lw_eq x y
end Own
theorem own_d3_0 : decode jdk_22_method_1_code 0 = .ok (.aload_n 0, 1) := by decide +kernel
theorem own_d3_1 : decode jdk_22_method_1_code 1 = .ok (.invokespecial 1, 3) := by decide +kernel
theorem own_d3_4 : decode jdk_22_method_1_code 4 = .ok (.return_, 1) := by decide +kernel
theorem own_pn0 : plainName "java/util/AbstractCollection" = true := by first | (simp [plainName, overriddenIn]; done) | decide +kernel
theorem own_ef_rm1 (m : MethodId) (x0 : Addr) : entryFrame m #[(.ref x0)] 1 = mkF m 0 #[.val (.ref x0)] [] := by first | (simp [entryFrame, mkF, argsToLocals, Value.category]; done) | rfl
def own_Q_rm1 (Z : State) (a0r : Addr) (h0 : Heap) (n0 : Nat) (v : Option Value) (h : Heap) (L : List Loc) : Prop := v = none ∧ Fr n0 L ∧ h = h0
set_option maxRecDepth 65536 in
set_option maxHeartbeats 40000000 in
theorem rm1 (l : Launch) (Z : State) (a0 : Array Value) (hw : ∀ d ∈ tables_1, d.before a0 Z = true) (ws : List Jvm.Cond) (a0r : Addr) (h0 : Heap) (n0 : Nat) (Z0 : n0 ≤ h0.size) :
    MetFree l (⟨"java/util/AbstractCollection", "<init>", "()V"⟩ : MethodName) (head1 (Jvm.Cond.code (⟨"java/util/AbstractCollection", "<init>", "()V"⟩ : MethodName) jdk_22_method_1_code 1 none :: ws) ({ frames := 1, cells := 0, slots := 0, locals := 12 } : Room)) (fun a U => a = #[(.ref a0r)] ∧ Z.Warmed39 U.vm ∧ U.heap = h0) (fun _ _ _ _ _ => True) (fun _ U o U' => ∃ v L, o = .returned v ∧ (own_Q_rm1 Z a0r h0 n0) v U'.heap L ∧ FrameEnd U o U' L ({ frames := 1, cells := 0, slots := 0, locals := 12 } : Room).cells ({ frames := 1, cells := 0, slots := 0, locals := 12 } : Room).slots) := by
  refine MetFree.of_bodySF (plainFor_of_name own_pn0) hisR ?_
  intro p e s m args below meth c s₁ Bd hml0 hP hK
  obtain ⟨rfl, hZ, hh⟩ := hP
  have hx := Bd.exec
  have hby := Bd.bytes
  have hml : c.maxLocals = 1 := hml0
  have hown : s.vm.findClass "java/util/AbstractCollection" = some m.cls := findClass_of_methodNamed Bd.named
  have hnm := (name_of_methodNamed Bd.named Bd.method).1
  have hlk : meth.locks = false := BodyLoose.notSynchronized Bd
  have X0 : Stand p l e ({ frames := 1, cells := 0, slots := 0, locals := 12 } : Room) s m #[(.ref a0r)] below meth c s₁ [] 0 0 := Stand.of_body Bd
  have e0 : s₁.heap = h0 := by rw [← hh, Bd.state]; rfl
  have N0 := Fr.nil n0
  show own_Ends p e below (own_Fin s (own_Q_rm1 Z a0r h0 n0) ({ frames := 1, cells := 0, slots := 0, locals := 12 } : Room).cells ({ frames := 1, cells := 0, slots := 0, locals := 12 } : Room).slots) _
  refine own_pre (fun t k => castTop (own_ef_rm1 m a0r) k) ?_
  show own_Ends _ _ _ _ (s₁.setTop (mkF m 0 #[.val (.ref a0r)] []))
  refine own_pre (fun t k => XS.aloadN X0.here hx rfl (hb hby own_d3_0) rfl rfl k) ?_
  show own_Ends _ _ _ _ (s₁.setTop (mkF m 1 #[.val (.ref a0r)] [(.ref a0r)]))
  obtain ⟨T1, X1, e1, st1⟩ := initO X0 hx hZ hown (hw _ (List.mem_of_getElem? (i := 19) rfl)) (hw _ (List.mem_of_getElem? (i := 20) rfl)) (hw _ (List.mem_of_getElem? (i := 21) rfl)) e0 (g := (mkF m 1 #[.val (.ref a0r)] [(.ref a0r)])) rfl (by rw [hml]; rfl) rfl (hb hby own_d3_1) (by decide) (W := 0) (by show 2 * 0 + _ ≤ _; exact Nat.le_of_eq rfl) (by decide)
  refine own_pre st1 ?_
  show own_Ends _ _ _ _ (T1.setTop (mkF m 4 #[.val (.ref a0r)] []))
  exact own_retV X1 hx Bd.returns (hb hby own_d3_4) hlk e1 ⟨rfl, N0, rfl⟩ (by decide) (by decide)
theorem own_d2_0 : decode jdk_39_method_1_code 0 = .ok (.aload_n 0, 1) := by decide +kernel
theorem own_pd0 : parseMethodDescriptor "()V" = some ⟨[], none⟩ := by decide +kernel
theorem own_d2_1 : decode jdk_39_method_1_code 1 = .ok (.invokespecial 1, 3) := by decide +kernel
theorem own_d2_4 : decode jdk_39_method_1_code 4 = .ok (.aload_n 0, 1) := by decide +kernel
theorem own_d2_5 : decode jdk_39_method_1_code 5 = .ok (.iconst 0, 1) := by decide +kernel
theorem own_d2_6 : decode jdk_39_method_1_code 6 = .ok (.putfield 7, 3) := by decide +kernel
theorem own_d2_9 : decode jdk_39_method_1_code 9 = .ok (.return_, 1) := by decide +kernel
theorem own_pn1 : plainName "java/util/AbstractList" = true := by first | (simp [plainName, overriddenIn]; done) | decide +kernel
theorem own_ef_rm2 (m : MethodId) (x0 : Addr) : entryFrame m #[(.ref x0)] 1 = mkF m 0 #[.val (.ref x0)] [] := by first | (simp [entryFrame, mkF, argsToLocals, Value.category]; done) | rfl
def own_Q_rm2 (Z : State) (a0r : Addr) (h0 : Heap) (n0 : Nat) (v : Option Value) (h : Heap) (L : List Loc) : Prop := v = none ∧ Fr n0 L ∧ Keep h0 h [a0r] ∧ Fld Z h a0r "java/util/AbstractList" "modCount" "I" (.int (0 : Int32)) ∧ Fld Z h a0r "java/util/ArrayList" "elementData" "[Ljava/lang/Object;" .null
set_option maxRecDepth 65536 in
set_option maxHeartbeats 40000000 in
theorem rm2 (l : Launch) (Z : State) (a0 : Array Value) (hw : ∀ d ∈ tables_1, d.before a0 Z = true) (ws : List Jvm.Cond) (a0r : Addr) (h0 : Heap) (n0 : Nat) (Z0 : n0 ≤ h0.size) (EX : Exa Z h0 a0r "java/util/ArrayList") (g0r : n0 ≤ a0r) (F_modCount : Fld Z h0 a0r "java/util/AbstractList" "modCount" "I" (.int (0 : Int32))) (F_elementData : Fld Z h0 a0r "java/util/ArrayList" "elementData" "[Ljava/lang/Object;" .null) :
    MetFree l (⟨"java/util/AbstractList", "<init>", "()V"⟩ : MethodName) (head1 (Jvm.Cond.code (⟨"java/util/AbstractList", "<init>", "()V"⟩ : MethodName) jdk_39_method_1_code 1 none :: ws) ({ frames := 2, cells := 0, slots := 0, locals := 24 } : Room)) (fun a U => a = #[(.ref a0r)] ∧ Z.Warmed39 U.vm ∧ U.heap = h0) (fun _ _ _ _ _ => True) (fun _ U o U' => ∃ v L, o = .returned v ∧ (own_Q_rm2 Z a0r h0 n0) v U'.heap L ∧ FrameEnd U o U' L ({ frames := 2, cells := 0, slots := 0, locals := 24 } : Room).cells ({ frames := 2, cells := 0, slots := 0, locals := 24 } : Room).slots) := by
  refine MetFree.of_bodySF (plainFor_of_name own_pn1) hisR ?_
  intro p e s m args below meth c s₁ Bd hml0 hP hK
  obtain ⟨rfl, hZ, hh⟩ := hP
  have hx := Bd.exec
  have hby := Bd.bytes
  have hml : c.maxLocals = 1 := hml0
  have hown : s.vm.findClass "java/util/AbstractList" = some m.cls := findClass_of_methodNamed Bd.named
  have hnm := (name_of_methodNamed Bd.named Bd.method).1
  have hlk : meth.locks = false := BodyLoose.notSynchronized Bd
  have X0 : Stand p l e ({ frames := 2, cells := 0, slots := 0, locals := 24 } : Room) s m #[(.ref a0r)] below meth c s₁ [] 0 0 := Stand.of_body Bd
  have e0 : s₁.heap = h0 := by rw [← hh, Bd.state]; rfl
  have N0 := Fr.nil n0
  show own_Ends p e below (own_Fin s (own_Q_rm2 Z a0r h0 n0) ({ frames := 2, cells := 0, slots := 0, locals := 24 } : Room).cells ({ frames := 2, cells := 0, slots := 0, locals := 24 } : Room).slots) _
  refine own_pre (fun t k => castTop (own_ef_rm2 m a0r) k) ?_
  have KK0 : Keep h0 h0 [a0r] := Keep.refl _ _
  show own_Ends _ _ _ _ (s₁.setTop (mkF m 0 #[.val (.ref a0r)] []))
  refine own_pre (fun t k => XS.aloadN X0.here hx rfl (hb hby own_d2_0) rfl rfl k) ?_
  show own_Ends _ _ _ _ (s₁.setTop (mkF m 1 #[.val (.ref a0r)] [(.ref a0r)]))
  obtain ⟨_, _, ⟨T2, L2, k2, n2⟩, -, X2, ⟨Lc2, hQ2, l2, y2, z2⟩, st2⟩ := X0.specialBack hx (y := (⟨"java/util/AbstractCollection", "<init>", "()V"⟩ : MethodName)) rfl hown (mvT hZ (hw _ (List.mem_of_getElem? (i := 13) rfl))) (mvT hZ (hw _ (List.mem_of_getElem? (i := 14) rfl))) (mvT hZ (hw _ (List.mem_of_getElem? (i := 18) rfl))) (by decide) (backOf (W := 0) (rm1 l Z a0 hw [] a0r h0 n0 Z0) hZ (hw _ (List.mem_of_getElem? (i := 18) rfl)) (hw _ (List.mem_of_getElem? (i := 17) rfl)) (by decide) (by decide)) (g := (mkF m 1 #[.val (.ref a0r)] [(.ref a0r)])) rfl (by rw [hml]; rfl) (Steps.refl _) (a := a0r) (argsL := []) (rest := []) (lenOf own_pd0 rfl) rfl (by show 2 * 0 + _ ≤ _; exact Nat.le_of_eq rfl) (hb hby own_d2_1) (fun _ _ => ⟨rfl, e0, (by decide : 0 + 0 ≤ _), (by decide : 0 + 0 ≤ _)⟩)
  dsimp only [Pt.U, Pt.locs, Pt.cells, Pt.slots] at X2 l2 y2 z2 st2 hQ2
  subst l2 y2 z2
  obtain ⟨rfl, Nq2, e2⟩ := hQ2
  have N2 := Fr.app N0 Nq2
  refine own_pre (fun t k => st2.trans k) ?_
  show own_Ends _ _ _ _ (T2.setTop (mkF m 4 #[.val (.ref a0r)] []))
  refine own_pre (fun t k => XS.aloadN X2.here hx rfl (hb hby own_d2_4) rfl rfl k) ?_
  show own_Ends _ _ _ _ (T2.setTop (mkF m 5 #[.val (.ref a0r)] [(.ref a0r)]))
  refine own_pre (fun t k => XS.iconst X2.here hx rfl (hb hby own_d2_5) k) ?_
  show own_Ends _ _ _ _ (T2.setTop (mkF m 6 #[.val (.ref a0r)] [(.int (0 : Int32)), (.ref a0r)]))
  obtain ⟨T3, h3, X3, e3, W3, st3⟩ := putF X2 hx hZ hown (host := "") (Or.inl (hw _ (List.mem_of_getElem? (i := 22) rfl))) Via.refl e2 F_modCount EX (Or.inl (hw _ (List.mem_of_getElem? (i := 23) rfl))) (hw _ (List.mem_of_getElem? (i := 2) rfl)) (ty := .int) (by decide) rfl rfl (g := (mkF m 6 #[.val (.ref a0r)] [(.int (0 : Int32)), (.ref a0r)])) rfl rfl (hb hby own_d2_6)
  refine own_pre st3 ?_
  have fw3 := F_modCount.same W3
  have f4 := EX.wr W3
  have f5 := F_elementData.other W3 (Or.inr (slot_ne (Or.inl (hw _ (List.mem_of_getElem? (i := 26) rfl))) (Or.inl (hw _ (List.mem_of_getElem? (i := 23) rfl))) (by decide) (t := (.array (.object "java/lang/Object"))) (t' := .int) (by decide) (by decide)))
  have N6 := Fr.snoc X3 N2 g0r
  have Zn7 : n0 ≤ h3.size := by rw [W3.size]; exact Z0
  have K8 : Keep h0 h3 [a0r] := KK0.wr W3 (Or.inl (by simp))
  show own_Ends _ _ _ _ (T3.setTop (mkF m 9 #[.val (.ref a0r)] []))
  exact own_retV X3 hx Bd.returns (hb hby own_d2_9) hlk e3 ⟨rfl, N6, K8, fw3, f5⟩ (by decide) (by decide)
theorem own_d1_0 : decode jdk_38_method_2_code 0 = .ok (.aload_n 0, 1) := by decide +kernel
theorem own_d1_1 : decode jdk_38_method_2_code 1 = .ok (.invokespecial 1, 3) := by decide +kernel
theorem own_d1_4 : decode jdk_38_method_2_code 4 = .ok (.aload_n 0, 1) := by decide +kernel
theorem own_d1_5 : decode jdk_38_method_2_code 5 = .ok (.getstatic 39, 3) := by decide +kernel
theorem own_d1_8 : decode jdk_38_method_2_code 8 = .ok (.putfield 9, 3) := by decide +kernel
theorem own_d1_11 : decode jdk_38_method_2_code 11 = .ok (.return_, 1) := by decide +kernel
theorem own_pn2 : plainName "java/util/ArrayList" = true := by first | (simp [plainName, overriddenIn]; done) | decide +kernel
theorem own_ef_rm3 (m : MethodId) (x0 : Addr) : entryFrame m #[(.ref x0)] 1 = mkF m 0 #[.val (.ref x0)] [] := by first | (simp [entryFrame, mkF, argsToLocals, Value.category]; done) | rfl
def own_Q_rm3 (Z : State) (a0r : Addr) (wd : Addr) (h0 : Heap) (n0 : Nat) (v : Option Value) (h : Heap) (L : List Loc) : Prop := v = none ∧ Fr n0 L ∧ Keep h0 h [a0r] ∧ Fld Z h a0r "java/util/AbstractList" "modCount" "I" (.int (0 : Int32)) ∧ Fld Z h a0r "java/util/ArrayList" "elementData" "[Ljava/lang/Object;" (.ref wd)
set_option maxRecDepth 65536 in
set_option maxHeartbeats 40000000 in
theorem rm3 (l : Launch) (Z : State) (a0 : Array Value) (hw : ∀ d ∈ tables_1, d.before a0 Z = true) (ws : List Jvm.Cond) (a0r : Addr) (wd : Addr) (h0 : Heap) (n0 : Nat) (Z0 : n0 ≤ h0.size) (EX : Exa Z h0 a0r "java/util/ArrayList") (g0r : n0 ≤ a0r) (F_modCount : Fld Z h0 a0r "java/util/AbstractList" "modCount" "I" (.int (0 : Int32))) (F_elementData : Fld Z h0 a0r "java/util/ArrayList" "elementData" "[Ljava/lang/Object;" .null) (Sd : Sta Z h0 "java/util/ArrayList" "DEFAULTCAPACITY_EMPTY_ELEMENTDATA" "[Ljava/lang/Object;" (.ref wd)) :
    MetFree l (⟨"java/util/ArrayList", "<init>", "()V"⟩ : MethodName) (head1 (Jvm.Cond.code (⟨"java/util/ArrayList", "<init>", "()V"⟩ : MethodName) jdk_38_method_2_code 1 none :: ws) ({ frames := 3, cells := 0, slots := 0, locals := 36 } : Room)) (fun a U => a = #[(.ref a0r)] ∧ Z.Warmed39 U.vm ∧ U.heap = h0) (fun _ _ _ _ _ => True) (fun _ U o U' => ∃ v L, o = .returned v ∧ (own_Q_rm3 Z a0r wd h0 n0) v U'.heap L ∧ FrameEnd U o U' L ({ frames := 3, cells := 0, slots := 0, locals := 36 } : Room).cells ({ frames := 3, cells := 0, slots := 0, locals := 36 } : Room).slots) := by
  refine MetFree.of_bodySF (plainFor_of_name own_pn2) hisR ?_
  intro p e s m args below meth c s₁ Bd hml0 hP hK
  obtain ⟨rfl, hZ, hh⟩ := hP
  have hx := Bd.exec
  have hby := Bd.bytes
  have hml : c.maxLocals = 1 := hml0
  have hown : s.vm.findClass "java/util/ArrayList" = some m.cls := findClass_of_methodNamed Bd.named
  have hnm := (name_of_methodNamed Bd.named Bd.method).1
  have hlk : meth.locks = false := BodyLoose.notSynchronized Bd
  have X0 : Stand p l e ({ frames := 3, cells := 0, slots := 0, locals := 36 } : Room) s m #[(.ref a0r)] below meth c s₁ [] 0 0 := Stand.of_body Bd
  have e0 : s₁.heap = h0 := by rw [← hh, Bd.state]; rfl
  have N0 := Fr.nil n0
  show own_Ends p e below (own_Fin s (own_Q_rm3 Z a0r wd h0 n0) ({ frames := 3, cells := 0, slots := 0, locals := 36 } : Room).cells ({ frames := 3, cells := 0, slots := 0, locals := 36 } : Room).slots) _
  refine own_pre (fun t k => castTop (own_ef_rm3 m a0r) k) ?_
  have KK0 : Keep h0 h0 [a0r] := Keep.refl _ _
  show own_Ends _ _ _ _ (s₁.setTop (mkF m 0 #[.val (.ref a0r)] []))
  refine own_pre (fun t k => XS.aloadN X0.here hx rfl (hb hby own_d1_0) rfl rfl k) ?_
  show own_Ends _ _ _ _ (s₁.setTop (mkF m 1 #[.val (.ref a0r)] [(.ref a0r)]))
  obtain ⟨_, _, ⟨T9, L9, k9, n9⟩, -, X9, ⟨Lc9, hQ9, l9, y9, z9⟩, st9⟩ := X0.specialBack hx (y := (⟨"java/util/AbstractList", "<init>", "()V"⟩ : MethodName)) rfl hown (mvT hZ (hw _ (List.mem_of_getElem? (i := 7) rfl))) (mvT hZ (hw _ (List.mem_of_getElem? (i := 8) rfl))) (mvT hZ (hw _ (List.mem_of_getElem? (i := 12) rfl))) (by decide) (backOf (W := 0) (rm2 l Z a0 hw [] a0r h0 n0 Z0 EX g0r F_modCount F_elementData) hZ (hw _ (List.mem_of_getElem? (i := 12) rfl)) (hw _ (List.mem_of_getElem? (i := 11) rfl)) (by decide) (by decide)) (g := (mkF m 1 #[.val (.ref a0r)] [(.ref a0r)])) rfl (by rw [hml]; rfl) (Steps.refl _) (a := a0r) (argsL := []) (rest := []) (lenOf own_pd0 rfl) rfl (by show 2 * 0 + _ ≤ _; exact Nat.le_of_eq rfl) (hb hby own_d1_1) (fun _ _ => ⟨rfl, e0, (by decide : 0 + 0 ≤ _), (by decide : 0 + 0 ≤ _)⟩)
  dsimp only [Pt.U, Pt.locs, Pt.cells, Pt.slots] at X9 l9 y9 z9 st9 hQ9
  subst l9 y9 z9
  obtain ⟨rfl, Nq9, Kq9, f10, f11⟩ := hQ9
  have N9 := Fr.app N0 Nq9
  have f12 := EX.keep Kq9
  have f13 := own_staK Sd Kq9 EX
  have Zn9 : n0 ≤ T9.heap.size := Nat.le_trans Z0 Kq9.1
  have K14 : Keep h0 T9.heap [a0r] := KK0.trans Kq9 (allS (Or.inl (by simp)) all0)
  refine own_pre (fun t k => st9.trans k) ?_
  show own_Ends _ _ _ _ (T9.setTop (mkF m 4 #[.val (.ref a0r)] []))
  refine own_pre (fun t k => XS.aloadN X9.here hx rfl (hb hby own_d1_4) rfl rfl k) ?_
  show own_Ends _ _ _ _ (T9.setTop (mkF m 5 #[.val (.ref a0r)] [(.ref a0r)]))
  obtain ⟨T15, X15, e15, st15⟩ := getS2 X9 hx hZ hown (host := "") (Or.inl (hw _ (List.mem_of_getElem? (i := 24) rfl))) Via.refl rfl f13 (g := (mkF m 5 #[.val (.ref a0r)] [(.ref a0r)])) rfl (hb hby own_d1_5)
  refine own_pre st15 ?_
  show own_Ends _ _ _ _ (T15.setTop (mkF m 8 #[.val (.ref a0r)] [(.ref wd), (.ref a0r)]))
  obtain ⟨T16, h16, X16, e16, W16, st16⟩ := putF X15 hx hZ hown (host := "") (Or.inl (hw _ (List.mem_of_getElem? (i := 25) rfl))) Via.refl e15 f11 f12 (Or.inl (hw _ (List.mem_of_getElem? (i := 26) rfl))) (hw _ (List.mem_of_getElem? (i := 2) rfl)) (ty := (.array (.object "java/lang/Object"))) (by decide) rfl rfl (g := (mkF m 8 #[.val (.ref a0r)] [(.ref wd), (.ref a0r)])) rfl rfl (hb hby own_d1_8)
  refine own_pre st16 ?_
  have fw16 := f11.same W16
  have f17 := f12.wr W16
  have f18 := f13.wr W16
  have f19 := f10.other W16 (Or.inr (slot_ne (Or.inl (hw _ (List.mem_of_getElem? (i := 23) rfl))) (Or.inl (hw _ (List.mem_of_getElem? (i := 26) rfl))) (by decide) (t := .int) (t' := (.array (.object "java/lang/Object"))) (by decide) (by decide)))
  have N20 := Fr.snoc X16 N9 g0r
  have Zn21 : n0 ≤ h16.size := by rw [W16.size]; exact Zn9
  have K22 : Keep h0 h16 [a0r] := K14.wr W16 (Or.inl (by simp))
  show own_Ends _ _ _ _ (T16.setTop (mkF m 11 #[.val (.ref a0r)] []))
  exact own_retV X16 hx Bd.returns (hb hby own_d1_11) hlk e16 ⟨rfl, N20, K22, f19, fw16⟩ (by decide) (by decide)
theorem own_d6_0 : decode jdk_30_method_1_code 0 = .ok (.aload_n 0, 1) := by decide +kernel
theorem own_d6_1 : decode jdk_30_method_1_code 1 = .ok (.invokespecial 1, 3) := by decide +kernel
theorem own_d6_4 : decode jdk_30_method_1_code 4 = .ok (.return_, 1) := by decide +kernel
theorem own_pn3 : plainName "java/lang/Record" = true := by first | (simp [plainName, overriddenIn]; done) | decide +kernel
theorem own_ef_rm4 (m : MethodId) (x0 : Addr) : entryFrame m #[(.ref x0)] 1 = mkF m 0 #[.val (.ref x0)] [] := by first | (simp [entryFrame, mkF, argsToLocals, Value.category]; done) | rfl
def own_Q_rm4 (Z : State) (a0r : Addr) (h0 : Heap) (n0 : Nat) (v : Option Value) (h : Heap) (L : List Loc) : Prop := v = none ∧ Fr n0 L ∧ h = h0
set_option maxRecDepth 65536 in
set_option maxHeartbeats 40000000 in
theorem rm4 (l : Launch) (Z : State) (a0 : Array Value) (hw : ∀ d ∈ tables_1, d.before a0 Z = true) (ws : List Jvm.Cond) (a0r : Addr) (h0 : Heap) (n0 : Nat) (Z0 : n0 ≤ h0.size) :
    MetFree l (⟨"java/lang/Record", "<init>", "()V"⟩ : MethodName) (head1 (Jvm.Cond.code (⟨"java/lang/Record", "<init>", "()V"⟩ : MethodName) jdk_30_method_1_code 1 none :: ws) ({ frames := 1, cells := 0, slots := 0, locals := 12 } : Room)) (fun a U => a = #[(.ref a0r)] ∧ Z.Warmed39 U.vm ∧ U.heap = h0) (fun _ _ _ _ _ => True) (fun _ U o U' => ∃ v L, o = .returned v ∧ (own_Q_rm4 Z a0r h0 n0) v U'.heap L ∧ FrameEnd U o U' L ({ frames := 1, cells := 0, slots := 0, locals := 12 } : Room).cells ({ frames := 1, cells := 0, slots := 0, locals := 12 } : Room).slots) := by
  refine MetFree.of_bodySF (plainFor_of_name own_pn3) hisR ?_
  intro p e s m args below meth c s₁ Bd hml0 hP hK
  obtain ⟨rfl, hZ, hh⟩ := hP
  have hx := Bd.exec
  have hby := Bd.bytes
  have hml : c.maxLocals = 1 := hml0
  have hown : s.vm.findClass "java/lang/Record" = some m.cls := findClass_of_methodNamed Bd.named
  have hnm := (name_of_methodNamed Bd.named Bd.method).1
  have hlk : meth.locks = false := BodyLoose.notSynchronized Bd
  have X0 : Stand p l e ({ frames := 1, cells := 0, slots := 0, locals := 12 } : Room) s m #[(.ref a0r)] below meth c s₁ [] 0 0 := Stand.of_body Bd
  have e0 : s₁.heap = h0 := by rw [← hh, Bd.state]; rfl
  have N0 := Fr.nil n0
  show own_Ends p e below (own_Fin s (own_Q_rm4 Z a0r h0 n0) ({ frames := 1, cells := 0, slots := 0, locals := 12 } : Room).cells ({ frames := 1, cells := 0, slots := 0, locals := 12 } : Room).slots) _
  refine own_pre (fun t k => castTop (own_ef_rm4 m a0r) k) ?_
  show own_Ends _ _ _ _ (s₁.setTop (mkF m 0 #[.val (.ref a0r)] []))
  refine own_pre (fun t k => XS.aloadN X0.here hx rfl (hb hby own_d6_0) rfl rfl k) ?_
  show own_Ends _ _ _ _ (s₁.setTop (mkF m 1 #[.val (.ref a0r)] [(.ref a0r)]))
  obtain ⟨T23, X23, e23, st23⟩ := initO X0 hx hZ hown (hw _ (List.mem_of_getElem? (i := 38) rfl)) (hw _ (List.mem_of_getElem? (i := 20) rfl)) (hw _ (List.mem_of_getElem? (i := 21) rfl)) e0 (g := (mkF m 1 #[.val (.ref a0r)] [(.ref a0r)])) rfl (by rw [hml]; rfl) rfl (hb hby own_d6_1) (by decide) (W := 0) (by show 2 * 0 + _ ≤ _; exact Nat.le_of_eq rfl) (by decide)
  refine own_pre st23 ?_
  show own_Ends _ _ _ _ (T23.setTop (mkF m 4 #[.val (.ref a0r)] []))
  exact own_retV X23 hx Bd.returns (hb hby own_d6_4) hlk e23 ⟨rfl, N0, rfl⟩ (by decide) (by decide)
theorem own_d5_0 : decode prog_120_method_1_code 0 = .ok (.aload_n 0, 1) := by decide +kernel
theorem own_d5_1 : decode prog_120_method_1_code 1 = .ok (.invokespecial 5, 3) := by decide +kernel
theorem own_d5_4 : decode prog_120_method_1_code 4 = .ok (.aload_n 0, 1) := by decide +kernel
theorem own_d5_5 : decode prog_120_method_1_code 5 = .ok (.lload_n 1, 1) := by decide +kernel
theorem own_d5_6 : decode prog_120_method_1_code 6 = .ok (.putfield 11, 3) := by decide +kernel
theorem own_d5_9 : decode prog_120_method_1_code 9 = .ok (.aload_n 0, 1) := by decide +kernel
theorem own_d5_10 : decode prog_120_method_1_code 10 = .ok (.lload_n 3, 1) := by decide +kernel
theorem own_d5_11 : decode prog_120_method_1_code 11 = .ok (.putfield 17, 3) := by decide +kernel
theorem own_d5_14 : decode prog_120_method_1_code 14 = .ok (.aload_n 0, 1) := by decide +kernel
theorem own_d5_15 : decode prog_120_method_1_code 15 = .ok (.lload 5, 2) := by decide +kernel
theorem own_d5_17 : decode prog_120_method_1_code 17 = .ok (.putfield 20, 3) := by decide +kernel
theorem own_d5_20 : decode prog_120_method_1_code 20 = .ok (.aload_n 0, 1) := by decide +kernel
theorem own_d5_21 : decode prog_120_method_1_code 21 = .ok (.aload 7, 2) := by decide +kernel
theorem own_d5_23 : decode prog_120_method_1_code 23 = .ok (.putfield 23, 3) := by decide +kernel
theorem own_d5_26 : decode prog_120_method_1_code 26 = .ok (.aload_n 0, 1) := by decide +kernel
theorem own_d5_27 : decode prog_120_method_1_code 27 = .ok (.lload 8, 2) := by decide +kernel
theorem own_d5_29 : decode prog_120_method_1_code 29 = .ok (.putfield 27, 3) := by decide +kernel
theorem own_d5_32 : decode prog_120_method_1_code 32 = .ok (.aload_n 0, 1) := by decide +kernel
theorem own_d5_33 : decode prog_120_method_1_code 33 = .ok (.lload 10, 2) := by decide +kernel
theorem own_d5_35 : decode prog_120_method_1_code 35 = .ok (.putfield 30, 3) := by decide +kernel
theorem own_d5_38 : decode prog_120_method_1_code 38 = .ok (.aload_n 0, 1) := by decide +kernel
theorem own_d5_39 : decode prog_120_method_1_code 39 = .ok (.iload 12, 2) := by decide +kernel
theorem own_d5_41 : decode prog_120_method_1_code 41 = .ok (.putfield 33, 3) := by decide +kernel
theorem own_d5_44 : decode prog_120_method_1_code 44 = .ok (.return_, 1) := by decide +kernel
theorem own_pn4 : plainName "com/example/settlepath/settlepath/store/CheckpointFiles$Mark" = true := by first | (simp [plainName, overriddenIn]; done) | decide +kernel
theorem own_ef_rm5 (m : MethodId) (x0 : Addr) (x1 : Int64) (x2 : Int64) (x3 : Int64) (x4 : Addr) (x5 : Int64) (x6 : Int64) (x7 : Int32) : entryFrame m #[(.ref x0), (.long x1), (.long x2), (.long x3), (.ref x4), (.long x5), (.long x6), (.int x7)] 13 = mkF m 0 #[.val (.ref x0), .val (.long x1), .second, .val (.long x2), .second, .val (.long x3), .second, .val (.ref x4), .val (.long x5), .second, .val (.long x6), .second, .val (.int x7)] [] := by first | (simp [entryFrame, mkF, argsToLocals, Value.category]; done) | rfl
def own_Q_rm5 (Z : State) (a0r : Addr) (q1 : Int64) (q2 : Int64) (q3 : Int64) (r4 : Addr) (q5 : Int64) (q6 : Int64) (p7 : Int32) (h0 : Heap) (n0 : Nat) (v : Option Value) (h : Heap) (L : List Loc) : Prop := v = none ∧ Fr n0 L ∧ Keep h0 h [a0r] ∧ Fld Z h a0r "com/example/settlepath/settlepath/store/CheckpointFiles$Mark" "segment" "J" (.long q1) ∧ Fld Z h a0r "com/example/settlepath/settlepath/store/CheckpointFiles$Mark" "historyBytes" "J" (.long q2) ∧ Fld Z h a0r "com/example/settlepath/settlepath/store/CheckpointFiles$Mark" "paymentsBytes" "J" (.long q3) ∧ Fld Z h a0r "com/example/settlepath/settlepath/store/CheckpointFiles$Mark" "runs" "Ljava/util/List;" (.ref r4) ∧ Fld Z h a0r "com/example/settlepath/settlepath/store/CheckpointFiles$Mark" "records" "J" (.long q5) ∧ Fld Z h a0r "com/example/settlepath/settlepath/store/CheckpointFiles$Mark" "bytes" "J" (.long q6) ∧ Fld Z h a0r "com/example/settlepath/settlepath/store/CheckpointFiles$Mark" "format" "I" (.int p7)
set_option maxRecDepth 65536 in
set_option maxHeartbeats 40000000 in
theorem rm5 (l : Launch) (Z : State) (a0 : Array Value) (hw : ∀ d ∈ tables_1, d.before a0 Z = true) (ws : List Jvm.Cond) (a0r : Addr) (q1 : Int64) (q2 : Int64) (q3 : Int64) (r4 : Addr) (q5 : Int64) (q6 : Int64) (p7 : Int32) (h0 : Heap) (n0 : Nat) (Z0 : n0 ≤ h0.size) (EX : Exa Z h0 a0r "com/example/settlepath/settlepath/store/CheckpointFiles$Mark") (g0r : n0 ≤ a0r) (F_segment : Fld Z h0 a0r "com/example/settlepath/settlepath/store/CheckpointFiles$Mark" "segment" "J" (.long (0 : Int64))) (F_historyBytes : Fld Z h0 a0r "com/example/settlepath/settlepath/store/CheckpointFiles$Mark" "historyBytes" "J" (.long (0 : Int64))) (F_paymentsBytes : Fld Z h0 a0r "com/example/settlepath/settlepath/store/CheckpointFiles$Mark" "paymentsBytes" "J" (.long (0 : Int64))) (F_runs : Fld Z h0 a0r "com/example/settlepath/settlepath/store/CheckpointFiles$Mark" "runs" "Ljava/util/List;" .null) (F_records : Fld Z h0 a0r "com/example/settlepath/settlepath/store/CheckpointFiles$Mark" "records" "J" (.long (0 : Int64))) (F_bytes : Fld Z h0 a0r "com/example/settlepath/settlepath/store/CheckpointFiles$Mark" "bytes" "J" (.long (0 : Int64))) (F_format : Fld Z h0 a0r "com/example/settlepath/settlepath/store/CheckpointFiles$Mark" "format" "I" (.int (0 : Int32))) :
    MetFree l (⟨"com/example/settlepath/settlepath/store/CheckpointFiles$Mark", "<init>", "(JJJLjava/util/List;JJI)V"⟩ : MethodName) (head1 (Jvm.Cond.code (⟨"com/example/settlepath/settlepath/store/CheckpointFiles$Mark", "<init>", "(JJJLjava/util/List;JJI)V"⟩ : MethodName) prog_120_method_1_code 13 none :: ws) ({ frames := 2, cells := 0, slots := 0, locals := 24 } : Room)) (fun a U => a = #[(.ref a0r), (.long q1), (.long q2), (.long q3), (.ref r4), (.long q5), (.long q6), (.int p7)] ∧ Z.Warmed39 U.vm ∧ U.heap = h0) (fun _ _ _ _ _ => True) (fun _ U o U' => ∃ v L, o = .returned v ∧ (own_Q_rm5 Z a0r q1 q2 q3 r4 q5 q6 p7 h0 n0) v U'.heap L ∧ FrameEnd U o U' L ({ frames := 2, cells := 0, slots := 0, locals := 24 } : Room).cells ({ frames := 2, cells := 0, slots := 0, locals := 24 } : Room).slots) := by
  refine MetFree.of_bodySF (plainFor_of_name own_pn4) hisR ?_
  intro p e s m args below meth c s₁ Bd hml0 hP hK
  obtain ⟨rfl, hZ, hh⟩ := hP
  have hx := Bd.exec
  have hby := Bd.bytes
  have hml : c.maxLocals = 13 := hml0
  have hown : s.vm.findClass "com/example/settlepath/settlepath/store/CheckpointFiles$Mark" = some m.cls := findClass_of_methodNamed Bd.named
  have hnm := (name_of_methodNamed Bd.named Bd.method).1
  have hlk : meth.locks = false := BodyLoose.notSynchronized Bd
  have X0 : Stand p l e ({ frames := 2, cells := 0, slots := 0, locals := 24 } : Room) s m #[(.ref a0r), (.long q1), (.long q2), (.long q3), (.ref r4), (.long q5), (.long q6), (.int p7)] below meth c s₁ [] 0 0 := Stand.of_body Bd
  have e0 : s₁.heap = h0 := by rw [← hh, Bd.state]; rfl
  have N0 := Fr.nil n0
  show own_Ends p e below (own_Fin s (own_Q_rm5 Z a0r q1 q2 q3 r4 q5 q6 p7 h0 n0) ({ frames := 2, cells := 0, slots := 0, locals := 24 } : Room).cells ({ frames := 2, cells := 0, slots := 0, locals := 24 } : Room).slots) _
  refine own_pre (fun t k => castTop (own_ef_rm5 m a0r q1 q2 q3 r4 q5 q6 p7) k) ?_
  have KK0 : Keep h0 h0 [a0r] := Keep.refl _ _
  show own_Ends _ _ _ _ (s₁.setTop (mkF m 0 #[.val (.ref a0r), .val (.long q1), .second, .val (.long q2), .second, .val (.long q3), .second, .val (.ref r4), .val (.long q5), .second, .val (.long q6), .second, .val (.int p7)] []))
  refine own_pre (fun t k => XS.aloadN X0.here hx rfl (hb hby own_d5_0) rfl rfl k) ?_
  show own_Ends _ _ _ _ (s₁.setTop (mkF m 1 #[.val (.ref a0r), .val (.long q1), .second, .val (.long q2), .second, .val (.long q3), .second, .val (.ref r4), .val (.long q5), .second, .val (.long q6), .second, .val (.int p7)] [(.ref a0r)]))
  obtain ⟨_, _, ⟨T24, L24, k24, n24⟩, -, X24, ⟨Lc24, hQ24, l24, y24, z24⟩, st24⟩ := X0.specialBack hx (y := (⟨"java/lang/Record", "<init>", "()V"⟩ : MethodName)) rfl hown (mvT hZ (hw _ (List.mem_of_getElem? (i := 33) rfl))) (mvT hZ (hw _ (List.mem_of_getElem? (i := 34) rfl))) (mvT hZ (hw _ (List.mem_of_getElem? (i := 37) rfl))) (by decide) (backOf (W := 0) (rm4 l Z a0 hw [] a0r h0 n0 Z0) hZ (hw _ (List.mem_of_getElem? (i := 37) rfl)) (hw _ (List.mem_of_getElem? (i := 36) rfl)) (by decide) (by decide)) (g := (mkF m 1 #[.val (.ref a0r), .val (.long q1), .second, .val (.long q2), .second, .val (.long q3), .second, .val (.ref r4), .val (.long q5), .second, .val (.long q6), .second, .val (.int p7)] [(.ref a0r)])) rfl (by rw [hml]; rfl) (Steps.refl _) (a := a0r) (argsL := []) (rest := []) (lenOf own_pd0 rfl) rfl (by show 2 * 0 + _ ≤ _; exact Nat.le_of_eq rfl) (hb hby own_d5_1) (fun _ _ => ⟨rfl, e0, (by decide : 0 + 0 ≤ _), (by decide : 0 + 0 ≤ _)⟩)
  dsimp only [Pt.U, Pt.locs, Pt.cells, Pt.slots] at X24 l24 y24 z24 st24 hQ24
  subst l24 y24 z24
  obtain ⟨rfl, Nq24, e24⟩ := hQ24
  have N24 := Fr.app N0 Nq24
  refine own_pre (fun t k => st24.trans k) ?_
  show own_Ends _ _ _ _ (T24.setTop (mkF m 4 #[.val (.ref a0r), .val (.long q1), .second, .val (.long q2), .second, .val (.long q3), .second, .val (.ref r4), .val (.long q5), .second, .val (.long q6), .second, .val (.int p7)] []))
  refine own_pre (fun t k => XS.aloadN X24.here hx rfl (hb hby own_d5_4) rfl rfl k) ?_
  show own_Ends _ _ _ _ (T24.setTop (mkF m 5 #[.val (.ref a0r), .val (.long q1), .second, .val (.long q2), .second, .val (.long q3), .second, .val (.ref r4), .val (.long q5), .second, .val (.long q6), .second, .val (.int p7)] [(.ref a0r)]))
  refine own_pre (fun t k => XS.lloadN X24.here hx rfl (hb hby own_d5_5) rfl k) ?_
  show own_Ends _ _ _ _ (T24.setTop (mkF m 6 #[.val (.ref a0r), .val (.long q1), .second, .val (.long q2), .second, .val (.long q3), .second, .val (.ref r4), .val (.long q5), .second, .val (.long q6), .second, .val (.int p7)] [(.long q1), (.ref a0r)]))
  obtain ⟨T25, h25, X25, e25, W25, st25⟩ := putF X24 hx hZ hown (host := "") (Or.inl (hw _ (List.mem_of_getElem? (i := 39) rfl))) Via.refl e24 F_segment EX (Or.inr ⟨(hw _ (List.mem_of_getElem? (i := 40) rfl)), rfl, hnm⟩) (hw _ (List.mem_of_getElem? (i := 28) rfl)) (ty := .long) (by decide) rfl rfl (g := (mkF m 6 #[.val (.ref a0r), .val (.long q1), .second, .val (.long q2), .second, .val (.long q3), .second, .val (.ref r4), .val (.long q5), .second, .val (.long q6), .second, .val (.int p7)] [(.long q1), (.ref a0r)])) rfl rfl (hb hby own_d5_6)
  refine own_pre st25 ?_
  have fw25 := F_segment.same W25
  have f26 := EX.wr W25
  have f27 := F_historyBytes.other W25 (Or.inr (slot_ne (Or.inr (hw _ (List.mem_of_getElem? (i := 42) rfl))) (Or.inr (hw _ (List.mem_of_getElem? (i := 40) rfl))) (by decide) (t := .long) (t' := .long) (by decide) (by decide)))
  have f28 := F_paymentsBytes.other W25 (Or.inr (slot_ne (Or.inr (hw _ (List.mem_of_getElem? (i := 44) rfl))) (Or.inr (hw _ (List.mem_of_getElem? (i := 40) rfl))) (by decide) (t := .long) (t' := .long) (by decide) (by decide)))
  have f29 := F_runs.other W25 (Or.inr (slot_ne (Or.inr (hw _ (List.mem_of_getElem? (i := 46) rfl))) (Or.inr (hw _ (List.mem_of_getElem? (i := 40) rfl))) (by decide) (t := (.object "java/util/List")) (t' := .long) (by decide) (by decide)))
  have f30 := F_records.other W25 (Or.inr (slot_ne (Or.inr (hw _ (List.mem_of_getElem? (i := 48) rfl))) (Or.inr (hw _ (List.mem_of_getElem? (i := 40) rfl))) (by decide) (t := .long) (t' := .long) (by decide) (by decide)))
  have f31 := F_bytes.other W25 (Or.inr (slot_ne (Or.inr (hw _ (List.mem_of_getElem? (i := 50) rfl))) (Or.inr (hw _ (List.mem_of_getElem? (i := 40) rfl))) (by decide) (t := .long) (t' := .long) (by decide) (by decide)))
  have f32 := F_format.other W25 (Or.inr (slot_ne (Or.inr (hw _ (List.mem_of_getElem? (i := 52) rfl))) (Or.inr (hw _ (List.mem_of_getElem? (i := 40) rfl))) (by decide) (t := .int) (t' := .long) (by decide) (by decide)))
  have N33 := Fr.snoc X25 N24 g0r
  have Zn34 : n0 ≤ h25.size := by rw [W25.size]; exact Z0
  have K35 : Keep h0 h25 [a0r] := KK0.wr W25 (Or.inl (by simp))
  show own_Ends _ _ _ _ (T25.setTop (mkF m 9 #[.val (.ref a0r), .val (.long q1), .second, .val (.long q2), .second, .val (.long q3), .second, .val (.ref r4), .val (.long q5), .second, .val (.long q6), .second, .val (.int p7)] []))
  refine own_pre (fun t k => XS.aloadN X25.here hx rfl (hb hby own_d5_9) rfl rfl k) ?_
  show own_Ends _ _ _ _ (T25.setTop (mkF m 10 #[.val (.ref a0r), .val (.long q1), .second, .val (.long q2), .second, .val (.long q3), .second, .val (.ref r4), .val (.long q5), .second, .val (.long q6), .second, .val (.int p7)] [(.ref a0r)]))
  refine own_pre (fun t k => XS.lloadN X25.here hx rfl (hb hby own_d5_10) rfl k) ?_
  show own_Ends _ _ _ _ (T25.setTop (mkF m 11 #[.val (.ref a0r), .val (.long q1), .second, .val (.long q2), .second, .val (.long q3), .second, .val (.ref r4), .val (.long q5), .second, .val (.long q6), .second, .val (.int p7)] [(.long q2), (.ref a0r)]))
  obtain ⟨T36, h36, X36, e36, W36, st36⟩ := putF X25 hx hZ hown (host := "") (Or.inl (hw _ (List.mem_of_getElem? (i := 41) rfl))) Via.refl e25 f27 f26 (Or.inr ⟨(hw _ (List.mem_of_getElem? (i := 42) rfl)), rfl, hnm⟩) (hw _ (List.mem_of_getElem? (i := 28) rfl)) (ty := .long) (by decide) rfl rfl (g := (mkF m 11 #[.val (.ref a0r), .val (.long q1), .second, .val (.long q2), .second, .val (.long q3), .second, .val (.ref r4), .val (.long q5), .second, .val (.long q6), .second, .val (.int p7)] [(.long q2), (.ref a0r)])) rfl rfl (hb hby own_d5_11)
  refine own_pre st36 ?_
  have fw36 := f27.same W36
  have f37 := f26.wr W36
  have f38 := f28.other W36 (Or.inr (slot_ne (Or.inr (hw _ (List.mem_of_getElem? (i := 44) rfl))) (Or.inr (hw _ (List.mem_of_getElem? (i := 42) rfl))) (by decide) (t := .long) (t' := .long) (by decide) (by decide)))
  have f39 := f29.other W36 (Or.inr (slot_ne (Or.inr (hw _ (List.mem_of_getElem? (i := 46) rfl))) (Or.inr (hw _ (List.mem_of_getElem? (i := 42) rfl))) (by decide) (t := (.object "java/util/List")) (t' := .long) (by decide) (by decide)))
  have f40 := f30.other W36 (Or.inr (slot_ne (Or.inr (hw _ (List.mem_of_getElem? (i := 48) rfl))) (Or.inr (hw _ (List.mem_of_getElem? (i := 42) rfl))) (by decide) (t := .long) (t' := .long) (by decide) (by decide)))
  have f41 := f31.other W36 (Or.inr (slot_ne (Or.inr (hw _ (List.mem_of_getElem? (i := 50) rfl))) (Or.inr (hw _ (List.mem_of_getElem? (i := 42) rfl))) (by decide) (t := .long) (t' := .long) (by decide) (by decide)))
  have f42 := f32.other W36 (Or.inr (slot_ne (Or.inr (hw _ (List.mem_of_getElem? (i := 52) rfl))) (Or.inr (hw _ (List.mem_of_getElem? (i := 42) rfl))) (by decide) (t := .int) (t' := .long) (by decide) (by decide)))
  have f43 := fw25.other W36 (Or.inr (slot_ne (Or.inr (hw _ (List.mem_of_getElem? (i := 40) rfl))) (Or.inr (hw _ (List.mem_of_getElem? (i := 42) rfl))) (by decide) (t := .long) (t' := .long) (by decide) (by decide)))
  have N44 := Fr.snoc X36 N33 g0r
  have Zn45 : n0 ≤ h36.size := by rw [W36.size]; exact Zn34
  have K46 : Keep h0 h36 [a0r] := K35.wr W36 (Or.inl (by simp))
  show own_Ends _ _ _ _ (T36.setTop (mkF m 14 #[.val (.ref a0r), .val (.long q1), .second, .val (.long q2), .second, .val (.long q3), .second, .val (.ref r4), .val (.long q5), .second, .val (.long q6), .second, .val (.int p7)] []))
  refine own_pre (fun t k => XS.aloadN X36.here hx rfl (hb hby own_d5_14) rfl rfl k) ?_
  show own_Ends _ _ _ _ (T36.setTop (mkF m 15 #[.val (.ref a0r), .val (.long q1), .second, .val (.long q2), .second, .val (.long q3), .second, .val (.ref r4), .val (.long q5), .second, .val (.long q6), .second, .val (.int p7)] [(.ref a0r)]))
  refine own_pre (fun t k => XS.lload X36.here hx rfl (hb hby own_d5_15) rfl k) ?_
  show own_Ends _ _ _ _ (T36.setTop (mkF m 17 #[.val (.ref a0r), .val (.long q1), .second, .val (.long q2), .second, .val (.long q3), .second, .val (.ref r4), .val (.long q5), .second, .val (.long q6), .second, .val (.int p7)] [(.long q3), (.ref a0r)]))
  obtain ⟨T47, h47, X47, e47, W47, st47⟩ := putF X36 hx hZ hown (host := "") (Or.inl (hw _ (List.mem_of_getElem? (i := 43) rfl))) Via.refl e36 f38 f37 (Or.inr ⟨(hw _ (List.mem_of_getElem? (i := 44) rfl)), rfl, hnm⟩) (hw _ (List.mem_of_getElem? (i := 28) rfl)) (ty := .long) (by decide) rfl rfl (g := (mkF m 17 #[.val (.ref a0r), .val (.long q1), .second, .val (.long q2), .second, .val (.long q3), .second, .val (.ref r4), .val (.long q5), .second, .val (.long q6), .second, .val (.int p7)] [(.long q3), (.ref a0r)])) rfl rfl (hb hby own_d5_17)
  refine own_pre st47 ?_
  have fw47 := f38.same W47
  have f48 := f37.wr W47
  have f49 := f39.other W47 (Or.inr (slot_ne (Or.inr (hw _ (List.mem_of_getElem? (i := 46) rfl))) (Or.inr (hw _ (List.mem_of_getElem? (i := 44) rfl))) (by decide) (t := (.object "java/util/List")) (t' := .long) (by decide) (by decide)))
  have f50 := f40.other W47 (Or.inr (slot_ne (Or.inr (hw _ (List.mem_of_getElem? (i := 48) rfl))) (Or.inr (hw _ (List.mem_of_getElem? (i := 44) rfl))) (by decide) (t := .long) (t' := .long) (by decide) (by decide)))
  have f51 := f41.other W47 (Or.inr (slot_ne (Or.inr (hw _ (List.mem_of_getElem? (i := 50) rfl))) (Or.inr (hw _ (List.mem_of_getElem? (i := 44) rfl))) (by decide) (t := .long) (t' := .long) (by decide) (by decide)))
  have f52 := f42.other W47 (Or.inr (slot_ne (Or.inr (hw _ (List.mem_of_getElem? (i := 52) rfl))) (Or.inr (hw _ (List.mem_of_getElem? (i := 44) rfl))) (by decide) (t := .int) (t' := .long) (by decide) (by decide)))
  have f53 := f43.other W47 (Or.inr (slot_ne (Or.inr (hw _ (List.mem_of_getElem? (i := 40) rfl))) (Or.inr (hw _ (List.mem_of_getElem? (i := 44) rfl))) (by decide) (t := .long) (t' := .long) (by decide) (by decide)))
  have f54 := fw36.other W47 (Or.inr (slot_ne (Or.inr (hw _ (List.mem_of_getElem? (i := 42) rfl))) (Or.inr (hw _ (List.mem_of_getElem? (i := 44) rfl))) (by decide) (t := .long) (t' := .long) (by decide) (by decide)))
  have N55 := Fr.snoc X47 N44 g0r
  have Zn56 : n0 ≤ h47.size := by rw [W47.size]; exact Zn45
  have K57 : Keep h0 h47 [a0r] := K46.wr W47 (Or.inl (by simp))
  show own_Ends _ _ _ _ (T47.setTop (mkF m 20 #[.val (.ref a0r), .val (.long q1), .second, .val (.long q2), .second, .val (.long q3), .second, .val (.ref r4), .val (.long q5), .second, .val (.long q6), .second, .val (.int p7)] []))
  refine own_pre (fun t k => XS.aloadN X47.here hx rfl (hb hby own_d5_20) rfl rfl k) ?_
  show own_Ends _ _ _ _ (T47.setTop (mkF m 21 #[.val (.ref a0r), .val (.long q1), .second, .val (.long q2), .second, .val (.long q3), .second, .val (.ref r4), .val (.long q5), .second, .val (.long q6), .second, .val (.int p7)] [(.ref a0r)]))
  refine own_pre (fun t k => XS.aload X47.here hx rfl (hb hby own_d5_21) rfl rfl k) ?_
  show own_Ends _ _ _ _ (T47.setTop (mkF m 23 #[.val (.ref a0r), .val (.long q1), .second, .val (.long q2), .second, .val (.long q3), .second, .val (.ref r4), .val (.long q5), .second, .val (.long q6), .second, .val (.int p7)] [(.ref r4), (.ref a0r)]))
  obtain ⟨T58, h58, X58, e58, W58, st58⟩ := putF X47 hx hZ hown (host := "") (Or.inl (hw _ (List.mem_of_getElem? (i := 45) rfl))) Via.refl e47 f49 f48 (Or.inr ⟨(hw _ (List.mem_of_getElem? (i := 46) rfl)), rfl, hnm⟩) (hw _ (List.mem_of_getElem? (i := 28) rfl)) (ty := (.object "java/util/List")) (by decide) rfl rfl (g := (mkF m 23 #[.val (.ref a0r), .val (.long q1), .second, .val (.long q2), .second, .val (.long q3), .second, .val (.ref r4), .val (.long q5), .second, .val (.long q6), .second, .val (.int p7)] [(.ref r4), (.ref a0r)])) rfl rfl (hb hby own_d5_23)
  refine own_pre st58 ?_
  have fw58 := f49.same W58
  have f59 := f48.wr W58
  have f60 := f50.other W58 (Or.inr (slot_ne (Or.inr (hw _ (List.mem_of_getElem? (i := 48) rfl))) (Or.inr (hw _ (List.mem_of_getElem? (i := 46) rfl))) (by decide) (t := .long) (t' := (.object "java/util/List")) (by decide) (by decide)))
  have f61 := f51.other W58 (Or.inr (slot_ne (Or.inr (hw _ (List.mem_of_getElem? (i := 50) rfl))) (Or.inr (hw _ (List.mem_of_getElem? (i := 46) rfl))) (by decide) (t := .long) (t' := (.object "java/util/List")) (by decide) (by decide)))
  have f62 := f52.other W58 (Or.inr (slot_ne (Or.inr (hw _ (List.mem_of_getElem? (i := 52) rfl))) (Or.inr (hw _ (List.mem_of_getElem? (i := 46) rfl))) (by decide) (t := .int) (t' := (.object "java/util/List")) (by decide) (by decide)))
  have f63 := f53.other W58 (Or.inr (slot_ne (Or.inr (hw _ (List.mem_of_getElem? (i := 40) rfl))) (Or.inr (hw _ (List.mem_of_getElem? (i := 46) rfl))) (by decide) (t := .long) (t' := (.object "java/util/List")) (by decide) (by decide)))
  have f64 := f54.other W58 (Or.inr (slot_ne (Or.inr (hw _ (List.mem_of_getElem? (i := 42) rfl))) (Or.inr (hw _ (List.mem_of_getElem? (i := 46) rfl))) (by decide) (t := .long) (t' := (.object "java/util/List")) (by decide) (by decide)))
  have f65 := fw47.other W58 (Or.inr (slot_ne (Or.inr (hw _ (List.mem_of_getElem? (i := 44) rfl))) (Or.inr (hw _ (List.mem_of_getElem? (i := 46) rfl))) (by decide) (t := .long) (t' := (.object "java/util/List")) (by decide) (by decide)))
  have N66 := Fr.snoc X58 N55 g0r
  have Zn67 : n0 ≤ h58.size := by rw [W58.size]; exact Zn56
  have K68 : Keep h0 h58 [a0r] := K57.wr W58 (Or.inl (by simp))
  show own_Ends _ _ _ _ (T58.setTop (mkF m 26 #[.val (.ref a0r), .val (.long q1), .second, .val (.long q2), .second, .val (.long q3), .second, .val (.ref r4), .val (.long q5), .second, .val (.long q6), .second, .val (.int p7)] []))
  refine own_pre (fun t k => XS.aloadN X58.here hx rfl (hb hby own_d5_26) rfl rfl k) ?_
  show own_Ends _ _ _ _ (T58.setTop (mkF m 27 #[.val (.ref a0r), .val (.long q1), .second, .val (.long q2), .second, .val (.long q3), .second, .val (.ref r4), .val (.long q5), .second, .val (.long q6), .second, .val (.int p7)] [(.ref a0r)]))
  refine own_pre (fun t k => XS.lload X58.here hx rfl (hb hby own_d5_27) rfl k) ?_
  show own_Ends _ _ _ _ (T58.setTop (mkF m 29 #[.val (.ref a0r), .val (.long q1), .second, .val (.long q2), .second, .val (.long q3), .second, .val (.ref r4), .val (.long q5), .second, .val (.long q6), .second, .val (.int p7)] [(.long q5), (.ref a0r)]))
  obtain ⟨T69, h69, X69, e69, W69, st69⟩ := putF X58 hx hZ hown (host := "") (Or.inl (hw _ (List.mem_of_getElem? (i := 47) rfl))) Via.refl e58 f60 f59 (Or.inr ⟨(hw _ (List.mem_of_getElem? (i := 48) rfl)), rfl, hnm⟩) (hw _ (List.mem_of_getElem? (i := 28) rfl)) (ty := .long) (by decide) rfl rfl (g := (mkF m 29 #[.val (.ref a0r), .val (.long q1), .second, .val (.long q2), .second, .val (.long q3), .second, .val (.ref r4), .val (.long q5), .second, .val (.long q6), .second, .val (.int p7)] [(.long q5), (.ref a0r)])) rfl rfl (hb hby own_d5_29)
  refine own_pre st69 ?_
  have fw69 := f60.same W69
  have f70 := f59.wr W69
  have f71 := f61.other W69 (Or.inr (slot_ne (Or.inr (hw _ (List.mem_of_getElem? (i := 50) rfl))) (Or.inr (hw _ (List.mem_of_getElem? (i := 48) rfl))) (by decide) (t := .long) (t' := .long) (by decide) (by decide)))
  have f72 := f62.other W69 (Or.inr (slot_ne (Or.inr (hw _ (List.mem_of_getElem? (i := 52) rfl))) (Or.inr (hw _ (List.mem_of_getElem? (i := 48) rfl))) (by decide) (t := .int) (t' := .long) (by decide) (by decide)))
  have f73 := f63.other W69 (Or.inr (slot_ne (Or.inr (hw _ (List.mem_of_getElem? (i := 40) rfl))) (Or.inr (hw _ (List.mem_of_getElem? (i := 48) rfl))) (by decide) (t := .long) (t' := .long) (by decide) (by decide)))
  have f74 := f64.other W69 (Or.inr (slot_ne (Or.inr (hw _ (List.mem_of_getElem? (i := 42) rfl))) (Or.inr (hw _ (List.mem_of_getElem? (i := 48) rfl))) (by decide) (t := .long) (t' := .long) (by decide) (by decide)))
  have f75 := f65.other W69 (Or.inr (slot_ne (Or.inr (hw _ (List.mem_of_getElem? (i := 44) rfl))) (Or.inr (hw _ (List.mem_of_getElem? (i := 48) rfl))) (by decide) (t := .long) (t' := .long) (by decide) (by decide)))
  have f76 := fw58.other W69 (Or.inr (slot_ne (Or.inr (hw _ (List.mem_of_getElem? (i := 46) rfl))) (Or.inr (hw _ (List.mem_of_getElem? (i := 48) rfl))) (by decide) (t := (.object "java/util/List")) (t' := .long) (by decide) (by decide)))
  have N77 := Fr.snoc X69 N66 g0r
  have Zn78 : n0 ≤ h69.size := by rw [W69.size]; exact Zn67
  have K79 : Keep h0 h69 [a0r] := K68.wr W69 (Or.inl (by simp))
  show own_Ends _ _ _ _ (T69.setTop (mkF m 32 #[.val (.ref a0r), .val (.long q1), .second, .val (.long q2), .second, .val (.long q3), .second, .val (.ref r4), .val (.long q5), .second, .val (.long q6), .second, .val (.int p7)] []))
  refine own_pre (fun t k => XS.aloadN X69.here hx rfl (hb hby own_d5_32) rfl rfl k) ?_
  show own_Ends _ _ _ _ (T69.setTop (mkF m 33 #[.val (.ref a0r), .val (.long q1), .second, .val (.long q2), .second, .val (.long q3), .second, .val (.ref r4), .val (.long q5), .second, .val (.long q6), .second, .val (.int p7)] [(.ref a0r)]))
  refine own_pre (fun t k => XS.lload X69.here hx rfl (hb hby own_d5_33) rfl k) ?_
  show own_Ends _ _ _ _ (T69.setTop (mkF m 35 #[.val (.ref a0r), .val (.long q1), .second, .val (.long q2), .second, .val (.long q3), .second, .val (.ref r4), .val (.long q5), .second, .val (.long q6), .second, .val (.int p7)] [(.long q6), (.ref a0r)]))
  obtain ⟨T80, h80, X80, e80, W80, st80⟩ := putF X69 hx hZ hown (host := "") (Or.inl (hw _ (List.mem_of_getElem? (i := 49) rfl))) Via.refl e69 f71 f70 (Or.inr ⟨(hw _ (List.mem_of_getElem? (i := 50) rfl)), rfl, hnm⟩) (hw _ (List.mem_of_getElem? (i := 28) rfl)) (ty := .long) (by decide) rfl rfl (g := (mkF m 35 #[.val (.ref a0r), .val (.long q1), .second, .val (.long q2), .second, .val (.long q3), .second, .val (.ref r4), .val (.long q5), .second, .val (.long q6), .second, .val (.int p7)] [(.long q6), (.ref a0r)])) rfl rfl (hb hby own_d5_35)
  refine own_pre st80 ?_
  have fw80 := f71.same W80
  have f81 := f70.wr W80
  have f82 := f72.other W80 (Or.inr (slot_ne (Or.inr (hw _ (List.mem_of_getElem? (i := 52) rfl))) (Or.inr (hw _ (List.mem_of_getElem? (i := 50) rfl))) (by decide) (t := .int) (t' := .long) (by decide) (by decide)))
  have f83 := f73.other W80 (Or.inr (slot_ne (Or.inr (hw _ (List.mem_of_getElem? (i := 40) rfl))) (Or.inr (hw _ (List.mem_of_getElem? (i := 50) rfl))) (by decide) (t := .long) (t' := .long) (by decide) (by decide)))
  have f84 := f74.other W80 (Or.inr (slot_ne (Or.inr (hw _ (List.mem_of_getElem? (i := 42) rfl))) (Or.inr (hw _ (List.mem_of_getElem? (i := 50) rfl))) (by decide) (t := .long) (t' := .long) (by decide) (by decide)))
  have f85 := f75.other W80 (Or.inr (slot_ne (Or.inr (hw _ (List.mem_of_getElem? (i := 44) rfl))) (Or.inr (hw _ (List.mem_of_getElem? (i := 50) rfl))) (by decide) (t := .long) (t' := .long) (by decide) (by decide)))
  have f86 := f76.other W80 (Or.inr (slot_ne (Or.inr (hw _ (List.mem_of_getElem? (i := 46) rfl))) (Or.inr (hw _ (List.mem_of_getElem? (i := 50) rfl))) (by decide) (t := (.object "java/util/List")) (t' := .long) (by decide) (by decide)))
  have f87 := fw69.other W80 (Or.inr (slot_ne (Or.inr (hw _ (List.mem_of_getElem? (i := 48) rfl))) (Or.inr (hw _ (List.mem_of_getElem? (i := 50) rfl))) (by decide) (t := .long) (t' := .long) (by decide) (by decide)))
  have N88 := Fr.snoc X80 N77 g0r
  have Zn89 : n0 ≤ h80.size := by rw [W80.size]; exact Zn78
  have K90 : Keep h0 h80 [a0r] := K79.wr W80 (Or.inl (by simp))
  show own_Ends _ _ _ _ (T80.setTop (mkF m 38 #[.val (.ref a0r), .val (.long q1), .second, .val (.long q2), .second, .val (.long q3), .second, .val (.ref r4), .val (.long q5), .second, .val (.long q6), .second, .val (.int p7)] []))
  refine own_pre (fun t k => XS.aloadN X80.here hx rfl (hb hby own_d5_38) rfl rfl k) ?_
  show own_Ends _ _ _ _ (T80.setTop (mkF m 39 #[.val (.ref a0r), .val (.long q1), .second, .val (.long q2), .second, .val (.long q3), .second, .val (.ref r4), .val (.long q5), .second, .val (.long q6), .second, .val (.int p7)] [(.ref a0r)]))
  refine own_pre (fun t k => XS.iload X80.here hx rfl (hb hby own_d5_39) rfl k) ?_
  show own_Ends _ _ _ _ (T80.setTop (mkF m 41 #[.val (.ref a0r), .val (.long q1), .second, .val (.long q2), .second, .val (.long q3), .second, .val (.ref r4), .val (.long q5), .second, .val (.long q6), .second, .val (.int p7)] [(.int p7), (.ref a0r)]))
  obtain ⟨T91, h91, X91, e91, W91, st91⟩ := putF X80 hx hZ hown (host := "") (Or.inl (hw _ (List.mem_of_getElem? (i := 51) rfl))) Via.refl e80 f82 f81 (Or.inr ⟨(hw _ (List.mem_of_getElem? (i := 52) rfl)), rfl, hnm⟩) (hw _ (List.mem_of_getElem? (i := 28) rfl)) (ty := .int) (by decide) rfl rfl (g := (mkF m 41 #[.val (.ref a0r), .val (.long q1), .second, .val (.long q2), .second, .val (.long q3), .second, .val (.ref r4), .val (.long q5), .second, .val (.long q6), .second, .val (.int p7)] [(.int p7), (.ref a0r)])) rfl rfl (hb hby own_d5_41)
  refine own_pre st91 ?_
  have fw91 := f82.same W91
  have f92 := f81.wr W91
  have f93 := f83.other W91 (Or.inr (slot_ne (Or.inr (hw _ (List.mem_of_getElem? (i := 40) rfl))) (Or.inr (hw _ (List.mem_of_getElem? (i := 52) rfl))) (by decide) (t := .long) (t' := .int) (by decide) (by decide)))
  have f94 := f84.other W91 (Or.inr (slot_ne (Or.inr (hw _ (List.mem_of_getElem? (i := 42) rfl))) (Or.inr (hw _ (List.mem_of_getElem? (i := 52) rfl))) (by decide) (t := .long) (t' := .int) (by decide) (by decide)))
  have f95 := f85.other W91 (Or.inr (slot_ne (Or.inr (hw _ (List.mem_of_getElem? (i := 44) rfl))) (Or.inr (hw _ (List.mem_of_getElem? (i := 52) rfl))) (by decide) (t := .long) (t' := .int) (by decide) (by decide)))
  have f96 := f86.other W91 (Or.inr (slot_ne (Or.inr (hw _ (List.mem_of_getElem? (i := 46) rfl))) (Or.inr (hw _ (List.mem_of_getElem? (i := 52) rfl))) (by decide) (t := (.object "java/util/List")) (t' := .int) (by decide) (by decide)))
  have f97 := f87.other W91 (Or.inr (slot_ne (Or.inr (hw _ (List.mem_of_getElem? (i := 48) rfl))) (Or.inr (hw _ (List.mem_of_getElem? (i := 52) rfl))) (by decide) (t := .long) (t' := .int) (by decide) (by decide)))
  have f98 := fw80.other W91 (Or.inr (slot_ne (Or.inr (hw _ (List.mem_of_getElem? (i := 50) rfl))) (Or.inr (hw _ (List.mem_of_getElem? (i := 52) rfl))) (by decide) (t := .long) (t' := .int) (by decide) (by decide)))
  have N99 := Fr.snoc X91 N88 g0r
  have Zn100 : n0 ≤ h91.size := by rw [W91.size]; exact Zn89
  have K101 : Keep h0 h91 [a0r] := K90.wr W91 (Or.inl (by simp))
  show own_Ends _ _ _ _ (T91.setTop (mkF m 44 #[.val (.ref a0r), .val (.long q1), .second, .val (.long q2), .second, .val (.long q3), .second, .val (.ref r4), .val (.long q5), .second, .val (.long q6), .second, .val (.int p7)] []))
  exact own_retV X91 hx Bd.returns (hb hby own_d5_44) hlk e91 ⟨rfl, N99, K101, f93, f94, f95, f96, f97, f98, fw91⟩ (by decide) (by decide)
theorem own_d7_0 : decode prog_120_method_2_code 0 = .ok (.aload_n 0, 1) := by decide +kernel
theorem own_d7_1 : decode prog_120_method_2_code 1 = .ok (.getfield 33, 3) := by decide +kernel
theorem own_d7_4 : decode prog_120_method_2_code 4 = .ok (.iconst 4, 1) := by decide +kernel
theorem own_d7_5 : decode prog_120_method_2_code 5 = .ok (.if_icmp .lt 7, 3) := by decide +kernel
theorem own_d7_8 : decode prog_120_method_2_code 8 = .ok (.iconst 1, 1) := by decide +kernel
theorem own_d7_9 : decode prog_120_method_2_code 9 = .ok (.goto 4, 3) := by decide +kernel
theorem own_d7_12 : decode prog_120_method_2_code 12 = .ok (.iconst 0, 1) := by decide +kernel
theorem own_d7_13 : decode prog_120_method_2_code 13 = .ok (.ireturn, 1) := by decide +kernel
def own_fff (ff : Int32) : Int32 := if ff < (4 : Int32) then (0 : Int32) else (1 : Int32)
theorem own_ef_rm6 (m : MethodId) (x0 : Addr) : entryFrame m #[(.ref x0)] 1 = mkF m 0 #[.val (.ref x0)] [] := by first | (simp [entryFrame, mkF, argsToLocals, Value.category]; done) | rfl
def own_Q_rm6 (Z : State) (a0r : Addr) (ff : Int32) (h0 : Heap) (n0 : Nat) (v : Option Value) (h : Heap) (L : List Loc) : Prop := v = some (.int (own_fff ff)) ∧ Fr n0 L ∧ h = h0
set_option maxRecDepth 65536 in
set_option maxHeartbeats 40000000 in
theorem rm6 (l : Launch) (Z : State) (a0 : Array Value) (hw : ∀ d ∈ tables_1, d.before a0 Z = true) (ws : List Jvm.Cond) (a0r : Addr) (ff : Int32) (h0 : Heap) (n0 : Nat) (Z0 : n0 ≤ h0.size) (F_format : Fld Z h0 a0r "com/example/settlepath/settlepath/store/CheckpointFiles$Mark" "format" "I" (.int ff)) :
    MetFree l (⟨"com/example/settlepath/settlepath/store/CheckpointFiles$Mark", "firstFormatFiltered", "()Z"⟩ : MethodName) (head1 (Jvm.Cond.code (⟨"com/example/settlepath/settlepath/store/CheckpointFiles$Mark", "firstFormatFiltered", "()Z"⟩ : MethodName) prog_120_method_2_code 1 (some .boolean) :: ws) ({ frames := 0, cells := 0, slots := 0, locals := 0 } : Room)) (fun a U => a = #[(.ref a0r)] ∧ Z.Warmed39 U.vm ∧ U.heap = h0) (fun _ _ _ _ _ => True) (fun _ U o U' => ∃ v L, o = .returned v ∧ (own_Q_rm6 Z a0r ff h0 n0) v U'.heap L ∧ FrameEnd U o U' L ({ frames := 0, cells := 0, slots := 0, locals := 0 } : Room).cells ({ frames := 0, cells := 0, slots := 0, locals := 0 } : Room).slots) := by
  refine MetFree.of_bodySF (plainFor_of_name own_pn4) hisR ?_
  intro p e s m args below meth c s₁ Bd hml0 hP hK
  obtain ⟨rfl, hZ, hh⟩ := hP
  have hx := Bd.exec
  have hby := Bd.bytes
  have hml : c.maxLocals = 1 := hml0
  have hown : s.vm.findClass "com/example/settlepath/settlepath/store/CheckpointFiles$Mark" = some m.cls := findClass_of_methodNamed Bd.named
  have hnm := (name_of_methodNamed Bd.named Bd.method).1
  have hlk : meth.locks = false := BodyLoose.notSynchronized Bd
  have X0 : Stand p l e ({ frames := 0, cells := 0, slots := 0, locals := 0 } : Room) s m #[(.ref a0r)] below meth c s₁ [] 0 0 := Stand.of_body Bd
  have e0 : s₁.heap = h0 := by rw [← hh, Bd.state]; rfl
  have N0 := Fr.nil n0
  show own_Ends p e below (own_Fin s (own_Q_rm6 Z a0r ff h0 n0) ({ frames := 0, cells := 0, slots := 0, locals := 0 } : Room).cells ({ frames := 0, cells := 0, slots := 0, locals := 0 } : Room).slots) _
  refine own_pre (fun t k => castTop (own_ef_rm6 m a0r) k) ?_
  have J0 : ∀ (G : Option Value → Heap → List Loc → Prop) (hG : ∀ L, Fr n0 L → G (some (.int (if ff < (4 : Int32) then (0 : Int32) else (1 : Int32)))) h0 L), own_Ends p e below (own_Fin s G ({ frames := 0, cells := 0, slots := 0, locals := 0 } : Room).cells ({ frames := 0, cells := 0, slots := 0, locals := 0 } : Room).slots) (s₁.setTop (mkF m 0 #[.val (.ref a0r)] [])) := by
    intro G hG
    show own_Ends _ _ _ _ (s₁.setTop (mkF m 0 #[.val (.ref a0r)] []))
    refine own_pre (fun t k => XS.aloadN X0.here hx rfl (hb hby own_d7_0) rfl rfl k) ?_
    show own_Ends _ _ _ _ (s₁.setTop (mkF m 1 #[.val (.ref a0r)] [(.ref a0r)]))
    obtain ⟨T102, X102, e102, st102⟩ := getF X0 hx hZ hown (host := "") (Or.inl (hw _ (List.mem_of_getElem? (i := 51) rfl))) Via.refl e0 F_format (g := (mkF m 1 #[.val (.ref a0r)] [(.ref a0r)])) rfl rfl (hb hby own_d7_1)
    refine own_pre st102 ?_
    show own_Ends _ _ _ _ (T102.setTop (mkF m 4 #[.val (.ref a0r)] [(.int ff)]))
    refine own_pre (fun t k => XS.iconst X102.here hx rfl (hb hby own_d7_4) k) ?_
    show own_Ends _ _ _ _ (T102.setTop (mkF m 5 #[.val (.ref a0r)] [(.int (4 : Int32)), (.int ff)]))
    by_cases hc103 : ff < (4 : Int32)
    · skip
      rw [if_pos hc103] at hG
      refine own_pre (fun t k => XS.icmpYes X102.here hx rfl (pc0 := 5) (pc' := 12) rfl (hb hby own_d7_5) rfl (tlt hc103).1 (by decide) (by decide) k) ?_
      show own_Ends _ _ _ _ (T102.setTop (mkF m 12 #[.val (.ref a0r)] []))
      refine own_pre (fun t k => XS.iconst X102.here hx rfl (hb hby own_d7_12) k) ?_
      show own_Ends _ _ _ _ (T102.setTop (mkF m 13 #[.val (.ref a0r)] [(.int (0 : Int32))]))
      exact own_retN X102 hx (t := .boolean) Bd.returns (by simp) (hb hby own_d7_13) hlk rfl e102 (hG _ N0) (by decide) (by decide)
    · skip
      rw [if_neg hc103] at hG
      refine own_pre (fun t k => XS.icmpNo X102.here hx rfl (hb hby own_d7_5) rfl (flt hc103).1 k) ?_
      show own_Ends _ _ _ _ (T102.setTop (mkF m 8 #[.val (.ref a0r)] []))
      refine own_pre (fun t k => XS.iconst X102.here hx rfl (hb hby own_d7_8) k) ?_
      show own_Ends _ _ _ _ (T102.setTop (mkF m 9 #[.val (.ref a0r)] [(.int (1 : Int32))]))
      refine own_pre (fun t k => XS.goto X102.here hx rfl (pc0 := 9) (pc' := 13) rfl (hb hby own_d7_9) (by decide) (by decide) k) ?_
      show own_Ends _ _ _ _ (T102.setTop (mkF m 13 #[.val (.ref a0r)] [(.int (1 : Int32))]))
      exact own_retN X102 hx (t := .boolean) Bd.returns (by simp) (hb hby own_d7_13) hlk rfl e102 (hG _ N0) (by decide) (by decide)
  exact J0 _ fun L q => ⟨rfl, q, rfl⟩
theorem own_d8_0 : decode method_2_code 0 = .ok (.iload_n 0, 1) := by decide +kernel
theorem own_d8_1 : decode method_2_code 1 = .ok (.iconst 1, 1) := by decide +kernel
theorem own_d8_2 : decode method_2_code 2 = .ok (.if_icmp .ne 5, 3) := by decide +kernel
theorem own_d8_5 : decode method_2_code 5 = .ok (.iconst 0, 1) := by decide +kernel
theorem own_d8_6 : decode method_2_code 6 = .ok (.ireturn, 1) := by decide +kernel
theorem own_d8_7 : decode method_2_code 7 = .ok (.iload_n 0, 1) := by decide +kernel
theorem own_d8_8 : decode method_2_code 8 = .ok (.iconst 2, 1) := by decide +kernel
theorem own_d8_9 : decode method_2_code 9 = .ok (.if_icmp .ne 5, 3) := by decide +kernel
theorem own_d8_12 : decode method_2_code 12 = .ok (.iconst 0, 1) := by decide +kernel
theorem own_d8_13 : decode method_2_code 13 = .ok (.ireturn, 1) := by decide +kernel
theorem own_d8_14 : decode method_2_code 14 = .ok (.iload_n 0, 1) := by decide +kernel
theorem own_d8_15 : decode method_2_code 15 = .ok (.iconst 3, 1) := by decide +kernel
theorem own_d8_16 : decode method_2_code 16 = .ok (.if_icmp .ne 5, 3) := by decide +kernel
theorem own_d8_19 : decode method_2_code 19 = .ok (.iconst 0, 1) := by decide +kernel
theorem own_d8_20 : decode method_2_code 20 = .ok (.ireturn, 1) := by decide +kernel
theorem own_d8_21 : decode method_2_code 21 = .ok (.iload_n 0, 1) := by decide +kernel
theorem own_d8_22 : decode method_2_code 22 = .ok (.iconst 4, 1) := by decide +kernel
theorem own_d8_23 : decode method_2_code 23 = .ok (.if_icmp .ne 5, 3) := by decide +kernel
theorem own_d8_26 : decode method_2_code 26 = .ok (.iconst 1, 1) := by decide +kernel
theorem own_d8_27 : decode method_2_code 27 = .ok (.ireturn, 1) := by decide +kernel
theorem own_d8_28 : decode method_2_code 28 = .ok (.iload_n 0, 1) := by decide +kernel
theorem own_d8_29 : decode method_2_code 29 = .ok (.iconst 5, 1) := by decide +kernel
theorem own_d8_30 : decode method_2_code 30 = .ok (.if_icmp .ne 7, 3) := by decide +kernel
theorem own_d8_33 : decode method_2_code 33 = .ok (.iconst 1, 1) := by decide +kernel
theorem own_d8_34 : decode method_2_code 34 = .ok (.goto 4, 3) := by decide +kernel
theorem own_d8_37 : decode method_2_code 37 = .ok (.iconst 0, 1) := by decide +kernel
theorem own_d8_38 : decode method_2_code 38 = .ok (.ireturn, 1) := by decide +kernel
def own_exp (p0 : Int32) : Int32 := if p0 = (1 : Int32) then (0 : Int32) else (if p0 = (2 : Int32) then (0 : Int32) else (if p0 = (3 : Int32) then (0 : Int32) else (if p0 = (4 : Int32) then (1 : Int32) else (if p0 = (5 : Int32) then (1 : Int32) else (0 : Int32)))))
theorem own_pn5 : plainName "com/example/settlepath/settlepath/store/MarkFirstFormatFilteredPinLaw" = true := by first | (simp [plainName, overriddenIn]; done) | decide +kernel
theorem own_ef_rm7 (m : MethodId) (x0 : Int32) : entryFrame m #[(.int x0)] 1 = mkF m 0 #[.val (.int x0)] [] := by first | (simp [entryFrame, mkF, argsToLocals, Value.category]; done) | rfl
def own_Q_rm7 (Z : State) (p0 : Int32) (h0 : Heap) (n0 : Nat) (v : Option Value) (h : Heap) (L : List Loc) : Prop := v = some (.int (own_exp p0)) ∧ Fr n0 L ∧ h = h0
set_option maxRecDepth 65536 in
set_option maxHeartbeats 40000000 in
theorem rm7 (l : Launch) (Z : State) (a0 : Array Value) (hw : ∀ d ∈ tables_1, d.before a0 Z = true) (ws : List Jvm.Cond) (p0 : Int32) (h0 : Heap) (n0 : Nat) (Z0 : n0 ≤ h0.size) :
    MetFree l (⟨"com/example/settlepath/settlepath/store/MarkFirstFormatFilteredPinLaw", "expected", "(I)Z"⟩ : MethodName) (head1 (Jvm.Cond.code (⟨"com/example/settlepath/settlepath/store/MarkFirstFormatFilteredPinLaw", "expected", "(I)Z"⟩ : MethodName) method_2_code 1 (some .boolean) :: ws) ({ frames := 0, cells := 0, slots := 0, locals := 0 } : Room)) (fun a U => a = #[(.int p0)] ∧ Z.Warmed39 U.vm ∧ U.heap = h0) (fun _ _ _ _ _ => True) (fun _ U o U' => ∃ v L, o = .returned v ∧ (own_Q_rm7 Z p0 h0 n0) v U'.heap L ∧ FrameEnd U o U' L ({ frames := 0, cells := 0, slots := 0, locals := 0 } : Room).cells ({ frames := 0, cells := 0, slots := 0, locals := 0 } : Room).slots) := by
  refine MetFree.of_bodySF (plainFor_of_name own_pn5) hisR ?_
  intro p e s m args below meth c s₁ Bd hml0 hP hK
  obtain ⟨rfl, hZ, hh⟩ := hP
  have hx := Bd.exec
  have hby := Bd.bytes
  have hml : c.maxLocals = 1 := hml0
  have hown : s.vm.findClass "com/example/settlepath/settlepath/store/MarkFirstFormatFilteredPinLaw" = some m.cls := findClass_of_methodNamed Bd.named
  have hnm := (name_of_methodNamed Bd.named Bd.method).1
  have hlk : meth.locks = false := BodyLoose.notSynchronized Bd
  have X0 : Stand p l e ({ frames := 0, cells := 0, slots := 0, locals := 0 } : Room) s m #[(.int p0)] below meth c s₁ [] 0 0 := Stand.of_body Bd
  have e0 : s₁.heap = h0 := by rw [← hh, Bd.state]; rfl
  have N0 := Fr.nil n0
  show own_Ends p e below (own_Fin s (own_Q_rm7 Z p0 h0 n0) ({ frames := 0, cells := 0, slots := 0, locals := 0 } : Room).cells ({ frames := 0, cells := 0, slots := 0, locals := 0 } : Room).slots) _
  refine own_pre (fun t k => castTop (own_ef_rm7 m p0) k) ?_
  have J0 : ∀ (G : Option Value → Heap → List Loc → Prop) (hG : ∀ L, Fr n0 L → G (some (.int (if p0 = (1 : Int32) then (0 : Int32) else (if p0 = (2 : Int32) then (0 : Int32) else (if p0 = (3 : Int32) then (0 : Int32) else (if p0 = (4 : Int32) then (1 : Int32) else (if p0 = (5 : Int32) then (1 : Int32) else (0 : Int32)))))))) h0 L), own_Ends p e below (own_Fin s G ({ frames := 0, cells := 0, slots := 0, locals := 0 } : Room).cells ({ frames := 0, cells := 0, slots := 0, locals := 0 } : Room).slots) (s₁.setTop (mkF m 0 #[.val (.int p0)] [])) := by
    intro G hG
    show own_Ends _ _ _ _ (s₁.setTop (mkF m 0 #[.val (.int p0)] []))
    refine own_pre (fun t k => XS.iloadN X0.here hx rfl (hb hby own_d8_0) rfl k) ?_
    show own_Ends _ _ _ _ (s₁.setTop (mkF m 1 #[.val (.int p0)] [(.int p0)]))
    refine own_pre (fun t k => XS.iconst X0.here hx rfl (hb hby own_d8_1) k) ?_
    show own_Ends _ _ _ _ (s₁.setTop (mkF m 2 #[.val (.int p0)] [(.int (1 : Int32)), (.int p0)]))
    by_cases hc104 : p0 = (1 : Int32)
    · skip
      rw [if_pos hc104] at hG
      refine own_pre (fun t k => XS.icmpNo X0.here hx rfl (hb hby own_d8_2) rfl (teq hc104).2 k) ?_
      show own_Ends _ _ _ _ (s₁.setTop (mkF m 5 #[.val (.int p0)] []))
      refine own_pre (fun t k => XS.iconst X0.here hx rfl (hb hby own_d8_5) k) ?_
      show own_Ends _ _ _ _ (s₁.setTop (mkF m 6 #[.val (.int p0)] [(.int (0 : Int32))]))
      exact own_retN X0 hx (t := .boolean) Bd.returns (by simp) (hb hby own_d8_6) hlk rfl e0 (hG _ N0) (by decide) (by decide)
    · skip
      rw [if_neg hc104] at hG
      refine own_pre (fun t k => XS.icmpYes X0.here hx rfl (pc0 := 2) (pc' := 7) rfl (hb hby own_d8_2) rfl (feq hc104).2 (by decide) (by decide) k) ?_
      show own_Ends _ _ _ _ (s₁.setTop (mkF m 7 #[.val (.int p0)] []))
      refine own_pre (fun t k => XS.iloadN X0.here hx rfl (hb hby own_d8_7) rfl k) ?_
      show own_Ends _ _ _ _ (s₁.setTop (mkF m 8 #[.val (.int p0)] [(.int p0)]))
      refine own_pre (fun t k => XS.iconst X0.here hx rfl (hb hby own_d8_8) k) ?_
      show own_Ends _ _ _ _ (s₁.setTop (mkF m 9 #[.val (.int p0)] [(.int (2 : Int32)), (.int p0)]))
      by_cases hc105 : p0 = (2 : Int32)
      · skip
        rw [if_pos hc105] at hG
        refine own_pre (fun t k => XS.icmpNo X0.here hx rfl (hb hby own_d8_9) rfl (teq hc105).2 k) ?_
        show own_Ends _ _ _ _ (s₁.setTop (mkF m 12 #[.val (.int p0)] []))
        refine own_pre (fun t k => XS.iconst X0.here hx rfl (hb hby own_d8_12) k) ?_
        show own_Ends _ _ _ _ (s₁.setTop (mkF m 13 #[.val (.int p0)] [(.int (0 : Int32))]))
        exact own_retN X0 hx (t := .boolean) Bd.returns (by simp) (hb hby own_d8_13) hlk rfl e0 (hG _ N0) (by decide) (by decide)
      · skip
        rw [if_neg hc105] at hG
        refine own_pre (fun t k => XS.icmpYes X0.here hx rfl (pc0 := 9) (pc' := 14) rfl (hb hby own_d8_9) rfl (feq hc105).2 (by decide) (by decide) k) ?_
        show own_Ends _ _ _ _ (s₁.setTop (mkF m 14 #[.val (.int p0)] []))
        refine own_pre (fun t k => XS.iloadN X0.here hx rfl (hb hby own_d8_14) rfl k) ?_
        show own_Ends _ _ _ _ (s₁.setTop (mkF m 15 #[.val (.int p0)] [(.int p0)]))
        refine own_pre (fun t k => XS.iconst X0.here hx rfl (hb hby own_d8_15) k) ?_
        show own_Ends _ _ _ _ (s₁.setTop (mkF m 16 #[.val (.int p0)] [(.int (3 : Int32)), (.int p0)]))
        by_cases hc106 : p0 = (3 : Int32)
        · skip
          rw [if_pos hc106] at hG
          refine own_pre (fun t k => XS.icmpNo X0.here hx rfl (hb hby own_d8_16) rfl (teq hc106).2 k) ?_
          show own_Ends _ _ _ _ (s₁.setTop (mkF m 19 #[.val (.int p0)] []))
          refine own_pre (fun t k => XS.iconst X0.here hx rfl (hb hby own_d8_19) k) ?_
          show own_Ends _ _ _ _ (s₁.setTop (mkF m 20 #[.val (.int p0)] [(.int (0 : Int32))]))
          exact own_retN X0 hx (t := .boolean) Bd.returns (by simp) (hb hby own_d8_20) hlk rfl e0 (hG _ N0) (by decide) (by decide)
        · skip
          rw [if_neg hc106] at hG
          refine own_pre (fun t k => XS.icmpYes X0.here hx rfl (pc0 := 16) (pc' := 21) rfl (hb hby own_d8_16) rfl (feq hc106).2 (by decide) (by decide) k) ?_
          show own_Ends _ _ _ _ (s₁.setTop (mkF m 21 #[.val (.int p0)] []))
          refine own_pre (fun t k => XS.iloadN X0.here hx rfl (hb hby own_d8_21) rfl k) ?_
          show own_Ends _ _ _ _ (s₁.setTop (mkF m 22 #[.val (.int p0)] [(.int p0)]))
          refine own_pre (fun t k => XS.iconst X0.here hx rfl (hb hby own_d8_22) k) ?_
          show own_Ends _ _ _ _ (s₁.setTop (mkF m 23 #[.val (.int p0)] [(.int (4 : Int32)), (.int p0)]))
          by_cases hc107 : p0 = (4 : Int32)
          · skip
            rw [if_pos hc107] at hG
            refine own_pre (fun t k => XS.icmpNo X0.here hx rfl (hb hby own_d8_23) rfl (teq hc107).2 k) ?_
            show own_Ends _ _ _ _ (s₁.setTop (mkF m 26 #[.val (.int p0)] []))
            refine own_pre (fun t k => XS.iconst X0.here hx rfl (hb hby own_d8_26) k) ?_
            show own_Ends _ _ _ _ (s₁.setTop (mkF m 27 #[.val (.int p0)] [(.int (1 : Int32))]))
            exact own_retN X0 hx (t := .boolean) Bd.returns (by simp) (hb hby own_d8_27) hlk rfl e0 (hG _ N0) (by decide) (by decide)
          · skip
            rw [if_neg hc107] at hG
            refine own_pre (fun t k => XS.icmpYes X0.here hx rfl (pc0 := 23) (pc' := 28) rfl (hb hby own_d8_23) rfl (feq hc107).2 (by decide) (by decide) k) ?_
            show own_Ends _ _ _ _ (s₁.setTop (mkF m 28 #[.val (.int p0)] []))
            refine own_pre (fun t k => XS.iloadN X0.here hx rfl (hb hby own_d8_28) rfl k) ?_
            show own_Ends _ _ _ _ (s₁.setTop (mkF m 29 #[.val (.int p0)] [(.int p0)]))
            refine own_pre (fun t k => XS.iconst X0.here hx rfl (hb hby own_d8_29) k) ?_
            show own_Ends _ _ _ _ (s₁.setTop (mkF m 30 #[.val (.int p0)] [(.int (5 : Int32)), (.int p0)]))
            by_cases hc108 : p0 = (5 : Int32)
            · skip
              rw [if_pos hc108] at hG
              refine own_pre (fun t k => XS.icmpNo X0.here hx rfl (hb hby own_d8_30) rfl (teq hc108).2 k) ?_
              show own_Ends _ _ _ _ (s₁.setTop (mkF m 33 #[.val (.int p0)] []))
              refine own_pre (fun t k => XS.iconst X0.here hx rfl (hb hby own_d8_33) k) ?_
              show own_Ends _ _ _ _ (s₁.setTop (mkF m 34 #[.val (.int p0)] [(.int (1 : Int32))]))
              refine own_pre (fun t k => XS.goto X0.here hx rfl (pc0 := 34) (pc' := 38) rfl (hb hby own_d8_34) (by decide) (by decide) k) ?_
              show own_Ends _ _ _ _ (s₁.setTop (mkF m 38 #[.val (.int p0)] [(.int (1 : Int32))]))
              exact own_retN X0 hx (t := .boolean) Bd.returns (by simp) (hb hby own_d8_38) hlk rfl e0 (hG _ N0) (by decide) (by decide)
            · skip
              rw [if_neg hc108] at hG
              refine own_pre (fun t k => XS.icmpYes X0.here hx rfl (pc0 := 30) (pc' := 37) rfl (hb hby own_d8_30) rfl (feq hc108).2 (by decide) (by decide) k) ?_
              show own_Ends _ _ _ _ (s₁.setTop (mkF m 37 #[.val (.int p0)] []))
              refine own_pre (fun t k => XS.iconst X0.here hx rfl (hb hby own_d8_37) k) ?_
              show own_Ends _ _ _ _ (s₁.setTop (mkF m 38 #[.val (.int p0)] [(.int (0 : Int32))]))
              exact own_retN X0 hx (t := .boolean) Bd.returns (by simp) (hb hby own_d8_38) hlk rfl e0 (hG _ N0) (by decide) (by decide)
  exact J0 _ fun L q => ⟨rfl, q, rfl⟩
theorem own_five : ∀ n : Fin 5, own_fff (Int32.ofNat n.val + 1) = own_exp (Int32.ofNat n.val + 1) := by decide +kernel
theorem own_eq (f : Int32) : own_fff ((f &&& 2147483647) % 5 + 1) = own_exp ((f &&& 2147483647) % 5 + 1) := by
  have e1 : (f &&& 2147483647).toInt = f.toInt % 2 ^ 31 := Jvm.Kit.i32_mask f 2147483647 (by decide) (by decide)
  have e2 : ((f &&& 2147483647) % 5).toInt = (f &&& 2147483647).toInt % (5 : Int32).toInt := Jvm.Kit.i32_rem_nonneg (by rw [e1]; omega)
  have e3 : (5 : Int32).toInt = 5 := rfl
  rw [e3] at e2
  have e4 : (f &&& 2147483647) % 5 = Int32.ofNat ((f &&& 2147483647).toInt % 5).toNat := by
    apply Int32.toInt_inj.mp
    rw [e2, Int32.toInt_ofNat_of_lt (by omega)]
    omega
  rw [e4]
  exact own_five ⟨((f &&& 2147483647).toInt % 5).toNat, by omega⟩
/-- the greater format is filtered where the lesser is -/
theorem own_mono {a b : Int32} (h : ¬ b < a) (q : ¬ own_fff a = 0) : ¬ own_fff b = 0 := by
  unfold own_fff at *
  by_cases h1 : a < 4
  · rw [if_pos h1] at q; exact absurd rfl q
  · have h2 : ¬ b < 4 := by rw [Int32.lt_iff_toInt_lt] at *; omega
    rw [if_neg h2]; decide
theorem own_pd1 : parseMethodDescriptor "(JJJLjava/util/List;JJI)V" = some ⟨[.long, .long, .long, (.object "java/util/List"), .long, .long, .int], none⟩ := by decide +kernel
theorem own_pd2 : parseMethodDescriptor "()Z" = some ⟨[], some .boolean⟩ := by decide +kernel
theorem own_pd3 : parseMethodDescriptor "(I)Z" = some ⟨[.int], some .boolean⟩ := by decide +kernel
theorem own_ef_rm0 (m : MethodId) (x0 : Int64) (x1 : Int64) (x2 : Int64) (x3 : Int64) (x4 : Int32) (x5 : Int32) : entryFrame m #[(.long x0), (.long x1), (.long x2), (.long x3), (.int x4), (.int x5)] maxLocals = mkF m 0 #[.val (.long x0), .second, .val (.long x1), .second, .val (.long x2), .second, .val (.long x3), .second, .val (.int x4), .val (.int x5), .unset, .unset, .unset, .unset, .unset, .unset] [] := by first | (simp [entryFrame, mkF, argsToLocals, Value.category, maxLocals]; done) | rfl
def own_Q_rm0 (Z : State) (p0 : Int64) (p1 : Int64) (p2 : Int64) (p3 : Int64) (p4 : Int32) (p5 : Int32) (wd : Addr) (h0 : Heap) (n0 : Nat) (v : Option Value) (h : Heap) (L : List Loc) : Prop := v = some (.int 1) ∧ Fr n0 L
set_option maxRecDepth 65536 in
set_option maxHeartbeats 40000000 in
theorem rm0 (l : Launch) (Z : State) (a0 : Array Value) (hw : ∀ d ∈ tables_1, d.before a0 Z = true) (ws : List Jvm.Cond) (p0 : Int64) (p1 : Int64) (p2 : Int64) (p3 : Int64) (p4 : Int32) (p5 : Int32) (wd : Addr) (h0 : Heap) (n0 : Nat) (Z0 : n0 ≤ h0.size) (Sd : Sta Z h0 "java/util/ArrayList" "DEFAULTCAPACITY_EMPTY_ELEMENTDATA" "[Ljava/lang/Object;" (.ref wd)) :
    MetFree l x (head1 (Jvm.Cond.code x code maxLocals ret :: ws) room_1) (fun a U => a = #[(.long p0), (.long p1), (.long p2), (.long p3), (.int p4), (.int p5)] ∧ Z.Warmed39 U.vm ∧ U.heap = h0) (fun _ _ _ _ _ => True) (fun _ U o U' => ∃ v L, o = .returned v ∧ (own_Q_rm0 Z p0 p1 p2 p3 p4 p5 wd h0 n0) v U'.heap L ∧ FrameEnd U o U' L 16 128) := by
  refine MetFree.of_bodySF (plainFor_of_name own_pn5) hisR ?_
  intro p e s m args below meth c s₁ Bd hml0 hP hK
  obtain ⟨rfl, hZ, hh⟩ := hP
  have hx := Bd.exec
  have hby := Bd.bytes
  have hml : c.maxLocals = 16 := hml0
  have hown : s.vm.findClass "com/example/settlepath/settlepath/store/MarkFirstFormatFilteredPinLaw" = some m.cls := findClass_of_methodNamed Bd.named
  have hnm := (name_of_methodNamed Bd.named Bd.method).1
  have hlk : meth.locks = false := BodyLoose.notSynchronized Bd
  have X0 : Stand p l e room_1 s m #[(.long p0), (.long p1), (.long p2), (.long p3), (.int p4), (.int p5)] below meth c s₁ [] 0 0 := Stand.of_body Bd
  have e0 : s₁.heap = h0 := by rw [← hh, Bd.state]; rfl
  have N0 := Fr.nil n0
  show own_Ends p e below (own_Fin s (own_Q_rm0 Z p0 p1 p2 p3 p4 p5 wd h0 n0) 16 128) _
  refine own_pre (fun t k => castTop (own_ef_rm0 m p0 p1 p2 p3 p4 p5) k) ?_
  show own_Ends _ _ _ _ (s₁.setTop (mkF m 0 #[.val (.long p0), .second, .val (.long p1), .second, .val (.long p2), .second, .val (.long p3), .second, .val (.int p4), .val (.int p5), .unset, .unset, .unset, .unset, .unset, .unset] []))
  refine own_pre (fun t k => XS.iload X0.here hx rfl (hb hby at_0) rfl k) ?_
  show own_Ends _ _ _ _ (s₁.setTop (mkF m 2 #[.val (.long p0), .second, .val (.long p1), .second, .val (.long p2), .second, .val (.long p3), .second, .val (.int p4), .val (.int p5), .unset, .unset, .unset, .unset, .unset, .unset] [(.int p4)]))
  refine own_pre (fun t k => X0.ldcInt hx hown (mvT hZ (hw _ (List.mem_of_getElem? (i := 0) rfl))) (g := (mkF m 2 #[.val (.long p0), .second, .val (.long p1), .second, .val (.long p2), .second, .val (.long p3), .second, .val (.int p4), .val (.int p5), .unset, .unset, .unset, .unset, .unset, .unset] [(.int p4)])) rfl (hb hby at_2) _ k) ?_
  show own_Ends _ _ _ _ (s₁.setTop (mkF m 4 #[.val (.long p0), .second, .val (.long p1), .second, .val (.long p2), .second, .val (.long p3), .second, .val (.int p4), .val (.int p5), .unset, .unset, .unset, .unset, .unset, .unset] [(.int (2147483647 : Int32)), (.int p4)]))
  refine own_pre (fun t k => XS.iand X0.here hx rfl (hb hby at_4) rfl k) ?_
  show own_Ends _ _ _ _ (s₁.setTop (mkF m 5 #[.val (.long p0), .second, .val (.long p1), .second, .val (.long p2), .second, .val (.long p3), .second, .val (.int p4), .val (.int p5), .unset, .unset, .unset, .unset, .unset, .unset] [(.int (p4 &&& (2147483647 : Int32)))]))
  refine own_pre (fun t k => XS.iconst X0.here hx rfl (hb hby at_5) k) ?_
  show own_Ends _ _ _ _ (s₁.setTop (mkF m 6 #[.val (.long p0), .second, .val (.long p1), .second, .val (.long p2), .second, .val (.long p3), .second, .val (.int p4), .val (.int p5), .unset, .unset, .unset, .unset, .unset, .unset] [(.int (5 : Int32)), (.int (p4 &&& (2147483647 : Int32)))]))
  refine own_pre (fun t k => iremM X0 hx rfl (hb hby at_6) rfl (by decide) k) ?_
  show own_Ends _ _ _ _ (s₁.setTop (mkF m 7 #[.val (.long p0), .second, .val (.long p1), .second, .val (.long p2), .second, .val (.long p3), .second, .val (.int p4), .val (.int p5), .unset, .unset, .unset, .unset, .unset, .unset] [(.int ((p4 &&& (2147483647 : Int32)) % (5 : Int32)))]))
  refine own_pre (fun t k => XS.iconst X0.here hx rfl (hb hby at_7) k) ?_
  show own_Ends _ _ _ _ (s₁.setTop (mkF m 8 #[.val (.long p0), .second, .val (.long p1), .second, .val (.long p2), .second, .val (.long p3), .second, .val (.int p4), .val (.int p5), .unset, .unset, .unset, .unset, .unset, .unset] [(.int (1 : Int32)), (.int ((p4 &&& (2147483647 : Int32)) % (5 : Int32)))]))
  refine own_pre (fun t k => XS.iadd X0.here hx rfl (hb hby at_8) rfl k) ?_
  show own_Ends _ _ _ _ (s₁.setTop (mkF m 9 #[.val (.long p0), .second, .val (.long p1), .second, .val (.long p2), .second, .val (.long p3), .second, .val (.int p4), .val (.int p5), .unset, .unset, .unset, .unset, .unset, .unset] [(.int (((p4 &&& (2147483647 : Int32)) % (5 : Int32)) + (1 : Int32)))]))
  refine own_pre (fun t k => XS.istore X0.here hx rfl (hb hby at_9) rfl (l' := #[.val (.long p0), .second, .val (.long p1), .second, .val (.long p2), .second, .val (.long p3), .second, .val (.int p4), .val (.int p5), .val (.int (((p4 &&& (2147483647 : Int32)) % (5 : Int32)) + (1 : Int32))), .unset, .unset, .unset, .unset, .unset]) rfl k) ?_
  show own_Ends _ _ _ _ (s₁.setTop (mkF m 11 #[.val (.long p0), .second, .val (.long p1), .second, .val (.long p2), .second, .val (.long p3), .second, .val (.int p4), .val (.int p5), .val (.int (((p4 &&& (2147483647 : Int32)) % (5 : Int32)) + (1 : Int32))), .unset, .unset, .unset, .unset, .unset] []))
  generalize hd10 : (((p4 &&& (2147483647 : Int32)) % (5 : Int32)) + (1 : Int32)) = d10
  show own_Ends _ _ _ _ (s₁.setTop (mkF m 11 #[.val (.long p0), .second, .val (.long p1), .second, .val (.long p2), .second, .val (.long p3), .second, .val (.int p4), .val (.int p5), .val (.int d10), .unset, .unset, .unset, .unset, .unset] []))
  obtain ⟨T109, h109, X109, e109, E109, A109, D109, -, st109⟩ := newO X0 hx hZ hown (hw _ (List.mem_of_getElem? (i := 1) rfl)) (hw _ (List.mem_of_getElem? (i := 2) rfl)) (hw _ (List.mem_of_getElem? (i := 3) rfl)) e0 (g := (mkF m 11 #[.val (.long p0), .second, .val (.long p1), .second, .val (.long p2), .second, .val (.long p3), .second, .val (.int p4), .val (.int p5), .val (.int d10), .unset, .unset, .unset, .unset, .unset] [])) rfl (hb hby at_11) (by decide) (by decide)
  obtain ⟨b109, g109⟩ : ∃ z, z = h0.size := ⟨_, rfl⟩
  rw [← g109] at A109 D109 st109
  refine own_pre st109 ?_
  have f110 := Sd.ext E109
  have L111 : n0 ≤ b109 := Nat.le_trans Z0 (Nat.le_of_eq g109.symm)
  have Zn112 : n0 ≤ h109.size := Nat.le_trans Z0 E109.1
  have f113 : Fld Z h109 b109 "java/util/AbstractList" "modCount" "I" (.int (0 : Int32)) := D109 (Or.inl (hw _ (List.mem_of_getElem? (i := 23) rfl))) (ty := .int) (by decide)
  have f114 : Fld Z h109 b109 "java/util/ArrayList" "elementData" "[Ljava/lang/Object;" .null := D109 (Or.inl (hw _ (List.mem_of_getElem? (i := 26) rfl))) (ty := (.array (.object "java/lang/Object"))) (by decide)
  show own_Ends _ _ _ _ (T109.setTop (mkF m 14 #[.val (.long p0), .second, .val (.long p1), .second, .val (.long p2), .second, .val (.long p3), .second, .val (.int p4), .val (.int p5), .val (.int d10), .unset, .unset, .unset, .unset, .unset] [(.ref b109)]))
  refine own_pre (fun t k => XS.dup X109.here hx rfl (hb hby at_14) rfl rfl k) ?_
  show own_Ends _ _ _ _ (T109.setTop (mkF m 15 #[.val (.long p0), .second, .val (.long p1), .second, .val (.long p2), .second, .val (.long p3), .second, .val (.int p4), .val (.int p5), .val (.int d10), .unset, .unset, .unset, .unset, .unset] [(.ref b109), (.ref b109)]))
  obtain ⟨_, _, ⟨T115, L115, k115, n115⟩, -, X115, ⟨Lc115, hQ115, l115, y115, z115⟩, st115⟩ := X109.specialBack hx (y := (⟨"java/util/ArrayList", "<init>", "()V"⟩ : MethodName)) rfl hown (mvT hZ (hw _ (List.mem_of_getElem? (i := 4) rfl))) (mvT hZ (hw _ (List.mem_of_getElem? (i := 5) rfl))) (mvT hZ (hw _ (List.mem_of_getElem? (i := 6) rfl))) (by decide) (backOf (W := 1) (rm3 l Z a0 hw [] b109 wd h109 n0 Zn112 A109 L111 f113 f114 f110) hZ (hw _ (List.mem_of_getElem? (i := 6) rfl)) (hw _ (List.mem_of_getElem? (i := 3) rfl)) (by decide) (by decide)) (g := (mkF m 15 #[.val (.long p0), .second, .val (.long p1), .second, .val (.long p2), .second, .val (.long p3), .second, .val (.int p4), .val (.int p5), .val (.int d10), .unset, .unset, .unset, .unset, .unset] [(.ref b109), (.ref b109)])) rfl (by rw [hml]; rfl) (Steps.refl _) (a := b109) (argsL := []) (rest := [(.ref b109)]) (lenOf own_pd0 rfl) rfl (by show 2 * 0 + _ ≤ _; exact Nat.le_of_eq rfl) (hb hby at_15) (fun _ _ => ⟨rfl, e109, (by decide : 1 + 0 ≤ _), (by decide : 3 + 0 ≤ _)⟩)
  dsimp only [Pt.U, Pt.locs, Pt.cells, Pt.slots] at X115 l115 y115 z115 st115 hQ115
  subst l115 y115 z115
  obtain ⟨rfl, Nq115, Kq115, f116, f117⟩ := hQ115
  have N115 := Fr.app N0 Nq115
  have f118 := own_staK f110 Kq115 A109
  have f119 := A109.keep Kq115
  have Zn115 : n0 ≤ T115.heap.size := Nat.le_trans Zn112 Kq115.1
  refine own_pre (fun t k => st115.trans k) ?_
  show own_Ends _ _ _ _ (T115.setTop (mkF m 18 #[.val (.long p0), .second, .val (.long p1), .second, .val (.long p2), .second, .val (.long p3), .second, .val (.int p4), .val (.int p5), .val (.int d10), .unset, .unset, .unset, .unset, .unset] [(.ref b109)]))
  refine own_pre (fun t k => XS.astore X115.here hx rfl (hb hby at_18) rfl rfl (l' := #[.val (.long p0), .second, .val (.long p1), .second, .val (.long p2), .second, .val (.long p3), .second, .val (.int p4), .val (.int p5), .val (.int d10), .val (.ref b109), .unset, .unset, .unset, .unset]) rfl k) ?_
  show own_Ends _ _ _ _ (T115.setTop (mkF m 20 #[.val (.long p0), .second, .val (.long p1), .second, .val (.long p2), .second, .val (.long p3), .second, .val (.int p4), .val (.int p5), .val (.int d10), .val (.ref b109), .unset, .unset, .unset, .unset] []))
  obtain ⟨T120, h120, X120, e120, E120, A120, D120, -, st120⟩ := newO X115 hx hZ hown (hw _ (List.mem_of_getElem? (i := 27) rfl)) (hw _ (List.mem_of_getElem? (i := 28) rfl)) (hw _ (List.mem_of_getElem? (i := 29) rfl)) rfl (g := (mkF m 20 #[.val (.long p0), .second, .val (.long p1), .second, .val (.long p2), .second, .val (.long p3), .second, .val (.int p4), .val (.int p5), .val (.int d10), .val (.ref b109), .unset, .unset, .unset, .unset] [])) rfl (hb hby at_20) (by decide) (by decide)
  obtain ⟨b120, g120⟩ : ∃ z, z = T115.heap.size := ⟨_, rfl⟩
  rw [← g120] at A120 D120 st120
  refine own_pre st120 ?_
  have ne121 : b109 ≠ b120 := Nat.ne_of_lt (Nat.lt_of_lt_of_le f119.lt (Nat.le_of_eq g120.symm))
  have f122 := f118.ext E120
  have f123 := f119.ext E120
  have f124 := f116.ext E120
  have f125 := f117.ext E120
  have L126 : n0 ≤ b120 := Nat.le_trans Zn115 (Nat.le_of_eq g120.symm)
  have Zn127 : n0 ≤ h120.size := Nat.le_trans Zn115 E120.1
  have f128 : Fld Z h120 b120 "com/example/settlepath/settlepath/store/CheckpointFiles$Mark" "segment" "J" (.long (0 : Int64)) := D120 (Or.inr (hw _ (List.mem_of_getElem? (i := 40) rfl))) (ty := .long) (by decide)
  have f129 : Fld Z h120 b120 "com/example/settlepath/settlepath/store/CheckpointFiles$Mark" "historyBytes" "J" (.long (0 : Int64)) := D120 (Or.inr (hw _ (List.mem_of_getElem? (i := 42) rfl))) (ty := .long) (by decide)
  have f130 : Fld Z h120 b120 "com/example/settlepath/settlepath/store/CheckpointFiles$Mark" "paymentsBytes" "J" (.long (0 : Int64)) := D120 (Or.inr (hw _ (List.mem_of_getElem? (i := 44) rfl))) (ty := .long) (by decide)
  have f131 : Fld Z h120 b120 "com/example/settlepath/settlepath/store/CheckpointFiles$Mark" "runs" "Ljava/util/List;" .null := D120 (Or.inr (hw _ (List.mem_of_getElem? (i := 46) rfl))) (ty := (.object "java/util/List")) (by decide)
  have f132 : Fld Z h120 b120 "com/example/settlepath/settlepath/store/CheckpointFiles$Mark" "records" "J" (.long (0 : Int64)) := D120 (Or.inr (hw _ (List.mem_of_getElem? (i := 48) rfl))) (ty := .long) (by decide)
  have f133 : Fld Z h120 b120 "com/example/settlepath/settlepath/store/CheckpointFiles$Mark" "bytes" "J" (.long (0 : Int64)) := D120 (Or.inr (hw _ (List.mem_of_getElem? (i := 50) rfl))) (ty := .long) (by decide)
  have f134 : Fld Z h120 b120 "com/example/settlepath/settlepath/store/CheckpointFiles$Mark" "format" "I" (.int (0 : Int32)) := D120 (Or.inr (hw _ (List.mem_of_getElem? (i := 52) rfl))) (ty := .int) (by decide)
  show own_Ends _ _ _ _ (T120.setTop (mkF m 23 #[.val (.long p0), .second, .val (.long p1), .second, .val (.long p2), .second, .val (.long p3), .second, .val (.int p4), .val (.int p5), .val (.int d10), .val (.ref b109), .unset, .unset, .unset, .unset] [(.ref b120)]))
  refine own_pre (fun t k => XS.dup X120.here hx rfl (hb hby at_23) rfl rfl k) ?_
  show own_Ends _ _ _ _ (T120.setTop (mkF m 24 #[.val (.long p0), .second, .val (.long p1), .second, .val (.long p2), .second, .val (.long p3), .second, .val (.int p4), .val (.int p5), .val (.int d10), .val (.ref b109), .unset, .unset, .unset, .unset] [(.ref b120), (.ref b120)]))
  refine own_pre (fun t k => XS.lloadN X120.here hx rfl (hb hby at_24) rfl k) ?_
  show own_Ends _ _ _ _ (T120.setTop (mkF m 25 #[.val (.long p0), .second, .val (.long p1), .second, .val (.long p2), .second, .val (.long p3), .second, .val (.int p4), .val (.int p5), .val (.int d10), .val (.ref b109), .unset, .unset, .unset, .unset] [(.long p0), (.ref b120), (.ref b120)]))
  refine own_pre (fun t k => XS.lloadN X120.here hx rfl (hb hby at_25) rfl k) ?_
  show own_Ends _ _ _ _ (T120.setTop (mkF m 26 #[.val (.long p0), .second, .val (.long p1), .second, .val (.long p2), .second, .val (.long p3), .second, .val (.int p4), .val (.int p5), .val (.int d10), .val (.ref b109), .unset, .unset, .unset, .unset] [(.long p1), (.long p0), (.ref b120), (.ref b120)]))
  refine own_pre (fun t k => XS.lload X120.here hx rfl (hb hby at_26) rfl k) ?_
  show own_Ends _ _ _ _ (T120.setTop (mkF m 28 #[.val (.long p0), .second, .val (.long p1), .second, .val (.long p2), .second, .val (.long p3), .second, .val (.int p4), .val (.int p5), .val (.int d10), .val (.ref b109), .unset, .unset, .unset, .unset] [(.long p2), (.long p1), (.long p0), (.ref b120), (.ref b120)]))
  refine own_pre (fun t k => XS.aload X120.here hx rfl (hb hby at_28) rfl rfl k) ?_
  show own_Ends _ _ _ _ (T120.setTop (mkF m 30 #[.val (.long p0), .second, .val (.long p1), .second, .val (.long p2), .second, .val (.long p3), .second, .val (.int p4), .val (.int p5), .val (.int d10), .val (.ref b109), .unset, .unset, .unset, .unset] [(.ref b109), (.long p2), (.long p1), (.long p0), (.ref b120), (.ref b120)]))
  refine own_pre (fun t k => XS.lload X120.here hx rfl (hb hby at_30) rfl k) ?_
  show own_Ends _ _ _ _ (T120.setTop (mkF m 32 #[.val (.long p0), .second, .val (.long p1), .second, .val (.long p2), .second, .val (.long p3), .second, .val (.int p4), .val (.int p5), .val (.int d10), .val (.ref b109), .unset, .unset, .unset, .unset] [(.long p3), (.ref b109), (.long p2), (.long p1), (.long p0), (.ref b120), (.ref b120)]))
  refine own_pre (fun t k => XS.lloadN X120.here hx rfl (hb hby at_32) rfl k) ?_
  show own_Ends _ _ _ _ (T120.setTop (mkF m 33 #[.val (.long p0), .second, .val (.long p1), .second, .val (.long p2), .second, .val (.long p3), .second, .val (.int p4), .val (.int p5), .val (.int d10), .val (.ref b109), .unset, .unset, .unset, .unset] [(.long p1), (.long p3), (.ref b109), (.long p2), (.long p1), (.long p0), (.ref b120), (.ref b120)]))
  refine own_pre (fun t k => XS.lload X120.here hx rfl (hb hby at_33) rfl k) ?_
  show own_Ends _ _ _ _ (T120.setTop (mkF m 35 #[.val (.long p0), .second, .val (.long p1), .second, .val (.long p2), .second, .val (.long p3), .second, .val (.int p4), .val (.int p5), .val (.int d10), .val (.ref b109), .unset, .unset, .unset, .unset] [(.long p3), (.long p1), (.long p3), (.ref b109), (.long p2), (.long p1), (.long p0), (.ref b120), (.ref b120)]))
  refine own_pre (fun t k => XS.lxor X120.here hx rfl (hb hby at_35) rfl k) ?_
  show own_Ends _ _ _ _ (T120.setTop (mkF m 36 #[.val (.long p0), .second, .val (.long p1), .second, .val (.long p2), .second, .val (.long p3), .second, .val (.int p4), .val (.int p5), .val (.int d10), .val (.ref b109), .unset, .unset, .unset, .unset] [(.long (p1 ^^^ p3)), (.long p3), (.ref b109), (.long p2), (.long p1), (.long p0), (.ref b120), (.ref b120)]))
  refine own_pre (fun t k => XS.iload X120.here hx rfl (hb hby at_36) rfl k) ?_
  show own_Ends _ _ _ _ (T120.setTop (mkF m 38 #[.val (.long p0), .second, .val (.long p1), .second, .val (.long p2), .second, .val (.long p3), .second, .val (.int p4), .val (.int p5), .val (.int d10), .val (.ref b109), .unset, .unset, .unset, .unset] [(.int d10), (.long (p1 ^^^ p3)), (.long p3), (.ref b109), (.long p2), (.long p1), (.long p0), (.ref b120), (.ref b120)]))
  obtain ⟨_, _, ⟨T135, L135, k135, n135⟩, -, X135, ⟨Lc135, hQ135, l135, y135, z135⟩, st135⟩ := X120.specialBack hx (y := (⟨"com/example/settlepath/settlepath/store/CheckpointFiles$Mark", "<init>", "(JJJLjava/util/List;JJI)V"⟩ : MethodName)) rfl hown (mvT hZ (hw _ (List.mem_of_getElem? (i := 30) rfl))) (mvT hZ (hw _ (List.mem_of_getElem? (i := 31) rfl))) (mvT hZ (hw _ (List.mem_of_getElem? (i := 32) rfl))) (by decide) (backOf (W := 1) (rm5 l Z a0 hw [] b120 p0 p1 p2 b109 p3 (p1 ^^^ p3) d10 h120 n0 Zn127 A120 L126 f128 f129 f130 f131 f132 f133 f134) hZ (hw _ (List.mem_of_getElem? (i := 32) rfl)) (hw _ (List.mem_of_getElem? (i := 29) rfl)) (by decide) (by decide)) (g := (mkF m 38 #[.val (.long p0), .second, .val (.long p1), .second, .val (.long p2), .second, .val (.long p3), .second, .val (.int p4), .val (.int p5), .val (.int d10), .val (.ref b109), .unset, .unset, .unset, .unset] [(.int d10), (.long (p1 ^^^ p3)), (.long p3), (.ref b109), (.long p2), (.long p1), (.long p0), (.ref b120), (.ref b120)])) rfl (by rw [hml]; rfl) (Steps.refl _) (a := b120) (argsL := [(.long p0), (.long p1), (.long p2), (.ref b109), (.long p3), (.long (p1 ^^^ p3)), (.int d10)]) (rest := [(.ref b120)]) (lenOf own_pd1 rfl) rfl (by show 2 * 0 + _ ≤ _; exact Nat.le_of_eq rfl) (hb hby at_38) (fun _ _ => ⟨rfl, e120, (by decide : 2 + 0 ≤ _), (by decide : 10 + 0 ≤ _)⟩)
  dsimp only [Pt.U, Pt.locs, Pt.cells, Pt.slots] at X135 l135 y135 z135 st135 hQ135
  subst l135 y135 z135
  obtain ⟨rfl, Nq135, Kq135, f136, f137, f138, f139, f140, f141, f142⟩ := hQ135
  have N135 := Fr.app N115 Nq135
  have f143 := own_staK f122 Kq135 A120
  have f144 := f123.keep Kq135
  have f145 := f124.keep Kq135 (ninS ne121 nin0)
  have f146 := f125.keep Kq135 (ninS ne121 nin0)
  have f147 := A120.keep Kq135
  have Zn135 : n0 ≤ T135.heap.size := Nat.le_trans Zn127 Kq135.1
  refine own_pre (fun t k => st135.trans k) ?_
  show own_Ends _ _ _ _ (T135.setTop (mkF m 41 #[.val (.long p0), .second, .val (.long p1), .second, .val (.long p2), .second, .val (.long p3), .second, .val (.int p4), .val (.int p5), .val (.int d10), .val (.ref b109), .unset, .unset, .unset, .unset] [(.ref b120)]))
  refine own_pre (fun t k => XS.astore X135.here hx rfl (hb hby at_41) rfl rfl (l' := #[.val (.long p0), .second, .val (.long p1), .second, .val (.long p2), .second, .val (.long p3), .second, .val (.int p4), .val (.int p5), .val (.int d10), .val (.ref b109), .val (.ref b120), .unset, .unset, .unset]) rfl k) ?_
  show own_Ends _ _ _ _ (T135.setTop (mkF m 43 #[.val (.long p0), .second, .val (.long p1), .second, .val (.long p2), .second, .val (.long p3), .second, .val (.int p4), .val (.int p5), .val (.int d10), .val (.ref b109), .val (.ref b120), .unset, .unset, .unset] []))
  obtain ⟨T148, h148, X148, e148, E148, A148, D148, -, st148⟩ := newO X135 hx hZ hown (hw _ (List.mem_of_getElem? (i := 27) rfl)) (hw _ (List.mem_of_getElem? (i := 28) rfl)) (hw _ (List.mem_of_getElem? (i := 29) rfl)) rfl (g := (mkF m 43 #[.val (.long p0), .second, .val (.long p1), .second, .val (.long p2), .second, .val (.long p3), .second, .val (.int p4), .val (.int p5), .val (.int d10), .val (.ref b109), .val (.ref b120), .unset, .unset, .unset] [])) rfl (hb hby at_43) (by decide) (by decide)
  obtain ⟨b148, g148⟩ : ∃ z, z = T135.heap.size := ⟨_, rfl⟩
  rw [← g148] at A148 D148 st148
  refine own_pre st148 ?_
  have ne149 : b109 ≠ b148 := Nat.ne_of_lt (Nat.lt_of_lt_of_le f144.lt (Nat.le_of_eq g148.symm))
  have ne150 : b120 ≠ b148 := Nat.ne_of_lt (Nat.lt_of_lt_of_le f147.lt (Nat.le_of_eq g148.symm))
  have f151 := f143.ext E148
  have f152 := f144.ext E148
  have f153 := f145.ext E148
  have f154 := f146.ext E148
  have f155 := f147.ext E148
  have f156 := f136.ext E148
  have f157 := f137.ext E148
  have f158 := f138.ext E148
  have f159 := f139.ext E148
  have f160 := f140.ext E148
  have f161 := f141.ext E148
  have f162 := f142.ext E148
  have L163 : n0 ≤ b148 := Nat.le_trans Zn135 (Nat.le_of_eq g148.symm)
  have Zn164 : n0 ≤ h148.size := Nat.le_trans Zn135 E148.1
  have f165 : Fld Z h148 b148 "com/example/settlepath/settlepath/store/CheckpointFiles$Mark" "segment" "J" (.long (0 : Int64)) := D148 (Or.inr (hw _ (List.mem_of_getElem? (i := 40) rfl))) (ty := .long) (by decide)
  have f166 : Fld Z h148 b148 "com/example/settlepath/settlepath/store/CheckpointFiles$Mark" "historyBytes" "J" (.long (0 : Int64)) := D148 (Or.inr (hw _ (List.mem_of_getElem? (i := 42) rfl))) (ty := .long) (by decide)
  have f167 : Fld Z h148 b148 "com/example/settlepath/settlepath/store/CheckpointFiles$Mark" "paymentsBytes" "J" (.long (0 : Int64)) := D148 (Or.inr (hw _ (List.mem_of_getElem? (i := 44) rfl))) (ty := .long) (by decide)
  have f168 : Fld Z h148 b148 "com/example/settlepath/settlepath/store/CheckpointFiles$Mark" "runs" "Ljava/util/List;" .null := D148 (Or.inr (hw _ (List.mem_of_getElem? (i := 46) rfl))) (ty := (.object "java/util/List")) (by decide)
  have f169 : Fld Z h148 b148 "com/example/settlepath/settlepath/store/CheckpointFiles$Mark" "records" "J" (.long (0 : Int64)) := D148 (Or.inr (hw _ (List.mem_of_getElem? (i := 48) rfl))) (ty := .long) (by decide)
  have f170 : Fld Z h148 b148 "com/example/settlepath/settlepath/store/CheckpointFiles$Mark" "bytes" "J" (.long (0 : Int64)) := D148 (Or.inr (hw _ (List.mem_of_getElem? (i := 50) rfl))) (ty := .long) (by decide)
  have f171 : Fld Z h148 b148 "com/example/settlepath/settlepath/store/CheckpointFiles$Mark" "format" "I" (.int (0 : Int32)) := D148 (Or.inr (hw _ (List.mem_of_getElem? (i := 52) rfl))) (ty := .int) (by decide)
  show own_Ends _ _ _ _ (T148.setTop (mkF m 46 #[.val (.long p0), .second, .val (.long p1), .second, .val (.long p2), .second, .val (.long p3), .second, .val (.int p4), .val (.int p5), .val (.int d10), .val (.ref b109), .val (.ref b120), .unset, .unset, .unset] [(.ref b148)]))
  refine own_pre (fun t k => XS.dup X148.here hx rfl (hb hby at_46) rfl rfl k) ?_
  show own_Ends _ _ _ _ (T148.setTop (mkF m 47 #[.val (.long p0), .second, .val (.long p1), .second, .val (.long p2), .second, .val (.long p3), .second, .val (.int p4), .val (.int p5), .val (.int d10), .val (.ref b109), .val (.ref b120), .unset, .unset, .unset] [(.ref b148), (.ref b148)]))
  refine own_pre (fun t k => XS.lload X148.here hx rfl (hb hby at_47) rfl k) ?_
  show own_Ends _ _ _ _ (T148.setTop (mkF m 49 #[.val (.long p0), .second, .val (.long p1), .second, .val (.long p2), .second, .val (.long p3), .second, .val (.int p4), .val (.int p5), .val (.int d10), .val (.ref b109), .val (.ref b120), .unset, .unset, .unset] [(.long p3), (.ref b148), (.ref b148)]))
  refine own_pre (fun t k => XS.lload X148.here hx rfl (hb hby at_49) rfl k) ?_
  show own_Ends _ _ _ _ (T148.setTop (mkF m 51 #[.val (.long p0), .second, .val (.long p1), .second, .val (.long p2), .second, .val (.long p3), .second, .val (.int p4), .val (.int p5), .val (.int d10), .val (.ref b109), .val (.ref b120), .unset, .unset, .unset] [(.long p2), (.long p3), (.ref b148), (.ref b148)]))
  refine own_pre (fun t k => XS.lloadN X148.here hx rfl (hb hby at_51) rfl k) ?_
  show own_Ends _ _ _ _ (T148.setTop (mkF m 52 #[.val (.long p0), .second, .val (.long p1), .second, .val (.long p2), .second, .val (.long p3), .second, .val (.int p4), .val (.int p5), .val (.int d10), .val (.ref b109), .val (.ref b120), .unset, .unset, .unset] [(.long p0), (.long p2), (.long p3), (.ref b148), (.ref b148)]))
  refine own_pre (fun t k => XS.aload X148.here hx rfl (hb hby at_52) rfl rfl k) ?_
  show own_Ends _ _ _ _ (T148.setTop (mkF m 54 #[.val (.long p0), .second, .val (.long p1), .second, .val (.long p2), .second, .val (.long p3), .second, .val (.int p4), .val (.int p5), .val (.int d10), .val (.ref b109), .val (.ref b120), .unset, .unset, .unset] [(.ref b109), (.long p0), (.long p2), (.long p3), (.ref b148), (.ref b148)]))
  refine own_pre (fun t k => XS.lloadN X148.here hx rfl (hb hby at_54) rfl k) ?_
  show own_Ends _ _ _ _ (T148.setTop (mkF m 55 #[.val (.long p0), .second, .val (.long p1), .second, .val (.long p2), .second, .val (.long p3), .second, .val (.int p4), .val (.int p5), .val (.int d10), .val (.ref b109), .val (.ref b120), .unset, .unset, .unset] [(.long p1), (.ref b109), (.long p0), (.long p2), (.long p3), (.ref b148), (.ref b148)]))
  refine own_pre (fun t k => XS.lloadN X148.here hx rfl (hb hby at_55) rfl k) ?_
  show own_Ends _ _ _ _ (T148.setTop (mkF m 56 #[.val (.long p0), .second, .val (.long p1), .second, .val (.long p2), .second, .val (.long p3), .second, .val (.int p4), .val (.int p5), .val (.int d10), .val (.ref b109), .val (.ref b120), .unset, .unset, .unset] [(.long p0), (.long p1), (.ref b109), (.long p0), (.long p2), (.long p3), (.ref b148), (.ref b148)]))
  refine own_pre (fun t k => XS.lload X148.here hx rfl (hb hby at_56) rfl k) ?_
  show own_Ends _ _ _ _ (T148.setTop (mkF m 58 #[.val (.long p0), .second, .val (.long p1), .second, .val (.long p2), .second, .val (.long p3), .second, .val (.int p4), .val (.int p5), .val (.int d10), .val (.ref b109), .val (.ref b120), .unset, .unset, .unset] [(.long p2), (.long p0), (.long p1), (.ref b109), (.long p0), (.long p2), (.long p3), (.ref b148), (.ref b148)]))
  refine own_pre (fun t k => XS.lxor X148.here hx rfl (hb hby at_58) rfl k) ?_
  show own_Ends _ _ _ _ (T148.setTop (mkF m 59 #[.val (.long p0), .second, .val (.long p1), .second, .val (.long p2), .second, .val (.long p3), .second, .val (.int p4), .val (.int p5), .val (.int d10), .val (.ref b109), .val (.ref b120), .unset, .unset, .unset] [(.long (p0 ^^^ p2)), (.long p1), (.ref b109), (.long p0), (.long p2), (.long p3), (.ref b148), (.ref b148)]))
  refine own_pre (fun t k => XS.iload X148.here hx rfl (hb hby at_59) rfl k) ?_
  show own_Ends _ _ _ _ (T148.setTop (mkF m 61 #[.val (.long p0), .second, .val (.long p1), .second, .val (.long p2), .second, .val (.long p3), .second, .val (.int p4), .val (.int p5), .val (.int d10), .val (.ref b109), .val (.ref b120), .unset, .unset, .unset] [(.int p5), (.long (p0 ^^^ p2)), (.long p1), (.ref b109), (.long p0), (.long p2), (.long p3), (.ref b148), (.ref b148)]))
  obtain ⟨_, _, ⟨T172, L172, k172, n172⟩, -, X172, ⟨Lc172, hQ172, l172, y172, z172⟩, st172⟩ := X148.specialBack hx (y := (⟨"com/example/settlepath/settlepath/store/CheckpointFiles$Mark", "<init>", "(JJJLjava/util/List;JJI)V"⟩ : MethodName)) rfl hown (mvT hZ (hw _ (List.mem_of_getElem? (i := 30) rfl))) (mvT hZ (hw _ (List.mem_of_getElem? (i := 31) rfl))) (mvT hZ (hw _ (List.mem_of_getElem? (i := 32) rfl))) (by decide) (backOf (W := 1) (rm5 l Z a0 hw [] b148 p3 p2 p0 b109 p1 (p0 ^^^ p2) p5 h148 n0 Zn164 A148 L163 f165 f166 f167 f168 f169 f170 f171) hZ (hw _ (List.mem_of_getElem? (i := 32) rfl)) (hw _ (List.mem_of_getElem? (i := 29) rfl)) (by decide) (by decide)) (g := (mkF m 61 #[.val (.long p0), .second, .val (.long p1), .second, .val (.long p2), .second, .val (.long p3), .second, .val (.int p4), .val (.int p5), .val (.int d10), .val (.ref b109), .val (.ref b120), .unset, .unset, .unset] [(.int p5), (.long (p0 ^^^ p2)), (.long p1), (.ref b109), (.long p0), (.long p2), (.long p3), (.ref b148), (.ref b148)])) rfl (by rw [hml]; rfl) (Steps.refl _) (a := b148) (argsL := [(.long p3), (.long p2), (.long p0), (.ref b109), (.long p1), (.long (p0 ^^^ p2)), (.int p5)]) (rest := [(.ref b148)]) (lenOf own_pd1 rfl) rfl (by show 2 * 0 + _ ≤ _; exact Nat.le_of_eq rfl) (hb hby at_61) (fun _ _ => ⟨rfl, e148, (by decide : 3 + 0 ≤ _), (by decide : 17 + 0 ≤ _)⟩)
  dsimp only [Pt.U, Pt.locs, Pt.cells, Pt.slots] at X172 l172 y172 z172 st172 hQ172
  subst l172 y172 z172
  obtain ⟨rfl, Nq172, Kq172, f173, f174, f175, f176, f177, f178, f179⟩ := hQ172
  have N172 := Fr.app N135 Nq172
  have f180 := own_staK f151 Kq172 A148
  have f181 := f152.keep Kq172
  have f182 := f153.keep Kq172 (ninS ne149 nin0)
  have f183 := f154.keep Kq172 (ninS ne149 nin0)
  have f184 := f155.keep Kq172
  have f185 := f156.keep Kq172 (ninS ne150 nin0)
  have f186 := f157.keep Kq172 (ninS ne150 nin0)
  have f187 := f158.keep Kq172 (ninS ne150 nin0)
  have f188 := f159.keep Kq172 (ninS ne150 nin0)
  have f189 := f160.keep Kq172 (ninS ne150 nin0)
  have f190 := f161.keep Kq172 (ninS ne150 nin0)
  have f191 := f162.keep Kq172 (ninS ne150 nin0)
  have f192 := A148.keep Kq172
  have Zn172 : n0 ≤ T172.heap.size := Nat.le_trans Zn164 Kq172.1
  refine own_pre (fun t k => st172.trans k) ?_
  show own_Ends _ _ _ _ (T172.setTop (mkF m 64 #[.val (.long p0), .second, .val (.long p1), .second, .val (.long p2), .second, .val (.long p3), .second, .val (.int p4), .val (.int p5), .val (.int d10), .val (.ref b109), .val (.ref b120), .unset, .unset, .unset] [(.ref b148)]))
  refine own_pre (fun t k => XS.astore X172.here hx rfl (hb hby at_64) rfl rfl (l' := #[.val (.long p0), .second, .val (.long p1), .second, .val (.long p2), .second, .val (.long p3), .second, .val (.int p4), .val (.int p5), .val (.int d10), .val (.ref b109), .val (.ref b120), .val (.ref b148), .unset, .unset]) rfl k) ?_
  show own_Ends _ _ _ _ (T172.setTop (mkF m 66 #[.val (.long p0), .second, .val (.long p1), .second, .val (.long p2), .second, .val (.long p3), .second, .val (.int p4), .val (.int p5), .val (.int d10), .val (.ref b109), .val (.ref b120), .val (.ref b148), .unset, .unset] []))
  refine own_pre (fun t k => XS.aload X172.here hx rfl (hb hby at_66) rfl rfl k) ?_
  show own_Ends _ _ _ _ (T172.setTop (mkF m 68 #[.val (.long p0), .second, .val (.long p1), .second, .val (.long p2), .second, .val (.long p3), .second, .val (.int p4), .val (.int p5), .val (.int d10), .val (.ref b109), .val (.ref b120), .val (.ref b148), .unset, .unset] [(.ref b120)]))
  obtain ⟨cq193, kq193, q193a, q193b, q193c⟩ := isOf hZ rfl f184
  obtain ⟨_, _, ⟨T193, L193, k193, n193⟩, -, X193, ⟨Lc193, hQ193, l193, y193, z193⟩, st193⟩ := X172.virtualBack hx (y := (⟨"com/example/settlepath/settlepath/store/CheckpointFiles$Mark", "firstFormatFiltered", "()Z"⟩ : MethodName)) (z := (⟨"com/example/settlepath/settlepath/store/CheckpointFiles$Mark", "firstFormatFiltered", "()Z"⟩ : MethodName)) hown (mvT hZ (hw _ (List.mem_of_getElem? (i := 53) rfl))) (mvT hZ (hw _ (List.mem_of_getElem? (i := 54) rfl))) (notFace_of_selects (args := #[]) (mvT hZ (hw _ (List.mem_of_getElem? (i := 56) rfl)))) (mvT hZ (hw _ (List.mem_of_getElem? (i := 56) rfl))) (mvT hZ (hw _ (List.mem_of_getElem? (i := 55) rfl))) (by decide) (backOf (W := 0) (rm6 l Z a0 hw [] b120 d10 T172.heap n0 Zn172 f191) hZ (hw _ (List.mem_of_getElem? (i := 57) rfl)) (hw _ (List.mem_of_getElem? (i := 29) rfl)) (by decide) (by decide)) q193a q193c (g := (mkF m 68 #[.val (.long p0), .second, .val (.long p1), .second, .val (.long p2), .second, .val (.long p3), .second, .val (.int p4), .val (.int p5), .val (.int d10), .val (.ref b109), .val (.ref b120), .val (.ref b148), .unset, .unset] [(.ref b120)])) rfl (by rw [hml]; rfl) (Steps.refl _) (argsL := []) (rest := []) (lenOf own_pd2 rfl) rfl (by show 2 * 0 + _ ≤ _; exact Nat.le_of_eq rfl) (hb hby at_68) (fun _ _ => ⟨rfl, rfl, (by decide : 3 + 0 ≤ _), (by decide : 17 + 0 ≤ _)⟩)
  dsimp only [Pt.U, Pt.locs, Pt.cells, Pt.slots] at X193 l193 y193 z193 st193 hQ193
  subst l193 y193 z193
  obtain ⟨rfl, Nq193, e193⟩ := hQ193
  have N193 := Fr.app N172 Nq193
  refine own_pre (fun t k => st193.trans k) ?_
  show own_Ends _ _ _ _ (T193.setTop (mkF m 71 #[.val (.long p0), .second, .val (.long p1), .second, .val (.long p2), .second, .val (.long p3), .second, .val (.int p4), .val (.int p5), .val (.int d10), .val (.ref b109), .val (.ref b120), .val (.ref b148), .unset, .unset] [(.int (own_fff d10))]))
  refine own_pre (fun t k => XS.istore X193.here hx rfl (hb hby at_71) rfl (l' := #[.val (.long p0), .second, .val (.long p1), .second, .val (.long p2), .second, .val (.long p3), .second, .val (.int p4), .val (.int p5), .val (.int d10), .val (.ref b109), .val (.ref b120), .val (.ref b148), .val (.int (own_fff d10)), .unset]) rfl k) ?_
  show own_Ends _ _ _ _ (T193.setTop (mkF m 73 #[.val (.long p0), .second, .val (.long p1), .second, .val (.long p2), .second, .val (.long p3), .second, .val (.int p4), .val (.int p5), .val (.int d10), .val (.ref b109), .val (.ref b120), .val (.ref b148), .val (.int (own_fff d10)), .unset] []))
  refine own_pre (fun t k => XS.aload X193.here hx rfl (hb hby at_73) rfl rfl k) ?_
  show own_Ends _ _ _ _ (T193.setTop (mkF m 75 #[.val (.long p0), .second, .val (.long p1), .second, .val (.long p2), .second, .val (.long p3), .second, .val (.int p4), .val (.int p5), .val (.int d10), .val (.ref b109), .val (.ref b120), .val (.ref b148), .val (.int (own_fff d10)), .unset] [(.ref b148)]))
  obtain ⟨cq194, kq194, q194a, q194b, q194c⟩ := isOf hZ e193 f192
  obtain ⟨_, _, ⟨T194, L194, k194, n194⟩, -, X194, ⟨Lc194, hQ194, l194, y194, z194⟩, st194⟩ := X193.virtualBack hx (y := (⟨"com/example/settlepath/settlepath/store/CheckpointFiles$Mark", "firstFormatFiltered", "()Z"⟩ : MethodName)) (z := (⟨"com/example/settlepath/settlepath/store/CheckpointFiles$Mark", "firstFormatFiltered", "()Z"⟩ : MethodName)) hown (mvT hZ (hw _ (List.mem_of_getElem? (i := 53) rfl))) (mvT hZ (hw _ (List.mem_of_getElem? (i := 54) rfl))) (notFace_of_selects (args := #[]) (mvT hZ (hw _ (List.mem_of_getElem? (i := 56) rfl)))) (mvT hZ (hw _ (List.mem_of_getElem? (i := 56) rfl))) (mvT hZ (hw _ (List.mem_of_getElem? (i := 55) rfl))) (by decide) (backOf (W := 0) (rm6 l Z a0 hw [] b148 p5 T172.heap n0 Zn172 f179) hZ (hw _ (List.mem_of_getElem? (i := 57) rfl)) (hw _ (List.mem_of_getElem? (i := 29) rfl)) (by decide) (by decide)) q194a q194c (g := (mkF m 75 #[.val (.long p0), .second, .val (.long p1), .second, .val (.long p2), .second, .val (.long p3), .second, .val (.int p4), .val (.int p5), .val (.int d10), .val (.ref b109), .val (.ref b120), .val (.ref b148), .val (.int (own_fff d10)), .unset] [(.ref b148)])) rfl (by rw [hml]; rfl) (Steps.refl _) (argsL := []) (rest := []) (lenOf own_pd2 rfl) rfl (by show 2 * 0 + _ ≤ _; exact Nat.le_of_eq rfl) (hb hby at_75) (fun _ _ => ⟨rfl, e193, (by decide : 3 + 0 ≤ _), (by decide : 17 + 0 ≤ _)⟩)
  dsimp only [Pt.U, Pt.locs, Pt.cells, Pt.slots] at X194 l194 y194 z194 st194 hQ194
  subst l194 y194 z194
  obtain ⟨rfl, Nq194, e194⟩ := hQ194
  have N194 := Fr.app N193 Nq194
  refine own_pre (fun t k => st194.trans k) ?_
  show own_Ends _ _ _ _ (T194.setTop (mkF m 78 #[.val (.long p0), .second, .val (.long p1), .second, .val (.long p2), .second, .val (.long p3), .second, .val (.int p4), .val (.int p5), .val (.int d10), .val (.ref b109), .val (.ref b120), .val (.ref b148), .val (.int (own_fff d10)), .unset] [(.int (own_fff p5))]))
  refine own_pre (fun t k => XS.istore X194.here hx rfl (hb hby at_78) rfl (l' := #[.val (.long p0), .second, .val (.long p1), .second, .val (.long p2), .second, .val (.long p3), .second, .val (.int p4), .val (.int p5), .val (.int d10), .val (.ref b109), .val (.ref b120), .val (.ref b148), .val (.int (own_fff d10)), .val (.int (own_fff p5))]) rfl k) ?_
  show own_Ends _ _ _ _ (T194.setTop (mkF m 80 #[.val (.long p0), .second, .val (.long p1), .second, .val (.long p2), .second, .val (.long p3), .second, .val (.int p4), .val (.int p5), .val (.int d10), .val (.ref b109), .val (.ref b120), .val (.ref b148), .val (.int (own_fff d10)), .val (.int (own_fff p5))] []))
  refine own_pre (fun t k => XS.iload X194.here hx rfl (hb hby at_80) rfl k) ?_
  show own_Ends _ _ _ _ (T194.setTop (mkF m 82 #[.val (.long p0), .second, .val (.long p1), .second, .val (.long p2), .second, .val (.long p3), .second, .val (.int p4), .val (.int p5), .val (.int d10), .val (.ref b109), .val (.ref b120), .val (.ref b148), .val (.int (own_fff d10)), .val (.int (own_fff p5))] [(.int (own_fff d10))]))
  refine own_pre (fun t k => XS.iload X194.here hx rfl (hb hby at_82) rfl k) ?_
  show own_Ends _ _ _ _ (T194.setTop (mkF m 84 #[.val (.long p0), .second, .val (.long p1), .second, .val (.long p2), .second, .val (.long p3), .second, .val (.int p4), .val (.int p5), .val (.int d10), .val (.ref b109), .val (.ref b120), .val (.ref b148), .val (.int (own_fff d10)), .val (.int (own_fff p5))] [(.int d10), (.int (own_fff d10))]))
  obtain ⟨_, _, ⟨T195, L195, k195, n195⟩, -, X195, ⟨Lc195, hQ195, l195, y195, z195⟩, st195⟩ := Jvm.LawKit.callS X194 hx (y := (⟨"com/example/settlepath/settlepath/store/MarkFirstFormatFilteredPinLaw", "expected", "(I)Z"⟩ : MethodName)) hown (mvT hZ (hw _ (List.mem_of_getElem? (i := 58) rfl))) (mvT hZ (hw _ (List.mem_of_getElem? (i := 59) rfl))) (mvT hZ (hw _ (List.mem_of_getElem? (i := 60) rfl))) (mvT hZ (hw _ (List.mem_of_getElem? (i := 61) rfl))) (by decide) (backOf (W := 1) (rm7 l Z a0 hw [] d10 T172.heap n0 Zn172) hZ (hw _ (List.mem_of_getElem? (i := 61) rfl)) (hw _ (List.mem_of_getElem? (i := 60) rfl)) (by decide) (by decide)) (g := (mkF m 84 #[.val (.long p0), .second, .val (.long p1), .second, .val (.long p2), .second, .val (.long p3), .second, .val (.int p4), .val (.int p5), .val (.int d10), .val (.ref b109), .val (.ref b120), .val (.ref b148), .val (.int (own_fff d10)), .val (.int (own_fff p5))] [(.int d10), (.int (own_fff d10))])) rfl (by rw [hml]; rfl) (argsL := [(.int d10)]) (rest := [(.int (own_fff d10))]) (lenOf own_pd3 rfl) rfl (by show 2 * 0 + _ ≤ _; exact Nat.le_of_eq rfl) (hb hby at_84) (fun _ _ => ⟨rfl, e194, (by decide : 3 + 0 ≤ _), (by decide : 17 + 0 ≤ _)⟩)
  dsimp only [Pt.U, Pt.locs, Pt.cells, Pt.slots] at X195 l195 y195 z195 st195 hQ195
  subst l195 y195 z195
  obtain ⟨rfl, Nq195, e195⟩ := hQ195
  have N195 := Fr.app N194 Nq195
  refine own_pre st195 ?_
  show own_Ends _ _ _ _ (T195.setTop (mkF m 87 #[.val (.long p0), .second, .val (.long p1), .second, .val (.long p2), .second, .val (.long p3), .second, .val (.int p4), .val (.int p5), .val (.int d10), .val (.ref b109), .val (.ref b120), .val (.ref b148), .val (.int (own_fff d10)), .val (.int (own_fff p5))] [(.int (own_exp d10)), (.int (own_fff d10))]))
  refine own_pre (fun t k => XS.icmpYes X195.here hx rfl (pc0 := 87) (pc' := 92) rfl (hb hby at_87) rfl (teq (hd10 ▸ own_eq p4 : (own_fff d10) = (own_exp d10))).1 (by decide) (by decide) k) ?_
  show own_Ends _ _ _ _ (T195.setTop (mkF m 92 #[.val (.long p0), .second, .val (.long p1), .second, .val (.long p2), .second, .val (.long p3), .second, .val (.int p4), .val (.int p5), .val (.int d10), .val (.ref b109), .val (.ref b120), .val (.ref b148), .val (.int (own_fff d10)), .val (.int (own_fff p5))] []))
  refine own_pre (fun t k => XS.iload X195.here hx rfl (hb hby at_92) rfl k) ?_
  show own_Ends _ _ _ _ (T195.setTop (mkF m 94 #[.val (.long p0), .second, .val (.long p1), .second, .val (.long p2), .second, .val (.long p3), .second, .val (.int p4), .val (.int p5), .val (.int d10), .val (.ref b109), .val (.ref b120), .val (.ref b148), .val (.int (own_fff d10)), .val (.int (own_fff p5))] [(.int p5)]))
  refine own_pre (fun t k => XS.iload X195.here hx rfl (hb hby at_94) rfl k) ?_
  show own_Ends _ _ _ _ (T195.setTop (mkF m 96 #[.val (.long p0), .second, .val (.long p1), .second, .val (.long p2), .second, .val (.long p3), .second, .val (.int p4), .val (.int p5), .val (.int d10), .val (.ref b109), .val (.ref b120), .val (.ref b148), .val (.int (own_fff d10)), .val (.int (own_fff p5))] [(.int d10), (.int p5)]))
  by_cases hc196 : d10 < p5
  · skip
    refine own_pre (fun t k => XS.icmpYes X195.here hx rfl (pc0 := 96) (pc' := 111) rfl (hb hby at_96) rfl (tlt hc196).2.2.1 (by decide) (by decide) k) ?_
    show own_Ends _ _ _ _ (T195.setTop (mkF m 111 #[.val (.long p0), .second, .val (.long p1), .second, .val (.long p2), .second, .val (.long p3), .second, .val (.int p4), .val (.int p5), .val (.int d10), .val (.ref b109), .val (.ref b120), .val (.ref b148), .val (.int (own_fff d10)), .val (.int (own_fff p5))] []))
    refine own_pre (fun t k => XS.iload X195.here hx rfl (hb hby at_111) rfl k) ?_
    show own_Ends _ _ _ _ (T195.setTop (mkF m 113 #[.val (.long p0), .second, .val (.long p1), .second, .val (.long p2), .second, .val (.long p3), .second, .val (.int p4), .val (.int p5), .val (.int d10), .val (.ref b109), .val (.ref b120), .val (.ref b148), .val (.int (own_fff d10)), .val (.int (own_fff p5))] [(.int p5)]))
    refine own_pre (fun t k => XS.iload X195.here hx rfl (hb hby at_113) rfl k) ?_
    show own_Ends _ _ _ _ (T195.setTop (mkF m 115 #[.val (.long p0), .second, .val (.long p1), .second, .val (.long p2), .second, .val (.long p3), .second, .val (.int p4), .val (.int p5), .val (.int d10), .val (.ref b109), .val (.ref b120), .val (.ref b148), .val (.int (own_fff d10)), .val (.int (own_fff p5))] [(.int d10), (.int p5)]))
    by_cases hc197 : p5 < d10
    · skip
      refine own_pre (fun t k => XS.icmpYes X195.here hx rfl (pc0 := 115) (pc' := 130) rfl (hb hby at_115) rfl (tlt hc197).1 (by decide) (by decide) k) ?_
      show own_Ends _ _ _ _ (T195.setTop (mkF m 130 #[.val (.long p0), .second, .val (.long p1), .second, .val (.long p2), .second, .val (.long p3), .second, .val (.int p4), .val (.int p5), .val (.int d10), .val (.ref b109), .val (.ref b120), .val (.ref b148), .val (.int (own_fff d10)), .val (.int (own_fff p5))] []))
      refine own_pre (fun t k => XS.iconst X195.here hx rfl (hb hby at_130) k) ?_
      show own_Ends _ _ _ _ (T195.setTop (mkF m 131 #[.val (.long p0), .second, .val (.long p1), .second, .val (.long p2), .second, .val (.long p3), .second, .val (.int p4), .val (.int p5), .val (.int d10), .val (.ref b109), .val (.ref b120), .val (.ref b148), .val (.int (own_fff d10)), .val (.int (own_fff p5))] [(.int (1 : Int32))]))
      exact own_retN X195 hx (t := .boolean) Bd.returns (by simp) (hb hby at_131) hlk rfl e195 ⟨rfl, N195⟩ (by decide) (by decide)
    · skip
      refine own_pre (fun t k => XS.icmpNo X195.here hx rfl (hb hby at_115) rfl (flt hc197).1 k) ?_
      show own_Ends _ _ _ _ (T195.setTop (mkF m 118 #[.val (.long p0), .second, .val (.long p1), .second, .val (.long p2), .second, .val (.long p3), .second, .val (.int p4), .val (.int p5), .val (.int d10), .val (.ref b109), .val (.ref b120), .val (.ref b148), .val (.int (own_fff d10)), .val (.int (own_fff p5))] []))
      refine own_pre (fun t k => XS.iload X195.here hx rfl (hb hby at_118) rfl k) ?_
      show own_Ends _ _ _ _ (T195.setTop (mkF m 120 #[.val (.long p0), .second, .val (.long p1), .second, .val (.long p2), .second, .val (.long p3), .second, .val (.int p4), .val (.int p5), .val (.int d10), .val (.ref b109), .val (.ref b120), .val (.ref b148), .val (.int (own_fff d10)), .val (.int (own_fff p5))] [(.int (own_fff d10))]))
      by_cases hc198 : (own_fff d10) = (0 : Int32)
      · skip
        refine own_pre (fun t k => XS.ifYes X195.here hx rfl (pc0 := 120) (pc' := 130) rfl (hb hby at_120) rfl ((if0 _ _).trans (teq hc198).1) (by decide) (by decide) k) ?_
        show own_Ends _ _ _ _ (T195.setTop (mkF m 130 #[.val (.long p0), .second, .val (.long p1), .second, .val (.long p2), .second, .val (.long p3), .second, .val (.int p4), .val (.int p5), .val (.int d10), .val (.ref b109), .val (.ref b120), .val (.ref b148), .val (.int (own_fff d10)), .val (.int (own_fff p5))] []))
        refine own_pre (fun t k => XS.iconst X195.here hx rfl (hb hby at_130) k) ?_
        show own_Ends _ _ _ _ (T195.setTop (mkF m 131 #[.val (.long p0), .second, .val (.long p1), .second, .val (.long p2), .second, .val (.long p3), .second, .val (.int p4), .val (.int p5), .val (.int d10), .val (.ref b109), .val (.ref b120), .val (.ref b148), .val (.int (own_fff d10)), .val (.int (own_fff p5))] [(.int (1 : Int32))]))
        exact own_retN X195 hx (t := .boolean) Bd.returns (by simp) (hb hby at_131) hlk rfl e195 ⟨rfl, N195⟩ (by decide) (by decide)
      · skip
        refine own_pre (fun t k => XS.ifNo X195.here hx rfl (hb hby at_120) rfl ((if0 _ _).trans (feq hc198).1) k) ?_
        show own_Ends _ _ _ _ (T195.setTop (mkF m 123 #[.val (.long p0), .second, .val (.long p1), .second, .val (.long p2), .second, .val (.long p3), .second, .val (.int p4), .val (.int p5), .val (.int d10), .val (.ref b109), .val (.ref b120), .val (.ref b148), .val (.int (own_fff d10)), .val (.int (own_fff p5))] []))
        refine own_pre (fun t k => XS.iload X195.here hx rfl (hb hby at_123) rfl k) ?_
        show own_Ends _ _ _ _ (T195.setTop (mkF m 125 #[.val (.long p0), .second, .val (.long p1), .second, .val (.long p2), .second, .val (.long p3), .second, .val (.int p4), .val (.int p5), .val (.int d10), .val (.ref b109), .val (.ref b120), .val (.ref b148), .val (.int (own_fff d10)), .val (.int (own_fff p5))] [(.int (own_fff p5))]))
        refine own_pre (fun t k => XS.ifYes X195.here hx rfl (pc0 := 125) (pc' := 130) rfl (hb hby at_125) rfl ((if0 _ _).trans (feq (own_mono hc197 hc198 : ¬ ((own_fff p5) = (0 : Int32)))).2) (by decide) (by decide) k) ?_
        show own_Ends _ _ _ _ (T195.setTop (mkF m 130 #[.val (.long p0), .second, .val (.long p1), .second, .val (.long p2), .second, .val (.long p3), .second, .val (.int p4), .val (.int p5), .val (.int d10), .val (.ref b109), .val (.ref b120), .val (.ref b148), .val (.int (own_fff d10)), .val (.int (own_fff p5))] []))
        refine own_pre (fun t k => XS.iconst X195.here hx rfl (hb hby at_130) k) ?_
        show own_Ends _ _ _ _ (T195.setTop (mkF m 131 #[.val (.long p0), .second, .val (.long p1), .second, .val (.long p2), .second, .val (.long p3), .second, .val (.int p4), .val (.int p5), .val (.int d10), .val (.ref b109), .val (.ref b120), .val (.ref b148), .val (.int (own_fff d10)), .val (.int (own_fff p5))] [(.int (1 : Int32))]))
        exact own_retN X195 hx (t := .boolean) Bd.returns (by simp) (hb hby at_131) hlk rfl e195 ⟨rfl, N195⟩ (by decide) (by decide)
  · skip
    refine own_pre (fun t k => XS.icmpNo X195.here hx rfl (hb hby at_96) rfl (flt hc196).2.2.1 k) ?_
    show own_Ends _ _ _ _ (T195.setTop (mkF m 99 #[.val (.long p0), .second, .val (.long p1), .second, .val (.long p2), .second, .val (.long p3), .second, .val (.int p4), .val (.int p5), .val (.int d10), .val (.ref b109), .val (.ref b120), .val (.ref b148), .val (.int (own_fff d10)), .val (.int (own_fff p5))] []))
    refine own_pre (fun t k => XS.iload X195.here hx rfl (hb hby at_99) rfl k) ?_
    show own_Ends _ _ _ _ (T195.setTop (mkF m 101 #[.val (.long p0), .second, .val (.long p1), .second, .val (.long p2), .second, .val (.long p3), .second, .val (.int p4), .val (.int p5), .val (.int d10), .val (.ref b109), .val (.ref b120), .val (.ref b148), .val (.int (own_fff d10)), .val (.int (own_fff p5))] [(.int (own_fff p5))]))
    by_cases hc199 : (own_fff p5) = (0 : Int32)
    · skip
      refine own_pre (fun t k => XS.ifYes X195.here hx rfl (pc0 := 101) (pc' := 111) rfl (hb hby at_101) rfl ((if0 _ _).trans (teq hc199).1) (by decide) (by decide) k) ?_
      show own_Ends _ _ _ _ (T195.setTop (mkF m 111 #[.val (.long p0), .second, .val (.long p1), .second, .val (.long p2), .second, .val (.long p3), .second, .val (.int p4), .val (.int p5), .val (.int d10), .val (.ref b109), .val (.ref b120), .val (.ref b148), .val (.int (own_fff d10)), .val (.int (own_fff p5))] []))
      refine own_pre (fun t k => XS.iload X195.here hx rfl (hb hby at_111) rfl k) ?_
      show own_Ends _ _ _ _ (T195.setTop (mkF m 113 #[.val (.long p0), .second, .val (.long p1), .second, .val (.long p2), .second, .val (.long p3), .second, .val (.int p4), .val (.int p5), .val (.int d10), .val (.ref b109), .val (.ref b120), .val (.ref b148), .val (.int (own_fff d10)), .val (.int (own_fff p5))] [(.int p5)]))
      refine own_pre (fun t k => XS.iload X195.here hx rfl (hb hby at_113) rfl k) ?_
      show own_Ends _ _ _ _ (T195.setTop (mkF m 115 #[.val (.long p0), .second, .val (.long p1), .second, .val (.long p2), .second, .val (.long p3), .second, .val (.int p4), .val (.int p5), .val (.int d10), .val (.ref b109), .val (.ref b120), .val (.ref b148), .val (.int (own_fff d10)), .val (.int (own_fff p5))] [(.int d10), (.int p5)]))
      by_cases hc200 : p5 < d10
      · skip
        refine own_pre (fun t k => XS.icmpYes X195.here hx rfl (pc0 := 115) (pc' := 130) rfl (hb hby at_115) rfl (tlt hc200).1 (by decide) (by decide) k) ?_
        show own_Ends _ _ _ _ (T195.setTop (mkF m 130 #[.val (.long p0), .second, .val (.long p1), .second, .val (.long p2), .second, .val (.long p3), .second, .val (.int p4), .val (.int p5), .val (.int d10), .val (.ref b109), .val (.ref b120), .val (.ref b148), .val (.int (own_fff d10)), .val (.int (own_fff p5))] []))
        refine own_pre (fun t k => XS.iconst X195.here hx rfl (hb hby at_130) k) ?_
        show own_Ends _ _ _ _ (T195.setTop (mkF m 131 #[.val (.long p0), .second, .val (.long p1), .second, .val (.long p2), .second, .val (.long p3), .second, .val (.int p4), .val (.int p5), .val (.int d10), .val (.ref b109), .val (.ref b120), .val (.ref b148), .val (.int (own_fff d10)), .val (.int (own_fff p5))] [(.int (1 : Int32))]))
        exact own_retN X195 hx (t := .boolean) Bd.returns (by simp) (hb hby at_131) hlk rfl e195 ⟨rfl, N195⟩ (by decide) (by decide)
      · skip
        refine own_pre (fun t k => XS.icmpNo X195.here hx rfl (hb hby at_115) rfl (flt hc200).1 k) ?_
        show own_Ends _ _ _ _ (T195.setTop (mkF m 118 #[.val (.long p0), .second, .val (.long p1), .second, .val (.long p2), .second, .val (.long p3), .second, .val (.int p4), .val (.int p5), .val (.int d10), .val (.ref b109), .val (.ref b120), .val (.ref b148), .val (.int (own_fff d10)), .val (.int (own_fff p5))] []))
        refine own_pre (fun t k => XS.iload X195.here hx rfl (hb hby at_118) rfl k) ?_
        show own_Ends _ _ _ _ (T195.setTop (mkF m 120 #[.val (.long p0), .second, .val (.long p1), .second, .val (.long p2), .second, .val (.long p3), .second, .val (.int p4), .val (.int p5), .val (.int d10), .val (.ref b109), .val (.ref b120), .val (.ref b148), .val (.int (own_fff d10)), .val (.int (own_fff p5))] [(.int (own_fff d10))]))
        by_cases hc201 : (own_fff d10) = (0 : Int32)
        · skip
          refine own_pre (fun t k => XS.ifYes X195.here hx rfl (pc0 := 120) (pc' := 130) rfl (hb hby at_120) rfl ((if0 _ _).trans (teq hc201).1) (by decide) (by decide) k) ?_
          show own_Ends _ _ _ _ (T195.setTop (mkF m 130 #[.val (.long p0), .second, .val (.long p1), .second, .val (.long p2), .second, .val (.long p3), .second, .val (.int p4), .val (.int p5), .val (.int d10), .val (.ref b109), .val (.ref b120), .val (.ref b148), .val (.int (own_fff d10)), .val (.int (own_fff p5))] []))
          refine own_pre (fun t k => XS.iconst X195.here hx rfl (hb hby at_130) k) ?_
          show own_Ends _ _ _ _ (T195.setTop (mkF m 131 #[.val (.long p0), .second, .val (.long p1), .second, .val (.long p2), .second, .val (.long p3), .second, .val (.int p4), .val (.int p5), .val (.int d10), .val (.ref b109), .val (.ref b120), .val (.ref b148), .val (.int (own_fff d10)), .val (.int (own_fff p5))] [(.int (1 : Int32))]))
          exact own_retN X195 hx (t := .boolean) Bd.returns (by simp) (hb hby at_131) hlk rfl e195 ⟨rfl, N195⟩ (by decide) (by decide)
        · skip
          refine own_pre (fun t k => XS.ifNo X195.here hx rfl (hb hby at_120) rfl ((if0 _ _).trans (feq hc201).1) k) ?_
          show own_Ends _ _ _ _ (T195.setTop (mkF m 123 #[.val (.long p0), .second, .val (.long p1), .second, .val (.long p2), .second, .val (.long p3), .second, .val (.int p4), .val (.int p5), .val (.int d10), .val (.ref b109), .val (.ref b120), .val (.ref b148), .val (.int (own_fff d10)), .val (.int (own_fff p5))] []))
          refine own_pre (fun t k => XS.iload X195.here hx rfl (hb hby at_123) rfl k) ?_
          show own_Ends _ _ _ _ (T195.setTop (mkF m 125 #[.val (.long p0), .second, .val (.long p1), .second, .val (.long p2), .second, .val (.long p3), .second, .val (.int p4), .val (.int p5), .val (.int d10), .val (.ref b109), .val (.ref b120), .val (.ref b148), .val (.int (own_fff d10)), .val (.int (own_fff p5))] [(.int (own_fff p5))]))
          refine own_pre (fun t k => XS.ifYes X195.here hx rfl (pc0 := 125) (pc' := 130) rfl (hb hby at_125) rfl ((if0 _ _).trans (feq (own_mono hc200 hc201 : ¬ ((own_fff p5) = (0 : Int32)))).2) (by decide) (by decide) k) ?_
          show own_Ends _ _ _ _ (T195.setTop (mkF m 130 #[.val (.long p0), .second, .val (.long p1), .second, .val (.long p2), .second, .val (.long p3), .second, .val (.int p4), .val (.int p5), .val (.int d10), .val (.ref b109), .val (.ref b120), .val (.ref b148), .val (.int (own_fff d10)), .val (.int (own_fff p5))] []))
          refine own_pre (fun t k => XS.iconst X195.here hx rfl (hb hby at_130) k) ?_
          show own_Ends _ _ _ _ (T195.setTop (mkF m 131 #[.val (.long p0), .second, .val (.long p1), .second, .val (.long p2), .second, .val (.long p3), .second, .val (.int p4), .val (.int p5), .val (.int d10), .val (.ref b109), .val (.ref b120), .val (.ref b148), .val (.int (own_fff d10)), .val (.int (own_fff p5))] [(.int (1 : Int32))]))
          exact own_retN X195 hx (t := .boolean) Bd.returns (by simp) (hb hby at_131) hlk rfl e195 ⟨rfl, N195⟩ (by decide) (by decide)
    · skip
      refine own_pre (fun t k => XS.ifNo X195.here hx rfl (hb hby at_101) rfl ((if0 _ _).trans (feq hc199).1) k) ?_
      show own_Ends _ _ _ _ (T195.setTop (mkF m 104 #[.val (.long p0), .second, .val (.long p1), .second, .val (.long p2), .second, .val (.long p3), .second, .val (.int p4), .val (.int p5), .val (.int d10), .val (.ref b109), .val (.ref b120), .val (.ref b148), .val (.int (own_fff d10)), .val (.int (own_fff p5))] []))
      refine own_pre (fun t k => XS.iload X195.here hx rfl (hb hby at_104) rfl k) ?_
      show own_Ends _ _ _ _ (T195.setTop (mkF m 106 #[.val (.long p0), .second, .val (.long p1), .second, .val (.long p2), .second, .val (.long p3), .second, .val (.int p4), .val (.int p5), .val (.int d10), .val (.ref b109), .val (.ref b120), .val (.ref b148), .val (.int (own_fff d10)), .val (.int (own_fff p5))] [(.int (own_fff d10))]))
      refine own_pre (fun t k => XS.ifYes X195.here hx rfl (pc0 := 106) (pc' := 111) rfl (hb hby at_106) rfl ((if0 _ _).trans (feq (own_mono hc196 hc199 : ¬ ((own_fff d10) = (0 : Int32)))).2) (by decide) (by decide) k) ?_
      show own_Ends _ _ _ _ (T195.setTop (mkF m 111 #[.val (.long p0), .second, .val (.long p1), .second, .val (.long p2), .second, .val (.long p3), .second, .val (.int p4), .val (.int p5), .val (.int d10), .val (.ref b109), .val (.ref b120), .val (.ref b148), .val (.int (own_fff d10)), .val (.int (own_fff p5))] []))
      refine own_pre (fun t k => XS.iload X195.here hx rfl (hb hby at_111) rfl k) ?_
      show own_Ends _ _ _ _ (T195.setTop (mkF m 113 #[.val (.long p0), .second, .val (.long p1), .second, .val (.long p2), .second, .val (.long p3), .second, .val (.int p4), .val (.int p5), .val (.int d10), .val (.ref b109), .val (.ref b120), .val (.ref b148), .val (.int (own_fff d10)), .val (.int (own_fff p5))] [(.int p5)]))
      refine own_pre (fun t k => XS.iload X195.here hx rfl (hb hby at_113) rfl k) ?_
      show own_Ends _ _ _ _ (T195.setTop (mkF m 115 #[.val (.long p0), .second, .val (.long p1), .second, .val (.long p2), .second, .val (.long p3), .second, .val (.int p4), .val (.int p5), .val (.int d10), .val (.ref b109), .val (.ref b120), .val (.ref b148), .val (.int (own_fff d10)), .val (.int (own_fff p5))] [(.int d10), (.int p5)]))
      by_cases hc202 : p5 < d10
      · skip
        refine own_pre (fun t k => XS.icmpYes X195.here hx rfl (pc0 := 115) (pc' := 130) rfl (hb hby at_115) rfl (tlt hc202).1 (by decide) (by decide) k) ?_
        show own_Ends _ _ _ _ (T195.setTop (mkF m 130 #[.val (.long p0), .second, .val (.long p1), .second, .val (.long p2), .second, .val (.long p3), .second, .val (.int p4), .val (.int p5), .val (.int d10), .val (.ref b109), .val (.ref b120), .val (.ref b148), .val (.int (own_fff d10)), .val (.int (own_fff p5))] []))
        refine own_pre (fun t k => XS.iconst X195.here hx rfl (hb hby at_130) k) ?_
        show own_Ends _ _ _ _ (T195.setTop (mkF m 131 #[.val (.long p0), .second, .val (.long p1), .second, .val (.long p2), .second, .val (.long p3), .second, .val (.int p4), .val (.int p5), .val (.int d10), .val (.ref b109), .val (.ref b120), .val (.ref b148), .val (.int (own_fff d10)), .val (.int (own_fff p5))] [(.int (1 : Int32))]))
        exact own_retN X195 hx (t := .boolean) Bd.returns (by simp) (hb hby at_131) hlk rfl e195 ⟨rfl, N195⟩ (by decide) (by decide)
      · skip
        refine own_pre (fun t k => XS.icmpNo X195.here hx rfl (hb hby at_115) rfl (flt hc202).1 k) ?_
        show own_Ends _ _ _ _ (T195.setTop (mkF m 118 #[.val (.long p0), .second, .val (.long p1), .second, .val (.long p2), .second, .val (.long p3), .second, .val (.int p4), .val (.int p5), .val (.int d10), .val (.ref b109), .val (.ref b120), .val (.ref b148), .val (.int (own_fff d10)), .val (.int (own_fff p5))] []))
        refine own_pre (fun t k => XS.iload X195.here hx rfl (hb hby at_118) rfl k) ?_
        show own_Ends _ _ _ _ (T195.setTop (mkF m 120 #[.val (.long p0), .second, .val (.long p1), .second, .val (.long p2), .second, .val (.long p3), .second, .val (.int p4), .val (.int p5), .val (.int d10), .val (.ref b109), .val (.ref b120), .val (.ref b148), .val (.int (own_fff d10)), .val (.int (own_fff p5))] [(.int (own_fff d10))]))
        by_cases hc203 : (own_fff d10) = (0 : Int32)
        · skip
          refine own_pre (fun t k => XS.ifYes X195.here hx rfl (pc0 := 120) (pc' := 130) rfl (hb hby at_120) rfl ((if0 _ _).trans (teq hc203).1) (by decide) (by decide) k) ?_
          show own_Ends _ _ _ _ (T195.setTop (mkF m 130 #[.val (.long p0), .second, .val (.long p1), .second, .val (.long p2), .second, .val (.long p3), .second, .val (.int p4), .val (.int p5), .val (.int d10), .val (.ref b109), .val (.ref b120), .val (.ref b148), .val (.int (own_fff d10)), .val (.int (own_fff p5))] []))
          refine own_pre (fun t k => XS.iconst X195.here hx rfl (hb hby at_130) k) ?_
          show own_Ends _ _ _ _ (T195.setTop (mkF m 131 #[.val (.long p0), .second, .val (.long p1), .second, .val (.long p2), .second, .val (.long p3), .second, .val (.int p4), .val (.int p5), .val (.int d10), .val (.ref b109), .val (.ref b120), .val (.ref b148), .val (.int (own_fff d10)), .val (.int (own_fff p5))] [(.int (1 : Int32))]))
          exact own_retN X195 hx (t := .boolean) Bd.returns (by simp) (hb hby at_131) hlk rfl e195 ⟨rfl, N195⟩ (by decide) (by decide)
        · skip
          refine own_pre (fun t k => XS.ifNo X195.here hx rfl (hb hby at_120) rfl ((if0 _ _).trans (feq hc203).1) k) ?_
          show own_Ends _ _ _ _ (T195.setTop (mkF m 123 #[.val (.long p0), .second, .val (.long p1), .second, .val (.long p2), .second, .val (.long p3), .second, .val (.int p4), .val (.int p5), .val (.int d10), .val (.ref b109), .val (.ref b120), .val (.ref b148), .val (.int (own_fff d10)), .val (.int (own_fff p5))] []))
          refine own_pre (fun t k => XS.iload X195.here hx rfl (hb hby at_123) rfl k) ?_
          show own_Ends _ _ _ _ (T195.setTop (mkF m 125 #[.val (.long p0), .second, .val (.long p1), .second, .val (.long p2), .second, .val (.long p3), .second, .val (.int p4), .val (.int p5), .val (.int d10), .val (.ref b109), .val (.ref b120), .val (.ref b148), .val (.int (own_fff d10)), .val (.int (own_fff p5))] [(.int (own_fff p5))]))
          refine own_pre (fun t k => XS.ifYes X195.here hx rfl (pc0 := 125) (pc' := 130) rfl (hb hby at_125) rfl ((if0 _ _).trans (feq (own_mono hc202 hc203 : ¬ ((own_fff p5) = (0 : Int32)))).2) (by decide) (by decide) k) ?_
          show own_Ends _ _ _ _ (T195.setTop (mkF m 130 #[.val (.long p0), .second, .val (.long p1), .second, .val (.long p2), .second, .val (.long p3), .second, .val (.int p4), .val (.int p5), .val (.int d10), .val (.ref b109), .val (.ref b120), .val (.ref b148), .val (.int (own_fff d10)), .val (.int (own_fff p5))] []))
          refine own_pre (fun t k => XS.iconst X195.here hx rfl (hb hby at_130) k) ?_
          show own_Ends _ _ _ _ (T195.setTop (mkF m 131 #[.val (.long p0), .second, .val (.long p1), .second, .val (.long p2), .second, .val (.long p3), .second, .val (.int p4), .val (.int p5), .val (.int d10), .val (.ref b109), .val (.ref b120), .val (.ref b148), .val (.int (own_fff d10)), .val (.int (own_fff p5))] [(.int (1 : Int32))]))
          exact own_retN X195 hx (t := .boolean) Bd.returns (by simp) (hb hby at_131) hlk rfl e195 ⟨rfl, N195⟩ (by decide) (by decide)
set_option maxRecDepth 65536 in
set_option maxHeartbeats 40000000 in
theorem own_comes {Post : Tables → Env → Array Value → State → Outcome → State → Prop} (hpost : ∀ tb e args s v u, (limb_1_1.after args s (.returned v) u = true ∧ limb_1_2.after args s (.returned v) u = true ∧ True) → FrameEnd s (.returned v) u (Jvm.fieldLocs frame_1_writes args s ++ Jvm.arrayLocs frame_1_arrays args s ++ Jvm.staticLocs frame_1_statics s) 16 128 → Post tb e args s (.returned v) u) :
    ArmFor flags0 classFile x code maxLocals ret World_1 tables_1 room_1 Calls_1 rest_1 Pre_1 Post := by
  intro l hfl _ _ p e ha hc hk s m args below hf hA hF happ hP
  obtain ⟨hcalls, hrest, hpre⟩ := hP
  obtain ⟨-, -, -, hnamed, -, -, -, hat⟩ := (Spec.applies_iff hf).mp happ
  obtain ⟨hg, hn⟩ := and_e (Cond.before_iff.mp (show (Jvm.Cond.and given_1 narrow_1).before args s = true from hpre))
  obtain ⟨hcount, g0⟩ := and_e hg
  obtain ⟨hk0, g1⟩ := and_e g0
  obtain ⟨hk1, g2⟩ := and_e g1
  obtain ⟨hk2, g3⟩ := and_e g2
  obtain ⟨hk3, g4⟩ := and_e g3
  obtain ⟨hk4, g5⟩ := and_e g4
  obtain ⟨w0, w1, w2, w3, w4, w5, rfl⟩ : ∃ w0 w1 w2 w3 w4 w5 : Value, args = #[w0, w1, w2, w3, w4, w5] := by
    have hs : args.size = 6 := by simpa [Cond.value, given_1] using hcount
    obtain ⟨L⟩ := args
    match L, hs with
    | [w0, w1, w2, w3, w4, w5], _ => exact ⟨w0, w1, w2, w3, w4, w5, rfl⟩
  have hw := fun d (hd : d ∈ tables_1) => atoms_spec (ws := Jvm.Cond.code x code maxLocals ret :: tables_1) hat d (List.mem_cons_of_mem _ hd)
  have hfit : Fit s := fun {y c} hc i hi => by
    obtain ⟨ha, rfl⟩ := Array.getElem?_eq_some_iff.mp hc
    have q := List.all_eq_true.mp ((Array.all_eq_true_iff_forall_mem.mp hF) _ (Array.getElem_mem ha)) i (List.mem_range.mpr hi)
    simpa [Array.getElem?_eq_getElem hi] using q
  obtain ⟨hsets, hown0⟩ := atoms_of _ (rest_1_c_eq ▸ (show rest_1_c.before _ s = true from hrest))
  have hr0 := Cond.before_iff.mp hown0
  obtain ⟨i0, ei0⟩ := isL_v hk0
  obtain rfl : w0 = (.long i0) := Option.some.inj ei0
  obtain ⟨i1, ei1⟩ := isL_v hk1
  obtain rfl : w1 = (.long i1) := Option.some.inj ei1
  obtain ⟨i2, ei2⟩ := isL_v hk2
  obtain rfl : w2 = (.long i2) := Option.some.inj ei2
  obtain ⟨i3, ei3⟩ := isL_v hk3
  obtain rfl : w3 = (.long i3) := Option.some.inj ei3
  obtain ⟨i4, ei4⟩ := is_v hk4
  obtain rfl : w4 = (.int i4) := Option.some.inj ei4
  obtain ⟨i5, ei5⟩ := is_v g5
  obtain rfl : w5 = (.int i5) := Option.some.inj ei5
  obtain ⟨wd, _, _, _, ewd, -⟩ := Cond.exactly_spec (hsets _ (List.mem_of_getElem? (i := 7) rfl))
  have Sd := Sta.start ewd (Or.inr ⟨hw _ (List.mem_of_getElem? (i := 3) rfl), hsets _ (List.mem_of_getElem? (i := 2) rfl)⟩)
  obtain ⟨n, o, h1, h2, h3, _, L, rfl, ⟨rfl, N⟩, hq⟩ := rm0 l s _ hw tables_1 i0 i1 i2 i3 i4 i5 wd s.heap s.heap.size (Nat.le_refl _) Sd p e ha hc hk s m _ below hf ((Spec.applies_iff_loose hf).mp happ).1 ⟨rfl, State.Warmed39.refl s, rfl⟩ trivial
  refine ⟨n, _, h1, h2, h3, hpost _ _ _ _ _ _ ⟨Cond.after_iff.mpr rfl, Cond.after_iff.mpr (eq_i res_at (Term.int_eval (1)) rfl), trivial⟩ ⟨hq.1, hq.2.1, (hq.2.2.sift fun y hy => Or.inr (N y hy)).mono (by decide) (by decide)⟩⟩
theorem main_1_1 : Claimed_1_1 := own_comes fun _ _ _ _ _ _ h hF => ⟨h.1, hF⟩
theorem main_1_2 : Claimed_1_2 := own_comes fun _ _ _ _ _ _ h hF => ⟨h.2.1, hF⟩
end Jvm.Pilot.@@N@@
namespace Jvm.Pilot.@@N@@
open Jvm Jvm.ClassFile Sem Op Lib Jvm.Free Jvm.Stand Jvm.Pilot.@@N@@.Jvm.D
/-! MADE BY PROGRAM (witnessworld.py) out of the Statement's table words and the real class files: 19 classes; the members and pool entries that the words name. The judged class is class 1, her method 2. -/
namespace start1
open Jvm.ClassFile
def u (s : String) : CpInfo := .utf8 (stringToUtf16 s)
/-- a pool by its gaps: so many unusable entries, then the entry; so many at the end -/
def gap : Nat → List CpInfo → List CpInfo
  | 0, r => r
  | n + 1, r => .unusable :: gap n r
def poolList (es : List (Nat × CpInfo)) (last : Nat) : List CpInfo := es.foldr (fun e r => gap e.1 (e.2 :: r)) (gap last [])
def pool (es : List (Nat × CpInfo)) (last : Nat) : Array CpInfo := ⟨poolList es last⟩
def fileOf (pool : Array CpInfo) (this : Nat) (attrs : Array Attribute := #[]) (ms : Array MethodInfo := #[]) (fl : Nat := 33) (sup : Nat := 0) (ifs : Array Nat := #[]) (fds : Array FieldInfo := #[]) : ClassFile where
  minorVersion := 0
  majorVersion := 65
  constantPool := pool
  accessFlags := fl
  thisClass := this
  superClass := sup
  interfaces := ifs
  fields := fds
  methods := ms
  attributes := attrs
def plain (name : String) (sup : Option ClassId) : Class where
  name := name
  kind := .ordinary
  loader := none
  accessFlags := 33
  super := sup
  interfaces := #[]
  cf := none
  fields := #[]
  methods := #[]
  instanceTypes := #[]
  staticTypes := #[]
  resolved := #[]
  callSites := []
  init := .initialized
  statics := none
  mirror := none

def pool0 : Array CpInfo := pool [(5, u "<init>"), (0, u "()V"), (1, .class_ 10), (1, u "java/lang/Object")] 113

def k0c0 : Code := { maxStack := 0, maxLocals := 1, code := object_method_1_code, exceptionTable := #[], attributes := #[] }
def k0m0 : Method := { name := "<init>", desc := "()V", sig := { parameters := [], returnType := none }, accessFlags := 1, code := some k0c0 }
/-- java/lang/Object -/
def k0 : Class := { plain "java/lang/Object" none with
  accessFlags := 33
  interfaces := #[]
  cf := some (fileOf pool0 8 #[] #[{ accessFlags := 1, nameIndex := 5, descriptorIndex := 6, attributes := #[] }] 33 0 #[] #[])
  fields := #[]
  methods := #[k0m0]
  instanceTypes := #[]
  staticTypes := #[]
  resolved := Array.replicate 124 none
  statics := none }

def pool1 : Array CpInfo := pool [(2, .class_ 4), (0, .nameAndType 5 6), (0, u "java/lang/Object"), (0, u "<init>"), (0, u "()V"), (0, .integer 2147483647), (0, .class_ 9), (0, u "java/util/ArrayList"), (0, .methodref 8 3), (0, .class_ 12), (0, u "com/example/settlepath/settlepath/store/CheckpointFiles$Mark"), (0, .methodref 11 14), (0, .nameAndType 5 15), (0, u "(JJJLjava/util/List;JJI)V"), (0, .methodref 11 17), (0, .nameAndType 18 19), (0, u "firstFormatFiltered"), (0, u "()Z"), (0, .methodref 21 22), (0, .class_ 23), (0, .nameAndType 24 25), (0, u "com/example/settlepath/settlepath/store/MarkFirstFormatFilteredPinLaw"), (0, u "expected"), (0, u "(I)Z"), (3, u "law"), (0, u "(JJJJII)Z")] 8

def k1m0 : Method := { name := "<init>", desc := "()V", sig := { parameters := [], returnType := none }, accessFlags := 2, code := none }
def k1c1 : Code := { maxStack := 2, maxLocals := 1, code := method_2_code, exceptionTable := #[], attributes := #[] }
def k1m1 : Method := { name := "expected", desc := "(I)Z", sig := { parameters := [.int], returnType := some .boolean }, accessFlags := 10, code := some k1c1 }
def k1c2 : Code := { maxStack := 15, maxLocals := 16, code := code, exceptionTable := #[], attributes := #[] }
def k1m2 : Method := { name := "law", desc := "(JJJJII)Z", sig := { parameters := [.long, .long, .long, .long, .int, .int], returnType := some .boolean }, accessFlags := 9, code := some k1c2 }
/-- com/example/settlepath/settlepath/store/MarkFirstFormatFilteredPinLaw -/
def k1 : Class := { plain "com/example/settlepath/settlepath/store/MarkFirstFormatFilteredPinLaw" (some 0) with
  accessFlags := 49
  interfaces := #[]
  cf := some (fileOf pool1 21 #[] #[{ accessFlags := 2, nameIndex := 5, descriptorIndex := 6, attributes := #[] }, { accessFlags := 10, nameIndex := 24, descriptorIndex := 25, attributes := #[] }, { accessFlags := 9, nameIndex := 29, descriptorIndex := 30, attributes := #[] }] 49 2 #[] #[])
  fields := #[]
  methods := #[k1m0, k1m1, k1m2]
  instanceTypes := #[]
  staticTypes := #[]
  resolved := Array.replicate 39 none
  statics := none }

def pool2 : Array CpInfo := pool [(8, .class_ 10), (1, u "java/lang/Iterable"), (24, .class_ 36), (0, u "java/lang/Object")] 25

/-- java/lang/Iterable -/
def k2 : Class := { plain "java/lang/Iterable" (some 0) with
  accessFlags := 1537
  interfaces := #[]
  cf := some (fileOf pool2 8 #[] #[] 1537 35 #[] #[])
  fields := #[]
  methods := #[]
  instanceTypes := #[]
  staticTypes := #[]
  resolved := Array.replicate 62 none
  statics := none }

def pool3 : Array CpInfo := pool [(10, .class_ 12), (1, u "java/util/Collection"), (47, .class_ 61), (0, u "java/lang/Object"), (0, .class_ 63), (0, u "java/lang/Iterable")] 51

/-- java/util/Collection -/
def k3 : Class := { plain "java/util/Collection" (some 0) with
  accessFlags := 1537
  interfaces := #[2]
  cf := some (fileOf pool3 10 #[] #[] 1537 60 #[62] #[])
  fields := #[]
  methods := #[]
  instanceTypes := #[]
  staticTypes := #[]
  resolved := Array.replicate 115 none
  statics := none }

def pool4 : Array CpInfo := pool [(1, .methodref 2 3), (0, .class_ 4), (0, .nameAndType 5 6), (0, u "java/lang/Object"), (0, u "<init>"), (0, u "()V"), (1, .class_ 10), (1, u "java/util/AbstractCollection"), (66, .class_ 78), (0, u "java/util/Collection")] 81

def k4c0 : Code := { maxStack := 1, maxLocals := 1, code := jdk_22_method_1_code, exceptionTable := #[], attributes := #[] }
def k4m0 : Method := { name := "<init>", desc := "()V", sig := { parameters := [], returnType := none }, accessFlags := 4, code := some k4c0 }
/-- java/util/AbstractCollection -/
def k4 : Class := { plain "java/util/AbstractCollection" (some 0) with
  accessFlags := 1057
  interfaces := #[3]
  cf := some (fileOf pool4 8 #[] #[{ accessFlags := 4, nameIndex := 5, descriptorIndex := 6, attributes := #[] }] 1057 2 #[77] #[])
  fields := #[]
  methods := #[k4m0]
  instanceTypes := #[]
  staticTypes := #[]
  resolved := Array.replicate 160 none
  statics := none }

def pool5 : Array CpInfo := pool [(8, .class_ 10), (1, u "java/util/SequencedCollection"), (15, .class_ 27), (0, u "java/lang/Object"), (0, .class_ 29), (0, u "java/util/Collection")] 27

/-- java/util/SequencedCollection -/
def k5 : Class := { plain "java/util/SequencedCollection" (some 0) with
  accessFlags := 1537
  interfaces := #[3]
  cf := some (fileOf pool5 8 #[] #[] 1537 26 #[28] #[])
  fields := #[]
  methods := #[]
  instanceTypes := #[]
  staticTypes := #[]
  resolved := Array.replicate 57 none
  statics := none }

def pool6 : Array CpInfo := pool [(8, .class_ 10), (1, u "java/util/List"), (92, .class_ 104), (0, u "java/lang/Object"), (15, .class_ 121), (0, u "java/util/SequencedCollection")] 129

/-- java/util/List -/
def k6 : Class := { plain "java/util/List" (some 0) with
  accessFlags := 1537
  interfaces := #[5]
  cf := some (fileOf pool6 8 #[] #[] 1537 103 #[120] #[])
  fields := #[]
  methods := #[]
  instanceTypes := #[]
  staticTypes := #[]
  resolved := Array.replicate 251 none
  statics := none }

def pool7 : Array CpInfo := pool [(1, .methodref 2 3), (0, .class_ 4), (0, .nameAndType 5 6), (0, u "java/util/AbstractCollection"), (0, u "<init>"), (0, u "()V"), (0, .fieldref 8 9), (0, .class_ 10), (0, .nameAndType 11 12), (0, u "java/util/AbstractList"), (0, u "modCount"), (0, u "I"), (64, .class_ 78), (0, u "java/util/AbstractList$Itr"), (3, .class_ 83), (0, u "java/util/AbstractList$ListItr"), (9, .class_ 94), (0, u "java/util/AbstractList$RandomAccessSubList"), (3, .class_ 99), (0, u "java/util/AbstractList$SubList"), (33, .class_ 134), (0, u "java/util/List"), (73, .class_ 209), (0, u "java/util/AbstractList$SubList$1"), (0, .class_ 211), (0, u "java/util/AbstractList$RandomAccessSpliterator")] 6

def k7c0 : Code := { maxStack := 2, maxLocals := 1, code := jdk_39_method_1_code, exceptionTable := #[], attributes := #[] }
def k7m0 : Method := { name := "<init>", desc := "()V", sig := { parameters := [], returnType := none }, accessFlags := 4, code := some k7c0 }
/-- java/util/AbstractList -/
def k7 : Class := { plain "java/util/AbstractList" (some 4) with
  accessFlags := 1057
  interfaces := #[6]
  cf := some (fileOf pool7 8 #[.nestMembers #[93, 98, 208, 210, 82, 77]] #[{ accessFlags := 4, nameIndex := 5, descriptorIndex := 6, attributes := #[] }] 1057 2 #[133] #[{ accessFlags := 132, nameIndex := 11, descriptorIndex := 12, attributes := #[] }])
  fields := #[{ name := "modCount", type := .int, accessFlags := 132, slot := 0, constantValue := 0 }]
  methods := #[k7m0]
  instanceTypes := #[.int]
  staticTypes := #[]
  resolved := Array.replicate 218 none
  statics := none }

def pool8 : Array CpInfo := pool [(1, .class_ 2), (0, u "java/util/RandomAccess"), (0, .class_ 4), (0, u "java/lang/Object")] 2

/-- java/util/RandomAccess -/
def k8 : Class := { plain "java/util/RandomAccess" (some 0) with
  accessFlags := 1537
  interfaces := #[]
  cf := some (fileOf pool8 1 #[] #[] 1537 3 #[] #[])
  fields := #[]
  methods := #[]
  instanceTypes := #[]
  staticTypes := #[]
  resolved := Array.replicate 7 none
  statics := none }

def pool9 : Array CpInfo := pool [(1, .class_ 2), (0, u "java/lang/Cloneable"), (0, .class_ 4), (0, u "java/lang/Object")] 2

/-- java/lang/Cloneable -/
def k9 : Class := { plain "java/lang/Cloneable" (some 0) with
  accessFlags := 1537
  interfaces := #[]
  cf := some (fileOf pool9 1 #[] #[] 1537 3 #[] #[])
  fields := #[]
  methods := #[]
  instanceTypes := #[]
  staticTypes := #[]
  resolved := Array.replicate 7 none
  statics := none }

def pool10 : Array CpInfo := pool [(1, .class_ 2), (0, u "java/io/Serializable"), (0, .class_ 4), (0, u "java/lang/Object")] 2

/-- java/io/Serializable -/
def k10 : Class := { plain "java/io/Serializable" (some 0) with
  accessFlags := 1537
  interfaces := #[]
  cf := some (fileOf pool10 1 #[] #[] 1537 3 #[] #[])
  fields := #[]
  methods := #[]
  instanceTypes := #[]
  staticTypes := #[]
  resolved := Array.replicate 7 none
  statics := none }

def pool11 : Array CpInfo := pool [(1, .methodref 2 3), (0, .class_ 4), (0, .nameAndType 5 6), (0, u "java/util/AbstractList"), (0, u "<init>"), (0, u "()V"), (2, .fieldref 10 11), (0, .class_ 12), (0, .nameAndType 13 14), (0, u "java/util/ArrayList"), (0, u "elementData"), (0, u "[Ljava/lang/Object;"), (2, u "EMPTY_ELEMENTDATA"), (21, .fieldref 10 40), (0, .nameAndType 41 14), (0, u "DEFAULTCAPACITY_EMPTY_ELEMENTDATA"), (8, u "size"), (0, u "I"), (96, .class_ 149), (0, u "java/util/List"), (112, .class_ 263), (0, u "java/util/ArrayList$ListItr"), (3, .class_ 268), (0, u "java/util/ArrayList$Itr"), (7, .class_ 277), (0, u "java/util/ArrayList$SubList"), (12, .class_ 291), (0, u "java/util/ArrayList$ArrayListSpliterator"), (37, .class_ 330), (0, u "java/util/RandomAccess"), (0, .class_ 332), (0, u "java/lang/Cloneable"), (0, .class_ 334), (0, u "java/io/Serializable"), (0, u "serialVersionUID"), (0, u "J"), (3, u "DEFAULT_CAPACITY"), (159, .class_ 501), (0, u "java/util/ArrayList$SubList$2"), (0, .class_ 503), (0, u "java/util/ArrayList$SubList$1")] 5

def k11c0 : Code := { maxStack := 2, maxLocals := 1, code := jdk_38_method_2_code, exceptionTable := #[], attributes := #[] }
def k11m0 : Method := { name := "<init>", desc := "()V", sig := { parameters := [], returnType := none }, accessFlags := 1, code := some k11c0 }
/-- java/util/ArrayList -/
def k11 : Class := { plain "java/util/ArrayList" (some 7) with
  accessFlags := 33
  interfaces := #[6, 8, 9, 10]
  cf := some (fileOf pool11 10 #[.nestMembers #[290, 276, 500, 502, 262, 267]] #[{ accessFlags := 1, nameIndex := 5, descriptorIndex := 6, attributes := #[] }] 33 2 #[148, 329, 331, 333] #[{ accessFlags := 26, nameIndex := 335, descriptorIndex := 336, attributes := #[] }, { accessFlags := 26, nameIndex := 340, descriptorIndex := 51, attributes := #[] }, { accessFlags := 26, nameIndex := 17, descriptorIndex := 14, attributes := #[] }, { accessFlags := 26, nameIndex := 41, descriptorIndex := 14, attributes := #[] }, { accessFlags := 128, nameIndex := 13, descriptorIndex := 14, attributes := #[] }, { accessFlags := 2, nameIndex := 50, descriptorIndex := 51, attributes := #[] }])
  fields := #[{ name := "serialVersionUID", type := .long, accessFlags := 26, slot := 0, constantValue := 0 }, { name := "DEFAULT_CAPACITY", type := .int, accessFlags := 26, slot := 1, constantValue := 0 }, { name := "EMPTY_ELEMENTDATA", type := (.array (.object "java/lang/Object")), accessFlags := 26, slot := 2, constantValue := 0 }, { name := "DEFAULTCAPACITY_EMPTY_ELEMENTDATA", type := (.array (.object "java/lang/Object")), accessFlags := 26, slot := 3, constantValue := 0 }, { name := "elementData", type := (.array (.object "java/lang/Object")), accessFlags := 128, slot := 1, constantValue := 0 }, { name := "size", type := .int, accessFlags := 2, slot := 2, constantValue := 0 }]
  methods := #[k11m0]
  instanceTypes := #[.int, (.array (.object "java/lang/Object")), .int]
  staticTypes := #[.long, .int, (.array (.object "java/lang/Object")), (.array (.object "java/lang/Object"))]
  resolved := Array.replicate 509 none
  statics := some 0 }

def pool12 : Array CpInfo := pool [(1, .methodref 2 3), (0, .class_ 4), (0, .nameAndType 5 6), (0, u "java/lang/Object"), (0, u "<init>"), (0, u "()V"), (0, .class_ 8), (0, u "java/lang/Record")] 13

def k12c0 : Code := { maxStack := 1, maxLocals := 1, code := jdk_30_method_1_code, exceptionTable := #[], attributes := #[] }
def k12m0 : Method := { name := "<init>", desc := "()V", sig := { parameters := [], returnType := none }, accessFlags := 4, code := some k12c0 }
/-- java/lang/Record -/
def k12 : Class := { plain "java/lang/Record" (some 0) with
  accessFlags := 1057
  interfaces := #[]
  cf := some (fileOf pool12 7 #[] #[{ accessFlags := 4, nameIndex := 5, descriptorIndex := 6, attributes := #[] }] 1057 2 #[] #[])
  fields := #[]
  methods := #[k12m0]
  instanceTypes := #[]
  staticTypes := #[]
  resolved := Array.replicate 22 none
  statics := none }

def pool13 : Array CpInfo := pool [(3, .class_ 4), (0, u "com/example/settlepath/settlepath/store/CheckpointFiles"), (0, .methodref 6 7), (0, .class_ 8), (0, .nameAndType 9 10), (0, u "java/lang/Record"), (0, u "<init>"), (0, u "()V"), (0, .fieldref 12 13), (0, .class_ 14), (0, .nameAndType 15 16), (0, u "com/example/settlepath/settlepath/store/CheckpointFiles$Mark"), (0, u "segment"), (0, u "J"), (0, .fieldref 12 18), (0, .nameAndType 19 16), (0, u "historyBytes"), (0, .fieldref 12 21), (0, .nameAndType 22 16), (0, u "paymentsBytes"), (0, .fieldref 12 24), (0, .nameAndType 25 26), (0, u "runs"), (0, u "Ljava/util/List;"), (0, .fieldref 12 28), (0, .nameAndType 29 16), (0, u "records"), (0, .fieldref 12 31), (0, .nameAndType 32 16), (0, u "bytes"), (0, .fieldref 12 34), (0, .nameAndType 35 36), (0, u "format"), (0, u "I"), (25, u "()Z"), (30, u "(JJJLjava/util/List;JJI)V"), (31, u "FIRST_FORMAT_BYTES"), (2, u "BYTES"), (5, u "firstFormatFiltered")] 39

def k13c0 : Code := { maxStack := 3, maxLocals := 13, code := prog_120_method_1_code, exceptionTable := #[], attributes := #[] }
def k13m0 : Method := { name := "<init>", desc := "(JJJLjava/util/List;JJI)V", sig := { parameters := [.long, .long, .long, (.object "java/util/List"), .long, .long, .int], returnType := none }, accessFlags := 0, code := some k13c0 }
def k13c1 : Code := { maxStack := 2, maxLocals := 1, code := prog_120_method_2_code, exceptionTable := #[], attributes := #[] }
def k13m1 : Method := { name := "firstFormatFiltered", desc := "()Z", sig := { parameters := [], returnType := some .boolean }, accessFlags := 0, code := some k13c1 }
/-- com/example/settlepath/settlepath/store/CheckpointFiles$Mark -/
def k13 : Class := { plain "com/example/settlepath/settlepath/store/CheckpointFiles$Mark" (some 12) with
  accessFlags := 48
  interfaces := #[]
  cf := some (fileOf pool13 12 #[.nestHost 3] #[{ accessFlags := 0, nameIndex := 9, descriptorIndex := 93, attributes := #[] }, { accessFlags := 0, nameIndex := 134, descriptorIndex := 62, attributes := #[] }] 48 6 #[] #[{ accessFlags := 18, nameIndex := 15, descriptorIndex := 16, attributes := #[] }, { accessFlags := 18, nameIndex := 19, descriptorIndex := 16, attributes := #[] }, { accessFlags := 18, nameIndex := 22, descriptorIndex := 16, attributes := #[] }, { accessFlags := 18, nameIndex := 25, descriptorIndex := 26, attributes := #[] }, { accessFlags := 18, nameIndex := 29, descriptorIndex := 16, attributes := #[] }, { accessFlags := 18, nameIndex := 32, descriptorIndex := 16, attributes := #[] }, { accessFlags := 18, nameIndex := 35, descriptorIndex := 36, attributes := #[] }, { accessFlags := 26, nameIndex := 125, descriptorIndex := 36, attributes := #[] }, { accessFlags := 26, nameIndex := 128, descriptorIndex := 36, attributes := #[] }])
  fields := #[{ name := "segment", type := .long, accessFlags := 18, slot := 0, constantValue := 0 }, { name := "historyBytes", type := .long, accessFlags := 18, slot := 1, constantValue := 0 }, { name := "paymentsBytes", type := .long, accessFlags := 18, slot := 2, constantValue := 0 }, { name := "runs", type := (.object "java/util/List"), accessFlags := 18, slot := 3, constantValue := 0 }, { name := "records", type := .long, accessFlags := 18, slot := 4, constantValue := 0 }, { name := "bytes", type := .long, accessFlags := 18, slot := 5, constantValue := 0 }, { name := "format", type := .int, accessFlags := 18, slot := 6, constantValue := 0 }, { name := "FIRST_FORMAT_BYTES", type := .int, accessFlags := 26, slot := 0, constantValue := 0 }, { name := "BYTES", type := .int, accessFlags := 26, slot := 1, constantValue := 0 }]
  methods := #[k13m0, k13m1]
  instanceTypes := #[.long, .long, .long, (.object "java/util/List"), .long, .long, .int]
  staticTypes := #[.int, .int]
  resolved := Array.replicate 174 none
  statics := none }

/-- the primitive byte -/
def k14 : Class := { plain "byte" none with kind := .primitive 'B', accessFlags := 0x411 }
/-- [B -/
def k15 : Class := { plain "[B" (some 0) with kind := .array 14 .byte, interfaces := #[9, 10], accessFlags := 1041 }

/-- the primitive int -/
def k16 : Class := { plain "int" none with kind := .primitive 'I', accessFlags := 0x411 }
/-- [I -/
def k17 : Class := { plain "[I" (some 0) with kind := .array 16 .int, interfaces := #[9, 10], accessFlags := 1041 }

/-- [Ljava/lang/Object; -/
def k18 : Class := { plain "[Ljava/lang/Object;" (some 0) with kind := .array 0 (.object "java/lang/Object"), interfaces := #[9, 10], accessFlags := 1041 }

def heap : Heap := #[{ cls := 11, slots := #[.long 0, .int 0, .ref 1, .ref 2], vm := .statics 11 },
  { cls := 18, slots := #[], vm := .none },
  { cls := 18, slots := #[], vm := .none }]
def classes : Array Class := #[k0, k1, k2, k3, k4, k5, k6, k7, k8, k9, k10, k11, k12, k13, k14, k15, k16, k17, k18]
def interned : List (Array UInt16 × Addr) := []
def slotsUsed : Nat := 4
def theMethod : MethodId := ⟨1, 2⟩
def args0 : Array Value := #[.long 1, .long 2, .long 3, .long 4, .int 5, .int 6]
def aboutOver (below : List Frame) : State where
  vm := { classes := classes, interned := interned.toArray }
  heap := heap
  slotsUsed := slotsUsed
  threads := #[{ frames := .invoking theMethod args0 :: below }]
def below0 : List Frame := [.native { method := ⟨0, 0⟩, args := #[] }]
def about1 : State := aboutOver below0
def p0 : Program := .bare "" "" ""
def e0 : Env := launch0.env 0 0 0
theorem w_frames : about1.frames = Frame.invoking theMethod args0 :: below0 := rfl
set_option maxRecDepth 65536 in
theorem w_args : argsFit about1.vm theMethod args0 = true := by decide +kernel
set_option maxRecDepth 65536 in
theorem w_heap : heapFits about1 = true := by decide +kernel
set_option maxRecDepth 65536 in
theorem w_runnable : about1.curStatus? = some .runnable := by decide +kernel
set_option maxRecDepth 65536 in
theorem w_alone : about1.alone = true := by decide +kernel
set_option maxRecDepth 65536 in
theorem w_named : about1.methodNamed? x = some theMethod := by decide +kernel
set_option maxRecDepth 65536 in
theorem w_hears : about1.hears theMethod below0 = true := by decide +kernel
set_option maxRecDepth 65536 in
theorem w_ripe : about1.ripe theMethod args0 below0 = true := by decide +kernel
theorem w_running : about1.status = .running := rfl
set_option maxRecDepth 65536 in
theorem w_room : about1.hasRoom e0.platform room_1 = true :=
  launch0.hasRoom_least _ room_1 (by decide +kernel) (by decide +kernel) (by decide +kernel) (by decide +kernel) (by decide +kernel) (by decide +kernel)
theorem allAtoms_all (ts : List Jvm.Cond) (a : Array Jvm.Value) (st : Jvm.State) : (allAtoms ts).before a st = ts.all (fun c => c.before a st) := by
  induction ts with
  | nil => rfl
  | cons c t ih =>
    show (Jvm.Cond.and c (allAtoms t)).before a st = _
    rw [Jvm.Cond.before_and, ih, List.all_cons]
def words1 : List Jvm.Cond := Jvm.Cond.code x code maxLocals ret :: tables_1
/-- a 'code' word, met by the world's own term for the bytes: nothing is compared byte by byte -/
theorem code_word {y : MethodName} {bytes : ByteArray} {mx : Nat} {rt : Option FieldType} {a : Array Value} {s : State} {m : MethodId} {meth : Method} {c : Code} (h1 : s.methodNamed? y = some m) (h2 : s.vm.method? m = some meth) (h3 : meth.code = some c) (h4 : c.code = bytes)
    (h5 : (c.maxLocals == mx && c.exceptionTable.isEmpty && decide (c.maxStack ≤ mostOperands) && decide (meth.sig.returnType = rt) && !meth.locks && decide (parseMethodDescriptor y.desc = some meth.sig)) = true) : (Jvm.Cond.code y bytes mx rt).before a s = true := by
  simp only [Bool.and_eq_true, beq_iff_eq, Bool.not_eq_true', decide_eq_true_eq] at h5
  obtain ⟨⟨⟨⟨⟨g1, g2⟩, g3⟩, g4⟩, g5⟩, g6⟩ := h5
  simp [Cond.before, Cond.holds, Cond.value, h1, h2, h3, h4, g1, g2, g3, g4, g5, g6]
def isCode : Jvm.Cond → Bool
  | .code _ _ _ _ => true
  | _ => false
theorem all_split {L : List Jvm.Cond} {P : Jvm.Cond → Bool} (h1 : L.all (fun c => isCode c || P c) = true) (h2 : ∀ c ∈ L.filter isCode, P c = true) : L.all P = true := by
  refine List.all_eq_true.mpr fun c hc => ?_
  have h := List.all_eq_true.mp h1 c hc
  rcases Bool.eq_false_or_eq_true (isCode c) with hi | hi
  · exact h2 c (List.mem_filter.mpr ⟨hc, hi⟩)
  · simpa [hi] using h
set_option maxRecDepth 65536 in
theorem w_c0 : (Jvm.Cond.code x code maxLocals ret).before args0 about1 = true := code_word (m := ⟨1, 2⟩) (meth := k1m2) (c := k1c2) (by decide +kernel) rfl rfl rfl (by decide +kernel)
set_option maxRecDepth 65536 in
theorem w_c1 : (Jvm.Cond.code ({ cls := "java/util/ArrayList", name := "<init>", desc := "()V" } : Jvm.MethodName) jdk_38_method_2_code (1 : Nat) (Option.none : Option Jvm.ClassFile.FieldType)).before args0 about1 = true := code_word (m := ⟨11, 0⟩) (meth := k11m0) (c := k11c0) (by decide +kernel) rfl rfl rfl (by decide +kernel)
set_option maxRecDepth 65536 in
theorem w_c2 : (Jvm.Cond.code ({ cls := "java/util/AbstractList", name := "<init>", desc := "()V" } : Jvm.MethodName) jdk_39_method_1_code (1 : Nat) (Option.none : Option Jvm.ClassFile.FieldType)).before args0 about1 = true := code_word (m := ⟨7, 0⟩) (meth := k7m0) (c := k7c0) (by decide +kernel) rfl rfl rfl (by decide +kernel)
set_option maxRecDepth 65536 in
theorem w_c3 : (Jvm.Cond.code ({ cls := "java/util/AbstractCollection", name := "<init>", desc := "()V" } : Jvm.MethodName) jdk_22_method_1_code (1 : Nat) (Option.none : Option Jvm.ClassFile.FieldType)).before args0 about1 = true := code_word (m := ⟨4, 0⟩) (meth := k4m0) (c := k4c0) (by decide +kernel) rfl rfl rfl (by decide +kernel)
set_option maxRecDepth 65536 in
theorem w_c4 : (Jvm.Cond.code ({ cls := "java/lang/Object", name := "<init>", desc := "()V" } : Jvm.MethodName) object_method_1_code (1 : Nat) (Option.none : Option Jvm.ClassFile.FieldType)).before args0 about1 = true := code_word (m := ⟨0, 0⟩) (meth := k0m0) (c := k0c0) (by decide +kernel) rfl rfl rfl (by decide +kernel)
set_option maxRecDepth 65536 in
theorem w_c5 : (Jvm.Cond.code ({ cls := "com/example/settlepath/settlepath/store/CheckpointFiles$Mark", name := "<init>", desc := "(JJJLjava/util/List;JJI)V" } : Jvm.MethodName) prog_120_method_1_code (13 : Nat) (Option.none : Option Jvm.ClassFile.FieldType)).before args0 about1 = true := code_word (m := ⟨13, 0⟩) (meth := k13m0) (c := k13c0) (by decide +kernel) rfl rfl rfl (by decide +kernel)
set_option maxRecDepth 65536 in
theorem w_c6 : (Jvm.Cond.code ({ cls := "java/lang/Record", name := "<init>", desc := "()V" } : Jvm.MethodName) jdk_30_method_1_code (1 : Nat) (Option.none : Option Jvm.ClassFile.FieldType)).before args0 about1 = true := code_word (m := ⟨12, 0⟩) (meth := k12m0) (c := k12c0) (by decide +kernel) rfl rfl rfl (by decide +kernel)
set_option maxRecDepth 65536 in
theorem w_c7 : (Jvm.Cond.code ({ cls := "com/example/settlepath/settlepath/store/CheckpointFiles$Mark", name := "firstFormatFiltered", desc := "()Z" } : Jvm.MethodName) prog_120_method_2_code (1 : Nat) (Option.some Jvm.ClassFile.FieldType.boolean)).before args0 about1 = true := code_word (m := ⟨13, 1⟩) (meth := k13m1) (c := k13c1) (by decide +kernel) rfl rfl rfl (by decide +kernel)
set_option maxRecDepth 65536 in
theorem w_c8 : (Jvm.Cond.code ({ cls := "com/example/settlepath/settlepath/store/MarkFirstFormatFilteredPinLaw", name := "expected", desc := "(I)Z" } : Jvm.MethodName) method_2_code (1 : Nat) (Option.some Jvm.ClassFile.FieldType.boolean)).before args0 about1 = true := code_word (m := ⟨1, 1⟩) (meth := k1m1) (c := k1c1) (by decide +kernel) rfl rfl rfl (by decide +kernel)
def codes1 : List Jvm.Cond := [Jvm.Cond.code x code maxLocals ret, Jvm.Cond.code ({ cls := "java/util/ArrayList", name := "<init>", desc := "()V" } : Jvm.MethodName) jdk_38_method_2_code (1 : Nat) (Option.none : Option Jvm.ClassFile.FieldType), Jvm.Cond.code ({ cls := "java/util/AbstractList", name := "<init>", desc := "()V" } : Jvm.MethodName) jdk_39_method_1_code (1 : Nat) (Option.none : Option Jvm.ClassFile.FieldType), Jvm.Cond.code ({ cls := "java/util/AbstractCollection", name := "<init>", desc := "()V" } : Jvm.MethodName) jdk_22_method_1_code (1 : Nat) (Option.none : Option Jvm.ClassFile.FieldType), Jvm.Cond.code ({ cls := "java/lang/Object", name := "<init>", desc := "()V" } : Jvm.MethodName) object_method_1_code (1 : Nat) (Option.none : Option Jvm.ClassFile.FieldType), Jvm.Cond.code ({ cls := "com/example/settlepath/settlepath/store/CheckpointFiles$Mark", name := "<init>", desc := "(JJJLjava/util/List;JJI)V" } : Jvm.MethodName) prog_120_method_1_code (13 : Nat) (Option.none : Option Jvm.ClassFile.FieldType), Jvm.Cond.code ({ cls := "java/lang/Record", name := "<init>", desc := "()V" } : Jvm.MethodName) jdk_30_method_1_code (1 : Nat) (Option.none : Option Jvm.ClassFile.FieldType), Jvm.Cond.code ({ cls := "com/example/settlepath/settlepath/store/CheckpointFiles$Mark", name := "firstFormatFiltered", desc := "()Z" } : Jvm.MethodName) prog_120_method_2_code (1 : Nat) (Option.some Jvm.ClassFile.FieldType.boolean), Jvm.Cond.code ({ cls := "com/example/settlepath/settlepath/store/MarkFirstFormatFilteredPinLaw", name := "expected", desc := "(I)Z" } : Jvm.MethodName) method_2_code (1 : Nat) (Option.some Jvm.ClassFile.FieldType.boolean)]
set_option maxRecDepth 65536 in
theorem codes_eq : words1.filter isCode = codes1 := rfl
theorem w_codes : ∀ c ∈ words1.filter isCode, c.before args0 about1 = true := by
  rw [codes_eq]
  intro c hc
  simp only [codes1, List.mem_cons, List.not_mem_nil, or_false] at hc
  rcases hc with rfl | rfl | rfl | rfl | rfl | rfl | rfl | rfl | rfl
  · exact w_c0
  · exact w_c1
  · exact w_c2
  · exact w_c3
  · exact w_c4
  · exact w_c5
  · exact w_c6
  · exact w_c7
  · exact w_c8
set_option maxRecDepth 65536 in
theorem w_t1 : (words1.take 24).all (fun c => isCode c || c.before args0 about1) = true := by decide +kernel
set_option maxRecDepth 65536 in
theorem w_t2 : ((words1.drop 24).take 24).all (fun c => isCode c || c.before args0 about1) = true := by decide +kernel
set_option maxRecDepth 65536 in
theorem w_t3 : ((words1.drop 24).drop 24).all (fun c => isCode c || c.before args0 about1) = true := by decide +kernel
theorem w_tables : (allAtoms (Jvm.Cond.code x code maxLocals ret :: tables_1)).before args0 about1 = true := by
  rw [allAtoms_all]
  show words1.all (fun c => c.before args0 about1) = true
  refine all_split ?_ w_codes
  rw [← List.take_append_drop 24 words1, List.all_append, w_t1, ← List.take_append_drop 24 (words1.drop 24), List.all_append, w_t2, w_t3]
  rfl
set_option maxRecDepth 65536 in
theorem w_rest : rest_1_c.before args0 about1 = true := by decide +kernel
set_option maxRecDepth 65536 in
theorem w_case : (Jvm.Cond.and given_1 narrow_1).before args0 about1 = true := by decide +kernel
theorem w_applies : (headSpec (Jvm.Cond.code x code maxLocals ret :: tables_1) room_1).applies x e0.platform about1 = true :=
  (Spec.applies_iff w_frames).mpr ⟨w_running, w_runnable, w_alone, w_named, w_hears, w_ripe, w_room, w_tables⟩
theorem atStart : AtStart classFile x code maxLocals ret World_1 tables_1 room_1 Calls_1 rest_1 Pre_1 launch0 p0 e0 about1 theMethod args0 below0 :=
  ⟨lists_1, trivial, launch0.admits_env _ _ _, launch0.least_env, fairChoices_fair.cas, fairChoices_fair.clock, w_frames, w_args, w_heap, w_applies, trivial, w_rest, w_case⟩
end start1
theorem witness_1 : WitnessClaimed_1 := ⟨start1.p0, start1.e0, start1.about1, start1.theMethod, start1.args0, start1.below0, start1.atStart⟩
end Jvm.Pilot.@@N@@

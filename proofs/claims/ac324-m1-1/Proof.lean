import JvmDerived
import JvmDerived.Pilot.@@N@@Statement
import JvmDerived.Pilot.@@N@@Code
set_option linter.unusedVariables false
set_option linter.unusedSimpArgs false
@@BLOCK:NumsL.lean.txt@@
namespace Jvm.Pilot.@@N@@
open Jvm Jvm.ClassFile Sem Op Lib Jvm.Free Jvm.Stand Jvm.LawKit Jvm.RoadKit Bundle Jvm.Pilot.@@N@@.Jvm.D
section Own
variable {p : Program} {l : Launch} {e : Env} {R : Room} {s : State} {m : MethodId} {args : Array Value} {below : List Frame} {meth : Method} {c : Code} {T : State} {locs : List Loc} {cells slots : Nat}
/-- from t the invocation comes to its end, and F holds there -/
def own_Ends (p : Program) (e : Env) (below : List Frame) (F : State → Outcome → Prop) (t : State) : Prop := ∃ s₂ o, Steps p.tables e below t s₂ ∧ s₂.status = .running ∧ Ended s₂ below o ∧ F s₂ o
theorem own_pre {F : State → Outcome → Prop} {t t' : State} (k : ∀ u, Steps p.tables e below t' u → Steps p.tables e below t u) (h : own_Ends p e below F t') : own_Ends p e below F t := by
  obtain ⟨s₂, o, h1, h2⟩ := h
  exact ⟨s₂, o, k _ h1, h2⟩
/-- what is asked of the end: G of the value, the heap and the places written; the frame -/
def own_Fin (s : State) (G : Option Value → Heap → List Loc → Prop) (C S : Nat) (s₂ : State) (o : Outcome) : Prop := ∃ v L, o = .returned v ∧ G v s₂.heap L ∧ FrameEnd s o s₂ L C S
theorem own_out (X : Stand p l e R s m args below meth c T locs cells slots) {v : Option Value} (hv : meth.sig.returnType = none → v = none) (hlk : meth.locks = false) {g : JFrame} {G : Option Value → Heap → List Loc → Prop} {C S : Nat} {h : Heap} (eT : T.heap = h) (hG : G v h locs) (hC : cells ≤ C) (hS : slots ≤ S)
    (st : ∀ fs, (∀ (f : JFrame) (acts : List Action), f.method = m → f.locked = none → f.entered = [] → (doReturn e (T.setTop f) acts v).1 = T.setFrames fs) → Steps p.tables e below (T.setTop g) (T.setFrames fs)) : own_Ends p e below (own_Fin s G C S) (T.setTop g) := by
  obtain ⟨fs, hr, hrun, hended, hW, hsame⟩ := X.leave (v := v) hv hlk
  subst eT
  exact ⟨_, _, st fs hr, hrun, hended, v, locs, rfl, hG, ⟨_, rfl⟩, hW, hsame.mono hC hS⟩
theorem own_retN (X : Stand p l e R s m args below meth c T locs cells slots) (hx : p.tables.exec = Jvm.exec) {pc : Nat} {Ls : Array Slot} {z z' : Int32} {t : FieldType} {rest : List Value} (hret : meth.sig.returnType = some t) (ht : t = .boolean ∨ t = .byte ∨ t = .char ∨ t = .short) (hd : decode c.code pc = .ok (.ireturn, 1)) (hlk : meth.locks = false) (hz : nar t z = z')
    {G : Option Value → Heap → List Loc → Prop} {C S : Nat} {h : Heap} (eT : T.heap = h) (hG : G (some (.int z')) h locs) (hC : cells ≤ C) (hS : slots ≤ S) : own_Ends p e below (own_Fin s G C S) (T.setTop (mkF m pc Ls (.int z :: rest))) := by
  subst hz
  exact own_out X (fun h => by rw [hret] at h; cases h) hlk eT hG hC hS (fun fs hr => retN X hx hret ht hd hr)
theorem own_retI (X : Stand p l e R s m args below meth c T locs cells slots) (hx : p.tables.exec = Jvm.exec) {pc : Nat} {Ls : Array Slot} {z : Int32} {rest : List Value} (hret : meth.sig.returnType = some .int) (hd : decode c.code pc = .ok (.ireturn, 1)) (hlk : meth.locks = false)
    {G : Option Value → Heap → List Loc → Prop} {C S : Nat} {h : Heap} (eT : T.heap = h) (hG : G (some (.int z)) h locs) (hC : cells ≤ C) (hS : slots ≤ S) : own_Ends p e below (own_Fin s G C S) (T.setTop (mkF m pc Ls (.int z :: rest))) :=
  own_out X (fun h => by rw [hret] at h; cases h) hlk eT hG hC hS (fun fs hr => retOut X hx hret rfl (Or.inl ⟨rfl, Or.inl rfl, _, rfl⟩) hd hr)
theorem own_retJ (X : Stand p l e R s m args below meth c T locs cells slots) (hx : p.tables.exec = Jvm.exec) {pc : Nat} {Ls : Array Slot} {z : Int64} {rest : List Value} (hret : meth.sig.returnType = some .long) (hd : decode c.code pc = .ok (.lreturn, 1)) (hlk : meth.locks = false)
    {G : Option Value → Heap → List Loc → Prop} {C S : Nat} {h : Heap} (eT : T.heap = h) (hG : G (some (.long z)) h locs) (hC : cells ≤ C) (hS : slots ≤ S) : own_Ends p e below (own_Fin s G C S) (T.setTop (mkF m pc Ls (.long z :: rest))) :=
  own_out X (fun h => by rw [hret] at h; cases h) hlk eT hG hC hS (fun fs hr => retOut X hx hret rfl (Or.inr (Or.inl ⟨rfl, rfl, _, rfl⟩)) hd hr)
theorem own_retR (X : Stand p l e R s m args below meth c T locs cells slots) (hx : p.tables.exec = Jvm.exec) {pc : Nat} {Ls : Array Slot} {a : Addr} {t : FieldType} {rest : List Value} (hret : meth.sig.returnType = some t) (ht : t.isReference = true) (hd : decode c.code pc = .ok (.areturn, 1)) (hlk : meth.locks = false)
    {G : Option Value → Heap → List Loc → Prop} {C S : Nat} {h : Heap} (eT : T.heap = h) (hG : G (some (.ref a)) h locs) (hC : cells ≤ C) (hS : slots ≤ S) : own_Ends p e below (own_Fin s G C S) (T.setTop (mkF m pc Ls (.ref a :: rest))) :=
  own_out X (fun h => by rw [hret] at h; cases h) hlk eT hG hC hS (fun fs hr => retOut X hx hret (by cases t <;> first | rfl | (simp [FieldType.isReference] at ht)) (Or.inr (Or.inr (Or.inr (Or.inr ⟨rfl, ht, rfl⟩)))) hd hr)
theorem own_retV (X : Stand p l e R s m args below meth c T locs cells slots) (hx : p.tables.exec = Jvm.exec) {pc : Nat} {Ls : Array Slot} (hret : meth.sig.returnType = none) (hd : decode c.code pc = .ok (.return_, 1)) (hlk : meth.locks = false)
    {G : Option Value → Heap → List Loc → Prop} {C S : Nat} {h : Heap} (eT : T.heap = h) (hG : G none h locs) (hC : cells ≤ C) (hS : slots ≤ S) : own_Ends p e below (own_Fin s G C S) (T.setTop (mkF m pc Ls [])) :=
  own_out X (fun _ => rfl) hlk eT hG hC hS (fun fs hr => X.returnOut hx hret hd hr)
theorem own_len (X : Stand p l e R s m args below meth c T locs cells slots) (hx : p.tables.exec = Jvm.exec) {h : Heap} (eT : T.heap = h) {Z : State} (hZ : Z.Warmed39 s.vm) {a : Addr} {cl : Cell} {ty : FieldType} {z : Int32} (A : Arr Z h a cl ty) (S : cl.slots.size = z.toNatClampNeg) (M : ¬ z < 0)
    {g : JFrame} (hg : g.method = m) {rest : List Value} (hs : g.stack = .ref a :: rest) (hd : decode c.code g.pc = .ok (.arraylength, 1)) {target : State} (k : Steps p.tables e below (T.setTop { g with pc := g.pc + 1, stack := .int z :: rest }) target) : Steps p.tables e below (T.setTop g) target := by
  refine X.arraylength hx (by rw [eT]; exact A.1) (State.isArrayOf_alike hZ.alike A.2.1) hg hs hd _ ?_
  rw [len_of S M]
  exact k
theorem own_setAny {Z : State} {h h' : Heap} {a : Addr} {cl : Cell} {k : ClassId} {ty : FieldType} {z : Int32} {vs : List Value} {dv v : Value} {j : Nat} (A : Arr Z h a cl ty) (q1 : cl.cls = k) (S : cl.slots.size = z.toNatClampNeg) (q3 : ¬ z < 0) (H : Has cl vs dv) (G : ∀ i, i < cl.slots.size → fits ty (vs.getD i dv) = true) (hv : fits ty v = true) (W : Wr h h' a j v) : ∃ vs', Arv Z h' a k ty z vs' dv := by
  have E : ∀ x, x < (cl.setSlot j v).slots.size → (cl.setSlot j v).slots[x]? = some ((cl.setSlot j v).slots.toList.getD x dv) := fun x hx => by
    rw [List.getD_eq_getElem?_getD, Array.getElem?_toList, Array.getElem?_eq_getElem hx]; rfl
  refine ⟨(cl.setSlot j v).slots.toList, _, A.same W, q1, by rw [sz_set]; exact S, q3, E, fun x hx => ?_⟩
  have hx' := hx
  rw [sz_set] at hx'
  have e1 := E x hx
  by_cases u : j = x
  · subst u
    have : (cl.setSlot j v).slots[j]? = some v := by simp [Cell.setSlot, hx']
    rw [this] at e1
    rw [← Option.some.inj e1]; exact hv
  · have : (cl.setSlot j v).slots[x]? = cl.slots[x]? := by simp [Cell.setSlot, Array.getElem?_setIfInBounds_ne u]
    rw [this, H x hx'] at e1
    rw [← Option.some.inj e1]; exact G x hx'
theorem own_staK {Z : State} {h h' : Heap} {a : Addr} {C n d D : String} {v : Value} (F : Sta Z h C n d v) (K : Keep h h' [a]) (E : Exa Z h a D) : Sta Z h' C n d v := by
  obtain ⟨cf, i, k, f, st, cell, h1, h2, h3, h4, h5, h6, h7⟩ := F
  obtain ⟨cl, kc, g1, -, -, g4, -⟩ := E
  have ne : st ≠ a := fun q => by subst q; cases h5.symm.trans g1; rw [h6] at g4; cases g4
  exact ⟨cf, i, k, f, st, cell, h1, h2, h3, h4, K.2.1 st cell h5 (ninS ne nin0), h6, h7⟩
theorem own_staK0 {Z : State} {h h' : Heap} {C n d : String} {v : Value} (F : Sta Z h C n d v) (K : Keep h h' []) : Sta Z h' C n d v := by
  obtain ⟨cf, i, k, f, st, cell, h1, h2, h3, h4, h5, h6, h7⟩ := F
  exact ⟨cf, i, k, f, st, cell, h1, h2, h3, h4, K.2.1 st cell h5 nin0, h6, h7⟩
theorem own_selP {Z : State} {a0 : Array Value} {y : MethodName} {kk : Nat} (hZ : Z.Warmed39 s.vm) (wi : (Cond.instantiable y.cls kk).before a0 Z = true) (wp : (Cond.privateMethod y).before a0 Z = true) (wm : (Cond.instanceMethod y).before a0 Z = true) (hy : y.cls ≠ "java/lang/invoke/MethodHandle" ∧ y.cls ≠ "java/lang/invoke/VarHandle") : (Cond.selects y.cls y y).before args s = true := by
  have wi' : (Cond.instantiable y.cls kk).before args s = true := mvT hZ wi
  obtain ⟨c', k', h1, h2, -, h4, -⟩ := Cond.instantiable_spec wi'
  have h5 : k'.isInterface = false := by
    cases q : k'.isInterface with
    | false => rfl
    | true => rw [q] at h4; simp at h4
  exact selects_self_of_private h1 h2 h5 (Cond.privateMethod_at (mvP hZ wp (args := args))) (mvT hZ wm) hy
/-- what lcmp pushes; the unsigned shifts -/
def own_cmpL (x y : Int64) : Int32 := if x > y then 1 else if x = y then 0 else -1
def own_ushr (x y : Int32) : Int32 := (x.toUInt32 >>> (y &&& 31).toUInt32).toInt32
def own_ushrL (x : Int64) (y : Int32) : Int64 := (x.toUInt64 >>> (y &&& 0x3f).toInt64.toUInt64).toInt64
theorem own_clt (x y : Int64) : own_cmpL x y < 0 ↔ x < y := lw_lt x y
theorem own_cgt (x y : Int64) : 0 < own_cmpL x y ↔ y < x := lw_gt x y
theorem own_ceq (x y : Int64) : own_cmpL x y = 0 ↔ x = y := lw_eq x y
end Own
theorem own_d2_0 : decode jdk_43_method_3_code 0 = .ok (.iload_n 0, 1) := by decide +kernel
theorem own_d2_1 : decode jdk_43_method_3_code 1 = .ok (.sipush 255, 3) := by decide +kernel
theorem own_d2_4 : decode jdk_43_method_3_code 4 = .ok (.if_icmp .gt 7, 3) := by decide +kernel
theorem own_d2_7 : decode jdk_43_method_3_code 7 = .ok (.iconst 1, 1) := by decide +kernel
theorem own_d2_8 : decode jdk_43_method_3_code 8 = .ok (.goto 4, 3) := by decide +kernel
theorem own_d2_11 : decode jdk_43_method_3_code 11 = .ok (.iconst 0, 1) := by decide +kernel
theorem own_d2_12 : decode jdk_43_method_3_code 12 = .ok (.ireturn, 1) := by decide +kernel
def own_can (p0 : Int32) : Int32 := if (255 : Int32) < p0 then (0 : Int32) else (1 : Int32)
theorem own_pn0 : plainName "java/lang/StringLatin1" = true := by first | (simp [plainName, overriddenIn]; done) | decide +kernel
theorem own_ef_rm1 (m : MethodId) (x0 : Int32) : entryFrame m #[(.int x0)] 1 = mkF m 0 #[.val (.int x0)] [] := by first | (simp [entryFrame, mkF, argsToLocals, Value.category]; done) | rfl
def own_Q_rm1 (Z : State) (p0 : Int32) (h0 : Heap) (n0 : Nat) (v : Option Value) (h : Heap) (L : List Loc) : Prop := v = some (.int (own_can p0)) ∧ Fr n0 L ∧ h = h0
set_option maxRecDepth 65536 in
set_option maxHeartbeats 40000000 in
theorem rm1 (l : Launch) (Z : State) (a0 : Array Value) (hw : ∀ d ∈ tables_1, d.before a0 Z = true) (ws : List Jvm.Cond) (p0 : Int32) (h0 : Heap) (n0 : Nat) (Z0 : n0 ≤ h0.size) :
    MetFree l (⟨"java/lang/StringLatin1", "canEncode", "(C)Z"⟩ : MethodName) (head1 (Jvm.Cond.code (⟨"java/lang/StringLatin1", "canEncode", "(C)Z"⟩ : MethodName) jdk_43_method_3_code 1 (some .boolean) :: ws) ({ frames := 0, cells := 0, slots := 0, locals := 0 } : Room)) (fun a U => a = #[(.int p0)] ∧ Z.Warmed39 U.vm ∧ U.heap = h0) (fun _ _ _ _ _ => True) (fun _ U o U' => ∃ v L, o = .returned v ∧ (own_Q_rm1 Z p0 h0 n0) v U'.heap L ∧ FrameEnd U o U' L ({ frames := 0, cells := 0, slots := 0, locals := 0 } : Room).cells ({ frames := 0, cells := 0, slots := 0, locals := 0 } : Room).slots) := by
  refine MetFree.of_bodySF (plainFor_of_name own_pn0) hisR ?_
  intro p e s m args below meth c s₁ Bd hml0 hP hK
  obtain ⟨rfl, hZ, hh⟩ := hP
  have hx := Bd.exec
  have hby := Bd.bytes
  have hml : c.maxLocals = 1 := hml0
  have hown : s.vm.findClass "java/lang/StringLatin1" = some m.cls := findClass_of_methodNamed Bd.named
  have hnm := (name_of_methodNamed Bd.named Bd.method).1
  have hlk : meth.locks = false := BodyLoose.notSynchronized Bd
  have X0 : Stand p l e ({ frames := 0, cells := 0, slots := 0, locals := 0 } : Room) s m #[(.int p0)] below meth c s₁ [] 0 0 := Stand.of_body Bd
  have e0 : s₁.heap = h0 := by rw [← hh, Bd.state]; rfl
  have N0 := Fr.nil n0
  show own_Ends p e below (own_Fin s (own_Q_rm1 Z p0 h0 n0) ({ frames := 0, cells := 0, slots := 0, locals := 0 } : Room).cells ({ frames := 0, cells := 0, slots := 0, locals := 0 } : Room).slots) _
  refine own_pre (fun t k => castTop (own_ef_rm1 m p0) k) ?_
  have J0 : ∀ (G : Option Value → Heap → List Loc → Prop) (hG : ∀ L, Fr n0 L → G (some (.int (if (255 : Int32) < p0 then (0 : Int32) else (1 : Int32)))) h0 L), own_Ends p e below (own_Fin s G ({ frames := 0, cells := 0, slots := 0, locals := 0 } : Room).cells ({ frames := 0, cells := 0, slots := 0, locals := 0 } : Room).slots) (s₁.setTop (mkF m 0 #[.val (.int p0)] [])) := by
    intro G hG
    show own_Ends _ _ _ _ (s₁.setTop (mkF m 0 #[.val (.int p0)] []))
    refine own_pre (fun t k => XS.iloadN X0.here hx rfl (hb hby own_d2_0) rfl k) ?_
    show own_Ends _ _ _ _ (s₁.setTop (mkF m 1 #[.val (.int p0)] [(.int p0)]))
    refine own_pre (fun t k => XS.sipush X0.here hx rfl (hb hby own_d2_1) k) ?_
    show own_Ends _ _ _ _ (s₁.setTop (mkF m 4 #[.val (.int p0)] [(.int (255 : Int32)), (.int p0)]))
    by_cases hc1 : (255 : Int32) < p0
    · skip
      rw [if_pos hc1] at hG
      refine own_pre (fun t k => XS.icmpYes X0.here hx rfl (pc0 := 4) (pc' := 11) rfl (hb hby own_d2_4) rfl (tlt hc1).2.2.1 (by decide) (by decide) k) ?_
      show own_Ends _ _ _ _ (s₁.setTop (mkF m 11 #[.val (.int p0)] []))
      refine own_pre (fun t k => XS.iconst X0.here hx rfl (hb hby own_d2_11) k) ?_
      show own_Ends _ _ _ _ (s₁.setTop (mkF m 12 #[.val (.int p0)] [(.int (0 : Int32))]))
      exact own_retN X0 hx (t := .boolean) Bd.returns (by simp) (hb hby own_d2_12) hlk rfl e0 (hG _ N0) (by decide) (by decide)
    · skip
      rw [if_neg hc1] at hG
      refine own_pre (fun t k => XS.icmpNo X0.here hx rfl (hb hby own_d2_4) rfl (flt hc1).2.2.1 k) ?_
      show own_Ends _ _ _ _ (s₁.setTop (mkF m 7 #[.val (.int p0)] []))
      refine own_pre (fun t k => XS.iconst X0.here hx rfl (hb hby own_d2_7) k) ?_
      show own_Ends _ _ _ _ (s₁.setTop (mkF m 8 #[.val (.int p0)] [(.int (1 : Int32))]))
      refine own_pre (fun t k => XS.goto X0.here hx rfl (pc0 := 8) (pc' := 12) rfl (hb hby own_d2_8) (by decide) (by decide) k) ?_
      show own_Ends _ _ _ _ (s₁.setTop (mkF m 12 #[.val (.int p0)] [(.int (1 : Int32))]))
      exact own_retN X0 hx (t := .boolean) Bd.returns (by simp) (hb hby own_d2_12) hlk rfl e0 (hG _ N0) (by decide) (by decide)
  exact J0 _ fun L q => ⟨rfl, q, rfl⟩
theorem own_d3_0 : decode jdk_43_method_46_code 0 = .ok (.iconst 1, 1) := by decide +kernel
theorem own_d3_1 : decode jdk_43_method_46_code 1 = .ok (.newarray .byte, 2) := by decide +kernel
theorem own_d3_3 : decode jdk_43_method_46_code 3 = .ok (.dup, 1) := by decide +kernel
theorem own_d3_4 : decode jdk_43_method_46_code 4 = .ok (.iconst 0, 1) := by decide +kernel
theorem own_d3_5 : decode jdk_43_method_46_code 5 = .ok (.iload_n 0, 1) := by decide +kernel
theorem own_d3_6 : decode jdk_43_method_46_code 6 = .ok (.i2b, 1) := by decide +kernel
theorem own_d3_7 : decode jdk_43_method_46_code 7 = .ok (.bastore, 1) := by decide +kernel
theorem own_d3_8 : decode jdk_43_method_46_code 8 = .ok (.areturn, 1) := by decide +kernel
theorem own_ef_rm2 (m : MethodId) (x0 : Int32) : entryFrame m #[(.int x0)] 1 = mkF m 0 #[.val (.int x0)] [] := by first | (simp [entryFrame, mkF, argsToLocals, Value.category]; done) | rfl
def own_Q_rm2 (Z : State) (p0 : Int32) (h0 : Heap) (n0 : Nat) (v : Option Value) (h : Heap) (L : List Loc) : Prop := ∃ b : Addr, v = some (.ref b) ∧ Fr n0 L ∧ Keep h0 h []
set_option maxRecDepth 65536 in
set_option maxHeartbeats 40000000 in
theorem rm2 (l : Launch) (Z : State) (a0 : Array Value) (hw : ∀ d ∈ tables_1, d.before a0 Z = true) (ws : List Jvm.Cond) (p0 : Int32) (h0 : Heap) (n0 : Nat) (Z0 : n0 ≤ h0.size) :
    MetFree l (⟨"java/lang/StringLatin1", "toBytes", "(C)[B"⟩ : MethodName) (head1 (Jvm.Cond.code (⟨"java/lang/StringLatin1", "toBytes", "(C)[B"⟩ : MethodName) jdk_43_method_46_code 1 (some (.array .byte)) :: ws) ({ frames := 0, cells := 1, slots := 1, locals := 0 } : Room)) (fun a U => a = #[(.int p0)] ∧ Z.Warmed39 U.vm ∧ U.heap = h0) (fun _ _ _ _ _ => True) (fun _ U o U' => ∃ v L, o = .returned v ∧ (own_Q_rm2 Z p0 h0 n0) v U'.heap L ∧ FrameEnd U o U' L ({ frames := 0, cells := 1, slots := 1, locals := 0 } : Room).cells ({ frames := 0, cells := 1, slots := 1, locals := 0 } : Room).slots) := by
  refine MetFree.of_bodySF (plainFor_of_name own_pn0) hisR ?_
  intro p e s m args below meth c s₁ Bd hml0 hP hK
  obtain ⟨rfl, hZ, hh⟩ := hP
  have hx := Bd.exec
  have hby := Bd.bytes
  have hml : c.maxLocals = 1 := hml0
  have hown : s.vm.findClass "java/lang/StringLatin1" = some m.cls := findClass_of_methodNamed Bd.named
  have hnm := (name_of_methodNamed Bd.named Bd.method).1
  have hlk : meth.locks = false := BodyLoose.notSynchronized Bd
  have X0 : Stand p l e ({ frames := 0, cells := 1, slots := 1, locals := 0 } : Room) s m #[(.int p0)] below meth c s₁ [] 0 0 := Stand.of_body Bd
  have e0 : s₁.heap = h0 := by rw [← hh, Bd.state]; rfl
  have N0 := Fr.nil n0
  show own_Ends p e below (own_Fin s (own_Q_rm2 Z p0 h0 n0) ({ frames := 0, cells := 1, slots := 1, locals := 0 } : Room).cells ({ frames := 0, cells := 1, slots := 1, locals := 0 } : Room).slots) _
  refine own_pre (fun t k => castTop (own_ef_rm2 m p0) k) ?_
  have KK0 : Keep h0 h0 [] := Keep.refl _ _
  show own_Ends _ _ _ _ (s₁.setTop (mkF m 0 #[.val (.int p0)] []))
  refine own_pre (fun t k => XS.iconst X0.here hx rfl (hb hby own_d3_0) k) ?_
  show own_Ends _ _ _ _ (s₁.setTop (mkF m 1 #[.val (.int p0)] [(.int (1 : Int32))]))
  obtain ⟨T2, h2, k2, X2, e2, E2, A2, st2⟩ := newP X0 hx hZ (hw _ (List.mem_of_getElem? (i := 14) rfl)) e0 (g := (mkF m 1 #[.val (.int p0)] [(.int (1 : Int32))])) rfl (hb hby own_d3_1) rfl (by decide) (cap := 1) (by decide) (by decide) (by decide) (by decide)
  obtain ⟨b2, g2⟩ : ∃ z, z = h0.size := ⟨_, rfl⟩
  rw [← g2] at A2 st2
  refine own_pre st2 ?_
  have L3 : n0 ≤ b2 := Nat.le_trans Z0 (Nat.le_of_eq g2.symm)
  have L4 : h0.size ≤ b2 := Nat.le_trans KK0.1 (Nat.le_of_eq g2.symm)
  have K5 : Keep h0 h2 [] := KK0.ext E2
  have Zn6 : n0 ≤ h2.size := Nat.le_trans Z0 E2.1
  have f7 : Arv Z h2 b2 k2 .byte (1 : Int32) [(.int (0 : Int32))] (.int (0 : Int32)) := (Arv.new A2 (by decide)).pad (pad_rep [] (.int (0 : Int32)) 1)
  show own_Ends _ _ _ _ (T2.setTop (mkF m 3 #[.val (.int p0)] [(.ref b2)]))
  refine own_pre (fun t k => XS.dup X2.here hx rfl (hb hby own_d3_3) rfl rfl k) ?_
  show own_Ends _ _ _ _ (T2.setTop (mkF m 4 #[.val (.int p0)] [(.ref b2), (.ref b2)]))
  refine own_pre (fun t k => XS.iconst X2.here hx rfl (hb hby own_d3_4) k) ?_
  show own_Ends _ _ _ _ (T2.setTop (mkF m 5 #[.val (.int p0)] [(.int (0 : Int32)), (.ref b2), (.ref b2)]))
  refine own_pre (fun t k => XS.iloadN X2.here hx rfl (hb hby own_d3_5) rfl k) ?_
  show own_Ends _ _ _ _ (T2.setTop (mkF m 6 #[.val (.int p0)] [(.int p0), (.int (0 : Int32)), (.ref b2), (.ref b2)]))
  refine own_pre (fun t k => XS.i2b X2.here hx rfl (hb hby own_d3_6) rfl k) ?_
  show own_Ends _ _ _ _ (T2.setTop (mkF m 7 #[.val (.int p0)] [(.int (p0.toInt8.toInt32)), (.int (0 : Int32)), (.ref b2), (.ref b2)]))
  obtain ⟨cl8, Ar8, q8, S8, M8, H8, G8⟩ := id (f7)
  have hin8 : ¬ ((0 : Int32) < 0 ∨ cl8.slots.size ≤ ((0 : Int32)).toNatClampNeg) := inb_of S8 ⟨by decide, by decide⟩
  obtain ⟨T8, h8, X8, e8, W8, st8⟩ := stB X2 hx hZ e2 Ar8 (j := (0 : Int32)) hin8 (g := (mkF m 7 #[.val (.int p0)] [(.int (p0.toInt8.toInt32)), (.int (0 : Int32)), (.ref b2), (.ref b2)])) rfl rfl (hb hby own_d3_7)
  refine own_pre st8 ?_
  have f9x := Arv.set Ar8 q8 S8 M8 H8 G8 (show fits .byte (.int (nar .byte (p0.toInt8.toInt32))) = true from (fits_nar_byte _)) W8 0 rfl (Nat.le_of_ble_eq_true rfl)
  have f9 : Arv Z h8 b2 k2 .byte (1 : Int32) [(.int (nar .byte (p0.toInt8.toInt32)))] (.int (0 : Int32)) := f9x
  have N10 := Fr.snoc X8 N0 L3
  have Zn11 : n0 ≤ h8.size := by rw [W8.size]; exact Zn6
  have K12 : Keep h0 h8 [] := K5.wr W8 (Or.inr L4)
  show own_Ends _ _ _ _ (T8.setTop (mkF m 8 #[.val (.int p0)] [(.ref b2)]))
  exact own_retR X8 hx Bd.returns rfl (hb hby own_d3_8) hlk e8 ⟨_, rfl, N10, K12⟩ (by decide) (by decide)
theorem own_d4_0 : decode jdk_42_method_151_code 0 = .ok (.aload_n 0, 1) := by decide +kernel
theorem own_d4_1 : decode jdk_42_method_151_code 1 = .ok (.invokespecial 1, 3) := by decide +kernel
theorem own_d4_4 : decode jdk_42_method_151_code 4 = .ok (.aload_n 0, 1) := by decide +kernel
theorem own_d4_5 : decode jdk_42_method_151_code 5 = .ok (.aload_n 1, 1) := by decide +kernel
theorem own_d4_6 : decode jdk_42_method_151_code 6 = .ok (.putfield 9, 3) := by decide +kernel
theorem own_d4_9 : decode jdk_42_method_151_code 9 = .ok (.aload_n 0, 1) := by decide +kernel
theorem own_d4_10 : decode jdk_42_method_151_code 10 = .ok (.iload_n 2, 1) := by decide +kernel
theorem own_d4_11 : decode jdk_42_method_151_code 11 = .ok (.putfield 15, 3) := by decide +kernel
theorem own_d4_14 : decode jdk_42_method_151_code 14 = .ok (.return_, 1) := by decide +kernel
theorem own_pn1 : plainName "java/lang/String" = true := by first | (simp [plainName, overriddenIn]; done) | decide +kernel
theorem own_ef_rm3 (m : MethodId) (x0 : Addr) (x1 : Addr) (x2 : Int32) : entryFrame m #[(.ref x0), (.ref x1), (.int x2)] 3 = mkF m 0 #[.val (.ref x0), .val (.ref x1), .val (.int x2)] [] := by first | (simp [entryFrame, mkF, argsToLocals, Value.category]; done) | rfl
def own_Q_rm3 (Z : State) (a0r : Addr) (r1 : Addr) (p2 : Int32) (h0 : Heap) (n0 : Nat) (v : Option Value) (h : Heap) (L : List Loc) : Prop := v = none ∧ Fr n0 L ∧ Keep h0 h [a0r] ∧ Fld Z h a0r "java/lang/String" "value" "[B" (.ref r1) ∧ Fld Z h a0r "java/lang/String" "coder" "B" (.int (nar .byte p2))
set_option maxRecDepth 65536 in
set_option maxHeartbeats 40000000 in
theorem rm3 (l : Launch) (Z : State) (a0 : Array Value) (hw : ∀ d ∈ tables_1, d.before a0 Z = true) (ws : List Jvm.Cond) (a0r : Addr) (r1 : Addr) (p2 : Int32) (h0 : Heap) (n0 : Nat) (Z0 : n0 ≤ h0.size) (EX : Exa Z h0 a0r "java/lang/String") (g0r : n0 ≤ a0r) (F_value : Fld Z h0 a0r "java/lang/String" "value" "[B" .null) (F_coder : Fld Z h0 a0r "java/lang/String" "coder" "B" (.int (0 : Int32))) :
    MetFree l (⟨"java/lang/String", "<init>", "([BB)V"⟩ : MethodName) (head1 (Jvm.Cond.code (⟨"java/lang/String", "<init>", "([BB)V"⟩ : MethodName) jdk_42_method_151_code 3 none :: ws) ({ frames := 1, cells := 0, slots := 0, locals := 12 } : Room)) (fun a U => a = #[(.ref a0r), (.ref r1), (.int p2)] ∧ Z.Warmed39 U.vm ∧ U.heap = h0) (fun _ _ _ _ _ => True) (fun _ U o U' => ∃ v L, o = .returned v ∧ (own_Q_rm3 Z a0r r1 p2 h0 n0) v U'.heap L ∧ FrameEnd U o U' L ({ frames := 1, cells := 0, slots := 0, locals := 12 } : Room).cells ({ frames := 1, cells := 0, slots := 0, locals := 12 } : Room).slots) := by
  refine MetFree.of_bodySF (plainFor_of_name own_pn1) hisR ?_
  intro p e s m args below meth c s₁ Bd hml0 hP hK
  obtain ⟨rfl, hZ, hh⟩ := hP
  have hx := Bd.exec
  have hby := Bd.bytes
  have hml : c.maxLocals = 3 := hml0
  have hown : s.vm.findClass "java/lang/String" = some m.cls := findClass_of_methodNamed Bd.named
  have hnm := (name_of_methodNamed Bd.named Bd.method).1
  have hlk : meth.locks = false := BodyLoose.notSynchronized Bd
  have X0 : Stand p l e ({ frames := 1, cells := 0, slots := 0, locals := 12 } : Room) s m #[(.ref a0r), (.ref r1), (.int p2)] below meth c s₁ [] 0 0 := Stand.of_body Bd
  have e0 : s₁.heap = h0 := by rw [← hh, Bd.state]; rfl
  have N0 := Fr.nil n0
  show own_Ends p e below (own_Fin s (own_Q_rm3 Z a0r r1 p2 h0 n0) ({ frames := 1, cells := 0, slots := 0, locals := 12 } : Room).cells ({ frames := 1, cells := 0, slots := 0, locals := 12 } : Room).slots) _
  refine own_pre (fun t k => castTop (own_ef_rm3 m a0r r1 p2) k) ?_
  have KK0 : Keep h0 h0 [a0r] := Keep.refl _ _
  show own_Ends _ _ _ _ (s₁.setTop (mkF m 0 #[.val (.ref a0r), .val (.ref r1), .val (.int p2)] []))
  refine own_pre (fun t k => XS.aloadN X0.here hx rfl (hb hby own_d4_0) rfl rfl k) ?_
  show own_Ends _ _ _ _ (s₁.setTop (mkF m 1 #[.val (.ref a0r), .val (.ref r1), .val (.int p2)] [(.ref a0r)]))
  obtain ⟨T13, X13, e13, st13⟩ := initO X0 hx hZ hown (hw _ (List.mem_of_getElem? (i := 19) rfl)) (hw _ (List.mem_of_getElem? (i := 20) rfl)) (hw _ (List.mem_of_getElem? (i := 21) rfl)) e0 (g := (mkF m 1 #[.val (.ref a0r), .val (.ref r1), .val (.int p2)] [(.ref a0r)])) rfl (by rw [hml]; rfl) rfl (hb hby own_d4_1) (by decide) (W := 0) (by show 2 * 0 + _ ≤ _; exact Nat.le_of_eq rfl) (by decide)
  refine own_pre st13 ?_
  show own_Ends _ _ _ _ (T13.setTop (mkF m 4 #[.val (.ref a0r), .val (.ref r1), .val (.int p2)] []))
  refine own_pre (fun t k => XS.aloadN X13.here hx rfl (hb hby own_d4_4) rfl rfl k) ?_
  show own_Ends _ _ _ _ (T13.setTop (mkF m 5 #[.val (.ref a0r), .val (.ref r1), .val (.int p2)] [(.ref a0r)]))
  refine own_pre (fun t k => XS.aloadN X13.here hx rfl (hb hby own_d4_5) rfl rfl k) ?_
  show own_Ends _ _ _ _ (T13.setTop (mkF m 6 #[.val (.ref a0r), .val (.ref r1), .val (.int p2)] [(.ref r1), (.ref a0r)]))
  obtain ⟨T14, h14, X14, e14, W14, st14⟩ := putF X13 hx hZ hown (host := "") (Or.inl (hw _ (List.mem_of_getElem? (i := 22) rfl))) Via.refl e13 F_value EX (Or.inr ⟨(hw _ (List.mem_of_getElem? (i := 23) rfl)), rfl, hnm⟩) (hw _ (List.mem_of_getElem? (i := 10) rfl)) (ty := (.array .byte)) (by decide) rfl rfl (g := (mkF m 6 #[.val (.ref a0r), .val (.ref r1), .val (.int p2)] [(.ref r1), (.ref a0r)])) rfl rfl (hb hby own_d4_6)
  refine own_pre st14 ?_
  have fw14 := F_value.same W14
  have f15 := EX.wr W14
  have f16 := F_coder.other W14 (Or.inr (slot_ne (Or.inr (hw _ (List.mem_of_getElem? (i := 25) rfl))) (Or.inr (hw _ (List.mem_of_getElem? (i := 23) rfl))) (by decide) (t := .byte) (t' := (.array .byte)) (by decide) (by decide)))
  have N17 := Fr.snoc X14 N0 g0r
  have Zn18 : n0 ≤ h14.size := by rw [W14.size]; exact Z0
  have K19 : Keep h0 h14 [a0r] := KK0.wr W14 (Or.inl (by simp))
  show own_Ends _ _ _ _ (T14.setTop (mkF m 9 #[.val (.ref a0r), .val (.ref r1), .val (.int p2)] []))
  refine own_pre (fun t k => XS.aloadN X14.here hx rfl (hb hby own_d4_9) rfl rfl k) ?_
  show own_Ends _ _ _ _ (T14.setTop (mkF m 10 #[.val (.ref a0r), .val (.ref r1), .val (.int p2)] [(.ref a0r)]))
  refine own_pre (fun t k => XS.iloadN X14.here hx rfl (hb hby own_d4_10) rfl k) ?_
  show own_Ends _ _ _ _ (T14.setTop (mkF m 11 #[.val (.ref a0r), .val (.ref r1), .val (.int p2)] [(.int p2), (.ref a0r)]))
  obtain ⟨T20, h20, X20, e20, W20, st20⟩ := putFN X14 hx hZ hown (hw _ (List.mem_of_getElem? (i := 24) rfl)) Via.refl e14 f16 f15 (Or.inr ⟨(hw _ (List.mem_of_getElem? (i := 25) rfl)), rfl, hnm⟩) (hw _ (List.mem_of_getElem? (i := 10) rfl)) (ty := .byte) (v' := (.int (nar .byte p2))) (by decide) rfl (fits_nar_byte _) (g := (mkF m 11 #[.val (.ref a0r), .val (.ref r1), .val (.int p2)] [(.int p2), (.ref a0r)])) rfl rfl (hb hby own_d4_11)
  refine own_pre st20 ?_
  have fw20 := f16.same W20
  have f21 := f15.wr W20
  have f22 := fw14.other W20 (Or.inr (slot_ne (Or.inr (hw _ (List.mem_of_getElem? (i := 23) rfl))) (Or.inr (hw _ (List.mem_of_getElem? (i := 25) rfl))) (by decide) (t := (.array .byte)) (t' := .byte) (by decide) (by decide)))
  have N23 := Fr.snoc X20 N17 g0r
  have Zn24 : n0 ≤ h20.size := by rw [W20.size]; exact Zn18
  have K25 : Keep h0 h20 [a0r] := K19.wr W20 (Or.inl (by simp))
  show own_Ends _ _ _ _ (T20.setTop (mkF m 14 #[.val (.ref a0r), .val (.ref r1), .val (.int p2)] []))
  exact own_retV X20 hx Bd.returns (hb hby own_d4_14) hlk e20 ⟨rfl, N23, K25, f22, fw20⟩ (by decide) (by decide)
theorem own_d1_0 : decode jdk_42_method_139_code 0 = .ok (.getstatic 38, 3) := by decide +kernel
theorem own_d1_3 : decode jdk_42_method_139_code 3 = .ok (.ifCond .eq 23, 3) := by decide +kernel
theorem own_d1_6 : decode jdk_42_method_139_code 6 = .ok (.iload_n 0, 1) := by decide +kernel
theorem own_pd0 : parseMethodDescriptor "(C)Z" = some ⟨[.char], some .boolean⟩ := by decide +kernel
theorem own_d1_7 : decode jdk_42_method_139_code 7 = .ok (.invokestatic 1015, 3) := by decide +kernel
theorem own_d1_10 : decode jdk_42_method_139_code 10 = .ok (.ifCond .eq 16, 3) := by decide +kernel
theorem own_d1_13 : decode jdk_42_method_139_code 13 = .ok (.new 10, 3) := by decide +kernel
theorem own_d1_16 : decode jdk_42_method_139_code 16 = .ok (.dup, 1) := by decide +kernel
theorem own_d1_17 : decode jdk_42_method_139_code 17 = .ok (.iload_n 0, 1) := by decide +kernel
theorem own_pd1 : parseMethodDescriptor "(C)[B" = some ⟨[.char], some (.array .byte)⟩ := by decide +kernel
theorem own_d1_18 : decode jdk_42_method_139_code 18 = .ok (.invokestatic 1018, 3) := by decide +kernel
theorem own_d1_21 : decode jdk_42_method_139_code 21 = .ok (.iconst 0, 1) := by decide +kernel
theorem own_pd2 : parseMethodDescriptor "([BB)V" = some ⟨[(.array .byte), .byte], none⟩ := by decide +kernel
theorem own_d1_22 : decode jdk_42_method_139_code 22 = .ok (.invokespecial 209, 3) := by decide +kernel
theorem own_d1_25 : decode jdk_42_method_139_code 25 = .ok (.areturn, 1) := by decide +kernel
theorem own_ef_rm4 (m : MethodId) (x0 : Int32) : entryFrame m #[(.int x0)] 1 = mkF m 0 #[.val (.int x0)] [] := by first | (simp [entryFrame, mkF, argsToLocals, Value.category]; done) | rfl
def own_Q_rm4 (Z : State) (p0 : Int32) (wc : Int32) (h0 : Heap) (n0 : Nat) (v : Option Value) (h : Heap) (L : List Loc) : Prop := ∃ b : Addr, v = some (.ref b) ∧ Fr n0 L ∧ Keep h0 h []
set_option maxRecDepth 65536 in
set_option maxHeartbeats 40000000 in
theorem rm4 (l : Launch) (Z : State) (a0 : Array Value) (hw : ∀ d ∈ tables_1, d.before a0 Z = true) (ws : List Jvm.Cond) (p0 : Int32) (wc : Int32) (h0 : Heap) (n0 : Nat) (Z0 : n0 ≤ h0.size) (Sc : Sta Z h0 "java/lang/String" "COMPACT_STRINGS" "Z" (.int wc)) (hwc : ¬ wc = 0) (hcan : ¬ own_can p0 = 0) :
    MetFree l (⟨"java/lang/String", "valueOf", "(C)Ljava/lang/String;"⟩ : MethodName) (head1 (Jvm.Cond.code (⟨"java/lang/String", "valueOf", "(C)Ljava/lang/String;"⟩ : MethodName) jdk_42_method_139_code 1 (some (.object "java/lang/String")) :: ws) ({ frames := 2, cells := 2, slots := 5, locals := 27 } : Room)) (fun a U => a = #[(.int p0)] ∧ Z.Warmed39 U.vm ∧ U.heap = h0) (fun _ _ _ _ _ => True) (fun _ U o U' => ∃ v L, o = .returned v ∧ (own_Q_rm4 Z p0 wc h0 n0) v U'.heap L ∧ FrameEnd U o U' L ({ frames := 2, cells := 2, slots := 5, locals := 27 } : Room).cells ({ frames := 2, cells := 2, slots := 5, locals := 27 } : Room).slots) := by
  refine MetFree.of_bodySF (plainFor_of_name own_pn1) hisR ?_
  intro p e s m args below meth c s₁ Bd hml0 hP hK
  obtain ⟨rfl, hZ, hh⟩ := hP
  have hx := Bd.exec
  have hby := Bd.bytes
  have hml : c.maxLocals = 1 := hml0
  have hown : s.vm.findClass "java/lang/String" = some m.cls := findClass_of_methodNamed Bd.named
  have hnm := (name_of_methodNamed Bd.named Bd.method).1
  have hlk : meth.locks = false := BodyLoose.notSynchronized Bd
  have X0 : Stand p l e ({ frames := 2, cells := 2, slots := 5, locals := 27 } : Room) s m #[(.int p0)] below meth c s₁ [] 0 0 := Stand.of_body Bd
  have e0 : s₁.heap = h0 := by rw [← hh, Bd.state]; rfl
  have N0 := Fr.nil n0
  show own_Ends p e below (own_Fin s (own_Q_rm4 Z p0 wc h0 n0) ({ frames := 2, cells := 2, slots := 5, locals := 27 } : Room).cells ({ frames := 2, cells := 2, slots := 5, locals := 27 } : Room).slots) _
  refine own_pre (fun t k => castTop (own_ef_rm4 m p0) k) ?_
  have KK0 : Keep h0 h0 [] := Keep.refl _ _
  show own_Ends _ _ _ _ (s₁.setTop (mkF m 0 #[.val (.int p0)] []))
  obtain ⟨T26, X26, e26, st26⟩ := getS2 X0 hx hZ hown (host := "") (Or.inl (hw _ (List.mem_of_getElem? (i := 4) rfl))) Via.refl e0 Sc (g := (mkF m 0 #[.val (.int p0)] [])) rfl (hb hby own_d1_0)
  refine own_pre st26 ?_
  show own_Ends _ _ _ _ (T26.setTop (mkF m 3 #[.val (.int p0)] [(.int wc)]))
  refine own_pre (fun t k => XS.ifNo X26.here hx rfl (hb hby own_d1_3) rfl ((if0 _ _).trans (feq (hwc : ¬ (wc = (0 : Int32)))).1) k) ?_
  show own_Ends _ _ _ _ (T26.setTop (mkF m 6 #[.val (.int p0)] []))
  refine own_pre (fun t k => XS.iloadN X26.here hx rfl (hb hby own_d1_6) rfl k) ?_
  show own_Ends _ _ _ _ (T26.setTop (mkF m 7 #[.val (.int p0)] [(.int p0)]))
  obtain ⟨_, _, ⟨T27, L27, k27, n27⟩, -, X27, ⟨Lc27, hQ27, l27, y27, z27⟩, st27⟩ := Jvm.LawKit.callS X26 hx (y := (⟨"java/lang/StringLatin1", "canEncode", "(C)Z"⟩ : MethodName)) hown (mvT hZ (hw _ (List.mem_of_getElem? (i := 5) rfl))) (mvT hZ (hw _ (List.mem_of_getElem? (i := 6) rfl))) (mvT hZ (hw _ (List.mem_of_getElem? (i := 7) rfl))) (mvT hZ (hw _ (List.mem_of_getElem? (i := 8) rfl))) (by decide) (backOf (W := 0) (rm1 l Z a0 hw [] p0 h0 n0 Z0) hZ (hw _ (List.mem_of_getElem? (i := 8) rfl)) (hw _ (List.mem_of_getElem? (i := 7) rfl)) (by decide) (by decide)) (g := (mkF m 7 #[.val (.int p0)] [(.int p0)])) rfl (by rw [hml]; rfl) (argsL := [(.int p0)]) (rest := []) (lenOf own_pd0 rfl) rfl (by show 2 * 0 + _ ≤ _; exact Nat.le_of_eq rfl) (hb hby own_d1_7) (fun _ _ => ⟨rfl, e26, (by decide : 0 + 0 ≤ _), (by decide : 0 + 0 ≤ _)⟩)
  dsimp only [Pt.U, Pt.locs, Pt.cells, Pt.slots] at X27 l27 y27 z27 st27 hQ27
  subst l27 y27 z27
  obtain ⟨rfl, Nq27, e27⟩ := hQ27
  have N27 := Fr.app N0 Nq27
  refine own_pre st27 ?_
  show own_Ends _ _ _ _ (T27.setTop (mkF m 10 #[.val (.int p0)] [(.int (own_can p0))]))
  refine own_pre (fun t k => XS.ifNo X27.here hx rfl (hb hby own_d1_10) rfl ((if0 _ _).trans (feq (hcan : ¬ ((own_can p0) = (0 : Int32)))).1) k) ?_
  show own_Ends _ _ _ _ (T27.setTop (mkF m 13 #[.val (.int p0)] []))
  obtain ⟨T28, h28, X28, e28, E28, A28, D28, -, st28⟩ := newO X27 hx hZ hown (hw _ (List.mem_of_getElem? (i := 9) rfl)) (hw _ (List.mem_of_getElem? (i := 10) rfl)) (hw _ (List.mem_of_getElem? (i := 2) rfl)) e27 (g := (mkF m 13 #[.val (.int p0)] [])) rfl (hb hby own_d1_13) (by decide) (by decide)
  obtain ⟨b28, g28⟩ : ∃ z, z = h0.size := ⟨_, rfl⟩
  rw [← g28] at A28 D28 st28
  refine own_pre st28 ?_
  have f29 := Sc.ext E28
  have L30 : n0 ≤ b28 := Nat.le_trans Z0 (Nat.le_of_eq g28.symm)
  have L31 : h0.size ≤ b28 := Nat.le_trans KK0.1 (Nat.le_of_eq g28.symm)
  have K32 : Keep h0 h28 [] := KK0.ext E28
  have Zn33 : n0 ≤ h28.size := Nat.le_trans Z0 E28.1
  have f34 : Fld Z h28 b28 "java/lang/String" "value" "[B" .null := D28 (Or.inr (hw _ (List.mem_of_getElem? (i := 23) rfl))) (ty := (.array .byte)) (by decide)
  have f35 : Fld Z h28 b28 "java/lang/String" "coder" "B" (.int (0 : Int32)) := D28 (Or.inr (hw _ (List.mem_of_getElem? (i := 25) rfl))) (ty := .byte) (by decide)
  show own_Ends _ _ _ _ (T28.setTop (mkF m 16 #[.val (.int p0)] [(.ref b28)]))
  refine own_pre (fun t k => XS.dup X28.here hx rfl (hb hby own_d1_16) rfl rfl k) ?_
  show own_Ends _ _ _ _ (T28.setTop (mkF m 17 #[.val (.int p0)] [(.ref b28), (.ref b28)]))
  refine own_pre (fun t k => XS.iloadN X28.here hx rfl (hb hby own_d1_17) rfl k) ?_
  show own_Ends _ _ _ _ (T28.setTop (mkF m 18 #[.val (.int p0)] [(.int p0), (.ref b28), (.ref b28)]))
  obtain ⟨_, _, ⟨T36, L36, k36, n36⟩, -, X36, ⟨Lc36, hQ36, l36, y36, z36⟩, st36⟩ := Jvm.LawKit.callS X28 hx (y := (⟨"java/lang/StringLatin1", "toBytes", "(C)[B"⟩ : MethodName)) hown (mvT hZ (hw _ (List.mem_of_getElem? (i := 11) rfl))) (mvT hZ (hw _ (List.mem_of_getElem? (i := 12) rfl))) (mvT hZ (hw _ (List.mem_of_getElem? (i := 7) rfl))) (mvT hZ (hw _ (List.mem_of_getElem? (i := 13) rfl))) (by decide) (backOf (W := 2) (rm2 l Z a0 hw [] p0 h28 n0 Zn33) hZ (hw _ (List.mem_of_getElem? (i := 13) rfl)) (hw _ (List.mem_of_getElem? (i := 7) rfl)) (by decide) (by decide)) (g := (mkF m 18 #[.val (.int p0)] [(.int p0), (.ref b28), (.ref b28)])) rfl (by rw [hml]; rfl) (argsL := [(.int p0)]) (rest := [(.ref b28), (.ref b28)]) (lenOf own_pd1 rfl) rfl (by show 2 * 0 + _ ≤ _; exact Nat.le_of_eq rfl) (hb hby own_d1_18) (fun _ _ => ⟨rfl, e28, (by decide : 1 + 1 ≤ _), (by decide : 4 + 1 ≤ _)⟩)
  dsimp only [Pt.U, Pt.locs, Pt.cells, Pt.slots] at X36 l36 y36 z36 st36 hQ36
  subst l36 y36 z36
  obtain ⟨br36, rfl, Nq36, Kq36⟩ := hQ36
  have N36 := Fr.app N27 Nq36
  have f37 := own_staK0 f29 Kq36
  have f38 := A28.keep Kq36
  have f39 := f34.keep Kq36 nin0
  have f40 := f35.keep Kq36 nin0
  have Zn36 : n0 ≤ T36.heap.size := Nat.le_trans Zn33 Kq36.1
  have K41 : Keep h0 T36.heap [] := K32.trans Kq36 all0
  refine own_pre st36 ?_
  show own_Ends _ _ _ _ (T36.setTop (mkF m 21 #[.val (.int p0)] [(.ref br36), (.ref b28), (.ref b28)]))
  refine own_pre (fun t k => XS.iconst X36.here hx rfl (hb hby own_d1_21) k) ?_
  show own_Ends _ _ _ _ (T36.setTop (mkF m 22 #[.val (.int p0)] [(.int (0 : Int32)), (.ref br36), (.ref b28), (.ref b28)]))
  obtain ⟨_, _, ⟨T42, L42, k42, n42⟩, -, X42, ⟨Lc42, hQ42, l42, y42, z42⟩, st42⟩ := X36.specialBack hx (y := (⟨"java/lang/String", "<init>", "([BB)V"⟩ : MethodName)) rfl hown (mvT hZ (hw _ (List.mem_of_getElem? (i := 15) rfl))) (mvT hZ (hw _ (List.mem_of_getElem? (i := 16) rfl))) (mvT hZ (hw _ (List.mem_of_getElem? (i := 18) rfl))) (by decide) (backOf (W := 1) (rm3 l Z a0 hw [] b28 br36 (0 : Int32) T36.heap n0 Zn36 f38 L30 f39 f40) hZ (hw _ (List.mem_of_getElem? (i := 18) rfl)) (hw _ (List.mem_of_getElem? (i := 2) rfl)) (by decide) (by decide)) (g := (mkF m 22 #[.val (.int p0)] [(.int (0 : Int32)), (.ref br36), (.ref b28), (.ref b28)])) rfl (by rw [hml]; rfl) (Steps.refl _) (a := b28) (argsL := [(.ref br36), (.int (0 : Int32))]) (rest := [(.ref b28)]) (lenOf own_pd2 rfl) rfl (by show 2 * 0 + _ ≤ _; exact Nat.le_of_eq rfl) (hb hby own_d1_22) (fun _ _ => ⟨rfl, rfl, (by decide : 2 + 0 ≤ _), (by decide : 5 + 0 ≤ _)⟩)
  dsimp only [Pt.U, Pt.locs, Pt.cells, Pt.slots] at X42 l42 y42 z42 st42 hQ42
  subst l42 y42 z42
  obtain ⟨rfl, Nq42, Kq42, f43, f44⟩ := hQ42
  have N42 := Fr.app N36 Nq42
  have f45 := own_staK f37 Kq42 f38
  have f46 := f38.keep Kq42
  have Zn42 : n0 ≤ T42.heap.size := Nat.le_trans Zn36 Kq42.1
  have K47 : Keep h0 T42.heap [] := K41.trans Kq42 (allS (Or.inr L31) all0)
  refine own_pre (fun t k => st42.trans k) ?_
  show own_Ends _ _ _ _ (T42.setTop (mkF m 25 #[.val (.int p0)] [(.ref b28)]))
  exact own_retR X42 hx Bd.returns rfl (hb hby own_d1_25) hlk rfl ⟨_, rfl, N42, K47⟩ (by decide) (by decide)
theorem own_d7_0 : decode jdk_30_method_1_code 0 = .ok (.aload_n 0, 1) := by decide +kernel
theorem own_d7_1 : decode jdk_30_method_1_code 1 = .ok (.invokespecial 1, 3) := by decide +kernel
theorem own_d7_4 : decode jdk_30_method_1_code 4 = .ok (.return_, 1) := by decide +kernel
theorem own_pn2 : plainName "java/lang/Record" = true := by first | (simp [plainName, overriddenIn]; done) | decide +kernel
theorem own_ef_rm5 (m : MethodId) (x0 : Addr) : entryFrame m #[(.ref x0)] 1 = mkF m 0 #[.val (.ref x0)] [] := by first | (simp [entryFrame, mkF, argsToLocals, Value.category]; done) | rfl
def own_Q_rm5 (Z : State) (a0r : Addr) (h0 : Heap) (n0 : Nat) (v : Option Value) (h : Heap) (L : List Loc) : Prop := v = none ∧ Fr n0 L ∧ h = h0
set_option maxRecDepth 65536 in
set_option maxHeartbeats 40000000 in
theorem rm5 (l : Launch) (Z : State) (a0 : Array Value) (hw : ∀ d ∈ tables_1, d.before a0 Z = true) (ws : List Jvm.Cond) (a0r : Addr) (h0 : Heap) (n0 : Nat) (Z0 : n0 ≤ h0.size) :
    MetFree l (⟨"java/lang/Record", "<init>", "()V"⟩ : MethodName) (head1 (Jvm.Cond.code (⟨"java/lang/Record", "<init>", "()V"⟩ : MethodName) jdk_30_method_1_code 1 none :: ws) ({ frames := 1, cells := 0, slots := 0, locals := 12 } : Room)) (fun a U => a = #[(.ref a0r)] ∧ Z.Warmed39 U.vm ∧ U.heap = h0) (fun _ _ _ _ _ => True) (fun _ U o U' => ∃ v L, o = .returned v ∧ (own_Q_rm5 Z a0r h0 n0) v U'.heap L ∧ FrameEnd U o U' L ({ frames := 1, cells := 0, slots := 0, locals := 12 } : Room).cells ({ frames := 1, cells := 0, slots := 0, locals := 12 } : Room).slots) := by
  refine MetFree.of_bodySF (plainFor_of_name own_pn2) hisR ?_
  intro p e s m args below meth c s₁ Bd hml0 hP hK
  obtain ⟨rfl, hZ, hh⟩ := hP
  have hx := Bd.exec
  have hby := Bd.bytes
  have hml : c.maxLocals = 1 := hml0
  have hown : s.vm.findClass "java/lang/Record" = some m.cls := findClass_of_methodNamed Bd.named
  have hnm := (name_of_methodNamed Bd.named Bd.method).1
  have hlk : meth.locks = false := BodyLoose.notSynchronized Bd
  have X0 : Stand p l e ({ frames := 1, cells := 0, slots := 0, locals := 12 } : Room) s m #[(.ref a0r)] below meth c s₁ [] 0 0 := Stand.of_body Bd
  have e0 : s₁.heap = h0 := by rw [← hh, Bd.state]; rfl
  have N0 := Fr.nil n0
  show own_Ends p e below (own_Fin s (own_Q_rm5 Z a0r h0 n0) ({ frames := 1, cells := 0, slots := 0, locals := 12 } : Room).cells ({ frames := 1, cells := 0, slots := 0, locals := 12 } : Room).slots) _
  refine own_pre (fun t k => castTop (own_ef_rm5 m a0r) k) ?_
  show own_Ends _ _ _ _ (s₁.setTop (mkF m 0 #[.val (.ref a0r)] []))
  refine own_pre (fun t k => XS.aloadN X0.here hx rfl (hb hby own_d7_0) rfl rfl k) ?_
  show own_Ends _ _ _ _ (s₁.setTop (mkF m 1 #[.val (.ref a0r)] [(.ref a0r)]))
  obtain ⟨T48, X48, e48, st48⟩ := initO X0 hx hZ hown (hw _ (List.mem_of_getElem? (i := 37) rfl)) (hw _ (List.mem_of_getElem? (i := 20) rfl)) (hw _ (List.mem_of_getElem? (i := 21) rfl)) e0 (g := (mkF m 1 #[.val (.ref a0r)] [(.ref a0r)])) rfl (by rw [hml]; rfl) rfl (hb hby own_d7_1) (by decide) (W := 0) (by show 2 * 0 + _ ≤ _; exact Nat.le_of_eq rfl) (by decide)
  refine own_pre st48 ?_
  show own_Ends _ _ _ _ (T48.setTop (mkF m 4 #[.val (.ref a0r)] []))
  exact own_retV X48 hx Bd.returns (hb hby own_d7_4) hlk e48 ⟨rfl, N0, rfl⟩ (by decide) (by decide)
theorem own_d6_0 : decode prog_117_method_2_code 0 = .ok (.aload_n 0, 1) := by decide +kernel
theorem own_pd3 : parseMethodDescriptor "()V" = some ⟨[], none⟩ := by decide +kernel
theorem own_d6_1 : decode prog_117_method_2_code 1 = .ok (.invokespecial 1, 3) := by decide +kernel
theorem own_d6_4 : decode prog_117_method_2_code 4 = .ok (.aload_n 0, 1) := by decide +kernel
theorem own_d6_5 : decode prog_117_method_2_code 5 = .ok (.aload_n 1, 1) := by decide +kernel
theorem own_d6_6 : decode prog_117_method_2_code 6 = .ok (.putfield 7, 3) := by decide +kernel
theorem own_d6_9 : decode prog_117_method_2_code 9 = .ok (.aload_n 0, 1) := by decide +kernel
theorem own_d6_10 : decode prog_117_method_2_code 10 = .ok (.iload_n 2, 1) := by decide +kernel
theorem own_d6_11 : decode prog_117_method_2_code 11 = .ok (.putfield 13, 3) := by decide +kernel
theorem own_d6_14 : decode prog_117_method_2_code 14 = .ok (.aload_n 0, 1) := by decide +kernel
theorem own_d6_15 : decode prog_117_method_2_code 15 = .ok (.iload_n 3, 1) := by decide +kernel
theorem own_d6_16 : decode prog_117_method_2_code 16 = .ok (.putfield 17, 3) := by decide +kernel
theorem own_d6_19 : decode prog_117_method_2_code 19 = .ok (.aload_n 0, 1) := by decide +kernel
theorem own_d6_20 : decode prog_117_method_2_code 20 = .ok (.iload 4, 2) := by decide +kernel
theorem own_d6_22 : decode prog_117_method_2_code 22 = .ok (.putfield 20, 3) := by decide +kernel
theorem own_d6_25 : decode prog_117_method_2_code 25 = .ok (.return_, 1) := by decide +kernel
theorem own_pn3 : plainName "com/example/sedge/sedge/index/SegmentInfo" = true := by first | (simp [plainName, overriddenIn]; done) | decide +kernel
theorem own_ef_rm6 (m : MethodId) (x0 : Addr) (x1 : Addr) (x2 : Int32) (x3 : Int32) (x4 : Int32) : entryFrame m #[(.ref x0), (.ref x1), (.int x2), (.int x3), (.int x4)] 5 = mkF m 0 #[.val (.ref x0), .val (.ref x1), .val (.int x2), .val (.int x3), .val (.int x4)] [] := by first | (simp [entryFrame, mkF, argsToLocals, Value.category]; done) | rfl
def own_Q_rm6 (Z : State) (a0r : Addr) (r1 : Addr) (p2 : Int32) (p3 : Int32) (p4 : Int32) (h0 : Heap) (n0 : Nat) (v : Option Value) (h : Heap) (L : List Loc) : Prop := v = none ∧ Fr n0 L ∧ Keep h0 h [a0r] ∧ Fld Z h a0r "com/example/sedge/sedge/index/SegmentInfo" "name" "Ljava/lang/String;" (.ref r1) ∧ Fld Z h a0r "com/example/sedge/sedge/index/SegmentInfo" "docCount" "I" (.int p2) ∧ Fld Z h a0r "com/example/sedge/sedge/index/SegmentInfo" "deletedCount" "I" (.int p3) ∧ Fld Z h a0r "com/example/sedge/sedge/index/SegmentInfo" "deletesGeneration" "I" (.int p4)
set_option maxRecDepth 65536 in
set_option maxHeartbeats 40000000 in
theorem rm6 (l : Launch) (Z : State) (a0 : Array Value) (hw : ∀ d ∈ tables_1, d.before a0 Z = true) (ws : List Jvm.Cond) (a0r : Addr) (r1 : Addr) (p2 : Int32) (p3 : Int32) (p4 : Int32) (h0 : Heap) (n0 : Nat) (Z0 : n0 ≤ h0.size) (EX : Exa Z h0 a0r "com/example/sedge/sedge/index/SegmentInfo") (g0r : n0 ≤ a0r) (F_name : Fld Z h0 a0r "com/example/sedge/sedge/index/SegmentInfo" "name" "Ljava/lang/String;" .null) (F_docCount : Fld Z h0 a0r "com/example/sedge/sedge/index/SegmentInfo" "docCount" "I" (.int (0 : Int32))) (F_deletedCount : Fld Z h0 a0r "com/example/sedge/sedge/index/SegmentInfo" "deletedCount" "I" (.int (0 : Int32))) (F_deletesGeneration : Fld Z h0 a0r "com/example/sedge/sedge/index/SegmentInfo" "deletesGeneration" "I" (.int (0 : Int32))) :
    MetFree l (⟨"com/example/sedge/sedge/index/SegmentInfo", "<init>", "(Ljava/lang/String;III)V"⟩ : MethodName) (head1 (Jvm.Cond.code (⟨"com/example/sedge/sedge/index/SegmentInfo", "<init>", "(Ljava/lang/String;III)V"⟩ : MethodName) prog_117_method_2_code 5 none :: ws) ({ frames := 2, cells := 0, slots := 0, locals := 24 } : Room)) (fun a U => a = #[(.ref a0r), (.ref r1), (.int p2), (.int p3), (.int p4)] ∧ Z.Warmed39 U.vm ∧ U.heap = h0) (fun _ _ _ _ _ => True) (fun _ U o U' => ∃ v L, o = .returned v ∧ (own_Q_rm6 Z a0r r1 p2 p3 p4 h0 n0) v U'.heap L ∧ FrameEnd U o U' L ({ frames := 2, cells := 0, slots := 0, locals := 24 } : Room).cells ({ frames := 2, cells := 0, slots := 0, locals := 24 } : Room).slots) := by
  refine MetFree.of_bodySF (plainFor_of_name own_pn3) hisR ?_
  intro p e s m args below meth c s₁ Bd hml0 hP hK
  obtain ⟨rfl, hZ, hh⟩ := hP
  have hx := Bd.exec
  have hby := Bd.bytes
  have hml : c.maxLocals = 5 := hml0
  have hown : s.vm.findClass "com/example/sedge/sedge/index/SegmentInfo" = some m.cls := findClass_of_methodNamed Bd.named
  have hnm := (name_of_methodNamed Bd.named Bd.method).1
  have hlk : meth.locks = false := BodyLoose.notSynchronized Bd
  have X0 : Stand p l e ({ frames := 2, cells := 0, slots := 0, locals := 24 } : Room) s m #[(.ref a0r), (.ref r1), (.int p2), (.int p3), (.int p4)] below meth c s₁ [] 0 0 := Stand.of_body Bd
  have e0 : s₁.heap = h0 := by rw [← hh, Bd.state]; rfl
  have N0 := Fr.nil n0
  show own_Ends p e below (own_Fin s (own_Q_rm6 Z a0r r1 p2 p3 p4 h0 n0) ({ frames := 2, cells := 0, slots := 0, locals := 24 } : Room).cells ({ frames := 2, cells := 0, slots := 0, locals := 24 } : Room).slots) _
  refine own_pre (fun t k => castTop (own_ef_rm6 m a0r r1 p2 p3 p4) k) ?_
  have KK0 : Keep h0 h0 [a0r] := Keep.refl _ _
  show own_Ends _ _ _ _ (s₁.setTop (mkF m 0 #[.val (.ref a0r), .val (.ref r1), .val (.int p2), .val (.int p3), .val (.int p4)] []))
  refine own_pre (fun t k => XS.aloadN X0.here hx rfl (hb hby own_d6_0) rfl rfl k) ?_
  show own_Ends _ _ _ _ (s₁.setTop (mkF m 1 #[.val (.ref a0r), .val (.ref r1), .val (.int p2), .val (.int p3), .val (.int p4)] [(.ref a0r)]))
  obtain ⟨_, _, ⟨T49, L49, k49, n49⟩, -, X49, ⟨Lc49, hQ49, l49, y49, z49⟩, st49⟩ := X0.specialBack hx (y := (⟨"java/lang/Record", "<init>", "()V"⟩ : MethodName)) rfl hown (mvT hZ (hw _ (List.mem_of_getElem? (i := 32) rfl))) (mvT hZ (hw _ (List.mem_of_getElem? (i := 33) rfl))) (mvT hZ (hw _ (List.mem_of_getElem? (i := 36) rfl))) (by decide) (backOf (W := 0) (rm5 l Z a0 hw [] a0r h0 n0 Z0) hZ (hw _ (List.mem_of_getElem? (i := 36) rfl)) (hw _ (List.mem_of_getElem? (i := 35) rfl)) (by decide) (by decide)) (g := (mkF m 1 #[.val (.ref a0r), .val (.ref r1), .val (.int p2), .val (.int p3), .val (.int p4)] [(.ref a0r)])) rfl (by rw [hml]; rfl) (Steps.refl _) (a := a0r) (argsL := []) (rest := []) (lenOf own_pd3 rfl) rfl (by show 2 * 0 + _ ≤ _; exact Nat.le_of_eq rfl) (hb hby own_d6_1) (fun _ _ => ⟨rfl, e0, (by decide : 0 + 0 ≤ _), (by decide : 0 + 0 ≤ _)⟩)
  dsimp only [Pt.U, Pt.locs, Pt.cells, Pt.slots] at X49 l49 y49 z49 st49 hQ49
  subst l49 y49 z49
  obtain ⟨rfl, Nq49, e49⟩ := hQ49
  have N49 := Fr.app N0 Nq49
  refine own_pre (fun t k => st49.trans k) ?_
  show own_Ends _ _ _ _ (T49.setTop (mkF m 4 #[.val (.ref a0r), .val (.ref r1), .val (.int p2), .val (.int p3), .val (.int p4)] []))
  refine own_pre (fun t k => XS.aloadN X49.here hx rfl (hb hby own_d6_4) rfl rfl k) ?_
  show own_Ends _ _ _ _ (T49.setTop (mkF m 5 #[.val (.ref a0r), .val (.ref r1), .val (.int p2), .val (.int p3), .val (.int p4)] [(.ref a0r)]))
  refine own_pre (fun t k => XS.aloadN X49.here hx rfl (hb hby own_d6_5) rfl rfl k) ?_
  show own_Ends _ _ _ _ (T49.setTop (mkF m 6 #[.val (.ref a0r), .val (.ref r1), .val (.int p2), .val (.int p3), .val (.int p4)] [(.ref r1), (.ref a0r)]))
  obtain ⟨T50, h50, X50, e50, W50, st50⟩ := putF X49 hx hZ hown (host := "") (Or.inl (hw _ (List.mem_of_getElem? (i := 38) rfl))) Via.refl e49 F_name EX (Or.inr ⟨(hw _ (List.mem_of_getElem? (i := 39) rfl)), rfl, hnm⟩) (hw _ (List.mem_of_getElem? (i := 27) rfl)) (ty := (.object "java/lang/String")) (by decide) rfl rfl (g := (mkF m 6 #[.val (.ref a0r), .val (.ref r1), .val (.int p2), .val (.int p3), .val (.int p4)] [(.ref r1), (.ref a0r)])) rfl rfl (hb hby own_d6_6)
  refine own_pre st50 ?_
  have fw50 := F_name.same W50
  have f51 := EX.wr W50
  have f52 := F_docCount.other W50 (Or.inr (slot_ne (Or.inr (hw _ (List.mem_of_getElem? (i := 41) rfl))) (Or.inr (hw _ (List.mem_of_getElem? (i := 39) rfl))) (by decide) (t := .int) (t' := (.object "java/lang/String")) (by decide) (by decide)))
  have f53 := F_deletedCount.other W50 (Or.inr (slot_ne (Or.inr (hw _ (List.mem_of_getElem? (i := 43) rfl))) (Or.inr (hw _ (List.mem_of_getElem? (i := 39) rfl))) (by decide) (t := .int) (t' := (.object "java/lang/String")) (by decide) (by decide)))
  have f54 := F_deletesGeneration.other W50 (Or.inr (slot_ne (Or.inr (hw _ (List.mem_of_getElem? (i := 45) rfl))) (Or.inr (hw _ (List.mem_of_getElem? (i := 39) rfl))) (by decide) (t := .int) (t' := (.object "java/lang/String")) (by decide) (by decide)))
  have N55 := Fr.snoc X50 N49 g0r
  have Zn56 : n0 ≤ h50.size := by rw [W50.size]; exact Z0
  have K57 : Keep h0 h50 [a0r] := KK0.wr W50 (Or.inl (by simp))
  show own_Ends _ _ _ _ (T50.setTop (mkF m 9 #[.val (.ref a0r), .val (.ref r1), .val (.int p2), .val (.int p3), .val (.int p4)] []))
  refine own_pre (fun t k => XS.aloadN X50.here hx rfl (hb hby own_d6_9) rfl rfl k) ?_
  show own_Ends _ _ _ _ (T50.setTop (mkF m 10 #[.val (.ref a0r), .val (.ref r1), .val (.int p2), .val (.int p3), .val (.int p4)] [(.ref a0r)]))
  refine own_pre (fun t k => XS.iloadN X50.here hx rfl (hb hby own_d6_10) rfl k) ?_
  show own_Ends _ _ _ _ (T50.setTop (mkF m 11 #[.val (.ref a0r), .val (.ref r1), .val (.int p2), .val (.int p3), .val (.int p4)] [(.int p2), (.ref a0r)]))
  obtain ⟨T58, h58, X58, e58, W58, st58⟩ := putF X50 hx hZ hown (host := "") (Or.inl (hw _ (List.mem_of_getElem? (i := 40) rfl))) Via.refl e50 f52 f51 (Or.inr ⟨(hw _ (List.mem_of_getElem? (i := 41) rfl)), rfl, hnm⟩) (hw _ (List.mem_of_getElem? (i := 27) rfl)) (ty := .int) (by decide) rfl rfl (g := (mkF m 11 #[.val (.ref a0r), .val (.ref r1), .val (.int p2), .val (.int p3), .val (.int p4)] [(.int p2), (.ref a0r)])) rfl rfl (hb hby own_d6_11)
  refine own_pre st58 ?_
  have fw58 := f52.same W58
  have f59 := f51.wr W58
  have f60 := f53.other W58 (Or.inr (slot_ne (Or.inr (hw _ (List.mem_of_getElem? (i := 43) rfl))) (Or.inr (hw _ (List.mem_of_getElem? (i := 41) rfl))) (by decide) (t := .int) (t' := .int) (by decide) (by decide)))
  have f61 := f54.other W58 (Or.inr (slot_ne (Or.inr (hw _ (List.mem_of_getElem? (i := 45) rfl))) (Or.inr (hw _ (List.mem_of_getElem? (i := 41) rfl))) (by decide) (t := .int) (t' := .int) (by decide) (by decide)))
  have f62 := fw50.other W58 (Or.inr (slot_ne (Or.inr (hw _ (List.mem_of_getElem? (i := 39) rfl))) (Or.inr (hw _ (List.mem_of_getElem? (i := 41) rfl))) (by decide) (t := (.object "java/lang/String")) (t' := .int) (by decide) (by decide)))
  have N63 := Fr.snoc X58 N55 g0r
  have Zn64 : n0 ≤ h58.size := by rw [W58.size]; exact Zn56
  have K65 : Keep h0 h58 [a0r] := K57.wr W58 (Or.inl (by simp))
  show own_Ends _ _ _ _ (T58.setTop (mkF m 14 #[.val (.ref a0r), .val (.ref r1), .val (.int p2), .val (.int p3), .val (.int p4)] []))
  refine own_pre (fun t k => XS.aloadN X58.here hx rfl (hb hby own_d6_14) rfl rfl k) ?_
  show own_Ends _ _ _ _ (T58.setTop (mkF m 15 #[.val (.ref a0r), .val (.ref r1), .val (.int p2), .val (.int p3), .val (.int p4)] [(.ref a0r)]))
  refine own_pre (fun t k => XS.iloadN X58.here hx rfl (hb hby own_d6_15) rfl k) ?_
  show own_Ends _ _ _ _ (T58.setTop (mkF m 16 #[.val (.ref a0r), .val (.ref r1), .val (.int p2), .val (.int p3), .val (.int p4)] [(.int p3), (.ref a0r)]))
  obtain ⟨T66, h66, X66, e66, W66, st66⟩ := putF X58 hx hZ hown (host := "") (Or.inl (hw _ (List.mem_of_getElem? (i := 42) rfl))) Via.refl e58 f60 f59 (Or.inr ⟨(hw _ (List.mem_of_getElem? (i := 43) rfl)), rfl, hnm⟩) (hw _ (List.mem_of_getElem? (i := 27) rfl)) (ty := .int) (by decide) rfl rfl (g := (mkF m 16 #[.val (.ref a0r), .val (.ref r1), .val (.int p2), .val (.int p3), .val (.int p4)] [(.int p3), (.ref a0r)])) rfl rfl (hb hby own_d6_16)
  refine own_pre st66 ?_
  have fw66 := f60.same W66
  have f67 := f59.wr W66
  have f68 := f61.other W66 (Or.inr (slot_ne (Or.inr (hw _ (List.mem_of_getElem? (i := 45) rfl))) (Or.inr (hw _ (List.mem_of_getElem? (i := 43) rfl))) (by decide) (t := .int) (t' := .int) (by decide) (by decide)))
  have f69 := f62.other W66 (Or.inr (slot_ne (Or.inr (hw _ (List.mem_of_getElem? (i := 39) rfl))) (Or.inr (hw _ (List.mem_of_getElem? (i := 43) rfl))) (by decide) (t := (.object "java/lang/String")) (t' := .int) (by decide) (by decide)))
  have f70 := fw58.other W66 (Or.inr (slot_ne (Or.inr (hw _ (List.mem_of_getElem? (i := 41) rfl))) (Or.inr (hw _ (List.mem_of_getElem? (i := 43) rfl))) (by decide) (t := .int) (t' := .int) (by decide) (by decide)))
  have N71 := Fr.snoc X66 N63 g0r
  have Zn72 : n0 ≤ h66.size := by rw [W66.size]; exact Zn64
  have K73 : Keep h0 h66 [a0r] := K65.wr W66 (Or.inl (by simp))
  show own_Ends _ _ _ _ (T66.setTop (mkF m 19 #[.val (.ref a0r), .val (.ref r1), .val (.int p2), .val (.int p3), .val (.int p4)] []))
  refine own_pre (fun t k => XS.aloadN X66.here hx rfl (hb hby own_d6_19) rfl rfl k) ?_
  show own_Ends _ _ _ _ (T66.setTop (mkF m 20 #[.val (.ref a0r), .val (.ref r1), .val (.int p2), .val (.int p3), .val (.int p4)] [(.ref a0r)]))
  refine own_pre (fun t k => XS.iload X66.here hx rfl (hb hby own_d6_20) rfl k) ?_
  show own_Ends _ _ _ _ (T66.setTop (mkF m 22 #[.val (.ref a0r), .val (.ref r1), .val (.int p2), .val (.int p3), .val (.int p4)] [(.int p4), (.ref a0r)]))
  obtain ⟨T74, h74, X74, e74, W74, st74⟩ := putF X66 hx hZ hown (host := "") (Or.inl (hw _ (List.mem_of_getElem? (i := 44) rfl))) Via.refl e66 f68 f67 (Or.inr ⟨(hw _ (List.mem_of_getElem? (i := 45) rfl)), rfl, hnm⟩) (hw _ (List.mem_of_getElem? (i := 27) rfl)) (ty := .int) (by decide) rfl rfl (g := (mkF m 22 #[.val (.ref a0r), .val (.ref r1), .val (.int p2), .val (.int p3), .val (.int p4)] [(.int p4), (.ref a0r)])) rfl rfl (hb hby own_d6_22)
  refine own_pre st74 ?_
  have fw74 := f68.same W74
  have f75 := f67.wr W74
  have f76 := f69.other W74 (Or.inr (slot_ne (Or.inr (hw _ (List.mem_of_getElem? (i := 39) rfl))) (Or.inr (hw _ (List.mem_of_getElem? (i := 45) rfl))) (by decide) (t := (.object "java/lang/String")) (t' := .int) (by decide) (by decide)))
  have f77 := f70.other W74 (Or.inr (slot_ne (Or.inr (hw _ (List.mem_of_getElem? (i := 41) rfl))) (Or.inr (hw _ (List.mem_of_getElem? (i := 45) rfl))) (by decide) (t := .int) (t' := .int) (by decide) (by decide)))
  have f78 := fw66.other W74 (Or.inr (slot_ne (Or.inr (hw _ (List.mem_of_getElem? (i := 43) rfl))) (Or.inr (hw _ (List.mem_of_getElem? (i := 45) rfl))) (by decide) (t := .int) (t' := .int) (by decide) (by decide)))
  have N79 := Fr.snoc X74 N71 g0r
  have Zn80 : n0 ≤ h74.size := by rw [W74.size]; exact Zn72
  have K81 : Keep h0 h74 [a0r] := K73.wr W74 (Or.inl (by simp))
  show own_Ends _ _ _ _ (T74.setTop (mkF m 25 #[.val (.ref a0r), .val (.ref r1), .val (.int p2), .val (.int p3), .val (.int p4)] []))
  exact own_retV X74 hx Bd.returns (hb hby own_d6_25) hlk e74 ⟨rfl, N79, K81, f76, f77, f78, fw74⟩ (by decide) (by decide)
theorem own_d8_0 : decode prog_117_method_7_code 0 = .ok (.aload_n 0, 1) := by decide +kernel
theorem own_d8_1 : decode prog_117_method_7_code 1 = .ok (.getfield 13, 3) := by decide +kernel
theorem own_d8_4 : decode prog_117_method_7_code 4 = .ok (.ifCond .le 59, 3) := by decide +kernel
theorem own_d8_7 : decode prog_117_method_7_code 7 = .ok (.aload_n 0, 1) := by decide +kernel
theorem own_d8_8 : decode prog_117_method_7_code 8 = .ok (.getfield 17, 3) := by decide +kernel
theorem own_d8_11 : decode prog_117_method_7_code 11 = .ok (.ifCond .lt 52, 3) := by decide +kernel
theorem own_d8_14 : decode prog_117_method_7_code 14 = .ok (.aload_n 0, 1) := by decide +kernel
theorem own_d8_15 : decode prog_117_method_7_code 15 = .ok (.getfield 17, 3) := by decide +kernel
theorem own_d8_18 : decode prog_117_method_7_code 18 = .ok (.aload_n 0, 1) := by decide +kernel
theorem own_d8_19 : decode prog_117_method_7_code 19 = .ok (.getfield 13, 3) := by decide +kernel
theorem own_d8_22 : decode prog_117_method_7_code 22 = .ok (.if_icmp .gt 41, 3) := by decide +kernel
theorem own_d8_25 : decode prog_117_method_7_code 25 = .ok (.aload_n 0, 1) := by decide +kernel
theorem own_d8_26 : decode prog_117_method_7_code 26 = .ok (.getfield 20, 3) := by decide +kernel
theorem own_d8_29 : decode prog_117_method_7_code 29 = .ok (.ifCond .lt 34, 3) := by decide +kernel
theorem own_d8_32 : decode prog_117_method_7_code 32 = .ok (.aload_n 0, 1) := by decide +kernel
theorem own_d8_33 : decode prog_117_method_7_code 33 = .ok (.getfield 20, 3) := by decide +kernel
theorem own_d8_36 : decode prog_117_method_7_code 36 = .ok (.ifCond .le 7, 3) := by decide +kernel
theorem own_d8_39 : decode prog_117_method_7_code 39 = .ok (.iconst 1, 1) := by decide +kernel
theorem own_d8_40 : decode prog_117_method_7_code 40 = .ok (.goto 4, 3) := by decide +kernel
theorem own_d8_43 : decode prog_117_method_7_code 43 = .ok (.iconst 0, 1) := by decide +kernel
theorem own_d8_44 : decode prog_117_method_7_code 44 = .ok (.aload_n 0, 1) := by decide +kernel
theorem own_d8_45 : decode prog_117_method_7_code 45 = .ok (.getfield 17, 3) := by decide +kernel
theorem own_d8_48 : decode prog_117_method_7_code 48 = .ok (.ifCond .le 7, 3) := by decide +kernel
theorem own_d8_51 : decode prog_117_method_7_code 51 = .ok (.iconst 1, 1) := by decide +kernel
theorem own_d8_52 : decode prog_117_method_7_code 52 = .ok (.goto 4, 3) := by decide +kernel
theorem own_d8_55 : decode prog_117_method_7_code 55 = .ok (.iconst 0, 1) := by decide +kernel
theorem own_d8_56 : decode prog_117_method_7_code 56 = .ok (.if_icmp .ne 7, 3) := by decide +kernel
theorem own_d8_59 : decode prog_117_method_7_code 59 = .ok (.iconst 1, 1) := by decide +kernel
theorem own_d8_60 : decode prog_117_method_7_code 60 = .ok (.goto 4, 3) := by decide +kernel
theorem own_d8_63 : decode prog_117_method_7_code 63 = .ok (.iconst 0, 1) := by decide +kernel
theorem own_d8_64 : decode prog_117_method_7_code 64 = .ok (.ireturn, 1) := by decide +kernel
def own_has_56 (fd : Int32) (fx : Int32) (fg : Int32) (us0 : Int32) (us1 : Int32) : Int32 := if us1 = us0 then (1 : Int32) else (0 : Int32)
def own_has_44 (fd : Int32) (fx : Int32) (fg : Int32) (us0 : Int32) : Int32 := if (0 : Int32) < fx then (own_has_56 fd fx fg (1 : Int32) us0) else (own_has_56 fd fx fg (0 : Int32) us0)
def own_has (fd : Int32) (fx : Int32) (fg : Int32) : Int32 := if (0 : Int32) < fd then (if fx < (0 : Int32) then (0 : Int32) else (if fd < fx then (0 : Int32) else (if fg < (0 : Int32) then (0 : Int32) else (if (0 : Int32) < fg then (own_has_44 fd fx fg (1 : Int32)) else (own_has_44 fd fx fg (0 : Int32)))))) else (0 : Int32)
theorem own_ef_rm7 (m : MethodId) (x0 : Addr) : entryFrame m #[(.ref x0)] 1 = mkF m 0 #[.val (.ref x0)] [] := by first | (simp [entryFrame, mkF, argsToLocals, Value.category]; done) | rfl
def own_Q_rm7 (Z : State) (a0r : Addr) (fd : Int32) (fx : Int32) (fg : Int32) (h0 : Heap) (n0 : Nat) (v : Option Value) (h : Heap) (L : List Loc) : Prop := v = some (.int (own_has fd fx fg)) ∧ Fr n0 L ∧ h = h0
set_option maxRecDepth 65536 in
set_option maxHeartbeats 40000000 in
theorem rm7 (l : Launch) (Z : State) (a0 : Array Value) (hw : ∀ d ∈ tables_1, d.before a0 Z = true) (ws : List Jvm.Cond) (a0r : Addr) (fd : Int32) (fx : Int32) (fg : Int32) (h0 : Heap) (n0 : Nat) (Z0 : n0 ≤ h0.size) (F_docCount : Fld Z h0 a0r "com/example/sedge/sedge/index/SegmentInfo" "docCount" "I" (.int fd)) (F_deletedCount : Fld Z h0 a0r "com/example/sedge/sedge/index/SegmentInfo" "deletedCount" "I" (.int fx)) (F_deletesGeneration : Fld Z h0 a0r "com/example/sedge/sedge/index/SegmentInfo" "deletesGeneration" "I" (.int fg)) :
    MetFree l (⟨"com/example/sedge/sedge/index/SegmentInfo", "hasPossibleCounts", "()Z"⟩ : MethodName) (head1 (Jvm.Cond.code (⟨"com/example/sedge/sedge/index/SegmentInfo", "hasPossibleCounts", "()Z"⟩ : MethodName) prog_117_method_7_code 1 (some .boolean) :: ws) ({ frames := 0, cells := 0, slots := 0, locals := 0 } : Room)) (fun a U => a = #[(.ref a0r)] ∧ Z.Warmed39 U.vm ∧ U.heap = h0) (fun _ _ _ _ _ => True) (fun _ U o U' => ∃ v L, o = .returned v ∧ (own_Q_rm7 Z a0r fd fx fg h0 n0) v U'.heap L ∧ FrameEnd U o U' L ({ frames := 0, cells := 0, slots := 0, locals := 0 } : Room).cells ({ frames := 0, cells := 0, slots := 0, locals := 0 } : Room).slots) := by
  refine MetFree.of_bodySF (plainFor_of_name own_pn3) hisR ?_
  intro p e s m args below meth c s₁ Bd hml0 hP hK
  obtain ⟨rfl, hZ, hh⟩ := hP
  have hx := Bd.exec
  have hby := Bd.bytes
  have hml : c.maxLocals = 1 := hml0
  have hown : s.vm.findClass "com/example/sedge/sedge/index/SegmentInfo" = some m.cls := findClass_of_methodNamed Bd.named
  have hnm := (name_of_methodNamed Bd.named Bd.method).1
  have hlk : meth.locks = false := BodyLoose.notSynchronized Bd
  have X0 : Stand p l e ({ frames := 0, cells := 0, slots := 0, locals := 0 } : Room) s m #[(.ref a0r)] below meth c s₁ [] 0 0 := Stand.of_body Bd
  have e0 : s₁.heap = h0 := by rw [← hh, Bd.state]; rfl
  have N0 := Fr.nil n0
  show own_Ends p e below (own_Fin s (own_Q_rm7 Z a0r fd fx fg h0 n0) ({ frames := 0, cells := 0, slots := 0, locals := 0 } : Room).cells ({ frames := 0, cells := 0, slots := 0, locals := 0 } : Room).slots) _
  refine own_pre (fun t k => castTop (own_ef_rm7 m a0r) k) ?_
  have J56 : ∀ (TT : State) (LL : List Loc) (XX : Stand p l e ({ frames := 0, cells := 0, slots := 0, locals := 0 } : Room) s m #[(.ref a0r)] below meth c TT LL 0 0) (eT : TT.heap = h0) (NN : Fr n0 LL) (us0 : Int32) (us1 : Int32) (G : Option Value → Heap → List Loc → Prop) (hG : ∀ L, Fr n0 L → G (some (.int (own_has_56 fd fx fg us0 us1))) h0 L), own_Ends p e below (own_Fin s G ({ frames := 0, cells := 0, slots := 0, locals := 0 } : Room).cells ({ frames := 0, cells := 0, slots := 0, locals := 0 } : Room).slots) (TT.setTop (mkF m 56 #[.val (.ref a0r)] [(.int us0), (.int us1)])) := by
    intro TT LL XX eT NN us0 us1 G hG
    have hG : ∀ L, Fr n0 L → G (some (.int (if us1 = us0 then (1 : Int32) else (0 : Int32)))) h0 L := hG
    show own_Ends _ _ _ _ (TT.setTop (mkF m 56 #[.val (.ref a0r)] [(.int us0), (.int us1)]))
    by_cases hc82 : us1 = us0
    · skip
      rw [if_pos hc82] at hG
      refine own_pre (fun t k => XS.icmpNo XX.here hx rfl (hb hby own_d8_56) rfl (teq hc82).2 k) ?_
      show own_Ends _ _ _ _ (TT.setTop (mkF m 59 #[.val (.ref a0r)] []))
      refine own_pre (fun t k => XS.iconst XX.here hx rfl (hb hby own_d8_59) k) ?_
      show own_Ends _ _ _ _ (TT.setTop (mkF m 60 #[.val (.ref a0r)] [(.int (1 : Int32))]))
      refine own_pre (fun t k => XS.goto XX.here hx rfl (pc0 := 60) (pc' := 64) rfl (hb hby own_d8_60) (by decide) (by decide) k) ?_
      show own_Ends _ _ _ _ (TT.setTop (mkF m 64 #[.val (.ref a0r)] [(.int (1 : Int32))]))
      exact own_retN XX hx (t := .boolean) Bd.returns (by simp) (hb hby own_d8_64) hlk rfl eT (hG _ NN) (by decide) (by decide)
    · skip
      rw [if_neg hc82] at hG
      refine own_pre (fun t k => XS.icmpYes XX.here hx rfl (pc0 := 56) (pc' := 63) rfl (hb hby own_d8_56) rfl (feq hc82).2 (by decide) (by decide) k) ?_
      show own_Ends _ _ _ _ (TT.setTop (mkF m 63 #[.val (.ref a0r)] []))
      refine own_pre (fun t k => XS.iconst XX.here hx rfl (hb hby own_d8_63) k) ?_
      show own_Ends _ _ _ _ (TT.setTop (mkF m 64 #[.val (.ref a0r)] [(.int (0 : Int32))]))
      exact own_retN XX hx (t := .boolean) Bd.returns (by simp) (hb hby own_d8_64) hlk rfl eT (hG _ NN) (by decide) (by decide)
  have J44 : ∀ (TT : State) (LL : List Loc) (XX : Stand p l e ({ frames := 0, cells := 0, slots := 0, locals := 0 } : Room) s m #[(.ref a0r)] below meth c TT LL 0 0) (eT : TT.heap = h0) (NN : Fr n0 LL) (us0 : Int32) (G : Option Value → Heap → List Loc → Prop) (hG : ∀ L, Fr n0 L → G (some (.int (own_has_44 fd fx fg us0))) h0 L), own_Ends p e below (own_Fin s G ({ frames := 0, cells := 0, slots := 0, locals := 0 } : Room).cells ({ frames := 0, cells := 0, slots := 0, locals := 0 } : Room).slots) (TT.setTop (mkF m 44 #[.val (.ref a0r)] [(.int us0)])) := by
    intro TT LL XX eT NN us0 G hG
    have hG : ∀ L, Fr n0 L → G (some (.int (if (0 : Int32) < fx then (own_has_56 fd fx fg (1 : Int32) us0) else (own_has_56 fd fx fg (0 : Int32) us0)))) h0 L := hG
    show own_Ends _ _ _ _ (TT.setTop (mkF m 44 #[.val (.ref a0r)] [(.int us0)]))
    refine own_pre (fun t k => XS.aloadN XX.here hx rfl (hb hby own_d8_44) rfl rfl k) ?_
    show own_Ends _ _ _ _ (TT.setTop (mkF m 45 #[.val (.ref a0r)] [(.ref a0r), (.int us0)]))
    obtain ⟨T83, X83, e83, st83⟩ := getF XX hx hZ hown (host := "") (Or.inl (hw _ (List.mem_of_getElem? (i := 42) rfl))) Via.refl eT F_deletedCount (g := (mkF m 45 #[.val (.ref a0r)] [(.ref a0r), (.int us0)])) rfl rfl (hb hby own_d8_45)
    refine own_pre st83 ?_
    show own_Ends _ _ _ _ (T83.setTop (mkF m 48 #[.val (.ref a0r)] [(.int fx), (.int us0)]))
    by_cases hc84 : (0 : Int32) < fx
    · skip
      rw [if_pos hc84] at hG
      refine own_pre (fun t k => XS.ifNo X83.here hx rfl (hb hby own_d8_48) rfl ((if0 _ _).trans (tlt hc84).2.2.2) k) ?_
      show own_Ends _ _ _ _ (T83.setTop (mkF m 51 #[.val (.ref a0r)] [(.int us0)]))
      refine own_pre (fun t k => XS.iconst X83.here hx rfl (hb hby own_d8_51) k) ?_
      show own_Ends _ _ _ _ (T83.setTop (mkF m 52 #[.val (.ref a0r)] [(.int (1 : Int32)), (.int us0)]))
      refine own_pre (fun t k => XS.goto X83.here hx rfl (pc0 := 52) (pc' := 56) rfl (hb hby own_d8_52) (by decide) (by decide) k) ?_
      show own_Ends _ _ _ _ (T83.setTop (mkF m 56 #[.val (.ref a0r)] [(.int (1 : Int32)), (.int us0)]))
      exact J56 _ _ X83 e83 NN (1 : Int32) us0 _ hG
    · skip
      rw [if_neg hc84] at hG
      refine own_pre (fun t k => XS.ifYes X83.here hx rfl (pc0 := 48) (pc' := 55) rfl (hb hby own_d8_48) rfl ((if0 _ _).trans (flt hc84).2.2.2) (by decide) (by decide) k) ?_
      show own_Ends _ _ _ _ (T83.setTop (mkF m 55 #[.val (.ref a0r)] [(.int us0)]))
      refine own_pre (fun t k => XS.iconst X83.here hx rfl (hb hby own_d8_55) k) ?_
      show own_Ends _ _ _ _ (T83.setTop (mkF m 56 #[.val (.ref a0r)] [(.int (0 : Int32)), (.int us0)]))
      exact J56 _ _ X83 e83 NN (0 : Int32) us0 _ hG
  have J0 : ∀ (G : Option Value → Heap → List Loc → Prop) (hG : ∀ L, Fr n0 L → G (some (.int (if (0 : Int32) < fd then (if fx < (0 : Int32) then (0 : Int32) else (if fd < fx then (0 : Int32) else (if fg < (0 : Int32) then (0 : Int32) else (if (0 : Int32) < fg then (own_has_44 fd fx fg (1 : Int32)) else (own_has_44 fd fx fg (0 : Int32)))))) else (0 : Int32)))) h0 L), own_Ends p e below (own_Fin s G ({ frames := 0, cells := 0, slots := 0, locals := 0 } : Room).cells ({ frames := 0, cells := 0, slots := 0, locals := 0 } : Room).slots) (s₁.setTop (mkF m 0 #[.val (.ref a0r)] [])) := by
    intro G hG
    show own_Ends _ _ _ _ (s₁.setTop (mkF m 0 #[.val (.ref a0r)] []))
    refine own_pre (fun t k => XS.aloadN X0.here hx rfl (hb hby own_d8_0) rfl rfl k) ?_
    show own_Ends _ _ _ _ (s₁.setTop (mkF m 1 #[.val (.ref a0r)] [(.ref a0r)]))
    obtain ⟨T85, X85, e85, st85⟩ := getF X0 hx hZ hown (host := "") (Or.inl (hw _ (List.mem_of_getElem? (i := 40) rfl))) Via.refl e0 F_docCount (g := (mkF m 1 #[.val (.ref a0r)] [(.ref a0r)])) rfl rfl (hb hby own_d8_1)
    refine own_pre st85 ?_
    show own_Ends _ _ _ _ (T85.setTop (mkF m 4 #[.val (.ref a0r)] [(.int fd)]))
    by_cases hc86 : (0 : Int32) < fd
    · skip
      rw [if_pos hc86] at hG
      refine own_pre (fun t k => XS.ifNo X85.here hx rfl (hb hby own_d8_4) rfl ((if0 _ _).trans (tlt hc86).2.2.2) k) ?_
      show own_Ends _ _ _ _ (T85.setTop (mkF m 7 #[.val (.ref a0r)] []))
      refine own_pre (fun t k => XS.aloadN X85.here hx rfl (hb hby own_d8_7) rfl rfl k) ?_
      show own_Ends _ _ _ _ (T85.setTop (mkF m 8 #[.val (.ref a0r)] [(.ref a0r)]))
      obtain ⟨T87, X87, e87, st87⟩ := getF X85 hx hZ hown (host := "") (Or.inl (hw _ (List.mem_of_getElem? (i := 42) rfl))) Via.refl e85 F_deletedCount (g := (mkF m 8 #[.val (.ref a0r)] [(.ref a0r)])) rfl rfl (hb hby own_d8_8)
      refine own_pre st87 ?_
      show own_Ends _ _ _ _ (T87.setTop (mkF m 11 #[.val (.ref a0r)] [(.int fx)]))
      by_cases hc88 : fx < (0 : Int32)
      · skip
        rw [if_pos hc88] at hG
        refine own_pre (fun t k => XS.ifYes X87.here hx rfl (pc0 := 11) (pc' := 63) rfl (hb hby own_d8_11) rfl ((if0 _ _).trans (tlt hc88).1) (by decide) (by decide) k) ?_
        show own_Ends _ _ _ _ (T87.setTop (mkF m 63 #[.val (.ref a0r)] []))
        refine own_pre (fun t k => XS.iconst X87.here hx rfl (hb hby own_d8_63) k) ?_
        show own_Ends _ _ _ _ (T87.setTop (mkF m 64 #[.val (.ref a0r)] [(.int (0 : Int32))]))
        exact own_retN X87 hx (t := .boolean) Bd.returns (by simp) (hb hby own_d8_64) hlk rfl e87 (hG _ N0) (by decide) (by decide)
      · skip
        rw [if_neg hc88] at hG
        refine own_pre (fun t k => XS.ifNo X87.here hx rfl (hb hby own_d8_11) rfl ((if0 _ _).trans (flt hc88).1) k) ?_
        show own_Ends _ _ _ _ (T87.setTop (mkF m 14 #[.val (.ref a0r)] []))
        refine own_pre (fun t k => XS.aloadN X87.here hx rfl (hb hby own_d8_14) rfl rfl k) ?_
        show own_Ends _ _ _ _ (T87.setTop (mkF m 15 #[.val (.ref a0r)] [(.ref a0r)]))
        obtain ⟨T89, X89, e89, st89⟩ := getF X87 hx hZ hown (host := "") (Or.inl (hw _ (List.mem_of_getElem? (i := 42) rfl))) Via.refl e87 F_deletedCount (g := (mkF m 15 #[.val (.ref a0r)] [(.ref a0r)])) rfl rfl (hb hby own_d8_15)
        refine own_pre st89 ?_
        show own_Ends _ _ _ _ (T89.setTop (mkF m 18 #[.val (.ref a0r)] [(.int fx)]))
        refine own_pre (fun t k => XS.aloadN X89.here hx rfl (hb hby own_d8_18) rfl rfl k) ?_
        show own_Ends _ _ _ _ (T89.setTop (mkF m 19 #[.val (.ref a0r)] [(.ref a0r), (.int fx)]))
        obtain ⟨T90, X90, e90, st90⟩ := getF X89 hx hZ hown (host := "") (Or.inl (hw _ (List.mem_of_getElem? (i := 40) rfl))) Via.refl e89 F_docCount (g := (mkF m 19 #[.val (.ref a0r)] [(.ref a0r), (.int fx)])) rfl rfl (hb hby own_d8_19)
        refine own_pre st90 ?_
        show own_Ends _ _ _ _ (T90.setTop (mkF m 22 #[.val (.ref a0r)] [(.int fd), (.int fx)]))
        by_cases hc91 : fd < fx
        · skip
          rw [if_pos hc91] at hG
          refine own_pre (fun t k => XS.icmpYes X90.here hx rfl (pc0 := 22) (pc' := 63) rfl (hb hby own_d8_22) rfl (tlt hc91).2.2.1 (by decide) (by decide) k) ?_
          show own_Ends _ _ _ _ (T90.setTop (mkF m 63 #[.val (.ref a0r)] []))
          refine own_pre (fun t k => XS.iconst X90.here hx rfl (hb hby own_d8_63) k) ?_
          show own_Ends _ _ _ _ (T90.setTop (mkF m 64 #[.val (.ref a0r)] [(.int (0 : Int32))]))
          exact own_retN X90 hx (t := .boolean) Bd.returns (by simp) (hb hby own_d8_64) hlk rfl e90 (hG _ N0) (by decide) (by decide)
        · skip
          rw [if_neg hc91] at hG
          refine own_pre (fun t k => XS.icmpNo X90.here hx rfl (hb hby own_d8_22) rfl (flt hc91).2.2.1 k) ?_
          show own_Ends _ _ _ _ (T90.setTop (mkF m 25 #[.val (.ref a0r)] []))
          refine own_pre (fun t k => XS.aloadN X90.here hx rfl (hb hby own_d8_25) rfl rfl k) ?_
          show own_Ends _ _ _ _ (T90.setTop (mkF m 26 #[.val (.ref a0r)] [(.ref a0r)]))
          obtain ⟨T92, X92, e92, st92⟩ := getF X90 hx hZ hown (host := "") (Or.inl (hw _ (List.mem_of_getElem? (i := 44) rfl))) Via.refl e90 F_deletesGeneration (g := (mkF m 26 #[.val (.ref a0r)] [(.ref a0r)])) rfl rfl (hb hby own_d8_26)
          refine own_pre st92 ?_
          show own_Ends _ _ _ _ (T92.setTop (mkF m 29 #[.val (.ref a0r)] [(.int fg)]))
          by_cases hc93 : fg < (0 : Int32)
          · skip
            rw [if_pos hc93] at hG
            refine own_pre (fun t k => XS.ifYes X92.here hx rfl (pc0 := 29) (pc' := 63) rfl (hb hby own_d8_29) rfl ((if0 _ _).trans (tlt hc93).1) (by decide) (by decide) k) ?_
            show own_Ends _ _ _ _ (T92.setTop (mkF m 63 #[.val (.ref a0r)] []))
            refine own_pre (fun t k => XS.iconst X92.here hx rfl (hb hby own_d8_63) k) ?_
            show own_Ends _ _ _ _ (T92.setTop (mkF m 64 #[.val (.ref a0r)] [(.int (0 : Int32))]))
            exact own_retN X92 hx (t := .boolean) Bd.returns (by simp) (hb hby own_d8_64) hlk rfl e92 (hG _ N0) (by decide) (by decide)
          · skip
            rw [if_neg hc93] at hG
            refine own_pre (fun t k => XS.ifNo X92.here hx rfl (hb hby own_d8_29) rfl ((if0 _ _).trans (flt hc93).1) k) ?_
            show own_Ends _ _ _ _ (T92.setTop (mkF m 32 #[.val (.ref a0r)] []))
            refine own_pre (fun t k => XS.aloadN X92.here hx rfl (hb hby own_d8_32) rfl rfl k) ?_
            show own_Ends _ _ _ _ (T92.setTop (mkF m 33 #[.val (.ref a0r)] [(.ref a0r)]))
            obtain ⟨T94, X94, e94, st94⟩ := getF X92 hx hZ hown (host := "") (Or.inl (hw _ (List.mem_of_getElem? (i := 44) rfl))) Via.refl e92 F_deletesGeneration (g := (mkF m 33 #[.val (.ref a0r)] [(.ref a0r)])) rfl rfl (hb hby own_d8_33)
            refine own_pre st94 ?_
            show own_Ends _ _ _ _ (T94.setTop (mkF m 36 #[.val (.ref a0r)] [(.int fg)]))
            by_cases hc95 : (0 : Int32) < fg
            · skip
              rw [if_pos hc95] at hG
              refine own_pre (fun t k => XS.ifNo X94.here hx rfl (hb hby own_d8_36) rfl ((if0 _ _).trans (tlt hc95).2.2.2) k) ?_
              show own_Ends _ _ _ _ (T94.setTop (mkF m 39 #[.val (.ref a0r)] []))
              refine own_pre (fun t k => XS.iconst X94.here hx rfl (hb hby own_d8_39) k) ?_
              show own_Ends _ _ _ _ (T94.setTop (mkF m 40 #[.val (.ref a0r)] [(.int (1 : Int32))]))
              refine own_pre (fun t k => XS.goto X94.here hx rfl (pc0 := 40) (pc' := 44) rfl (hb hby own_d8_40) (by decide) (by decide) k) ?_
              show own_Ends _ _ _ _ (T94.setTop (mkF m 44 #[.val (.ref a0r)] [(.int (1 : Int32))]))
              exact J44 _ _ X94 e94 N0 (1 : Int32) _ hG
            · skip
              rw [if_neg hc95] at hG
              refine own_pre (fun t k => XS.ifYes X94.here hx rfl (pc0 := 36) (pc' := 43) rfl (hb hby own_d8_36) rfl ((if0 _ _).trans (flt hc95).2.2.2) (by decide) (by decide) k) ?_
              show own_Ends _ _ _ _ (T94.setTop (mkF m 43 #[.val (.ref a0r)] []))
              refine own_pre (fun t k => XS.iconst X94.here hx rfl (hb hby own_d8_43) k) ?_
              show own_Ends _ _ _ _ (T94.setTop (mkF m 44 #[.val (.ref a0r)] [(.int (0 : Int32))]))
              exact J44 _ _ X94 e94 N0 (0 : Int32) _ hG
    · skip
      rw [if_neg hc86] at hG
      refine own_pre (fun t k => XS.ifYes X85.here hx rfl (pc0 := 4) (pc' := 63) rfl (hb hby own_d8_4) rfl ((if0 _ _).trans (flt hc86).2.2.2) (by decide) (by decide) k) ?_
      show own_Ends _ _ _ _ (T85.setTop (mkF m 63 #[.val (.ref a0r)] []))
      refine own_pre (fun t k => XS.iconst X85.here hx rfl (hb hby own_d8_63) k) ?_
      show own_Ends _ _ _ _ (T85.setTop (mkF m 64 #[.val (.ref a0r)] [(.int (0 : Int32))]))
      exact own_retN X85 hx (t := .boolean) Bd.returns (by simp) (hb hby own_d8_64) hlk rfl e85 (hG _ N0) (by decide) (by decide)
  exact J0 _ fun L q => ⟨rfl, q, rfl⟩
theorem own_d9_0 : decode method_3_code 0 = .ok (.iload_n 1, 1) := by decide +kernel
theorem own_d9_1 : decode method_3_code 1 = .ok (.ifCond .ne 17, 3) := by decide +kernel
theorem own_d9_4 : decode method_3_code 4 = .ok (.iload_n 0, 1) := by decide +kernel
theorem own_d9_5 : decode method_3_code 5 = .ok (.ifCond .le 11, 3) := by decide +kernel
theorem own_d9_8 : decode method_3_code 8 = .ok (.iload_n 2, 1) := by decide +kernel
theorem own_d9_9 : decode method_3_code 9 = .ok (.ifCond .ne 7, 3) := by decide +kernel
theorem own_d9_12 : decode method_3_code 12 = .ok (.iconst 1, 1) := by decide +kernel
theorem own_d9_13 : decode method_3_code 13 = .ok (.goto 4, 3) := by decide +kernel
theorem own_d9_16 : decode method_3_code 16 = .ok (.iconst 0, 1) := by decide +kernel
theorem own_d9_17 : decode method_3_code 17 = .ok (.ireturn, 1) := by decide +kernel
theorem own_d9_18 : decode method_3_code 18 = .ok (.iload_n 1, 1) := by decide +kernel
theorem own_d9_19 : decode method_3_code 19 = .ok (.ifCond .ge 5, 3) := by decide +kernel
theorem own_d9_22 : decode method_3_code 22 = .ok (.iconst 0, 1) := by decide +kernel
theorem own_d9_23 : decode method_3_code 23 = .ok (.ireturn, 1) := by decide +kernel
theorem own_d9_24 : decode method_3_code 24 = .ok (.iload_n 1, 1) := by decide +kernel
theorem own_d9_25 : decode method_3_code 25 = .ok (.iload_n 0, 1) := by decide +kernel
theorem own_d9_26 : decode method_3_code 26 = .ok (.if_icmp .gt 11, 3) := by decide +kernel
theorem own_d9_29 : decode method_3_code 29 = .ok (.iload_n 2, 1) := by decide +kernel
theorem own_d9_30 : decode method_3_code 30 = .ok (.ifCond .le 7, 3) := by decide +kernel
theorem own_d9_33 : decode method_3_code 33 = .ok (.iconst 1, 1) := by decide +kernel
theorem own_d9_34 : decode method_3_code 34 = .ok (.goto 4, 3) := by decide +kernel
theorem own_d9_37 : decode method_3_code 37 = .ok (.iconst 0, 1) := by decide +kernel
theorem own_d9_38 : decode method_3_code 38 = .ok (.ireturn, 1) := by decide +kernel
def own_exp (p0 : Int32) (p1 : Int32) (p2 : Int32) : Int32 := if p1 = (0 : Int32) then (if (0 : Int32) < p0 then (if p2 = (0 : Int32) then (1 : Int32) else (0 : Int32)) else (0 : Int32)) else (if p1 < (0 : Int32) then (0 : Int32) else (if p0 < p1 then (0 : Int32) else (if (0 : Int32) < p2 then (1 : Int32) else (0 : Int32))))
theorem own_pn4 : plainName "com/example/sedge/sedge/index/SegmentInfoHasPossibleCountsPinLaw" = true := by first | (simp [plainName, overriddenIn]; done) | decide +kernel
theorem own_ef_rm8 (m : MethodId) (x0 : Int32) (x1 : Int32) (x2 : Int32) : entryFrame m #[(.int x0), (.int x1), (.int x2)] 3 = mkF m 0 #[.val (.int x0), .val (.int x1), .val (.int x2)] [] := by first | (simp [entryFrame, mkF, argsToLocals, Value.category]; done) | rfl
def own_Q_rm8 (Z : State) (p0 : Int32) (p1 : Int32) (p2 : Int32) (h0 : Heap) (n0 : Nat) (v : Option Value) (h : Heap) (L : List Loc) : Prop := v = some (.int (own_exp p0 p1 p2)) ∧ Fr n0 L ∧ h = h0
set_option maxRecDepth 65536 in
set_option maxHeartbeats 40000000 in
theorem rm8 (l : Launch) (Z : State) (a0 : Array Value) (hw : ∀ d ∈ tables_1, d.before a0 Z = true) (ws : List Jvm.Cond) (p0 : Int32) (p1 : Int32) (p2 : Int32) (h0 : Heap) (n0 : Nat) (Z0 : n0 ≤ h0.size) :
    MetFree l (⟨"com/example/sedge/sedge/index/SegmentInfoHasPossibleCountsPinLaw", "expected", "(III)Z"⟩ : MethodName) (head1 (Jvm.Cond.code (⟨"com/example/sedge/sedge/index/SegmentInfoHasPossibleCountsPinLaw", "expected", "(III)Z"⟩ : MethodName) method_3_code 3 (some .boolean) :: ws) ({ frames := 0, cells := 0, slots := 0, locals := 0 } : Room)) (fun a U => a = #[(.int p0), (.int p1), (.int p2)] ∧ Z.Warmed39 U.vm ∧ U.heap = h0) (fun _ _ _ _ _ => True) (fun _ U o U' => ∃ v L, o = .returned v ∧ (own_Q_rm8 Z p0 p1 p2 h0 n0) v U'.heap L ∧ FrameEnd U o U' L ({ frames := 0, cells := 0, slots := 0, locals := 0 } : Room).cells ({ frames := 0, cells := 0, slots := 0, locals := 0 } : Room).slots) := by
  refine MetFree.of_bodySF (plainFor_of_name own_pn4) hisR ?_
  intro p e s m args below meth c s₁ Bd hml0 hP hK
  obtain ⟨rfl, hZ, hh⟩ := hP
  have hx := Bd.exec
  have hby := Bd.bytes
  have hml : c.maxLocals = 3 := hml0
  have hown : s.vm.findClass "com/example/sedge/sedge/index/SegmentInfoHasPossibleCountsPinLaw" = some m.cls := findClass_of_methodNamed Bd.named
  have hnm := (name_of_methodNamed Bd.named Bd.method).1
  have hlk : meth.locks = false := BodyLoose.notSynchronized Bd
  have X0 : Stand p l e ({ frames := 0, cells := 0, slots := 0, locals := 0 } : Room) s m #[(.int p0), (.int p1), (.int p2)] below meth c s₁ [] 0 0 := Stand.of_body Bd
  have e0 : s₁.heap = h0 := by rw [← hh, Bd.state]; rfl
  have N0 := Fr.nil n0
  show own_Ends p e below (own_Fin s (own_Q_rm8 Z p0 p1 p2 h0 n0) ({ frames := 0, cells := 0, slots := 0, locals := 0 } : Room).cells ({ frames := 0, cells := 0, slots := 0, locals := 0 } : Room).slots) _
  refine own_pre (fun t k => castTop (own_ef_rm8 m p0 p1 p2) k) ?_
  have J0 : ∀ (G : Option Value → Heap → List Loc → Prop) (hG : ∀ L, Fr n0 L → G (some (.int (if p1 = (0 : Int32) then (if (0 : Int32) < p0 then (if p2 = (0 : Int32) then (1 : Int32) else (0 : Int32)) else (0 : Int32)) else (if p1 < (0 : Int32) then (0 : Int32) else (if p0 < p1 then (0 : Int32) else (if (0 : Int32) < p2 then (1 : Int32) else (0 : Int32))))))) h0 L), own_Ends p e below (own_Fin s G ({ frames := 0, cells := 0, slots := 0, locals := 0 } : Room).cells ({ frames := 0, cells := 0, slots := 0, locals := 0 } : Room).slots) (s₁.setTop (mkF m 0 #[.val (.int p0), .val (.int p1), .val (.int p2)] [])) := by
    intro G hG
    show own_Ends _ _ _ _ (s₁.setTop (mkF m 0 #[.val (.int p0), .val (.int p1), .val (.int p2)] []))
    refine own_pre (fun t k => XS.iloadN X0.here hx rfl (hb hby own_d9_0) rfl k) ?_
    show own_Ends _ _ _ _ (s₁.setTop (mkF m 1 #[.val (.int p0), .val (.int p1), .val (.int p2)] [(.int p1)]))
    by_cases hc96 : p1 = (0 : Int32)
    · skip
      rw [if_pos hc96] at hG
      refine own_pre (fun t k => XS.ifNo X0.here hx rfl (hb hby own_d9_1) rfl ((if0 _ _).trans (teq hc96).2) k) ?_
      show own_Ends _ _ _ _ (s₁.setTop (mkF m 4 #[.val (.int p0), .val (.int p1), .val (.int p2)] []))
      refine own_pre (fun t k => XS.iloadN X0.here hx rfl (hb hby own_d9_4) rfl k) ?_
      show own_Ends _ _ _ _ (s₁.setTop (mkF m 5 #[.val (.int p0), .val (.int p1), .val (.int p2)] [(.int p0)]))
      by_cases hc97 : (0 : Int32) < p0
      · skip
        rw [if_pos hc97] at hG
        refine own_pre (fun t k => XS.ifNo X0.here hx rfl (hb hby own_d9_5) rfl ((if0 _ _).trans (tlt hc97).2.2.2) k) ?_
        show own_Ends _ _ _ _ (s₁.setTop (mkF m 8 #[.val (.int p0), .val (.int p1), .val (.int p2)] []))
        refine own_pre (fun t k => XS.iloadN X0.here hx rfl (hb hby own_d9_8) rfl k) ?_
        show own_Ends _ _ _ _ (s₁.setTop (mkF m 9 #[.val (.int p0), .val (.int p1), .val (.int p2)] [(.int p2)]))
        by_cases hc98 : p2 = (0 : Int32)
        · skip
          rw [if_pos hc98] at hG
          refine own_pre (fun t k => XS.ifNo X0.here hx rfl (hb hby own_d9_9) rfl ((if0 _ _).trans (teq hc98).2) k) ?_
          show own_Ends _ _ _ _ (s₁.setTop (mkF m 12 #[.val (.int p0), .val (.int p1), .val (.int p2)] []))
          refine own_pre (fun t k => XS.iconst X0.here hx rfl (hb hby own_d9_12) k) ?_
          show own_Ends _ _ _ _ (s₁.setTop (mkF m 13 #[.val (.int p0), .val (.int p1), .val (.int p2)] [(.int (1 : Int32))]))
          refine own_pre (fun t k => XS.goto X0.here hx rfl (pc0 := 13) (pc' := 17) rfl (hb hby own_d9_13) (by decide) (by decide) k) ?_
          show own_Ends _ _ _ _ (s₁.setTop (mkF m 17 #[.val (.int p0), .val (.int p1), .val (.int p2)] [(.int (1 : Int32))]))
          exact own_retN X0 hx (t := .boolean) Bd.returns (by simp) (hb hby own_d9_17) hlk rfl e0 (hG _ N0) (by decide) (by decide)
        · skip
          rw [if_neg hc98] at hG
          refine own_pre (fun t k => XS.ifYes X0.here hx rfl (pc0 := 9) (pc' := 16) rfl (hb hby own_d9_9) rfl ((if0 _ _).trans (feq hc98).2) (by decide) (by decide) k) ?_
          show own_Ends _ _ _ _ (s₁.setTop (mkF m 16 #[.val (.int p0), .val (.int p1), .val (.int p2)] []))
          refine own_pre (fun t k => XS.iconst X0.here hx rfl (hb hby own_d9_16) k) ?_
          show own_Ends _ _ _ _ (s₁.setTop (mkF m 17 #[.val (.int p0), .val (.int p1), .val (.int p2)] [(.int (0 : Int32))]))
          exact own_retN X0 hx (t := .boolean) Bd.returns (by simp) (hb hby own_d9_17) hlk rfl e0 (hG _ N0) (by decide) (by decide)
      · skip
        rw [if_neg hc97] at hG
        refine own_pre (fun t k => XS.ifYes X0.here hx rfl (pc0 := 5) (pc' := 16) rfl (hb hby own_d9_5) rfl ((if0 _ _).trans (flt hc97).2.2.2) (by decide) (by decide) k) ?_
        show own_Ends _ _ _ _ (s₁.setTop (mkF m 16 #[.val (.int p0), .val (.int p1), .val (.int p2)] []))
        refine own_pre (fun t k => XS.iconst X0.here hx rfl (hb hby own_d9_16) k) ?_
        show own_Ends _ _ _ _ (s₁.setTop (mkF m 17 #[.val (.int p0), .val (.int p1), .val (.int p2)] [(.int (0 : Int32))]))
        exact own_retN X0 hx (t := .boolean) Bd.returns (by simp) (hb hby own_d9_17) hlk rfl e0 (hG _ N0) (by decide) (by decide)
    · skip
      rw [if_neg hc96] at hG
      refine own_pre (fun t k => XS.ifYes X0.here hx rfl (pc0 := 1) (pc' := 18) rfl (hb hby own_d9_1) rfl ((if0 _ _).trans (feq hc96).2) (by decide) (by decide) k) ?_
      show own_Ends _ _ _ _ (s₁.setTop (mkF m 18 #[.val (.int p0), .val (.int p1), .val (.int p2)] []))
      refine own_pre (fun t k => XS.iloadN X0.here hx rfl (hb hby own_d9_18) rfl k) ?_
      show own_Ends _ _ _ _ (s₁.setTop (mkF m 19 #[.val (.int p0), .val (.int p1), .val (.int p2)] [(.int p1)]))
      by_cases hc99 : p1 < (0 : Int32)
      · skip
        rw [if_pos hc99] at hG
        refine own_pre (fun t k => XS.ifNo X0.here hx rfl (hb hby own_d9_19) rfl ((if0 _ _).trans (tlt hc99).2.1) k) ?_
        show own_Ends _ _ _ _ (s₁.setTop (mkF m 22 #[.val (.int p0), .val (.int p1), .val (.int p2)] []))
        refine own_pre (fun t k => XS.iconst X0.here hx rfl (hb hby own_d9_22) k) ?_
        show own_Ends _ _ _ _ (s₁.setTop (mkF m 23 #[.val (.int p0), .val (.int p1), .val (.int p2)] [(.int (0 : Int32))]))
        exact own_retN X0 hx (t := .boolean) Bd.returns (by simp) (hb hby own_d9_23) hlk rfl e0 (hG _ N0) (by decide) (by decide)
      · skip
        rw [if_neg hc99] at hG
        refine own_pre (fun t k => XS.ifYes X0.here hx rfl (pc0 := 19) (pc' := 24) rfl (hb hby own_d9_19) rfl ((if0 _ _).trans (flt hc99).2.1) (by decide) (by decide) k) ?_
        show own_Ends _ _ _ _ (s₁.setTop (mkF m 24 #[.val (.int p0), .val (.int p1), .val (.int p2)] []))
        refine own_pre (fun t k => XS.iloadN X0.here hx rfl (hb hby own_d9_24) rfl k) ?_
        show own_Ends _ _ _ _ (s₁.setTop (mkF m 25 #[.val (.int p0), .val (.int p1), .val (.int p2)] [(.int p1)]))
        refine own_pre (fun t k => XS.iloadN X0.here hx rfl (hb hby own_d9_25) rfl k) ?_
        show own_Ends _ _ _ _ (s₁.setTop (mkF m 26 #[.val (.int p0), .val (.int p1), .val (.int p2)] [(.int p0), (.int p1)]))
        by_cases hc100 : p0 < p1
        · skip
          rw [if_pos hc100] at hG
          refine own_pre (fun t k => XS.icmpYes X0.here hx rfl (pc0 := 26) (pc' := 37) rfl (hb hby own_d9_26) rfl (tlt hc100).2.2.1 (by decide) (by decide) k) ?_
          show own_Ends _ _ _ _ (s₁.setTop (mkF m 37 #[.val (.int p0), .val (.int p1), .val (.int p2)] []))
          refine own_pre (fun t k => XS.iconst X0.here hx rfl (hb hby own_d9_37) k) ?_
          show own_Ends _ _ _ _ (s₁.setTop (mkF m 38 #[.val (.int p0), .val (.int p1), .val (.int p2)] [(.int (0 : Int32))]))
          exact own_retN X0 hx (t := .boolean) Bd.returns (by simp) (hb hby own_d9_38) hlk rfl e0 (hG _ N0) (by decide) (by decide)
        · skip
          rw [if_neg hc100] at hG
          refine own_pre (fun t k => XS.icmpNo X0.here hx rfl (hb hby own_d9_26) rfl (flt hc100).2.2.1 k) ?_
          show own_Ends _ _ _ _ (s₁.setTop (mkF m 29 #[.val (.int p0), .val (.int p1), .val (.int p2)] []))
          refine own_pre (fun t k => XS.iloadN X0.here hx rfl (hb hby own_d9_29) rfl k) ?_
          show own_Ends _ _ _ _ (s₁.setTop (mkF m 30 #[.val (.int p0), .val (.int p1), .val (.int p2)] [(.int p2)]))
          by_cases hc101 : (0 : Int32) < p2
          · skip
            rw [if_pos hc101] at hG
            refine own_pre (fun t k => XS.ifNo X0.here hx rfl (hb hby own_d9_30) rfl ((if0 _ _).trans (tlt hc101).2.2.2) k) ?_
            show own_Ends _ _ _ _ (s₁.setTop (mkF m 33 #[.val (.int p0), .val (.int p1), .val (.int p2)] []))
            refine own_pre (fun t k => XS.iconst X0.here hx rfl (hb hby own_d9_33) k) ?_
            show own_Ends _ _ _ _ (s₁.setTop (mkF m 34 #[.val (.int p0), .val (.int p1), .val (.int p2)] [(.int (1 : Int32))]))
            refine own_pre (fun t k => XS.goto X0.here hx rfl (pc0 := 34) (pc' := 38) rfl (hb hby own_d9_34) (by decide) (by decide) k) ?_
            show own_Ends _ _ _ _ (s₁.setTop (mkF m 38 #[.val (.int p0), .val (.int p1), .val (.int p2)] [(.int (1 : Int32))]))
            exact own_retN X0 hx (t := .boolean) Bd.returns (by simp) (hb hby own_d9_38) hlk rfl e0 (hG _ N0) (by decide) (by decide)
          · skip
            rw [if_neg hc101] at hG
            refine own_pre (fun t k => XS.ifYes X0.here hx rfl (pc0 := 30) (pc' := 37) rfl (hb hby own_d9_30) rfl ((if0 _ _).trans (flt hc101).2.2.2) (by decide) (by decide) k) ?_
            show own_Ends _ _ _ _ (s₁.setTop (mkF m 37 #[.val (.int p0), .val (.int p1), .val (.int p2)] []))
            refine own_pre (fun t k => XS.iconst X0.here hx rfl (hb hby own_d9_37) k) ?_
            show own_Ends _ _ _ _ (s₁.setTop (mkF m 38 #[.val (.int p0), .val (.int p1), .val (.int p2)] [(.int (0 : Int32))]))
            exact own_retN X0 hx (t := .boolean) Bd.returns (by simp) (hb hby own_d9_38) hlk rfl e0 (hG _ N0) (by decide) (by decide)
  exact J0 _ fun L q => ⟨rfl, q, rfl⟩
theorem own_char (y : Int32) : y.toUInt32.toUInt16.toUInt32.toInt32 = Int32.ofNat y.toUInt32.toUInt16.toNat := by
  apply Int32.toBitVec_inj.mp
  apply BitVec.eq_of_toNat_eq
  have e : y.toUInt32.toNat = y.toBitVec.toNat := rfl
  simp
  omega
theorem own_latin (x : Int32) : ¬ own_can ((x &&& 255).toUInt32.toUInt16.toUInt32.toInt32) = 0 := by
  have e1 := own_char (x &&& 255)
  have e2 : (x &&& 255).toUInt32.toUInt16.toNat ≤ 255 := by
    have e3 : (x &&& 255).toUInt32.toUInt16.toNat = (x &&& 255).toBitVec.toNat % 65536 := rfl
    have e4 : (x &&& 255).toBitVec.toNat = x.toBitVec.toNat &&& 255 := by rw [Int32.toBitVec_and, BitVec.toNat_and]; rfl
    have e5 : x.toBitVec.toNat &&& 255 ≤ 255 := Nat.and_le_right
    omega
  rw [e1]
  have h : ¬ (255 : Int32) < Int32.ofNat (x &&& 255).toUInt32.toUInt16.toNat := by
    rw [Int32.lt_iff_toInt_lt, Int32.toInt_ofNat_of_lt (by omega)]
    have l : (255 : Int32).toInt = 255 := rfl
    omega
  rw [own_can, if_neg h]
  decide
theorem own_eq (d x g : Int32) : own_has d x g = own_exp d x g := by
  have e0 : (0 : Int32).toInt = 0 := rfl
  have e1 : (1 : Int32).toInt = 1 := rfl
  simp only [own_has, own_has_44, own_has_56, own_exp, Int32.lt_iff_toInt_lt, ← Int32.toInt_inj, e0, e1]
  repeat' split
  all_goals first | rfl | omega | (simp; done) | exact absurd trivial (by assumption)
theorem own_pd4 : parseMethodDescriptor "(C)Ljava/lang/String;" = some ⟨[.char], some (.object "java/lang/String")⟩ := by decide +kernel
theorem own_pd5 : parseMethodDescriptor "(Ljava/lang/String;III)V" = some ⟨[(.object "java/lang/String"), .int, .int, .int], none⟩ := by decide +kernel
theorem own_pd6 : parseMethodDescriptor "()Z" = some ⟨[], some .boolean⟩ := by decide +kernel
theorem own_pd7 : parseMethodDescriptor "(III)Z" = some ⟨[.int, .int, .int], some .boolean⟩ := by decide +kernel
theorem own_ef_rm0 (m : MethodId) (x0 : Int32) (x1 : Int32) (x2 : Int32) (x3 : Int32) : entryFrame m #[(.int x0), (.int x1), (.int x2), (.int x3)] maxLocals = mkF m 0 #[.val (.int x0), .val (.int x1), .val (.int x2), .val (.int x3), .unset, .unset, .unset] [] := by first | (simp [entryFrame, mkF, argsToLocals, Value.category, maxLocals]; done) | rfl
def own_Q_rm0 (Z : State) (p0 : Int32) (p1 : Int32) (p2 : Int32) (p3 : Int32) (wc : Int32) (h0 : Heap) (n0 : Nat) (v : Option Value) (h : Heap) (L : List Loc) : Prop := v = some (.int 1) ∧ Fr n0 L
set_option maxRecDepth 65536 in
set_option maxHeartbeats 40000000 in
theorem rm0 (l : Launch) (Z : State) (a0 : Array Value) (hw : ∀ d ∈ tables_1, d.before a0 Z = true) (ws : List Jvm.Cond) (p0 : Int32) (p1 : Int32) (p2 : Int32) (p3 : Int32) (wc : Int32) (h0 : Heap) (n0 : Nat) (Z0 : n0 ≤ h0.size) (Sc : Sta Z h0 "java/lang/String" "COMPACT_STRINGS" "Z" (.int wc)) (hwc : ¬ wc = 0) :
    MetFree l x (head1 (Jvm.Cond.code x code maxLocals ret :: ws) room_1) (fun a U => a = #[(.int p0), (.int p1), (.int p2), (.int p3)] ∧ Z.Warmed39 U.vm ∧ U.heap = h0) (fun _ _ _ _ _ => True) (fun _ U o U' => ∃ v L, o = .returned v ∧ (own_Q_rm0 Z p0 p1 p2 p3 wc h0 n0) v U'.heap L ∧ FrameEnd U o U' L 16 128) := by
  refine MetFree.of_bodySF (plainFor_of_name own_pn4) hisR ?_
  intro p e s m args below meth c s₁ Bd hml0 hP hK
  obtain ⟨rfl, hZ, hh⟩ := hP
  have hx := Bd.exec
  have hby := Bd.bytes
  have hml : c.maxLocals = 7 := hml0
  have hown : s.vm.findClass "com/example/sedge/sedge/index/SegmentInfoHasPossibleCountsPinLaw" = some m.cls := findClass_of_methodNamed Bd.named
  have hnm := (name_of_methodNamed Bd.named Bd.method).1
  have hlk : meth.locks = false := BodyLoose.notSynchronized Bd
  have X0 : Stand p l e room_1 s m #[(.int p0), (.int p1), (.int p2), (.int p3)] below meth c s₁ [] 0 0 := Stand.of_body Bd
  have e0 : s₁.heap = h0 := by rw [← hh, Bd.state]; rfl
  have N0 := Fr.nil n0
  show own_Ends p e below (own_Fin s (own_Q_rm0 Z p0 p1 p2 p3 wc h0 n0) 16 128) _
  refine own_pre (fun t k => castTop (own_ef_rm0 m p0 p1 p2 p3) k) ?_
  show own_Ends _ _ _ _ (s₁.setTop (mkF m 0 #[.val (.int p0), .val (.int p1), .val (.int p2), .val (.int p3), .unset, .unset, .unset] []))
  refine own_pre (fun t k => XS.iloadN X0.here hx rfl (hb hby at_0) rfl k) ?_
  show own_Ends _ _ _ _ (s₁.setTop (mkF m 1 #[.val (.int p0), .val (.int p1), .val (.int p2), .val (.int p3), .unset, .unset, .unset] [(.int p3)]))
  refine own_pre (fun t k => XS.sipush X0.here hx rfl (hb hby at_1) k) ?_
  show own_Ends _ _ _ _ (s₁.setTop (mkF m 4 #[.val (.int p0), .val (.int p1), .val (.int p2), .val (.int p3), .unset, .unset, .unset] [(.int (255 : Int32)), (.int p3)]))
  refine own_pre (fun t k => XS.iand X0.here hx rfl (hb hby at_4) rfl k) ?_
  show own_Ends _ _ _ _ (s₁.setTop (mkF m 5 #[.val (.int p0), .val (.int p1), .val (.int p2), .val (.int p3), .unset, .unset, .unset] [(.int (p3 &&& (255 : Int32)))]))
  refine own_pre (fun t k => XS.i2c X0.here hx rfl (hb hby at_5) rfl k) ?_
  show own_Ends _ _ _ _ (s₁.setTop (mkF m 6 #[.val (.int p0), .val (.int p1), .val (.int p2), .val (.int p3), .unset, .unset, .unset] [(.int ((p3 &&& (255 : Int32)).toUInt32.toUInt16.toUInt32.toInt32))]))
  obtain ⟨_, _, ⟨T102, L102, k102, n102⟩, -, X102, ⟨Lc102, hQ102, l102, y102, z102⟩, st102⟩ := Jvm.LawKit.callS X0 hx (y := (⟨"java/lang/String", "valueOf", "(C)Ljava/lang/String;"⟩ : MethodName)) hown (mvT hZ (hw _ (List.mem_of_getElem? (i := 0) rfl))) (mvT hZ (hw _ (List.mem_of_getElem? (i := 1) rfl))) (mvT hZ (hw _ (List.mem_of_getElem? (i := 2) rfl))) (mvT hZ (hw _ (List.mem_of_getElem? (i := 3) rfl))) (by decide) (backOf (W := 0) (rm4 l Z a0 hw [] ((p3 &&& (255 : Int32)).toUInt32.toUInt16.toUInt32.toInt32) wc h0 n0 Z0 Sc hwc (own_latin p3)) hZ (hw _ (List.mem_of_getElem? (i := 3) rfl)) (hw _ (List.mem_of_getElem? (i := 2) rfl)) (by decide) (by decide)) (g := (mkF m 6 #[.val (.int p0), .val (.int p1), .val (.int p2), .val (.int p3), .unset, .unset, .unset] [(.int ((p3 &&& (255 : Int32)).toUInt32.toUInt16.toUInt32.toInt32))])) rfl (by rw [hml]; rfl) (argsL := [(.int ((p3 &&& (255 : Int32)).toUInt32.toUInt16.toUInt32.toInt32))]) (rest := []) (lenOf own_pd4 rfl) rfl (by show 2 * 0 + _ ≤ _; exact Nat.le_of_eq rfl) (hb hby at_6) (fun _ _ => ⟨rfl, e0, (by decide : 0 + 2 ≤ _), (by decide : 0 + 5 ≤ _)⟩)
  dsimp only [Pt.U, Pt.locs, Pt.cells, Pt.slots] at X102 l102 y102 z102 st102 hQ102
  subst l102 y102 z102
  obtain ⟨br102, rfl, Nq102, Kq102⟩ := hQ102
  have N102 := Fr.app N0 Nq102
  have f103 := own_staK0 Sc Kq102
  have Zn102 : n0 ≤ T102.heap.size := Nat.le_trans Z0 Kq102.1
  refine own_pre st102 ?_
  show own_Ends _ _ _ _ (T102.setTop (mkF m 9 #[.val (.int p0), .val (.int p1), .val (.int p2), .val (.int p3), .unset, .unset, .unset] [(.ref br102)]))
  refine own_pre (fun t k => XS.astore X102.here hx rfl (hb hby at_9) rfl rfl (l' := #[.val (.int p0), .val (.int p1), .val (.int p2), .val (.int p3), .val (.ref br102), .unset, .unset]) rfl k) ?_
  show own_Ends _ _ _ _ (T102.setTop (mkF m 11 #[.val (.int p0), .val (.int p1), .val (.int p2), .val (.int p3), .val (.ref br102), .unset, .unset] []))
  obtain ⟨T104, h104, X104, e104, E104, A104, D104, -, st104⟩ := newO X102 hx hZ hown (hw _ (List.mem_of_getElem? (i := 26) rfl)) (hw _ (List.mem_of_getElem? (i := 27) rfl)) (hw _ (List.mem_of_getElem? (i := 28) rfl)) rfl (g := (mkF m 11 #[.val (.int p0), .val (.int p1), .val (.int p2), .val (.int p3), .val (.ref br102), .unset, .unset] [])) rfl (hb hby at_11) (by decide) (by decide)
  obtain ⟨b104, g104⟩ : ∃ z, z = T102.heap.size := ⟨_, rfl⟩
  rw [← g104] at A104 D104 st104
  refine own_pre st104 ?_
  have f105 := f103.ext E104
  have L106 : n0 ≤ b104 := Nat.le_trans Zn102 (Nat.le_of_eq g104.symm)
  have Zn107 : n0 ≤ h104.size := Nat.le_trans Zn102 E104.1
  have f108 : Fld Z h104 b104 "com/example/sedge/sedge/index/SegmentInfo" "name" "Ljava/lang/String;" .null := D104 (Or.inr (hw _ (List.mem_of_getElem? (i := 39) rfl))) (ty := (.object "java/lang/String")) (by decide)
  have f109 : Fld Z h104 b104 "com/example/sedge/sedge/index/SegmentInfo" "docCount" "I" (.int (0 : Int32)) := D104 (Or.inr (hw _ (List.mem_of_getElem? (i := 41) rfl))) (ty := .int) (by decide)
  have f110 : Fld Z h104 b104 "com/example/sedge/sedge/index/SegmentInfo" "deletedCount" "I" (.int (0 : Int32)) := D104 (Or.inr (hw _ (List.mem_of_getElem? (i := 43) rfl))) (ty := .int) (by decide)
  have f111 : Fld Z h104 b104 "com/example/sedge/sedge/index/SegmentInfo" "deletesGeneration" "I" (.int (0 : Int32)) := D104 (Or.inr (hw _ (List.mem_of_getElem? (i := 45) rfl))) (ty := .int) (by decide)
  show own_Ends _ _ _ _ (T104.setTop (mkF m 14 #[.val (.int p0), .val (.int p1), .val (.int p2), .val (.int p3), .val (.ref br102), .unset, .unset] [(.ref b104)]))
  refine own_pre (fun t k => XS.dup X104.here hx rfl (hb hby at_14) rfl rfl k) ?_
  show own_Ends _ _ _ _ (T104.setTop (mkF m 15 #[.val (.int p0), .val (.int p1), .val (.int p2), .val (.int p3), .val (.ref br102), .unset, .unset] [(.ref b104), (.ref b104)]))
  refine own_pre (fun t k => XS.aload X104.here hx rfl (hb hby at_15) rfl rfl k) ?_
  show own_Ends _ _ _ _ (T104.setTop (mkF m 17 #[.val (.int p0), .val (.int p1), .val (.int p2), .val (.int p3), .val (.ref br102), .unset, .unset] [(.ref br102), (.ref b104), (.ref b104)]))
  refine own_pre (fun t k => XS.iloadN X104.here hx rfl (hb hby at_17) rfl k) ?_
  show own_Ends _ _ _ _ (T104.setTop (mkF m 18 #[.val (.int p0), .val (.int p1), .val (.int p2), .val (.int p3), .val (.ref br102), .unset, .unset] [(.int p0), (.ref br102), (.ref b104), (.ref b104)]))
  refine own_pre (fun t k => XS.iloadN X104.here hx rfl (hb hby at_18) rfl k) ?_
  show own_Ends _ _ _ _ (T104.setTop (mkF m 19 #[.val (.int p0), .val (.int p1), .val (.int p2), .val (.int p3), .val (.ref br102), .unset, .unset] [(.int p1), (.int p0), (.ref br102), (.ref b104), (.ref b104)]))
  refine own_pre (fun t k => XS.iloadN X104.here hx rfl (hb hby at_19) rfl k) ?_
  show own_Ends _ _ _ _ (T104.setTop (mkF m 20 #[.val (.int p0), .val (.int p1), .val (.int p2), .val (.int p3), .val (.ref br102), .unset, .unset] [(.int p2), (.int p1), (.int p0), (.ref br102), (.ref b104), (.ref b104)]))
  obtain ⟨_, _, ⟨T112, L112, k112, n112⟩, -, X112, ⟨Lc112, hQ112, l112, y112, z112⟩, st112⟩ := X104.specialBack hx (y := (⟨"com/example/sedge/sedge/index/SegmentInfo", "<init>", "(Ljava/lang/String;III)V"⟩ : MethodName)) rfl hown (mvT hZ (hw _ (List.mem_of_getElem? (i := 29) rfl))) (mvT hZ (hw _ (List.mem_of_getElem? (i := 30) rfl))) (mvT hZ (hw _ (List.mem_of_getElem? (i := 31) rfl))) (by decide) (backOf (W := 1) (rm6 l Z a0 hw [] b104 br102 p0 p1 p2 h104 n0 Zn107 A104 L106 f108 f109 f110 f111) hZ (hw _ (List.mem_of_getElem? (i := 31) rfl)) (hw _ (List.mem_of_getElem? (i := 28) rfl)) (by decide) (by decide)) (g := (mkF m 20 #[.val (.int p0), .val (.int p1), .val (.int p2), .val (.int p3), .val (.ref br102), .unset, .unset] [(.int p2), (.int p1), (.int p0), (.ref br102), (.ref b104), (.ref b104)])) rfl (by rw [hml]; rfl) (Steps.refl _) (a := b104) (argsL := [(.ref br102), (.int p0), (.int p1), (.int p2)]) (rest := [(.ref b104)]) (lenOf own_pd5 rfl) rfl (by show 2 * 0 + _ ≤ _; exact Nat.le_of_eq rfl) (hb hby at_20) (fun _ _ => ⟨rfl, e104, (by decide : 3 + 0 ≤ _), (by decide : 9 + 0 ≤ _)⟩)
  dsimp only [Pt.U, Pt.locs, Pt.cells, Pt.slots] at X112 l112 y112 z112 st112 hQ112
  subst l112 y112 z112
  obtain ⟨rfl, Nq112, Kq112, f113, f114, f115, f116⟩ := hQ112
  have N112 := Fr.app N102 Nq112
  have f117 := own_staK f105 Kq112 A104
  have f118 := A104.keep Kq112
  have Zn112 : n0 ≤ T112.heap.size := Nat.le_trans Zn107 Kq112.1
  refine own_pre (fun t k => st112.trans k) ?_
  show own_Ends _ _ _ _ (T112.setTop (mkF m 23 #[.val (.int p0), .val (.int p1), .val (.int p2), .val (.int p3), .val (.ref br102), .unset, .unset] [(.ref b104)]))
  refine own_pre (fun t k => XS.astore X112.here hx rfl (hb hby at_23) rfl rfl (l' := #[.val (.int p0), .val (.int p1), .val (.int p2), .val (.int p3), .val (.ref br102), .val (.ref b104), .unset]) rfl k) ?_
  show own_Ends _ _ _ _ (T112.setTop (mkF m 25 #[.val (.int p0), .val (.int p1), .val (.int p2), .val (.int p3), .val (.ref br102), .val (.ref b104), .unset] []))
  refine own_pre (fun t k => XS.aload X112.here hx rfl (hb hby at_25) rfl rfl k) ?_
  show own_Ends _ _ _ _ (T112.setTop (mkF m 27 #[.val (.int p0), .val (.int p1), .val (.int p2), .val (.int p3), .val (.ref br102), .val (.ref b104), .unset] [(.ref b104)]))
  obtain ⟨cq119, kq119, q119a, q119b, q119c⟩ := isOf hZ rfl f118
  obtain ⟨_, _, ⟨T119, L119, k119, n119⟩, -, X119, ⟨Lc119, hQ119, l119, y119, z119⟩, st119⟩ := X112.virtualBack hx (y := (⟨"com/example/sedge/sedge/index/SegmentInfo", "hasPossibleCounts", "()Z"⟩ : MethodName)) (z := (⟨"com/example/sedge/sedge/index/SegmentInfo", "hasPossibleCounts", "()Z"⟩ : MethodName)) hown (mvT hZ (hw _ (List.mem_of_getElem? (i := 46) rfl))) (mvT hZ (hw _ (List.mem_of_getElem? (i := 47) rfl))) (notFace_of_selects (args := #[]) (mvT hZ (hw _ (List.mem_of_getElem? (i := 49) rfl)))) (mvT hZ (hw _ (List.mem_of_getElem? (i := 49) rfl))) (mvT hZ (hw _ (List.mem_of_getElem? (i := 48) rfl))) (by decide) (backOf (W := 0) (rm7 l Z a0 hw [] b104 p0 p1 p2 T112.heap n0 Zn112 f114 f115 f116) hZ (hw _ (List.mem_of_getElem? (i := 50) rfl)) (hw _ (List.mem_of_getElem? (i := 28) rfl)) (by decide) (by decide)) q119a q119c (g := (mkF m 27 #[.val (.int p0), .val (.int p1), .val (.int p2), .val (.int p3), .val (.ref br102), .val (.ref b104), .unset] [(.ref b104)])) rfl (by rw [hml]; rfl) (Steps.refl _) (argsL := []) (rest := []) (lenOf own_pd6 rfl) rfl (by show 2 * 0 + _ ≤ _; exact Nat.le_of_eq rfl) (hb hby at_27) (fun _ _ => ⟨rfl, rfl, (by decide : 3 + 0 ≤ _), (by decide : 9 + 0 ≤ _)⟩)
  dsimp only [Pt.U, Pt.locs, Pt.cells, Pt.slots] at X119 l119 y119 z119 st119 hQ119
  subst l119 y119 z119
  obtain ⟨rfl, Nq119, e119⟩ := hQ119
  have N119 := Fr.app N112 Nq119
  refine own_pre (fun t k => st119.trans k) ?_
  show own_Ends _ _ _ _ (T119.setTop (mkF m 30 #[.val (.int p0), .val (.int p1), .val (.int p2), .val (.int p3), .val (.ref br102), .val (.ref b104), .unset] [(.int (own_has p0 p1 p2))]))
  refine own_pre (fun t k => XS.istore X119.here hx rfl (hb hby at_30) rfl (l' := #[.val (.int p0), .val (.int p1), .val (.int p2), .val (.int p3), .val (.ref br102), .val (.ref b104), .val (.int (own_has p0 p1 p2))]) rfl k) ?_
  show own_Ends _ _ _ _ (T119.setTop (mkF m 32 #[.val (.int p0), .val (.int p1), .val (.int p2), .val (.int p3), .val (.ref br102), .val (.ref b104), .val (.int (own_has p0 p1 p2))] []))
  refine own_pre (fun t k => XS.iload X119.here hx rfl (hb hby at_32) rfl k) ?_
  show own_Ends _ _ _ _ (T119.setTop (mkF m 34 #[.val (.int p0), .val (.int p1), .val (.int p2), .val (.int p3), .val (.ref br102), .val (.ref b104), .val (.int (own_has p0 p1 p2))] [(.int (own_has p0 p1 p2))]))
  refine own_pre (fun t k => XS.iloadN X119.here hx rfl (hb hby at_34) rfl k) ?_
  show own_Ends _ _ _ _ (T119.setTop (mkF m 35 #[.val (.int p0), .val (.int p1), .val (.int p2), .val (.int p3), .val (.ref br102), .val (.ref b104), .val (.int (own_has p0 p1 p2))] [(.int p0), (.int (own_has p0 p1 p2))]))
  refine own_pre (fun t k => XS.iloadN X119.here hx rfl (hb hby at_35) rfl k) ?_
  show own_Ends _ _ _ _ (T119.setTop (mkF m 36 #[.val (.int p0), .val (.int p1), .val (.int p2), .val (.int p3), .val (.ref br102), .val (.ref b104), .val (.int (own_has p0 p1 p2))] [(.int p1), (.int p0), (.int (own_has p0 p1 p2))]))
  refine own_pre (fun t k => XS.iloadN X119.here hx rfl (hb hby at_36) rfl k) ?_
  show own_Ends _ _ _ _ (T119.setTop (mkF m 37 #[.val (.int p0), .val (.int p1), .val (.int p2), .val (.int p3), .val (.ref br102), .val (.ref b104), .val (.int (own_has p0 p1 p2))] [(.int p2), (.int p1), (.int p0), (.int (own_has p0 p1 p2))]))
  obtain ⟨_, _, ⟨T120, L120, k120, n120⟩, -, X120, ⟨Lc120, hQ120, l120, y120, z120⟩, st120⟩ := Jvm.LawKit.callS X119 hx (y := (⟨"com/example/sedge/sedge/index/SegmentInfoHasPossibleCountsPinLaw", "expected", "(III)Z"⟩ : MethodName)) hown (mvT hZ (hw _ (List.mem_of_getElem? (i := 51) rfl))) (mvT hZ (hw _ (List.mem_of_getElem? (i := 52) rfl))) (mvT hZ (hw _ (List.mem_of_getElem? (i := 53) rfl))) (mvT hZ (hw _ (List.mem_of_getElem? (i := 54) rfl))) (by decide) (backOf (W := 1) (rm8 l Z a0 hw [] p0 p1 p2 T112.heap n0 Zn112) hZ (hw _ (List.mem_of_getElem? (i := 54) rfl)) (hw _ (List.mem_of_getElem? (i := 53) rfl)) (by decide) (by decide)) (g := (mkF m 37 #[.val (.int p0), .val (.int p1), .val (.int p2), .val (.int p3), .val (.ref br102), .val (.ref b104), .val (.int (own_has p0 p1 p2))] [(.int p2), (.int p1), (.int p0), (.int (own_has p0 p1 p2))])) rfl (by rw [hml]; rfl) (argsL := [(.int p0), (.int p1), (.int p2)]) (rest := [(.int (own_has p0 p1 p2))]) (lenOf own_pd7 rfl) rfl (by show 2 * 0 + _ ≤ _; exact Nat.le_of_eq rfl) (hb hby at_37) (fun _ _ => ⟨rfl, e119, (by decide : 3 + 0 ≤ _), (by decide : 9 + 0 ≤ _)⟩)
  dsimp only [Pt.U, Pt.locs, Pt.cells, Pt.slots] at X120 l120 y120 z120 st120 hQ120
  subst l120 y120 z120
  obtain ⟨rfl, Nq120, e120⟩ := hQ120
  have N120 := Fr.app N119 Nq120
  refine own_pre st120 ?_
  show own_Ends _ _ _ _ (T120.setTop (mkF m 40 #[.val (.int p0), .val (.int p1), .val (.int p2), .val (.int p3), .val (.ref br102), .val (.ref b104), .val (.int (own_has p0 p1 p2))] [(.int (own_exp p0 p1 p2)), (.int (own_has p0 p1 p2))]))
  refine own_pre (fun t k => XS.icmpNo X120.here hx rfl (hb hby at_40) rfl (teq (own_eq p0 p1 p2 : (own_has p0 p1 p2) = (own_exp p0 p1 p2))).2 k) ?_
  show own_Ends _ _ _ _ (T120.setTop (mkF m 43 #[.val (.int p0), .val (.int p1), .val (.int p2), .val (.int p3), .val (.ref br102), .val (.ref b104), .val (.int (own_has p0 p1 p2))] []))
  refine own_pre (fun t k => XS.iconst X120.here hx rfl (hb hby at_43) k) ?_
  show own_Ends _ _ _ _ (T120.setTop (mkF m 44 #[.val (.int p0), .val (.int p1), .val (.int p2), .val (.int p3), .val (.ref br102), .val (.ref b104), .val (.int (own_has p0 p1 p2))] [(.int (1 : Int32))]))
  refine own_pre (fun t k => XS.goto X120.here hx rfl (pc0 := 44) (pc' := 48) rfl (hb hby at_44) (by decide) (by decide) k) ?_
  show own_Ends _ _ _ _ (T120.setTop (mkF m 48 #[.val (.int p0), .val (.int p1), .val (.int p2), .val (.int p3), .val (.ref br102), .val (.ref b104), .val (.int (own_has p0 p1 p2))] [(.int (1 : Int32))]))
  exact own_retN X120 hx (t := .boolean) Bd.returns (by simp) (hb hby at_48) hlk rfl e120 ⟨rfl, N120⟩ (by decide) (by decide)
set_option maxRecDepth 65536 in
set_option maxHeartbeats 40000000 in
theorem own_comes {Post : Tables → Env → Array Value → State → Outcome → State → Prop} (hpost : ∀ tb e args s v u, (limb_1_1.after args s (.returned v) u = true ∧ limb_1_2.after args s (.returned v) u = true ∧ True) → FrameEnd s (.returned v) u (Jvm.fieldLocs frame_1_writes args s ++ Jvm.arrayLocs frame_1_arrays args s ++ Jvm.staticLocs frame_1_statics s) 16 128 → Post tb e args s (.returned v) u) :
    ArmFor flags0 classFile x code maxLocals ret World_1 tables_1 room_1 Calls_1 rest_1 Pre_1 Post := by
  intro l hfl _ _ p e ha hc hk s m args below hf hA hF happ hP
  obtain ⟨hcalls, hrest, hpre⟩ := hP
  obtain ⟨-, -, -, hnamed, -, -, -, hat⟩ := (Spec.applies_iff hf).mp happ
  obtain ⟨hg, hn⟩ := and_e (Cond.before_iff.mp (show (Jvm.Cond.and given_1 narrow_1).before args s = true from hpre))
  obtain ⟨hcount, g0⟩ := and_e hg
  obtain ⟨hk0, g1⟩ := and_e g0
  obtain ⟨hk1, g2⟩ := and_e g1
  obtain ⟨hk2, g3⟩ := and_e g2
  obtain ⟨w0, w1, w2, w3, rfl⟩ : ∃ w0 w1 w2 w3 : Value, args = #[w0, w1, w2, w3] := by
    have hs : args.size = 4 := by simpa [Cond.value, given_1] using hcount
    obtain ⟨L⟩ := args
    match L, hs with
    | [w0, w1, w2, w3], _ => exact ⟨w0, w1, w2, w3, rfl⟩
  have hw := fun d (hd : d ∈ tables_1) => atoms_spec (ws := Jvm.Cond.code x code maxLocals ret :: tables_1) hat d (List.mem_cons_of_mem _ hd)
  have hfit : Fit s := fun {y c} hc i hi => by
    obtain ⟨ha, rfl⟩ := Array.getElem?_eq_some_iff.mp hc
    have q := List.all_eq_true.mp ((Array.all_eq_true_iff_forall_mem.mp hF) _ (Array.getElem_mem ha)) i (List.mem_range.mpr hi)
    simpa [Array.getElem?_eq_getElem hi] using q
  obtain ⟨hsets, hown0⟩ := atoms_of _ (rest_1_c_eq ▸ (show rest_1_c.before _ s = true from hrest))
  have hr0 := Cond.before_iff.mp hown0
  obtain ⟨i0, ei0⟩ := is_v hk0
  obtain rfl : w0 = (.int i0) := Option.some.inj ei0
  obtain ⟨i1, ei1⟩ := is_v hk1
  obtain rfl : w1 = (.int i1) := Option.some.inj ei1
  obtain ⟨i2, ei2⟩ := is_v hk2
  obtain rfl : w2 = (.int i2) := Option.some.inj ei2
  obtain ⟨i3, ei3⟩ := is_v g3
  obtain rfl : w3 = (.int i3) := Option.some.inj ei3
  obtain ⟨wc, ewc⟩ := is_v (Cond.before_iff.mp (hsets _ (List.mem_of_getElem? (i := 1) rfl)))
  have Sc := Sta.start ewc (Or.inl (hsets _ (List.mem_of_getElem? (i := 0) rfl)))
  have hwc : ¬ wc = 0 := fun q => by
    have z := Cond.before_iff.mp (hsets _ (List.mem_of_getElem? (i := 2) rfl))
    simp [Cond.value, ewc, q, Term.int_eval] at z
  obtain ⟨n, o, h1, h2, h3, _, L, rfl, ⟨rfl, N⟩, hq⟩ := rm0 l s _ hw tables_1 i0 i1 i2 i3 wc s.heap s.heap.size (Nat.le_refl _) Sc hwc p e ha hc hk s m _ below hf ((Spec.applies_iff_loose hf).mp happ).1 ⟨rfl, State.Warmed39.refl s, rfl⟩ trivial
  refine ⟨n, _, h1, h2, h3, hpost _ _ _ _ _ _ ⟨Cond.after_iff.mpr rfl, Cond.after_iff.mpr (eq_i res_at (Term.int_eval (1)) rfl), trivial⟩ ⟨hq.1, hq.2.1, (hq.2.2.sift fun y hy => Or.inr (N y hy)).mono (by decide) (by decide)⟩⟩
theorem main_1_1 : Claimed_1_1 := own_comes fun _ _ _ _ _ _ h hF => ⟨h.1, hF⟩
theorem main_1_2 : Claimed_1_2 := own_comes fun _ _ _ _ _ _ h hF => ⟨h.2.1, hF⟩
end Jvm.Pilot.@@N@@
namespace Jvm.Pilot.@@N@@
open Jvm Jvm.ClassFile Sem Op Lib Jvm.Free Jvm.Stand Jvm.Pilot.@@N@@.Jvm.D
/-! MADE BY PROGRAM (witnessworld.py) out of the Statement's table words and the real class files: 18 classes; the members and pool entries that the words name. The judged class is class 1, her method 1. -/
namespace start1
open Jvm.ClassFile
def u (s : String) : CpInfo := .utf8 (stringToUtf16 s)
/-- a pool by its gaps: so many unusable entries, then the entry; so many at the end -/
def gap : Nat → List CpInfo → List CpInfo
  | 0, r => r
  | n + 1, r => .unusable :: gap n r
def poolList (es : List (Nat × CpInfo)) (last : Nat) : List CpInfo := es.foldr (fun e r => gap e.1 (e.2 :: r)) (gap last [])
def pool (es : List (Nat × CpInfo)) (last : Nat) : Array CpInfo := ⟨poolList es last⟩
def fileOf (pool : Array CpInfo) (this : Nat) (attrs : Array Attribute := #[]) (ms : Array MethodInfo := #[]) (fl : Nat := 33) (sup : Nat := 0) (ifs : Array Nat := #[]) (fds : Array FieldInfo := #[]) : ClassFile where
  minorVersion := 0
  majorVersion := 65
  constantPool := pool
  accessFlags := fl
  thisClass := this
  superClass := sup
  interfaces := ifs
  fields := fds
  methods := ms
  attributes := attrs
def plain (name : String) (sup : Option ClassId) : Class where
  name := name
  kind := .ordinary
  loader := none
  accessFlags := 33
  super := sup
  interfaces := #[]
  cf := none
  fields := #[]
  methods := #[]
  instanceTypes := #[]
  staticTypes := #[]
  resolved := #[]
  callSites := []
  init := .initialized
  statics := none
  mirror := none

def pool0 : Array CpInfo := pool [(5, u "<init>"), (0, u "()V"), (1, .class_ 10), (1, u "java/lang/Object")] 113

def k0c0 : Code := { maxStack := 0, maxLocals := 1, code := object_method_1_code, exceptionTable := #[], attributes := #[] }
def k0m0 : Method := { name := "<init>", desc := "()V", sig := { parameters := [], returnType := none }, accessFlags := 1, code := some k0c0 }
/-- java/lang/Object -/
def k0 : Class := { plain "java/lang/Object" none with
  accessFlags := 33
  interfaces := #[]
  cf := some (fileOf pool0 8 #[] #[{ accessFlags := 1, nameIndex := 5, descriptorIndex := 6, attributes := #[] }] 33 0 #[] #[])
  fields := #[]
  methods := #[k0m0]
  instanceTypes := #[]
  staticTypes := #[]
  resolved := Array.replicate 124 none
  statics := none }

def pool1 : Array CpInfo := pool [(2, .class_ 4), (1, u "java/lang/Object"), (0, u "<init>"), (0, u "()V"), (0, .methodref 8 9), (0, .class_ 10), (0, .nameAndType 11 12), (0, u "java/lang/String"), (0, u "valueOf"), (0, u "(C)Ljava/lang/String;"), (0, .class_ 14), (0, u "com/example/sedge/sedge/index/SegmentInfo"), (0, .methodref 13 16), (0, .nameAndType 5 17), (0, u "(Ljava/lang/String;III)V"), (0, .methodref 13 19), (0, .nameAndType 20 21), (0, u "hasPossibleCounts"), (0, u "()Z"), (0, .methodref 23 24), (0, .class_ 25), (0, .nameAndType 26 27), (0, u "com/example/sedge/sedge/index/SegmentInfoHasPossibleCountsPinLaw"), (0, u "expected"), (0, u "(III)Z"), (2, u "law"), (0, u "(IIII)Z")] 3

def k1m0 : Method := { name := "<init>", desc := "()V", sig := { parameters := [], returnType := none }, accessFlags := 1, code := none }
def k1c1 : Code := { maxStack := 6, maxLocals := 7, code := code, exceptionTable := #[], attributes := #[] }
def k1m1 : Method := { name := "law", desc := "(IIII)Z", sig := { parameters := [.int, .int, .int, .int], returnType := some .boolean }, accessFlags := 9, code := some k1c1 }
def k1c2 : Code := { maxStack := 2, maxLocals := 3, code := method_3_code, exceptionTable := #[], attributes := #[] }
def k1m2 : Method := { name := "expected", desc := "(III)Z", sig := { parameters := [.int, .int, .int], returnType := some .boolean }, accessFlags := 10, code := some k1c2 }
/-- com/example/sedge/sedge/index/SegmentInfoHasPossibleCountsPinLaw -/
def k1 : Class := { plain "com/example/sedge/sedge/index/SegmentInfoHasPossibleCountsPinLaw" (some 0) with
  accessFlags := 49
  interfaces := #[]
  cf := some (fileOf pool1 23 #[] #[{ accessFlags := 1, nameIndex := 5, descriptorIndex := 6, attributes := #[] }, { accessFlags := 9, nameIndex := 30, descriptorIndex := 31, attributes := #[] }, { accessFlags := 10, nameIndex := 26, descriptorIndex := 27, attributes := #[] }] 49 2 #[] #[])
  fields := #[]
  methods := #[k1m0, k1m1, k1m2]
  instanceTypes := #[]
  staticTypes := #[]
  resolved := Array.replicate 35 none
  statics := none }

def pool2 : Array CpInfo := pool [(1, .class_ 2), (0, u "java/io/Serializable"), (0, .class_ 4), (0, u "java/lang/Object")] 2

/-- java/io/Serializable -/
def k2 : Class := { plain "java/io/Serializable" (some 0) with
  accessFlags := 1537
  interfaces := #[]
  cf := some (fileOf pool2 1 #[] #[] 1537 3 #[] #[])
  fields := #[]
  methods := #[]
  instanceTypes := #[]
  staticTypes := #[]
  resolved := Array.replicate 7 none
  statics := none }

def pool3 : Array CpInfo := pool [(1, .class_ 2), (0, u "java/lang/Comparable"), (0, .class_ 4), (0, u "java/lang/Object")] 7

/-- java/lang/Comparable -/
def k3 : Class := { plain "java/lang/Comparable" (some 0) with
  accessFlags := 1537
  interfaces := #[]
  cf := some (fileOf pool3 1 #[] #[] 1537 3 #[] #[])
  fields := #[]
  methods := #[]
  instanceTypes := #[]
  staticTypes := #[]
  resolved := Array.replicate 12 none
  statics := none }

def pool4 : Array CpInfo := pool [(2, .class_ 4), (1, u "java/lang/CharSequence"), (42, .class_ 48), (0, u "java/lang/CharSequence$1CodePointIterator"), (10, .class_ 60), (0, u "java/lang/CharSequence$1CharIterator"), (5, .class_ 67), (0, u "java/lang/Object")] 63

/-- java/lang/CharSequence -/
def k4 : Class := { plain "java/lang/CharSequence" (some 0) with
  accessFlags := 1537
  interfaces := #[]
  cf := some (fileOf pool4 2 #[.nestMembers #[47, 59]] #[] 1537 66 #[] #[])
  fields := #[]
  methods := #[]
  instanceTypes := #[]
  staticTypes := #[]
  resolved := Array.replicate 131 none
  statics := none }

def pool5 : Array CpInfo := pool [(1, .class_ 2), (0, u "java/lang/constant/Constable"), (0, .class_ 4), (0, u "java/lang/Object")] 6

/-- java/lang/constant/Constable -/
def k5 : Class := { plain "java/lang/constant/Constable" (some 0) with
  accessFlags := 1537
  interfaces := #[]
  cf := some (fileOf pool5 1 #[] #[] 1537 3 #[] #[])
  fields := #[]
  methods := #[]
  instanceTypes := #[]
  staticTypes := #[]
  resolved := Array.replicate 11 none
  statics := none }

def pool6 : Array CpInfo := pool [(1, .class_ 2), (0, u "java/lang/constant/ConstantDesc"), (0, .class_ 4), (0, u "java/lang/Object")] 32

/-- java/lang/constant/ConstantDesc -/
def k6 : Class := { plain "java/lang/constant/ConstantDesc" (some 0) with
  accessFlags := 1537
  interfaces := #[]
  cf := some (fileOf pool6 1 #[] #[] 1537 3 #[] #[])
  fields := #[]
  methods := #[]
  instanceTypes := #[]
  staticTypes := #[]
  resolved := Array.replicate 37 none
  statics := none }

def pool7 : Array CpInfo := pool [(1, .methodref 2 3), (0, .class_ 4), (0, .nameAndType 5 6), (0, u "java/lang/Object"), (0, u "<init>"), (0, u "()V"), (2, .fieldref 10 11), (0, .class_ 12), (0, .nameAndType 13 14), (0, u "java/lang/String"), (0, u "value"), (0, u "[B"), (0, .fieldref 10 16), (0, .nameAndType 17 18), (0, u "coder"), (0, u "B"), (2, u "hash"), (0, u "I"), (2, u "hashIsZero"), (0, u "Z"), (11, .fieldref 10 39), (0, .nameAndType 40 26), (0, u "COMPACT_STRINGS"), (12, u "toBytes"), (53, .class_ 109), (1, u "java/lang/StringLatin1"), (99, .methodref 10 210), (0, .nameAndType 5 211), (0, u "([BB)V"), (157, u "(C)Z"), (205, .class_ 576), (0, u "java/lang/CharSequence"), (22, u "CASE_INSENSITIVE_ORDER"), (0, u "Ljava/util/Comparator;"), (181, u "valueOf"), (0, u "(C)Ljava/lang/String;"), (231, .methodref 107 1016), (0, .nameAndType 1017 369), (0, u "canEncode"), (0, .methodref 107 1019), (0, .nameAndType 53 1020), (0, u "(C)[B"), (80, u "serialPersistentFields"), (0, u "[Ljava/io/ObjectStreamField;"), (0, .class_ 1104), (0, u "java/lang/String$CaseInsensitiveComparator"), (1, .class_ 1107), (0, u "java/io/Serializable"), (0, .class_ 1109), (0, u "java/lang/Comparable"), (0, .class_ 1111), (0, u "java/lang/constant/Constable"), (0, .class_ 1113), (0, u "java/lang/constant/ConstantDesc"), (2, u "serialVersionUID"), (0, u "J"), (3, u "REPL"), (0, u "C"), (2, u "LATIN1"), (1, u "UTF16")] 323

def k7m0 : Method := { name := "<init>", desc := "()V", sig := { parameters := [], returnType := none }, accessFlags := 1, code := none }
def k7c1 : Code := { maxStack := 4, maxLocals := 1, code := jdk_42_method_139_code, exceptionTable := #[], attributes := #[] }
def k7m1 : Method := { name := "valueOf", desc := "(C)Ljava/lang/String;", sig := { parameters := [.char], returnType := some (.object "java/lang/String") }, accessFlags := 9, code := some k7c1 }
def k7c2 : Code := { maxStack := 2, maxLocals := 3, code := jdk_42_method_151_code, exceptionTable := #[], attributes := #[] }
def k7m2 : Method := { name := "<init>", desc := "([BB)V", sig := { parameters := [(.array .byte), .byte], returnType := none }, accessFlags := 0, code := some k7c2 }
/-- java/lang/String -/
def k7 : Class := { plain "java/lang/String" (some 0) with
  accessFlags := 49
  interfaces := #[2, 3, 4, 5, 6]
  cf := some (fileOf pool7 10 #[.nestMembers #[1103]] #[{ accessFlags := 1, nameIndex := 5, descriptorIndex := 6, attributes := #[] }, { accessFlags := 9, nameIndex := 782, descriptorIndex := 783, attributes := #[] }, { accessFlags := 0, nameIndex := 5, descriptorIndex := 211, attributes := #[] }] 49 2 #[1106, 1108, 575, 1110, 1112] #[{ accessFlags := 18, nameIndex := 13, descriptorIndex := 14, attributes := #[] }, { accessFlags := 18, nameIndex := 17, descriptorIndex := 18, attributes := #[] }, { accessFlags := 2, nameIndex := 21, descriptorIndex := 22, attributes := #[] }, { accessFlags := 2, nameIndex := 25, descriptorIndex := 26, attributes := #[] }, { accessFlags := 26, nameIndex := 1116, descriptorIndex := 1117, attributes := #[] }, { accessFlags := 24, nameIndex := 40, descriptorIndex := 26, attributes := #[] }, { accessFlags := 26, nameIndex := 1101, descriptorIndex := 1102, attributes := #[] }, { accessFlags := 26, nameIndex := 1121, descriptorIndex := 1122, attributes := #[] }, { accessFlags := 25, nameIndex := 599, descriptorIndex := 600, attributes := #[] }, { accessFlags := 24, nameIndex := 1125, descriptorIndex := 18, attributes := #[] }, { accessFlags := 24, nameIndex := 1127, descriptorIndex := 18, attributes := #[] }])
  fields := #[{ name := "value", type := (.array .byte), accessFlags := 18, slot := 0, constantValue := 0 }, { name := "coder", type := .byte, accessFlags := 18, slot := 1, constantValue := 0 }, { name := "hash", type := .int, accessFlags := 2, slot := 2, constantValue := 0 }, { name := "hashIsZero", type := .boolean, accessFlags := 2, slot := 3, constantValue := 0 }, { name := "serialVersionUID", type := .long, accessFlags := 26, slot := 0, constantValue := 0 }, { name := "COMPACT_STRINGS", type := .boolean, accessFlags := 24, slot := 1, constantValue := 0 }, { name := "serialPersistentFields", type := (.array (.object "java/io/ObjectStreamField")), accessFlags := 26, slot := 2, constantValue := 0 }, { name := "REPL", type := .char, accessFlags := 26, slot := 3, constantValue := 0 }, { name := "CASE_INSENSITIVE_ORDER", type := (.object "java/util/Comparator"), accessFlags := 25, slot := 4, constantValue := 0 }, { name := "LATIN1", type := .byte, accessFlags := 24, slot := 5, constantValue := 0 }, { name := "UTF16", type := .byte, accessFlags := 24, slot := 6, constantValue := 0 }]
  methods := #[k7m0, k7m1, k7m2]
  instanceTypes := #[(.array .byte), .byte, .int, .boolean]
  staticTypes := #[.long, .boolean, (.array (.object "java/io/ObjectStreamField")), .char, (.object "java/util/Comparator"), .byte, .byte]
  resolved := Array.replicate 1451 none
  statics := some 0 }

def pool8 : Array CpInfo := pool [(4, .class_ 6), (1, u "java/lang/Object"), (0, u "<init>"), (0, u "()V"), (5, .class_ 16), (1, u "java/lang/StringLatin1"), (73, u "canEncode"), (14, u "(C)Z"), (15, u "$assertionsDisabled"), (0, u "Z"), (98, .class_ 223), (1, u "java/lang/StringLatin1$LinesSpliterator"), (156, u "toBytes"), (1, u "(C)[B"), (7, .class_ 391), (0, u "java/lang/StringLatin1$CharsSpliterator")] 3

def k8m0 : Method := { name := "<init>", desc := "()V", sig := { parameters := [], returnType := none }, accessFlags := 0, code := none }
def k8c1 : Code := { maxStack := 2, maxLocals := 1, code := jdk_43_method_3_code, exceptionTable := #[], attributes := #[] }
def k8m1 : Method := { name := "canEncode", desc := "(C)Z", sig := { parameters := [.char], returnType := some .boolean }, accessFlags := 9, code := some k8c1 }
def k8c2 : Code := { maxStack := 4, maxLocals := 1, code := jdk_43_method_46_code, exceptionTable := #[], attributes := #[] }
def k8m2 : Method := { name := "toBytes", desc := "(C)[B", sig := { parameters := [.char], returnType := some (.array .byte) }, accessFlags := 9, code := some k8c2 }
/-- java/lang/StringLatin1 -/
def k8 : Class := { plain "java/lang/StringLatin1" (some 0) with
  accessFlags := 48
  interfaces := #[]
  cf := some (fileOf pool8 14 #[.nestMembers #[390, 221]] #[{ accessFlags := 0, nameIndex := 7, descriptorIndex := 8, attributes := #[] }, { accessFlags := 9, nameIndex := 90, descriptorIndex := 105, attributes := #[] }, { accessFlags := 9, nameIndex := 380, descriptorIndex := 382, attributes := #[] }] 48 4 #[] #[{ accessFlags := 4120, nameIndex := 121, descriptorIndex := 122, attributes := #[] }])
  fields := #[{ name := "$assertionsDisabled", type := .boolean, accessFlags := 4120, slot := 0, constantValue := 0 }]
  methods := #[k8m0, k8m1, k8m2]
  instanceTypes := #[]
  staticTypes := #[.boolean]
  resolved := Array.replicate 395 none
  statics := none }

def pool9 : Array CpInfo := pool [(1, .methodref 2 3), (0, .class_ 4), (0, .nameAndType 5 6), (0, u "java/lang/Object"), (0, u "<init>"), (0, u "()V"), (0, .class_ 8), (0, u "java/lang/Record")] 13

def k9c0 : Code := { maxStack := 1, maxLocals := 1, code := jdk_30_method_1_code, exceptionTable := #[], attributes := #[] }
def k9m0 : Method := { name := "<init>", desc := "()V", sig := { parameters := [], returnType := none }, accessFlags := 4, code := some k9c0 }
/-- java/lang/Record -/
def k9 : Class := { plain "java/lang/Record" (some 0) with
  accessFlags := 1057
  interfaces := #[]
  cf := some (fileOf pool9 7 #[] #[{ accessFlags := 4, nameIndex := 5, descriptorIndex := 6, attributes := #[] }] 1057 2 #[] #[])
  fields := #[]
  methods := #[k9m0]
  instanceTypes := #[]
  staticTypes := #[]
  resolved := Array.replicate 22 none
  statics := none }

def pool10 : Array CpInfo := pool [(1, .methodref 2 3), (0, .class_ 4), (0, .nameAndType 5 6), (0, u "java/lang/Record"), (0, u "<init>"), (0, u "()V"), (0, .fieldref 8 9), (0, .class_ 10), (0, .nameAndType 11 12), (0, u "com/example/sedge/sedge/index/SegmentInfo"), (0, u "name"), (0, u "Ljava/lang/String;"), (0, .fieldref 8 14), (0, .nameAndType 15 16), (0, u "docCount"), (0, u "I"), (0, .fieldref 8 18), (0, .nameAndType 19 16), (0, u "deletedCount"), (0, .fieldref 8 21), (0, .nameAndType 22 16), (0, u "deletesGeneration"), (2, u "(Ljava/lang/String;III)V"), (40, u "PARTS"), (0, u "Ljava/util/List;"), (23, u "()Z"), (77, u "NAME_PREFIX"), (1, u "POSTINGS"), (0, u "STORED"), (0, u "COLUMNS"), (0, u "POINTS"), (2, u "DELETES"), (9, u "hasPossibleCounts")] 69

def k10c0 : Code := { maxStack := 2, maxLocals := 5, code := prog_117_method_2_code, exceptionTable := #[], attributes := #[] }
def k10m0 : Method := { name := "<init>", desc := "(Ljava/lang/String;III)V", sig := { parameters := [(.object "java/lang/String"), .int, .int, .int], returnType := none }, accessFlags := 0, code := some k10c0 }
def k10c1 : Code := { maxStack := 2, maxLocals := 1, code := prog_117_method_7_code, exceptionTable := #[], attributes := #[] }
def k10m1 : Method := { name := "hasPossibleCounts", desc := "()Z", sig := { parameters := [], returnType := some .boolean }, accessFlags := 0, code := some k10c1 }
/-- com/example/sedge/sedge/index/SegmentInfo -/
def k10 : Class := { plain "com/example/sedge/sedge/index/SegmentInfo" (some 9) with
  accessFlags := 48
  interfaces := #[]
  cf := some (fileOf pool10 8 #[] #[{ accessFlags := 0, nameIndex := 5, descriptorIndex := 25, attributes := #[] }, { accessFlags := 0, nameIndex := 187, descriptorIndex := 91, attributes := #[] }] 48 2 #[] #[{ accessFlags := 18, nameIndex := 11, descriptorIndex := 12, attributes := #[] }, { accessFlags := 18, nameIndex := 15, descriptorIndex := 16, attributes := #[] }, { accessFlags := 18, nameIndex := 19, descriptorIndex := 16, attributes := #[] }, { accessFlags := 18, nameIndex := 22, descriptorIndex := 16, attributes := #[] }, { accessFlags := 26, nameIndex := 169, descriptorIndex := 12, attributes := #[] }, { accessFlags := 26, nameIndex := 171, descriptorIndex := 12, attributes := #[] }, { accessFlags := 26, nameIndex := 172, descriptorIndex := 12, attributes := #[] }, { accessFlags := 26, nameIndex := 173, descriptorIndex := 12, attributes := #[] }, { accessFlags := 26, nameIndex := 174, descriptorIndex := 12, attributes := #[] }, { accessFlags := 26, nameIndex := 66, descriptorIndex := 67, attributes := #[] }, { accessFlags := 26, nameIndex := 177, descriptorIndex := 12, attributes := #[] }])
  fields := #[{ name := "name", type := (.object "java/lang/String"), accessFlags := 18, slot := 0, constantValue := 0 }, { name := "docCount", type := .int, accessFlags := 18, slot := 1, constantValue := 0 }, { name := "deletedCount", type := .int, accessFlags := 18, slot := 2, constantValue := 0 }, { name := "deletesGeneration", type := .int, accessFlags := 18, slot := 3, constantValue := 0 }, { name := "NAME_PREFIX", type := (.object "java/lang/String"), accessFlags := 26, slot := 0, constantValue := 0 }, { name := "POSTINGS", type := (.object "java/lang/String"), accessFlags := 26, slot := 1, constantValue := 0 }, { name := "STORED", type := (.object "java/lang/String"), accessFlags := 26, slot := 2, constantValue := 0 }, { name := "COLUMNS", type := (.object "java/lang/String"), accessFlags := 26, slot := 3, constantValue := 0 }, { name := "POINTS", type := (.object "java/lang/String"), accessFlags := 26, slot := 4, constantValue := 0 }, { name := "PARTS", type := (.object "java/util/List"), accessFlags := 26, slot := 5, constantValue := 0 }, { name := "DELETES", type := (.object "java/lang/String"), accessFlags := 26, slot := 6, constantValue := 0 }]
  methods := #[k10m0, k10m1]
  instanceTypes := #[(.object "java/lang/String"), .int, .int, .int]
  staticTypes := #[(.object "java/lang/String"), (.object "java/lang/String"), (.object "java/lang/String"), (.object "java/lang/String"), (.object "java/lang/String"), (.object "java/util/List"), (.object "java/lang/String")]
  resolved := Array.replicate 257 none
  statics := none }

def pool11 : Array CpInfo := pool [(2, .class_ 4), (1, u "java/lang/Object"), (0, u "<init>"), (0, u "()V"), (17, .class_ 26), (1, u "jdk/internal/util/Preconditions"), (28, .class_ 56), (0, u "jdk/internal/util/Preconditions$4"), (57, .class_ 115), (0, u "jdk/internal/util/Preconditions$1"), (7, u "SIOOBE_FORMATTER"), (0, u "Ljava/util/function/BiFunction;"), (0, .class_ 126), (0, u "jdk/internal/util/Preconditions$2"), (3, u "AIOOBE_FORMATTER"), (0, .class_ 132), (0, u "jdk/internal/util/Preconditions$3"), (3, u "IOOBE_FORMATTER")] 57

def k11m0 : Method := { name := "<init>", desc := "()V", sig := { parameters := [], returnType := none }, accessFlags := 1, code := none }
/-- jdk/internal/util/Preconditions -/
def k11 : Class := { plain "jdk/internal/util/Preconditions" (some 0) with
  accessFlags := 33
  interfaces := #[]
  cf := some (fileOf pool11 24 #[.nestMembers #[55, 131, 125, 114]] #[{ accessFlags := 1, nameIndex := 5, descriptorIndex := 6, attributes := #[] }] 33 2 #[] #[{ accessFlags := 25, nameIndex := 123, descriptorIndex := 124, attributes := #[] }, { accessFlags := 25, nameIndex := 130, descriptorIndex := 124, attributes := #[] }, { accessFlags := 25, nameIndex := 136, descriptorIndex := 124, attributes := #[] }])
  fields := #[{ name := "SIOOBE_FORMATTER", type := (.object "java/util/function/BiFunction"), accessFlags := 25, slot := 0, constantValue := 0 }, { name := "AIOOBE_FORMATTER", type := (.object "java/util/function/BiFunction"), accessFlags := 25, slot := 1, constantValue := 0 }, { name := "IOOBE_FORMATTER", type := (.object "java/util/function/BiFunction"), accessFlags := 25, slot := 2, constantValue := 0 }]
  methods := #[k11m0]
  instanceTypes := #[]
  staticTypes := #[(.object "java/util/function/BiFunction"), (.object "java/util/function/BiFunction"), (.object "java/util/function/BiFunction")]
  resolved := Array.replicate 194 none
  statics := some 1 }

def pool12 : Array CpInfo := pool [(9, u "<init>"), (6, .class_ 18), (1, u "java/lang/Object"), (0, u "()V"), (1, .class_ 23), (1, u "jdk/internal/util/ArraysSupport"), (0, u "LOG2_ARRAY_LONG_INDEX_SCALE"), (0, u "I"), (2, u "U"), (0, u "Ljdk/internal/misc/Unsafe;"), (8, u "BIG_ENDIAN"), (0, u "Z"), (8, u "LOG2_BYTE_BIT_SIZE"), (4, u "LOG2_ARRAY_INT_INDEX_SCALE"), (54, u "JLA"), (0, u "Ljdk/internal/access/JavaLangAccess;"), (11, u "LOG2_ARRAY_BOOLEAN_INDEX_SCALE"), (9, u "LOG2_ARRAY_BYTE_INDEX_SCALE"), (5, u "LOG2_ARRAY_CHAR_INDEX_SCALE"), (5, u "LOG2_ARRAY_SHORT_INDEX_SCALE"), (18, u "LOG2_ARRAY_FLOAT_INDEX_SCALE"), (24, u "LOG2_ARRAY_DOUBLE_INDEX_SCALE"), (89, u "T_BOOLEAN"), (2, u "T_CHAR"), (1, u "T_FLOAT"), (1, u "T_DOUBLE"), (1, u "T_BYTE"), (1, u "T_SHORT"), (1, u "T_INT"), (1, u "T_LONG"), (1, u "SOFT_MAX_ARRAY_LENGTH")] 83

def k12m0 : Method := { name := "<init>", desc := "()V", sig := { parameters := [], returnType := none }, accessFlags := 2, code := none }
/-- jdk/internal/util/ArraysSupport -/
def k12 : Class := { plain "jdk/internal/util/ArraysSupport" (some 0) with
  accessFlags := 33
  interfaces := #[]
  cf := some (fileOf pool12 21 #[] #[{ accessFlags := 2, nameIndex := 9, descriptorIndex := 19, attributes := #[] }] 33 16 #[] #[{ accessFlags := 24, nameIndex := 28, descriptorIndex := 29, attributes := #[] }, { accessFlags := 26, nameIndex := 38, descriptorIndex := 39, attributes := #[] }, { accessFlags := 25, nameIndex := 121, descriptorIndex := 25, attributes := #[] }, { accessFlags := 25, nameIndex := 131, descriptorIndex := 25, attributes := #[] }, { accessFlags := 25, nameIndex := 137, descriptorIndex := 25, attributes := #[] }, { accessFlags := 25, nameIndex := 143, descriptorIndex := 25, attributes := #[] }, { accessFlags := 25, nameIndex := 53, descriptorIndex := 25, attributes := #[] }, { accessFlags := 25, nameIndex := 24, descriptorIndex := 25, attributes := #[] }, { accessFlags := 25, nameIndex := 162, descriptorIndex := 25, attributes := #[] }, { accessFlags := 25, nameIndex := 187, descriptorIndex := 25, attributes := #[] }, { accessFlags := 26, nameIndex := 48, descriptorIndex := 25, attributes := #[] }, { accessFlags := 25, nameIndex := 277, descriptorIndex := 25, attributes := #[] }, { accessFlags := 25, nameIndex := 280, descriptorIndex := 25, attributes := #[] }, { accessFlags := 25, nameIndex := 282, descriptorIndex := 25, attributes := #[] }, { accessFlags := 25, nameIndex := 284, descriptorIndex := 25, attributes := #[] }, { accessFlags := 25, nameIndex := 286, descriptorIndex := 25, attributes := #[] }, { accessFlags := 25, nameIndex := 288, descriptorIndex := 25, attributes := #[] }, { accessFlags := 25, nameIndex := 290, descriptorIndex := 25, attributes := #[] }, { accessFlags := 25, nameIndex := 292, descriptorIndex := 25, attributes := #[] }, { accessFlags := 26, nameIndex := 108, descriptorIndex := 109, attributes := #[] }, { accessFlags := 25, nameIndex := 294, descriptorIndex := 25, attributes := #[] }])
  fields := #[{ name := "U", type := (.object "jdk/internal/misc/Unsafe"), accessFlags := 24, slot := 0, constantValue := 0 }, { name := "BIG_ENDIAN", type := .boolean, accessFlags := 26, slot := 1, constantValue := 0 }, { name := "LOG2_ARRAY_BOOLEAN_INDEX_SCALE", type := .int, accessFlags := 25, slot := 2, constantValue := 0 }, { name := "LOG2_ARRAY_BYTE_INDEX_SCALE", type := .int, accessFlags := 25, slot := 3, constantValue := 0 }, { name := "LOG2_ARRAY_CHAR_INDEX_SCALE", type := .int, accessFlags := 25, slot := 4, constantValue := 0 }, { name := "LOG2_ARRAY_SHORT_INDEX_SCALE", type := .int, accessFlags := 25, slot := 5, constantValue := 0 }, { name := "LOG2_ARRAY_INT_INDEX_SCALE", type := .int, accessFlags := 25, slot := 6, constantValue := 0 }, { name := "LOG2_ARRAY_LONG_INDEX_SCALE", type := .int, accessFlags := 25, slot := 7, constantValue := 0 }, { name := "LOG2_ARRAY_FLOAT_INDEX_SCALE", type := .int, accessFlags := 25, slot := 8, constantValue := 0 }, { name := "LOG2_ARRAY_DOUBLE_INDEX_SCALE", type := .int, accessFlags := 25, slot := 9, constantValue := 0 }, { name := "LOG2_BYTE_BIT_SIZE", type := .int, accessFlags := 26, slot := 10, constantValue := 0 }, { name := "T_BOOLEAN", type := .int, accessFlags := 25, slot := 11, constantValue := 0 }, { name := "T_CHAR", type := .int, accessFlags := 25, slot := 12, constantValue := 0 }, { name := "T_FLOAT", type := .int, accessFlags := 25, slot := 13, constantValue := 0 }, { name := "T_DOUBLE", type := .int, accessFlags := 25, slot := 14, constantValue := 0 }, { name := "T_BYTE", type := .int, accessFlags := 25, slot := 15, constantValue := 0 }, { name := "T_SHORT", type := .int, accessFlags := 25, slot := 16, constantValue := 0 }, { name := "T_INT", type := .int, accessFlags := 25, slot := 17, constantValue := 0 }, { name := "T_LONG", type := .int, accessFlags := 25, slot := 18, constantValue := 0 }, { name := "JLA", type := (.object "jdk/internal/access/JavaLangAccess"), accessFlags := 26, slot := 19, constantValue := 0 }, { name := "SOFT_MAX_ARRAY_LENGTH", type := .int, accessFlags := 25, slot := 20, constantValue := 0 }]
  methods := #[k12m0]
  instanceTypes := #[]
  staticTypes := #[(.object "jdk/internal/misc/Unsafe"), .boolean, .int, .int, .int, .int, .int, .int, .int, .int, .int, .int, .int, .int, .int, .int, .int, .int, .int, (.object "jdk/internal/access/JavaLangAccess"), .int]
  resolved := Array.replicate 378 none
  statics := none }

def pool13 : Array CpInfo := pool [(1, u "java/lang/Cloneable"), (0, .class_ 1), (0, u "java/lang/Object"), (0, .class_ 3)] 3

/-- java/lang/Cloneable -/
def k13 : Class := { plain "java/lang/Cloneable" (some 0) with
  accessFlags := 1537
  interfaces := #[]
  cf := some (fileOf pool13 2 #[] #[] 1537 4 #[] #[])
  fields := #[]
  methods := #[]
  instanceTypes := #[]
  staticTypes := #[]
  resolved := Array.replicate 8 none
  statics := none }

/-- the primitive byte -/
def k14 : Class := { plain "byte" none with kind := .primitive 'B', accessFlags := 0x411 }
/-- [B -/
def k15 : Class := { plain "[B" (some 0) with kind := .array 14 .byte, interfaces := #[13, 2], accessFlags := 1041 }

/-- the primitive int -/
def k16 : Class := { plain "int" none with kind := .primitive 'I', accessFlags := 0x411 }
/-- [I -/
def k17 : Class := { plain "[I" (some 0) with kind := .array 16 .int, interfaces := #[13, 2], accessFlags := 1041 }

def heap : Heap := #[{ cls := 7, slots := #[.long 0, .int 1, .null, .int 0, .null, .int 0, .int 0], vm := .statics 7 },
  { cls := 11, slots := #[.null, .null, .null], vm := .statics 11 }]
def classes : Array Class := #[k0, k1, k2, k3, k4, k5, k6, k7, k8, k9, k10, k11, k12, k13, k14, k15, k16, k17]
def interned : List (Array UInt16 × Addr) := []
def slotsUsed : Nat := 10
def theMethod : MethodId := ⟨1, 1⟩
def args0 : Array Value := #[.int 5, .int 2, .int 1, .int 65]
def aboutOver (below : List Frame) : State where
  vm := { classes := classes, interned := interned.toArray }
  heap := heap
  slotsUsed := slotsUsed
  threads := #[{ frames := .invoking theMethod args0 :: below }]
def below0 : List Frame := [.native { method := ⟨0, 0⟩, args := #[] }]
def about1 : State := aboutOver below0
def p0 : Program := .bare "" "" ""
def e0 : Env := launch0.env 0 0 0
theorem w_frames : about1.frames = Frame.invoking theMethod args0 :: below0 := rfl
set_option maxRecDepth 65536 in
theorem w_args : argsFit about1.vm theMethod args0 = true := by decide +kernel
set_option maxRecDepth 65536 in
theorem w_heap : heapFits about1 = true := by decide +kernel
set_option maxRecDepth 65536 in
theorem w_runnable : about1.curStatus? = some .runnable := by decide +kernel
set_option maxRecDepth 65536 in
theorem w_alone : about1.alone = true := by decide +kernel
set_option maxRecDepth 65536 in
theorem w_named : about1.methodNamed? x = some theMethod := by decide +kernel
set_option maxRecDepth 65536 in
theorem w_hears : about1.hears theMethod below0 = true := by decide +kernel
set_option maxRecDepth 65536 in
theorem w_ripe : about1.ripe theMethod args0 below0 = true := by decide +kernel
theorem w_running : about1.status = .running := rfl
set_option maxRecDepth 65536 in
theorem w_room : about1.hasRoom e0.platform room_1 = true :=
  launch0.hasRoom_least _ room_1 (by decide +kernel) (by decide +kernel) (by decide +kernel) (by decide +kernel) (by decide +kernel) (by decide +kernel)
theorem allAtoms_all (ts : List Jvm.Cond) (a : Array Jvm.Value) (st : Jvm.State) : (allAtoms ts).before a st = ts.all (fun c => c.before a st) := by
  induction ts with
  | nil => rfl
  | cons c t ih =>
    show (Jvm.Cond.and c (allAtoms t)).before a st = _
    rw [Jvm.Cond.before_and, ih, List.all_cons]
def words1 : List Jvm.Cond := Jvm.Cond.code x code maxLocals ret :: tables_1
/-- a 'code' word, met by the world's own term for the bytes: nothing is compared byte by byte -/
theorem code_word {y : MethodName} {bytes : ByteArray} {mx : Nat} {rt : Option FieldType} {a : Array Value} {s : State} {m : MethodId} {meth : Method} {c : Code} (h1 : s.methodNamed? y = some m) (h2 : s.vm.method? m = some meth) (h3 : meth.code = some c) (h4 : c.code = bytes)
    (h5 : (c.maxLocals == mx && c.exceptionTable.isEmpty && decide (c.maxStack ≤ mostOperands) && decide (meth.sig.returnType = rt) && !meth.locks && decide (parseMethodDescriptor y.desc = some meth.sig)) = true) : (Jvm.Cond.code y bytes mx rt).before a s = true := by
  simp only [Bool.and_eq_true, beq_iff_eq, Bool.not_eq_true', decide_eq_true_eq] at h5
  obtain ⟨⟨⟨⟨⟨g1, g2⟩, g3⟩, g4⟩, g5⟩, g6⟩ := h5
  simp [Cond.before, Cond.holds, Cond.value, h1, h2, h3, h4, g1, g2, g3, g4, g5, g6]
def isCode : Jvm.Cond → Bool
  | .code _ _ _ _ => true
  | _ => false
theorem all_split {L : List Jvm.Cond} {P : Jvm.Cond → Bool} (h1 : L.all (fun c => isCode c || P c) = true) (h2 : ∀ c ∈ L.filter isCode, P c = true) : L.all P = true := by
  refine List.all_eq_true.mpr fun c hc => ?_
  have h := List.all_eq_true.mp h1 c hc
  rcases Bool.eq_false_or_eq_true (isCode c) with hi | hi
  · exact h2 c (List.mem_filter.mpr ⟨hc, hi⟩)
  · simpa [hi] using h
set_option maxRecDepth 65536 in
theorem w_c0 : (Jvm.Cond.code x code maxLocals ret).before args0 about1 = true := code_word (m := ⟨1, 1⟩) (meth := k1m1) (c := k1c1) (by decide +kernel) rfl rfl rfl (by decide +kernel)
set_option maxRecDepth 65536 in
theorem w_c1 : (Jvm.Cond.code ({ cls := "java/lang/String", name := "valueOf", desc := "(C)Ljava/lang/String;" } : Jvm.MethodName) jdk_42_method_139_code (1 : Nat) (Option.some (Jvm.ClassFile.FieldType.object "java/lang/String"))).before args0 about1 = true := code_word (m := ⟨7, 1⟩) (meth := k7m1) (c := k7c1) (by decide +kernel) rfl rfl rfl (by decide +kernel)
set_option maxRecDepth 65536 in
theorem w_c2 : (Jvm.Cond.code ({ cls := "java/lang/StringLatin1", name := "canEncode", desc := "(C)Z" } : Jvm.MethodName) jdk_43_method_3_code (1 : Nat) (Option.some Jvm.ClassFile.FieldType.boolean)).before args0 about1 = true := code_word (m := ⟨8, 1⟩) (meth := k8m1) (c := k8c1) (by decide +kernel) rfl rfl rfl (by decide +kernel)
set_option maxRecDepth 65536 in
theorem w_c3 : (Jvm.Cond.code ({ cls := "java/lang/StringLatin1", name := "toBytes", desc := "(C)[B" } : Jvm.MethodName) jdk_43_method_46_code (1 : Nat) (Option.some (Jvm.ClassFile.FieldType.array Jvm.ClassFile.FieldType.byte))).before args0 about1 = true := code_word (m := ⟨8, 2⟩) (meth := k8m2) (c := k8c2) (by decide +kernel) rfl rfl rfl (by decide +kernel)
set_option maxRecDepth 65536 in
theorem w_c4 : (Jvm.Cond.code ({ cls := "java/lang/String", name := "<init>", desc := "([BB)V" } : Jvm.MethodName) jdk_42_method_151_code (3 : Nat) (Option.none : Option Jvm.ClassFile.FieldType)).before args0 about1 = true := code_word (m := ⟨7, 2⟩) (meth := k7m2) (c := k7c2) (by decide +kernel) rfl rfl rfl (by decide +kernel)
set_option maxRecDepth 65536 in
theorem w_c5 : (Jvm.Cond.code ({ cls := "java/lang/Object", name := "<init>", desc := "()V" } : Jvm.MethodName) object_method_1_code (1 : Nat) (Option.none : Option Jvm.ClassFile.FieldType)).before args0 about1 = true := code_word (m := ⟨0, 0⟩) (meth := k0m0) (c := k0c0) (by decide +kernel) rfl rfl rfl (by decide +kernel)
set_option maxRecDepth 65536 in
theorem w_c6 : (Jvm.Cond.code ({ cls := "com/example/sedge/sedge/index/SegmentInfo", name := "<init>", desc := "(Ljava/lang/String;III)V" } : Jvm.MethodName) prog_117_method_2_code (5 : Nat) (Option.none : Option Jvm.ClassFile.FieldType)).before args0 about1 = true := code_word (m := ⟨10, 0⟩) (meth := k10m0) (c := k10c0) (by decide +kernel) rfl rfl rfl (by decide +kernel)
set_option maxRecDepth 65536 in
theorem w_c7 : (Jvm.Cond.code ({ cls := "java/lang/Record", name := "<init>", desc := "()V" } : Jvm.MethodName) jdk_30_method_1_code (1 : Nat) (Option.none : Option Jvm.ClassFile.FieldType)).before args0 about1 = true := code_word (m := ⟨9, 0⟩) (meth := k9m0) (c := k9c0) (by decide +kernel) rfl rfl rfl (by decide +kernel)
set_option maxRecDepth 65536 in
theorem w_c8 : (Jvm.Cond.code ({ cls := "com/example/sedge/sedge/index/SegmentInfo", name := "hasPossibleCounts", desc := "()Z" } : Jvm.MethodName) prog_117_method_7_code (1 : Nat) (Option.some Jvm.ClassFile.FieldType.boolean)).before args0 about1 = true := code_word (m := ⟨10, 1⟩) (meth := k10m1) (c := k10c1) (by decide +kernel) rfl rfl rfl (by decide +kernel)
set_option maxRecDepth 65536 in
theorem w_c9 : (Jvm.Cond.code ({ cls := "com/example/sedge/sedge/index/SegmentInfoHasPossibleCountsPinLaw", name := "expected", desc := "(III)Z" } : Jvm.MethodName) method_3_code (3 : Nat) (Option.some Jvm.ClassFile.FieldType.boolean)).before args0 about1 = true := code_word (m := ⟨1, 2⟩) (meth := k1m2) (c := k1c2) (by decide +kernel) rfl rfl rfl (by decide +kernel)
def codes1 : List Jvm.Cond := [Jvm.Cond.code x code maxLocals ret, Jvm.Cond.code ({ cls := "java/lang/String", name := "valueOf", desc := "(C)Ljava/lang/String;" } : Jvm.MethodName) jdk_42_method_139_code (1 : Nat) (Option.some (Jvm.ClassFile.FieldType.object "java/lang/String")), Jvm.Cond.code ({ cls := "java/lang/StringLatin1", name := "canEncode", desc := "(C)Z" } : Jvm.MethodName) jdk_43_method_3_code (1 : Nat) (Option.some Jvm.ClassFile.FieldType.boolean), Jvm.Cond.code ({ cls := "java/lang/StringLatin1", name := "toBytes", desc := "(C)[B" } : Jvm.MethodName) jdk_43_method_46_code (1 : Nat) (Option.some (Jvm.ClassFile.FieldType.array Jvm.ClassFile.FieldType.byte)), Jvm.Cond.code ({ cls := "java/lang/String", name := "<init>", desc := "([BB)V" } : Jvm.MethodName) jdk_42_method_151_code (3 : Nat) (Option.none : Option Jvm.ClassFile.FieldType), Jvm.Cond.code ({ cls := "java/lang/Object", name := "<init>", desc := "()V" } : Jvm.MethodName) object_method_1_code (1 : Nat) (Option.none : Option Jvm.ClassFile.FieldType), Jvm.Cond.code ({ cls := "com/example/sedge/sedge/index/SegmentInfo", name := "<init>", desc := "(Ljava/lang/String;III)V" } : Jvm.MethodName) prog_117_method_2_code (5 : Nat) (Option.none : Option Jvm.ClassFile.FieldType), Jvm.Cond.code ({ cls := "java/lang/Record", name := "<init>", desc := "()V" } : Jvm.MethodName) jdk_30_method_1_code (1 : Nat) (Option.none : Option Jvm.ClassFile.FieldType), Jvm.Cond.code ({ cls := "com/example/sedge/sedge/index/SegmentInfo", name := "hasPossibleCounts", desc := "()Z" } : Jvm.MethodName) prog_117_method_7_code (1 : Nat) (Option.some Jvm.ClassFile.FieldType.boolean), Jvm.Cond.code ({ cls := "com/example/sedge/sedge/index/SegmentInfoHasPossibleCountsPinLaw", name := "expected", desc := "(III)Z" } : Jvm.MethodName) method_3_code (3 : Nat) (Option.some Jvm.ClassFile.FieldType.boolean)]
set_option maxRecDepth 65536 in
theorem codes_eq : words1.filter isCode = codes1 := rfl
theorem w_codes : ∀ c ∈ words1.filter isCode, c.before args0 about1 = true := by
  rw [codes_eq]
  intro c hc
  simp only [codes1, List.mem_cons, List.not_mem_nil, or_false] at hc
  rcases hc with rfl | rfl | rfl | rfl | rfl | rfl | rfl | rfl | rfl | rfl
  · exact w_c0
  · exact w_c1
  · exact w_c2
  · exact w_c3
  · exact w_c4
  · exact w_c5
  · exact w_c6
  · exact w_c7
  · exact w_c8
  · exact w_c9
set_option maxRecDepth 65536 in
theorem w_t1 : (words1.take 24).all (fun c => isCode c || c.before args0 about1) = true := by decide +kernel
set_option maxRecDepth 65536 in
theorem w_t2 : ((words1.drop 24).take 24).all (fun c => isCode c || c.before args0 about1) = true := by decide +kernel
set_option maxRecDepth 65536 in
theorem w_t3 : ((words1.drop 24).drop 24).all (fun c => isCode c || c.before args0 about1) = true := by decide +kernel
theorem w_tables : (allAtoms (Jvm.Cond.code x code maxLocals ret :: tables_1)).before args0 about1 = true := by
  rw [allAtoms_all]
  show words1.all (fun c => c.before args0 about1) = true
  refine all_split ?_ w_codes
  rw [← List.take_append_drop 24 words1, List.all_append, w_t1, ← List.take_append_drop 24 (words1.drop 24), List.all_append, w_t2, w_t3]
  rfl
set_option maxRecDepth 65536 in
theorem w_rest : rest_1_c.before args0 about1 = true := by decide +kernel
set_option maxRecDepth 65536 in
theorem w_case : (Jvm.Cond.and given_1 narrow_1).before args0 about1 = true := by decide +kernel
theorem w_applies : (headSpec (Jvm.Cond.code x code maxLocals ret :: tables_1) room_1).applies x e0.platform about1 = true :=
  (Spec.applies_iff w_frames).mpr ⟨w_running, w_runnable, w_alone, w_named, w_hears, w_ripe, w_room, w_tables⟩
theorem atStart : AtStart classFile x code maxLocals ret World_1 tables_1 room_1 Calls_1 rest_1 Pre_1 launch0 p0 e0 about1 theMethod args0 below0 :=
  ⟨lists_1, trivial, launch0.admits_env _ _ _, launch0.least_env, fairChoices_fair.cas, fairChoices_fair.clock, w_frames, w_args, w_heap, w_applies, trivial, w_rest, w_case⟩
end start1
theorem witness_1 : WitnessClaimed_1 := ⟨start1.p0, start1.e0, start1.about1, start1.theMethod, start1.args0, start1.below0, start1.atStart⟩
end Jvm.Pilot.@@N@@

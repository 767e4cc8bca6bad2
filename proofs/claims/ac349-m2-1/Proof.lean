import JvmDerived
import JvmDerived.Pilot.@@N@@Statement
import JvmDerived.Pilot.@@N@@Code
set_option linter.unusedVariables false
set_option linter.unusedSimpArgs false
@@BLOCK:NumsL.lean.txt@@
namespace Jvm.Pilot.@@N@@
open Jvm Jvm.ClassFile Sem Op Lib Jvm.Free Jvm.Stand Jvm.LawKit Jvm.RoadKit Bundle Jvm.Pilot.@@N@@.Jvm.D
section Own
variable {p : Program} {l : Launch} {e : Env} {R : Room} {s : State} {m : MethodId} {args : Array Value} {below : List Frame} {meth : Method} {c : Code} {T : State} {locs : List Loc} {cells slots : Nat}
/-- from t the invocation comes to its end, and F holds there -/
def own_Ends (p : Program) (e : Env) (below : List Frame) (F : State → Outcome → Prop) (t : State) : Prop := ∃ s₂ o, Steps p.tables e below t s₂ ∧ s₂.status = .running ∧ Ended s₂ below o ∧ F s₂ o
theorem own_pre {F : State → Outcome → Prop} {t t' : State} (k : ∀ u, Steps p.tables e below t' u → Steps p.tables e below t u) (h : own_Ends p e below F t') : own_Ends p e below F t := by
  obtain ⟨s₂, o, h1, h2⟩ := h
  exact ⟨s₂, o, k _ h1, h2⟩
/-- what is asked of the end: G of the value, the heap and the places written; the frame -/
def own_Fin (s : State) (G : Option Value → Heap → List Loc → Prop) (C S : Nat) (s₂ : State) (o : Outcome) : Prop := ∃ v L, o = .returned v ∧ G v s₂.heap L ∧ FrameEnd s o s₂ L C S
theorem own_out (X : Stand p l e R s m args below meth c T locs cells slots) {v : Option Value} (hv : meth.sig.returnType = none → v = none) (hlk : meth.locks = false) {g : JFrame} {G : Option Value → Heap → List Loc → Prop} {C S : Nat} {h : Heap} (eT : T.heap = h) (hG : G v h locs) (hC : cells ≤ C) (hS : slots ≤ S)
    (st : ∀ fs, (∀ (f : JFrame) (acts : List Action), f.method = m → f.locked = none → f.entered = [] → (doReturn e (T.setTop f) acts v).1 = T.setFrames fs) → Steps p.tables e below (T.setTop g) (T.setFrames fs)) : own_Ends p e below (own_Fin s G C S) (T.setTop g) := by
  obtain ⟨fs, hr, hrun, hended, hW, hsame⟩ := X.leave (v := v) hv hlk
  subst eT
  exact ⟨_, _, st fs hr, hrun, hended, v, locs, rfl, hG, ⟨_, rfl⟩, hW, hsame.mono hC hS⟩
theorem own_retN (X : Stand p l e R s m args below meth c T locs cells slots) (hx : p.tables.exec = Jvm.exec) {pc : Nat} {Ls : Array Slot} {z z' : Int32} {t : FieldType} {rest : List Value} (hret : meth.sig.returnType = some t) (ht : t = .boolean ∨ t = .byte ∨ t = .char ∨ t = .short) (hd : decode c.code pc = .ok (.ireturn, 1)) (hlk : meth.locks = false) (hz : nar t z = z')
    {G : Option Value → Heap → List Loc → Prop} {C S : Nat} {h : Heap} (eT : T.heap = h) (hG : G (some (.int z')) h locs) (hC : cells ≤ C) (hS : slots ≤ S) : own_Ends p e below (own_Fin s G C S) (T.setTop (mkF m pc Ls (.int z :: rest))) := by
  subst hz
  exact own_out X (fun h => by rw [hret] at h; cases h) hlk eT hG hC hS (fun fs hr => retN X hx hret ht hd hr)
theorem own_retI (X : Stand p l e R s m args below meth c T locs cells slots) (hx : p.tables.exec = Jvm.exec) {pc : Nat} {Ls : Array Slot} {z : Int32} {rest : List Value} (hret : meth.sig.returnType = some .int) (hd : decode c.code pc = .ok (.ireturn, 1)) (hlk : meth.locks = false)
    {G : Option Value → Heap → List Loc → Prop} {C S : Nat} {h : Heap} (eT : T.heap = h) (hG : G (some (.int z)) h locs) (hC : cells ≤ C) (hS : slots ≤ S) : own_Ends p e below (own_Fin s G C S) (T.setTop (mkF m pc Ls (.int z :: rest))) :=
  own_out X (fun h => by rw [hret] at h; cases h) hlk eT hG hC hS (fun fs hr => retOut X hx hret rfl (Or.inl ⟨rfl, Or.inl rfl, _, rfl⟩) hd hr)
theorem own_retJ (X : Stand p l e R s m args below meth c T locs cells slots) (hx : p.tables.exec = Jvm.exec) {pc : Nat} {Ls : Array Slot} {z : Int64} {rest : List Value} (hret : meth.sig.returnType = some .long) (hd : decode c.code pc = .ok (.lreturn, 1)) (hlk : meth.locks = false)
    {G : Option Value → Heap → List Loc → Prop} {C S : Nat} {h : Heap} (eT : T.heap = h) (hG : G (some (.long z)) h locs) (hC : cells ≤ C) (hS : slots ≤ S) : own_Ends p e below (own_Fin s G C S) (T.setTop (mkF m pc Ls (.long z :: rest))) :=
  own_out X (fun h => by rw [hret] at h; cases h) hlk eT hG hC hS (fun fs hr => retOut X hx hret rfl (Or.inr (Or.inl ⟨rfl, rfl, _, rfl⟩)) hd hr)
theorem own_retR (X : Stand p l e R s m args below meth c T locs cells slots) (hx : p.tables.exec = Jvm.exec) {pc : Nat} {Ls : Array Slot} {a : Addr} {t : FieldType} {rest : List Value} (hret : meth.sig.returnType = some t) (ht : t.isReference = true) (hd : decode c.code pc = .ok (.areturn, 1)) (hlk : meth.locks = false)
    {G : Option Value → Heap → List Loc → Prop} {C S : Nat} {h : Heap} (eT : T.heap = h) (hG : G (some (.ref a)) h locs) (hC : cells ≤ C) (hS : slots ≤ S) : own_Ends p e below (own_Fin s G C S) (T.setTop (mkF m pc Ls (.ref a :: rest))) :=
  own_out X (fun h => by rw [hret] at h; cases h) hlk eT hG hC hS (fun fs hr => retOut X hx hret (by cases t <;> first | rfl | (simp [FieldType.isReference] at ht)) (Or.inr (Or.inr (Or.inr (Or.inr ⟨rfl, ht, rfl⟩)))) hd hr)
theorem own_retV (X : Stand p l e R s m args below meth c T locs cells slots) (hx : p.tables.exec = Jvm.exec) {pc : Nat} {Ls : Array Slot} (hret : meth.sig.returnType = none) (hd : decode c.code pc = .ok (.return_, 1)) (hlk : meth.locks = false)
    {G : Option Value → Heap → List Loc → Prop} {C S : Nat} {h : Heap} (eT : T.heap = h) (hG : G none h locs) (hC : cells ≤ C) (hS : slots ≤ S) : own_Ends p e below (own_Fin s G C S) (T.setTop (mkF m pc Ls [])) :=
  own_out X (fun _ => rfl) hlk eT hG hC hS (fun fs hr => X.returnOut hx hret hd hr)
theorem own_len (X : Stand p l e R s m args below meth c T locs cells slots) (hx : p.tables.exec = Jvm.exec) {h : Heap} (eT : T.heap = h) {Z : State} (hZ : Z.Warmed39 s.vm) {a : Addr} {cl : Cell} {ty : FieldType} {z : Int32} (A : Arr Z h a cl ty) (S : cl.slots.size = z.toNatClampNeg) (M : ¬ z < 0)
    {g : JFrame} (hg : g.method = m) {rest : List Value} (hs : g.stack = .ref a :: rest) (hd : decode c.code g.pc = .ok (.arraylength, 1)) {target : State} (k : Steps p.tables e below (T.setTop { g with pc := g.pc + 1, stack := .int z :: rest }) target) : Steps p.tables e below (T.setTop g) target := by
  refine X.arraylength hx (by rw [eT]; exact A.1) (State.isArrayOf_alike hZ.alike A.2.1) hg hs hd _ ?_
  rw [len_of S M]
  exact k
theorem own_setAny {Z : State} {h h' : Heap} {a : Addr} {cl : Cell} {k : ClassId} {ty : FieldType} {z : Int32} {vs : List Value} {dv v : Value} {j : Nat} (A : Arr Z h a cl ty) (q1 : cl.cls = k) (S : cl.slots.size = z.toNatClampNeg) (q3 : ¬ z < 0) (H : Has cl vs dv) (G : ∀ i, i < cl.slots.size → fits ty (vs.getD i dv) = true) (hv : fits ty v = true) (W : Wr h h' a j v) : ∃ vs', Arv Z h' a k ty z vs' dv := by
  have E : ∀ x, x < (cl.setSlot j v).slots.size → (cl.setSlot j v).slots[x]? = some ((cl.setSlot j v).slots.toList.getD x dv) := fun x hx => by
    rw [List.getD_eq_getElem?_getD, Array.getElem?_toList, Array.getElem?_eq_getElem hx]; rfl
  refine ⟨(cl.setSlot j v).slots.toList, _, A.same W, q1, by rw [sz_set]; exact S, q3, E, fun x hx => ?_⟩
  have hx' := hx
  rw [sz_set] at hx'
  have e1 := E x hx
  by_cases u : j = x
  · subst u
    have : (cl.setSlot j v).slots[j]? = some v := by simp [Cell.setSlot, hx']
    rw [this] at e1
    rw [← Option.some.inj e1]; exact hv
  · have : (cl.setSlot j v).slots[x]? = cl.slots[x]? := by simp [Cell.setSlot, Array.getElem?_setIfInBounds_ne u]
    rw [this, H x hx'] at e1
    rw [← Option.some.inj e1]; exact G x hx'
theorem own_staK {Z : State} {h h' : Heap} {a : Addr} {C n d D : String} {v : Value} (F : Sta Z h C n d v) (K : Keep h h' [a]) (E : Exa Z h a D) : Sta Z h' C n d v := by
  obtain ⟨cf, i, k, f, st, cell, h1, h2, h3, h4, h5, h6, h7⟩ := F
  obtain ⟨cl, kc, g1, -, -, g4, -⟩ := E
  have ne : st ≠ a := fun q => by subst q; cases h5.symm.trans g1; rw [h6] at g4; cases g4
  exact ⟨cf, i, k, f, st, cell, h1, h2, h3, h4, K.2.1 st cell h5 (ninS ne nin0), h6, h7⟩
theorem own_staK0 {Z : State} {h h' : Heap} {C n d : String} {v : Value} (F : Sta Z h C n d v) (K : Keep h h' []) : Sta Z h' C n d v := by
  obtain ⟨cf, i, k, f, st, cell, h1, h2, h3, h4, h5, h6, h7⟩ := F
  exact ⟨cf, i, k, f, st, cell, h1, h2, h3, h4, K.2.1 st cell h5 nin0, h6, h7⟩
theorem own_selP {Z : State} {a0 : Array Value} {y : MethodName} {kk : Nat} (hZ : Z.Warmed39 s.vm) (wi : (Cond.instantiable y.cls kk).before a0 Z = true) (wp : (Cond.privateMethod y).before a0 Z = true) (wm : (Cond.instanceMethod y).before a0 Z = true) (hy : y.cls ≠ "java/lang/invoke/MethodHandle" ∧ y.cls ≠ "java/lang/invoke/VarHandle") : (Cond.selects y.cls y y).before args s = true := by
  have wi' : (Cond.instantiable y.cls kk).before args s = true := mvT hZ wi
  obtain ⟨c', k', h1, h2, -, h4, -⟩ := Cond.instantiable_spec wi'
  have h5 : k'.isInterface = false := by
    cases q : k'.isInterface with
    | false => rfl
    | true => rw [q] at h4; simp at h4
  exact selects_self_of_private h1 h2 h5 (Cond.privateMethod_at (mvP hZ wp (args := args))) (mvT hZ wm) hy
/-- what lcmp pushes; the unsigned shifts -/
def own_cmpL (x y : Int64) : Int32 := if x > y then 1 else if x = y then 0 else -1
def own_ushr (x y : Int32) : Int32 := (x.toUInt32 >>> (y &&& 31).toUInt32).toInt32
def own_ushrL (x : Int64) (y : Int32) : Int64 := (x.toUInt64 >>> (y &&& 0x3f).toInt64.toUInt64).toInt64
theorem own_clt (x y : Int64) : own_cmpL x y < 0 ↔ x < y := lw_lt x y
theorem own_cgt (x y : Int64) : 0 < own_cmpL x y ↔ y < x := lw_gt x y
theorem own_ceq (x y : Int64) : own_cmpL x y = 0 ↔ x = y := lw_eq x y
end Own
theorem own_d1_0 : decode prog_58_method_1_code 0 = .ok (.aload_n 0, 1) := by decide +kernel
theorem own_d1_1 : decode prog_58_method_1_code 1 = .ok (.invokespecial 1, 3) := by decide +kernel
theorem own_d1_4 : decode prog_58_method_1_code 4 = .ok (.aload_n 0, 1) := by decide +kernel
theorem own_d1_5 : decode prog_58_method_1_code 5 = .ok (.bipush 17, 2) := by decide +kernel
theorem own_d1_7 : decode prog_58_method_1_code 7 = .ok (.newarray .int, 2) := by decide +kernel
theorem own_d1_9 : decode prog_58_method_1_code 9 = .ok (.putfield 7, 3) := by decide +kernel
theorem own_d1_12 : decode prog_58_method_1_code 12 = .ok (.aload_n 0, 1) := by decide +kernel
theorem own_d1_13 : decode prog_58_method_1_code 13 = .ok (.bipush 16, 2) := by decide +kernel
theorem own_d1_15 : decode prog_58_method_1_code 15 = .ok (.newarray .int, 2) := by decide +kernel
theorem own_d1_17 : decode prog_58_method_1_code 17 = .ok (.putfield 13, 3) := by decide +kernel
theorem own_d1_20 : decode prog_58_method_1_code 20 = .ok (.return_, 1) := by decide +kernel
theorem own_pn0 : plainName "com/example/mursyn/mursyn/synthesis/SuccessorLists" = true := by first | (simp [plainName, overriddenIn]; done) | decide +kernel
theorem own_ef_rm1 (m : MethodId) (x0 : Addr) : entryFrame m #[(.ref x0)] 1 = mkF m 0 #[.val (.ref x0)] [] := by first | (simp [entryFrame, mkF, argsToLocals, Value.category]; done) | rfl
def own_Q_rm1 (Z : State) (a0r : Addr) (h0 : Heap) (n0 : Nat) (v : Option Value) (h : Heap) (L : List Loc) : Prop := ∃ (b1 b2 : Addr) (k1 k2 : ClassId), v = none ∧ Fr n0 L ∧ Keep h0 h [a0r] ∧ Fld Z h a0r "com/example/mursyn/mursyn/synthesis/SuccessorLists" "first" "[I" (.ref b1) ∧ Fld Z h a0r "com/example/mursyn/mursyn/synthesis/SuccessorLists" "targets" "[I" (.ref b2) ∧ Fld Z h a0r "com/example/mursyn/mursyn/synthesis/SuccessorLists" "edgeCount" "I" (.int (0 : Int32)) ∧ Fld Z h a0r "com/example/mursyn/mursyn/synthesis/SuccessorLists" "listed" "I" (.int (0 : Int32)) ∧ Arv Z h b1 k1 .int (17 : Int32) [(.int (0 : Int32)), (.int (0 : Int32)), (.int (0 : Int32)), (.int (0 : Int32)), (.int (0 : Int32)), (.int (0 : Int32)), (.int (0 : Int32)), (.int (0 : Int32)), (.int (0 : Int32)), (.int (0 : Int32)), (.int (0 : Int32)), (.int (0 : Int32)), (.int (0 : Int32)), (.int (0 : Int32)), (.int (0 : Int32)), (.int (0 : Int32)), (.int (0 : Int32))] (.int (0 : Int32)) ∧ Arv Z h b2 k2 .int (16 : Int32) [(.int (0 : Int32)), (.int (0 : Int32)), (.int (0 : Int32)), (.int (0 : Int32)), (.int (0 : Int32)), (.int (0 : Int32)), (.int (0 : Int32)), (.int (0 : Int32)), (.int (0 : Int32)), (.int (0 : Int32)), (.int (0 : Int32)), (.int (0 : Int32)), (.int (0 : Int32)), (.int (0 : Int32)), (.int (0 : Int32)), (.int (0 : Int32))] (.int (0 : Int32)) ∧ n0 ≤ b1 ∧ n0 ≤ b2 ∧ a0r ≠ b1 ∧ a0r ≠ b2 ∧ b1 ≠ b2
set_option maxRecDepth 65536 in
set_option maxHeartbeats 40000000 in
theorem rm1 (l : Launch) (Z : State) (a0 : Array Value) (hw : ∀ d ∈ tables_1, d.before a0 Z = true) (ws : List Jvm.Cond) (a0r : Addr) (h0 : Heap) (n0 : Nat) (Z0 : n0 ≤ h0.size) (EX : Exa Z h0 a0r "com/example/mursyn/mursyn/synthesis/SuccessorLists") (g0r : n0 ≤ a0r) (F_first : Fld Z h0 a0r "com/example/mursyn/mursyn/synthesis/SuccessorLists" "first" "[I" .null) (F_targets : Fld Z h0 a0r "com/example/mursyn/mursyn/synthesis/SuccessorLists" "targets" "[I" .null) (F_edgeCount : Fld Z h0 a0r "com/example/mursyn/mursyn/synthesis/SuccessorLists" "edgeCount" "I" (.int (0 : Int32))) (F_listed : Fld Z h0 a0r "com/example/mursyn/mursyn/synthesis/SuccessorLists" "listed" "I" (.int (0 : Int32))) :
    MetFree l (⟨"com/example/mursyn/mursyn/synthesis/SuccessorLists", "<init>", "()V"⟩ : MethodName) (head1 (Jvm.Cond.code (⟨"com/example/mursyn/mursyn/synthesis/SuccessorLists", "<init>", "()V"⟩ : MethodName) prog_58_method_1_code 1 none :: ws) ({ frames := 1, cells := 2, slots := 33, locals := 12 } : Room)) (fun a U => a = #[(.ref a0r)] ∧ Z.Warmed39 U.vm ∧ U.heap = h0) (fun _ _ _ _ _ => True) (fun _ U o U' => ∃ v L, o = .returned v ∧ (own_Q_rm1 Z a0r h0 n0) v U'.heap L ∧ FrameEnd U o U' L ({ frames := 1, cells := 2, slots := 33, locals := 12 } : Room).cells ({ frames := 1, cells := 2, slots := 33, locals := 12 } : Room).slots) := by
  refine MetFree.of_bodySF (plainFor_of_name own_pn0) hisR ?_
  intro p e s m args below meth c s₁ Bd hml0 hP hK
  obtain ⟨rfl, hZ, hh⟩ := hP
  have hx := Bd.exec
  have hby := Bd.bytes
  have hml : c.maxLocals = 1 := hml0
  have hown : s.vm.findClass "com/example/mursyn/mursyn/synthesis/SuccessorLists" = some m.cls := findClass_of_methodNamed Bd.named
  have hnm := (name_of_methodNamed Bd.named Bd.method).1
  have hlk : meth.locks = false := BodyLoose.notSynchronized Bd
  have X0 : Stand p l e ({ frames := 1, cells := 2, slots := 33, locals := 12 } : Room) s m #[(.ref a0r)] below meth c s₁ [] 0 0 := Stand.of_body Bd
  have e0 : s₁.heap = h0 := by rw [← hh, Bd.state]; rfl
  have N0 := Fr.nil n0
  show own_Ends p e below (own_Fin s (own_Q_rm1 Z a0r h0 n0) ({ frames := 1, cells := 2, slots := 33, locals := 12 } : Room).cells ({ frames := 1, cells := 2, slots := 33, locals := 12 } : Room).slots) _
  refine own_pre (fun t k => castTop (own_ef_rm1 m a0r) k) ?_
  have KK0 : Keep h0 h0 [a0r] := Keep.refl _ _
  show own_Ends _ _ _ _ (s₁.setTop (mkF m 0 #[.val (.ref a0r)] []))
  refine own_pre (fun t k => XS.aloadN X0.here hx rfl (hb hby own_d1_0) rfl rfl k) ?_
  show own_Ends _ _ _ _ (s₁.setTop (mkF m 1 #[.val (.ref a0r)] [(.ref a0r)]))
  obtain ⟨T1, X1, e1, st1⟩ := initO X0 hx hZ hown (hw _ (List.mem_of_getElem? (i := 6) rfl)) (hw _ (List.mem_of_getElem? (i := 7) rfl)) (hw _ (List.mem_of_getElem? (i := 8) rfl)) e0 (g := (mkF m 1 #[.val (.ref a0r)] [(.ref a0r)])) rfl (by rw [hml]; rfl) rfl (hb hby own_d1_1) (by decide) (W := 0) (by show 2 * 0 + _ ≤ _; exact Nat.le_of_eq rfl) (by decide)
  refine own_pre st1 ?_
  show own_Ends _ _ _ _ (T1.setTop (mkF m 4 #[.val (.ref a0r)] []))
  refine own_pre (fun t k => XS.aloadN X1.here hx rfl (hb hby own_d1_4) rfl rfl k) ?_
  show own_Ends _ _ _ _ (T1.setTop (mkF m 5 #[.val (.ref a0r)] [(.ref a0r)]))
  refine own_pre (fun t k => XS.bipush X1.here hx rfl (hb hby own_d1_5) k) ?_
  show own_Ends _ _ _ _ (T1.setTop (mkF m 7 #[.val (.ref a0r)] [(.int (17 : Int32)), (.ref a0r)]))
  obtain ⟨T2, h2, k2, X2, e2, E2, A2, st2⟩ := newP X1 hx hZ (hw _ (List.mem_of_getElem? (i := 9) rfl)) e1 (g := (mkF m 7 #[.val (.ref a0r)] [(.int (17 : Int32)), (.ref a0r)])) rfl (hb hby own_d1_7) rfl (by decide) (cap := 17) (by decide) (by decide) (by decide) (by decide)
  obtain ⟨b2, g2⟩ : ∃ z, z = h0.size := ⟨_, rfl⟩
  rw [← g2] at A2 st2
  refine own_pre st2 ?_
  have ne3 : a0r ≠ b2 := Nat.ne_of_lt (Nat.lt_of_lt_of_le EX.lt (Nat.le_of_eq g2.symm))
  have f4 := EX.ext E2
  have f5 := F_first.ext E2
  have f6 := F_targets.ext E2
  have f7 := F_edgeCount.ext E2
  have f8 := F_listed.ext E2
  have L9 : n0 ≤ b2 := Nat.le_trans Z0 (Nat.le_of_eq g2.symm)
  have L10 : h0.size ≤ b2 := Nat.le_trans KK0.1 (Nat.le_of_eq g2.symm)
  have K11 : Keep h0 h2 [a0r] := KK0.ext E2
  have Zn12 : n0 ≤ h2.size := Nat.le_trans Z0 E2.1
  have f13 : Arv Z h2 b2 k2 .int (17 : Int32) [(.int (0 : Int32)), (.int (0 : Int32)), (.int (0 : Int32)), (.int (0 : Int32)), (.int (0 : Int32)), (.int (0 : Int32)), (.int (0 : Int32)), (.int (0 : Int32)), (.int (0 : Int32)), (.int (0 : Int32)), (.int (0 : Int32)), (.int (0 : Int32)), (.int (0 : Int32)), (.int (0 : Int32)), (.int (0 : Int32)), (.int (0 : Int32)), (.int (0 : Int32))] (.int (0 : Int32)) := (Arv.new A2 (by decide)).pad (pad_rep [] (.int (0 : Int32)) 17)
  show own_Ends _ _ _ _ (T2.setTop (mkF m 9 #[.val (.ref a0r)] [(.ref b2), (.ref a0r)]))
  obtain ⟨T14, h14, X14, e14, W14, st14⟩ := putF X2 hx hZ hown (host := "") (Or.inl (hw _ (List.mem_of_getElem? (i := 10) rfl))) Via.refl e2 f5 f4 (Or.inl (hw _ (List.mem_of_getElem? (i := 11) rfl))) (hw _ (List.mem_of_getElem? (i := 1) rfl)) (ty := (.array .int)) (by decide) rfl rfl (g := (mkF m 9 #[.val (.ref a0r)] [(.ref b2), (.ref a0r)])) rfl rfl (hb hby own_d1_9)
  refine own_pre st14 ?_
  have fw14 := f5.same W14
  have f15 := f4.wr W14
  have f16 := f6.other W14 (Or.inr (slot_ne (Or.inl (hw _ (List.mem_of_getElem? (i := 13) rfl))) (Or.inl (hw _ (List.mem_of_getElem? (i := 11) rfl))) (by decide) (t := (.array .int)) (t' := (.array .int)) (by decide) (by decide)))
  have f17 := f7.other W14 (Or.inr (slot_ne (Or.inl (hw _ (List.mem_of_getElem? (i := 22) rfl))) (Or.inl (hw _ (List.mem_of_getElem? (i := 11) rfl))) (by decide) (t := .int) (t' := (.array .int)) (by decide) (by decide)))
  have f18 := f8.other W14 (Or.inr (slot_ne (Or.inl (hw _ (List.mem_of_getElem? (i := 20) rfl))) (Or.inl (hw _ (List.mem_of_getElem? (i := 11) rfl))) (by decide) (t := .int) (t' := (.array .int)) (by decide) (by decide)))
  have f19 := f13.other W14 (Ne.symm ne3)
  have N20 := Fr.snoc X14 N0 g0r
  have Zn21 : n0 ≤ h14.size := by rw [W14.size]; exact Zn12
  have K22 : Keep h0 h14 [a0r] := K11.wr W14 (Or.inl (by simp))
  show own_Ends _ _ _ _ (T14.setTop (mkF m 12 #[.val (.ref a0r)] []))
  refine own_pre (fun t k => XS.aloadN X14.here hx rfl (hb hby own_d1_12) rfl rfl k) ?_
  show own_Ends _ _ _ _ (T14.setTop (mkF m 13 #[.val (.ref a0r)] [(.ref a0r)]))
  refine own_pre (fun t k => XS.bipush X14.here hx rfl (hb hby own_d1_13) k) ?_
  show own_Ends _ _ _ _ (T14.setTop (mkF m 15 #[.val (.ref a0r)] [(.int (16 : Int32)), (.ref a0r)]))
  obtain ⟨T23, h23, k23, X23, e23, E23, A23, st23⟩ := newP X14 hx hZ (hw _ (List.mem_of_getElem? (i := 9) rfl)) e14 (g := (mkF m 15 #[.val (.ref a0r)] [(.int (16 : Int32)), (.ref a0r)])) rfl (hb hby own_d1_15) rfl (by decide) (cap := 16) (by decide) (by decide) (by decide) (by decide)
  obtain ⟨b23, g23⟩ : ∃ z, z = h14.size := ⟨_, rfl⟩
  rw [← g23] at A23 st23
  refine own_pre st23 ?_
  have ne24 : a0r ≠ b23 := Nat.ne_of_lt (Nat.lt_of_lt_of_le f15.lt (Nat.le_of_eq g23.symm))
  have ne25 : b2 ≠ b23 := Nat.ne_of_lt (Nat.lt_of_lt_of_le f19.lt (Nat.le_of_eq g23.symm))
  have f26 := f15.ext E23
  have f27 := f16.ext E23
  have f28 := f17.ext E23
  have f29 := f18.ext E23
  have f30 := f19.ext E23
  have f31 := fw14.ext E23
  have L32 : n0 ≤ b23 := Nat.le_trans Zn21 (Nat.le_of_eq g23.symm)
  have L33 : h0.size ≤ b23 := Nat.le_trans K22.1 (Nat.le_of_eq g23.symm)
  have K34 : Keep h0 h23 [a0r] := K22.ext E23
  have Zn35 : n0 ≤ h23.size := Nat.le_trans Zn21 E23.1
  have f36 : Arv Z h23 b23 k23 .int (16 : Int32) [(.int (0 : Int32)), (.int (0 : Int32)), (.int (0 : Int32)), (.int (0 : Int32)), (.int (0 : Int32)), (.int (0 : Int32)), (.int (0 : Int32)), (.int (0 : Int32)), (.int (0 : Int32)), (.int (0 : Int32)), (.int (0 : Int32)), (.int (0 : Int32)), (.int (0 : Int32)), (.int (0 : Int32)), (.int (0 : Int32)), (.int (0 : Int32))] (.int (0 : Int32)) := (Arv.new A23 (by decide)).pad (pad_rep [] (.int (0 : Int32)) 16)
  show own_Ends _ _ _ _ (T23.setTop (mkF m 17 #[.val (.ref a0r)] [(.ref b23), (.ref a0r)]))
  obtain ⟨T37, h37, X37, e37, W37, st37⟩ := putF X23 hx hZ hown (host := "") (Or.inl (hw _ (List.mem_of_getElem? (i := 12) rfl))) Via.refl e23 f27 f26 (Or.inl (hw _ (List.mem_of_getElem? (i := 13) rfl))) (hw _ (List.mem_of_getElem? (i := 1) rfl)) (ty := (.array .int)) (by decide) rfl rfl (g := (mkF m 17 #[.val (.ref a0r)] [(.ref b23), (.ref a0r)])) rfl rfl (hb hby own_d1_17)
  refine own_pre st37 ?_
  have fw37 := f27.same W37
  have f38 := f26.wr W37
  have f39 := f28.other W37 (Or.inr (slot_ne (Or.inl (hw _ (List.mem_of_getElem? (i := 22) rfl))) (Or.inl (hw _ (List.mem_of_getElem? (i := 13) rfl))) (by decide) (t := .int) (t' := (.array .int)) (by decide) (by decide)))
  have f40 := f29.other W37 (Or.inr (slot_ne (Or.inl (hw _ (List.mem_of_getElem? (i := 20) rfl))) (Or.inl (hw _ (List.mem_of_getElem? (i := 13) rfl))) (by decide) (t := .int) (t' := (.array .int)) (by decide) (by decide)))
  have f41 := f30.other W37 (Ne.symm ne3)
  have f42 := f31.other W37 (Or.inr (slot_ne (Or.inl (hw _ (List.mem_of_getElem? (i := 11) rfl))) (Or.inl (hw _ (List.mem_of_getElem? (i := 13) rfl))) (by decide) (t := (.array .int)) (t' := (.array .int)) (by decide) (by decide)))
  have f43 := f36.other W37 (Ne.symm ne24)
  have N44 := Fr.snoc X37 N20 g0r
  have Zn45 : n0 ≤ h37.size := by rw [W37.size]; exact Zn35
  have K46 : Keep h0 h37 [a0r] := K34.wr W37 (Or.inl (by simp))
  show own_Ends _ _ _ _ (T37.setTop (mkF m 20 #[.val (.ref a0r)] []))
  exact own_retV X37 hx Bd.returns (hb hby own_d1_20) hlk e37 ⟨b2, b23, _, _, rfl, N44, K46, f42, fw37, f39, f40, f41, f43, L9, L32, ne3, ne24, ne25⟩ (by decide) (by decide)
theorem own_d5_0 : decode prog_58_method_2_code 0 = .ok (.aload_n 0, 1) := by decide +kernel
theorem own_d5_1 : decode prog_58_method_2_code 1 = .ok (.getfield 16, 3) := by decide +kernel
theorem own_d5_4 : decode prog_58_method_2_code 4 = .ok (.aload_n 0, 1) := by decide +kernel
theorem own_d5_5 : decode prog_58_method_2_code 5 = .ok (.getfield 13, 3) := by decide +kernel
theorem own_d5_8 : decode prog_58_method_2_code 8 = .ok (.arraylength, 1) := by decide +kernel
theorem own_d5_9 : decode prog_58_method_2_code 9 = .ok (.if_icmp .ne 21, 3) := by decide +kernel
theorem own_d5_30 : decode prog_58_method_2_code 30 = .ok (.aload_n 0, 1) := by decide +kernel
theorem own_d5_31 : decode prog_58_method_2_code 31 = .ok (.getfield 13, 3) := by decide +kernel
theorem own_d5_34 : decode prog_58_method_2_code 34 = .ok (.aload_n 0, 1) := by decide +kernel
theorem own_d5_35 : decode prog_58_method_2_code 35 = .ok (.dup, 1) := by decide +kernel
theorem own_d5_36 : decode prog_58_method_2_code 36 = .ok (.getfield 16, 3) := by decide +kernel
theorem own_d5_39 : decode prog_58_method_2_code 39 = .ok (.dup_x1, 1) := by decide +kernel
theorem own_d5_40 : decode prog_58_method_2_code 40 = .ok (.iconst 1, 1) := by decide +kernel
theorem own_d5_41 : decode prog_58_method_2_code 41 = .ok (.iadd, 1) := by decide +kernel
theorem own_d5_42 : decode prog_58_method_2_code 42 = .ok (.putfield 16, 3) := by decide +kernel
theorem own_d5_45 : decode prog_58_method_2_code 45 = .ok (.iload_n 1, 1) := by decide +kernel
theorem own_d5_46 : decode prog_58_method_2_code 46 = .ok (.iastore, 1) := by decide +kernel
theorem own_d5_47 : decode prog_58_method_2_code 47 = .ok (.return_, 1) := by decide +kernel
theorem own_ef_rm2 (m : MethodId) (x0 : Addr) (x1 : Int32) : entryFrame m #[(.ref x0), (.int x1)] 2 = mkF m 0 #[.val (.ref x0), .val (.int x1)] [] := by first | (simp [entryFrame, mkF, argsToLocals, Value.category]; done) | rfl
def own_Q_rm2 (Z : State) (a0r : Addr) (p1 : Int32) (af atg : Addr) (ec li : Int32) (kx : ClassId) (vs : List Value) (h0 : Heap) (n0 : Nat) (v : Option Value) (h : Heap) (L : List Loc) : Prop := v = none ∧ Fr n0 L ∧ Keep h0 h [a0r, atg] ∧ Fld Z h a0r "com/example/mursyn/mursyn/synthesis/SuccessorLists" "first" "[I" (.ref af) ∧ Fld Z h a0r "com/example/mursyn/mursyn/synthesis/SuccessorLists" "targets" "[I" (.ref atg) ∧ Fld Z h a0r "com/example/mursyn/mursyn/synthesis/SuccessorLists" "edgeCount" "I" (.int (ec + (1 : Int32))) ∧ Fld Z h a0r "com/example/mursyn/mursyn/synthesis/SuccessorLists" "listed" "I" (.int li) ∧ Arv Z h atg kx .int (16 : Int32) (vs.set (ec).toNatClampNeg (.int p1)) (.int (0 : Int32))
set_option maxRecDepth 65536 in
set_option maxHeartbeats 40000000 in
theorem rm2 (l : Launch) (Z : State) (a0 : Array Value) (hw : ∀ d ∈ tables_1, d.before a0 Z = true) (ws : List Jvm.Cond) (a0r : Addr) (p1 : Int32) (af atg : Addr) (ec li : Int32) (kx : ClassId) (vs : List Value) (h0 : Heap) (n0 : Nat) (Z0 : n0 ≤ h0.size) (EX : Exa Z h0 a0r "com/example/mursyn/mursyn/synthesis/SuccessorLists") (g0r : n0 ≤ a0r) (gx : n0 ≤ atg) (nex : a0r ≠ atg) (F_first : Fld Z h0 a0r "com/example/mursyn/mursyn/synthesis/SuccessorLists" "first" "[I" (.ref af)) (F_targets : Fld Z h0 a0r "com/example/mursyn/mursyn/synthesis/SuccessorLists" "targets" "[I" (.ref atg)) (F_edgeCount : Fld Z h0 a0r "com/example/mursyn/mursyn/synthesis/SuccessorLists" "edgeCount" "I" (.int ec)) (F_listed : Fld Z h0 a0r "com/example/mursyn/mursyn/synthesis/SuccessorLists" "listed" "I" (.int li)) (VV : Arv Z h0 atg kx .int (16 : Int32) vs (.int (0 : Int32))) (hne : ¬ ec = (16 : Int32)) (hin : ¬ ec < 0 ∧ ec < (16 : Int32)) (hln : (ec).toNatClampNeg < vs.length) :
    MetFree l (⟨"com/example/mursyn/mursyn/synthesis/SuccessorLists", "add", "(I)V"⟩ : MethodName) (head1 (Jvm.Cond.code (⟨"com/example/mursyn/mursyn/synthesis/SuccessorLists", "add", "(I)V"⟩ : MethodName) prog_58_method_2_code 2 none :: ws) ({ frames := 0, cells := 0, slots := 0, locals := 0 } : Room)) (fun a U => a = #[(.ref a0r), (.int p1)] ∧ Z.Warmed39 U.vm ∧ U.heap = h0) (fun _ _ _ _ _ => True) (fun _ U o U' => ∃ v L, o = .returned v ∧ (own_Q_rm2 Z a0r p1 af atg ec li kx vs h0 n0) v U'.heap L ∧ FrameEnd U o U' L ({ frames := 0, cells := 0, slots := 0, locals := 0 } : Room).cells ({ frames := 0, cells := 0, slots := 0, locals := 0 } : Room).slots) := by
  refine MetFree.of_bodySF (plainFor_of_name own_pn0) hisR ?_
  intro p e s m args below meth c s₁ Bd hml0 hP hK
  obtain ⟨rfl, hZ, hh⟩ := hP
  have hx := Bd.exec
  have hby := Bd.bytes
  have hml : c.maxLocals = 2 := hml0
  have hown : s.vm.findClass "com/example/mursyn/mursyn/synthesis/SuccessorLists" = some m.cls := findClass_of_methodNamed Bd.named
  have hnm := (name_of_methodNamed Bd.named Bd.method).1
  have hlk : meth.locks = false := BodyLoose.notSynchronized Bd
  have X0 : Stand p l e ({ frames := 0, cells := 0, slots := 0, locals := 0 } : Room) s m #[(.ref a0r), (.int p1)] below meth c s₁ [] 0 0 := Stand.of_body Bd
  have e0 : s₁.heap = h0 := by rw [← hh, Bd.state]; rfl
  have N0 := Fr.nil n0
  show own_Ends p e below (own_Fin s (own_Q_rm2 Z a0r p1 af atg ec li kx vs h0 n0) ({ frames := 0, cells := 0, slots := 0, locals := 0 } : Room).cells ({ frames := 0, cells := 0, slots := 0, locals := 0 } : Room).slots) _
  refine own_pre (fun t k => castTop (own_ef_rm2 m a0r p1) k) ?_
  have KK0 : Keep h0 h0 [a0r, atg] := Keep.refl _ _
  show own_Ends _ _ _ _ (s₁.setTop (mkF m 0 #[.val (.ref a0r), .val (.int p1)] []))
  refine own_pre (fun t k => XS.aloadN X0.here hx rfl (hb hby own_d5_0) rfl rfl k) ?_
  show own_Ends _ _ _ _ (s₁.setTop (mkF m 1 #[.val (.ref a0r), .val (.int p1)] [(.ref a0r)]))
  obtain ⟨T47, X47, e47, st47⟩ := getF X0 hx hZ hown (host := "") (Or.inl (hw _ (List.mem_of_getElem? (i := 21) rfl))) Via.refl e0 F_edgeCount (g := (mkF m 1 #[.val (.ref a0r), .val (.int p1)] [(.ref a0r)])) rfl rfl (hb hby own_d5_1)
  refine own_pre st47 ?_
  show own_Ends _ _ _ _ (T47.setTop (mkF m 4 #[.val (.ref a0r), .val (.int p1)] [(.int ec)]))
  refine own_pre (fun t k => XS.aloadN X47.here hx rfl (hb hby own_d5_4) rfl rfl k) ?_
  show own_Ends _ _ _ _ (T47.setTop (mkF m 5 #[.val (.ref a0r), .val (.int p1)] [(.ref a0r), (.int ec)]))
  obtain ⟨T48, X48, e48, st48⟩ := getF X47 hx hZ hown (host := "") (Or.inl (hw _ (List.mem_of_getElem? (i := 12) rfl))) Via.refl e47 F_targets (g := (mkF m 5 #[.val (.ref a0r), .val (.int p1)] [(.ref a0r), (.int ec)])) rfl rfl (hb hby own_d5_5)
  refine own_pre st48 ?_
  show own_Ends _ _ _ _ (T48.setTop (mkF m 8 #[.val (.ref a0r), .val (.int p1)] [(.ref atg), (.int ec)]))
  obtain ⟨cl49, Ar49, -, S49, M49, -, -⟩ := id (VV)
  refine own_pre (fun t k => own_len X48 hx e48 hZ Ar49 S49 M49 (g := (mkF m 8 #[.val (.ref a0r), .val (.int p1)] [(.ref atg), (.int ec)])) rfl rfl (hb hby own_d5_8) k) ?_
  show own_Ends _ _ _ _ (T48.setTop (mkF m 9 #[.val (.ref a0r), .val (.int p1)] [(.int (16 : Int32)), (.int ec)]))
  refine own_pre (fun t k => XS.icmpYes X48.here hx rfl (pc0 := 9) (pc' := 30) rfl (hb hby own_d5_9) rfl (feq (hne : ¬ (ec = (16 : Int32)))).2 (by decide) (by decide) k) ?_
  show own_Ends _ _ _ _ (T48.setTop (mkF m 30 #[.val (.ref a0r), .val (.int p1)] []))
  refine own_pre (fun t k => XS.aloadN X48.here hx rfl (hb hby own_d5_30) rfl rfl k) ?_
  show own_Ends _ _ _ _ (T48.setTop (mkF m 31 #[.val (.ref a0r), .val (.int p1)] [(.ref a0r)]))
  obtain ⟨T50, X50, e50, st50⟩ := getF X48 hx hZ hown (host := "") (Or.inl (hw _ (List.mem_of_getElem? (i := 12) rfl))) Via.refl e48 F_targets (g := (mkF m 31 #[.val (.ref a0r), .val (.int p1)] [(.ref a0r)])) rfl rfl (hb hby own_d5_31)
  refine own_pre st50 ?_
  show own_Ends _ _ _ _ (T50.setTop (mkF m 34 #[.val (.ref a0r), .val (.int p1)] [(.ref atg)]))
  refine own_pre (fun t k => XS.aloadN X50.here hx rfl (hb hby own_d5_34) rfl rfl k) ?_
  show own_Ends _ _ _ _ (T50.setTop (mkF m 35 #[.val (.ref a0r), .val (.int p1)] [(.ref a0r), (.ref atg)]))
  refine own_pre (fun t k => XS.dup X50.here hx rfl (hb hby own_d5_35) rfl rfl k) ?_
  show own_Ends _ _ _ _ (T50.setTop (mkF m 36 #[.val (.ref a0r), .val (.int p1)] [(.ref a0r), (.ref a0r), (.ref atg)]))
  obtain ⟨T51, X51, e51, st51⟩ := getF X50 hx hZ hown (host := "") (Or.inl (hw _ (List.mem_of_getElem? (i := 21) rfl))) Via.refl e50 F_edgeCount (g := (mkF m 36 #[.val (.ref a0r), .val (.int p1)] [(.ref a0r), (.ref a0r), (.ref atg)])) rfl rfl (hb hby own_d5_36)
  refine own_pre st51 ?_
  show own_Ends _ _ _ _ (T51.setTop (mkF m 39 #[.val (.ref a0r), .val (.int p1)] [(.int ec), (.ref a0r), (.ref atg)]))
  refine own_pre (fun t k => XS.dupX1 X51.here hx rfl (hb hby own_d5_39) rfl rfl rfl k) ?_
  show own_Ends _ _ _ _ (T51.setTop (mkF m 40 #[.val (.ref a0r), .val (.int p1)] [(.int ec), (.ref a0r), (.int ec), (.ref atg)]))
  refine own_pre (fun t k => XS.iconst X51.here hx rfl (hb hby own_d5_40) k) ?_
  show own_Ends _ _ _ _ (T51.setTop (mkF m 41 #[.val (.ref a0r), .val (.int p1)] [(.int (1 : Int32)), (.int ec), (.ref a0r), (.int ec), (.ref atg)]))
  refine own_pre (fun t k => XS.iadd X51.here hx rfl (hb hby own_d5_41) rfl k) ?_
  show own_Ends _ _ _ _ (T51.setTop (mkF m 42 #[.val (.ref a0r), .val (.int p1)] [(.int (ec + (1 : Int32))), (.ref a0r), (.int ec), (.ref atg)]))
  obtain ⟨T52, h52, X52, e52, W52, st52⟩ := putF X51 hx hZ hown (host := "") (Or.inl (hw _ (List.mem_of_getElem? (i := 21) rfl))) Via.refl e51 F_edgeCount EX (Or.inl (hw _ (List.mem_of_getElem? (i := 22) rfl))) (hw _ (List.mem_of_getElem? (i := 1) rfl)) (ty := .int) (by decide) rfl rfl (g := (mkF m 42 #[.val (.ref a0r), .val (.int p1)] [(.int (ec + (1 : Int32))), (.ref a0r), (.int ec), (.ref atg)])) rfl rfl (hb hby own_d5_42)
  refine own_pre st52 ?_
  have fw52 := F_edgeCount.same W52
  have f53 := EX.wr W52
  have f54 := F_first.other W52 (Or.inr (slot_ne (Or.inl (hw _ (List.mem_of_getElem? (i := 11) rfl))) (Or.inl (hw _ (List.mem_of_getElem? (i := 22) rfl))) (by decide) (t := (.array .int)) (t' := .int) (by decide) (by decide)))
  have f55 := F_targets.other W52 (Or.inr (slot_ne (Or.inl (hw _ (List.mem_of_getElem? (i := 13) rfl))) (Or.inl (hw _ (List.mem_of_getElem? (i := 22) rfl))) (by decide) (t := (.array .int)) (t' := .int) (by decide) (by decide)))
  have f56 := F_listed.other W52 (Or.inr (slot_ne (Or.inl (hw _ (List.mem_of_getElem? (i := 20) rfl))) (Or.inl (hw _ (List.mem_of_getElem? (i := 22) rfl))) (by decide) (t := .int) (t' := .int) (by decide) (by decide)))
  have f57 := VV.other W52 (Ne.symm nex)
  have N58 := Fr.snoc X52 N0 g0r
  have Zn59 : n0 ≤ h52.size := by rw [W52.size]; exact Z0
  have K60 : Keep h0 h52 [a0r, atg] := KK0.wr W52 (Or.inl (by simp))
  show own_Ends _ _ _ _ (T52.setTop (mkF m 45 #[.val (.ref a0r), .val (.int p1)] [(.int ec), (.ref atg)]))
  refine own_pre (fun t k => XS.iloadN X52.here hx rfl (hb hby own_d5_45) rfl k) ?_
  show own_Ends _ _ _ _ (T52.setTop (mkF m 46 #[.val (.ref a0r), .val (.int p1)] [(.int p1), (.int ec), (.ref atg)]))
  obtain ⟨cl61, Ar61, q61, S61, M61, H61, G61⟩ := id (f57)
  have hin61 : ¬ (ec < 0 ∨ cl61.slots.size ≤ (ec).toNatClampNeg) := inb_of S61 hin
  obtain ⟨T61, h61, X61, e61, W61, st61⟩ := stI X52 hx hZ e52 Ar61 (j := ec) hin61 (g := (mkF m 46 #[.val (.ref a0r), .val (.int p1)] [(.int p1), (.int ec), (.ref atg)])) rfl rfl (hb hby own_d5_46)
  refine own_pre st61 ?_
  have f62 := Arv.set Ar61 q61 S61 M61 H61 G61 (show fits .int (.int p1) = true from rfl) W61 (ec).toNatClampNeg rfl hln
  have f63 := f53.wr W61
  have f64 := f54.other W61 (Or.inl nex)
  have f65 := f55.other W61 (Or.inl nex)
  have f66 := f56.other W61 (Or.inl nex)
  have f67 := fw52.other W61 (Or.inl nex)
  have N68 := Fr.snoc X61 N58 gx
  have Zn69 : n0 ≤ h61.size := by rw [W61.size]; exact Zn59
  have K70 : Keep h0 h61 [a0r, atg] := K60.wr W61 (Or.inl (by simp))
  show own_Ends _ _ _ _ (T61.setTop (mkF m 47 #[.val (.ref a0r), .val (.int p1)] []))
  exact own_retV X61 hx Bd.returns (hb hby own_d5_47) hlk e61 ⟨rfl, N68, K70, f64, f65, f67, f66, f62⟩ (by decide) (by decide)
theorem own_d3_0 : decode prog_58_method_3_code 0 = .ok (.aload_n 0, 1) := by decide +kernel
theorem own_d3_1 : decode prog_58_method_3_code 1 = .ok (.dup, 1) := by decide +kernel
theorem own_d3_2 : decode prog_58_method_3_code 2 = .ok (.getfield 26, 3) := by decide +kernel
theorem own_d3_5 : decode prog_58_method_3_code 5 = .ok (.iconst 1, 1) := by decide +kernel
theorem own_d3_6 : decode prog_58_method_3_code 6 = .ok (.iadd, 1) := by decide +kernel
theorem own_d3_7 : decode prog_58_method_3_code 7 = .ok (.putfield 26, 3) := by decide +kernel
theorem own_d3_10 : decode prog_58_method_3_code 10 = .ok (.aload_n 0, 1) := by decide +kernel
theorem own_d3_11 : decode prog_58_method_3_code 11 = .ok (.getfield 26, 3) := by decide +kernel
theorem own_d3_14 : decode prog_58_method_3_code 14 = .ok (.aload_n 0, 1) := by decide +kernel
theorem own_d3_15 : decode prog_58_method_3_code 15 = .ok (.getfield 7, 3) := by decide +kernel
theorem own_d3_18 : decode prog_58_method_3_code 18 = .ok (.arraylength, 1) := by decide +kernel
theorem own_d3_19 : decode prog_58_method_3_code 19 = .ok (.if_icmp .ne 21, 3) := by decide +kernel
theorem own_d3_40 : decode prog_58_method_3_code 40 = .ok (.aload_n 0, 1) := by decide +kernel
theorem own_d3_41 : decode prog_58_method_3_code 41 = .ok (.getfield 7, 3) := by decide +kernel
theorem own_d3_44 : decode prog_58_method_3_code 44 = .ok (.aload_n 0, 1) := by decide +kernel
theorem own_d3_45 : decode prog_58_method_3_code 45 = .ok (.getfield 26, 3) := by decide +kernel
theorem own_d3_48 : decode prog_58_method_3_code 48 = .ok (.aload_n 0, 1) := by decide +kernel
theorem own_d3_49 : decode prog_58_method_3_code 49 = .ok (.getfield 16, 3) := by decide +kernel
theorem own_d3_52 : decode prog_58_method_3_code 52 = .ok (.iastore, 1) := by decide +kernel
theorem own_d3_53 : decode prog_58_method_3_code 53 = .ok (.return_, 1) := by decide +kernel
theorem own_ef_rm3 (m : MethodId) (x0 : Addr) : entryFrame m #[(.ref x0)] 1 = mkF m 0 #[.val (.ref x0)] [] := by first | (simp [entryFrame, mkF, argsToLocals, Value.category]; done) | rfl
def own_Q_rm3 (Z : State) (a0r : Addr) (af atg : Addr) (ec li : Int32) (kx : ClassId) (vs : List Value) (h0 : Heap) (n0 : Nat) (v : Option Value) (h : Heap) (L : List Loc) : Prop := v = none ∧ Fr n0 L ∧ Keep h0 h [a0r, af] ∧ Fld Z h a0r "com/example/mursyn/mursyn/synthesis/SuccessorLists" "first" "[I" (.ref af) ∧ Fld Z h a0r "com/example/mursyn/mursyn/synthesis/SuccessorLists" "targets" "[I" (.ref atg) ∧ Fld Z h a0r "com/example/mursyn/mursyn/synthesis/SuccessorLists" "edgeCount" "I" (.int ec) ∧ Fld Z h a0r "com/example/mursyn/mursyn/synthesis/SuccessorLists" "listed" "I" (.int (li + (1 : Int32))) ∧ Arv Z h af kx .int (17 : Int32) (vs.set ((li + (1 : Int32))).toNatClampNeg (.int ec)) (.int (0 : Int32))
set_option maxRecDepth 65536 in
set_option maxHeartbeats 40000000 in
theorem rm3 (l : Launch) (Z : State) (a0 : Array Value) (hw : ∀ d ∈ tables_1, d.before a0 Z = true) (ws : List Jvm.Cond) (a0r : Addr) (af atg : Addr) (ec li : Int32) (kx : ClassId) (vs : List Value) (h0 : Heap) (n0 : Nat) (Z0 : n0 ≤ h0.size) (EX : Exa Z h0 a0r "com/example/mursyn/mursyn/synthesis/SuccessorLists") (g0r : n0 ≤ a0r) (gx : n0 ≤ af) (nex : a0r ≠ af) (F_first : Fld Z h0 a0r "com/example/mursyn/mursyn/synthesis/SuccessorLists" "first" "[I" (.ref af)) (F_targets : Fld Z h0 a0r "com/example/mursyn/mursyn/synthesis/SuccessorLists" "targets" "[I" (.ref atg)) (F_edgeCount : Fld Z h0 a0r "com/example/mursyn/mursyn/synthesis/SuccessorLists" "edgeCount" "I" (.int ec)) (F_listed : Fld Z h0 a0r "com/example/mursyn/mursyn/synthesis/SuccessorLists" "listed" "I" (.int li)) (VV : Arv Z h0 af kx .int (17 : Int32) vs (.int (0 : Int32))) (hne : ¬ (li + (1 : Int32)) = (17 : Int32)) (hin : ¬ (li + (1 : Int32)) < 0 ∧ (li + (1 : Int32)) < (17 : Int32)) (hln : ((li + (1 : Int32))).toNatClampNeg < vs.length) :
    MetFree l (⟨"com/example/mursyn/mursyn/synthesis/SuccessorLists", "close", "()V"⟩ : MethodName) (head1 (Jvm.Cond.code (⟨"com/example/mursyn/mursyn/synthesis/SuccessorLists", "close", "()V"⟩ : MethodName) prog_58_method_3_code 1 none :: ws) ({ frames := 0, cells := 0, slots := 0, locals := 0 } : Room)) (fun a U => a = #[(.ref a0r)] ∧ Z.Warmed39 U.vm ∧ U.heap = h0) (fun _ _ _ _ _ => True) (fun _ U o U' => ∃ v L, o = .returned v ∧ (own_Q_rm3 Z a0r af atg ec li kx vs h0 n0) v U'.heap L ∧ FrameEnd U o U' L ({ frames := 0, cells := 0, slots := 0, locals := 0 } : Room).cells ({ frames := 0, cells := 0, slots := 0, locals := 0 } : Room).slots) := by
  refine MetFree.of_bodySF (plainFor_of_name own_pn0) hisR ?_
  intro p e s m args below meth c s₁ Bd hml0 hP hK
  obtain ⟨rfl, hZ, hh⟩ := hP
  have hx := Bd.exec
  have hby := Bd.bytes
  have hml : c.maxLocals = 1 := hml0
  have hown : s.vm.findClass "com/example/mursyn/mursyn/synthesis/SuccessorLists" = some m.cls := findClass_of_methodNamed Bd.named
  have hnm := (name_of_methodNamed Bd.named Bd.method).1
  have hlk : meth.locks = false := BodyLoose.notSynchronized Bd
  have X0 : Stand p l e ({ frames := 0, cells := 0, slots := 0, locals := 0 } : Room) s m #[(.ref a0r)] below meth c s₁ [] 0 0 := Stand.of_body Bd
  have e0 : s₁.heap = h0 := by rw [← hh, Bd.state]; rfl
  have N0 := Fr.nil n0
  show own_Ends p e below (own_Fin s (own_Q_rm3 Z a0r af atg ec li kx vs h0 n0) ({ frames := 0, cells := 0, slots := 0, locals := 0 } : Room).cells ({ frames := 0, cells := 0, slots := 0, locals := 0 } : Room).slots) _
  refine own_pre (fun t k => castTop (own_ef_rm3 m a0r) k) ?_
  have KK0 : Keep h0 h0 [a0r, af] := Keep.refl _ _
  show own_Ends _ _ _ _ (s₁.setTop (mkF m 0 #[.val (.ref a0r)] []))
  refine own_pre (fun t k => XS.aloadN X0.here hx rfl (hb hby own_d3_0) rfl rfl k) ?_
  show own_Ends _ _ _ _ (s₁.setTop (mkF m 1 #[.val (.ref a0r)] [(.ref a0r)]))
  refine own_pre (fun t k => XS.dup X0.here hx rfl (hb hby own_d3_1) rfl rfl k) ?_
  show own_Ends _ _ _ _ (s₁.setTop (mkF m 2 #[.val (.ref a0r)] [(.ref a0r), (.ref a0r)]))
  obtain ⟨T71, X71, e71, st71⟩ := getF X0 hx hZ hown (host := "") (Or.inl (hw _ (List.mem_of_getElem? (i := 19) rfl))) Via.refl e0 F_listed (g := (mkF m 2 #[.val (.ref a0r)] [(.ref a0r), (.ref a0r)])) rfl rfl (hb hby own_d3_2)
  refine own_pre st71 ?_
  show own_Ends _ _ _ _ (T71.setTop (mkF m 5 #[.val (.ref a0r)] [(.int li), (.ref a0r)]))
  refine own_pre (fun t k => XS.iconst X71.here hx rfl (hb hby own_d3_5) k) ?_
  show own_Ends _ _ _ _ (T71.setTop (mkF m 6 #[.val (.ref a0r)] [(.int (1 : Int32)), (.int li), (.ref a0r)]))
  refine own_pre (fun t k => XS.iadd X71.here hx rfl (hb hby own_d3_6) rfl k) ?_
  show own_Ends _ _ _ _ (T71.setTop (mkF m 7 #[.val (.ref a0r)] [(.int (li + (1 : Int32))), (.ref a0r)]))
  obtain ⟨T72, h72, X72, e72, W72, st72⟩ := putF X71 hx hZ hown (host := "") (Or.inl (hw _ (List.mem_of_getElem? (i := 19) rfl))) Via.refl e71 F_listed EX (Or.inl (hw _ (List.mem_of_getElem? (i := 20) rfl))) (hw _ (List.mem_of_getElem? (i := 1) rfl)) (ty := .int) (by decide) rfl rfl (g := (mkF m 7 #[.val (.ref a0r)] [(.int (li + (1 : Int32))), (.ref a0r)])) rfl rfl (hb hby own_d3_7)
  refine own_pre st72 ?_
  have fw72 := F_listed.same W72
  have f73 := EX.wr W72
  have f74 := F_first.other W72 (Or.inr (slot_ne (Or.inl (hw _ (List.mem_of_getElem? (i := 11) rfl))) (Or.inl (hw _ (List.mem_of_getElem? (i := 20) rfl))) (by decide) (t := (.array .int)) (t' := .int) (by decide) (by decide)))
  have f75 := F_targets.other W72 (Or.inr (slot_ne (Or.inl (hw _ (List.mem_of_getElem? (i := 13) rfl))) (Or.inl (hw _ (List.mem_of_getElem? (i := 20) rfl))) (by decide) (t := (.array .int)) (t' := .int) (by decide) (by decide)))
  have f76 := F_edgeCount.other W72 (Or.inr (slot_ne (Or.inl (hw _ (List.mem_of_getElem? (i := 22) rfl))) (Or.inl (hw _ (List.mem_of_getElem? (i := 20) rfl))) (by decide) (t := .int) (t' := .int) (by decide) (by decide)))
  have f77 := VV.other W72 (Ne.symm nex)
  have N78 := Fr.snoc X72 N0 g0r
  have Zn79 : n0 ≤ h72.size := by rw [W72.size]; exact Z0
  have K80 : Keep h0 h72 [a0r, af] := KK0.wr W72 (Or.inl (by simp))
  show own_Ends _ _ _ _ (T72.setTop (mkF m 10 #[.val (.ref a0r)] []))
  refine own_pre (fun t k => XS.aloadN X72.here hx rfl (hb hby own_d3_10) rfl rfl k) ?_
  show own_Ends _ _ _ _ (T72.setTop (mkF m 11 #[.val (.ref a0r)] [(.ref a0r)]))
  obtain ⟨T81, X81, e81, st81⟩ := getF X72 hx hZ hown (host := "") (Or.inl (hw _ (List.mem_of_getElem? (i := 19) rfl))) Via.refl e72 fw72 (g := (mkF m 11 #[.val (.ref a0r)] [(.ref a0r)])) rfl rfl (hb hby own_d3_11)
  refine own_pre st81 ?_
  show own_Ends _ _ _ _ (T81.setTop (mkF m 14 #[.val (.ref a0r)] [(.int (li + (1 : Int32)))]))
  refine own_pre (fun t k => XS.aloadN X81.here hx rfl (hb hby own_d3_14) rfl rfl k) ?_
  show own_Ends _ _ _ _ (T81.setTop (mkF m 15 #[.val (.ref a0r)] [(.ref a0r), (.int (li + (1 : Int32)))]))
  obtain ⟨T82, X82, e82, st82⟩ := getF X81 hx hZ hown (host := "") (Or.inl (hw _ (List.mem_of_getElem? (i := 10) rfl))) Via.refl e81 f74 (g := (mkF m 15 #[.val (.ref a0r)] [(.ref a0r), (.int (li + (1 : Int32)))])) rfl rfl (hb hby own_d3_15)
  refine own_pre st82 ?_
  show own_Ends _ _ _ _ (T82.setTop (mkF m 18 #[.val (.ref a0r)] [(.ref af), (.int (li + (1 : Int32)))]))
  obtain ⟨cl83, Ar83, -, S83, M83, -, -⟩ := id (f77)
  refine own_pre (fun t k => own_len X82 hx e82 hZ Ar83 S83 M83 (g := (mkF m 18 #[.val (.ref a0r)] [(.ref af), (.int (li + (1 : Int32)))])) rfl rfl (hb hby own_d3_18) k) ?_
  show own_Ends _ _ _ _ (T82.setTop (mkF m 19 #[.val (.ref a0r)] [(.int (17 : Int32)), (.int (li + (1 : Int32)))]))
  refine own_pre (fun t k => XS.icmpYes X82.here hx rfl (pc0 := 19) (pc' := 40) rfl (hb hby own_d3_19) rfl (feq (hne : ¬ ((li + (1 : Int32)) = (17 : Int32)))).2 (by decide) (by decide) k) ?_
  show own_Ends _ _ _ _ (T82.setTop (mkF m 40 #[.val (.ref a0r)] []))
  refine own_pre (fun t k => XS.aloadN X82.here hx rfl (hb hby own_d3_40) rfl rfl k) ?_
  show own_Ends _ _ _ _ (T82.setTop (mkF m 41 #[.val (.ref a0r)] [(.ref a0r)]))
  obtain ⟨T84, X84, e84, st84⟩ := getF X82 hx hZ hown (host := "") (Or.inl (hw _ (List.mem_of_getElem? (i := 10) rfl))) Via.refl e82 f74 (g := (mkF m 41 #[.val (.ref a0r)] [(.ref a0r)])) rfl rfl (hb hby own_d3_41)
  refine own_pre st84 ?_
  show own_Ends _ _ _ _ (T84.setTop (mkF m 44 #[.val (.ref a0r)] [(.ref af)]))
  refine own_pre (fun t k => XS.aloadN X84.here hx rfl (hb hby own_d3_44) rfl rfl k) ?_
  show own_Ends _ _ _ _ (T84.setTop (mkF m 45 #[.val (.ref a0r)] [(.ref a0r), (.ref af)]))
  obtain ⟨T85, X85, e85, st85⟩ := getF X84 hx hZ hown (host := "") (Or.inl (hw _ (List.mem_of_getElem? (i := 19) rfl))) Via.refl e84 fw72 (g := (mkF m 45 #[.val (.ref a0r)] [(.ref a0r), (.ref af)])) rfl rfl (hb hby own_d3_45)
  refine own_pre st85 ?_
  show own_Ends _ _ _ _ (T85.setTop (mkF m 48 #[.val (.ref a0r)] [(.int (li + (1 : Int32))), (.ref af)]))
  refine own_pre (fun t k => XS.aloadN X85.here hx rfl (hb hby own_d3_48) rfl rfl k) ?_
  show own_Ends _ _ _ _ (T85.setTop (mkF m 49 #[.val (.ref a0r)] [(.ref a0r), (.int (li + (1 : Int32))), (.ref af)]))
  obtain ⟨T86, X86, e86, st86⟩ := getF X85 hx hZ hown (host := "") (Or.inl (hw _ (List.mem_of_getElem? (i := 21) rfl))) Via.refl e85 f76 (g := (mkF m 49 #[.val (.ref a0r)] [(.ref a0r), (.int (li + (1 : Int32))), (.ref af)])) rfl rfl (hb hby own_d3_49)
  refine own_pre st86 ?_
  show own_Ends _ _ _ _ (T86.setTop (mkF m 52 #[.val (.ref a0r)] [(.int ec), (.int (li + (1 : Int32))), (.ref af)]))
  obtain ⟨cl87, Ar87, q87, S87, M87, H87, G87⟩ := id (f77)
  have hin87 : ¬ ((li + (1 : Int32)) < 0 ∨ cl87.slots.size ≤ ((li + (1 : Int32))).toNatClampNeg) := inb_of S87 hin
  obtain ⟨T87, h87, X87, e87, W87, st87⟩ := stI X86 hx hZ e86 Ar87 (j := (li + (1 : Int32))) hin87 (g := (mkF m 52 #[.val (.ref a0r)] [(.int ec), (.int (li + (1 : Int32))), (.ref af)])) rfl rfl (hb hby own_d3_52)
  refine own_pre st87 ?_
  have f88 := Arv.set Ar87 q87 S87 M87 H87 G87 (show fits .int (.int ec) = true from rfl) W87 ((li + (1 : Int32))).toNatClampNeg rfl hln
  have f89 := f73.wr W87
  have f90 := f74.other W87 (Or.inl nex)
  have f91 := f75.other W87 (Or.inl nex)
  have f92 := f76.other W87 (Or.inl nex)
  have f93 := fw72.other W87 (Or.inl nex)
  have N94 := Fr.snoc X87 N78 gx
  have Zn95 : n0 ≤ h87.size := by rw [W87.size]; exact Zn79
  have K96 : Keep h0 h87 [a0r, af] := K80.wr W87 (Or.inl (by simp))
  show own_Ends _ _ _ _ (T87.setTop (mkF m 53 #[.val (.ref a0r)] []))
  exact own_retV X87 hx Bd.returns (hb hby own_d3_53) hlk e87 ⟨rfl, N94, K96, f90, f91, f92, f93, f88⟩ (by decide) (by decide)
theorem own_d4_0 : decode prog_58_method_4_code 0 = .ok (.aload_n 0, 1) := by decide +kernel
theorem own_d4_1 : decode prog_58_method_4_code 1 = .ok (.getfield 7, 3) := by decide +kernel
theorem own_d4_4 : decode prog_58_method_4_code 4 = .ok (.iload_n 1, 1) := by decide +kernel
theorem own_d4_5 : decode prog_58_method_4_code 5 = .ok (.iconst 1, 1) := by decide +kernel
theorem own_d4_6 : decode prog_58_method_4_code 6 = .ok (.iadd, 1) := by decide +kernel
theorem own_d4_7 : decode prog_58_method_4_code 7 = .ok (.iaload, 1) := by decide +kernel
theorem own_d4_8 : decode prog_58_method_4_code 8 = .ok (.aload_n 0, 1) := by decide +kernel
theorem own_d4_9 : decode prog_58_method_4_code 9 = .ok (.getfield 7, 3) := by decide +kernel
theorem own_d4_12 : decode prog_58_method_4_code 12 = .ok (.iload_n 1, 1) := by decide +kernel
theorem own_d4_13 : decode prog_58_method_4_code 13 = .ok (.iaload, 1) := by decide +kernel
theorem own_d4_14 : decode prog_58_method_4_code 14 = .ok (.isub, 1) := by decide +kernel
theorem own_d4_15 : decode prog_58_method_4_code 15 = .ok (.ireturn, 1) := by decide +kernel
theorem own_ef_rm4 (m : MethodId) (x0 : Addr) (x1 : Int32) : entryFrame m #[(.ref x0), (.int x1)] 2 = mkF m 0 #[.val (.ref x0), .val (.int x1)] [] := by first | (simp [entryFrame, mkF, argsToLocals, Value.category]; done) | rfl
def own_Q_rm4 (Z : State) (a0r : Addr) (p1 : Int32) (af : Addr) (kx : ClassId) (vs : List Value) (x7 x13 : Int32) (h0 : Heap) (n0 : Nat) (v : Option Value) (h : Heap) (L : List Loc) : Prop := v = some (.int (x7 - x13)) ∧ Fr n0 L ∧ h = h0
set_option maxRecDepth 65536 in
set_option maxHeartbeats 40000000 in
theorem rm4 (l : Launch) (Z : State) (a0 : Array Value) (hw : ∀ d ∈ tables_1, d.before a0 Z = true) (ws : List Jvm.Cond) (a0r : Addr) (p1 : Int32) (af : Addr) (kx : ClassId) (vs : List Value) (x7 x13 : Int32) (h0 : Heap) (n0 : Nat) (Z0 : n0 ≤ h0.size) (F_first : Fld Z h0 a0r "com/example/mursyn/mursyn/synthesis/SuccessorLists" "first" "[I" (.ref af)) (VV : Arv Z h0 af kx .int (17 : Int32) vs (.int (0 : Int32))) (h7a : ¬ (p1 + (1 : Int32)) < 0 ∧ (p1 + (1 : Int32)) < (17 : Int32)) (h7b : vs.getD (p1 + (1 : Int32)).toNatClampNeg (.int (0 : Int32)) = (.int x7)) (h13a : ¬ p1 < 0 ∧ p1 < (17 : Int32)) (h13b : vs.getD p1.toNatClampNeg (.int (0 : Int32)) = (.int x13)) :
    MetFree l (⟨"com/example/mursyn/mursyn/synthesis/SuccessorLists", "count", "(I)I"⟩ : MethodName) (head1 (Jvm.Cond.code (⟨"com/example/mursyn/mursyn/synthesis/SuccessorLists", "count", "(I)I"⟩ : MethodName) prog_58_method_4_code 2 (some .int) :: ws) ({ frames := 0, cells := 0, slots := 0, locals := 0 } : Room)) (fun a U => a = #[(.ref a0r), (.int p1)] ∧ Z.Warmed39 U.vm ∧ U.heap = h0) (fun _ _ _ _ _ => True) (fun _ U o U' => ∃ v L, o = .returned v ∧ (own_Q_rm4 Z a0r p1 af kx vs x7 x13 h0 n0) v U'.heap L ∧ FrameEnd U o U' L ({ frames := 0, cells := 0, slots := 0, locals := 0 } : Room).cells ({ frames := 0, cells := 0, slots := 0, locals := 0 } : Room).slots) := by
  refine MetFree.of_bodySF (plainFor_of_name own_pn0) hisR ?_
  intro p e s m args below meth c s₁ Bd hml0 hP hK
  obtain ⟨rfl, hZ, hh⟩ := hP
  have hx := Bd.exec
  have hby := Bd.bytes
  have hml : c.maxLocals = 2 := hml0
  have hown : s.vm.findClass "com/example/mursyn/mursyn/synthesis/SuccessorLists" = some m.cls := findClass_of_methodNamed Bd.named
  have hnm := (name_of_methodNamed Bd.named Bd.method).1
  have hlk : meth.locks = false := BodyLoose.notSynchronized Bd
  have X0 : Stand p l e ({ frames := 0, cells := 0, slots := 0, locals := 0 } : Room) s m #[(.ref a0r), (.int p1)] below meth c s₁ [] 0 0 := Stand.of_body Bd
  have e0 : s₁.heap = h0 := by rw [← hh, Bd.state]; rfl
  have N0 := Fr.nil n0
  show own_Ends p e below (own_Fin s (own_Q_rm4 Z a0r p1 af kx vs x7 x13 h0 n0) ({ frames := 0, cells := 0, slots := 0, locals := 0 } : Room).cells ({ frames := 0, cells := 0, slots := 0, locals := 0 } : Room).slots) _
  refine own_pre (fun t k => castTop (own_ef_rm4 m a0r p1) k) ?_
  show own_Ends _ _ _ _ (s₁.setTop (mkF m 0 #[.val (.ref a0r), .val (.int p1)] []))
  refine own_pre (fun t k => XS.aloadN X0.here hx rfl (hb hby own_d4_0) rfl rfl k) ?_
  show own_Ends _ _ _ _ (s₁.setTop (mkF m 1 #[.val (.ref a0r), .val (.int p1)] [(.ref a0r)]))
  obtain ⟨T97, X97, e97, st97⟩ := getF X0 hx hZ hown (host := "") (Or.inl (hw _ (List.mem_of_getElem? (i := 10) rfl))) Via.refl e0 F_first (g := (mkF m 1 #[.val (.ref a0r), .val (.int p1)] [(.ref a0r)])) rfl rfl (hb hby own_d4_1)
  refine own_pre st97 ?_
  show own_Ends _ _ _ _ (T97.setTop (mkF m 4 #[.val (.ref a0r), .val (.int p1)] [(.ref af)]))
  refine own_pre (fun t k => XS.iloadN X97.here hx rfl (hb hby own_d4_4) rfl k) ?_
  show own_Ends _ _ _ _ (T97.setTop (mkF m 5 #[.val (.ref a0r), .val (.int p1)] [(.int p1), (.ref af)]))
  refine own_pre (fun t k => XS.iconst X97.here hx rfl (hb hby own_d4_5) k) ?_
  show own_Ends _ _ _ _ (T97.setTop (mkF m 6 #[.val (.ref a0r), .val (.int p1)] [(.int (1 : Int32)), (.int p1), (.ref af)]))
  refine own_pre (fun t k => XS.iadd X97.here hx rfl (hb hby own_d4_6) rfl k) ?_
  show own_Ends _ _ _ _ (T97.setTop (mkF m 7 #[.val (.ref a0r), .val (.int p1)] [(.int (p1 + (1 : Int32))), (.ref af)]))
  obtain ⟨cl98, Ar98, q98, S98, M98, H98, G98⟩ := id (VV)
  have hin98 : ¬ ((p1 + (1 : Int32)) < 0 ∨ cl98.slots.size ≤ ((p1 + (1 : Int32))).toNatClampNeg) := inb_of S98 h7a
  have hat98 : cl98.slots[((p1 + (1 : Int32))).toNatClampNeg]? = some (.int x7) := H98.at hin98 h7b
  refine own_pre (fun t k => X97.iaload hx (j := (p1 + (1 : Int32))) (v := (.int x7)) (by rw [e97]; exact Ar98.1) (State.isArrayOf_alike hZ.alike Ar98.2.1) Ar98.2.2 hin98 hat98 (g := (mkF m 7 #[.val (.ref a0r), .val (.int p1)] [(.int (p1 + (1 : Int32))), (.ref af)])) rfl rfl (hb hby own_d4_7) _ k) ?_
  show own_Ends _ _ _ _ (T97.setTop (mkF m 8 #[.val (.ref a0r), .val (.int p1)] [(.int x7)]))
  refine own_pre (fun t k => XS.aloadN X97.here hx rfl (hb hby own_d4_8) rfl rfl k) ?_
  show own_Ends _ _ _ _ (T97.setTop (mkF m 9 #[.val (.ref a0r), .val (.int p1)] [(.ref a0r), (.int x7)]))
  obtain ⟨T99, X99, e99, st99⟩ := getF X97 hx hZ hown (host := "") (Or.inl (hw _ (List.mem_of_getElem? (i := 10) rfl))) Via.refl e97 F_first (g := (mkF m 9 #[.val (.ref a0r), .val (.int p1)] [(.ref a0r), (.int x7)])) rfl rfl (hb hby own_d4_9)
  refine own_pre st99 ?_
  show own_Ends _ _ _ _ (T99.setTop (mkF m 12 #[.val (.ref a0r), .val (.int p1)] [(.ref af), (.int x7)]))
  refine own_pre (fun t k => XS.iloadN X99.here hx rfl (hb hby own_d4_12) rfl k) ?_
  show own_Ends _ _ _ _ (T99.setTop (mkF m 13 #[.val (.ref a0r), .val (.int p1)] [(.int p1), (.ref af), (.int x7)]))
  obtain ⟨cl100, Ar100, q100, S100, M100, H100, G100⟩ := id (VV)
  have hin100 : ¬ (p1 < 0 ∨ cl100.slots.size ≤ (p1).toNatClampNeg) := inb_of S100 h13a
  have hat100 : cl100.slots[(p1).toNatClampNeg]? = some (.int x13) := H100.at hin100 h13b
  refine own_pre (fun t k => X99.iaload hx (j := p1) (v := (.int x13)) (by rw [e99]; exact Ar100.1) (State.isArrayOf_alike hZ.alike Ar100.2.1) Ar100.2.2 hin100 hat100 (g := (mkF m 13 #[.val (.ref a0r), .val (.int p1)] [(.int p1), (.ref af), (.int x7)])) rfl rfl (hb hby own_d4_13) _ k) ?_
  show own_Ends _ _ _ _ (T99.setTop (mkF m 14 #[.val (.ref a0r), .val (.int p1)] [(.int x13), (.int x7)]))
  refine own_pre (fun t k => XS.isub X99.here hx rfl (hb hby own_d4_14) rfl k) ?_
  show own_Ends _ _ _ _ (T99.setTop (mkF m 15 #[.val (.ref a0r), .val (.int p1)] [(.int (x7 - x13))]))
  exact own_retI X99 hx Bd.returns (hb hby own_d4_15) hlk e99 ⟨rfl, N0, rfl⟩ (by decide) (by decide)
theorem own_mod3 (x : Int32) (h : 0 ≤ x.toInt) : x % 3 = 0 ∨ x % 3 = 1 ∨ x % 3 = 2 := by
  have e2 : (x % 3).toInt = x.toInt % (3 : Int32).toInt := Jvm.Kit.i32_rem_nonneg h
  have e3 : (3 : Int32).toInt = 3 := rfl
  have e0 : (0 : Int32).toInt = 0 := rfl
  have e1 : (1 : Int32).toInt = 1 := rfl
  have e4 : (2 : Int32).toInt = 2 := rfl
  simp only [← Int32.toInt_inj, e0, e1, e4]
  rw [e2, e3]
  omega
theorem own_and3 (x : Int32) : 0 ≤ (x &&& 3).toInt := by
  have e1 : (x &&& 3).toInt = x.toInt % 2 ^ 2 := Jvm.Kit.i32_mask x 3 (by decide) (by decide)
  omega
theorem own_c3 {x y : Int32} (h : (y &&& 3) % 3 = x) : x = 0 ∨ x = 1 ∨ x = 2 := h ▸ own_mod3 _ (own_and3 y)
theorem own_pd0 : parseMethodDescriptor "()V" = some ⟨[], none⟩ := by decide +kernel
theorem own_pd1 : parseMethodDescriptor "(I)I" = some ⟨[.int], some .int⟩ := by decide +kernel
theorem own_pd2 : parseMethodDescriptor "(I)V" = some ⟨[.int], none⟩ := by decide +kernel
theorem own_pn1 : plainName "com/example/mursyn/mursyn/synthesis/SuccessorListsCountPinLaw" = true := by first | (simp [plainName, overriddenIn]; done) | decide +kernel
theorem own_ef_rm0 (m : MethodId) (x0 : Int32) (x1 : Int32) (x2 : Int32) : entryFrame m #[(.int x0), (.int x1), (.int x2)] maxLocals = mkF m 0 #[.val (.int x0), .val (.int x1), .val (.int x2), .unset, .unset, .unset, .unset] [] := by first | (simp [entryFrame, mkF, argsToLocals, Value.category, maxLocals]; done) | rfl
def own_Q_rm0 (Z : State) (p0 : Int32) (p1 : Int32) (p2 : Int32) (h0 : Heap) (n0 : Nat) (v : Option Value) (h : Heap) (L : List Loc) : Prop := v = some (.int 1) ∧ Fr n0 L
set_option maxRecDepth 65536 in
set_option maxHeartbeats 40000000 in
theorem rm0 (l : Launch) (Z : State) (a0 : Array Value) (hw : ∀ d ∈ tables_1, d.before a0 Z = true) (ws : List Jvm.Cond) (p0 : Int32) (p1 : Int32) (p2 : Int32) (h0 : Heap) (n0 : Nat) (Z0 : n0 ≤ h0.size) :
    MetFree l x (head1 (Jvm.Cond.code x code maxLocals ret :: ws) room_1) (fun a U => a = #[(.int p0), (.int p1), (.int p2)] ∧ Z.Warmed39 U.vm ∧ U.heap = h0) (fun _ _ _ _ _ => True) (fun _ U o U' => ∃ v L, o = .returned v ∧ (own_Q_rm0 Z p0 p1 p2 h0 n0) v U'.heap L ∧ FrameEnd U o U' L 16 192) := by
  refine MetFree.of_bodySF (plainFor_of_name own_pn1) hisR ?_
  intro p e s m args below meth c s₁ Bd hml0 hP hK
  obtain ⟨rfl, hZ, hh⟩ := hP
  have hx := Bd.exec
  have hby := Bd.bytes
  have hml : c.maxLocals = 7 := hml0
  have hown : s.vm.findClass "com/example/mursyn/mursyn/synthesis/SuccessorListsCountPinLaw" = some m.cls := findClass_of_methodNamed Bd.named
  have hnm := (name_of_methodNamed Bd.named Bd.method).1
  have hlk : meth.locks = false := BodyLoose.notSynchronized Bd
  have X0 : Stand p l e room_1 s m #[(.int p0), (.int p1), (.int p2)] below meth c s₁ [] 0 0 := Stand.of_body Bd
  have e0 : s₁.heap = h0 := by rw [← hh, Bd.state]; rfl
  have N0 := Fr.nil n0
  show own_Ends p e below (own_Fin s (own_Q_rm0 Z p0 p1 p2 h0 n0) 16 192) _
  refine own_pre (fun t k => castTop (own_ef_rm0 m p0 p1 p2) k) ?_
  show own_Ends _ _ _ _ (s₁.setTop (mkF m 0 #[.val (.int p0), .val (.int p1), .val (.int p2), .unset, .unset, .unset, .unset] []))
  refine own_pre (fun t k => XS.iloadN X0.here hx rfl (hb hby at_0) rfl k) ?_
  show own_Ends _ _ _ _ (s₁.setTop (mkF m 1 #[.val (.int p0), .val (.int p1), .val (.int p2), .unset, .unset, .unset, .unset] [(.int p0)]))
  refine own_pre (fun t k => XS.iconst X0.here hx rfl (hb hby at_1) k) ?_
  show own_Ends _ _ _ _ (s₁.setTop (mkF m 2 #[.val (.int p0), .val (.int p1), .val (.int p2), .unset, .unset, .unset, .unset] [(.int (3 : Int32)), (.int p0)]))
  refine own_pre (fun t k => XS.iand X0.here hx rfl (hb hby at_2) rfl k) ?_
  show own_Ends _ _ _ _ (s₁.setTop (mkF m 3 #[.val (.int p0), .val (.int p1), .val (.int p2), .unset, .unset, .unset, .unset] [(.int (p0 &&& (3 : Int32)))]))
  refine own_pre (fun t k => XS.iconst X0.here hx rfl (hb hby at_3) k) ?_
  show own_Ends _ _ _ _ (s₁.setTop (mkF m 4 #[.val (.int p0), .val (.int p1), .val (.int p2), .unset, .unset, .unset, .unset] [(.int (3 : Int32)), (.int (p0 &&& (3 : Int32)))]))
  refine own_pre (fun t k => iremM X0 hx rfl (hb hby at_4) rfl (by decide) k) ?_
  show own_Ends _ _ _ _ (s₁.setTop (mkF m 5 #[.val (.int p0), .val (.int p1), .val (.int p2), .unset, .unset, .unset, .unset] [(.int ((p0 &&& (3 : Int32)) % (3 : Int32)))]))
  refine own_pre (fun t k => XS.istoreN X0.here hx rfl (hb hby at_5) rfl (l' := #[.val (.int p0), .val (.int p1), .val (.int p2), .val (.int ((p0 &&& (3 : Int32)) % (3 : Int32))), .unset, .unset, .unset]) rfl k) ?_
  show own_Ends _ _ _ _ (s₁.setTop (mkF m 6 #[.val (.int p0), .val (.int p1), .val (.int p2), .val (.int ((p0 &&& (3 : Int32)) % (3 : Int32))), .unset, .unset, .unset] []))
  generalize hx3 : ((p0 &&& (3 : Int32)) % (3 : Int32)) = x3
  show own_Ends _ _ _ _ (s₁.setTop (mkF m 6 #[.val (.int p0), .val (.int p1), .val (.int p2), .val (.int x3), .unset, .unset, .unset] []))
  refine own_pre (fun t k => XS.iloadN X0.here hx rfl (hb hby at_6) rfl k) ?_
  show own_Ends _ _ _ _ (s₁.setTop (mkF m 7 #[.val (.int p0), .val (.int p1), .val (.int p2), .val (.int x3), .unset, .unset, .unset] [(.int p0)]))
  refine own_pre (fun t k => XS.iconst X0.here hx rfl (hb hby at_7) k) ?_
  show own_Ends _ _ _ _ (s₁.setTop (mkF m 8 #[.val (.int p0), .val (.int p1), .val (.int p2), .val (.int x3), .unset, .unset, .unset] [(.int (2 : Int32)), (.int p0)]))
  refine own_pre (fun t k => XS.iushr X0.here hx rfl (hb hby at_8) rfl k) ?_
  show own_Ends _ _ _ _ (s₁.setTop (mkF m 9 #[.val (.int p0), .val (.int p1), .val (.int p2), .val (.int x3), .unset, .unset, .unset] [(.int (own_ushr p0 (2 : Int32)))]))
  refine own_pre (fun t k => XS.iconst X0.here hx rfl (hb hby at_9) k) ?_
  show own_Ends _ _ _ _ (s₁.setTop (mkF m 10 #[.val (.int p0), .val (.int p1), .val (.int p2), .val (.int x3), .unset, .unset, .unset] [(.int (3 : Int32)), (.int (own_ushr p0 (2 : Int32)))]))
  refine own_pre (fun t k => XS.iand X0.here hx rfl (hb hby at_10) rfl k) ?_
  show own_Ends _ _ _ _ (s₁.setTop (mkF m 11 #[.val (.int p0), .val (.int p1), .val (.int p2), .val (.int x3), .unset, .unset, .unset] [(.int ((own_ushr p0 (2 : Int32)) &&& (3 : Int32)))]))
  refine own_pre (fun t k => XS.iconst X0.here hx rfl (hb hby at_11) k) ?_
  show own_Ends _ _ _ _ (s₁.setTop (mkF m 12 #[.val (.int p0), .val (.int p1), .val (.int p2), .val (.int x3), .unset, .unset, .unset] [(.int (3 : Int32)), (.int ((own_ushr p0 (2 : Int32)) &&& (3 : Int32)))]))
  refine own_pre (fun t k => iremM X0 hx rfl (hb hby at_12) rfl (by decide) k) ?_
  show own_Ends _ _ _ _ (s₁.setTop (mkF m 13 #[.val (.int p0), .val (.int p1), .val (.int p2), .val (.int x3), .unset, .unset, .unset] [(.int (((own_ushr p0 (2 : Int32)) &&& (3 : Int32)) % (3 : Int32)))]))
  refine own_pre (fun t k => XS.istore X0.here hx rfl (hb hby at_13) rfl (l' := #[.val (.int p0), .val (.int p1), .val (.int p2), .val (.int x3), .val (.int (((own_ushr p0 (2 : Int32)) &&& (3 : Int32)) % (3 : Int32))), .unset, .unset]) rfl k) ?_
  show own_Ends _ _ _ _ (s₁.setTop (mkF m 15 #[.val (.int p0), .val (.int p1), .val (.int p2), .val (.int x3), .val (.int (((own_ushr p0 (2 : Int32)) &&& (3 : Int32)) % (3 : Int32))), .unset, .unset] []))
  generalize hx4 : (((own_ushr p0 (2 : Int32)) &&& (3 : Int32)) % (3 : Int32)) = x4
  show own_Ends _ _ _ _ (s₁.setTop (mkF m 15 #[.val (.int p0), .val (.int p1), .val (.int p2), .val (.int x3), .val (.int x4), .unset, .unset] []))
  refine own_pre (fun t k => XS.iloadN X0.here hx rfl (hb hby at_15) rfl k) ?_
  show own_Ends _ _ _ _ (s₁.setTop (mkF m 16 #[.val (.int p0), .val (.int p1), .val (.int p2), .val (.int x3), .val (.int x4), .unset, .unset] [(.int p0)]))
  refine own_pre (fun t k => XS.iconst X0.here hx rfl (hb hby at_16) k) ?_
  show own_Ends _ _ _ _ (s₁.setTop (mkF m 17 #[.val (.int p0), .val (.int p1), .val (.int p2), .val (.int x3), .val (.int x4), .unset, .unset] [(.int (4 : Int32)), (.int p0)]))
  refine own_pre (fun t k => XS.iushr X0.here hx rfl (hb hby at_17) rfl k) ?_
  show own_Ends _ _ _ _ (s₁.setTop (mkF m 18 #[.val (.int p0), .val (.int p1), .val (.int p2), .val (.int x3), .val (.int x4), .unset, .unset] [(.int (own_ushr p0 (4 : Int32)))]))
  refine own_pre (fun t k => XS.iconst X0.here hx rfl (hb hby at_18) k) ?_
  show own_Ends _ _ _ _ (s₁.setTop (mkF m 19 #[.val (.int p0), .val (.int p1), .val (.int p2), .val (.int x3), .val (.int x4), .unset, .unset] [(.int (1 : Int32)), (.int (own_ushr p0 (4 : Int32)))]))
  refine own_pre (fun t k => XS.iand X0.here hx rfl (hb hby at_19) rfl k) ?_
  show own_Ends _ _ _ _ (s₁.setTop (mkF m 20 #[.val (.int p0), .val (.int p1), .val (.int p2), .val (.int x3), .val (.int x4), .unset, .unset] [(.int ((own_ushr p0 (4 : Int32)) &&& (1 : Int32)))]))
  by_cases hc101 : ((own_ushr p0 (4 : Int32)) &&& (1 : Int32)) = (0 : Int32)
  · skip
    refine own_pre (fun t k => XS.ifYes X0.here hx rfl (pc0 := 20) (pc' := 27) rfl (hb hby at_20) rfl ((if0 _ _).trans (teq hc101).1) (by decide) (by decide) k) ?_
    show own_Ends _ _ _ _ (s₁.setTop (mkF m 27 #[.val (.int p0), .val (.int p1), .val (.int p2), .val (.int x3), .val (.int x4), .unset, .unset] []))
    refine own_pre (fun t k => XS.iconst X0.here hx rfl (hb hby at_27) k) ?_
    show own_Ends _ _ _ _ (s₁.setTop (mkF m 28 #[.val (.int p0), .val (.int p1), .val (.int p2), .val (.int x3), .val (.int x4), .unset, .unset] [(.int (0 : Int32))]))
    refine own_pre (fun t k => XS.istore X0.here hx rfl (hb hby at_28) rfl (l' := #[.val (.int p0), .val (.int p1), .val (.int p2), .val (.int x3), .val (.int x4), .val (.int (0 : Int32)), .unset]) rfl k) ?_
    show own_Ends _ _ _ _ (s₁.setTop (mkF m 30 #[.val (.int p0), .val (.int p1), .val (.int p2), .val (.int x3), .val (.int x4), .val (.int (0 : Int32)), .unset] []))
    obtain ⟨T102, h102, X102, e102, E102, A102, D102, -, st102⟩ := newO X0 hx hZ hown (hw _ (List.mem_of_getElem? (i := 0) rfl)) (hw _ (List.mem_of_getElem? (i := 1) rfl)) (hw _ (List.mem_of_getElem? (i := 2) rfl)) e0 (g := (mkF m 30 #[.val (.int p0), .val (.int p1), .val (.int p2), .val (.int x3), .val (.int x4), .val (.int (0 : Int32)), .unset] [])) rfl (hb hby at_30) (by decide) (by decide)
    obtain ⟨b102, g102⟩ : ∃ z, z = h0.size := ⟨_, rfl⟩
    rw [← g102] at A102 D102 st102
    refine own_pre st102 ?_
    have L103 : n0 ≤ b102 := Nat.le_trans Z0 (Nat.le_of_eq g102.symm)
    have Zn104 : n0 ≤ h102.size := Nat.le_trans Z0 E102.1
    have f105 : Fld Z h102 b102 "com/example/mursyn/mursyn/synthesis/SuccessorLists" "first" "[I" .null := D102 (Or.inl (hw _ (List.mem_of_getElem? (i := 11) rfl))) (ty := (.array .int)) (by decide)
    have f106 : Fld Z h102 b102 "com/example/mursyn/mursyn/synthesis/SuccessorLists" "targets" "[I" .null := D102 (Or.inl (hw _ (List.mem_of_getElem? (i := 13) rfl))) (ty := (.array .int)) (by decide)
    have f107 : Fld Z h102 b102 "com/example/mursyn/mursyn/synthesis/SuccessorLists" "listed" "I" (.int (0 : Int32)) := D102 (Or.inl (hw _ (List.mem_of_getElem? (i := 20) rfl))) (ty := .int) (by decide)
    have f108 : Fld Z h102 b102 "com/example/mursyn/mursyn/synthesis/SuccessorLists" "edgeCount" "I" (.int (0 : Int32)) := D102 (Or.inl (hw _ (List.mem_of_getElem? (i := 22) rfl))) (ty := .int) (by decide)
    show own_Ends _ _ _ _ (T102.setTop (mkF m 33 #[.val (.int p0), .val (.int p1), .val (.int p2), .val (.int x3), .val (.int x4), .val (.int (0 : Int32)), .unset] [(.ref b102)]))
    refine own_pre (fun t k => XS.dup X102.here hx rfl (hb hby at_33) rfl rfl k) ?_
    show own_Ends _ _ _ _ (T102.setTop (mkF m 34 #[.val (.int p0), .val (.int p1), .val (.int p2), .val (.int x3), .val (.int x4), .val (.int (0 : Int32)), .unset] [(.ref b102), (.ref b102)]))
    obtain ⟨_, _, ⟨T109, L109, k109, n109⟩, -, X109, ⟨Lc109, hQ109, l109, y109, z109⟩, st109⟩ := X102.specialBack hx (y := (⟨"com/example/mursyn/mursyn/synthesis/SuccessorLists", "<init>", "()V"⟩ : MethodName)) rfl hown (mvT hZ (hw _ (List.mem_of_getElem? (i := 3) rfl))) (mvT hZ (hw _ (List.mem_of_getElem? (i := 4) rfl))) (mvT hZ (hw _ (List.mem_of_getElem? (i := 5) rfl))) (by decide) (backOf (W := 1) (rm1 l Z a0 hw [] b102 h102 n0 Zn104 A102 L103 f105 f106 f108 f107) hZ (hw _ (List.mem_of_getElem? (i := 5) rfl)) (hw _ (List.mem_of_getElem? (i := 2) rfl)) (by decide) (by decide)) (g := (mkF m 34 #[.val (.int p0), .val (.int p1), .val (.int p2), .val (.int x3), .val (.int x4), .val (.int (0 : Int32)), .unset] [(.ref b102), (.ref b102)])) rfl (by rw [hml]; rfl) (Steps.refl _) (a := b102) (argsL := []) (rest := [(.ref b102)]) (lenOf own_pd0 rfl) rfl (by show 2 * 0 + _ ≤ _; exact Nat.le_of_eq rfl) (hb hby at_34) (fun _ _ => ⟨rfl, e102, (by decide : 1 + 2 ≤ _), (by decide : 4 + 33 ≤ _)⟩)
    dsimp only [Pt.U, Pt.locs, Pt.cells, Pt.slots] at X109 l109 y109 z109 st109 hQ109
    subst l109 y109 z109
    obtain ⟨bf109, bt109, kf109, kt109, rfl, Nq109, Kq109, fa109, fb109, fc109, fd109, va109, vb109, la109, lb109, na109, nb109, nc109⟩ := hQ109
    have N109 := Fr.app N0 Nq109
    have f110 := A102.keep Kq109
    have Zn109 : n0 ≤ T109.heap.size := Nat.le_trans Zn104 Kq109.1
    refine own_pre (fun t k => st109.trans k) ?_
    show own_Ends _ _ _ _ (T109.setTop (mkF m 37 #[.val (.int p0), .val (.int p1), .val (.int p2), .val (.int x3), .val (.int x4), .val (.int (0 : Int32)), .unset] [(.ref b102)]))
    refine own_pre (fun t k => XS.astore X109.here hx rfl (hb hby at_37) rfl rfl (l' := #[.val (.int p0), .val (.int p1), .val (.int p2), .val (.int x3), .val (.int x4), .val (.int (0 : Int32)), .val (.ref b102)]) rfl k) ?_
    show own_Ends _ _ _ _ (T109.setTop (mkF m 39 #[.val (.int p0), .val (.int p1), .val (.int p2), .val (.int x3), .val (.int x4), .val (.int (0 : Int32)), .val (.ref b102)] []))
    rcases own_c3 hx3 with hs111 | hs111 | hs111
    · subst hs111
      show own_Ends _ _ _ _ (T109.setTop (mkF m 39 #[.val (.int p0), .val (.int p1), .val (.int p2), .val (.int (0 : Int32)), .val (.int x4), .val (.int (0 : Int32)), .val (.ref b102)] []))
      refine own_pre (fun t k => XS.iloadN X109.here hx rfl (hb hby at_39) rfl k) ?_
      show own_Ends _ _ _ _ (T109.setTop (mkF m 40 #[.val (.int p0), .val (.int p1), .val (.int p2), .val (.int (0 : Int32)), .val (.int x4), .val (.int (0 : Int32)), .val (.ref b102)] [(.int (0 : Int32))]))
      refine own_pre (fun t k => XS.iconst X109.here hx rfl (hb hby at_40) k) ?_
      show own_Ends _ _ _ _ (T109.setTop (mkF m 41 #[.val (.int p0), .val (.int p1), .val (.int p2), .val (.int (0 : Int32)), .val (.int x4), .val (.int (0 : Int32)), .val (.ref b102)] [(.int (1 : Int32)), (.int (0 : Int32))]))
      refine own_pre (fun t k => XS.icmpYes X109.here hx rfl (pc0 := 41) (pc' := 50) rfl (hb hby at_41) rfl (tlt ((by decide) : (0 : Int32) < (1 : Int32))).1 (by decide) (by decide) k) ?_
      show own_Ends _ _ _ _ (T109.setTop (mkF m 50 #[.val (.int p0), .val (.int p1), .val (.int p2), .val (.int (0 : Int32)), .val (.int x4), .val (.int (0 : Int32)), .val (.ref b102)] []))
      refine own_pre (fun t k => XS.iloadN X109.here hx rfl (hb hby at_50) rfl k) ?_
      show own_Ends _ _ _ _ (T109.setTop (mkF m 51 #[.val (.int p0), .val (.int p1), .val (.int p2), .val (.int (0 : Int32)), .val (.int x4), .val (.int (0 : Int32)), .val (.ref b102)] [(.int (0 : Int32))]))
      refine own_pre (fun t k => XS.iconst X109.here hx rfl (hb hby at_51) k) ?_
      show own_Ends _ _ _ _ (T109.setTop (mkF m 52 #[.val (.int p0), .val (.int p1), .val (.int p2), .val (.int (0 : Int32)), .val (.int x4), .val (.int (0 : Int32)), .val (.ref b102)] [(.int (2 : Int32)), (.int (0 : Int32))]))
      refine own_pre (fun t k => XS.icmpYes X109.here hx rfl (pc0 := 52) (pc' := 61) rfl (hb hby at_52) rfl (tlt ((by decide) : (0 : Int32) < (2 : Int32))).1 (by decide) (by decide) k) ?_
      show own_Ends _ _ _ _ (T109.setTop (mkF m 61 #[.val (.int p0), .val (.int p1), .val (.int p2), .val (.int (0 : Int32)), .val (.int x4), .val (.int (0 : Int32)), .val (.ref b102)] []))
      refine own_pre (fun t k => XS.aload X109.here hx rfl (hb hby at_61) rfl rfl k) ?_
      show own_Ends _ _ _ _ (T109.setTop (mkF m 63 #[.val (.int p0), .val (.int p1), .val (.int p2), .val (.int (0 : Int32)), .val (.int x4), .val (.int (0 : Int32)), .val (.ref b102)] [(.ref b102)]))
      obtain ⟨cq112, kq112, q112a, q112b, q112c⟩ := isOf hZ rfl f110
      obtain ⟨_, _, ⟨T112, L112, k112, n112⟩, -, X112, ⟨Lc112, hQ112, l112, y112, z112⟩, st112⟩ := X109.virtualBack hx (y := (⟨"com/example/mursyn/mursyn/synthesis/SuccessorLists", "close", "()V"⟩ : MethodName)) (z := (⟨"com/example/mursyn/mursyn/synthesis/SuccessorLists", "close", "()V"⟩ : MethodName)) hown (mvT hZ (hw _ (List.mem_of_getElem? (i := 14) rfl))) (mvT hZ (hw _ (List.mem_of_getElem? (i := 15) rfl))) (notFace_of_selects (args := #[]) (mvT hZ (hw _ (List.mem_of_getElem? (i := 17) rfl)))) (mvT hZ (hw _ (List.mem_of_getElem? (i := 17) rfl))) (mvT hZ (hw _ (List.mem_of_getElem? (i := 16) rfl))) (by decide) (backOf (W := 0) (rm3 l Z a0 hw [] b102 bf109 bt109 (0 : Int32) (0 : Int32) kf109 [(.int (0 : Int32)), (.int (0 : Int32)), (.int (0 : Int32)), (.int (0 : Int32)), (.int (0 : Int32)), (.int (0 : Int32)), (.int (0 : Int32)), (.int (0 : Int32)), (.int (0 : Int32)), (.int (0 : Int32)), (.int (0 : Int32)), (.int (0 : Int32)), (.int (0 : Int32)), (.int (0 : Int32)), (.int (0 : Int32)), (.int (0 : Int32)), (.int (0 : Int32))]  T109.heap n0 Zn109 f110 L103 la109 na109 fa109 fb109 fc109 fd109 va109 (by decide) ⟨by decide, by decide⟩ (Nat.le_of_ble_eq_true rfl)) hZ (hw _ (List.mem_of_getElem? (i := 18) rfl)) (hw _ (List.mem_of_getElem? (i := 2) rfl)) (by decide) (by decide)) q112a q112c (g := (mkF m 63 #[.val (.int p0), .val (.int p1), .val (.int p2), .val (.int (0 : Int32)), .val (.int x4), .val (.int (0 : Int32)), .val (.ref b102)] [(.ref b102)])) rfl (by rw [hml]; rfl) (Steps.refl _) (argsL := []) (rest := []) (lenOf own_pd0 rfl) rfl (by show 2 * 0 + _ ≤ _; exact Nat.le_of_eq rfl) (hb hby at_63) (fun _ _ => ⟨rfl, rfl, (by decide : 3 + 0 ≤ _), (by decide : 37 + 0 ≤ _)⟩)
      dsimp only [Pt.U, Pt.locs, Pt.cells, Pt.slots] at X112 l112 y112 z112 st112 hQ112
      subst l112 y112 z112
      obtain ⟨rfl, Nq112, Kq112, fa112, fb112, fc112, fd112, vv112⟩ := hQ112
      have N112 := Fr.app N109 Nq112
      have f113 := f110.keep Kq112
      have f114 := vb109.keep Kq112 (ninS (Ne.symm nb109) (ninS (Ne.symm nc109) nin0))
      have Zn112 : n0 ≤ T112.heap.size := Nat.le_trans Zn109 Kq112.1
      have fa112 : Fld Z T112.heap b102 "com/example/mursyn/mursyn/synthesis/SuccessorLists" "first" "[I" (.ref bf109) := fa112
      have fb112 : Fld Z T112.heap b102 "com/example/mursyn/mursyn/synthesis/SuccessorLists" "targets" "[I" (.ref bt109) := fb112
      have fc112 : Fld Z T112.heap b102 "com/example/mursyn/mursyn/synthesis/SuccessorLists" "edgeCount" "I" (.int (0 : Int32)) := fc112
      have fd112 : Fld Z T112.heap b102 "com/example/mursyn/mursyn/synthesis/SuccessorLists" "listed" "I" (.int (1 : Int32)) := fd112
      have vv112 : Arv Z T112.heap bf109 kf109 .int (17 : Int32) [(.int (0 : Int32)), (.int (0 : Int32)), (.int (0 : Int32)), (.int (0 : Int32)), (.int (0 : Int32)), (.int (0 : Int32)), (.int (0 : Int32)), (.int (0 : Int32)), (.int (0 : Int32)), (.int (0 : Int32)), (.int (0 : Int32)), (.int (0 : Int32)), (.int (0 : Int32)), (.int (0 : Int32)), (.int (0 : Int32)), (.int (0 : Int32)), (.int (0 : Int32))] (.int (0 : Int32)) := vv112
      refine own_pre (fun t k => st112.trans k) ?_
      show own_Ends _ _ _ _ (T112.setTop (mkF m 66 #[.val (.int p0), .val (.int p1), .val (.int p2), .val (.int (0 : Int32)), .val (.int x4), .val (.int (0 : Int32)), .val (.ref b102)] []))
      rcases own_c3 hx4 with hs115 | hs115 | hs115
      · subst hs115
        show own_Ends _ _ _ _ (T112.setTop (mkF m 66 #[.val (.int p0), .val (.int p1), .val (.int p2), .val (.int (0 : Int32)), .val (.int (0 : Int32)), .val (.int (0 : Int32)), .val (.ref b102)] []))
        refine own_pre (fun t k => XS.iload X112.here hx rfl (hb hby at_66) rfl k) ?_
        show own_Ends _ _ _ _ (T112.setTop (mkF m 68 #[.val (.int p0), .val (.int p1), .val (.int p2), .val (.int (0 : Int32)), .val (.int (0 : Int32)), .val (.int (0 : Int32)), .val (.ref b102)] [(.int (0 : Int32))]))
        refine own_pre (fun t k => XS.iconst X112.here hx rfl (hb hby at_68) k) ?_
        show own_Ends _ _ _ _ (T112.setTop (mkF m 69 #[.val (.int p0), .val (.int p1), .val (.int p2), .val (.int (0 : Int32)), .val (.int (0 : Int32)), .val (.int (0 : Int32)), .val (.ref b102)] [(.int (1 : Int32)), (.int (0 : Int32))]))
        refine own_pre (fun t k => XS.icmpYes X112.here hx rfl (pc0 := 69) (pc' := 78) rfl (hb hby at_69) rfl (tlt ((by decide) : (0 : Int32) < (1 : Int32))).1 (by decide) (by decide) k) ?_
        show own_Ends _ _ _ _ (T112.setTop (mkF m 78 #[.val (.int p0), .val (.int p1), .val (.int p2), .val (.int (0 : Int32)), .val (.int (0 : Int32)), .val (.int (0 : Int32)), .val (.ref b102)] []))
        refine own_pre (fun t k => XS.iload X112.here hx rfl (hb hby at_78) rfl k) ?_
        show own_Ends _ _ _ _ (T112.setTop (mkF m 80 #[.val (.int p0), .val (.int p1), .val (.int p2), .val (.int (0 : Int32)), .val (.int (0 : Int32)), .val (.int (0 : Int32)), .val (.ref b102)] [(.int (0 : Int32))]))
        refine own_pre (fun t k => XS.iconst X112.here hx rfl (hb hby at_80) k) ?_
        show own_Ends _ _ _ _ (T112.setTop (mkF m 81 #[.val (.int p0), .val (.int p1), .val (.int p2), .val (.int (0 : Int32)), .val (.int (0 : Int32)), .val (.int (0 : Int32)), .val (.ref b102)] [(.int (2 : Int32)), (.int (0 : Int32))]))
        refine own_pre (fun t k => XS.icmpYes X112.here hx rfl (pc0 := 81) (pc' := 90) rfl (hb hby at_81) rfl (tlt ((by decide) : (0 : Int32) < (2 : Int32))).1 (by decide) (by decide) k) ?_
        show own_Ends _ _ _ _ (T112.setTop (mkF m 90 #[.val (.int p0), .val (.int p1), .val (.int p2), .val (.int (0 : Int32)), .val (.int (0 : Int32)), .val (.int (0 : Int32)), .val (.ref b102)] []))
        refine own_pre (fun t k => XS.aload X112.here hx rfl (hb hby at_90) rfl rfl k) ?_
        show own_Ends _ _ _ _ (T112.setTop (mkF m 92 #[.val (.int p0), .val (.int p1), .val (.int p2), .val (.int (0 : Int32)), .val (.int (0 : Int32)), .val (.int (0 : Int32)), .val (.ref b102)] [(.ref b102)]))
        obtain ⟨cq116, kq116, q116a, q116b, q116c⟩ := isOf hZ rfl f113
        obtain ⟨_, _, ⟨T116, L116, k116, n116⟩, -, X116, ⟨Lc116, hQ116, l116, y116, z116⟩, st116⟩ := X112.virtualBack hx (y := (⟨"com/example/mursyn/mursyn/synthesis/SuccessorLists", "close", "()V"⟩ : MethodName)) (z := (⟨"com/example/mursyn/mursyn/synthesis/SuccessorLists", "close", "()V"⟩ : MethodName)) hown (mvT hZ (hw _ (List.mem_of_getElem? (i := 14) rfl))) (mvT hZ (hw _ (List.mem_of_getElem? (i := 15) rfl))) (notFace_of_selects (args := #[]) (mvT hZ (hw _ (List.mem_of_getElem? (i := 17) rfl)))) (mvT hZ (hw _ (List.mem_of_getElem? (i := 17) rfl))) (mvT hZ (hw _ (List.mem_of_getElem? (i := 16) rfl))) (by decide) (backOf (W := 0) (rm3 l Z a0 hw [] b102 bf109 bt109 (0 : Int32) (1 : Int32) kf109 [(.int (0 : Int32)), (.int (0 : Int32)), (.int (0 : Int32)), (.int (0 : Int32)), (.int (0 : Int32)), (.int (0 : Int32)), (.int (0 : Int32)), (.int (0 : Int32)), (.int (0 : Int32)), (.int (0 : Int32)), (.int (0 : Int32)), (.int (0 : Int32)), (.int (0 : Int32)), (.int (0 : Int32)), (.int (0 : Int32)), (.int (0 : Int32)), (.int (0 : Int32))]  T112.heap n0 Zn112 f113 L103 la109 na109 fa112 fb112 fc112 fd112 vv112 (by decide) ⟨by decide, by decide⟩ (Nat.le_of_ble_eq_true rfl)) hZ (hw _ (List.mem_of_getElem? (i := 18) rfl)) (hw _ (List.mem_of_getElem? (i := 2) rfl)) (by decide) (by decide)) q116a q116c (g := (mkF m 92 #[.val (.int p0), .val (.int p1), .val (.int p2), .val (.int (0 : Int32)), .val (.int (0 : Int32)), .val (.int (0 : Int32)), .val (.ref b102)] [(.ref b102)])) rfl (by rw [hml]; rfl) (Steps.refl _) (argsL := []) (rest := []) (lenOf own_pd0 rfl) rfl (by show 2 * 0 + _ ≤ _; exact Nat.le_of_eq rfl) (hb hby at_92) (fun _ _ => ⟨rfl, rfl, (by decide : 3 + 0 ≤ _), (by decide : 37 + 0 ≤ _)⟩)
        dsimp only [Pt.U, Pt.locs, Pt.cells, Pt.slots] at X116 l116 y116 z116 st116 hQ116
        subst l116 y116 z116
        obtain ⟨rfl, Nq116, Kq116, fa116, fb116, fc116, fd116, vv116⟩ := hQ116
        have N116 := Fr.app N112 Nq116
        have f117 := f113.keep Kq116
        have f118 := f114.keep Kq116 (ninS (Ne.symm nb109) (ninS (Ne.symm nc109) nin0))
        have Zn116 : n0 ≤ T116.heap.size := Nat.le_trans Zn112 Kq116.1
        have fa116 : Fld Z T116.heap b102 "com/example/mursyn/mursyn/synthesis/SuccessorLists" "first" "[I" (.ref bf109) := fa116
        have fb116 : Fld Z T116.heap b102 "com/example/mursyn/mursyn/synthesis/SuccessorLists" "targets" "[I" (.ref bt109) := fb116
        have fc116 : Fld Z T116.heap b102 "com/example/mursyn/mursyn/synthesis/SuccessorLists" "edgeCount" "I" (.int (0 : Int32)) := fc116
        have fd116 : Fld Z T116.heap b102 "com/example/mursyn/mursyn/synthesis/SuccessorLists" "listed" "I" (.int (2 : Int32)) := fd116
        have vv116 : Arv Z T116.heap bf109 kf109 .int (17 : Int32) [(.int (0 : Int32)), (.int (0 : Int32)), (.int (0 : Int32)), (.int (0 : Int32)), (.int (0 : Int32)), (.int (0 : Int32)), (.int (0 : Int32)), (.int (0 : Int32)), (.int (0 : Int32)), (.int (0 : Int32)), (.int (0 : Int32)), (.int (0 : Int32)), (.int (0 : Int32)), (.int (0 : Int32)), (.int (0 : Int32)), (.int (0 : Int32)), (.int (0 : Int32))] (.int (0 : Int32)) := vv116
        refine own_pre (fun t k => st116.trans k) ?_
        show own_Ends _ _ _ _ (T116.setTop (mkF m 95 #[.val (.int p0), .val (.int p1), .val (.int p2), .val (.int (0 : Int32)), .val (.int (0 : Int32)), .val (.int (0 : Int32)), .val (.ref b102)] []))
        refine own_pre (fun t k => XS.iload X116.here hx rfl (hb hby at_95) rfl k) ?_
        show own_Ends _ _ _ _ (T116.setTop (mkF m 97 #[.val (.int p0), .val (.int p1), .val (.int p2), .val (.int (0 : Int32)), .val (.int (0 : Int32)), .val (.int (0 : Int32)), .val (.ref b102)] [(.int (0 : Int32))]))
        refine own_pre (fun t k => XS.ifYes X116.here hx rfl (pc0 := 97) (pc' := 106) rfl (hb hby at_97) rfl ((if0 _ _).trans (teq ((by decide) : (0 : Int32) = (0 : Int32))).1) (by decide) (by decide) k) ?_
        show own_Ends _ _ _ _ (T116.setTop (mkF m 106 #[.val (.int p0), .val (.int p1), .val (.int p2), .val (.int (0 : Int32)), .val (.int (0 : Int32)), .val (.int (0 : Int32)), .val (.ref b102)] []))
        refine own_pre (fun t k => XS.aload X116.here hx rfl (hb hby at_106) rfl rfl k) ?_
        show own_Ends _ _ _ _ (T116.setTop (mkF m 108 #[.val (.int p0), .val (.int p1), .val (.int p2), .val (.int (0 : Int32)), .val (.int (0 : Int32)), .val (.int (0 : Int32)), .val (.ref b102)] [(.ref b102)]))
        refine own_pre (fun t k => XS.iconst X116.here hx rfl (hb hby at_108) k) ?_
        show own_Ends _ _ _ _ (T116.setTop (mkF m 109 #[.val (.int p0), .val (.int p1), .val (.int p2), .val (.int (0 : Int32)), .val (.int (0 : Int32)), .val (.int (0 : Int32)), .val (.ref b102)] [(.int (0 : Int32)), (.ref b102)]))
        obtain ⟨cq119, kq119, q119a, q119b, q119c⟩ := isOf hZ rfl f117
        obtain ⟨_, _, ⟨T119, L119, k119, n119⟩, -, X119, ⟨Lc119, hQ119, l119, y119, z119⟩, st119⟩ := X116.virtualBack hx (y := (⟨"com/example/mursyn/mursyn/synthesis/SuccessorLists", "count", "(I)I"⟩ : MethodName)) (z := (⟨"com/example/mursyn/mursyn/synthesis/SuccessorLists", "count", "(I)I"⟩ : MethodName)) hown (mvT hZ (hw _ (List.mem_of_getElem? (i := 23) rfl))) (mvT hZ (hw _ (List.mem_of_getElem? (i := 24) rfl))) (notFace_of_selects (args := #[]) (mvT hZ (hw _ (List.mem_of_getElem? (i := 26) rfl)))) (mvT hZ (hw _ (List.mem_of_getElem? (i := 26) rfl))) (mvT hZ (hw _ (List.mem_of_getElem? (i := 25) rfl))) (by decide) (backOf (W := 0) (rm4 l Z a0 hw [] b102 (0 : Int32) bf109 kf109 [(.int (0 : Int32)), (.int (0 : Int32)), (.int (0 : Int32)), (.int (0 : Int32)), (.int (0 : Int32)), (.int (0 : Int32)), (.int (0 : Int32)), (.int (0 : Int32)), (.int (0 : Int32)), (.int (0 : Int32)), (.int (0 : Int32)), (.int (0 : Int32)), (.int (0 : Int32)), (.int (0 : Int32)), (.int (0 : Int32)), (.int (0 : Int32)), (.int (0 : Int32))] (0 : Int32) (0 : Int32) T116.heap n0 Zn116 fa116 vv116 ⟨by decide, by decide⟩ rfl ⟨by decide, by decide⟩ rfl) hZ (hw _ (List.mem_of_getElem? (i := 27) rfl)) (hw _ (List.mem_of_getElem? (i := 2) rfl)) (by decide) (by decide)) q119a q119c (g := (mkF m 109 #[.val (.int p0), .val (.int p1), .val (.int p2), .val (.int (0 : Int32)), .val (.int (0 : Int32)), .val (.int (0 : Int32)), .val (.ref b102)] [(.int (0 : Int32)), (.ref b102)])) rfl (by rw [hml]; rfl) (Steps.refl _) (argsL := [(.int (0 : Int32))]) (rest := []) (lenOf own_pd1 rfl) rfl (by show 2 * 0 + _ ≤ _; exact Nat.le_of_eq rfl) (hb hby at_109) (fun _ _ => ⟨rfl, rfl, (by decide : 3 + 0 ≤ _), (by decide : 37 + 0 ≤ _)⟩)
        dsimp only [Pt.U, Pt.locs, Pt.cells, Pt.slots] at X119 l119 y119 z119 st119 hQ119
        subst l119 y119 z119
        obtain ⟨rfl, Nq119, e119⟩ := hQ119
        have N119 := Fr.app N116 Nq119
        refine own_pre (fun t k => st119.trans k) ?_
        show own_Ends _ _ _ _ (T119.setTop (mkF m 112 #[.val (.int p0), .val (.int p1), .val (.int p2), .val (.int (0 : Int32)), .val (.int (0 : Int32)), .val (.int (0 : Int32)), .val (.ref b102)] [(.int (0 : Int32))]))
        refine own_pre (fun t k => XS.iloadN X119.here hx rfl (hb hby at_112) rfl k) ?_
        show own_Ends _ _ _ _ (T119.setTop (mkF m 113 #[.val (.int p0), .val (.int p1), .val (.int p2), .val (.int (0 : Int32)), .val (.int (0 : Int32)), .val (.int (0 : Int32)), .val (.ref b102)] [(.int (0 : Int32)), (.int (0 : Int32))]))
        refine own_pre (fun t k => XS.icmpNo X119.here hx rfl (hb hby at_113) rfl (teq ((by decide) : (0 : Int32) = (0 : Int32))).2 k) ?_
        show own_Ends _ _ _ _ (T119.setTop (mkF m 116 #[.val (.int p0), .val (.int p1), .val (.int p2), .val (.int (0 : Int32)), .val (.int (0 : Int32)), .val (.int (0 : Int32)), .val (.ref b102)] []))
        refine own_pre (fun t k => XS.aload X119.here hx rfl (hb hby at_116) rfl rfl k) ?_
        show own_Ends _ _ _ _ (T119.setTop (mkF m 118 #[.val (.int p0), .val (.int p1), .val (.int p2), .val (.int (0 : Int32)), .val (.int (0 : Int32)), .val (.int (0 : Int32)), .val (.ref b102)] [(.ref b102)]))
        refine own_pre (fun t k => XS.iconst X119.here hx rfl (hb hby at_118) k) ?_
        show own_Ends _ _ _ _ (T119.setTop (mkF m 119 #[.val (.int p0), .val (.int p1), .val (.int p2), .val (.int (0 : Int32)), .val (.int (0 : Int32)), .val (.int (0 : Int32)), .val (.ref b102)] [(.int (1 : Int32)), (.ref b102)]))
        obtain ⟨cq120, kq120, q120a, q120b, q120c⟩ := isOf hZ e119 f117
        obtain ⟨_, _, ⟨T120, L120, k120, n120⟩, -, X120, ⟨Lc120, hQ120, l120, y120, z120⟩, st120⟩ := X119.virtualBack hx (y := (⟨"com/example/mursyn/mursyn/synthesis/SuccessorLists", "count", "(I)I"⟩ : MethodName)) (z := (⟨"com/example/mursyn/mursyn/synthesis/SuccessorLists", "count", "(I)I"⟩ : MethodName)) hown (mvT hZ (hw _ (List.mem_of_getElem? (i := 23) rfl))) (mvT hZ (hw _ (List.mem_of_getElem? (i := 24) rfl))) (notFace_of_selects (args := #[]) (mvT hZ (hw _ (List.mem_of_getElem? (i := 26) rfl)))) (mvT hZ (hw _ (List.mem_of_getElem? (i := 26) rfl))) (mvT hZ (hw _ (List.mem_of_getElem? (i := 25) rfl))) (by decide) (backOf (W := 0) (rm4 l Z a0 hw [] b102 (1 : Int32) bf109 kf109 [(.int (0 : Int32)), (.int (0 : Int32)), (.int (0 : Int32)), (.int (0 : Int32)), (.int (0 : Int32)), (.int (0 : Int32)), (.int (0 : Int32)), (.int (0 : Int32)), (.int (0 : Int32)), (.int (0 : Int32)), (.int (0 : Int32)), (.int (0 : Int32)), (.int (0 : Int32)), (.int (0 : Int32)), (.int (0 : Int32)), (.int (0 : Int32)), (.int (0 : Int32))] (0 : Int32) (0 : Int32) T116.heap n0 Zn116 fa116 vv116 ⟨by decide, by decide⟩ rfl ⟨by decide, by decide⟩ rfl) hZ (hw _ (List.mem_of_getElem? (i := 27) rfl)) (hw _ (List.mem_of_getElem? (i := 2) rfl)) (by decide) (by decide)) q120a q120c (g := (mkF m 119 #[.val (.int p0), .val (.int p1), .val (.int p2), .val (.int (0 : Int32)), .val (.int (0 : Int32)), .val (.int (0 : Int32)), .val (.ref b102)] [(.int (1 : Int32)), (.ref b102)])) rfl (by rw [hml]; rfl) (Steps.refl _) (argsL := [(.int (1 : Int32))]) (rest := []) (lenOf own_pd1 rfl) rfl (by show 2 * 0 + _ ≤ _; exact Nat.le_of_eq rfl) (hb hby at_119) (fun _ _ => ⟨rfl, e119, (by decide : 3 + 0 ≤ _), (by decide : 37 + 0 ≤ _)⟩)
        dsimp only [Pt.U, Pt.locs, Pt.cells, Pt.slots] at X120 l120 y120 z120 st120 hQ120
        subst l120 y120 z120
        obtain ⟨rfl, Nq120, e120⟩ := hQ120
        have N120 := Fr.app N119 Nq120
        refine own_pre (fun t k => st120.trans k) ?_
        show own_Ends _ _ _ _ (T120.setTop (mkF m 122 #[.val (.int p0), .val (.int p1), .val (.int p2), .val (.int (0 : Int32)), .val (.int (0 : Int32)), .val (.int (0 : Int32)), .val (.ref b102)] [(.int (0 : Int32))]))
        refine own_pre (fun t k => XS.iload X120.here hx rfl (hb hby at_122) rfl k) ?_
        show own_Ends _ _ _ _ (T120.setTop (mkF m 124 #[.val (.int p0), .val (.int p1), .val (.int p2), .val (.int (0 : Int32)), .val (.int (0 : Int32)), .val (.int (0 : Int32)), .val (.ref b102)] [(.int (0 : Int32)), (.int (0 : Int32))]))
        refine own_pre (fun t k => XS.icmpNo X120.here hx rfl (hb hby at_124) rfl (teq ((by decide) : (0 : Int32) = (0 : Int32))).2 k) ?_
        show own_Ends _ _ _ _ (T120.setTop (mkF m 127 #[.val (.int p0), .val (.int p1), .val (.int p2), .val (.int (0 : Int32)), .val (.int (0 : Int32)), .val (.int (0 : Int32)), .val (.ref b102)] []))
        refine own_pre (fun t k => XS.iconst X120.here hx rfl (hb hby at_127) k) ?_
        show own_Ends _ _ _ _ (T120.setTop (mkF m 128 #[.val (.int p0), .val (.int p1), .val (.int p2), .val (.int (0 : Int32)), .val (.int (0 : Int32)), .val (.int (0 : Int32)), .val (.ref b102)] [(.int (1 : Int32))]))
        refine own_pre (fun t k => XS.goto X120.here hx rfl (pc0 := 128) (pc' := 132) rfl (hb hby at_128) (by decide) (by decide) k) ?_
        show own_Ends _ _ _ _ (T120.setTop (mkF m 132 #[.val (.int p0), .val (.int p1), .val (.int p2), .val (.int (0 : Int32)), .val (.int (0 : Int32)), .val (.int (0 : Int32)), .val (.ref b102)] [(.int (1 : Int32))]))
        exact own_retN X120 hx (t := .boolean) Bd.returns (by simp) (hb hby at_132) hlk rfl e120 ⟨rfl, N120⟩ (by decide) (by decide)
      · subst hs115
        show own_Ends _ _ _ _ (T112.setTop (mkF m 66 #[.val (.int p0), .val (.int p1), .val (.int p2), .val (.int (0 : Int32)), .val (.int (1 : Int32)), .val (.int (0 : Int32)), .val (.ref b102)] []))
        refine own_pre (fun t k => XS.iload X112.here hx rfl (hb hby at_66) rfl k) ?_
        show own_Ends _ _ _ _ (T112.setTop (mkF m 68 #[.val (.int p0), .val (.int p1), .val (.int p2), .val (.int (0 : Int32)), .val (.int (1 : Int32)), .val (.int (0 : Int32)), .val (.ref b102)] [(.int (1 : Int32))]))
        refine own_pre (fun t k => XS.iconst X112.here hx rfl (hb hby at_68) k) ?_
        show own_Ends _ _ _ _ (T112.setTop (mkF m 69 #[.val (.int p0), .val (.int p1), .val (.int p2), .val (.int (0 : Int32)), .val (.int (1 : Int32)), .val (.int (0 : Int32)), .val (.ref b102)] [(.int (1 : Int32)), (.int (1 : Int32))]))
        refine own_pre (fun t k => XS.icmpNo X112.here hx rfl (hb hby at_69) rfl (flt ((by decide) : ¬ ((1 : Int32) < (1 : Int32)))).1 k) ?_
        show own_Ends _ _ _ _ (T112.setTop (mkF m 72 #[.val (.int p0), .val (.int p1), .val (.int p2), .val (.int (0 : Int32)), .val (.int (1 : Int32)), .val (.int (0 : Int32)), .val (.ref b102)] []))
        refine own_pre (fun t k => XS.aload X112.here hx rfl (hb hby at_72) rfl rfl k) ?_
        show own_Ends _ _ _ _ (T112.setTop (mkF m 74 #[.val (.int p0), .val (.int p1), .val (.int p2), .val (.int (0 : Int32)), .val (.int (1 : Int32)), .val (.int (0 : Int32)), .val (.ref b102)] [(.ref b102)]))
        refine own_pre (fun t k => XS.iloadN X112.here hx rfl (hb hby at_74) rfl k) ?_
        show own_Ends _ _ _ _ (T112.setTop (mkF m 75 #[.val (.int p0), .val (.int p1), .val (.int p2), .val (.int (0 : Int32)), .val (.int (1 : Int32)), .val (.int (0 : Int32)), .val (.ref b102)] [(.int p2), (.ref b102)]))
        obtain ⟨cq121, kq121, q121a, q121b, q121c⟩ := isOf hZ rfl f113
        obtain ⟨_, _, ⟨T121, L121, k121, n121⟩, -, X121, ⟨Lc121, hQ121, l121, y121, z121⟩, st121⟩ := X112.virtualBack hx (y := (⟨"com/example/mursyn/mursyn/synthesis/SuccessorLists", "add", "(I)V"⟩ : MethodName)) (z := (⟨"com/example/mursyn/mursyn/synthesis/SuccessorLists", "add", "(I)V"⟩ : MethodName)) hown (mvT hZ (hw _ (List.mem_of_getElem? (i := 28) rfl))) (mvT hZ (hw _ (List.mem_of_getElem? (i := 29) rfl))) (notFace_of_selects (args := #[]) (mvT hZ (hw _ (List.mem_of_getElem? (i := 31) rfl)))) (mvT hZ (hw _ (List.mem_of_getElem? (i := 31) rfl))) (mvT hZ (hw _ (List.mem_of_getElem? (i := 30) rfl))) (by decide) (backOf (W := 0) (rm2 l Z a0 hw [] b102 p2 bf109 bt109 (0 : Int32) (1 : Int32) kt109 [(.int (0 : Int32)), (.int (0 : Int32)), (.int (0 : Int32)), (.int (0 : Int32)), (.int (0 : Int32)), (.int (0 : Int32)), (.int (0 : Int32)), (.int (0 : Int32)), (.int (0 : Int32)), (.int (0 : Int32)), (.int (0 : Int32)), (.int (0 : Int32)), (.int (0 : Int32)), (.int (0 : Int32)), (.int (0 : Int32)), (.int (0 : Int32))]  T112.heap n0 Zn112 f113 L103 lb109 nb109 fa112 fb112 fc112 fd112 f114 (by decide) ⟨by decide, by decide⟩ (Nat.le_of_ble_eq_true rfl)) hZ (hw _ (List.mem_of_getElem? (i := 32) rfl)) (hw _ (List.mem_of_getElem? (i := 2) rfl)) (by decide) (by decide)) q121a q121c (g := (mkF m 75 #[.val (.int p0), .val (.int p1), .val (.int p2), .val (.int (0 : Int32)), .val (.int (1 : Int32)), .val (.int (0 : Int32)), .val (.ref b102)] [(.int p2), (.ref b102)])) rfl (by rw [hml]; rfl) (Steps.refl _) (argsL := [(.int p2)]) (rest := []) (lenOf own_pd2 rfl) rfl (by show 2 * 0 + _ ≤ _; exact Nat.le_of_eq rfl) (hb hby at_75) (fun _ _ => ⟨rfl, rfl, (by decide : 3 + 0 ≤ _), (by decide : 37 + 0 ≤ _)⟩)
        dsimp only [Pt.U, Pt.locs, Pt.cells, Pt.slots] at X121 l121 y121 z121 st121 hQ121
        subst l121 y121 z121
        obtain ⟨rfl, Nq121, Kq121, fa121, fb121, fc121, fd121, vv121⟩ := hQ121
        have N121 := Fr.app N112 Nq121
        have f122 := f113.keep Kq121
        have f123 := vv112.keep Kq121 (ninS (Ne.symm na109) (ninS nc109 nin0))
        have Zn121 : n0 ≤ T121.heap.size := Nat.le_trans Zn112 Kq121.1
        have fa121 : Fld Z T121.heap b102 "com/example/mursyn/mursyn/synthesis/SuccessorLists" "first" "[I" (.ref bf109) := fa121
        have fb121 : Fld Z T121.heap b102 "com/example/mursyn/mursyn/synthesis/SuccessorLists" "targets" "[I" (.ref bt109) := fb121
        have fc121 : Fld Z T121.heap b102 "com/example/mursyn/mursyn/synthesis/SuccessorLists" "edgeCount" "I" (.int (1 : Int32)) := fc121
        have fd121 : Fld Z T121.heap b102 "com/example/mursyn/mursyn/synthesis/SuccessorLists" "listed" "I" (.int (1 : Int32)) := fd121
        have vv121 : Arv Z T121.heap bt109 kt109 .int (16 : Int32) [(.int p2), (.int (0 : Int32)), (.int (0 : Int32)), (.int (0 : Int32)), (.int (0 : Int32)), (.int (0 : Int32)), (.int (0 : Int32)), (.int (0 : Int32)), (.int (0 : Int32)), (.int (0 : Int32)), (.int (0 : Int32)), (.int (0 : Int32)), (.int (0 : Int32)), (.int (0 : Int32)), (.int (0 : Int32)), (.int (0 : Int32))] (.int (0 : Int32)) := vv121
        refine own_pre (fun t k => st121.trans k) ?_
        show own_Ends _ _ _ _ (T121.setTop (mkF m 78 #[.val (.int p0), .val (.int p1), .val (.int p2), .val (.int (0 : Int32)), .val (.int (1 : Int32)), .val (.int (0 : Int32)), .val (.ref b102)] []))
        refine own_pre (fun t k => XS.iload X121.here hx rfl (hb hby at_78) rfl k) ?_
        show own_Ends _ _ _ _ (T121.setTop (mkF m 80 #[.val (.int p0), .val (.int p1), .val (.int p2), .val (.int (0 : Int32)), .val (.int (1 : Int32)), .val (.int (0 : Int32)), .val (.ref b102)] [(.int (1 : Int32))]))
        refine own_pre (fun t k => XS.iconst X121.here hx rfl (hb hby at_80) k) ?_
        show own_Ends _ _ _ _ (T121.setTop (mkF m 81 #[.val (.int p0), .val (.int p1), .val (.int p2), .val (.int (0 : Int32)), .val (.int (1 : Int32)), .val (.int (0 : Int32)), .val (.ref b102)] [(.int (2 : Int32)), (.int (1 : Int32))]))
        refine own_pre (fun t k => XS.icmpYes X121.here hx rfl (pc0 := 81) (pc' := 90) rfl (hb hby at_81) rfl (tlt ((by decide) : (1 : Int32) < (2 : Int32))).1 (by decide) (by decide) k) ?_
        show own_Ends _ _ _ _ (T121.setTop (mkF m 90 #[.val (.int p0), .val (.int p1), .val (.int p2), .val (.int (0 : Int32)), .val (.int (1 : Int32)), .val (.int (0 : Int32)), .val (.ref b102)] []))
        refine own_pre (fun t k => XS.aload X121.here hx rfl (hb hby at_90) rfl rfl k) ?_
        show own_Ends _ _ _ _ (T121.setTop (mkF m 92 #[.val (.int p0), .val (.int p1), .val (.int p2), .val (.int (0 : Int32)), .val (.int (1 : Int32)), .val (.int (0 : Int32)), .val (.ref b102)] [(.ref b102)]))
        obtain ⟨cq124, kq124, q124a, q124b, q124c⟩ := isOf hZ rfl f122
        obtain ⟨_, _, ⟨T124, L124, k124, n124⟩, -, X124, ⟨Lc124, hQ124, l124, y124, z124⟩, st124⟩ := X121.virtualBack hx (y := (⟨"com/example/mursyn/mursyn/synthesis/SuccessorLists", "close", "()V"⟩ : MethodName)) (z := (⟨"com/example/mursyn/mursyn/synthesis/SuccessorLists", "close", "()V"⟩ : MethodName)) hown (mvT hZ (hw _ (List.mem_of_getElem? (i := 14) rfl))) (mvT hZ (hw _ (List.mem_of_getElem? (i := 15) rfl))) (notFace_of_selects (args := #[]) (mvT hZ (hw _ (List.mem_of_getElem? (i := 17) rfl)))) (mvT hZ (hw _ (List.mem_of_getElem? (i := 17) rfl))) (mvT hZ (hw _ (List.mem_of_getElem? (i := 16) rfl))) (by decide) (backOf (W := 0) (rm3 l Z a0 hw [] b102 bf109 bt109 (1 : Int32) (1 : Int32) kf109 [(.int (0 : Int32)), (.int (0 : Int32)), (.int (0 : Int32)), (.int (0 : Int32)), (.int (0 : Int32)), (.int (0 : Int32)), (.int (0 : Int32)), (.int (0 : Int32)), (.int (0 : Int32)), (.int (0 : Int32)), (.int (0 : Int32)), (.int (0 : Int32)), (.int (0 : Int32)), (.int (0 : Int32)), (.int (0 : Int32)), (.int (0 : Int32)), (.int (0 : Int32))]  T121.heap n0 Zn121 f122 L103 la109 na109 fa121 fb121 fc121 fd121 f123 (by decide) ⟨by decide, by decide⟩ (Nat.le_of_ble_eq_true rfl)) hZ (hw _ (List.mem_of_getElem? (i := 18) rfl)) (hw _ (List.mem_of_getElem? (i := 2) rfl)) (by decide) (by decide)) q124a q124c (g := (mkF m 92 #[.val (.int p0), .val (.int p1), .val (.int p2), .val (.int (0 : Int32)), .val (.int (1 : Int32)), .val (.int (0 : Int32)), .val (.ref b102)] [(.ref b102)])) rfl (by rw [hml]; rfl) (Steps.refl _) (argsL := []) (rest := []) (lenOf own_pd0 rfl) rfl (by show 2 * 0 + _ ≤ _; exact Nat.le_of_eq rfl) (hb hby at_92) (fun _ _ => ⟨rfl, rfl, (by decide : 3 + 0 ≤ _), (by decide : 37 + 0 ≤ _)⟩)
        dsimp only [Pt.U, Pt.locs, Pt.cells, Pt.slots] at X124 l124 y124 z124 st124 hQ124
        subst l124 y124 z124
        obtain ⟨rfl, Nq124, Kq124, fa124, fb124, fc124, fd124, vv124⟩ := hQ124
        have N124 := Fr.app N121 Nq124
        have f125 := f122.keep Kq124
        have f126 := vv121.keep Kq124 (ninS (Ne.symm nb109) (ninS (Ne.symm nc109) nin0))
        have Zn124 : n0 ≤ T124.heap.size := Nat.le_trans Zn121 Kq124.1
        have fa124 : Fld Z T124.heap b102 "com/example/mursyn/mursyn/synthesis/SuccessorLists" "first" "[I" (.ref bf109) := fa124
        have fb124 : Fld Z T124.heap b102 "com/example/mursyn/mursyn/synthesis/SuccessorLists" "targets" "[I" (.ref bt109) := fb124
        have fc124 : Fld Z T124.heap b102 "com/example/mursyn/mursyn/synthesis/SuccessorLists" "edgeCount" "I" (.int (1 : Int32)) := fc124
        have fd124 : Fld Z T124.heap b102 "com/example/mursyn/mursyn/synthesis/SuccessorLists" "listed" "I" (.int (2 : Int32)) := fd124
        have vv124 : Arv Z T124.heap bf109 kf109 .int (17 : Int32) [(.int (0 : Int32)), (.int (0 : Int32)), (.int (1 : Int32)), (.int (0 : Int32)), (.int (0 : Int32)), (.int (0 : Int32)), (.int (0 : Int32)), (.int (0 : Int32)), (.int (0 : Int32)), (.int (0 : Int32)), (.int (0 : Int32)), (.int (0 : Int32)), (.int (0 : Int32)), (.int (0 : Int32)), (.int (0 : Int32)), (.int (0 : Int32)), (.int (0 : Int32))] (.int (0 : Int32)) := vv124
        refine own_pre (fun t k => st124.trans k) ?_
        show own_Ends _ _ _ _ (T124.setTop (mkF m 95 #[.val (.int p0), .val (.int p1), .val (.int p2), .val (.int (0 : Int32)), .val (.int (1 : Int32)), .val (.int (0 : Int32)), .val (.ref b102)] []))
        refine own_pre (fun t k => XS.iload X124.here hx rfl (hb hby at_95) rfl k) ?_
        show own_Ends _ _ _ _ (T124.setTop (mkF m 97 #[.val (.int p0), .val (.int p1), .val (.int p2), .val (.int (0 : Int32)), .val (.int (1 : Int32)), .val (.int (0 : Int32)), .val (.ref b102)] [(.int (0 : Int32))]))
        refine own_pre (fun t k => XS.ifYes X124.here hx rfl (pc0 := 97) (pc' := 106) rfl (hb hby at_97) rfl ((if0 _ _).trans (teq ((by decide) : (0 : Int32) = (0 : Int32))).1) (by decide) (by decide) k) ?_
        show own_Ends _ _ _ _ (T124.setTop (mkF m 106 #[.val (.int p0), .val (.int p1), .val (.int p2), .val (.int (0 : Int32)), .val (.int (1 : Int32)), .val (.int (0 : Int32)), .val (.ref b102)] []))
        refine own_pre (fun t k => XS.aload X124.here hx rfl (hb hby at_106) rfl rfl k) ?_
        show own_Ends _ _ _ _ (T124.setTop (mkF m 108 #[.val (.int p0), .val (.int p1), .val (.int p2), .val (.int (0 : Int32)), .val (.int (1 : Int32)), .val (.int (0 : Int32)), .val (.ref b102)] [(.ref b102)]))
        refine own_pre (fun t k => XS.iconst X124.here hx rfl (hb hby at_108) k) ?_
        show own_Ends _ _ _ _ (T124.setTop (mkF m 109 #[.val (.int p0), .val (.int p1), .val (.int p2), .val (.int (0 : Int32)), .val (.int (1 : Int32)), .val (.int (0 : Int32)), .val (.ref b102)] [(.int (0 : Int32)), (.ref b102)]))
        obtain ⟨cq127, kq127, q127a, q127b, q127c⟩ := isOf hZ rfl f125
        obtain ⟨_, _, ⟨T127, L127, k127, n127⟩, -, X127, ⟨Lc127, hQ127, l127, y127, z127⟩, st127⟩ := X124.virtualBack hx (y := (⟨"com/example/mursyn/mursyn/synthesis/SuccessorLists", "count", "(I)I"⟩ : MethodName)) (z := (⟨"com/example/mursyn/mursyn/synthesis/SuccessorLists", "count", "(I)I"⟩ : MethodName)) hown (mvT hZ (hw _ (List.mem_of_getElem? (i := 23) rfl))) (mvT hZ (hw _ (List.mem_of_getElem? (i := 24) rfl))) (notFace_of_selects (args := #[]) (mvT hZ (hw _ (List.mem_of_getElem? (i := 26) rfl)))) (mvT hZ (hw _ (List.mem_of_getElem? (i := 26) rfl))) (mvT hZ (hw _ (List.mem_of_getElem? (i := 25) rfl))) (by decide) (backOf (W := 0) (rm4 l Z a0 hw [] b102 (0 : Int32) bf109 kf109 [(.int (0 : Int32)), (.int (0 : Int32)), (.int (1 : Int32)), (.int (0 : Int32)), (.int (0 : Int32)), (.int (0 : Int32)), (.int (0 : Int32)), (.int (0 : Int32)), (.int (0 : Int32)), (.int (0 : Int32)), (.int (0 : Int32)), (.int (0 : Int32)), (.int (0 : Int32)), (.int (0 : Int32)), (.int (0 : Int32)), (.int (0 : Int32)), (.int (0 : Int32))] (0 : Int32) (0 : Int32) T124.heap n0 Zn124 fa124 vv124 ⟨by decide, by decide⟩ rfl ⟨by decide, by decide⟩ rfl) hZ (hw _ (List.mem_of_getElem? (i := 27) rfl)) (hw _ (List.mem_of_getElem? (i := 2) rfl)) (by decide) (by decide)) q127a q127c (g := (mkF m 109 #[.val (.int p0), .val (.int p1), .val (.int p2), .val (.int (0 : Int32)), .val (.int (1 : Int32)), .val (.int (0 : Int32)), .val (.ref b102)] [(.int (0 : Int32)), (.ref b102)])) rfl (by rw [hml]; rfl) (Steps.refl _) (argsL := [(.int (0 : Int32))]) (rest := []) (lenOf own_pd1 rfl) rfl (by show 2 * 0 + _ ≤ _; exact Nat.le_of_eq rfl) (hb hby at_109) (fun _ _ => ⟨rfl, rfl, (by decide : 3 + 0 ≤ _), (by decide : 37 + 0 ≤ _)⟩)
        dsimp only [Pt.U, Pt.locs, Pt.cells, Pt.slots] at X127 l127 y127 z127 st127 hQ127
        subst l127 y127 z127
        obtain ⟨rfl, Nq127, e127⟩ := hQ127
        have N127 := Fr.app N124 Nq127
        refine own_pre (fun t k => st127.trans k) ?_
        show own_Ends _ _ _ _ (T127.setTop (mkF m 112 #[.val (.int p0), .val (.int p1), .val (.int p2), .val (.int (0 : Int32)), .val (.int (1 : Int32)), .val (.int (0 : Int32)), .val (.ref b102)] [(.int (0 : Int32))]))
        refine own_pre (fun t k => XS.iloadN X127.here hx rfl (hb hby at_112) rfl k) ?_
        show own_Ends _ _ _ _ (T127.setTop (mkF m 113 #[.val (.int p0), .val (.int p1), .val (.int p2), .val (.int (0 : Int32)), .val (.int (1 : Int32)), .val (.int (0 : Int32)), .val (.ref b102)] [(.int (0 : Int32)), (.int (0 : Int32))]))
        refine own_pre (fun t k => XS.icmpNo X127.here hx rfl (hb hby at_113) rfl (teq ((by decide) : (0 : Int32) = (0 : Int32))).2 k) ?_
        show own_Ends _ _ _ _ (T127.setTop (mkF m 116 #[.val (.int p0), .val (.int p1), .val (.int p2), .val (.int (0 : Int32)), .val (.int (1 : Int32)), .val (.int (0 : Int32)), .val (.ref b102)] []))
        refine own_pre (fun t k => XS.aload X127.here hx rfl (hb hby at_116) rfl rfl k) ?_
        show own_Ends _ _ _ _ (T127.setTop (mkF m 118 #[.val (.int p0), .val (.int p1), .val (.int p2), .val (.int (0 : Int32)), .val (.int (1 : Int32)), .val (.int (0 : Int32)), .val (.ref b102)] [(.ref b102)]))
        refine own_pre (fun t k => XS.iconst X127.here hx rfl (hb hby at_118) k) ?_
        show own_Ends _ _ _ _ (T127.setTop (mkF m 119 #[.val (.int p0), .val (.int p1), .val (.int p2), .val (.int (0 : Int32)), .val (.int (1 : Int32)), .val (.int (0 : Int32)), .val (.ref b102)] [(.int (1 : Int32)), (.ref b102)]))
        obtain ⟨cq128, kq128, q128a, q128b, q128c⟩ := isOf hZ e127 f125
        obtain ⟨_, _, ⟨T128, L128, k128, n128⟩, -, X128, ⟨Lc128, hQ128, l128, y128, z128⟩, st128⟩ := X127.virtualBack hx (y := (⟨"com/example/mursyn/mursyn/synthesis/SuccessorLists", "count", "(I)I"⟩ : MethodName)) (z := (⟨"com/example/mursyn/mursyn/synthesis/SuccessorLists", "count", "(I)I"⟩ : MethodName)) hown (mvT hZ (hw _ (List.mem_of_getElem? (i := 23) rfl))) (mvT hZ (hw _ (List.mem_of_getElem? (i := 24) rfl))) (notFace_of_selects (args := #[]) (mvT hZ (hw _ (List.mem_of_getElem? (i := 26) rfl)))) (mvT hZ (hw _ (List.mem_of_getElem? (i := 26) rfl))) (mvT hZ (hw _ (List.mem_of_getElem? (i := 25) rfl))) (by decide) (backOf (W := 0) (rm4 l Z a0 hw [] b102 (1 : Int32) bf109 kf109 [(.int (0 : Int32)), (.int (0 : Int32)), (.int (1 : Int32)), (.int (0 : Int32)), (.int (0 : Int32)), (.int (0 : Int32)), (.int (0 : Int32)), (.int (0 : Int32)), (.int (0 : Int32)), (.int (0 : Int32)), (.int (0 : Int32)), (.int (0 : Int32)), (.int (0 : Int32)), (.int (0 : Int32)), (.int (0 : Int32)), (.int (0 : Int32)), (.int (0 : Int32))] (1 : Int32) (0 : Int32) T124.heap n0 Zn124 fa124 vv124 ⟨by decide, by decide⟩ rfl ⟨by decide, by decide⟩ rfl) hZ (hw _ (List.mem_of_getElem? (i := 27) rfl)) (hw _ (List.mem_of_getElem? (i := 2) rfl)) (by decide) (by decide)) q128a q128c (g := (mkF m 119 #[.val (.int p0), .val (.int p1), .val (.int p2), .val (.int (0 : Int32)), .val (.int (1 : Int32)), .val (.int (0 : Int32)), .val (.ref b102)] [(.int (1 : Int32)), (.ref b102)])) rfl (by rw [hml]; rfl) (Steps.refl _) (argsL := [(.int (1 : Int32))]) (rest := []) (lenOf own_pd1 rfl) rfl (by show 2 * 0 + _ ≤ _; exact Nat.le_of_eq rfl) (hb hby at_119) (fun _ _ => ⟨rfl, e127, (by decide : 3 + 0 ≤ _), (by decide : 37 + 0 ≤ _)⟩)
        dsimp only [Pt.U, Pt.locs, Pt.cells, Pt.slots] at X128 l128 y128 z128 st128 hQ128
        subst l128 y128 z128
        obtain ⟨rfl, Nq128, e128⟩ := hQ128
        have N128 := Fr.app N127 Nq128
        refine own_pre (fun t k => st128.trans k) ?_
        show own_Ends _ _ _ _ (T128.setTop (mkF m 122 #[.val (.int p0), .val (.int p1), .val (.int p2), .val (.int (0 : Int32)), .val (.int (1 : Int32)), .val (.int (0 : Int32)), .val (.ref b102)] [(.int (1 : Int32))]))
        refine own_pre (fun t k => XS.iload X128.here hx rfl (hb hby at_122) rfl k) ?_
        show own_Ends _ _ _ _ (T128.setTop (mkF m 124 #[.val (.int p0), .val (.int p1), .val (.int p2), .val (.int (0 : Int32)), .val (.int (1 : Int32)), .val (.int (0 : Int32)), .val (.ref b102)] [(.int (1 : Int32)), (.int (1 : Int32))]))
        refine own_pre (fun t k => XS.icmpNo X128.here hx rfl (hb hby at_124) rfl (teq ((by decide) : (1 : Int32) = (1 : Int32))).2 k) ?_
        show own_Ends _ _ _ _ (T128.setTop (mkF m 127 #[.val (.int p0), .val (.int p1), .val (.int p2), .val (.int (0 : Int32)), .val (.int (1 : Int32)), .val (.int (0 : Int32)), .val (.ref b102)] []))
        refine own_pre (fun t k => XS.iconst X128.here hx rfl (hb hby at_127) k) ?_
        show own_Ends _ _ _ _ (T128.setTop (mkF m 128 #[.val (.int p0), .val (.int p1), .val (.int p2), .val (.int (0 : Int32)), .val (.int (1 : Int32)), .val (.int (0 : Int32)), .val (.ref b102)] [(.int (1 : Int32))]))
        refine own_pre (fun t k => XS.goto X128.here hx rfl (pc0 := 128) (pc' := 132) rfl (hb hby at_128) (by decide) (by decide) k) ?_
        show own_Ends _ _ _ _ (T128.setTop (mkF m 132 #[.val (.int p0), .val (.int p1), .val (.int p2), .val (.int (0 : Int32)), .val (.int (1 : Int32)), .val (.int (0 : Int32)), .val (.ref b102)] [(.int (1 : Int32))]))
        exact own_retN X128 hx (t := .boolean) Bd.returns (by simp) (hb hby at_132) hlk rfl e128 ⟨rfl, N128⟩ (by decide) (by decide)
      · subst hs115
        show own_Ends _ _ _ _ (T112.setTop (mkF m 66 #[.val (.int p0), .val (.int p1), .val (.int p2), .val (.int (0 : Int32)), .val (.int (2 : Int32)), .val (.int (0 : Int32)), .val (.ref b102)] []))
        refine own_pre (fun t k => XS.iload X112.here hx rfl (hb hby at_66) rfl k) ?_
        show own_Ends _ _ _ _ (T112.setTop (mkF m 68 #[.val (.int p0), .val (.int p1), .val (.int p2), .val (.int (0 : Int32)), .val (.int (2 : Int32)), .val (.int (0 : Int32)), .val (.ref b102)] [(.int (2 : Int32))]))
        refine own_pre (fun t k => XS.iconst X112.here hx rfl (hb hby at_68) k) ?_
        show own_Ends _ _ _ _ (T112.setTop (mkF m 69 #[.val (.int p0), .val (.int p1), .val (.int p2), .val (.int (0 : Int32)), .val (.int (2 : Int32)), .val (.int (0 : Int32)), .val (.ref b102)] [(.int (1 : Int32)), (.int (2 : Int32))]))
        refine own_pre (fun t k => XS.icmpNo X112.here hx rfl (hb hby at_69) rfl (flt ((by decide) : ¬ ((2 : Int32) < (1 : Int32)))).1 k) ?_
        show own_Ends _ _ _ _ (T112.setTop (mkF m 72 #[.val (.int p0), .val (.int p1), .val (.int p2), .val (.int (0 : Int32)), .val (.int (2 : Int32)), .val (.int (0 : Int32)), .val (.ref b102)] []))
        refine own_pre (fun t k => XS.aload X112.here hx rfl (hb hby at_72) rfl rfl k) ?_
        show own_Ends _ _ _ _ (T112.setTop (mkF m 74 #[.val (.int p0), .val (.int p1), .val (.int p2), .val (.int (0 : Int32)), .val (.int (2 : Int32)), .val (.int (0 : Int32)), .val (.ref b102)] [(.ref b102)]))
        refine own_pre (fun t k => XS.iloadN X112.here hx rfl (hb hby at_74) rfl k) ?_
        show own_Ends _ _ _ _ (T112.setTop (mkF m 75 #[.val (.int p0), .val (.int p1), .val (.int p2), .val (.int (0 : Int32)), .val (.int (2 : Int32)), .val (.int (0 : Int32)), .val (.ref b102)] [(.int p2), (.ref b102)]))
        obtain ⟨cq129, kq129, q129a, q129b, q129c⟩ := isOf hZ rfl f113
        obtain ⟨_, _, ⟨T129, L129, k129, n129⟩, -, X129, ⟨Lc129, hQ129, l129, y129, z129⟩, st129⟩ := X112.virtualBack hx (y := (⟨"com/example/mursyn/mursyn/synthesis/SuccessorLists", "add", "(I)V"⟩ : MethodName)) (z := (⟨"com/example/mursyn/mursyn/synthesis/SuccessorLists", "add", "(I)V"⟩ : MethodName)) hown (mvT hZ (hw _ (List.mem_of_getElem? (i := 28) rfl))) (mvT hZ (hw _ (List.mem_of_getElem? (i := 29) rfl))) (notFace_of_selects (args := #[]) (mvT hZ (hw _ (List.mem_of_getElem? (i := 31) rfl)))) (mvT hZ (hw _ (List.mem_of_getElem? (i := 31) rfl))) (mvT hZ (hw _ (List.mem_of_getElem? (i := 30) rfl))) (by decide) (backOf (W := 0) (rm2 l Z a0 hw [] b102 p2 bf109 bt109 (0 : Int32) (1 : Int32) kt109 [(.int (0 : Int32)), (.int (0 : Int32)), (.int (0 : Int32)), (.int (0 : Int32)), (.int (0 : Int32)), (.int (0 : Int32)), (.int (0 : Int32)), (.int (0 : Int32)), (.int (0 : Int32)), (.int (0 : Int32)), (.int (0 : Int32)), (.int (0 : Int32)), (.int (0 : Int32)), (.int (0 : Int32)), (.int (0 : Int32)), (.int (0 : Int32))]  T112.heap n0 Zn112 f113 L103 lb109 nb109 fa112 fb112 fc112 fd112 f114 (by decide) ⟨by decide, by decide⟩ (Nat.le_of_ble_eq_true rfl)) hZ (hw _ (List.mem_of_getElem? (i := 32) rfl)) (hw _ (List.mem_of_getElem? (i := 2) rfl)) (by decide) (by decide)) q129a q129c (g := (mkF m 75 #[.val (.int p0), .val (.int p1), .val (.int p2), .val (.int (0 : Int32)), .val (.int (2 : Int32)), .val (.int (0 : Int32)), .val (.ref b102)] [(.int p2), (.ref b102)])) rfl (by rw [hml]; rfl) (Steps.refl _) (argsL := [(.int p2)]) (rest := []) (lenOf own_pd2 rfl) rfl (by show 2 * 0 + _ ≤ _; exact Nat.le_of_eq rfl) (hb hby at_75) (fun _ _ => ⟨rfl, rfl, (by decide : 3 + 0 ≤ _), (by decide : 37 + 0 ≤ _)⟩)
        dsimp only [Pt.U, Pt.locs, Pt.cells, Pt.slots] at X129 l129 y129 z129 st129 hQ129
        subst l129 y129 z129
        obtain ⟨rfl, Nq129, Kq129, fa129, fb129, fc129, fd129, vv129⟩ := hQ129
        have N129 := Fr.app N112 Nq129
        have f130 := f113.keep Kq129
        have f131 := vv112.keep Kq129 (ninS (Ne.symm na109) (ninS nc109 nin0))
        have Zn129 : n0 ≤ T129.heap.size := Nat.le_trans Zn112 Kq129.1
        have fa129 : Fld Z T129.heap b102 "com/example/mursyn/mursyn/synthesis/SuccessorLists" "first" "[I" (.ref bf109) := fa129
        have fb129 : Fld Z T129.heap b102 "com/example/mursyn/mursyn/synthesis/SuccessorLists" "targets" "[I" (.ref bt109) := fb129
        have fc129 : Fld Z T129.heap b102 "com/example/mursyn/mursyn/synthesis/SuccessorLists" "edgeCount" "I" (.int (1 : Int32)) := fc129
        have fd129 : Fld Z T129.heap b102 "com/example/mursyn/mursyn/synthesis/SuccessorLists" "listed" "I" (.int (1 : Int32)) := fd129
        have vv129 : Arv Z T129.heap bt109 kt109 .int (16 : Int32) [(.int p2), (.int (0 : Int32)), (.int (0 : Int32)), (.int (0 : Int32)), (.int (0 : Int32)), (.int (0 : Int32)), (.int (0 : Int32)), (.int (0 : Int32)), (.int (0 : Int32)), (.int (0 : Int32)), (.int (0 : Int32)), (.int (0 : Int32)), (.int (0 : Int32)), (.int (0 : Int32)), (.int (0 : Int32)), (.int (0 : Int32))] (.int (0 : Int32)) := vv129
        refine own_pre (fun t k => st129.trans k) ?_
        show own_Ends _ _ _ _ (T129.setTop (mkF m 78 #[.val (.int p0), .val (.int p1), .val (.int p2), .val (.int (0 : Int32)), .val (.int (2 : Int32)), .val (.int (0 : Int32)), .val (.ref b102)] []))
        refine own_pre (fun t k => XS.iload X129.here hx rfl (hb hby at_78) rfl k) ?_
        show own_Ends _ _ _ _ (T129.setTop (mkF m 80 #[.val (.int p0), .val (.int p1), .val (.int p2), .val (.int (0 : Int32)), .val (.int (2 : Int32)), .val (.int (0 : Int32)), .val (.ref b102)] [(.int (2 : Int32))]))
        refine own_pre (fun t k => XS.iconst X129.here hx rfl (hb hby at_80) k) ?_
        show own_Ends _ _ _ _ (T129.setTop (mkF m 81 #[.val (.int p0), .val (.int p1), .val (.int p2), .val (.int (0 : Int32)), .val (.int (2 : Int32)), .val (.int (0 : Int32)), .val (.ref b102)] [(.int (2 : Int32)), (.int (2 : Int32))]))
        refine own_pre (fun t k => XS.icmpNo X129.here hx rfl (hb hby at_81) rfl (flt ((by decide) : ¬ ((2 : Int32) < (2 : Int32)))).1 k) ?_
        show own_Ends _ _ _ _ (T129.setTop (mkF m 84 #[.val (.int p0), .val (.int p1), .val (.int p2), .val (.int (0 : Int32)), .val (.int (2 : Int32)), .val (.int (0 : Int32)), .val (.ref b102)] []))
        refine own_pre (fun t k => XS.aload X129.here hx rfl (hb hby at_84) rfl rfl k) ?_
        show own_Ends _ _ _ _ (T129.setTop (mkF m 86 #[.val (.int p0), .val (.int p1), .val (.int p2), .val (.int (0 : Int32)), .val (.int (2 : Int32)), .val (.int (0 : Int32)), .val (.ref b102)] [(.ref b102)]))
        refine own_pre (fun t k => XS.iloadN X129.here hx rfl (hb hby at_86) rfl k) ?_
        show own_Ends _ _ _ _ (T129.setTop (mkF m 87 #[.val (.int p0), .val (.int p1), .val (.int p2), .val (.int (0 : Int32)), .val (.int (2 : Int32)), .val (.int (0 : Int32)), .val (.ref b102)] [(.int p1), (.ref b102)]))
        obtain ⟨cq132, kq132, q132a, q132b, q132c⟩ := isOf hZ rfl f130
        obtain ⟨_, _, ⟨T132, L132, k132, n132⟩, -, X132, ⟨Lc132, hQ132, l132, y132, z132⟩, st132⟩ := X129.virtualBack hx (y := (⟨"com/example/mursyn/mursyn/synthesis/SuccessorLists", "add", "(I)V"⟩ : MethodName)) (z := (⟨"com/example/mursyn/mursyn/synthesis/SuccessorLists", "add", "(I)V"⟩ : MethodName)) hown (mvT hZ (hw _ (List.mem_of_getElem? (i := 28) rfl))) (mvT hZ (hw _ (List.mem_of_getElem? (i := 29) rfl))) (notFace_of_selects (args := #[]) (mvT hZ (hw _ (List.mem_of_getElem? (i := 31) rfl)))) (mvT hZ (hw _ (List.mem_of_getElem? (i := 31) rfl))) (mvT hZ (hw _ (List.mem_of_getElem? (i := 30) rfl))) (by decide) (backOf (W := 0) (rm2 l Z a0 hw [] b102 p1 bf109 bt109 (1 : Int32) (1 : Int32) kt109 [(.int p2), (.int (0 : Int32)), (.int (0 : Int32)), (.int (0 : Int32)), (.int (0 : Int32)), (.int (0 : Int32)), (.int (0 : Int32)), (.int (0 : Int32)), (.int (0 : Int32)), (.int (0 : Int32)), (.int (0 : Int32)), (.int (0 : Int32)), (.int (0 : Int32)), (.int (0 : Int32)), (.int (0 : Int32)), (.int (0 : Int32))]  T129.heap n0 Zn129 f130 L103 lb109 nb109 fa129 fb129 fc129 fd129 vv129 (by decide) ⟨by decide, by decide⟩ (Nat.le_of_ble_eq_true rfl)) hZ (hw _ (List.mem_of_getElem? (i := 32) rfl)) (hw _ (List.mem_of_getElem? (i := 2) rfl)) (by decide) (by decide)) q132a q132c (g := (mkF m 87 #[.val (.int p0), .val (.int p1), .val (.int p2), .val (.int (0 : Int32)), .val (.int (2 : Int32)), .val (.int (0 : Int32)), .val (.ref b102)] [(.int p1), (.ref b102)])) rfl (by rw [hml]; rfl) (Steps.refl _) (argsL := [(.int p1)]) (rest := []) (lenOf own_pd2 rfl) rfl (by show 2 * 0 + _ ≤ _; exact Nat.le_of_eq rfl) (hb hby at_87) (fun _ _ => ⟨rfl, rfl, (by decide : 3 + 0 ≤ _), (by decide : 37 + 0 ≤ _)⟩)
        dsimp only [Pt.U, Pt.locs, Pt.cells, Pt.slots] at X132 l132 y132 z132 st132 hQ132
        subst l132 y132 z132
        obtain ⟨rfl, Nq132, Kq132, fa132, fb132, fc132, fd132, vv132⟩ := hQ132
        have N132 := Fr.app N129 Nq132
        have f133 := f130.keep Kq132
        have f134 := f131.keep Kq132 (ninS (Ne.symm na109) (ninS nc109 nin0))
        have Zn132 : n0 ≤ T132.heap.size := Nat.le_trans Zn129 Kq132.1
        have fa132 : Fld Z T132.heap b102 "com/example/mursyn/mursyn/synthesis/SuccessorLists" "first" "[I" (.ref bf109) := fa132
        have fb132 : Fld Z T132.heap b102 "com/example/mursyn/mursyn/synthesis/SuccessorLists" "targets" "[I" (.ref bt109) := fb132
        have fc132 : Fld Z T132.heap b102 "com/example/mursyn/mursyn/synthesis/SuccessorLists" "edgeCount" "I" (.int (2 : Int32)) := fc132
        have fd132 : Fld Z T132.heap b102 "com/example/mursyn/mursyn/synthesis/SuccessorLists" "listed" "I" (.int (1 : Int32)) := fd132
        have vv132 : Arv Z T132.heap bt109 kt109 .int (16 : Int32) [(.int p2), (.int p1), (.int (0 : Int32)), (.int (0 : Int32)), (.int (0 : Int32)), (.int (0 : Int32)), (.int (0 : Int32)), (.int (0 : Int32)), (.int (0 : Int32)), (.int (0 : Int32)), (.int (0 : Int32)), (.int (0 : Int32)), (.int (0 : Int32)), (.int (0 : Int32)), (.int (0 : Int32)), (.int (0 : Int32))] (.int (0 : Int32)) := vv132
        refine own_pre (fun t k => st132.trans k) ?_
        show own_Ends _ _ _ _ (T132.setTop (mkF m 90 #[.val (.int p0), .val (.int p1), .val (.int p2), .val (.int (0 : Int32)), .val (.int (2 : Int32)), .val (.int (0 : Int32)), .val (.ref b102)] []))
        refine own_pre (fun t k => XS.aload X132.here hx rfl (hb hby at_90) rfl rfl k) ?_
        show own_Ends _ _ _ _ (T132.setTop (mkF m 92 #[.val (.int p0), .val (.int p1), .val (.int p2), .val (.int (0 : Int32)), .val (.int (2 : Int32)), .val (.int (0 : Int32)), .val (.ref b102)] [(.ref b102)]))
        obtain ⟨cq135, kq135, q135a, q135b, q135c⟩ := isOf hZ rfl f133
        obtain ⟨_, _, ⟨T135, L135, k135, n135⟩, -, X135, ⟨Lc135, hQ135, l135, y135, z135⟩, st135⟩ := X132.virtualBack hx (y := (⟨"com/example/mursyn/mursyn/synthesis/SuccessorLists", "close", "()V"⟩ : MethodName)) (z := (⟨"com/example/mursyn/mursyn/synthesis/SuccessorLists", "close", "()V"⟩ : MethodName)) hown (mvT hZ (hw _ (List.mem_of_getElem? (i := 14) rfl))) (mvT hZ (hw _ (List.mem_of_getElem? (i := 15) rfl))) (notFace_of_selects (args := #[]) (mvT hZ (hw _ (List.mem_of_getElem? (i := 17) rfl)))) (mvT hZ (hw _ (List.mem_of_getElem? (i := 17) rfl))) (mvT hZ (hw _ (List.mem_of_getElem? (i := 16) rfl))) (by decide) (backOf (W := 0) (rm3 l Z a0 hw [] b102 bf109 bt109 (2 : Int32) (1 : Int32) kf109 [(.int (0 : Int32)), (.int (0 : Int32)), (.int (0 : Int32)), (.int (0 : Int32)), (.int (0 : Int32)), (.int (0 : Int32)), (.int (0 : Int32)), (.int (0 : Int32)), (.int (0 : Int32)), (.int (0 : Int32)), (.int (0 : Int32)), (.int (0 : Int32)), (.int (0 : Int32)), (.int (0 : Int32)), (.int (0 : Int32)), (.int (0 : Int32)), (.int (0 : Int32))]  T132.heap n0 Zn132 f133 L103 la109 na109 fa132 fb132 fc132 fd132 f134 (by decide) ⟨by decide, by decide⟩ (Nat.le_of_ble_eq_true rfl)) hZ (hw _ (List.mem_of_getElem? (i := 18) rfl)) (hw _ (List.mem_of_getElem? (i := 2) rfl)) (by decide) (by decide)) q135a q135c (g := (mkF m 92 #[.val (.int p0), .val (.int p1), .val (.int p2), .val (.int (0 : Int32)), .val (.int (2 : Int32)), .val (.int (0 : Int32)), .val (.ref b102)] [(.ref b102)])) rfl (by rw [hml]; rfl) (Steps.refl _) (argsL := []) (rest := []) (lenOf own_pd0 rfl) rfl (by show 2 * 0 + _ ≤ _; exact Nat.le_of_eq rfl) (hb hby at_92) (fun _ _ => ⟨rfl, rfl, (by decide : 3 + 0 ≤ _), (by decide : 37 + 0 ≤ _)⟩)
        dsimp only [Pt.U, Pt.locs, Pt.cells, Pt.slots] at X135 l135 y135 z135 st135 hQ135
        subst l135 y135 z135
        obtain ⟨rfl, Nq135, Kq135, fa135, fb135, fc135, fd135, vv135⟩ := hQ135
        have N135 := Fr.app N132 Nq135
        have f136 := f133.keep Kq135
        have f137 := vv132.keep Kq135 (ninS (Ne.symm nb109) (ninS (Ne.symm nc109) nin0))
        have Zn135 : n0 ≤ T135.heap.size := Nat.le_trans Zn132 Kq135.1
        have fa135 : Fld Z T135.heap b102 "com/example/mursyn/mursyn/synthesis/SuccessorLists" "first" "[I" (.ref bf109) := fa135
        have fb135 : Fld Z T135.heap b102 "com/example/mursyn/mursyn/synthesis/SuccessorLists" "targets" "[I" (.ref bt109) := fb135
        have fc135 : Fld Z T135.heap b102 "com/example/mursyn/mursyn/synthesis/SuccessorLists" "edgeCount" "I" (.int (2 : Int32)) := fc135
        have fd135 : Fld Z T135.heap b102 "com/example/mursyn/mursyn/synthesis/SuccessorLists" "listed" "I" (.int (2 : Int32)) := fd135
        have vv135 : Arv Z T135.heap bf109 kf109 .int (17 : Int32) [(.int (0 : Int32)), (.int (0 : Int32)), (.int (2 : Int32)), (.int (0 : Int32)), (.int (0 : Int32)), (.int (0 : Int32)), (.int (0 : Int32)), (.int (0 : Int32)), (.int (0 : Int32)), (.int (0 : Int32)), (.int (0 : Int32)), (.int (0 : Int32)), (.int (0 : Int32)), (.int (0 : Int32)), (.int (0 : Int32)), (.int (0 : Int32)), (.int (0 : Int32))] (.int (0 : Int32)) := vv135
        refine own_pre (fun t k => st135.trans k) ?_
        show own_Ends _ _ _ _ (T135.setTop (mkF m 95 #[.val (.int p0), .val (.int p1), .val (.int p2), .val (.int (0 : Int32)), .val (.int (2 : Int32)), .val (.int (0 : Int32)), .val (.ref b102)] []))
        refine own_pre (fun t k => XS.iload X135.here hx rfl (hb hby at_95) rfl k) ?_
        show own_Ends _ _ _ _ (T135.setTop (mkF m 97 #[.val (.int p0), .val (.int p1), .val (.int p2), .val (.int (0 : Int32)), .val (.int (2 : Int32)), .val (.int (0 : Int32)), .val (.ref b102)] [(.int (0 : Int32))]))
        refine own_pre (fun t k => XS.ifYes X135.here hx rfl (pc0 := 97) (pc' := 106) rfl (hb hby at_97) rfl ((if0 _ _).trans (teq ((by decide) : (0 : Int32) = (0 : Int32))).1) (by decide) (by decide) k) ?_
        show own_Ends _ _ _ _ (T135.setTop (mkF m 106 #[.val (.int p0), .val (.int p1), .val (.int p2), .val (.int (0 : Int32)), .val (.int (2 : Int32)), .val (.int (0 : Int32)), .val (.ref b102)] []))
        refine own_pre (fun t k => XS.aload X135.here hx rfl (hb hby at_106) rfl rfl k) ?_
        show own_Ends _ _ _ _ (T135.setTop (mkF m 108 #[.val (.int p0), .val (.int p1), .val (.int p2), .val (.int (0 : Int32)), .val (.int (2 : Int32)), .val (.int (0 : Int32)), .val (.ref b102)] [(.ref b102)]))
        refine own_pre (fun t k => XS.iconst X135.here hx rfl (hb hby at_108) k) ?_
        show own_Ends _ _ _ _ (T135.setTop (mkF m 109 #[.val (.int p0), .val (.int p1), .val (.int p2), .val (.int (0 : Int32)), .val (.int (2 : Int32)), .val (.int (0 : Int32)), .val (.ref b102)] [(.int (0 : Int32)), (.ref b102)]))
        obtain ⟨cq138, kq138, q138a, q138b, q138c⟩ := isOf hZ rfl f136
        obtain ⟨_, _, ⟨T138, L138, k138, n138⟩, -, X138, ⟨Lc138, hQ138, l138, y138, z138⟩, st138⟩ := X135.virtualBack hx (y := (⟨"com/example/mursyn/mursyn/synthesis/SuccessorLists", "count", "(I)I"⟩ : MethodName)) (z := (⟨"com/example/mursyn/mursyn/synthesis/SuccessorLists", "count", "(I)I"⟩ : MethodName)) hown (mvT hZ (hw _ (List.mem_of_getElem? (i := 23) rfl))) (mvT hZ (hw _ (List.mem_of_getElem? (i := 24) rfl))) (notFace_of_selects (args := #[]) (mvT hZ (hw _ (List.mem_of_getElem? (i := 26) rfl)))) (mvT hZ (hw _ (List.mem_of_getElem? (i := 26) rfl))) (mvT hZ (hw _ (List.mem_of_getElem? (i := 25) rfl))) (by decide) (backOf (W := 0) (rm4 l Z a0 hw [] b102 (0 : Int32) bf109 kf109 [(.int (0 : Int32)), (.int (0 : Int32)), (.int (2 : Int32)), (.int (0 : Int32)), (.int (0 : Int32)), (.int (0 : Int32)), (.int (0 : Int32)), (.int (0 : Int32)), (.int (0 : Int32)), (.int (0 : Int32)), (.int (0 : Int32)), (.int (0 : Int32)), (.int (0 : Int32)), (.int (0 : Int32)), (.int (0 : Int32)), (.int (0 : Int32)), (.int (0 : Int32))] (0 : Int32) (0 : Int32) T135.heap n0 Zn135 fa135 vv135 ⟨by decide, by decide⟩ rfl ⟨by decide, by decide⟩ rfl) hZ (hw _ (List.mem_of_getElem? (i := 27) rfl)) (hw _ (List.mem_of_getElem? (i := 2) rfl)) (by decide) (by decide)) q138a q138c (g := (mkF m 109 #[.val (.int p0), .val (.int p1), .val (.int p2), .val (.int (0 : Int32)), .val (.int (2 : Int32)), .val (.int (0 : Int32)), .val (.ref b102)] [(.int (0 : Int32)), (.ref b102)])) rfl (by rw [hml]; rfl) (Steps.refl _) (argsL := [(.int (0 : Int32))]) (rest := []) (lenOf own_pd1 rfl) rfl (by show 2 * 0 + _ ≤ _; exact Nat.le_of_eq rfl) (hb hby at_109) (fun _ _ => ⟨rfl, rfl, (by decide : 3 + 0 ≤ _), (by decide : 37 + 0 ≤ _)⟩)
        dsimp only [Pt.U, Pt.locs, Pt.cells, Pt.slots] at X138 l138 y138 z138 st138 hQ138
        subst l138 y138 z138
        obtain ⟨rfl, Nq138, e138⟩ := hQ138
        have N138 := Fr.app N135 Nq138
        refine own_pre (fun t k => st138.trans k) ?_
        show own_Ends _ _ _ _ (T138.setTop (mkF m 112 #[.val (.int p0), .val (.int p1), .val (.int p2), .val (.int (0 : Int32)), .val (.int (2 : Int32)), .val (.int (0 : Int32)), .val (.ref b102)] [(.int (0 : Int32))]))
        refine own_pre (fun t k => XS.iloadN X138.here hx rfl (hb hby at_112) rfl k) ?_
        show own_Ends _ _ _ _ (T138.setTop (mkF m 113 #[.val (.int p0), .val (.int p1), .val (.int p2), .val (.int (0 : Int32)), .val (.int (2 : Int32)), .val (.int (0 : Int32)), .val (.ref b102)] [(.int (0 : Int32)), (.int (0 : Int32))]))
        refine own_pre (fun t k => XS.icmpNo X138.here hx rfl (hb hby at_113) rfl (teq ((by decide) : (0 : Int32) = (0 : Int32))).2 k) ?_
        show own_Ends _ _ _ _ (T138.setTop (mkF m 116 #[.val (.int p0), .val (.int p1), .val (.int p2), .val (.int (0 : Int32)), .val (.int (2 : Int32)), .val (.int (0 : Int32)), .val (.ref b102)] []))
        refine own_pre (fun t k => XS.aload X138.here hx rfl (hb hby at_116) rfl rfl k) ?_
        show own_Ends _ _ _ _ (T138.setTop (mkF m 118 #[.val (.int p0), .val (.int p1), .val (.int p2), .val (.int (0 : Int32)), .val (.int (2 : Int32)), .val (.int (0 : Int32)), .val (.ref b102)] [(.ref b102)]))
        refine own_pre (fun t k => XS.iconst X138.here hx rfl (hb hby at_118) k) ?_
        show own_Ends _ _ _ _ (T138.setTop (mkF m 119 #[.val (.int p0), .val (.int p1), .val (.int p2), .val (.int (0 : Int32)), .val (.int (2 : Int32)), .val (.int (0 : Int32)), .val (.ref b102)] [(.int (1 : Int32)), (.ref b102)]))
        obtain ⟨cq139, kq139, q139a, q139b, q139c⟩ := isOf hZ e138 f136
        obtain ⟨_, _, ⟨T139, L139, k139, n139⟩, -, X139, ⟨Lc139, hQ139, l139, y139, z139⟩, st139⟩ := X138.virtualBack hx (y := (⟨"com/example/mursyn/mursyn/synthesis/SuccessorLists", "count", "(I)I"⟩ : MethodName)) (z := (⟨"com/example/mursyn/mursyn/synthesis/SuccessorLists", "count", "(I)I"⟩ : MethodName)) hown (mvT hZ (hw _ (List.mem_of_getElem? (i := 23) rfl))) (mvT hZ (hw _ (List.mem_of_getElem? (i := 24) rfl))) (notFace_of_selects (args := #[]) (mvT hZ (hw _ (List.mem_of_getElem? (i := 26) rfl)))) (mvT hZ (hw _ (List.mem_of_getElem? (i := 26) rfl))) (mvT hZ (hw _ (List.mem_of_getElem? (i := 25) rfl))) (by decide) (backOf (W := 0) (rm4 l Z a0 hw [] b102 (1 : Int32) bf109 kf109 [(.int (0 : Int32)), (.int (0 : Int32)), (.int (2 : Int32)), (.int (0 : Int32)), (.int (0 : Int32)), (.int (0 : Int32)), (.int (0 : Int32)), (.int (0 : Int32)), (.int (0 : Int32)), (.int (0 : Int32)), (.int (0 : Int32)), (.int (0 : Int32)), (.int (0 : Int32)), (.int (0 : Int32)), (.int (0 : Int32)), (.int (0 : Int32)), (.int (0 : Int32))] (2 : Int32) (0 : Int32) T135.heap n0 Zn135 fa135 vv135 ⟨by decide, by decide⟩ rfl ⟨by decide, by decide⟩ rfl) hZ (hw _ (List.mem_of_getElem? (i := 27) rfl)) (hw _ (List.mem_of_getElem? (i := 2) rfl)) (by decide) (by decide)) q139a q139c (g := (mkF m 119 #[.val (.int p0), .val (.int p1), .val (.int p2), .val (.int (0 : Int32)), .val (.int (2 : Int32)), .val (.int (0 : Int32)), .val (.ref b102)] [(.int (1 : Int32)), (.ref b102)])) rfl (by rw [hml]; rfl) (Steps.refl _) (argsL := [(.int (1 : Int32))]) (rest := []) (lenOf own_pd1 rfl) rfl (by show 2 * 0 + _ ≤ _; exact Nat.le_of_eq rfl) (hb hby at_119) (fun _ _ => ⟨rfl, e138, (by decide : 3 + 0 ≤ _), (by decide : 37 + 0 ≤ _)⟩)
        dsimp only [Pt.U, Pt.locs, Pt.cells, Pt.slots] at X139 l139 y139 z139 st139 hQ139
        subst l139 y139 z139
        obtain ⟨rfl, Nq139, e139⟩ := hQ139
        have N139 := Fr.app N138 Nq139
        refine own_pre (fun t k => st139.trans k) ?_
        show own_Ends _ _ _ _ (T139.setTop (mkF m 122 #[.val (.int p0), .val (.int p1), .val (.int p2), .val (.int (0 : Int32)), .val (.int (2 : Int32)), .val (.int (0 : Int32)), .val (.ref b102)] [(.int (2 : Int32))]))
        refine own_pre (fun t k => XS.iload X139.here hx rfl (hb hby at_122) rfl k) ?_
        show own_Ends _ _ _ _ (T139.setTop (mkF m 124 #[.val (.int p0), .val (.int p1), .val (.int p2), .val (.int (0 : Int32)), .val (.int (2 : Int32)), .val (.int (0 : Int32)), .val (.ref b102)] [(.int (2 : Int32)), (.int (2 : Int32))]))
        refine own_pre (fun t k => XS.icmpNo X139.here hx rfl (hb hby at_124) rfl (teq ((by decide) : (2 : Int32) = (2 : Int32))).2 k) ?_
        show own_Ends _ _ _ _ (T139.setTop (mkF m 127 #[.val (.int p0), .val (.int p1), .val (.int p2), .val (.int (0 : Int32)), .val (.int (2 : Int32)), .val (.int (0 : Int32)), .val (.ref b102)] []))
        refine own_pre (fun t k => XS.iconst X139.here hx rfl (hb hby at_127) k) ?_
        show own_Ends _ _ _ _ (T139.setTop (mkF m 128 #[.val (.int p0), .val (.int p1), .val (.int p2), .val (.int (0 : Int32)), .val (.int (2 : Int32)), .val (.int (0 : Int32)), .val (.ref b102)] [(.int (1 : Int32))]))
        refine own_pre (fun t k => XS.goto X139.here hx rfl (pc0 := 128) (pc' := 132) rfl (hb hby at_128) (by decide) (by decide) k) ?_
        show own_Ends _ _ _ _ (T139.setTop (mkF m 132 #[.val (.int p0), .val (.int p1), .val (.int p2), .val (.int (0 : Int32)), .val (.int (2 : Int32)), .val (.int (0 : Int32)), .val (.ref b102)] [(.int (1 : Int32))]))
        exact own_retN X139 hx (t := .boolean) Bd.returns (by simp) (hb hby at_132) hlk rfl e139 ⟨rfl, N139⟩ (by decide) (by decide)
    · subst hs111
      show own_Ends _ _ _ _ (T109.setTop (mkF m 39 #[.val (.int p0), .val (.int p1), .val (.int p2), .val (.int (1 : Int32)), .val (.int x4), .val (.int (0 : Int32)), .val (.ref b102)] []))
      refine own_pre (fun t k => XS.iloadN X109.here hx rfl (hb hby at_39) rfl k) ?_
      show own_Ends _ _ _ _ (T109.setTop (mkF m 40 #[.val (.int p0), .val (.int p1), .val (.int p2), .val (.int (1 : Int32)), .val (.int x4), .val (.int (0 : Int32)), .val (.ref b102)] [(.int (1 : Int32))]))
      refine own_pre (fun t k => XS.iconst X109.here hx rfl (hb hby at_40) k) ?_
      show own_Ends _ _ _ _ (T109.setTop (mkF m 41 #[.val (.int p0), .val (.int p1), .val (.int p2), .val (.int (1 : Int32)), .val (.int x4), .val (.int (0 : Int32)), .val (.ref b102)] [(.int (1 : Int32)), (.int (1 : Int32))]))
      refine own_pre (fun t k => XS.icmpNo X109.here hx rfl (hb hby at_41) rfl (flt ((by decide) : ¬ ((1 : Int32) < (1 : Int32)))).1 k) ?_
      show own_Ends _ _ _ _ (T109.setTop (mkF m 44 #[.val (.int p0), .val (.int p1), .val (.int p2), .val (.int (1 : Int32)), .val (.int x4), .val (.int (0 : Int32)), .val (.ref b102)] []))
      refine own_pre (fun t k => XS.aload X109.here hx rfl (hb hby at_44) rfl rfl k) ?_
      show own_Ends _ _ _ _ (T109.setTop (mkF m 46 #[.val (.int p0), .val (.int p1), .val (.int p2), .val (.int (1 : Int32)), .val (.int x4), .val (.int (0 : Int32)), .val (.ref b102)] [(.ref b102)]))
      refine own_pre (fun t k => XS.iloadN X109.here hx rfl (hb hby at_46) rfl k) ?_
      show own_Ends _ _ _ _ (T109.setTop (mkF m 47 #[.val (.int p0), .val (.int p1), .val (.int p2), .val (.int (1 : Int32)), .val (.int x4), .val (.int (0 : Int32)), .val (.ref b102)] [(.int p1), (.ref b102)]))
      obtain ⟨cq140, kq140, q140a, q140b, q140c⟩ := isOf hZ rfl f110
      obtain ⟨_, _, ⟨T140, L140, k140, n140⟩, -, X140, ⟨Lc140, hQ140, l140, y140, z140⟩, st140⟩ := X109.virtualBack hx (y := (⟨"com/example/mursyn/mursyn/synthesis/SuccessorLists", "add", "(I)V"⟩ : MethodName)) (z := (⟨"com/example/mursyn/mursyn/synthesis/SuccessorLists", "add", "(I)V"⟩ : MethodName)) hown (mvT hZ (hw _ (List.mem_of_getElem? (i := 28) rfl))) (mvT hZ (hw _ (List.mem_of_getElem? (i := 29) rfl))) (notFace_of_selects (args := #[]) (mvT hZ (hw _ (List.mem_of_getElem? (i := 31) rfl)))) (mvT hZ (hw _ (List.mem_of_getElem? (i := 31) rfl))) (mvT hZ (hw _ (List.mem_of_getElem? (i := 30) rfl))) (by decide) (backOf (W := 0) (rm2 l Z a0 hw [] b102 p1 bf109 bt109 (0 : Int32) (0 : Int32) kt109 [(.int (0 : Int32)), (.int (0 : Int32)), (.int (0 : Int32)), (.int (0 : Int32)), (.int (0 : Int32)), (.int (0 : Int32)), (.int (0 : Int32)), (.int (0 : Int32)), (.int (0 : Int32)), (.int (0 : Int32)), (.int (0 : Int32)), (.int (0 : Int32)), (.int (0 : Int32)), (.int (0 : Int32)), (.int (0 : Int32)), (.int (0 : Int32))]  T109.heap n0 Zn109 f110 L103 lb109 nb109 fa109 fb109 fc109 fd109 vb109 (by decide) ⟨by decide, by decide⟩ (Nat.le_of_ble_eq_true rfl)) hZ (hw _ (List.mem_of_getElem? (i := 32) rfl)) (hw _ (List.mem_of_getElem? (i := 2) rfl)) (by decide) (by decide)) q140a q140c (g := (mkF m 47 #[.val (.int p0), .val (.int p1), .val (.int p2), .val (.int (1 : Int32)), .val (.int x4), .val (.int (0 : Int32)), .val (.ref b102)] [(.int p1), (.ref b102)])) rfl (by rw [hml]; rfl) (Steps.refl _) (argsL := [(.int p1)]) (rest := []) (lenOf own_pd2 rfl) rfl (by show 2 * 0 + _ ≤ _; exact Nat.le_of_eq rfl) (hb hby at_47) (fun _ _ => ⟨rfl, rfl, (by decide : 3 + 0 ≤ _), (by decide : 37 + 0 ≤ _)⟩)
      dsimp only [Pt.U, Pt.locs, Pt.cells, Pt.slots] at X140 l140 y140 z140 st140 hQ140
      subst l140 y140 z140
      obtain ⟨rfl, Nq140, Kq140, fa140, fb140, fc140, fd140, vv140⟩ := hQ140
      have N140 := Fr.app N109 Nq140
      have f141 := f110.keep Kq140
      have f142 := va109.keep Kq140 (ninS (Ne.symm na109) (ninS nc109 nin0))
      have Zn140 : n0 ≤ T140.heap.size := Nat.le_trans Zn109 Kq140.1
      have fa140 : Fld Z T140.heap b102 "com/example/mursyn/mursyn/synthesis/SuccessorLists" "first" "[I" (.ref bf109) := fa140
      have fb140 : Fld Z T140.heap b102 "com/example/mursyn/mursyn/synthesis/SuccessorLists" "targets" "[I" (.ref bt109) := fb140
      have fc140 : Fld Z T140.heap b102 "com/example/mursyn/mursyn/synthesis/SuccessorLists" "edgeCount" "I" (.int (1 : Int32)) := fc140
      have fd140 : Fld Z T140.heap b102 "com/example/mursyn/mursyn/synthesis/SuccessorLists" "listed" "I" (.int (0 : Int32)) := fd140
      have vv140 : Arv Z T140.heap bt109 kt109 .int (16 : Int32) [(.int p1), (.int (0 : Int32)), (.int (0 : Int32)), (.int (0 : Int32)), (.int (0 : Int32)), (.int (0 : Int32)), (.int (0 : Int32)), (.int (0 : Int32)), (.int (0 : Int32)), (.int (0 : Int32)), (.int (0 : Int32)), (.int (0 : Int32)), (.int (0 : Int32)), (.int (0 : Int32)), (.int (0 : Int32)), (.int (0 : Int32))] (.int (0 : Int32)) := vv140
      refine own_pre (fun t k => st140.trans k) ?_
      show own_Ends _ _ _ _ (T140.setTop (mkF m 50 #[.val (.int p0), .val (.int p1), .val (.int p2), .val (.int (1 : Int32)), .val (.int x4), .val (.int (0 : Int32)), .val (.ref b102)] []))
      refine own_pre (fun t k => XS.iloadN X140.here hx rfl (hb hby at_50) rfl k) ?_
      show own_Ends _ _ _ _ (T140.setTop (mkF m 51 #[.val (.int p0), .val (.int p1), .val (.int p2), .val (.int (1 : Int32)), .val (.int x4), .val (.int (0 : Int32)), .val (.ref b102)] [(.int (1 : Int32))]))
      refine own_pre (fun t k => XS.iconst X140.here hx rfl (hb hby at_51) k) ?_
      show own_Ends _ _ _ _ (T140.setTop (mkF m 52 #[.val (.int p0), .val (.int p1), .val (.int p2), .val (.int (1 : Int32)), .val (.int x4), .val (.int (0 : Int32)), .val (.ref b102)] [(.int (2 : Int32)), (.int (1 : Int32))]))
      refine own_pre (fun t k => XS.icmpYes X140.here hx rfl (pc0 := 52) (pc' := 61) rfl (hb hby at_52) rfl (tlt ((by decide) : (1 : Int32) < (2 : Int32))).1 (by decide) (by decide) k) ?_
      show own_Ends _ _ _ _ (T140.setTop (mkF m 61 #[.val (.int p0), .val (.int p1), .val (.int p2), .val (.int (1 : Int32)), .val (.int x4), .val (.int (0 : Int32)), .val (.ref b102)] []))
      refine own_pre (fun t k => XS.aload X140.here hx rfl (hb hby at_61) rfl rfl k) ?_
      show own_Ends _ _ _ _ (T140.setTop (mkF m 63 #[.val (.int p0), .val (.int p1), .val (.int p2), .val (.int (1 : Int32)), .val (.int x4), .val (.int (0 : Int32)), .val (.ref b102)] [(.ref b102)]))
      obtain ⟨cq143, kq143, q143a, q143b, q143c⟩ := isOf hZ rfl f141
      obtain ⟨_, _, ⟨T143, L143, k143, n143⟩, -, X143, ⟨Lc143, hQ143, l143, y143, z143⟩, st143⟩ := X140.virtualBack hx (y := (⟨"com/example/mursyn/mursyn/synthesis/SuccessorLists", "close", "()V"⟩ : MethodName)) (z := (⟨"com/example/mursyn/mursyn/synthesis/SuccessorLists", "close", "()V"⟩ : MethodName)) hown (mvT hZ (hw _ (List.mem_of_getElem? (i := 14) rfl))) (mvT hZ (hw _ (List.mem_of_getElem? (i := 15) rfl))) (notFace_of_selects (args := #[]) (mvT hZ (hw _ (List.mem_of_getElem? (i := 17) rfl)))) (mvT hZ (hw _ (List.mem_of_getElem? (i := 17) rfl))) (mvT hZ (hw _ (List.mem_of_getElem? (i := 16) rfl))) (by decide) (backOf (W := 0) (rm3 l Z a0 hw [] b102 bf109 bt109 (1 : Int32) (0 : Int32) kf109 [(.int (0 : Int32)), (.int (0 : Int32)), (.int (0 : Int32)), (.int (0 : Int32)), (.int (0 : Int32)), (.int (0 : Int32)), (.int (0 : Int32)), (.int (0 : Int32)), (.int (0 : Int32)), (.int (0 : Int32)), (.int (0 : Int32)), (.int (0 : Int32)), (.int (0 : Int32)), (.int (0 : Int32)), (.int (0 : Int32)), (.int (0 : Int32)), (.int (0 : Int32))]  T140.heap n0 Zn140 f141 L103 la109 na109 fa140 fb140 fc140 fd140 f142 (by decide) ⟨by decide, by decide⟩ (Nat.le_of_ble_eq_true rfl)) hZ (hw _ (List.mem_of_getElem? (i := 18) rfl)) (hw _ (List.mem_of_getElem? (i := 2) rfl)) (by decide) (by decide)) q143a q143c (g := (mkF m 63 #[.val (.int p0), .val (.int p1), .val (.int p2), .val (.int (1 : Int32)), .val (.int x4), .val (.int (0 : Int32)), .val (.ref b102)] [(.ref b102)])) rfl (by rw [hml]; rfl) (Steps.refl _) (argsL := []) (rest := []) (lenOf own_pd0 rfl) rfl (by show 2 * 0 + _ ≤ _; exact Nat.le_of_eq rfl) (hb hby at_63) (fun _ _ => ⟨rfl, rfl, (by decide : 3 + 0 ≤ _), (by decide : 37 + 0 ≤ _)⟩)
      dsimp only [Pt.U, Pt.locs, Pt.cells, Pt.slots] at X143 l143 y143 z143 st143 hQ143
      subst l143 y143 z143
      obtain ⟨rfl, Nq143, Kq143, fa143, fb143, fc143, fd143, vv143⟩ := hQ143
      have N143 := Fr.app N140 Nq143
      have f144 := f141.keep Kq143
      have f145 := vv140.keep Kq143 (ninS (Ne.symm nb109) (ninS (Ne.symm nc109) nin0))
      have Zn143 : n0 ≤ T143.heap.size := Nat.le_trans Zn140 Kq143.1
      have fa143 : Fld Z T143.heap b102 "com/example/mursyn/mursyn/synthesis/SuccessorLists" "first" "[I" (.ref bf109) := fa143
      have fb143 : Fld Z T143.heap b102 "com/example/mursyn/mursyn/synthesis/SuccessorLists" "targets" "[I" (.ref bt109) := fb143
      have fc143 : Fld Z T143.heap b102 "com/example/mursyn/mursyn/synthesis/SuccessorLists" "edgeCount" "I" (.int (1 : Int32)) := fc143
      have fd143 : Fld Z T143.heap b102 "com/example/mursyn/mursyn/synthesis/SuccessorLists" "listed" "I" (.int (1 : Int32)) := fd143
      have vv143 : Arv Z T143.heap bf109 kf109 .int (17 : Int32) [(.int (0 : Int32)), (.int (1 : Int32)), (.int (0 : Int32)), (.int (0 : Int32)), (.int (0 : Int32)), (.int (0 : Int32)), (.int (0 : Int32)), (.int (0 : Int32)), (.int (0 : Int32)), (.int (0 : Int32)), (.int (0 : Int32)), (.int (0 : Int32)), (.int (0 : Int32)), (.int (0 : Int32)), (.int (0 : Int32)), (.int (0 : Int32)), (.int (0 : Int32))] (.int (0 : Int32)) := vv143
      refine own_pre (fun t k => st143.trans k) ?_
      show own_Ends _ _ _ _ (T143.setTop (mkF m 66 #[.val (.int p0), .val (.int p1), .val (.int p2), .val (.int (1 : Int32)), .val (.int x4), .val (.int (0 : Int32)), .val (.ref b102)] []))
      rcases own_c3 hx4 with hs146 | hs146 | hs146
      · subst hs146
        show own_Ends _ _ _ _ (T143.setTop (mkF m 66 #[.val (.int p0), .val (.int p1), .val (.int p2), .val (.int (1 : Int32)), .val (.int (0 : Int32)), .val (.int (0 : Int32)), .val (.ref b102)] []))
        refine own_pre (fun t k => XS.iload X143.here hx rfl (hb hby at_66) rfl k) ?_
        show own_Ends _ _ _ _ (T143.setTop (mkF m 68 #[.val (.int p0), .val (.int p1), .val (.int p2), .val (.int (1 : Int32)), .val (.int (0 : Int32)), .val (.int (0 : Int32)), .val (.ref b102)] [(.int (0 : Int32))]))
        refine own_pre (fun t k => XS.iconst X143.here hx rfl (hb hby at_68) k) ?_
        show own_Ends _ _ _ _ (T143.setTop (mkF m 69 #[.val (.int p0), .val (.int p1), .val (.int p2), .val (.int (1 : Int32)), .val (.int (0 : Int32)), .val (.int (0 : Int32)), .val (.ref b102)] [(.int (1 : Int32)), (.int (0 : Int32))]))
        refine own_pre (fun t k => XS.icmpYes X143.here hx rfl (pc0 := 69) (pc' := 78) rfl (hb hby at_69) rfl (tlt ((by decide) : (0 : Int32) < (1 : Int32))).1 (by decide) (by decide) k) ?_
        show own_Ends _ _ _ _ (T143.setTop (mkF m 78 #[.val (.int p0), .val (.int p1), .val (.int p2), .val (.int (1 : Int32)), .val (.int (0 : Int32)), .val (.int (0 : Int32)), .val (.ref b102)] []))
        refine own_pre (fun t k => XS.iload X143.here hx rfl (hb hby at_78) rfl k) ?_
        show own_Ends _ _ _ _ (T143.setTop (mkF m 80 #[.val (.int p0), .val (.int p1), .val (.int p2), .val (.int (1 : Int32)), .val (.int (0 : Int32)), .val (.int (0 : Int32)), .val (.ref b102)] [(.int (0 : Int32))]))
        refine own_pre (fun t k => XS.iconst X143.here hx rfl (hb hby at_80) k) ?_
        show own_Ends _ _ _ _ (T143.setTop (mkF m 81 #[.val (.int p0), .val (.int p1), .val (.int p2), .val (.int (1 : Int32)), .val (.int (0 : Int32)), .val (.int (0 : Int32)), .val (.ref b102)] [(.int (2 : Int32)), (.int (0 : Int32))]))
        refine own_pre (fun t k => XS.icmpYes X143.here hx rfl (pc0 := 81) (pc' := 90) rfl (hb hby at_81) rfl (tlt ((by decide) : (0 : Int32) < (2 : Int32))).1 (by decide) (by decide) k) ?_
        show own_Ends _ _ _ _ (T143.setTop (mkF m 90 #[.val (.int p0), .val (.int p1), .val (.int p2), .val (.int (1 : Int32)), .val (.int (0 : Int32)), .val (.int (0 : Int32)), .val (.ref b102)] []))
        refine own_pre (fun t k => XS.aload X143.here hx rfl (hb hby at_90) rfl rfl k) ?_
        show own_Ends _ _ _ _ (T143.setTop (mkF m 92 #[.val (.int p0), .val (.int p1), .val (.int p2), .val (.int (1 : Int32)), .val (.int (0 : Int32)), .val (.int (0 : Int32)), .val (.ref b102)] [(.ref b102)]))
        obtain ⟨cq147, kq147, q147a, q147b, q147c⟩ := isOf hZ rfl f144
        obtain ⟨_, _, ⟨T147, L147, k147, n147⟩, -, X147, ⟨Lc147, hQ147, l147, y147, z147⟩, st147⟩ := X143.virtualBack hx (y := (⟨"com/example/mursyn/mursyn/synthesis/SuccessorLists", "close", "()V"⟩ : MethodName)) (z := (⟨"com/example/mursyn/mursyn/synthesis/SuccessorLists", "close", "()V"⟩ : MethodName)) hown (mvT hZ (hw _ (List.mem_of_getElem? (i := 14) rfl))) (mvT hZ (hw _ (List.mem_of_getElem? (i := 15) rfl))) (notFace_of_selects (args := #[]) (mvT hZ (hw _ (List.mem_of_getElem? (i := 17) rfl)))) (mvT hZ (hw _ (List.mem_of_getElem? (i := 17) rfl))) (mvT hZ (hw _ (List.mem_of_getElem? (i := 16) rfl))) (by decide) (backOf (W := 0) (rm3 l Z a0 hw [] b102 bf109 bt109 (1 : Int32) (1 : Int32) kf109 [(.int (0 : Int32)), (.int (1 : Int32)), (.int (0 : Int32)), (.int (0 : Int32)), (.int (0 : Int32)), (.int (0 : Int32)), (.int (0 : Int32)), (.int (0 : Int32)), (.int (0 : Int32)), (.int (0 : Int32)), (.int (0 : Int32)), (.int (0 : Int32)), (.int (0 : Int32)), (.int (0 : Int32)), (.int (0 : Int32)), (.int (0 : Int32)), (.int (0 : Int32))]  T143.heap n0 Zn143 f144 L103 la109 na109 fa143 fb143 fc143 fd143 vv143 (by decide) ⟨by decide, by decide⟩ (Nat.le_of_ble_eq_true rfl)) hZ (hw _ (List.mem_of_getElem? (i := 18) rfl)) (hw _ (List.mem_of_getElem? (i := 2) rfl)) (by decide) (by decide)) q147a q147c (g := (mkF m 92 #[.val (.int p0), .val (.int p1), .val (.int p2), .val (.int (1 : Int32)), .val (.int (0 : Int32)), .val (.int (0 : Int32)), .val (.ref b102)] [(.ref b102)])) rfl (by rw [hml]; rfl) (Steps.refl _) (argsL := []) (rest := []) (lenOf own_pd0 rfl) rfl (by show 2 * 0 + _ ≤ _; exact Nat.le_of_eq rfl) (hb hby at_92) (fun _ _ => ⟨rfl, rfl, (by decide : 3 + 0 ≤ _), (by decide : 37 + 0 ≤ _)⟩)
        dsimp only [Pt.U, Pt.locs, Pt.cells, Pt.slots] at X147 l147 y147 z147 st147 hQ147
        subst l147 y147 z147
        obtain ⟨rfl, Nq147, Kq147, fa147, fb147, fc147, fd147, vv147⟩ := hQ147
        have N147 := Fr.app N143 Nq147
        have f148 := f144.keep Kq147
        have f149 := f145.keep Kq147 (ninS (Ne.symm nb109) (ninS (Ne.symm nc109) nin0))
        have Zn147 : n0 ≤ T147.heap.size := Nat.le_trans Zn143 Kq147.1
        have fa147 : Fld Z T147.heap b102 "com/example/mursyn/mursyn/synthesis/SuccessorLists" "first" "[I" (.ref bf109) := fa147
        have fb147 : Fld Z T147.heap b102 "com/example/mursyn/mursyn/synthesis/SuccessorLists" "targets" "[I" (.ref bt109) := fb147
        have fc147 : Fld Z T147.heap b102 "com/example/mursyn/mursyn/synthesis/SuccessorLists" "edgeCount" "I" (.int (1 : Int32)) := fc147
        have fd147 : Fld Z T147.heap b102 "com/example/mursyn/mursyn/synthesis/SuccessorLists" "listed" "I" (.int (2 : Int32)) := fd147
        have vv147 : Arv Z T147.heap bf109 kf109 .int (17 : Int32) [(.int (0 : Int32)), (.int (1 : Int32)), (.int (1 : Int32)), (.int (0 : Int32)), (.int (0 : Int32)), (.int (0 : Int32)), (.int (0 : Int32)), (.int (0 : Int32)), (.int (0 : Int32)), (.int (0 : Int32)), (.int (0 : Int32)), (.int (0 : Int32)), (.int (0 : Int32)), (.int (0 : Int32)), (.int (0 : Int32)), (.int (0 : Int32)), (.int (0 : Int32))] (.int (0 : Int32)) := vv147
        refine own_pre (fun t k => st147.trans k) ?_
        show own_Ends _ _ _ _ (T147.setTop (mkF m 95 #[.val (.int p0), .val (.int p1), .val (.int p2), .val (.int (1 : Int32)), .val (.int (0 : Int32)), .val (.int (0 : Int32)), .val (.ref b102)] []))
        refine own_pre (fun t k => XS.iload X147.here hx rfl (hb hby at_95) rfl k) ?_
        show own_Ends _ _ _ _ (T147.setTop (mkF m 97 #[.val (.int p0), .val (.int p1), .val (.int p2), .val (.int (1 : Int32)), .val (.int (0 : Int32)), .val (.int (0 : Int32)), .val (.ref b102)] [(.int (0 : Int32))]))
        refine own_pre (fun t k => XS.ifYes X147.here hx rfl (pc0 := 97) (pc' := 106) rfl (hb hby at_97) rfl ((if0 _ _).trans (teq ((by decide) : (0 : Int32) = (0 : Int32))).1) (by decide) (by decide) k) ?_
        show own_Ends _ _ _ _ (T147.setTop (mkF m 106 #[.val (.int p0), .val (.int p1), .val (.int p2), .val (.int (1 : Int32)), .val (.int (0 : Int32)), .val (.int (0 : Int32)), .val (.ref b102)] []))
        refine own_pre (fun t k => XS.aload X147.here hx rfl (hb hby at_106) rfl rfl k) ?_
        show own_Ends _ _ _ _ (T147.setTop (mkF m 108 #[.val (.int p0), .val (.int p1), .val (.int p2), .val (.int (1 : Int32)), .val (.int (0 : Int32)), .val (.int (0 : Int32)), .val (.ref b102)] [(.ref b102)]))
        refine own_pre (fun t k => XS.iconst X147.here hx rfl (hb hby at_108) k) ?_
        show own_Ends _ _ _ _ (T147.setTop (mkF m 109 #[.val (.int p0), .val (.int p1), .val (.int p2), .val (.int (1 : Int32)), .val (.int (0 : Int32)), .val (.int (0 : Int32)), .val (.ref b102)] [(.int (0 : Int32)), (.ref b102)]))
        obtain ⟨cq150, kq150, q150a, q150b, q150c⟩ := isOf hZ rfl f148
        obtain ⟨_, _, ⟨T150, L150, k150, n150⟩, -, X150, ⟨Lc150, hQ150, l150, y150, z150⟩, st150⟩ := X147.virtualBack hx (y := (⟨"com/example/mursyn/mursyn/synthesis/SuccessorLists", "count", "(I)I"⟩ : MethodName)) (z := (⟨"com/example/mursyn/mursyn/synthesis/SuccessorLists", "count", "(I)I"⟩ : MethodName)) hown (mvT hZ (hw _ (List.mem_of_getElem? (i := 23) rfl))) (mvT hZ (hw _ (List.mem_of_getElem? (i := 24) rfl))) (notFace_of_selects (args := #[]) (mvT hZ (hw _ (List.mem_of_getElem? (i := 26) rfl)))) (mvT hZ (hw _ (List.mem_of_getElem? (i := 26) rfl))) (mvT hZ (hw _ (List.mem_of_getElem? (i := 25) rfl))) (by decide) (backOf (W := 0) (rm4 l Z a0 hw [] b102 (0 : Int32) bf109 kf109 [(.int (0 : Int32)), (.int (1 : Int32)), (.int (1 : Int32)), (.int (0 : Int32)), (.int (0 : Int32)), (.int (0 : Int32)), (.int (0 : Int32)), (.int (0 : Int32)), (.int (0 : Int32)), (.int (0 : Int32)), (.int (0 : Int32)), (.int (0 : Int32)), (.int (0 : Int32)), (.int (0 : Int32)), (.int (0 : Int32)), (.int (0 : Int32)), (.int (0 : Int32))] (1 : Int32) (0 : Int32) T147.heap n0 Zn147 fa147 vv147 ⟨by decide, by decide⟩ rfl ⟨by decide, by decide⟩ rfl) hZ (hw _ (List.mem_of_getElem? (i := 27) rfl)) (hw _ (List.mem_of_getElem? (i := 2) rfl)) (by decide) (by decide)) q150a q150c (g := (mkF m 109 #[.val (.int p0), .val (.int p1), .val (.int p2), .val (.int (1 : Int32)), .val (.int (0 : Int32)), .val (.int (0 : Int32)), .val (.ref b102)] [(.int (0 : Int32)), (.ref b102)])) rfl (by rw [hml]; rfl) (Steps.refl _) (argsL := [(.int (0 : Int32))]) (rest := []) (lenOf own_pd1 rfl) rfl (by show 2 * 0 + _ ≤ _; exact Nat.le_of_eq rfl) (hb hby at_109) (fun _ _ => ⟨rfl, rfl, (by decide : 3 + 0 ≤ _), (by decide : 37 + 0 ≤ _)⟩)
        dsimp only [Pt.U, Pt.locs, Pt.cells, Pt.slots] at X150 l150 y150 z150 st150 hQ150
        subst l150 y150 z150
        obtain ⟨rfl, Nq150, e150⟩ := hQ150
        have N150 := Fr.app N147 Nq150
        refine own_pre (fun t k => st150.trans k) ?_
        show own_Ends _ _ _ _ (T150.setTop (mkF m 112 #[.val (.int p0), .val (.int p1), .val (.int p2), .val (.int (1 : Int32)), .val (.int (0 : Int32)), .val (.int (0 : Int32)), .val (.ref b102)] [(.int (1 : Int32))]))
        refine own_pre (fun t k => XS.iloadN X150.here hx rfl (hb hby at_112) rfl k) ?_
        show own_Ends _ _ _ _ (T150.setTop (mkF m 113 #[.val (.int p0), .val (.int p1), .val (.int p2), .val (.int (1 : Int32)), .val (.int (0 : Int32)), .val (.int (0 : Int32)), .val (.ref b102)] [(.int (1 : Int32)), (.int (1 : Int32))]))
        refine own_pre (fun t k => XS.icmpNo X150.here hx rfl (hb hby at_113) rfl (teq ((by decide) : (1 : Int32) = (1 : Int32))).2 k) ?_
        show own_Ends _ _ _ _ (T150.setTop (mkF m 116 #[.val (.int p0), .val (.int p1), .val (.int p2), .val (.int (1 : Int32)), .val (.int (0 : Int32)), .val (.int (0 : Int32)), .val (.ref b102)] []))
        refine own_pre (fun t k => XS.aload X150.here hx rfl (hb hby at_116) rfl rfl k) ?_
        show own_Ends _ _ _ _ (T150.setTop (mkF m 118 #[.val (.int p0), .val (.int p1), .val (.int p2), .val (.int (1 : Int32)), .val (.int (0 : Int32)), .val (.int (0 : Int32)), .val (.ref b102)] [(.ref b102)]))
        refine own_pre (fun t k => XS.iconst X150.here hx rfl (hb hby at_118) k) ?_
        show own_Ends _ _ _ _ (T150.setTop (mkF m 119 #[.val (.int p0), .val (.int p1), .val (.int p2), .val (.int (1 : Int32)), .val (.int (0 : Int32)), .val (.int (0 : Int32)), .val (.ref b102)] [(.int (1 : Int32)), (.ref b102)]))
        obtain ⟨cq151, kq151, q151a, q151b, q151c⟩ := isOf hZ e150 f148
        obtain ⟨_, _, ⟨T151, L151, k151, n151⟩, -, X151, ⟨Lc151, hQ151, l151, y151, z151⟩, st151⟩ := X150.virtualBack hx (y := (⟨"com/example/mursyn/mursyn/synthesis/SuccessorLists", "count", "(I)I"⟩ : MethodName)) (z := (⟨"com/example/mursyn/mursyn/synthesis/SuccessorLists", "count", "(I)I"⟩ : MethodName)) hown (mvT hZ (hw _ (List.mem_of_getElem? (i := 23) rfl))) (mvT hZ (hw _ (List.mem_of_getElem? (i := 24) rfl))) (notFace_of_selects (args := #[]) (mvT hZ (hw _ (List.mem_of_getElem? (i := 26) rfl)))) (mvT hZ (hw _ (List.mem_of_getElem? (i := 26) rfl))) (mvT hZ (hw _ (List.mem_of_getElem? (i := 25) rfl))) (by decide) (backOf (W := 0) (rm4 l Z a0 hw [] b102 (1 : Int32) bf109 kf109 [(.int (0 : Int32)), (.int (1 : Int32)), (.int (1 : Int32)), (.int (0 : Int32)), (.int (0 : Int32)), (.int (0 : Int32)), (.int (0 : Int32)), (.int (0 : Int32)), (.int (0 : Int32)), (.int (0 : Int32)), (.int (0 : Int32)), (.int (0 : Int32)), (.int (0 : Int32)), (.int (0 : Int32)), (.int (0 : Int32)), (.int (0 : Int32)), (.int (0 : Int32))] (1 : Int32) (1 : Int32) T147.heap n0 Zn147 fa147 vv147 ⟨by decide, by decide⟩ rfl ⟨by decide, by decide⟩ rfl) hZ (hw _ (List.mem_of_getElem? (i := 27) rfl)) (hw _ (List.mem_of_getElem? (i := 2) rfl)) (by decide) (by decide)) q151a q151c (g := (mkF m 119 #[.val (.int p0), .val (.int p1), .val (.int p2), .val (.int (1 : Int32)), .val (.int (0 : Int32)), .val (.int (0 : Int32)), .val (.ref b102)] [(.int (1 : Int32)), (.ref b102)])) rfl (by rw [hml]; rfl) (Steps.refl _) (argsL := [(.int (1 : Int32))]) (rest := []) (lenOf own_pd1 rfl) rfl (by show 2 * 0 + _ ≤ _; exact Nat.le_of_eq rfl) (hb hby at_119) (fun _ _ => ⟨rfl, e150, (by decide : 3 + 0 ≤ _), (by decide : 37 + 0 ≤ _)⟩)
        dsimp only [Pt.U, Pt.locs, Pt.cells, Pt.slots] at X151 l151 y151 z151 st151 hQ151
        subst l151 y151 z151
        obtain ⟨rfl, Nq151, e151⟩ := hQ151
        have N151 := Fr.app N150 Nq151
        refine own_pre (fun t k => st151.trans k) ?_
        show own_Ends _ _ _ _ (T151.setTop (mkF m 122 #[.val (.int p0), .val (.int p1), .val (.int p2), .val (.int (1 : Int32)), .val (.int (0 : Int32)), .val (.int (0 : Int32)), .val (.ref b102)] [(.int (0 : Int32))]))
        refine own_pre (fun t k => XS.iload X151.here hx rfl (hb hby at_122) rfl k) ?_
        show own_Ends _ _ _ _ (T151.setTop (mkF m 124 #[.val (.int p0), .val (.int p1), .val (.int p2), .val (.int (1 : Int32)), .val (.int (0 : Int32)), .val (.int (0 : Int32)), .val (.ref b102)] [(.int (0 : Int32)), (.int (0 : Int32))]))
        refine own_pre (fun t k => XS.icmpNo X151.here hx rfl (hb hby at_124) rfl (teq ((by decide) : (0 : Int32) = (0 : Int32))).2 k) ?_
        show own_Ends _ _ _ _ (T151.setTop (mkF m 127 #[.val (.int p0), .val (.int p1), .val (.int p2), .val (.int (1 : Int32)), .val (.int (0 : Int32)), .val (.int (0 : Int32)), .val (.ref b102)] []))
        refine own_pre (fun t k => XS.iconst X151.here hx rfl (hb hby at_127) k) ?_
        show own_Ends _ _ _ _ (T151.setTop (mkF m 128 #[.val (.int p0), .val (.int p1), .val (.int p2), .val (.int (1 : Int32)), .val (.int (0 : Int32)), .val (.int (0 : Int32)), .val (.ref b102)] [(.int (1 : Int32))]))
        refine own_pre (fun t k => XS.goto X151.here hx rfl (pc0 := 128) (pc' := 132) rfl (hb hby at_128) (by decide) (by decide) k) ?_
        show own_Ends _ _ _ _ (T151.setTop (mkF m 132 #[.val (.int p0), .val (.int p1), .val (.int p2), .val (.int (1 : Int32)), .val (.int (0 : Int32)), .val (.int (0 : Int32)), .val (.ref b102)] [(.int (1 : Int32))]))
        exact own_retN X151 hx (t := .boolean) Bd.returns (by simp) (hb hby at_132) hlk rfl e151 ⟨rfl, N151⟩ (by decide) (by decide)
      · subst hs146
        show own_Ends _ _ _ _ (T143.setTop (mkF m 66 #[.val (.int p0), .val (.int p1), .val (.int p2), .val (.int (1 : Int32)), .val (.int (1 : Int32)), .val (.int (0 : Int32)), .val (.ref b102)] []))
        refine own_pre (fun t k => XS.iload X143.here hx rfl (hb hby at_66) rfl k) ?_
        show own_Ends _ _ _ _ (T143.setTop (mkF m 68 #[.val (.int p0), .val (.int p1), .val (.int p2), .val (.int (1 : Int32)), .val (.int (1 : Int32)), .val (.int (0 : Int32)), .val (.ref b102)] [(.int (1 : Int32))]))
        refine own_pre (fun t k => XS.iconst X143.here hx rfl (hb hby at_68) k) ?_
        show own_Ends _ _ _ _ (T143.setTop (mkF m 69 #[.val (.int p0), .val (.int p1), .val (.int p2), .val (.int (1 : Int32)), .val (.int (1 : Int32)), .val (.int (0 : Int32)), .val (.ref b102)] [(.int (1 : Int32)), (.int (1 : Int32))]))
        refine own_pre (fun t k => XS.icmpNo X143.here hx rfl (hb hby at_69) rfl (flt ((by decide) : ¬ ((1 : Int32) < (1 : Int32)))).1 k) ?_
        show own_Ends _ _ _ _ (T143.setTop (mkF m 72 #[.val (.int p0), .val (.int p1), .val (.int p2), .val (.int (1 : Int32)), .val (.int (1 : Int32)), .val (.int (0 : Int32)), .val (.ref b102)] []))
        refine own_pre (fun t k => XS.aload X143.here hx rfl (hb hby at_72) rfl rfl k) ?_
        show own_Ends _ _ _ _ (T143.setTop (mkF m 74 #[.val (.int p0), .val (.int p1), .val (.int p2), .val (.int (1 : Int32)), .val (.int (1 : Int32)), .val (.int (0 : Int32)), .val (.ref b102)] [(.ref b102)]))
        refine own_pre (fun t k => XS.iloadN X143.here hx rfl (hb hby at_74) rfl k) ?_
        show own_Ends _ _ _ _ (T143.setTop (mkF m 75 #[.val (.int p0), .val (.int p1), .val (.int p2), .val (.int (1 : Int32)), .val (.int (1 : Int32)), .val (.int (0 : Int32)), .val (.ref b102)] [(.int p2), (.ref b102)]))
        obtain ⟨cq152, kq152, q152a, q152b, q152c⟩ := isOf hZ rfl f144
        obtain ⟨_, _, ⟨T152, L152, k152, n152⟩, -, X152, ⟨Lc152, hQ152, l152, y152, z152⟩, st152⟩ := X143.virtualBack hx (y := (⟨"com/example/mursyn/mursyn/synthesis/SuccessorLists", "add", "(I)V"⟩ : MethodName)) (z := (⟨"com/example/mursyn/mursyn/synthesis/SuccessorLists", "add", "(I)V"⟩ : MethodName)) hown (mvT hZ (hw _ (List.mem_of_getElem? (i := 28) rfl))) (mvT hZ (hw _ (List.mem_of_getElem? (i := 29) rfl))) (notFace_of_selects (args := #[]) (mvT hZ (hw _ (List.mem_of_getElem? (i := 31) rfl)))) (mvT hZ (hw _ (List.mem_of_getElem? (i := 31) rfl))) (mvT hZ (hw _ (List.mem_of_getElem? (i := 30) rfl))) (by decide) (backOf (W := 0) (rm2 l Z a0 hw [] b102 p2 bf109 bt109 (1 : Int32) (1 : Int32) kt109 [(.int p1), (.int (0 : Int32)), (.int (0 : Int32)), (.int (0 : Int32)), (.int (0 : Int32)), (.int (0 : Int32)), (.int (0 : Int32)), (.int (0 : Int32)), (.int (0 : Int32)), (.int (0 : Int32)), (.int (0 : Int32)), (.int (0 : Int32)), (.int (0 : Int32)), (.int (0 : Int32)), (.int (0 : Int32)), (.int (0 : Int32))]  T143.heap n0 Zn143 f144 L103 lb109 nb109 fa143 fb143 fc143 fd143 f145 (by decide) ⟨by decide, by decide⟩ (Nat.le_of_ble_eq_true rfl)) hZ (hw _ (List.mem_of_getElem? (i := 32) rfl)) (hw _ (List.mem_of_getElem? (i := 2) rfl)) (by decide) (by decide)) q152a q152c (g := (mkF m 75 #[.val (.int p0), .val (.int p1), .val (.int p2), .val (.int (1 : Int32)), .val (.int (1 : Int32)), .val (.int (0 : Int32)), .val (.ref b102)] [(.int p2), (.ref b102)])) rfl (by rw [hml]; rfl) (Steps.refl _) (argsL := [(.int p2)]) (rest := []) (lenOf own_pd2 rfl) rfl (by show 2 * 0 + _ ≤ _; exact Nat.le_of_eq rfl) (hb hby at_75) (fun _ _ => ⟨rfl, rfl, (by decide : 3 + 0 ≤ _), (by decide : 37 + 0 ≤ _)⟩)
        dsimp only [Pt.U, Pt.locs, Pt.cells, Pt.slots] at X152 l152 y152 z152 st152 hQ152
        subst l152 y152 z152
        obtain ⟨rfl, Nq152, Kq152, fa152, fb152, fc152, fd152, vv152⟩ := hQ152
        have N152 := Fr.app N143 Nq152
        have f153 := f144.keep Kq152
        have f154 := vv143.keep Kq152 (ninS (Ne.symm na109) (ninS nc109 nin0))
        have Zn152 : n0 ≤ T152.heap.size := Nat.le_trans Zn143 Kq152.1
        have fa152 : Fld Z T152.heap b102 "com/example/mursyn/mursyn/synthesis/SuccessorLists" "first" "[I" (.ref bf109) := fa152
        have fb152 : Fld Z T152.heap b102 "com/example/mursyn/mursyn/synthesis/SuccessorLists" "targets" "[I" (.ref bt109) := fb152
        have fc152 : Fld Z T152.heap b102 "com/example/mursyn/mursyn/synthesis/SuccessorLists" "edgeCount" "I" (.int (2 : Int32)) := fc152
        have fd152 : Fld Z T152.heap b102 "com/example/mursyn/mursyn/synthesis/SuccessorLists" "listed" "I" (.int (1 : Int32)) := fd152
        have vv152 : Arv Z T152.heap bt109 kt109 .int (16 : Int32) [(.int p1), (.int p2), (.int (0 : Int32)), (.int (0 : Int32)), (.int (0 : Int32)), (.int (0 : Int32)), (.int (0 : Int32)), (.int (0 : Int32)), (.int (0 : Int32)), (.int (0 : Int32)), (.int (0 : Int32)), (.int (0 : Int32)), (.int (0 : Int32)), (.int (0 : Int32)), (.int (0 : Int32)), (.int (0 : Int32))] (.int (0 : Int32)) := vv152
        refine own_pre (fun t k => st152.trans k) ?_
        show own_Ends _ _ _ _ (T152.setTop (mkF m 78 #[.val (.int p0), .val (.int p1), .val (.int p2), .val (.int (1 : Int32)), .val (.int (1 : Int32)), .val (.int (0 : Int32)), .val (.ref b102)] []))
        refine own_pre (fun t k => XS.iload X152.here hx rfl (hb hby at_78) rfl k) ?_
        show own_Ends _ _ _ _ (T152.setTop (mkF m 80 #[.val (.int p0), .val (.int p1), .val (.int p2), .val (.int (1 : Int32)), .val (.int (1 : Int32)), .val (.int (0 : Int32)), .val (.ref b102)] [(.int (1 : Int32))]))
        refine own_pre (fun t k => XS.iconst X152.here hx rfl (hb hby at_80) k) ?_
        show own_Ends _ _ _ _ (T152.setTop (mkF m 81 #[.val (.int p0), .val (.int p1), .val (.int p2), .val (.int (1 : Int32)), .val (.int (1 : Int32)), .val (.int (0 : Int32)), .val (.ref b102)] [(.int (2 : Int32)), (.int (1 : Int32))]))
        refine own_pre (fun t k => XS.icmpYes X152.here hx rfl (pc0 := 81) (pc' := 90) rfl (hb hby at_81) rfl (tlt ((by decide) : (1 : Int32) < (2 : Int32))).1 (by decide) (by decide) k) ?_
        show own_Ends _ _ _ _ (T152.setTop (mkF m 90 #[.val (.int p0), .val (.int p1), .val (.int p2), .val (.int (1 : Int32)), .val (.int (1 : Int32)), .val (.int (0 : Int32)), .val (.ref b102)] []))
        refine own_pre (fun t k => XS.aload X152.here hx rfl (hb hby at_90) rfl rfl k) ?_
        show own_Ends _ _ _ _ (T152.setTop (mkF m 92 #[.val (.int p0), .val (.int p1), .val (.int p2), .val (.int (1 : Int32)), .val (.int (1 : Int32)), .val (.int (0 : Int32)), .val (.ref b102)] [(.ref b102)]))
        obtain ⟨cq155, kq155, q155a, q155b, q155c⟩ := isOf hZ rfl f153
        obtain ⟨_, _, ⟨T155, L155, k155, n155⟩, -, X155, ⟨Lc155, hQ155, l155, y155, z155⟩, st155⟩ := X152.virtualBack hx (y := (⟨"com/example/mursyn/mursyn/synthesis/SuccessorLists", "close", "()V"⟩ : MethodName)) (z := (⟨"com/example/mursyn/mursyn/synthesis/SuccessorLists", "close", "()V"⟩ : MethodName)) hown (mvT hZ (hw _ (List.mem_of_getElem? (i := 14) rfl))) (mvT hZ (hw _ (List.mem_of_getElem? (i := 15) rfl))) (notFace_of_selects (args := #[]) (mvT hZ (hw _ (List.mem_of_getElem? (i := 17) rfl)))) (mvT hZ (hw _ (List.mem_of_getElem? (i := 17) rfl))) (mvT hZ (hw _ (List.mem_of_getElem? (i := 16) rfl))) (by decide) (backOf (W := 0) (rm3 l Z a0 hw [] b102 bf109 bt109 (2 : Int32) (1 : Int32) kf109 [(.int (0 : Int32)), (.int (1 : Int32)), (.int (0 : Int32)), (.int (0 : Int32)), (.int (0 : Int32)), (.int (0 : Int32)), (.int (0 : Int32)), (.int (0 : Int32)), (.int (0 : Int32)), (.int (0 : Int32)), (.int (0 : Int32)), (.int (0 : Int32)), (.int (0 : Int32)), (.int (0 : Int32)), (.int (0 : Int32)), (.int (0 : Int32)), (.int (0 : Int32))]  T152.heap n0 Zn152 f153 L103 la109 na109 fa152 fb152 fc152 fd152 f154 (by decide) ⟨by decide, by decide⟩ (Nat.le_of_ble_eq_true rfl)) hZ (hw _ (List.mem_of_getElem? (i := 18) rfl)) (hw _ (List.mem_of_getElem? (i := 2) rfl)) (by decide) (by decide)) q155a q155c (g := (mkF m 92 #[.val (.int p0), .val (.int p1), .val (.int p2), .val (.int (1 : Int32)), .val (.int (1 : Int32)), .val (.int (0 : Int32)), .val (.ref b102)] [(.ref b102)])) rfl (by rw [hml]; rfl) (Steps.refl _) (argsL := []) (rest := []) (lenOf own_pd0 rfl) rfl (by show 2 * 0 + _ ≤ _; exact Nat.le_of_eq rfl) (hb hby at_92) (fun _ _ => ⟨rfl, rfl, (by decide : 3 + 0 ≤ _), (by decide : 37 + 0 ≤ _)⟩)
        dsimp only [Pt.U, Pt.locs, Pt.cells, Pt.slots] at X155 l155 y155 z155 st155 hQ155
        subst l155 y155 z155
        obtain ⟨rfl, Nq155, Kq155, fa155, fb155, fc155, fd155, vv155⟩ := hQ155
        have N155 := Fr.app N152 Nq155
        have f156 := f153.keep Kq155
        have f157 := vv152.keep Kq155 (ninS (Ne.symm nb109) (ninS (Ne.symm nc109) nin0))
        have Zn155 : n0 ≤ T155.heap.size := Nat.le_trans Zn152 Kq155.1
        have fa155 : Fld Z T155.heap b102 "com/example/mursyn/mursyn/synthesis/SuccessorLists" "first" "[I" (.ref bf109) := fa155
        have fb155 : Fld Z T155.heap b102 "com/example/mursyn/mursyn/synthesis/SuccessorLists" "targets" "[I" (.ref bt109) := fb155
        have fc155 : Fld Z T155.heap b102 "com/example/mursyn/mursyn/synthesis/SuccessorLists" "edgeCount" "I" (.int (2 : Int32)) := fc155
        have fd155 : Fld Z T155.heap b102 "com/example/mursyn/mursyn/synthesis/SuccessorLists" "listed" "I" (.int (2 : Int32)) := fd155
        have vv155 : Arv Z T155.heap bf109 kf109 .int (17 : Int32) [(.int (0 : Int32)), (.int (1 : Int32)), (.int (2 : Int32)), (.int (0 : Int32)), (.int (0 : Int32)), (.int (0 : Int32)), (.int (0 : Int32)), (.int (0 : Int32)), (.int (0 : Int32)), (.int (0 : Int32)), (.int (0 : Int32)), (.int (0 : Int32)), (.int (0 : Int32)), (.int (0 : Int32)), (.int (0 : Int32)), (.int (0 : Int32)), (.int (0 : Int32))] (.int (0 : Int32)) := vv155
        refine own_pre (fun t k => st155.trans k) ?_
        show own_Ends _ _ _ _ (T155.setTop (mkF m 95 #[.val (.int p0), .val (.int p1), .val (.int p2), .val (.int (1 : Int32)), .val (.int (1 : Int32)), .val (.int (0 : Int32)), .val (.ref b102)] []))
        refine own_pre (fun t k => XS.iload X155.here hx rfl (hb hby at_95) rfl k) ?_
        show own_Ends _ _ _ _ (T155.setTop (mkF m 97 #[.val (.int p0), .val (.int p1), .val (.int p2), .val (.int (1 : Int32)), .val (.int (1 : Int32)), .val (.int (0 : Int32)), .val (.ref b102)] [(.int (0 : Int32))]))
        refine own_pre (fun t k => XS.ifYes X155.here hx rfl (pc0 := 97) (pc' := 106) rfl (hb hby at_97) rfl ((if0 _ _).trans (teq ((by decide) : (0 : Int32) = (0 : Int32))).1) (by decide) (by decide) k) ?_
        show own_Ends _ _ _ _ (T155.setTop (mkF m 106 #[.val (.int p0), .val (.int p1), .val (.int p2), .val (.int (1 : Int32)), .val (.int (1 : Int32)), .val (.int (0 : Int32)), .val (.ref b102)] []))
        refine own_pre (fun t k => XS.aload X155.here hx rfl (hb hby at_106) rfl rfl k) ?_
        show own_Ends _ _ _ _ (T155.setTop (mkF m 108 #[.val (.int p0), .val (.int p1), .val (.int p2), .val (.int (1 : Int32)), .val (.int (1 : Int32)), .val (.int (0 : Int32)), .val (.ref b102)] [(.ref b102)]))
        refine own_pre (fun t k => XS.iconst X155.here hx rfl (hb hby at_108) k) ?_
        show own_Ends _ _ _ _ (T155.setTop (mkF m 109 #[.val (.int p0), .val (.int p1), .val (.int p2), .val (.int (1 : Int32)), .val (.int (1 : Int32)), .val (.int (0 : Int32)), .val (.ref b102)] [(.int (0 : Int32)), (.ref b102)]))
        obtain ⟨cq158, kq158, q158a, q158b, q158c⟩ := isOf hZ rfl f156
        obtain ⟨_, _, ⟨T158, L158, k158, n158⟩, -, X158, ⟨Lc158, hQ158, l158, y158, z158⟩, st158⟩ := X155.virtualBack hx (y := (⟨"com/example/mursyn/mursyn/synthesis/SuccessorLists", "count", "(I)I"⟩ : MethodName)) (z := (⟨"com/example/mursyn/mursyn/synthesis/SuccessorLists", "count", "(I)I"⟩ : MethodName)) hown (mvT hZ (hw _ (List.mem_of_getElem? (i := 23) rfl))) (mvT hZ (hw _ (List.mem_of_getElem? (i := 24) rfl))) (notFace_of_selects (args := #[]) (mvT hZ (hw _ (List.mem_of_getElem? (i := 26) rfl)))) (mvT hZ (hw _ (List.mem_of_getElem? (i := 26) rfl))) (mvT hZ (hw _ (List.mem_of_getElem? (i := 25) rfl))) (by decide) (backOf (W := 0) (rm4 l Z a0 hw [] b102 (0 : Int32) bf109 kf109 [(.int (0 : Int32)), (.int (1 : Int32)), (.int (2 : Int32)), (.int (0 : Int32)), (.int (0 : Int32)), (.int (0 : Int32)), (.int (0 : Int32)), (.int (0 : Int32)), (.int (0 : Int32)), (.int (0 : Int32)), (.int (0 : Int32)), (.int (0 : Int32)), (.int (0 : Int32)), (.int (0 : Int32)), (.int (0 : Int32)), (.int (0 : Int32)), (.int (0 : Int32))] (1 : Int32) (0 : Int32) T155.heap n0 Zn155 fa155 vv155 ⟨by decide, by decide⟩ rfl ⟨by decide, by decide⟩ rfl) hZ (hw _ (List.mem_of_getElem? (i := 27) rfl)) (hw _ (List.mem_of_getElem? (i := 2) rfl)) (by decide) (by decide)) q158a q158c (g := (mkF m 109 #[.val (.int p0), .val (.int p1), .val (.int p2), .val (.int (1 : Int32)), .val (.int (1 : Int32)), .val (.int (0 : Int32)), .val (.ref b102)] [(.int (0 : Int32)), (.ref b102)])) rfl (by rw [hml]; rfl) (Steps.refl _) (argsL := [(.int (0 : Int32))]) (rest := []) (lenOf own_pd1 rfl) rfl (by show 2 * 0 + _ ≤ _; exact Nat.le_of_eq rfl) (hb hby at_109) (fun _ _ => ⟨rfl, rfl, (by decide : 3 + 0 ≤ _), (by decide : 37 + 0 ≤ _)⟩)
        dsimp only [Pt.U, Pt.locs, Pt.cells, Pt.slots] at X158 l158 y158 z158 st158 hQ158
        subst l158 y158 z158
        obtain ⟨rfl, Nq158, e158⟩ := hQ158
        have N158 := Fr.app N155 Nq158
        refine own_pre (fun t k => st158.trans k) ?_
        show own_Ends _ _ _ _ (T158.setTop (mkF m 112 #[.val (.int p0), .val (.int p1), .val (.int p2), .val (.int (1 : Int32)), .val (.int (1 : Int32)), .val (.int (0 : Int32)), .val (.ref b102)] [(.int (1 : Int32))]))
        refine own_pre (fun t k => XS.iloadN X158.here hx rfl (hb hby at_112) rfl k) ?_
        show own_Ends _ _ _ _ (T158.setTop (mkF m 113 #[.val (.int p0), .val (.int p1), .val (.int p2), .val (.int (1 : Int32)), .val (.int (1 : Int32)), .val (.int (0 : Int32)), .val (.ref b102)] [(.int (1 : Int32)), (.int (1 : Int32))]))
        refine own_pre (fun t k => XS.icmpNo X158.here hx rfl (hb hby at_113) rfl (teq ((by decide) : (1 : Int32) = (1 : Int32))).2 k) ?_
        show own_Ends _ _ _ _ (T158.setTop (mkF m 116 #[.val (.int p0), .val (.int p1), .val (.int p2), .val (.int (1 : Int32)), .val (.int (1 : Int32)), .val (.int (0 : Int32)), .val (.ref b102)] []))
        refine own_pre (fun t k => XS.aload X158.here hx rfl (hb hby at_116) rfl rfl k) ?_
        show own_Ends _ _ _ _ (T158.setTop (mkF m 118 #[.val (.int p0), .val (.int p1), .val (.int p2), .val (.int (1 : Int32)), .val (.int (1 : Int32)), .val (.int (0 : Int32)), .val (.ref b102)] [(.ref b102)]))
        refine own_pre (fun t k => XS.iconst X158.here hx rfl (hb hby at_118) k) ?_
        show own_Ends _ _ _ _ (T158.setTop (mkF m 119 #[.val (.int p0), .val (.int p1), .val (.int p2), .val (.int (1 : Int32)), .val (.int (1 : Int32)), .val (.int (0 : Int32)), .val (.ref b102)] [(.int (1 : Int32)), (.ref b102)]))
        obtain ⟨cq159, kq159, q159a, q159b, q159c⟩ := isOf hZ e158 f156
        obtain ⟨_, _, ⟨T159, L159, k159, n159⟩, -, X159, ⟨Lc159, hQ159, l159, y159, z159⟩, st159⟩ := X158.virtualBack hx (y := (⟨"com/example/mursyn/mursyn/synthesis/SuccessorLists", "count", "(I)I"⟩ : MethodName)) (z := (⟨"com/example/mursyn/mursyn/synthesis/SuccessorLists", "count", "(I)I"⟩ : MethodName)) hown (mvT hZ (hw _ (List.mem_of_getElem? (i := 23) rfl))) (mvT hZ (hw _ (List.mem_of_getElem? (i := 24) rfl))) (notFace_of_selects (args := #[]) (mvT hZ (hw _ (List.mem_of_getElem? (i := 26) rfl)))) (mvT hZ (hw _ (List.mem_of_getElem? (i := 26) rfl))) (mvT hZ (hw _ (List.mem_of_getElem? (i := 25) rfl))) (by decide) (backOf (W := 0) (rm4 l Z a0 hw [] b102 (1 : Int32) bf109 kf109 [(.int (0 : Int32)), (.int (1 : Int32)), (.int (2 : Int32)), (.int (0 : Int32)), (.int (0 : Int32)), (.int (0 : Int32)), (.int (0 : Int32)), (.int (0 : Int32)), (.int (0 : Int32)), (.int (0 : Int32)), (.int (0 : Int32)), (.int (0 : Int32)), (.int (0 : Int32)), (.int (0 : Int32)), (.int (0 : Int32)), (.int (0 : Int32)), (.int (0 : Int32))] (2 : Int32) (1 : Int32) T155.heap n0 Zn155 fa155 vv155 ⟨by decide, by decide⟩ rfl ⟨by decide, by decide⟩ rfl) hZ (hw _ (List.mem_of_getElem? (i := 27) rfl)) (hw _ (List.mem_of_getElem? (i := 2) rfl)) (by decide) (by decide)) q159a q159c (g := (mkF m 119 #[.val (.int p0), .val (.int p1), .val (.int p2), .val (.int (1 : Int32)), .val (.int (1 : Int32)), .val (.int (0 : Int32)), .val (.ref b102)] [(.int (1 : Int32)), (.ref b102)])) rfl (by rw [hml]; rfl) (Steps.refl _) (argsL := [(.int (1 : Int32))]) (rest := []) (lenOf own_pd1 rfl) rfl (by show 2 * 0 + _ ≤ _; exact Nat.le_of_eq rfl) (hb hby at_119) (fun _ _ => ⟨rfl, e158, (by decide : 3 + 0 ≤ _), (by decide : 37 + 0 ≤ _)⟩)
        dsimp only [Pt.U, Pt.locs, Pt.cells, Pt.slots] at X159 l159 y159 z159 st159 hQ159
        subst l159 y159 z159
        obtain ⟨rfl, Nq159, e159⟩ := hQ159
        have N159 := Fr.app N158 Nq159
        refine own_pre (fun t k => st159.trans k) ?_
        show own_Ends _ _ _ _ (T159.setTop (mkF m 122 #[.val (.int p0), .val (.int p1), .val (.int p2), .val (.int (1 : Int32)), .val (.int (1 : Int32)), .val (.int (0 : Int32)), .val (.ref b102)] [(.int (1 : Int32))]))
        refine own_pre (fun t k => XS.iload X159.here hx rfl (hb hby at_122) rfl k) ?_
        show own_Ends _ _ _ _ (T159.setTop (mkF m 124 #[.val (.int p0), .val (.int p1), .val (.int p2), .val (.int (1 : Int32)), .val (.int (1 : Int32)), .val (.int (0 : Int32)), .val (.ref b102)] [(.int (1 : Int32)), (.int (1 : Int32))]))
        refine own_pre (fun t k => XS.icmpNo X159.here hx rfl (hb hby at_124) rfl (teq ((by decide) : (1 : Int32) = (1 : Int32))).2 k) ?_
        show own_Ends _ _ _ _ (T159.setTop (mkF m 127 #[.val (.int p0), .val (.int p1), .val (.int p2), .val (.int (1 : Int32)), .val (.int (1 : Int32)), .val (.int (0 : Int32)), .val (.ref b102)] []))
        refine own_pre (fun t k => XS.iconst X159.here hx rfl (hb hby at_127) k) ?_
        show own_Ends _ _ _ _ (T159.setTop (mkF m 128 #[.val (.int p0), .val (.int p1), .val (.int p2), .val (.int (1 : Int32)), .val (.int (1 : Int32)), .val (.int (0 : Int32)), .val (.ref b102)] [(.int (1 : Int32))]))
        refine own_pre (fun t k => XS.goto X159.here hx rfl (pc0 := 128) (pc' := 132) rfl (hb hby at_128) (by decide) (by decide) k) ?_
        show own_Ends _ _ _ _ (T159.setTop (mkF m 132 #[.val (.int p0), .val (.int p1), .val (.int p2), .val (.int (1 : Int32)), .val (.int (1 : Int32)), .val (.int (0 : Int32)), .val (.ref b102)] [(.int (1 : Int32))]))
        exact own_retN X159 hx (t := .boolean) Bd.returns (by simp) (hb hby at_132) hlk rfl e159 ⟨rfl, N159⟩ (by decide) (by decide)
      · subst hs146
        show own_Ends _ _ _ _ (T143.setTop (mkF m 66 #[.val (.int p0), .val (.int p1), .val (.int p2), .val (.int (1 : Int32)), .val (.int (2 : Int32)), .val (.int (0 : Int32)), .val (.ref b102)] []))
        refine own_pre (fun t k => XS.iload X143.here hx rfl (hb hby at_66) rfl k) ?_
        show own_Ends _ _ _ _ (T143.setTop (mkF m 68 #[.val (.int p0), .val (.int p1), .val (.int p2), .val (.int (1 : Int32)), .val (.int (2 : Int32)), .val (.int (0 : Int32)), .val (.ref b102)] [(.int (2 : Int32))]))
        refine own_pre (fun t k => XS.iconst X143.here hx rfl (hb hby at_68) k) ?_
        show own_Ends _ _ _ _ (T143.setTop (mkF m 69 #[.val (.int p0), .val (.int p1), .val (.int p2), .val (.int (1 : Int32)), .val (.int (2 : Int32)), .val (.int (0 : Int32)), .val (.ref b102)] [(.int (1 : Int32)), (.int (2 : Int32))]))
        refine own_pre (fun t k => XS.icmpNo X143.here hx rfl (hb hby at_69) rfl (flt ((by decide) : ¬ ((2 : Int32) < (1 : Int32)))).1 k) ?_
        show own_Ends _ _ _ _ (T143.setTop (mkF m 72 #[.val (.int p0), .val (.int p1), .val (.int p2), .val (.int (1 : Int32)), .val (.int (2 : Int32)), .val (.int (0 : Int32)), .val (.ref b102)] []))
        refine own_pre (fun t k => XS.aload X143.here hx rfl (hb hby at_72) rfl rfl k) ?_
        show own_Ends _ _ _ _ (T143.setTop (mkF m 74 #[.val (.int p0), .val (.int p1), .val (.int p2), .val (.int (1 : Int32)), .val (.int (2 : Int32)), .val (.int (0 : Int32)), .val (.ref b102)] [(.ref b102)]))
        refine own_pre (fun t k => XS.iloadN X143.here hx rfl (hb hby at_74) rfl k) ?_
        show own_Ends _ _ _ _ (T143.setTop (mkF m 75 #[.val (.int p0), .val (.int p1), .val (.int p2), .val (.int (1 : Int32)), .val (.int (2 : Int32)), .val (.int (0 : Int32)), .val (.ref b102)] [(.int p2), (.ref b102)]))
        obtain ⟨cq160, kq160, q160a, q160b, q160c⟩ := isOf hZ rfl f144
        obtain ⟨_, _, ⟨T160, L160, k160, n160⟩, -, X160, ⟨Lc160, hQ160, l160, y160, z160⟩, st160⟩ := X143.virtualBack hx (y := (⟨"com/example/mursyn/mursyn/synthesis/SuccessorLists", "add", "(I)V"⟩ : MethodName)) (z := (⟨"com/example/mursyn/mursyn/synthesis/SuccessorLists", "add", "(I)V"⟩ : MethodName)) hown (mvT hZ (hw _ (List.mem_of_getElem? (i := 28) rfl))) (mvT hZ (hw _ (List.mem_of_getElem? (i := 29) rfl))) (notFace_of_selects (args := #[]) (mvT hZ (hw _ (List.mem_of_getElem? (i := 31) rfl)))) (mvT hZ (hw _ (List.mem_of_getElem? (i := 31) rfl))) (mvT hZ (hw _ (List.mem_of_getElem? (i := 30) rfl))) (by decide) (backOf (W := 0) (rm2 l Z a0 hw [] b102 p2 bf109 bt109 (1 : Int32) (1 : Int32) kt109 [(.int p1), (.int (0 : Int32)), (.int (0 : Int32)), (.int (0 : Int32)), (.int (0 : Int32)), (.int (0 : Int32)), (.int (0 : Int32)), (.int (0 : Int32)), (.int (0 : Int32)), (.int (0 : Int32)), (.int (0 : Int32)), (.int (0 : Int32)), (.int (0 : Int32)), (.int (0 : Int32)), (.int (0 : Int32)), (.int (0 : Int32))]  T143.heap n0 Zn143 f144 L103 lb109 nb109 fa143 fb143 fc143 fd143 f145 (by decide) ⟨by decide, by decide⟩ (Nat.le_of_ble_eq_true rfl)) hZ (hw _ (List.mem_of_getElem? (i := 32) rfl)) (hw _ (List.mem_of_getElem? (i := 2) rfl)) (by decide) (by decide)) q160a q160c (g := (mkF m 75 #[.val (.int p0), .val (.int p1), .val (.int p2), .val (.int (1 : Int32)), .val (.int (2 : Int32)), .val (.int (0 : Int32)), .val (.ref b102)] [(.int p2), (.ref b102)])) rfl (by rw [hml]; rfl) (Steps.refl _) (argsL := [(.int p2)]) (rest := []) (lenOf own_pd2 rfl) rfl (by show 2 * 0 + _ ≤ _; exact Nat.le_of_eq rfl) (hb hby at_75) (fun _ _ => ⟨rfl, rfl, (by decide : 3 + 0 ≤ _), (by decide : 37 + 0 ≤ _)⟩)
        dsimp only [Pt.U, Pt.locs, Pt.cells, Pt.slots] at X160 l160 y160 z160 st160 hQ160
        subst l160 y160 z160
        obtain ⟨rfl, Nq160, Kq160, fa160, fb160, fc160, fd160, vv160⟩ := hQ160
        have N160 := Fr.app N143 Nq160
        have f161 := f144.keep Kq160
        have f162 := vv143.keep Kq160 (ninS (Ne.symm na109) (ninS nc109 nin0))
        have Zn160 : n0 ≤ T160.heap.size := Nat.le_trans Zn143 Kq160.1
        have fa160 : Fld Z T160.heap b102 "com/example/mursyn/mursyn/synthesis/SuccessorLists" "first" "[I" (.ref bf109) := fa160
        have fb160 : Fld Z T160.heap b102 "com/example/mursyn/mursyn/synthesis/SuccessorLists" "targets" "[I" (.ref bt109) := fb160
        have fc160 : Fld Z T160.heap b102 "com/example/mursyn/mursyn/synthesis/SuccessorLists" "edgeCount" "I" (.int (2 : Int32)) := fc160
        have fd160 : Fld Z T160.heap b102 "com/example/mursyn/mursyn/synthesis/SuccessorLists" "listed" "I" (.int (1 : Int32)) := fd160
        have vv160 : Arv Z T160.heap bt109 kt109 .int (16 : Int32) [(.int p1), (.int p2), (.int (0 : Int32)), (.int (0 : Int32)), (.int (0 : Int32)), (.int (0 : Int32)), (.int (0 : Int32)), (.int (0 : Int32)), (.int (0 : Int32)), (.int (0 : Int32)), (.int (0 : Int32)), (.int (0 : Int32)), (.int (0 : Int32)), (.int (0 : Int32)), (.int (0 : Int32)), (.int (0 : Int32))] (.int (0 : Int32)) := vv160
        refine own_pre (fun t k => st160.trans k) ?_
        show own_Ends _ _ _ _ (T160.setTop (mkF m 78 #[.val (.int p0), .val (.int p1), .val (.int p2), .val (.int (1 : Int32)), .val (.int (2 : Int32)), .val (.int (0 : Int32)), .val (.ref b102)] []))
        refine own_pre (fun t k => XS.iload X160.here hx rfl (hb hby at_78) rfl k) ?_
        show own_Ends _ _ _ _ (T160.setTop (mkF m 80 #[.val (.int p0), .val (.int p1), .val (.int p2), .val (.int (1 : Int32)), .val (.int (2 : Int32)), .val (.int (0 : Int32)), .val (.ref b102)] [(.int (2 : Int32))]))
        refine own_pre (fun t k => XS.iconst X160.here hx rfl (hb hby at_80) k) ?_
        show own_Ends _ _ _ _ (T160.setTop (mkF m 81 #[.val (.int p0), .val (.int p1), .val (.int p2), .val (.int (1 : Int32)), .val (.int (2 : Int32)), .val (.int (0 : Int32)), .val (.ref b102)] [(.int (2 : Int32)), (.int (2 : Int32))]))
        refine own_pre (fun t k => XS.icmpNo X160.here hx rfl (hb hby at_81) rfl (flt ((by decide) : ¬ ((2 : Int32) < (2 : Int32)))).1 k) ?_
        show own_Ends _ _ _ _ (T160.setTop (mkF m 84 #[.val (.int p0), .val (.int p1), .val (.int p2), .val (.int (1 : Int32)), .val (.int (2 : Int32)), .val (.int (0 : Int32)), .val (.ref b102)] []))
        refine own_pre (fun t k => XS.aload X160.here hx rfl (hb hby at_84) rfl rfl k) ?_
        show own_Ends _ _ _ _ (T160.setTop (mkF m 86 #[.val (.int p0), .val (.int p1), .val (.int p2), .val (.int (1 : Int32)), .val (.int (2 : Int32)), .val (.int (0 : Int32)), .val (.ref b102)] [(.ref b102)]))
        refine own_pre (fun t k => XS.iloadN X160.here hx rfl (hb hby at_86) rfl k) ?_
        show own_Ends _ _ _ _ (T160.setTop (mkF m 87 #[.val (.int p0), .val (.int p1), .val (.int p2), .val (.int (1 : Int32)), .val (.int (2 : Int32)), .val (.int (0 : Int32)), .val (.ref b102)] [(.int p1), (.ref b102)]))
        obtain ⟨cq163, kq163, q163a, q163b, q163c⟩ := isOf hZ rfl f161
        obtain ⟨_, _, ⟨T163, L163, k163, n163⟩, -, X163, ⟨Lc163, hQ163, l163, y163, z163⟩, st163⟩ := X160.virtualBack hx (y := (⟨"com/example/mursyn/mursyn/synthesis/SuccessorLists", "add", "(I)V"⟩ : MethodName)) (z := (⟨"com/example/mursyn/mursyn/synthesis/SuccessorLists", "add", "(I)V"⟩ : MethodName)) hown (mvT hZ (hw _ (List.mem_of_getElem? (i := 28) rfl))) (mvT hZ (hw _ (List.mem_of_getElem? (i := 29) rfl))) (notFace_of_selects (args := #[]) (mvT hZ (hw _ (List.mem_of_getElem? (i := 31) rfl)))) (mvT hZ (hw _ (List.mem_of_getElem? (i := 31) rfl))) (mvT hZ (hw _ (List.mem_of_getElem? (i := 30) rfl))) (by decide) (backOf (W := 0) (rm2 l Z a0 hw [] b102 p1 bf109 bt109 (2 : Int32) (1 : Int32) kt109 [(.int p1), (.int p2), (.int (0 : Int32)), (.int (0 : Int32)), (.int (0 : Int32)), (.int (0 : Int32)), (.int (0 : Int32)), (.int (0 : Int32)), (.int (0 : Int32)), (.int (0 : Int32)), (.int (0 : Int32)), (.int (0 : Int32)), (.int (0 : Int32)), (.int (0 : Int32)), (.int (0 : Int32)), (.int (0 : Int32))]  T160.heap n0 Zn160 f161 L103 lb109 nb109 fa160 fb160 fc160 fd160 vv160 (by decide) ⟨by decide, by decide⟩ (Nat.le_of_ble_eq_true rfl)) hZ (hw _ (List.mem_of_getElem? (i := 32) rfl)) (hw _ (List.mem_of_getElem? (i := 2) rfl)) (by decide) (by decide)) q163a q163c (g := (mkF m 87 #[.val (.int p0), .val (.int p1), .val (.int p2), .val (.int (1 : Int32)), .val (.int (2 : Int32)), .val (.int (0 : Int32)), .val (.ref b102)] [(.int p1), (.ref b102)])) rfl (by rw [hml]; rfl) (Steps.refl _) (argsL := [(.int p1)]) (rest := []) (lenOf own_pd2 rfl) rfl (by show 2 * 0 + _ ≤ _; exact Nat.le_of_eq rfl) (hb hby at_87) (fun _ _ => ⟨rfl, rfl, (by decide : 3 + 0 ≤ _), (by decide : 37 + 0 ≤ _)⟩)
        dsimp only [Pt.U, Pt.locs, Pt.cells, Pt.slots] at X163 l163 y163 z163 st163 hQ163
        subst l163 y163 z163
        obtain ⟨rfl, Nq163, Kq163, fa163, fb163, fc163, fd163, vv163⟩ := hQ163
        have N163 := Fr.app N160 Nq163
        have f164 := f161.keep Kq163
        have f165 := f162.keep Kq163 (ninS (Ne.symm na109) (ninS nc109 nin0))
        have Zn163 : n0 ≤ T163.heap.size := Nat.le_trans Zn160 Kq163.1
        have fa163 : Fld Z T163.heap b102 "com/example/mursyn/mursyn/synthesis/SuccessorLists" "first" "[I" (.ref bf109) := fa163
        have fb163 : Fld Z T163.heap b102 "com/example/mursyn/mursyn/synthesis/SuccessorLists" "targets" "[I" (.ref bt109) := fb163
        have fc163 : Fld Z T163.heap b102 "com/example/mursyn/mursyn/synthesis/SuccessorLists" "edgeCount" "I" (.int (3 : Int32)) := fc163
        have fd163 : Fld Z T163.heap b102 "com/example/mursyn/mursyn/synthesis/SuccessorLists" "listed" "I" (.int (1 : Int32)) := fd163
        have vv163 : Arv Z T163.heap bt109 kt109 .int (16 : Int32) [(.int p1), (.int p2), (.int p1), (.int (0 : Int32)), (.int (0 : Int32)), (.int (0 : Int32)), (.int (0 : Int32)), (.int (0 : Int32)), (.int (0 : Int32)), (.int (0 : Int32)), (.int (0 : Int32)), (.int (0 : Int32)), (.int (0 : Int32)), (.int (0 : Int32)), (.int (0 : Int32)), (.int (0 : Int32))] (.int (0 : Int32)) := vv163
        refine own_pre (fun t k => st163.trans k) ?_
        show own_Ends _ _ _ _ (T163.setTop (mkF m 90 #[.val (.int p0), .val (.int p1), .val (.int p2), .val (.int (1 : Int32)), .val (.int (2 : Int32)), .val (.int (0 : Int32)), .val (.ref b102)] []))
        refine own_pre (fun t k => XS.aload X163.here hx rfl (hb hby at_90) rfl rfl k) ?_
        show own_Ends _ _ _ _ (T163.setTop (mkF m 92 #[.val (.int p0), .val (.int p1), .val (.int p2), .val (.int (1 : Int32)), .val (.int (2 : Int32)), .val (.int (0 : Int32)), .val (.ref b102)] [(.ref b102)]))
        obtain ⟨cq166, kq166, q166a, q166b, q166c⟩ := isOf hZ rfl f164
        obtain ⟨_, _, ⟨T166, L166, k166, n166⟩, -, X166, ⟨Lc166, hQ166, l166, y166, z166⟩, st166⟩ := X163.virtualBack hx (y := (⟨"com/example/mursyn/mursyn/synthesis/SuccessorLists", "close", "()V"⟩ : MethodName)) (z := (⟨"com/example/mursyn/mursyn/synthesis/SuccessorLists", "close", "()V"⟩ : MethodName)) hown (mvT hZ (hw _ (List.mem_of_getElem? (i := 14) rfl))) (mvT hZ (hw _ (List.mem_of_getElem? (i := 15) rfl))) (notFace_of_selects (args := #[]) (mvT hZ (hw _ (List.mem_of_getElem? (i := 17) rfl)))) (mvT hZ (hw _ (List.mem_of_getElem? (i := 17) rfl))) (mvT hZ (hw _ (List.mem_of_getElem? (i := 16) rfl))) (by decide) (backOf (W := 0) (rm3 l Z a0 hw [] b102 bf109 bt109 (3 : Int32) (1 : Int32) kf109 [(.int (0 : Int32)), (.int (1 : Int32)), (.int (0 : Int32)), (.int (0 : Int32)), (.int (0 : Int32)), (.int (0 : Int32)), (.int (0 : Int32)), (.int (0 : Int32)), (.int (0 : Int32)), (.int (0 : Int32)), (.int (0 : Int32)), (.int (0 : Int32)), (.int (0 : Int32)), (.int (0 : Int32)), (.int (0 : Int32)), (.int (0 : Int32)), (.int (0 : Int32))]  T163.heap n0 Zn163 f164 L103 la109 na109 fa163 fb163 fc163 fd163 f165 (by decide) ⟨by decide, by decide⟩ (Nat.le_of_ble_eq_true rfl)) hZ (hw _ (List.mem_of_getElem? (i := 18) rfl)) (hw _ (List.mem_of_getElem? (i := 2) rfl)) (by decide) (by decide)) q166a q166c (g := (mkF m 92 #[.val (.int p0), .val (.int p1), .val (.int p2), .val (.int (1 : Int32)), .val (.int (2 : Int32)), .val (.int (0 : Int32)), .val (.ref b102)] [(.ref b102)])) rfl (by rw [hml]; rfl) (Steps.refl _) (argsL := []) (rest := []) (lenOf own_pd0 rfl) rfl (by show 2 * 0 + _ ≤ _; exact Nat.le_of_eq rfl) (hb hby at_92) (fun _ _ => ⟨rfl, rfl, (by decide : 3 + 0 ≤ _), (by decide : 37 + 0 ≤ _)⟩)
        dsimp only [Pt.U, Pt.locs, Pt.cells, Pt.slots] at X166 l166 y166 z166 st166 hQ166
        subst l166 y166 z166
        obtain ⟨rfl, Nq166, Kq166, fa166, fb166, fc166, fd166, vv166⟩ := hQ166
        have N166 := Fr.app N163 Nq166
        have f167 := f164.keep Kq166
        have f168 := vv163.keep Kq166 (ninS (Ne.symm nb109) (ninS (Ne.symm nc109) nin0))
        have Zn166 : n0 ≤ T166.heap.size := Nat.le_trans Zn163 Kq166.1
        have fa166 : Fld Z T166.heap b102 "com/example/mursyn/mursyn/synthesis/SuccessorLists" "first" "[I" (.ref bf109) := fa166
        have fb166 : Fld Z T166.heap b102 "com/example/mursyn/mursyn/synthesis/SuccessorLists" "targets" "[I" (.ref bt109) := fb166
        have fc166 : Fld Z T166.heap b102 "com/example/mursyn/mursyn/synthesis/SuccessorLists" "edgeCount" "I" (.int (3 : Int32)) := fc166
        have fd166 : Fld Z T166.heap b102 "com/example/mursyn/mursyn/synthesis/SuccessorLists" "listed" "I" (.int (2 : Int32)) := fd166
        have vv166 : Arv Z T166.heap bf109 kf109 .int (17 : Int32) [(.int (0 : Int32)), (.int (1 : Int32)), (.int (3 : Int32)), (.int (0 : Int32)), (.int (0 : Int32)), (.int (0 : Int32)), (.int (0 : Int32)), (.int (0 : Int32)), (.int (0 : Int32)), (.int (0 : Int32)), (.int (0 : Int32)), (.int (0 : Int32)), (.int (0 : Int32)), (.int (0 : Int32)), (.int (0 : Int32)), (.int (0 : Int32)), (.int (0 : Int32))] (.int (0 : Int32)) := vv166
        refine own_pre (fun t k => st166.trans k) ?_
        show own_Ends _ _ _ _ (T166.setTop (mkF m 95 #[.val (.int p0), .val (.int p1), .val (.int p2), .val (.int (1 : Int32)), .val (.int (2 : Int32)), .val (.int (0 : Int32)), .val (.ref b102)] []))
        refine own_pre (fun t k => XS.iload X166.here hx rfl (hb hby at_95) rfl k) ?_
        show own_Ends _ _ _ _ (T166.setTop (mkF m 97 #[.val (.int p0), .val (.int p1), .val (.int p2), .val (.int (1 : Int32)), .val (.int (2 : Int32)), .val (.int (0 : Int32)), .val (.ref b102)] [(.int (0 : Int32))]))
        refine own_pre (fun t k => XS.ifYes X166.here hx rfl (pc0 := 97) (pc' := 106) rfl (hb hby at_97) rfl ((if0 _ _).trans (teq ((by decide) : (0 : Int32) = (0 : Int32))).1) (by decide) (by decide) k) ?_
        show own_Ends _ _ _ _ (T166.setTop (mkF m 106 #[.val (.int p0), .val (.int p1), .val (.int p2), .val (.int (1 : Int32)), .val (.int (2 : Int32)), .val (.int (0 : Int32)), .val (.ref b102)] []))
        refine own_pre (fun t k => XS.aload X166.here hx rfl (hb hby at_106) rfl rfl k) ?_
        show own_Ends _ _ _ _ (T166.setTop (mkF m 108 #[.val (.int p0), .val (.int p1), .val (.int p2), .val (.int (1 : Int32)), .val (.int (2 : Int32)), .val (.int (0 : Int32)), .val (.ref b102)] [(.ref b102)]))
        refine own_pre (fun t k => XS.iconst X166.here hx rfl (hb hby at_108) k) ?_
        show own_Ends _ _ _ _ (T166.setTop (mkF m 109 #[.val (.int p0), .val (.int p1), .val (.int p2), .val (.int (1 : Int32)), .val (.int (2 : Int32)), .val (.int (0 : Int32)), .val (.ref b102)] [(.int (0 : Int32)), (.ref b102)]))
        obtain ⟨cq169, kq169, q169a, q169b, q169c⟩ := isOf hZ rfl f167
        obtain ⟨_, _, ⟨T169, L169, k169, n169⟩, -, X169, ⟨Lc169, hQ169, l169, y169, z169⟩, st169⟩ := X166.virtualBack hx (y := (⟨"com/example/mursyn/mursyn/synthesis/SuccessorLists", "count", "(I)I"⟩ : MethodName)) (z := (⟨"com/example/mursyn/mursyn/synthesis/SuccessorLists", "count", "(I)I"⟩ : MethodName)) hown (mvT hZ (hw _ (List.mem_of_getElem? (i := 23) rfl))) (mvT hZ (hw _ (List.mem_of_getElem? (i := 24) rfl))) (notFace_of_selects (args := #[]) (mvT hZ (hw _ (List.mem_of_getElem? (i := 26) rfl)))) (mvT hZ (hw _ (List.mem_of_getElem? (i := 26) rfl))) (mvT hZ (hw _ (List.mem_of_getElem? (i := 25) rfl))) (by decide) (backOf (W := 0) (rm4 l Z a0 hw [] b102 (0 : Int32) bf109 kf109 [(.int (0 : Int32)), (.int (1 : Int32)), (.int (3 : Int32)), (.int (0 : Int32)), (.int (0 : Int32)), (.int (0 : Int32)), (.int (0 : Int32)), (.int (0 : Int32)), (.int (0 : Int32)), (.int (0 : Int32)), (.int (0 : Int32)), (.int (0 : Int32)), (.int (0 : Int32)), (.int (0 : Int32)), (.int (0 : Int32)), (.int (0 : Int32)), (.int (0 : Int32))] (1 : Int32) (0 : Int32) T166.heap n0 Zn166 fa166 vv166 ⟨by decide, by decide⟩ rfl ⟨by decide, by decide⟩ rfl) hZ (hw _ (List.mem_of_getElem? (i := 27) rfl)) (hw _ (List.mem_of_getElem? (i := 2) rfl)) (by decide) (by decide)) q169a q169c (g := (mkF m 109 #[.val (.int p0), .val (.int p1), .val (.int p2), .val (.int (1 : Int32)), .val (.int (2 : Int32)), .val (.int (0 : Int32)), .val (.ref b102)] [(.int (0 : Int32)), (.ref b102)])) rfl (by rw [hml]; rfl) (Steps.refl _) (argsL := [(.int (0 : Int32))]) (rest := []) (lenOf own_pd1 rfl) rfl (by show 2 * 0 + _ ≤ _; exact Nat.le_of_eq rfl) (hb hby at_109) (fun _ _ => ⟨rfl, rfl, (by decide : 3 + 0 ≤ _), (by decide : 37 + 0 ≤ _)⟩)
        dsimp only [Pt.U, Pt.locs, Pt.cells, Pt.slots] at X169 l169 y169 z169 st169 hQ169
        subst l169 y169 z169
        obtain ⟨rfl, Nq169, e169⟩ := hQ169
        have N169 := Fr.app N166 Nq169
        refine own_pre (fun t k => st169.trans k) ?_
        show own_Ends _ _ _ _ (T169.setTop (mkF m 112 #[.val (.int p0), .val (.int p1), .val (.int p2), .val (.int (1 : Int32)), .val (.int (2 : Int32)), .val (.int (0 : Int32)), .val (.ref b102)] [(.int (1 : Int32))]))
        refine own_pre (fun t k => XS.iloadN X169.here hx rfl (hb hby at_112) rfl k) ?_
        show own_Ends _ _ _ _ (T169.setTop (mkF m 113 #[.val (.int p0), .val (.int p1), .val (.int p2), .val (.int (1 : Int32)), .val (.int (2 : Int32)), .val (.int (0 : Int32)), .val (.ref b102)] [(.int (1 : Int32)), (.int (1 : Int32))]))
        refine own_pre (fun t k => XS.icmpNo X169.here hx rfl (hb hby at_113) rfl (teq ((by decide) : (1 : Int32) = (1 : Int32))).2 k) ?_
        show own_Ends _ _ _ _ (T169.setTop (mkF m 116 #[.val (.int p0), .val (.int p1), .val (.int p2), .val (.int (1 : Int32)), .val (.int (2 : Int32)), .val (.int (0 : Int32)), .val (.ref b102)] []))
        refine own_pre (fun t k => XS.aload X169.here hx rfl (hb hby at_116) rfl rfl k) ?_
        show own_Ends _ _ _ _ (T169.setTop (mkF m 118 #[.val (.int p0), .val (.int p1), .val (.int p2), .val (.int (1 : Int32)), .val (.int (2 : Int32)), .val (.int (0 : Int32)), .val (.ref b102)] [(.ref b102)]))
        refine own_pre (fun t k => XS.iconst X169.here hx rfl (hb hby at_118) k) ?_
        show own_Ends _ _ _ _ (T169.setTop (mkF m 119 #[.val (.int p0), .val (.int p1), .val (.int p2), .val (.int (1 : Int32)), .val (.int (2 : Int32)), .val (.int (0 : Int32)), .val (.ref b102)] [(.int (1 : Int32)), (.ref b102)]))
        obtain ⟨cq170, kq170, q170a, q170b, q170c⟩ := isOf hZ e169 f167
        obtain ⟨_, _, ⟨T170, L170, k170, n170⟩, -, X170, ⟨Lc170, hQ170, l170, y170, z170⟩, st170⟩ := X169.virtualBack hx (y := (⟨"com/example/mursyn/mursyn/synthesis/SuccessorLists", "count", "(I)I"⟩ : MethodName)) (z := (⟨"com/example/mursyn/mursyn/synthesis/SuccessorLists", "count", "(I)I"⟩ : MethodName)) hown (mvT hZ (hw _ (List.mem_of_getElem? (i := 23) rfl))) (mvT hZ (hw _ (List.mem_of_getElem? (i := 24) rfl))) (notFace_of_selects (args := #[]) (mvT hZ (hw _ (List.mem_of_getElem? (i := 26) rfl)))) (mvT hZ (hw _ (List.mem_of_getElem? (i := 26) rfl))) (mvT hZ (hw _ (List.mem_of_getElem? (i := 25) rfl))) (by decide) (backOf (W := 0) (rm4 l Z a0 hw [] b102 (1 : Int32) bf109 kf109 [(.int (0 : Int32)), (.int (1 : Int32)), (.int (3 : Int32)), (.int (0 : Int32)), (.int (0 : Int32)), (.int (0 : Int32)), (.int (0 : Int32)), (.int (0 : Int32)), (.int (0 : Int32)), (.int (0 : Int32)), (.int (0 : Int32)), (.int (0 : Int32)), (.int (0 : Int32)), (.int (0 : Int32)), (.int (0 : Int32)), (.int (0 : Int32)), (.int (0 : Int32))] (3 : Int32) (1 : Int32) T166.heap n0 Zn166 fa166 vv166 ⟨by decide, by decide⟩ rfl ⟨by decide, by decide⟩ rfl) hZ (hw _ (List.mem_of_getElem? (i := 27) rfl)) (hw _ (List.mem_of_getElem? (i := 2) rfl)) (by decide) (by decide)) q170a q170c (g := (mkF m 119 #[.val (.int p0), .val (.int p1), .val (.int p2), .val (.int (1 : Int32)), .val (.int (2 : Int32)), .val (.int (0 : Int32)), .val (.ref b102)] [(.int (1 : Int32)), (.ref b102)])) rfl (by rw [hml]; rfl) (Steps.refl _) (argsL := [(.int (1 : Int32))]) (rest := []) (lenOf own_pd1 rfl) rfl (by show 2 * 0 + _ ≤ _; exact Nat.le_of_eq rfl) (hb hby at_119) (fun _ _ => ⟨rfl, e169, (by decide : 3 + 0 ≤ _), (by decide : 37 + 0 ≤ _)⟩)
        dsimp only [Pt.U, Pt.locs, Pt.cells, Pt.slots] at X170 l170 y170 z170 st170 hQ170
        subst l170 y170 z170
        obtain ⟨rfl, Nq170, e170⟩ := hQ170
        have N170 := Fr.app N169 Nq170
        refine own_pre (fun t k => st170.trans k) ?_
        show own_Ends _ _ _ _ (T170.setTop (mkF m 122 #[.val (.int p0), .val (.int p1), .val (.int p2), .val (.int (1 : Int32)), .val (.int (2 : Int32)), .val (.int (0 : Int32)), .val (.ref b102)] [(.int (2 : Int32))]))
        refine own_pre (fun t k => XS.iload X170.here hx rfl (hb hby at_122) rfl k) ?_
        show own_Ends _ _ _ _ (T170.setTop (mkF m 124 #[.val (.int p0), .val (.int p1), .val (.int p2), .val (.int (1 : Int32)), .val (.int (2 : Int32)), .val (.int (0 : Int32)), .val (.ref b102)] [(.int (2 : Int32)), (.int (2 : Int32))]))
        refine own_pre (fun t k => XS.icmpNo X170.here hx rfl (hb hby at_124) rfl (teq ((by decide) : (2 : Int32) = (2 : Int32))).2 k) ?_
        show own_Ends _ _ _ _ (T170.setTop (mkF m 127 #[.val (.int p0), .val (.int p1), .val (.int p2), .val (.int (1 : Int32)), .val (.int (2 : Int32)), .val (.int (0 : Int32)), .val (.ref b102)] []))
        refine own_pre (fun t k => XS.iconst X170.here hx rfl (hb hby at_127) k) ?_
        show own_Ends _ _ _ _ (T170.setTop (mkF m 128 #[.val (.int p0), .val (.int p1), .val (.int p2), .val (.int (1 : Int32)), .val (.int (2 : Int32)), .val (.int (0 : Int32)), .val (.ref b102)] [(.int (1 : Int32))]))
        refine own_pre (fun t k => XS.goto X170.here hx rfl (pc0 := 128) (pc' := 132) rfl (hb hby at_128) (by decide) (by decide) k) ?_
        show own_Ends _ _ _ _ (T170.setTop (mkF m 132 #[.val (.int p0), .val (.int p1), .val (.int p2), .val (.int (1 : Int32)), .val (.int (2 : Int32)), .val (.int (0 : Int32)), .val (.ref b102)] [(.int (1 : Int32))]))
        exact own_retN X170 hx (t := .boolean) Bd.returns (by simp) (hb hby at_132) hlk rfl e170 ⟨rfl, N170⟩ (by decide) (by decide)
    · subst hs111
      show own_Ends _ _ _ _ (T109.setTop (mkF m 39 #[.val (.int p0), .val (.int p1), .val (.int p2), .val (.int (2 : Int32)), .val (.int x4), .val (.int (0 : Int32)), .val (.ref b102)] []))
      refine own_pre (fun t k => XS.iloadN X109.here hx rfl (hb hby at_39) rfl k) ?_
      show own_Ends _ _ _ _ (T109.setTop (mkF m 40 #[.val (.int p0), .val (.int p1), .val (.int p2), .val (.int (2 : Int32)), .val (.int x4), .val (.int (0 : Int32)), .val (.ref b102)] [(.int (2 : Int32))]))
      refine own_pre (fun t k => XS.iconst X109.here hx rfl (hb hby at_40) k) ?_
      show own_Ends _ _ _ _ (T109.setTop (mkF m 41 #[.val (.int p0), .val (.int p1), .val (.int p2), .val (.int (2 : Int32)), .val (.int x4), .val (.int (0 : Int32)), .val (.ref b102)] [(.int (1 : Int32)), (.int (2 : Int32))]))
      refine own_pre (fun t k => XS.icmpNo X109.here hx rfl (hb hby at_41) rfl (flt ((by decide) : ¬ ((2 : Int32) < (1 : Int32)))).1 k) ?_
      show own_Ends _ _ _ _ (T109.setTop (mkF m 44 #[.val (.int p0), .val (.int p1), .val (.int p2), .val (.int (2 : Int32)), .val (.int x4), .val (.int (0 : Int32)), .val (.ref b102)] []))
      refine own_pre (fun t k => XS.aload X109.here hx rfl (hb hby at_44) rfl rfl k) ?_
      show own_Ends _ _ _ _ (T109.setTop (mkF m 46 #[.val (.int p0), .val (.int p1), .val (.int p2), .val (.int (2 : Int32)), .val (.int x4), .val (.int (0 : Int32)), .val (.ref b102)] [(.ref b102)]))
      refine own_pre (fun t k => XS.iloadN X109.here hx rfl (hb hby at_46) rfl k) ?_
      show own_Ends _ _ _ _ (T109.setTop (mkF m 47 #[.val (.int p0), .val (.int p1), .val (.int p2), .val (.int (2 : Int32)), .val (.int x4), .val (.int (0 : Int32)), .val (.ref b102)] [(.int p1), (.ref b102)]))
      obtain ⟨cq171, kq171, q171a, q171b, q171c⟩ := isOf hZ rfl f110
      obtain ⟨_, _, ⟨T171, L171, k171, n171⟩, -, X171, ⟨Lc171, hQ171, l171, y171, z171⟩, st171⟩ := X109.virtualBack hx (y := (⟨"com/example/mursyn/mursyn/synthesis/SuccessorLists", "add", "(I)V"⟩ : MethodName)) (z := (⟨"com/example/mursyn/mursyn/synthesis/SuccessorLists", "add", "(I)V"⟩ : MethodName)) hown (mvT hZ (hw _ (List.mem_of_getElem? (i := 28) rfl))) (mvT hZ (hw _ (List.mem_of_getElem? (i := 29) rfl))) (notFace_of_selects (args := #[]) (mvT hZ (hw _ (List.mem_of_getElem? (i := 31) rfl)))) (mvT hZ (hw _ (List.mem_of_getElem? (i := 31) rfl))) (mvT hZ (hw _ (List.mem_of_getElem? (i := 30) rfl))) (by decide) (backOf (W := 0) (rm2 l Z a0 hw [] b102 p1 bf109 bt109 (0 : Int32) (0 : Int32) kt109 [(.int (0 : Int32)), (.int (0 : Int32)), (.int (0 : Int32)), (.int (0 : Int32)), (.int (0 : Int32)), (.int (0 : Int32)), (.int (0 : Int32)), (.int (0 : Int32)), (.int (0 : Int32)), (.int (0 : Int32)), (.int (0 : Int32)), (.int (0 : Int32)), (.int (0 : Int32)), (.int (0 : Int32)), (.int (0 : Int32)), (.int (0 : Int32))]  T109.heap n0 Zn109 f110 L103 lb109 nb109 fa109 fb109 fc109 fd109 vb109 (by decide) ⟨by decide, by decide⟩ (Nat.le_of_ble_eq_true rfl)) hZ (hw _ (List.mem_of_getElem? (i := 32) rfl)) (hw _ (List.mem_of_getElem? (i := 2) rfl)) (by decide) (by decide)) q171a q171c (g := (mkF m 47 #[.val (.int p0), .val (.int p1), .val (.int p2), .val (.int (2 : Int32)), .val (.int x4), .val (.int (0 : Int32)), .val (.ref b102)] [(.int p1), (.ref b102)])) rfl (by rw [hml]; rfl) (Steps.refl _) (argsL := [(.int p1)]) (rest := []) (lenOf own_pd2 rfl) rfl (by show 2 * 0 + _ ≤ _; exact Nat.le_of_eq rfl) (hb hby at_47) (fun _ _ => ⟨rfl, rfl, (by decide : 3 + 0 ≤ _), (by decide : 37 + 0 ≤ _)⟩)
      dsimp only [Pt.U, Pt.locs, Pt.cells, Pt.slots] at X171 l171 y171 z171 st171 hQ171
      subst l171 y171 z171
      obtain ⟨rfl, Nq171, Kq171, fa171, fb171, fc171, fd171, vv171⟩ := hQ171
      have N171 := Fr.app N109 Nq171
      have f172 := f110.keep Kq171
      have f173 := va109.keep Kq171 (ninS (Ne.symm na109) (ninS nc109 nin0))
      have Zn171 : n0 ≤ T171.heap.size := Nat.le_trans Zn109 Kq171.1
      have fa171 : Fld Z T171.heap b102 "com/example/mursyn/mursyn/synthesis/SuccessorLists" "first" "[I" (.ref bf109) := fa171
      have fb171 : Fld Z T171.heap b102 "com/example/mursyn/mursyn/synthesis/SuccessorLists" "targets" "[I" (.ref bt109) := fb171
      have fc171 : Fld Z T171.heap b102 "com/example/mursyn/mursyn/synthesis/SuccessorLists" "edgeCount" "I" (.int (1 : Int32)) := fc171
      have fd171 : Fld Z T171.heap b102 "com/example/mursyn/mursyn/synthesis/SuccessorLists" "listed" "I" (.int (0 : Int32)) := fd171
      have vv171 : Arv Z T171.heap bt109 kt109 .int (16 : Int32) [(.int p1), (.int (0 : Int32)), (.int (0 : Int32)), (.int (0 : Int32)), (.int (0 : Int32)), (.int (0 : Int32)), (.int (0 : Int32)), (.int (0 : Int32)), (.int (0 : Int32)), (.int (0 : Int32)), (.int (0 : Int32)), (.int (0 : Int32)), (.int (0 : Int32)), (.int (0 : Int32)), (.int (0 : Int32)), (.int (0 : Int32))] (.int (0 : Int32)) := vv171
      refine own_pre (fun t k => st171.trans k) ?_
      show own_Ends _ _ _ _ (T171.setTop (mkF m 50 #[.val (.int p0), .val (.int p1), .val (.int p2), .val (.int (2 : Int32)), .val (.int x4), .val (.int (0 : Int32)), .val (.ref b102)] []))
      refine own_pre (fun t k => XS.iloadN X171.here hx rfl (hb hby at_50) rfl k) ?_
      show own_Ends _ _ _ _ (T171.setTop (mkF m 51 #[.val (.int p0), .val (.int p1), .val (.int p2), .val (.int (2 : Int32)), .val (.int x4), .val (.int (0 : Int32)), .val (.ref b102)] [(.int (2 : Int32))]))
      refine own_pre (fun t k => XS.iconst X171.here hx rfl (hb hby at_51) k) ?_
      show own_Ends _ _ _ _ (T171.setTop (mkF m 52 #[.val (.int p0), .val (.int p1), .val (.int p2), .val (.int (2 : Int32)), .val (.int x4), .val (.int (0 : Int32)), .val (.ref b102)] [(.int (2 : Int32)), (.int (2 : Int32))]))
      refine own_pre (fun t k => XS.icmpNo X171.here hx rfl (hb hby at_52) rfl (flt ((by decide) : ¬ ((2 : Int32) < (2 : Int32)))).1 k) ?_
      show own_Ends _ _ _ _ (T171.setTop (mkF m 55 #[.val (.int p0), .val (.int p1), .val (.int p2), .val (.int (2 : Int32)), .val (.int x4), .val (.int (0 : Int32)), .val (.ref b102)] []))
      refine own_pre (fun t k => XS.aload X171.here hx rfl (hb hby at_55) rfl rfl k) ?_
      show own_Ends _ _ _ _ (T171.setTop (mkF m 57 #[.val (.int p0), .val (.int p1), .val (.int p2), .val (.int (2 : Int32)), .val (.int x4), .val (.int (0 : Int32)), .val (.ref b102)] [(.ref b102)]))
      refine own_pre (fun t k => XS.iloadN X171.here hx rfl (hb hby at_57) rfl k) ?_
      show own_Ends _ _ _ _ (T171.setTop (mkF m 58 #[.val (.int p0), .val (.int p1), .val (.int p2), .val (.int (2 : Int32)), .val (.int x4), .val (.int (0 : Int32)), .val (.ref b102)] [(.int p2), (.ref b102)]))
      obtain ⟨cq174, kq174, q174a, q174b, q174c⟩ := isOf hZ rfl f172
      obtain ⟨_, _, ⟨T174, L174, k174, n174⟩, -, X174, ⟨Lc174, hQ174, l174, y174, z174⟩, st174⟩ := X171.virtualBack hx (y := (⟨"com/example/mursyn/mursyn/synthesis/SuccessorLists", "add", "(I)V"⟩ : MethodName)) (z := (⟨"com/example/mursyn/mursyn/synthesis/SuccessorLists", "add", "(I)V"⟩ : MethodName)) hown (mvT hZ (hw _ (List.mem_of_getElem? (i := 28) rfl))) (mvT hZ (hw _ (List.mem_of_getElem? (i := 29) rfl))) (notFace_of_selects (args := #[]) (mvT hZ (hw _ (List.mem_of_getElem? (i := 31) rfl)))) (mvT hZ (hw _ (List.mem_of_getElem? (i := 31) rfl))) (mvT hZ (hw _ (List.mem_of_getElem? (i := 30) rfl))) (by decide) (backOf (W := 0) (rm2 l Z a0 hw [] b102 p2 bf109 bt109 (1 : Int32) (0 : Int32) kt109 [(.int p1), (.int (0 : Int32)), (.int (0 : Int32)), (.int (0 : Int32)), (.int (0 : Int32)), (.int (0 : Int32)), (.int (0 : Int32)), (.int (0 : Int32)), (.int (0 : Int32)), (.int (0 : Int32)), (.int (0 : Int32)), (.int (0 : Int32)), (.int (0 : Int32)), (.int (0 : Int32)), (.int (0 : Int32)), (.int (0 : Int32))]  T171.heap n0 Zn171 f172 L103 lb109 nb109 fa171 fb171 fc171 fd171 vv171 (by decide) ⟨by decide, by decide⟩ (Nat.le_of_ble_eq_true rfl)) hZ (hw _ (List.mem_of_getElem? (i := 32) rfl)) (hw _ (List.mem_of_getElem? (i := 2) rfl)) (by decide) (by decide)) q174a q174c (g := (mkF m 58 #[.val (.int p0), .val (.int p1), .val (.int p2), .val (.int (2 : Int32)), .val (.int x4), .val (.int (0 : Int32)), .val (.ref b102)] [(.int p2), (.ref b102)])) rfl (by rw [hml]; rfl) (Steps.refl _) (argsL := [(.int p2)]) (rest := []) (lenOf own_pd2 rfl) rfl (by show 2 * 0 + _ ≤ _; exact Nat.le_of_eq rfl) (hb hby at_58) (fun _ _ => ⟨rfl, rfl, (by decide : 3 + 0 ≤ _), (by decide : 37 + 0 ≤ _)⟩)
      dsimp only [Pt.U, Pt.locs, Pt.cells, Pt.slots] at X174 l174 y174 z174 st174 hQ174
      subst l174 y174 z174
      obtain ⟨rfl, Nq174, Kq174, fa174, fb174, fc174, fd174, vv174⟩ := hQ174
      have N174 := Fr.app N171 Nq174
      have f175 := f172.keep Kq174
      have f176 := f173.keep Kq174 (ninS (Ne.symm na109) (ninS nc109 nin0))
      have Zn174 : n0 ≤ T174.heap.size := Nat.le_trans Zn171 Kq174.1
      have fa174 : Fld Z T174.heap b102 "com/example/mursyn/mursyn/synthesis/SuccessorLists" "first" "[I" (.ref bf109) := fa174
      have fb174 : Fld Z T174.heap b102 "com/example/mursyn/mursyn/synthesis/SuccessorLists" "targets" "[I" (.ref bt109) := fb174
      have fc174 : Fld Z T174.heap b102 "com/example/mursyn/mursyn/synthesis/SuccessorLists" "edgeCount" "I" (.int (2 : Int32)) := fc174
      have fd174 : Fld Z T174.heap b102 "com/example/mursyn/mursyn/synthesis/SuccessorLists" "listed" "I" (.int (0 : Int32)) := fd174
      have vv174 : Arv Z T174.heap bt109 kt109 .int (16 : Int32) [(.int p1), (.int p2), (.int (0 : Int32)), (.int (0 : Int32)), (.int (0 : Int32)), (.int (0 : Int32)), (.int (0 : Int32)), (.int (0 : Int32)), (.int (0 : Int32)), (.int (0 : Int32)), (.int (0 : Int32)), (.int (0 : Int32)), (.int (0 : Int32)), (.int (0 : Int32)), (.int (0 : Int32)), (.int (0 : Int32))] (.int (0 : Int32)) := vv174
      refine own_pre (fun t k => st174.trans k) ?_
      show own_Ends _ _ _ _ (T174.setTop (mkF m 61 #[.val (.int p0), .val (.int p1), .val (.int p2), .val (.int (2 : Int32)), .val (.int x4), .val (.int (0 : Int32)), .val (.ref b102)] []))
      refine own_pre (fun t k => XS.aload X174.here hx rfl (hb hby at_61) rfl rfl k) ?_
      show own_Ends _ _ _ _ (T174.setTop (mkF m 63 #[.val (.int p0), .val (.int p1), .val (.int p2), .val (.int (2 : Int32)), .val (.int x4), .val (.int (0 : Int32)), .val (.ref b102)] [(.ref b102)]))
      obtain ⟨cq177, kq177, q177a, q177b, q177c⟩ := isOf hZ rfl f175
      obtain ⟨_, _, ⟨T177, L177, k177, n177⟩, -, X177, ⟨Lc177, hQ177, l177, y177, z177⟩, st177⟩ := X174.virtualBack hx (y := (⟨"com/example/mursyn/mursyn/synthesis/SuccessorLists", "close", "()V"⟩ : MethodName)) (z := (⟨"com/example/mursyn/mursyn/synthesis/SuccessorLists", "close", "()V"⟩ : MethodName)) hown (mvT hZ (hw _ (List.mem_of_getElem? (i := 14) rfl))) (mvT hZ (hw _ (List.mem_of_getElem? (i := 15) rfl))) (notFace_of_selects (args := #[]) (mvT hZ (hw _ (List.mem_of_getElem? (i := 17) rfl)))) (mvT hZ (hw _ (List.mem_of_getElem? (i := 17) rfl))) (mvT hZ (hw _ (List.mem_of_getElem? (i := 16) rfl))) (by decide) (backOf (W := 0) (rm3 l Z a0 hw [] b102 bf109 bt109 (2 : Int32) (0 : Int32) kf109 [(.int (0 : Int32)), (.int (0 : Int32)), (.int (0 : Int32)), (.int (0 : Int32)), (.int (0 : Int32)), (.int (0 : Int32)), (.int (0 : Int32)), (.int (0 : Int32)), (.int (0 : Int32)), (.int (0 : Int32)), (.int (0 : Int32)), (.int (0 : Int32)), (.int (0 : Int32)), (.int (0 : Int32)), (.int (0 : Int32)), (.int (0 : Int32)), (.int (0 : Int32))]  T174.heap n0 Zn174 f175 L103 la109 na109 fa174 fb174 fc174 fd174 f176 (by decide) ⟨by decide, by decide⟩ (Nat.le_of_ble_eq_true rfl)) hZ (hw _ (List.mem_of_getElem? (i := 18) rfl)) (hw _ (List.mem_of_getElem? (i := 2) rfl)) (by decide) (by decide)) q177a q177c (g := (mkF m 63 #[.val (.int p0), .val (.int p1), .val (.int p2), .val (.int (2 : Int32)), .val (.int x4), .val (.int (0 : Int32)), .val (.ref b102)] [(.ref b102)])) rfl (by rw [hml]; rfl) (Steps.refl _) (argsL := []) (rest := []) (lenOf own_pd0 rfl) rfl (by show 2 * 0 + _ ≤ _; exact Nat.le_of_eq rfl) (hb hby at_63) (fun _ _ => ⟨rfl, rfl, (by decide : 3 + 0 ≤ _), (by decide : 37 + 0 ≤ _)⟩)
      dsimp only [Pt.U, Pt.locs, Pt.cells, Pt.slots] at X177 l177 y177 z177 st177 hQ177
      subst l177 y177 z177
      obtain ⟨rfl, Nq177, Kq177, fa177, fb177, fc177, fd177, vv177⟩ := hQ177
      have N177 := Fr.app N174 Nq177
      have f178 := f175.keep Kq177
      have f179 := vv174.keep Kq177 (ninS (Ne.symm nb109) (ninS (Ne.symm nc109) nin0))
      have Zn177 : n0 ≤ T177.heap.size := Nat.le_trans Zn174 Kq177.1
      have fa177 : Fld Z T177.heap b102 "com/example/mursyn/mursyn/synthesis/SuccessorLists" "first" "[I" (.ref bf109) := fa177
      have fb177 : Fld Z T177.heap b102 "com/example/mursyn/mursyn/synthesis/SuccessorLists" "targets" "[I" (.ref bt109) := fb177
      have fc177 : Fld Z T177.heap b102 "com/example/mursyn/mursyn/synthesis/SuccessorLists" "edgeCount" "I" (.int (2 : Int32)) := fc177
      have fd177 : Fld Z T177.heap b102 "com/example/mursyn/mursyn/synthesis/SuccessorLists" "listed" "I" (.int (1 : Int32)) := fd177
      have vv177 : Arv Z T177.heap bf109 kf109 .int (17 : Int32) [(.int (0 : Int32)), (.int (2 : Int32)), (.int (0 : Int32)), (.int (0 : Int32)), (.int (0 : Int32)), (.int (0 : Int32)), (.int (0 : Int32)), (.int (0 : Int32)), (.int (0 : Int32)), (.int (0 : Int32)), (.int (0 : Int32)), (.int (0 : Int32)), (.int (0 : Int32)), (.int (0 : Int32)), (.int (0 : Int32)), (.int (0 : Int32)), (.int (0 : Int32))] (.int (0 : Int32)) := vv177
      refine own_pre (fun t k => st177.trans k) ?_
      show own_Ends _ _ _ _ (T177.setTop (mkF m 66 #[.val (.int p0), .val (.int p1), .val (.int p2), .val (.int (2 : Int32)), .val (.int x4), .val (.int (0 : Int32)), .val (.ref b102)] []))
      rcases own_c3 hx4 with hs180 | hs180 | hs180
      · subst hs180
        show own_Ends _ _ _ _ (T177.setTop (mkF m 66 #[.val (.int p0), .val (.int p1), .val (.int p2), .val (.int (2 : Int32)), .val (.int (0 : Int32)), .val (.int (0 : Int32)), .val (.ref b102)] []))
        refine own_pre (fun t k => XS.iload X177.here hx rfl (hb hby at_66) rfl k) ?_
        show own_Ends _ _ _ _ (T177.setTop (mkF m 68 #[.val (.int p0), .val (.int p1), .val (.int p2), .val (.int (2 : Int32)), .val (.int (0 : Int32)), .val (.int (0 : Int32)), .val (.ref b102)] [(.int (0 : Int32))]))
        refine own_pre (fun t k => XS.iconst X177.here hx rfl (hb hby at_68) k) ?_
        show own_Ends _ _ _ _ (T177.setTop (mkF m 69 #[.val (.int p0), .val (.int p1), .val (.int p2), .val (.int (2 : Int32)), .val (.int (0 : Int32)), .val (.int (0 : Int32)), .val (.ref b102)] [(.int (1 : Int32)), (.int (0 : Int32))]))
        refine own_pre (fun t k => XS.icmpYes X177.here hx rfl (pc0 := 69) (pc' := 78) rfl (hb hby at_69) rfl (tlt ((by decide) : (0 : Int32) < (1 : Int32))).1 (by decide) (by decide) k) ?_
        show own_Ends _ _ _ _ (T177.setTop (mkF m 78 #[.val (.int p0), .val (.int p1), .val (.int p2), .val (.int (2 : Int32)), .val (.int (0 : Int32)), .val (.int (0 : Int32)), .val (.ref b102)] []))
        refine own_pre (fun t k => XS.iload X177.here hx rfl (hb hby at_78) rfl k) ?_
        show own_Ends _ _ _ _ (T177.setTop (mkF m 80 #[.val (.int p0), .val (.int p1), .val (.int p2), .val (.int (2 : Int32)), .val (.int (0 : Int32)), .val (.int (0 : Int32)), .val (.ref b102)] [(.int (0 : Int32))]))
        refine own_pre (fun t k => XS.iconst X177.here hx rfl (hb hby at_80) k) ?_
        show own_Ends _ _ _ _ (T177.setTop (mkF m 81 #[.val (.int p0), .val (.int p1), .val (.int p2), .val (.int (2 : Int32)), .val (.int (0 : Int32)), .val (.int (0 : Int32)), .val (.ref b102)] [(.int (2 : Int32)), (.int (0 : Int32))]))
        refine own_pre (fun t k => XS.icmpYes X177.here hx rfl (pc0 := 81) (pc' := 90) rfl (hb hby at_81) rfl (tlt ((by decide) : (0 : Int32) < (2 : Int32))).1 (by decide) (by decide) k) ?_
        show own_Ends _ _ _ _ (T177.setTop (mkF m 90 #[.val (.int p0), .val (.int p1), .val (.int p2), .val (.int (2 : Int32)), .val (.int (0 : Int32)), .val (.int (0 : Int32)), .val (.ref b102)] []))
        refine own_pre (fun t k => XS.aload X177.here hx rfl (hb hby at_90) rfl rfl k) ?_
        show own_Ends _ _ _ _ (T177.setTop (mkF m 92 #[.val (.int p0), .val (.int p1), .val (.int p2), .val (.int (2 : Int32)), .val (.int (0 : Int32)), .val (.int (0 : Int32)), .val (.ref b102)] [(.ref b102)]))
        obtain ⟨cq181, kq181, q181a, q181b, q181c⟩ := isOf hZ rfl f178
        obtain ⟨_, _, ⟨T181, L181, k181, n181⟩, -, X181, ⟨Lc181, hQ181, l181, y181, z181⟩, st181⟩ := X177.virtualBack hx (y := (⟨"com/example/mursyn/mursyn/synthesis/SuccessorLists", "close", "()V"⟩ : MethodName)) (z := (⟨"com/example/mursyn/mursyn/synthesis/SuccessorLists", "close", "()V"⟩ : MethodName)) hown (mvT hZ (hw _ (List.mem_of_getElem? (i := 14) rfl))) (mvT hZ (hw _ (List.mem_of_getElem? (i := 15) rfl))) (notFace_of_selects (args := #[]) (mvT hZ (hw _ (List.mem_of_getElem? (i := 17) rfl)))) (mvT hZ (hw _ (List.mem_of_getElem? (i := 17) rfl))) (mvT hZ (hw _ (List.mem_of_getElem? (i := 16) rfl))) (by decide) (backOf (W := 0) (rm3 l Z a0 hw [] b102 bf109 bt109 (2 : Int32) (1 : Int32) kf109 [(.int (0 : Int32)), (.int (2 : Int32)), (.int (0 : Int32)), (.int (0 : Int32)), (.int (0 : Int32)), (.int (0 : Int32)), (.int (0 : Int32)), (.int (0 : Int32)), (.int (0 : Int32)), (.int (0 : Int32)), (.int (0 : Int32)), (.int (0 : Int32)), (.int (0 : Int32)), (.int (0 : Int32)), (.int (0 : Int32)), (.int (0 : Int32)), (.int (0 : Int32))]  T177.heap n0 Zn177 f178 L103 la109 na109 fa177 fb177 fc177 fd177 vv177 (by decide) ⟨by decide, by decide⟩ (Nat.le_of_ble_eq_true rfl)) hZ (hw _ (List.mem_of_getElem? (i := 18) rfl)) (hw _ (List.mem_of_getElem? (i := 2) rfl)) (by decide) (by decide)) q181a q181c (g := (mkF m 92 #[.val (.int p0), .val (.int p1), .val (.int p2), .val (.int (2 : Int32)), .val (.int (0 : Int32)), .val (.int (0 : Int32)), .val (.ref b102)] [(.ref b102)])) rfl (by rw [hml]; rfl) (Steps.refl _) (argsL := []) (rest := []) (lenOf own_pd0 rfl) rfl (by show 2 * 0 + _ ≤ _; exact Nat.le_of_eq rfl) (hb hby at_92) (fun _ _ => ⟨rfl, rfl, (by decide : 3 + 0 ≤ _), (by decide : 37 + 0 ≤ _)⟩)
        dsimp only [Pt.U, Pt.locs, Pt.cells, Pt.slots] at X181 l181 y181 z181 st181 hQ181
        subst l181 y181 z181
        obtain ⟨rfl, Nq181, Kq181, fa181, fb181, fc181, fd181, vv181⟩ := hQ181
        have N181 := Fr.app N177 Nq181
        have f182 := f178.keep Kq181
        have f183 := f179.keep Kq181 (ninS (Ne.symm nb109) (ninS (Ne.symm nc109) nin0))
        have Zn181 : n0 ≤ T181.heap.size := Nat.le_trans Zn177 Kq181.1
        have fa181 : Fld Z T181.heap b102 "com/example/mursyn/mursyn/synthesis/SuccessorLists" "first" "[I" (.ref bf109) := fa181
        have fb181 : Fld Z T181.heap b102 "com/example/mursyn/mursyn/synthesis/SuccessorLists" "targets" "[I" (.ref bt109) := fb181
        have fc181 : Fld Z T181.heap b102 "com/example/mursyn/mursyn/synthesis/SuccessorLists" "edgeCount" "I" (.int (2 : Int32)) := fc181
        have fd181 : Fld Z T181.heap b102 "com/example/mursyn/mursyn/synthesis/SuccessorLists" "listed" "I" (.int (2 : Int32)) := fd181
        have vv181 : Arv Z T181.heap bf109 kf109 .int (17 : Int32) [(.int (0 : Int32)), (.int (2 : Int32)), (.int (2 : Int32)), (.int (0 : Int32)), (.int (0 : Int32)), (.int (0 : Int32)), (.int (0 : Int32)), (.int (0 : Int32)), (.int (0 : Int32)), (.int (0 : Int32)), (.int (0 : Int32)), (.int (0 : Int32)), (.int (0 : Int32)), (.int (0 : Int32)), (.int (0 : Int32)), (.int (0 : Int32)), (.int (0 : Int32))] (.int (0 : Int32)) := vv181
        refine own_pre (fun t k => st181.trans k) ?_
        show own_Ends _ _ _ _ (T181.setTop (mkF m 95 #[.val (.int p0), .val (.int p1), .val (.int p2), .val (.int (2 : Int32)), .val (.int (0 : Int32)), .val (.int (0 : Int32)), .val (.ref b102)] []))
        refine own_pre (fun t k => XS.iload X181.here hx rfl (hb hby at_95) rfl k) ?_
        show own_Ends _ _ _ _ (T181.setTop (mkF m 97 #[.val (.int p0), .val (.int p1), .val (.int p2), .val (.int (2 : Int32)), .val (.int (0 : Int32)), .val (.int (0 : Int32)), .val (.ref b102)] [(.int (0 : Int32))]))
        refine own_pre (fun t k => XS.ifYes X181.here hx rfl (pc0 := 97) (pc' := 106) rfl (hb hby at_97) rfl ((if0 _ _).trans (teq ((by decide) : (0 : Int32) = (0 : Int32))).1) (by decide) (by decide) k) ?_
        show own_Ends _ _ _ _ (T181.setTop (mkF m 106 #[.val (.int p0), .val (.int p1), .val (.int p2), .val (.int (2 : Int32)), .val (.int (0 : Int32)), .val (.int (0 : Int32)), .val (.ref b102)] []))
        refine own_pre (fun t k => XS.aload X181.here hx rfl (hb hby at_106) rfl rfl k) ?_
        show own_Ends _ _ _ _ (T181.setTop (mkF m 108 #[.val (.int p0), .val (.int p1), .val (.int p2), .val (.int (2 : Int32)), .val (.int (0 : Int32)), .val (.int (0 : Int32)), .val (.ref b102)] [(.ref b102)]))
        refine own_pre (fun t k => XS.iconst X181.here hx rfl (hb hby at_108) k) ?_
        show own_Ends _ _ _ _ (T181.setTop (mkF m 109 #[.val (.int p0), .val (.int p1), .val (.int p2), .val (.int (2 : Int32)), .val (.int (0 : Int32)), .val (.int (0 : Int32)), .val (.ref b102)] [(.int (0 : Int32)), (.ref b102)]))
        obtain ⟨cq184, kq184, q184a, q184b, q184c⟩ := isOf hZ rfl f182
        obtain ⟨_, _, ⟨T184, L184, k184, n184⟩, -, X184, ⟨Lc184, hQ184, l184, y184, z184⟩, st184⟩ := X181.virtualBack hx (y := (⟨"com/example/mursyn/mursyn/synthesis/SuccessorLists", "count", "(I)I"⟩ : MethodName)) (z := (⟨"com/example/mursyn/mursyn/synthesis/SuccessorLists", "count", "(I)I"⟩ : MethodName)) hown (mvT hZ (hw _ (List.mem_of_getElem? (i := 23) rfl))) (mvT hZ (hw _ (List.mem_of_getElem? (i := 24) rfl))) (notFace_of_selects (args := #[]) (mvT hZ (hw _ (List.mem_of_getElem? (i := 26) rfl)))) (mvT hZ (hw _ (List.mem_of_getElem? (i := 26) rfl))) (mvT hZ (hw _ (List.mem_of_getElem? (i := 25) rfl))) (by decide) (backOf (W := 0) (rm4 l Z a0 hw [] b102 (0 : Int32) bf109 kf109 [(.int (0 : Int32)), (.int (2 : Int32)), (.int (2 : Int32)), (.int (0 : Int32)), (.int (0 : Int32)), (.int (0 : Int32)), (.int (0 : Int32)), (.int (0 : Int32)), (.int (0 : Int32)), (.int (0 : Int32)), (.int (0 : Int32)), (.int (0 : Int32)), (.int (0 : Int32)), (.int (0 : Int32)), (.int (0 : Int32)), (.int (0 : Int32)), (.int (0 : Int32))] (2 : Int32) (0 : Int32) T181.heap n0 Zn181 fa181 vv181 ⟨by decide, by decide⟩ rfl ⟨by decide, by decide⟩ rfl) hZ (hw _ (List.mem_of_getElem? (i := 27) rfl)) (hw _ (List.mem_of_getElem? (i := 2) rfl)) (by decide) (by decide)) q184a q184c (g := (mkF m 109 #[.val (.int p0), .val (.int p1), .val (.int p2), .val (.int (2 : Int32)), .val (.int (0 : Int32)), .val (.int (0 : Int32)), .val (.ref b102)] [(.int (0 : Int32)), (.ref b102)])) rfl (by rw [hml]; rfl) (Steps.refl _) (argsL := [(.int (0 : Int32))]) (rest := []) (lenOf own_pd1 rfl) rfl (by show 2 * 0 + _ ≤ _; exact Nat.le_of_eq rfl) (hb hby at_109) (fun _ _ => ⟨rfl, rfl, (by decide : 3 + 0 ≤ _), (by decide : 37 + 0 ≤ _)⟩)
        dsimp only [Pt.U, Pt.locs, Pt.cells, Pt.slots] at X184 l184 y184 z184 st184 hQ184
        subst l184 y184 z184
        obtain ⟨rfl, Nq184, e184⟩ := hQ184
        have N184 := Fr.app N181 Nq184
        refine own_pre (fun t k => st184.trans k) ?_
        show own_Ends _ _ _ _ (T184.setTop (mkF m 112 #[.val (.int p0), .val (.int p1), .val (.int p2), .val (.int (2 : Int32)), .val (.int (0 : Int32)), .val (.int (0 : Int32)), .val (.ref b102)] [(.int (2 : Int32))]))
        refine own_pre (fun t k => XS.iloadN X184.here hx rfl (hb hby at_112) rfl k) ?_
        show own_Ends _ _ _ _ (T184.setTop (mkF m 113 #[.val (.int p0), .val (.int p1), .val (.int p2), .val (.int (2 : Int32)), .val (.int (0 : Int32)), .val (.int (0 : Int32)), .val (.ref b102)] [(.int (2 : Int32)), (.int (2 : Int32))]))
        refine own_pre (fun t k => XS.icmpNo X184.here hx rfl (hb hby at_113) rfl (teq ((by decide) : (2 : Int32) = (2 : Int32))).2 k) ?_
        show own_Ends _ _ _ _ (T184.setTop (mkF m 116 #[.val (.int p0), .val (.int p1), .val (.int p2), .val (.int (2 : Int32)), .val (.int (0 : Int32)), .val (.int (0 : Int32)), .val (.ref b102)] []))
        refine own_pre (fun t k => XS.aload X184.here hx rfl (hb hby at_116) rfl rfl k) ?_
        show own_Ends _ _ _ _ (T184.setTop (mkF m 118 #[.val (.int p0), .val (.int p1), .val (.int p2), .val (.int (2 : Int32)), .val (.int (0 : Int32)), .val (.int (0 : Int32)), .val (.ref b102)] [(.ref b102)]))
        refine own_pre (fun t k => XS.iconst X184.here hx rfl (hb hby at_118) k) ?_
        show own_Ends _ _ _ _ (T184.setTop (mkF m 119 #[.val (.int p0), .val (.int p1), .val (.int p2), .val (.int (2 : Int32)), .val (.int (0 : Int32)), .val (.int (0 : Int32)), .val (.ref b102)] [(.int (1 : Int32)), (.ref b102)]))
        obtain ⟨cq185, kq185, q185a, q185b, q185c⟩ := isOf hZ e184 f182
        obtain ⟨_, _, ⟨T185, L185, k185, n185⟩, -, X185, ⟨Lc185, hQ185, l185, y185, z185⟩, st185⟩ := X184.virtualBack hx (y := (⟨"com/example/mursyn/mursyn/synthesis/SuccessorLists", "count", "(I)I"⟩ : MethodName)) (z := (⟨"com/example/mursyn/mursyn/synthesis/SuccessorLists", "count", "(I)I"⟩ : MethodName)) hown (mvT hZ (hw _ (List.mem_of_getElem? (i := 23) rfl))) (mvT hZ (hw _ (List.mem_of_getElem? (i := 24) rfl))) (notFace_of_selects (args := #[]) (mvT hZ (hw _ (List.mem_of_getElem? (i := 26) rfl)))) (mvT hZ (hw _ (List.mem_of_getElem? (i := 26) rfl))) (mvT hZ (hw _ (List.mem_of_getElem? (i := 25) rfl))) (by decide) (backOf (W := 0) (rm4 l Z a0 hw [] b102 (1 : Int32) bf109 kf109 [(.int (0 : Int32)), (.int (2 : Int32)), (.int (2 : Int32)), (.int (0 : Int32)), (.int (0 : Int32)), (.int (0 : Int32)), (.int (0 : Int32)), (.int (0 : Int32)), (.int (0 : Int32)), (.int (0 : Int32)), (.int (0 : Int32)), (.int (0 : Int32)), (.int (0 : Int32)), (.int (0 : Int32)), (.int (0 : Int32)), (.int (0 : Int32)), (.int (0 : Int32))] (2 : Int32) (2 : Int32) T181.heap n0 Zn181 fa181 vv181 ⟨by decide, by decide⟩ rfl ⟨by decide, by decide⟩ rfl) hZ (hw _ (List.mem_of_getElem? (i := 27) rfl)) (hw _ (List.mem_of_getElem? (i := 2) rfl)) (by decide) (by decide)) q185a q185c (g := (mkF m 119 #[.val (.int p0), .val (.int p1), .val (.int p2), .val (.int (2 : Int32)), .val (.int (0 : Int32)), .val (.int (0 : Int32)), .val (.ref b102)] [(.int (1 : Int32)), (.ref b102)])) rfl (by rw [hml]; rfl) (Steps.refl _) (argsL := [(.int (1 : Int32))]) (rest := []) (lenOf own_pd1 rfl) rfl (by show 2 * 0 + _ ≤ _; exact Nat.le_of_eq rfl) (hb hby at_119) (fun _ _ => ⟨rfl, e184, (by decide : 3 + 0 ≤ _), (by decide : 37 + 0 ≤ _)⟩)
        dsimp only [Pt.U, Pt.locs, Pt.cells, Pt.slots] at X185 l185 y185 z185 st185 hQ185
        subst l185 y185 z185
        obtain ⟨rfl, Nq185, e185⟩ := hQ185
        have N185 := Fr.app N184 Nq185
        refine own_pre (fun t k => st185.trans k) ?_
        show own_Ends _ _ _ _ (T185.setTop (mkF m 122 #[.val (.int p0), .val (.int p1), .val (.int p2), .val (.int (2 : Int32)), .val (.int (0 : Int32)), .val (.int (0 : Int32)), .val (.ref b102)] [(.int (0 : Int32))]))
        refine own_pre (fun t k => XS.iload X185.here hx rfl (hb hby at_122) rfl k) ?_
        show own_Ends _ _ _ _ (T185.setTop (mkF m 124 #[.val (.int p0), .val (.int p1), .val (.int p2), .val (.int (2 : Int32)), .val (.int (0 : Int32)), .val (.int (0 : Int32)), .val (.ref b102)] [(.int (0 : Int32)), (.int (0 : Int32))]))
        refine own_pre (fun t k => XS.icmpNo X185.here hx rfl (hb hby at_124) rfl (teq ((by decide) : (0 : Int32) = (0 : Int32))).2 k) ?_
        show own_Ends _ _ _ _ (T185.setTop (mkF m 127 #[.val (.int p0), .val (.int p1), .val (.int p2), .val (.int (2 : Int32)), .val (.int (0 : Int32)), .val (.int (0 : Int32)), .val (.ref b102)] []))
        refine own_pre (fun t k => XS.iconst X185.here hx rfl (hb hby at_127) k) ?_
        show own_Ends _ _ _ _ (T185.setTop (mkF m 128 #[.val (.int p0), .val (.int p1), .val (.int p2), .val (.int (2 : Int32)), .val (.int (0 : Int32)), .val (.int (0 : Int32)), .val (.ref b102)] [(.int (1 : Int32))]))
        refine own_pre (fun t k => XS.goto X185.here hx rfl (pc0 := 128) (pc' := 132) rfl (hb hby at_128) (by decide) (by decide) k) ?_
        show own_Ends _ _ _ _ (T185.setTop (mkF m 132 #[.val (.int p0), .val (.int p1), .val (.int p2), .val (.int (2 : Int32)), .val (.int (0 : Int32)), .val (.int (0 : Int32)), .val (.ref b102)] [(.int (1 : Int32))]))
        exact own_retN X185 hx (t := .boolean) Bd.returns (by simp) (hb hby at_132) hlk rfl e185 ⟨rfl, N185⟩ (by decide) (by decide)
      · subst hs180
        show own_Ends _ _ _ _ (T177.setTop (mkF m 66 #[.val (.int p0), .val (.int p1), .val (.int p2), .val (.int (2 : Int32)), .val (.int (1 : Int32)), .val (.int (0 : Int32)), .val (.ref b102)] []))
        refine own_pre (fun t k => XS.iload X177.here hx rfl (hb hby at_66) rfl k) ?_
        show own_Ends _ _ _ _ (T177.setTop (mkF m 68 #[.val (.int p0), .val (.int p1), .val (.int p2), .val (.int (2 : Int32)), .val (.int (1 : Int32)), .val (.int (0 : Int32)), .val (.ref b102)] [(.int (1 : Int32))]))
        refine own_pre (fun t k => XS.iconst X177.here hx rfl (hb hby at_68) k) ?_
        show own_Ends _ _ _ _ (T177.setTop (mkF m 69 #[.val (.int p0), .val (.int p1), .val (.int p2), .val (.int (2 : Int32)), .val (.int (1 : Int32)), .val (.int (0 : Int32)), .val (.ref b102)] [(.int (1 : Int32)), (.int (1 : Int32))]))
        refine own_pre (fun t k => XS.icmpNo X177.here hx rfl (hb hby at_69) rfl (flt ((by decide) : ¬ ((1 : Int32) < (1 : Int32)))).1 k) ?_
        show own_Ends _ _ _ _ (T177.setTop (mkF m 72 #[.val (.int p0), .val (.int p1), .val (.int p2), .val (.int (2 : Int32)), .val (.int (1 : Int32)), .val (.int (0 : Int32)), .val (.ref b102)] []))
        refine own_pre (fun t k => XS.aload X177.here hx rfl (hb hby at_72) rfl rfl k) ?_
        show own_Ends _ _ _ _ (T177.setTop (mkF m 74 #[.val (.int p0), .val (.int p1), .val (.int p2), .val (.int (2 : Int32)), .val (.int (1 : Int32)), .val (.int (0 : Int32)), .val (.ref b102)] [(.ref b102)]))
        refine own_pre (fun t k => XS.iloadN X177.here hx rfl (hb hby at_74) rfl k) ?_
        show own_Ends _ _ _ _ (T177.setTop (mkF m 75 #[.val (.int p0), .val (.int p1), .val (.int p2), .val (.int (2 : Int32)), .val (.int (1 : Int32)), .val (.int (0 : Int32)), .val (.ref b102)] [(.int p2), (.ref b102)]))
        obtain ⟨cq186, kq186, q186a, q186b, q186c⟩ := isOf hZ rfl f178
        obtain ⟨_, _, ⟨T186, L186, k186, n186⟩, -, X186, ⟨Lc186, hQ186, l186, y186, z186⟩, st186⟩ := X177.virtualBack hx (y := (⟨"com/example/mursyn/mursyn/synthesis/SuccessorLists", "add", "(I)V"⟩ : MethodName)) (z := (⟨"com/example/mursyn/mursyn/synthesis/SuccessorLists", "add", "(I)V"⟩ : MethodName)) hown (mvT hZ (hw _ (List.mem_of_getElem? (i := 28) rfl))) (mvT hZ (hw _ (List.mem_of_getElem? (i := 29) rfl))) (notFace_of_selects (args := #[]) (mvT hZ (hw _ (List.mem_of_getElem? (i := 31) rfl)))) (mvT hZ (hw _ (List.mem_of_getElem? (i := 31) rfl))) (mvT hZ (hw _ (List.mem_of_getElem? (i := 30) rfl))) (by decide) (backOf (W := 0) (rm2 l Z a0 hw [] b102 p2 bf109 bt109 (2 : Int32) (1 : Int32) kt109 [(.int p1), (.int p2), (.int (0 : Int32)), (.int (0 : Int32)), (.int (0 : Int32)), (.int (0 : Int32)), (.int (0 : Int32)), (.int (0 : Int32)), (.int (0 : Int32)), (.int (0 : Int32)), (.int (0 : Int32)), (.int (0 : Int32)), (.int (0 : Int32)), (.int (0 : Int32)), (.int (0 : Int32)), (.int (0 : Int32))]  T177.heap n0 Zn177 f178 L103 lb109 nb109 fa177 fb177 fc177 fd177 f179 (by decide) ⟨by decide, by decide⟩ (Nat.le_of_ble_eq_true rfl)) hZ (hw _ (List.mem_of_getElem? (i := 32) rfl)) (hw _ (List.mem_of_getElem? (i := 2) rfl)) (by decide) (by decide)) q186a q186c (g := (mkF m 75 #[.val (.int p0), .val (.int p1), .val (.int p2), .val (.int (2 : Int32)), .val (.int (1 : Int32)), .val (.int (0 : Int32)), .val (.ref b102)] [(.int p2), (.ref b102)])) rfl (by rw [hml]; rfl) (Steps.refl _) (argsL := [(.int p2)]) (rest := []) (lenOf own_pd2 rfl) rfl (by show 2 * 0 + _ ≤ _; exact Nat.le_of_eq rfl) (hb hby at_75) (fun _ _ => ⟨rfl, rfl, (by decide : 3 + 0 ≤ _), (by decide : 37 + 0 ≤ _)⟩)
        dsimp only [Pt.U, Pt.locs, Pt.cells, Pt.slots] at X186 l186 y186 z186 st186 hQ186
        subst l186 y186 z186
        obtain ⟨rfl, Nq186, Kq186, fa186, fb186, fc186, fd186, vv186⟩ := hQ186
        have N186 := Fr.app N177 Nq186
        have f187 := f178.keep Kq186
        have f188 := vv177.keep Kq186 (ninS (Ne.symm na109) (ninS nc109 nin0))
        have Zn186 : n0 ≤ T186.heap.size := Nat.le_trans Zn177 Kq186.1
        have fa186 : Fld Z T186.heap b102 "com/example/mursyn/mursyn/synthesis/SuccessorLists" "first" "[I" (.ref bf109) := fa186
        have fb186 : Fld Z T186.heap b102 "com/example/mursyn/mursyn/synthesis/SuccessorLists" "targets" "[I" (.ref bt109) := fb186
        have fc186 : Fld Z T186.heap b102 "com/example/mursyn/mursyn/synthesis/SuccessorLists" "edgeCount" "I" (.int (3 : Int32)) := fc186
        have fd186 : Fld Z T186.heap b102 "com/example/mursyn/mursyn/synthesis/SuccessorLists" "listed" "I" (.int (1 : Int32)) := fd186
        have vv186 : Arv Z T186.heap bt109 kt109 .int (16 : Int32) [(.int p1), (.int p2), (.int p2), (.int (0 : Int32)), (.int (0 : Int32)), (.int (0 : Int32)), (.int (0 : Int32)), (.int (0 : Int32)), (.int (0 : Int32)), (.int (0 : Int32)), (.int (0 : Int32)), (.int (0 : Int32)), (.int (0 : Int32)), (.int (0 : Int32)), (.int (0 : Int32)), (.int (0 : Int32))] (.int (0 : Int32)) := vv186
        refine own_pre (fun t k => st186.trans k) ?_
        show own_Ends _ _ _ _ (T186.setTop (mkF m 78 #[.val (.int p0), .val (.int p1), .val (.int p2), .val (.int (2 : Int32)), .val (.int (1 : Int32)), .val (.int (0 : Int32)), .val (.ref b102)] []))
        refine own_pre (fun t k => XS.iload X186.here hx rfl (hb hby at_78) rfl k) ?_
        show own_Ends _ _ _ _ (T186.setTop (mkF m 80 #[.val (.int p0), .val (.int p1), .val (.int p2), .val (.int (2 : Int32)), .val (.int (1 : Int32)), .val (.int (0 : Int32)), .val (.ref b102)] [(.int (1 : Int32))]))
        refine own_pre (fun t k => XS.iconst X186.here hx rfl (hb hby at_80) k) ?_
        show own_Ends _ _ _ _ (T186.setTop (mkF m 81 #[.val (.int p0), .val (.int p1), .val (.int p2), .val (.int (2 : Int32)), .val (.int (1 : Int32)), .val (.int (0 : Int32)), .val (.ref b102)] [(.int (2 : Int32)), (.int (1 : Int32))]))
        refine own_pre (fun t k => XS.icmpYes X186.here hx rfl (pc0 := 81) (pc' := 90) rfl (hb hby at_81) rfl (tlt ((by decide) : (1 : Int32) < (2 : Int32))).1 (by decide) (by decide) k) ?_
        show own_Ends _ _ _ _ (T186.setTop (mkF m 90 #[.val (.int p0), .val (.int p1), .val (.int p2), .val (.int (2 : Int32)), .val (.int (1 : Int32)), .val (.int (0 : Int32)), .val (.ref b102)] []))
        refine own_pre (fun t k => XS.aload X186.here hx rfl (hb hby at_90) rfl rfl k) ?_
        show own_Ends _ _ _ _ (T186.setTop (mkF m 92 #[.val (.int p0), .val (.int p1), .val (.int p2), .val (.int (2 : Int32)), .val (.int (1 : Int32)), .val (.int (0 : Int32)), .val (.ref b102)] [(.ref b102)]))
        obtain ⟨cq189, kq189, q189a, q189b, q189c⟩ := isOf hZ rfl f187
        obtain ⟨_, _, ⟨T189, L189, k189, n189⟩, -, X189, ⟨Lc189, hQ189, l189, y189, z189⟩, st189⟩ := X186.virtualBack hx (y := (⟨"com/example/mursyn/mursyn/synthesis/SuccessorLists", "close", "()V"⟩ : MethodName)) (z := (⟨"com/example/mursyn/mursyn/synthesis/SuccessorLists", "close", "()V"⟩ : MethodName)) hown (mvT hZ (hw _ (List.mem_of_getElem? (i := 14) rfl))) (mvT hZ (hw _ (List.mem_of_getElem? (i := 15) rfl))) (notFace_of_selects (args := #[]) (mvT hZ (hw _ (List.mem_of_getElem? (i := 17) rfl)))) (mvT hZ (hw _ (List.mem_of_getElem? (i := 17) rfl))) (mvT hZ (hw _ (List.mem_of_getElem? (i := 16) rfl))) (by decide) (backOf (W := 0) (rm3 l Z a0 hw [] b102 bf109 bt109 (3 : Int32) (1 : Int32) kf109 [(.int (0 : Int32)), (.int (2 : Int32)), (.int (0 : Int32)), (.int (0 : Int32)), (.int (0 : Int32)), (.int (0 : Int32)), (.int (0 : Int32)), (.int (0 : Int32)), (.int (0 : Int32)), (.int (0 : Int32)), (.int (0 : Int32)), (.int (0 : Int32)), (.int (0 : Int32)), (.int (0 : Int32)), (.int (0 : Int32)), (.int (0 : Int32)), (.int (0 : Int32))]  T186.heap n0 Zn186 f187 L103 la109 na109 fa186 fb186 fc186 fd186 f188 (by decide) ⟨by decide, by decide⟩ (Nat.le_of_ble_eq_true rfl)) hZ (hw _ (List.mem_of_getElem? (i := 18) rfl)) (hw _ (List.mem_of_getElem? (i := 2) rfl)) (by decide) (by decide)) q189a q189c (g := (mkF m 92 #[.val (.int p0), .val (.int p1), .val (.int p2), .val (.int (2 : Int32)), .val (.int (1 : Int32)), .val (.int (0 : Int32)), .val (.ref b102)] [(.ref b102)])) rfl (by rw [hml]; rfl) (Steps.refl _) (argsL := []) (rest := []) (lenOf own_pd0 rfl) rfl (by show 2 * 0 + _ ≤ _; exact Nat.le_of_eq rfl) (hb hby at_92) (fun _ _ => ⟨rfl, rfl, (by decide : 3 + 0 ≤ _), (by decide : 37 + 0 ≤ _)⟩)
        dsimp only [Pt.U, Pt.locs, Pt.cells, Pt.slots] at X189 l189 y189 z189 st189 hQ189
        subst l189 y189 z189
        obtain ⟨rfl, Nq189, Kq189, fa189, fb189, fc189, fd189, vv189⟩ := hQ189
        have N189 := Fr.app N186 Nq189
        have f190 := f187.keep Kq189
        have f191 := vv186.keep Kq189 (ninS (Ne.symm nb109) (ninS (Ne.symm nc109) nin0))
        have Zn189 : n0 ≤ T189.heap.size := Nat.le_trans Zn186 Kq189.1
        have fa189 : Fld Z T189.heap b102 "com/example/mursyn/mursyn/synthesis/SuccessorLists" "first" "[I" (.ref bf109) := fa189
        have fb189 : Fld Z T189.heap b102 "com/example/mursyn/mursyn/synthesis/SuccessorLists" "targets" "[I" (.ref bt109) := fb189
        have fc189 : Fld Z T189.heap b102 "com/example/mursyn/mursyn/synthesis/SuccessorLists" "edgeCount" "I" (.int (3 : Int32)) := fc189
        have fd189 : Fld Z T189.heap b102 "com/example/mursyn/mursyn/synthesis/SuccessorLists" "listed" "I" (.int (2 : Int32)) := fd189
        have vv189 : Arv Z T189.heap bf109 kf109 .int (17 : Int32) [(.int (0 : Int32)), (.int (2 : Int32)), (.int (3 : Int32)), (.int (0 : Int32)), (.int (0 : Int32)), (.int (0 : Int32)), (.int (0 : Int32)), (.int (0 : Int32)), (.int (0 : Int32)), (.int (0 : Int32)), (.int (0 : Int32)), (.int (0 : Int32)), (.int (0 : Int32)), (.int (0 : Int32)), (.int (0 : Int32)), (.int (0 : Int32)), (.int (0 : Int32))] (.int (0 : Int32)) := vv189
        refine own_pre (fun t k => st189.trans k) ?_
        show own_Ends _ _ _ _ (T189.setTop (mkF m 95 #[.val (.int p0), .val (.int p1), .val (.int p2), .val (.int (2 : Int32)), .val (.int (1 : Int32)), .val (.int (0 : Int32)), .val (.ref b102)] []))
        refine own_pre (fun t k => XS.iload X189.here hx rfl (hb hby at_95) rfl k) ?_
        show own_Ends _ _ _ _ (T189.setTop (mkF m 97 #[.val (.int p0), .val (.int p1), .val (.int p2), .val (.int (2 : Int32)), .val (.int (1 : Int32)), .val (.int (0 : Int32)), .val (.ref b102)] [(.int (0 : Int32))]))
        refine own_pre (fun t k => XS.ifYes X189.here hx rfl (pc0 := 97) (pc' := 106) rfl (hb hby at_97) rfl ((if0 _ _).trans (teq ((by decide) : (0 : Int32) = (0 : Int32))).1) (by decide) (by decide) k) ?_
        show own_Ends _ _ _ _ (T189.setTop (mkF m 106 #[.val (.int p0), .val (.int p1), .val (.int p2), .val (.int (2 : Int32)), .val (.int (1 : Int32)), .val (.int (0 : Int32)), .val (.ref b102)] []))
        refine own_pre (fun t k => XS.aload X189.here hx rfl (hb hby at_106) rfl rfl k) ?_
        show own_Ends _ _ _ _ (T189.setTop (mkF m 108 #[.val (.int p0), .val (.int p1), .val (.int p2), .val (.int (2 : Int32)), .val (.int (1 : Int32)), .val (.int (0 : Int32)), .val (.ref b102)] [(.ref b102)]))
        refine own_pre (fun t k => XS.iconst X189.here hx rfl (hb hby at_108) k) ?_
        show own_Ends _ _ _ _ (T189.setTop (mkF m 109 #[.val (.int p0), .val (.int p1), .val (.int p2), .val (.int (2 : Int32)), .val (.int (1 : Int32)), .val (.int (0 : Int32)), .val (.ref b102)] [(.int (0 : Int32)), (.ref b102)]))
        obtain ⟨cq192, kq192, q192a, q192b, q192c⟩ := isOf hZ rfl f190
        obtain ⟨_, _, ⟨T192, L192, k192, n192⟩, -, X192, ⟨Lc192, hQ192, l192, y192, z192⟩, st192⟩ := X189.virtualBack hx (y := (⟨"com/example/mursyn/mursyn/synthesis/SuccessorLists", "count", "(I)I"⟩ : MethodName)) (z := (⟨"com/example/mursyn/mursyn/synthesis/SuccessorLists", "count", "(I)I"⟩ : MethodName)) hown (mvT hZ (hw _ (List.mem_of_getElem? (i := 23) rfl))) (mvT hZ (hw _ (List.mem_of_getElem? (i := 24) rfl))) (notFace_of_selects (args := #[]) (mvT hZ (hw _ (List.mem_of_getElem? (i := 26) rfl)))) (mvT hZ (hw _ (List.mem_of_getElem? (i := 26) rfl))) (mvT hZ (hw _ (List.mem_of_getElem? (i := 25) rfl))) (by decide) (backOf (W := 0) (rm4 l Z a0 hw [] b102 (0 : Int32) bf109 kf109 [(.int (0 : Int32)), (.int (2 : Int32)), (.int (3 : Int32)), (.int (0 : Int32)), (.int (0 : Int32)), (.int (0 : Int32)), (.int (0 : Int32)), (.int (0 : Int32)), (.int (0 : Int32)), (.int (0 : Int32)), (.int (0 : Int32)), (.int (0 : Int32)), (.int (0 : Int32)), (.int (0 : Int32)), (.int (0 : Int32)), (.int (0 : Int32)), (.int (0 : Int32))] (2 : Int32) (0 : Int32) T189.heap n0 Zn189 fa189 vv189 ⟨by decide, by decide⟩ rfl ⟨by decide, by decide⟩ rfl) hZ (hw _ (List.mem_of_getElem? (i := 27) rfl)) (hw _ (List.mem_of_getElem? (i := 2) rfl)) (by decide) (by decide)) q192a q192c (g := (mkF m 109 #[.val (.int p0), .val (.int p1), .val (.int p2), .val (.int (2 : Int32)), .val (.int (1 : Int32)), .val (.int (0 : Int32)), .val (.ref b102)] [(.int (0 : Int32)), (.ref b102)])) rfl (by rw [hml]; rfl) (Steps.refl _) (argsL := [(.int (0 : Int32))]) (rest := []) (lenOf own_pd1 rfl) rfl (by show 2 * 0 + _ ≤ _; exact Nat.le_of_eq rfl) (hb hby at_109) (fun _ _ => ⟨rfl, rfl, (by decide : 3 + 0 ≤ _), (by decide : 37 + 0 ≤ _)⟩)
        dsimp only [Pt.U, Pt.locs, Pt.cells, Pt.slots] at X192 l192 y192 z192 st192 hQ192
        subst l192 y192 z192
        obtain ⟨rfl, Nq192, e192⟩ := hQ192
        have N192 := Fr.app N189 Nq192
        refine own_pre (fun t k => st192.trans k) ?_
        show own_Ends _ _ _ _ (T192.setTop (mkF m 112 #[.val (.int p0), .val (.int p1), .val (.int p2), .val (.int (2 : Int32)), .val (.int (1 : Int32)), .val (.int (0 : Int32)), .val (.ref b102)] [(.int (2 : Int32))]))
        refine own_pre (fun t k => XS.iloadN X192.here hx rfl (hb hby at_112) rfl k) ?_
        show own_Ends _ _ _ _ (T192.setTop (mkF m 113 #[.val (.int p0), .val (.int p1), .val (.int p2), .val (.int (2 : Int32)), .val (.int (1 : Int32)), .val (.int (0 : Int32)), .val (.ref b102)] [(.int (2 : Int32)), (.int (2 : Int32))]))
        refine own_pre (fun t k => XS.icmpNo X192.here hx rfl (hb hby at_113) rfl (teq ((by decide) : (2 : Int32) = (2 : Int32))).2 k) ?_
        show own_Ends _ _ _ _ (T192.setTop (mkF m 116 #[.val (.int p0), .val (.int p1), .val (.int p2), .val (.int (2 : Int32)), .val (.int (1 : Int32)), .val (.int (0 : Int32)), .val (.ref b102)] []))
        refine own_pre (fun t k => XS.aload X192.here hx rfl (hb hby at_116) rfl rfl k) ?_
        show own_Ends _ _ _ _ (T192.setTop (mkF m 118 #[.val (.int p0), .val (.int p1), .val (.int p2), .val (.int (2 : Int32)), .val (.int (1 : Int32)), .val (.int (0 : Int32)), .val (.ref b102)] [(.ref b102)]))
        refine own_pre (fun t k => XS.iconst X192.here hx rfl (hb hby at_118) k) ?_
        show own_Ends _ _ _ _ (T192.setTop (mkF m 119 #[.val (.int p0), .val (.int p1), .val (.int p2), .val (.int (2 : Int32)), .val (.int (1 : Int32)), .val (.int (0 : Int32)), .val (.ref b102)] [(.int (1 : Int32)), (.ref b102)]))
        obtain ⟨cq193, kq193, q193a, q193b, q193c⟩ := isOf hZ e192 f190
        obtain ⟨_, _, ⟨T193, L193, k193, n193⟩, -, X193, ⟨Lc193, hQ193, l193, y193, z193⟩, st193⟩ := X192.virtualBack hx (y := (⟨"com/example/mursyn/mursyn/synthesis/SuccessorLists", "count", "(I)I"⟩ : MethodName)) (z := (⟨"com/example/mursyn/mursyn/synthesis/SuccessorLists", "count", "(I)I"⟩ : MethodName)) hown (mvT hZ (hw _ (List.mem_of_getElem? (i := 23) rfl))) (mvT hZ (hw _ (List.mem_of_getElem? (i := 24) rfl))) (notFace_of_selects (args := #[]) (mvT hZ (hw _ (List.mem_of_getElem? (i := 26) rfl)))) (mvT hZ (hw _ (List.mem_of_getElem? (i := 26) rfl))) (mvT hZ (hw _ (List.mem_of_getElem? (i := 25) rfl))) (by decide) (backOf (W := 0) (rm4 l Z a0 hw [] b102 (1 : Int32) bf109 kf109 [(.int (0 : Int32)), (.int (2 : Int32)), (.int (3 : Int32)), (.int (0 : Int32)), (.int (0 : Int32)), (.int (0 : Int32)), (.int (0 : Int32)), (.int (0 : Int32)), (.int (0 : Int32)), (.int (0 : Int32)), (.int (0 : Int32)), (.int (0 : Int32)), (.int (0 : Int32)), (.int (0 : Int32)), (.int (0 : Int32)), (.int (0 : Int32)), (.int (0 : Int32))] (3 : Int32) (2 : Int32) T189.heap n0 Zn189 fa189 vv189 ⟨by decide, by decide⟩ rfl ⟨by decide, by decide⟩ rfl) hZ (hw _ (List.mem_of_getElem? (i := 27) rfl)) (hw _ (List.mem_of_getElem? (i := 2) rfl)) (by decide) (by decide)) q193a q193c (g := (mkF m 119 #[.val (.int p0), .val (.int p1), .val (.int p2), .val (.int (2 : Int32)), .val (.int (1 : Int32)), .val (.int (0 : Int32)), .val (.ref b102)] [(.int (1 : Int32)), (.ref b102)])) rfl (by rw [hml]; rfl) (Steps.refl _) (argsL := [(.int (1 : Int32))]) (rest := []) (lenOf own_pd1 rfl) rfl (by show 2 * 0 + _ ≤ _; exact Nat.le_of_eq rfl) (hb hby at_119) (fun _ _ => ⟨rfl, e192, (by decide : 3 + 0 ≤ _), (by decide : 37 + 0 ≤ _)⟩)
        dsimp only [Pt.U, Pt.locs, Pt.cells, Pt.slots] at X193 l193 y193 z193 st193 hQ193
        subst l193 y193 z193
        obtain ⟨rfl, Nq193, e193⟩ := hQ193
        have N193 := Fr.app N192 Nq193
        refine own_pre (fun t k => st193.trans k) ?_
        show own_Ends _ _ _ _ (T193.setTop (mkF m 122 #[.val (.int p0), .val (.int p1), .val (.int p2), .val (.int (2 : Int32)), .val (.int (1 : Int32)), .val (.int (0 : Int32)), .val (.ref b102)] [(.int (1 : Int32))]))
        refine own_pre (fun t k => XS.iload X193.here hx rfl (hb hby at_122) rfl k) ?_
        show own_Ends _ _ _ _ (T193.setTop (mkF m 124 #[.val (.int p0), .val (.int p1), .val (.int p2), .val (.int (2 : Int32)), .val (.int (1 : Int32)), .val (.int (0 : Int32)), .val (.ref b102)] [(.int (1 : Int32)), (.int (1 : Int32))]))
        refine own_pre (fun t k => XS.icmpNo X193.here hx rfl (hb hby at_124) rfl (teq ((by decide) : (1 : Int32) = (1 : Int32))).2 k) ?_
        show own_Ends _ _ _ _ (T193.setTop (mkF m 127 #[.val (.int p0), .val (.int p1), .val (.int p2), .val (.int (2 : Int32)), .val (.int (1 : Int32)), .val (.int (0 : Int32)), .val (.ref b102)] []))
        refine own_pre (fun t k => XS.iconst X193.here hx rfl (hb hby at_127) k) ?_
        show own_Ends _ _ _ _ (T193.setTop (mkF m 128 #[.val (.int p0), .val (.int p1), .val (.int p2), .val (.int (2 : Int32)), .val (.int (1 : Int32)), .val (.int (0 : Int32)), .val (.ref b102)] [(.int (1 : Int32))]))
        refine own_pre (fun t k => XS.goto X193.here hx rfl (pc0 := 128) (pc' := 132) rfl (hb hby at_128) (by decide) (by decide) k) ?_
        show own_Ends _ _ _ _ (T193.setTop (mkF m 132 #[.val (.int p0), .val (.int p1), .val (.int p2), .val (.int (2 : Int32)), .val (.int (1 : Int32)), .val (.int (0 : Int32)), .val (.ref b102)] [(.int (1 : Int32))]))
        exact own_retN X193 hx (t := .boolean) Bd.returns (by simp) (hb hby at_132) hlk rfl e193 ⟨rfl, N193⟩ (by decide) (by decide)
      · subst hs180
        show own_Ends _ _ _ _ (T177.setTop (mkF m 66 #[.val (.int p0), .val (.int p1), .val (.int p2), .val (.int (2 : Int32)), .val (.int (2 : Int32)), .val (.int (0 : Int32)), .val (.ref b102)] []))
        refine own_pre (fun t k => XS.iload X177.here hx rfl (hb hby at_66) rfl k) ?_
        show own_Ends _ _ _ _ (T177.setTop (mkF m 68 #[.val (.int p0), .val (.int p1), .val (.int p2), .val (.int (2 : Int32)), .val (.int (2 : Int32)), .val (.int (0 : Int32)), .val (.ref b102)] [(.int (2 : Int32))]))
        refine own_pre (fun t k => XS.iconst X177.here hx rfl (hb hby at_68) k) ?_
        show own_Ends _ _ _ _ (T177.setTop (mkF m 69 #[.val (.int p0), .val (.int p1), .val (.int p2), .val (.int (2 : Int32)), .val (.int (2 : Int32)), .val (.int (0 : Int32)), .val (.ref b102)] [(.int (1 : Int32)), (.int (2 : Int32))]))
        refine own_pre (fun t k => XS.icmpNo X177.here hx rfl (hb hby at_69) rfl (flt ((by decide) : ¬ ((2 : Int32) < (1 : Int32)))).1 k) ?_
        show own_Ends _ _ _ _ (T177.setTop (mkF m 72 #[.val (.int p0), .val (.int p1), .val (.int p2), .val (.int (2 : Int32)), .val (.int (2 : Int32)), .val (.int (0 : Int32)), .val (.ref b102)] []))
        refine own_pre (fun t k => XS.aload X177.here hx rfl (hb hby at_72) rfl rfl k) ?_
        show own_Ends _ _ _ _ (T177.setTop (mkF m 74 #[.val (.int p0), .val (.int p1), .val (.int p2), .val (.int (2 : Int32)), .val (.int (2 : Int32)), .val (.int (0 : Int32)), .val (.ref b102)] [(.ref b102)]))
        refine own_pre (fun t k => XS.iloadN X177.here hx rfl (hb hby at_74) rfl k) ?_
        show own_Ends _ _ _ _ (T177.setTop (mkF m 75 #[.val (.int p0), .val (.int p1), .val (.int p2), .val (.int (2 : Int32)), .val (.int (2 : Int32)), .val (.int (0 : Int32)), .val (.ref b102)] [(.int p2), (.ref b102)]))
        obtain ⟨cq194, kq194, q194a, q194b, q194c⟩ := isOf hZ rfl f178
        obtain ⟨_, _, ⟨T194, L194, k194, n194⟩, -, X194, ⟨Lc194, hQ194, l194, y194, z194⟩, st194⟩ := X177.virtualBack hx (y := (⟨"com/example/mursyn/mursyn/synthesis/SuccessorLists", "add", "(I)V"⟩ : MethodName)) (z := (⟨"com/example/mursyn/mursyn/synthesis/SuccessorLists", "add", "(I)V"⟩ : MethodName)) hown (mvT hZ (hw _ (List.mem_of_getElem? (i := 28) rfl))) (mvT hZ (hw _ (List.mem_of_getElem? (i := 29) rfl))) (notFace_of_selects (args := #[]) (mvT hZ (hw _ (List.mem_of_getElem? (i := 31) rfl)))) (mvT hZ (hw _ (List.mem_of_getElem? (i := 31) rfl))) (mvT hZ (hw _ (List.mem_of_getElem? (i := 30) rfl))) (by decide) (backOf (W := 0) (rm2 l Z a0 hw [] b102 p2 bf109 bt109 (2 : Int32) (1 : Int32) kt109 [(.int p1), (.int p2), (.int (0 : Int32)), (.int (0 : Int32)), (.int (0 : Int32)), (.int (0 : Int32)), (.int (0 : Int32)), (.int (0 : Int32)), (.int (0 : Int32)), (.int (0 : Int32)), (.int (0 : Int32)), (.int (0 : Int32)), (.int (0 : Int32)), (.int (0 : Int32)), (.int (0 : Int32)), (.int (0 : Int32))]  T177.heap n0 Zn177 f178 L103 lb109 nb109 fa177 fb177 fc177 fd177 f179 (by decide) ⟨by decide, by decide⟩ (Nat.le_of_ble_eq_true rfl)) hZ (hw _ (List.mem_of_getElem? (i := 32) rfl)) (hw _ (List.mem_of_getElem? (i := 2) rfl)) (by decide) (by decide)) q194a q194c (g := (mkF m 75 #[.val (.int p0), .val (.int p1), .val (.int p2), .val (.int (2 : Int32)), .val (.int (2 : Int32)), .val (.int (0 : Int32)), .val (.ref b102)] [(.int p2), (.ref b102)])) rfl (by rw [hml]; rfl) (Steps.refl _) (argsL := [(.int p2)]) (rest := []) (lenOf own_pd2 rfl) rfl (by show 2 * 0 + _ ≤ _; exact Nat.le_of_eq rfl) (hb hby at_75) (fun _ _ => ⟨rfl, rfl, (by decide : 3 + 0 ≤ _), (by decide : 37 + 0 ≤ _)⟩)
        dsimp only [Pt.U, Pt.locs, Pt.cells, Pt.slots] at X194 l194 y194 z194 st194 hQ194
        subst l194 y194 z194
        obtain ⟨rfl, Nq194, Kq194, fa194, fb194, fc194, fd194, vv194⟩ := hQ194
        have N194 := Fr.app N177 Nq194
        have f195 := f178.keep Kq194
        have f196 := vv177.keep Kq194 (ninS (Ne.symm na109) (ninS nc109 nin0))
        have Zn194 : n0 ≤ T194.heap.size := Nat.le_trans Zn177 Kq194.1
        have fa194 : Fld Z T194.heap b102 "com/example/mursyn/mursyn/synthesis/SuccessorLists" "first" "[I" (.ref bf109) := fa194
        have fb194 : Fld Z T194.heap b102 "com/example/mursyn/mursyn/synthesis/SuccessorLists" "targets" "[I" (.ref bt109) := fb194
        have fc194 : Fld Z T194.heap b102 "com/example/mursyn/mursyn/synthesis/SuccessorLists" "edgeCount" "I" (.int (3 : Int32)) := fc194
        have fd194 : Fld Z T194.heap b102 "com/example/mursyn/mursyn/synthesis/SuccessorLists" "listed" "I" (.int (1 : Int32)) := fd194
        have vv194 : Arv Z T194.heap bt109 kt109 .int (16 : Int32) [(.int p1), (.int p2), (.int p2), (.int (0 : Int32)), (.int (0 : Int32)), (.int (0 : Int32)), (.int (0 : Int32)), (.int (0 : Int32)), (.int (0 : Int32)), (.int (0 : Int32)), (.int (0 : Int32)), (.int (0 : Int32)), (.int (0 : Int32)), (.int (0 : Int32)), (.int (0 : Int32)), (.int (0 : Int32))] (.int (0 : Int32)) := vv194
        refine own_pre (fun t k => st194.trans k) ?_
        show own_Ends _ _ _ _ (T194.setTop (mkF m 78 #[.val (.int p0), .val (.int p1), .val (.int p2), .val (.int (2 : Int32)), .val (.int (2 : Int32)), .val (.int (0 : Int32)), .val (.ref b102)] []))
        refine own_pre (fun t k => XS.iload X194.here hx rfl (hb hby at_78) rfl k) ?_
        show own_Ends _ _ _ _ (T194.setTop (mkF m 80 #[.val (.int p0), .val (.int p1), .val (.int p2), .val (.int (2 : Int32)), .val (.int (2 : Int32)), .val (.int (0 : Int32)), .val (.ref b102)] [(.int (2 : Int32))]))
        refine own_pre (fun t k => XS.iconst X194.here hx rfl (hb hby at_80) k) ?_
        show own_Ends _ _ _ _ (T194.setTop (mkF m 81 #[.val (.int p0), .val (.int p1), .val (.int p2), .val (.int (2 : Int32)), .val (.int (2 : Int32)), .val (.int (0 : Int32)), .val (.ref b102)] [(.int (2 : Int32)), (.int (2 : Int32))]))
        refine own_pre (fun t k => XS.icmpNo X194.here hx rfl (hb hby at_81) rfl (flt ((by decide) : ¬ ((2 : Int32) < (2 : Int32)))).1 k) ?_
        show own_Ends _ _ _ _ (T194.setTop (mkF m 84 #[.val (.int p0), .val (.int p1), .val (.int p2), .val (.int (2 : Int32)), .val (.int (2 : Int32)), .val (.int (0 : Int32)), .val (.ref b102)] []))
        refine own_pre (fun t k => XS.aload X194.here hx rfl (hb hby at_84) rfl rfl k) ?_
        show own_Ends _ _ _ _ (T194.setTop (mkF m 86 #[.val (.int p0), .val (.int p1), .val (.int p2), .val (.int (2 : Int32)), .val (.int (2 : Int32)), .val (.int (0 : Int32)), .val (.ref b102)] [(.ref b102)]))
        refine own_pre (fun t k => XS.iloadN X194.here hx rfl (hb hby at_86) rfl k) ?_
        show own_Ends _ _ _ _ (T194.setTop (mkF m 87 #[.val (.int p0), .val (.int p1), .val (.int p2), .val (.int (2 : Int32)), .val (.int (2 : Int32)), .val (.int (0 : Int32)), .val (.ref b102)] [(.int p1), (.ref b102)]))
        obtain ⟨cq197, kq197, q197a, q197b, q197c⟩ := isOf hZ rfl f195
        obtain ⟨_, _, ⟨T197, L197, k197, n197⟩, -, X197, ⟨Lc197, hQ197, l197, y197, z197⟩, st197⟩ := X194.virtualBack hx (y := (⟨"com/example/mursyn/mursyn/synthesis/SuccessorLists", "add", "(I)V"⟩ : MethodName)) (z := (⟨"com/example/mursyn/mursyn/synthesis/SuccessorLists", "add", "(I)V"⟩ : MethodName)) hown (mvT hZ (hw _ (List.mem_of_getElem? (i := 28) rfl))) (mvT hZ (hw _ (List.mem_of_getElem? (i := 29) rfl))) (notFace_of_selects (args := #[]) (mvT hZ (hw _ (List.mem_of_getElem? (i := 31) rfl)))) (mvT hZ (hw _ (List.mem_of_getElem? (i := 31) rfl))) (mvT hZ (hw _ (List.mem_of_getElem? (i := 30) rfl))) (by decide) (backOf (W := 0) (rm2 l Z a0 hw [] b102 p1 bf109 bt109 (3 : Int32) (1 : Int32) kt109 [(.int p1), (.int p2), (.int p2), (.int (0 : Int32)), (.int (0 : Int32)), (.int (0 : Int32)), (.int (0 : Int32)), (.int (0 : Int32)), (.int (0 : Int32)), (.int (0 : Int32)), (.int (0 : Int32)), (.int (0 : Int32)), (.int (0 : Int32)), (.int (0 : Int32)), (.int (0 : Int32)), (.int (0 : Int32))]  T194.heap n0 Zn194 f195 L103 lb109 nb109 fa194 fb194 fc194 fd194 vv194 (by decide) ⟨by decide, by decide⟩ (Nat.le_of_ble_eq_true rfl)) hZ (hw _ (List.mem_of_getElem? (i := 32) rfl)) (hw _ (List.mem_of_getElem? (i := 2) rfl)) (by decide) (by decide)) q197a q197c (g := (mkF m 87 #[.val (.int p0), .val (.int p1), .val (.int p2), .val (.int (2 : Int32)), .val (.int (2 : Int32)), .val (.int (0 : Int32)), .val (.ref b102)] [(.int p1), (.ref b102)])) rfl (by rw [hml]; rfl) (Steps.refl _) (argsL := [(.int p1)]) (rest := []) (lenOf own_pd2 rfl) rfl (by show 2 * 0 + _ ≤ _; exact Nat.le_of_eq rfl) (hb hby at_87) (fun _ _ => ⟨rfl, rfl, (by decide : 3 + 0 ≤ _), (by decide : 37 + 0 ≤ _)⟩)
        dsimp only [Pt.U, Pt.locs, Pt.cells, Pt.slots] at X197 l197 y197 z197 st197 hQ197
        subst l197 y197 z197
        obtain ⟨rfl, Nq197, Kq197, fa197, fb197, fc197, fd197, vv197⟩ := hQ197
        have N197 := Fr.app N194 Nq197
        have f198 := f195.keep Kq197
        have f199 := f196.keep Kq197 (ninS (Ne.symm na109) (ninS nc109 nin0))
        have Zn197 : n0 ≤ T197.heap.size := Nat.le_trans Zn194 Kq197.1
        have fa197 : Fld Z T197.heap b102 "com/example/mursyn/mursyn/synthesis/SuccessorLists" "first" "[I" (.ref bf109) := fa197
        have fb197 : Fld Z T197.heap b102 "com/example/mursyn/mursyn/synthesis/SuccessorLists" "targets" "[I" (.ref bt109) := fb197
        have fc197 : Fld Z T197.heap b102 "com/example/mursyn/mursyn/synthesis/SuccessorLists" "edgeCount" "I" (.int (4 : Int32)) := fc197
        have fd197 : Fld Z T197.heap b102 "com/example/mursyn/mursyn/synthesis/SuccessorLists" "listed" "I" (.int (1 : Int32)) := fd197
        have vv197 : Arv Z T197.heap bt109 kt109 .int (16 : Int32) [(.int p1), (.int p2), (.int p2), (.int p1), (.int (0 : Int32)), (.int (0 : Int32)), (.int (0 : Int32)), (.int (0 : Int32)), (.int (0 : Int32)), (.int (0 : Int32)), (.int (0 : Int32)), (.int (0 : Int32)), (.int (0 : Int32)), (.int (0 : Int32)), (.int (0 : Int32)), (.int (0 : Int32))] (.int (0 : Int32)) := vv197
        refine own_pre (fun t k => st197.trans k) ?_
        show own_Ends _ _ _ _ (T197.setTop (mkF m 90 #[.val (.int p0), .val (.int p1), .val (.int p2), .val (.int (2 : Int32)), .val (.int (2 : Int32)), .val (.int (0 : Int32)), .val (.ref b102)] []))
        refine own_pre (fun t k => XS.aload X197.here hx rfl (hb hby at_90) rfl rfl k) ?_
        show own_Ends _ _ _ _ (T197.setTop (mkF m 92 #[.val (.int p0), .val (.int p1), .val (.int p2), .val (.int (2 : Int32)), .val (.int (2 : Int32)), .val (.int (0 : Int32)), .val (.ref b102)] [(.ref b102)]))
        obtain ⟨cq200, kq200, q200a, q200b, q200c⟩ := isOf hZ rfl f198
        obtain ⟨_, _, ⟨T200, L200, k200, n200⟩, -, X200, ⟨Lc200, hQ200, l200, y200, z200⟩, st200⟩ := X197.virtualBack hx (y := (⟨"com/example/mursyn/mursyn/synthesis/SuccessorLists", "close", "()V"⟩ : MethodName)) (z := (⟨"com/example/mursyn/mursyn/synthesis/SuccessorLists", "close", "()V"⟩ : MethodName)) hown (mvT hZ (hw _ (List.mem_of_getElem? (i := 14) rfl))) (mvT hZ (hw _ (List.mem_of_getElem? (i := 15) rfl))) (notFace_of_selects (args := #[]) (mvT hZ (hw _ (List.mem_of_getElem? (i := 17) rfl)))) (mvT hZ (hw _ (List.mem_of_getElem? (i := 17) rfl))) (mvT hZ (hw _ (List.mem_of_getElem? (i := 16) rfl))) (by decide) (backOf (W := 0) (rm3 l Z a0 hw [] b102 bf109 bt109 (4 : Int32) (1 : Int32) kf109 [(.int (0 : Int32)), (.int (2 : Int32)), (.int (0 : Int32)), (.int (0 : Int32)), (.int (0 : Int32)), (.int (0 : Int32)), (.int (0 : Int32)), (.int (0 : Int32)), (.int (0 : Int32)), (.int (0 : Int32)), (.int (0 : Int32)), (.int (0 : Int32)), (.int (0 : Int32)), (.int (0 : Int32)), (.int (0 : Int32)), (.int (0 : Int32)), (.int (0 : Int32))]  T197.heap n0 Zn197 f198 L103 la109 na109 fa197 fb197 fc197 fd197 f199 (by decide) ⟨by decide, by decide⟩ (Nat.le_of_ble_eq_true rfl)) hZ (hw _ (List.mem_of_getElem? (i := 18) rfl)) (hw _ (List.mem_of_getElem? (i := 2) rfl)) (by decide) (by decide)) q200a q200c (g := (mkF m 92 #[.val (.int p0), .val (.int p1), .val (.int p2), .val (.int (2 : Int32)), .val (.int (2 : Int32)), .val (.int (0 : Int32)), .val (.ref b102)] [(.ref b102)])) rfl (by rw [hml]; rfl) (Steps.refl _) (argsL := []) (rest := []) (lenOf own_pd0 rfl) rfl (by show 2 * 0 + _ ≤ _; exact Nat.le_of_eq rfl) (hb hby at_92) (fun _ _ => ⟨rfl, rfl, (by decide : 3 + 0 ≤ _), (by decide : 37 + 0 ≤ _)⟩)
        dsimp only [Pt.U, Pt.locs, Pt.cells, Pt.slots] at X200 l200 y200 z200 st200 hQ200
        subst l200 y200 z200
        obtain ⟨rfl, Nq200, Kq200, fa200, fb200, fc200, fd200, vv200⟩ := hQ200
        have N200 := Fr.app N197 Nq200
        have f201 := f198.keep Kq200
        have f202 := vv197.keep Kq200 (ninS (Ne.symm nb109) (ninS (Ne.symm nc109) nin0))
        have Zn200 : n0 ≤ T200.heap.size := Nat.le_trans Zn197 Kq200.1
        have fa200 : Fld Z T200.heap b102 "com/example/mursyn/mursyn/synthesis/SuccessorLists" "first" "[I" (.ref bf109) := fa200
        have fb200 : Fld Z T200.heap b102 "com/example/mursyn/mursyn/synthesis/SuccessorLists" "targets" "[I" (.ref bt109) := fb200
        have fc200 : Fld Z T200.heap b102 "com/example/mursyn/mursyn/synthesis/SuccessorLists" "edgeCount" "I" (.int (4 : Int32)) := fc200
        have fd200 : Fld Z T200.heap b102 "com/example/mursyn/mursyn/synthesis/SuccessorLists" "listed" "I" (.int (2 : Int32)) := fd200
        have vv200 : Arv Z T200.heap bf109 kf109 .int (17 : Int32) [(.int (0 : Int32)), (.int (2 : Int32)), (.int (4 : Int32)), (.int (0 : Int32)), (.int (0 : Int32)), (.int (0 : Int32)), (.int (0 : Int32)), (.int (0 : Int32)), (.int (0 : Int32)), (.int (0 : Int32)), (.int (0 : Int32)), (.int (0 : Int32)), (.int (0 : Int32)), (.int (0 : Int32)), (.int (0 : Int32)), (.int (0 : Int32)), (.int (0 : Int32))] (.int (0 : Int32)) := vv200
        refine own_pre (fun t k => st200.trans k) ?_
        show own_Ends _ _ _ _ (T200.setTop (mkF m 95 #[.val (.int p0), .val (.int p1), .val (.int p2), .val (.int (2 : Int32)), .val (.int (2 : Int32)), .val (.int (0 : Int32)), .val (.ref b102)] []))
        refine own_pre (fun t k => XS.iload X200.here hx rfl (hb hby at_95) rfl k) ?_
        show own_Ends _ _ _ _ (T200.setTop (mkF m 97 #[.val (.int p0), .val (.int p1), .val (.int p2), .val (.int (2 : Int32)), .val (.int (2 : Int32)), .val (.int (0 : Int32)), .val (.ref b102)] [(.int (0 : Int32))]))
        refine own_pre (fun t k => XS.ifYes X200.here hx rfl (pc0 := 97) (pc' := 106) rfl (hb hby at_97) rfl ((if0 _ _).trans (teq ((by decide) : (0 : Int32) = (0 : Int32))).1) (by decide) (by decide) k) ?_
        show own_Ends _ _ _ _ (T200.setTop (mkF m 106 #[.val (.int p0), .val (.int p1), .val (.int p2), .val (.int (2 : Int32)), .val (.int (2 : Int32)), .val (.int (0 : Int32)), .val (.ref b102)] []))
        refine own_pre (fun t k => XS.aload X200.here hx rfl (hb hby at_106) rfl rfl k) ?_
        show own_Ends _ _ _ _ (T200.setTop (mkF m 108 #[.val (.int p0), .val (.int p1), .val (.int p2), .val (.int (2 : Int32)), .val (.int (2 : Int32)), .val (.int (0 : Int32)), .val (.ref b102)] [(.ref b102)]))
        refine own_pre (fun t k => XS.iconst X200.here hx rfl (hb hby at_108) k) ?_
        show own_Ends _ _ _ _ (T200.setTop (mkF m 109 #[.val (.int p0), .val (.int p1), .val (.int p2), .val (.int (2 : Int32)), .val (.int (2 : Int32)), .val (.int (0 : Int32)), .val (.ref b102)] [(.int (0 : Int32)), (.ref b102)]))
        obtain ⟨cq203, kq203, q203a, q203b, q203c⟩ := isOf hZ rfl f201
        obtain ⟨_, _, ⟨T203, L203, k203, n203⟩, -, X203, ⟨Lc203, hQ203, l203, y203, z203⟩, st203⟩ := X200.virtualBack hx (y := (⟨"com/example/mursyn/mursyn/synthesis/SuccessorLists", "count", "(I)I"⟩ : MethodName)) (z := (⟨"com/example/mursyn/mursyn/synthesis/SuccessorLists", "count", "(I)I"⟩ : MethodName)) hown (mvT hZ (hw _ (List.mem_of_getElem? (i := 23) rfl))) (mvT hZ (hw _ (List.mem_of_getElem? (i := 24) rfl))) (notFace_of_selects (args := #[]) (mvT hZ (hw _ (List.mem_of_getElem? (i := 26) rfl)))) (mvT hZ (hw _ (List.mem_of_getElem? (i := 26) rfl))) (mvT hZ (hw _ (List.mem_of_getElem? (i := 25) rfl))) (by decide) (backOf (W := 0) (rm4 l Z a0 hw [] b102 (0 : Int32) bf109 kf109 [(.int (0 : Int32)), (.int (2 : Int32)), (.int (4 : Int32)), (.int (0 : Int32)), (.int (0 : Int32)), (.int (0 : Int32)), (.int (0 : Int32)), (.int (0 : Int32)), (.int (0 : Int32)), (.int (0 : Int32)), (.int (0 : Int32)), (.int (0 : Int32)), (.int (0 : Int32)), (.int (0 : Int32)), (.int (0 : Int32)), (.int (0 : Int32)), (.int (0 : Int32))] (2 : Int32) (0 : Int32) T200.heap n0 Zn200 fa200 vv200 ⟨by decide, by decide⟩ rfl ⟨by decide, by decide⟩ rfl) hZ (hw _ (List.mem_of_getElem? (i := 27) rfl)) (hw _ (List.mem_of_getElem? (i := 2) rfl)) (by decide) (by decide)) q203a q203c (g := (mkF m 109 #[.val (.int p0), .val (.int p1), .val (.int p2), .val (.int (2 : Int32)), .val (.int (2 : Int32)), .val (.int (0 : Int32)), .val (.ref b102)] [(.int (0 : Int32)), (.ref b102)])) rfl (by rw [hml]; rfl) (Steps.refl _) (argsL := [(.int (0 : Int32))]) (rest := []) (lenOf own_pd1 rfl) rfl (by show 2 * 0 + _ ≤ _; exact Nat.le_of_eq rfl) (hb hby at_109) (fun _ _ => ⟨rfl, rfl, (by decide : 3 + 0 ≤ _), (by decide : 37 + 0 ≤ _)⟩)
        dsimp only [Pt.U, Pt.locs, Pt.cells, Pt.slots] at X203 l203 y203 z203 st203 hQ203
        subst l203 y203 z203
        obtain ⟨rfl, Nq203, e203⟩ := hQ203
        have N203 := Fr.app N200 Nq203
        refine own_pre (fun t k => st203.trans k) ?_
        show own_Ends _ _ _ _ (T203.setTop (mkF m 112 #[.val (.int p0), .val (.int p1), .val (.int p2), .val (.int (2 : Int32)), .val (.int (2 : Int32)), .val (.int (0 : Int32)), .val (.ref b102)] [(.int (2 : Int32))]))
        refine own_pre (fun t k => XS.iloadN X203.here hx rfl (hb hby at_112) rfl k) ?_
        show own_Ends _ _ _ _ (T203.setTop (mkF m 113 #[.val (.int p0), .val (.int p1), .val (.int p2), .val (.int (2 : Int32)), .val (.int (2 : Int32)), .val (.int (0 : Int32)), .val (.ref b102)] [(.int (2 : Int32)), (.int (2 : Int32))]))
        refine own_pre (fun t k => XS.icmpNo X203.here hx rfl (hb hby at_113) rfl (teq ((by decide) : (2 : Int32) = (2 : Int32))).2 k) ?_
        show own_Ends _ _ _ _ (T203.setTop (mkF m 116 #[.val (.int p0), .val (.int p1), .val (.int p2), .val (.int (2 : Int32)), .val (.int (2 : Int32)), .val (.int (0 : Int32)), .val (.ref b102)] []))
        refine own_pre (fun t k => XS.aload X203.here hx rfl (hb hby at_116) rfl rfl k) ?_
        show own_Ends _ _ _ _ (T203.setTop (mkF m 118 #[.val (.int p0), .val (.int p1), .val (.int p2), .val (.int (2 : Int32)), .val (.int (2 : Int32)), .val (.int (0 : Int32)), .val (.ref b102)] [(.ref b102)]))
        refine own_pre (fun t k => XS.iconst X203.here hx rfl (hb hby at_118) k) ?_
        show own_Ends _ _ _ _ (T203.setTop (mkF m 119 #[.val (.int p0), .val (.int p1), .val (.int p2), .val (.int (2 : Int32)), .val (.int (2 : Int32)), .val (.int (0 : Int32)), .val (.ref b102)] [(.int (1 : Int32)), (.ref b102)]))
        obtain ⟨cq204, kq204, q204a, q204b, q204c⟩ := isOf hZ e203 f201
        obtain ⟨_, _, ⟨T204, L204, k204, n204⟩, -, X204, ⟨Lc204, hQ204, l204, y204, z204⟩, st204⟩ := X203.virtualBack hx (y := (⟨"com/example/mursyn/mursyn/synthesis/SuccessorLists", "count", "(I)I"⟩ : MethodName)) (z := (⟨"com/example/mursyn/mursyn/synthesis/SuccessorLists", "count", "(I)I"⟩ : MethodName)) hown (mvT hZ (hw _ (List.mem_of_getElem? (i := 23) rfl))) (mvT hZ (hw _ (List.mem_of_getElem? (i := 24) rfl))) (notFace_of_selects (args := #[]) (mvT hZ (hw _ (List.mem_of_getElem? (i := 26) rfl)))) (mvT hZ (hw _ (List.mem_of_getElem? (i := 26) rfl))) (mvT hZ (hw _ (List.mem_of_getElem? (i := 25) rfl))) (by decide) (backOf (W := 0) (rm4 l Z a0 hw [] b102 (1 : Int32) bf109 kf109 [(.int (0 : Int32)), (.int (2 : Int32)), (.int (4 : Int32)), (.int (0 : Int32)), (.int (0 : Int32)), (.int (0 : Int32)), (.int (0 : Int32)), (.int (0 : Int32)), (.int (0 : Int32)), (.int (0 : Int32)), (.int (0 : Int32)), (.int (0 : Int32)), (.int (0 : Int32)), (.int (0 : Int32)), (.int (0 : Int32)), (.int (0 : Int32)), (.int (0 : Int32))] (4 : Int32) (2 : Int32) T200.heap n0 Zn200 fa200 vv200 ⟨by decide, by decide⟩ rfl ⟨by decide, by decide⟩ rfl) hZ (hw _ (List.mem_of_getElem? (i := 27) rfl)) (hw _ (List.mem_of_getElem? (i := 2) rfl)) (by decide) (by decide)) q204a q204c (g := (mkF m 119 #[.val (.int p0), .val (.int p1), .val (.int p2), .val (.int (2 : Int32)), .val (.int (2 : Int32)), .val (.int (0 : Int32)), .val (.ref b102)] [(.int (1 : Int32)), (.ref b102)])) rfl (by rw [hml]; rfl) (Steps.refl _) (argsL := [(.int (1 : Int32))]) (rest := []) (lenOf own_pd1 rfl) rfl (by show 2 * 0 + _ ≤ _; exact Nat.le_of_eq rfl) (hb hby at_119) (fun _ _ => ⟨rfl, e203, (by decide : 3 + 0 ≤ _), (by decide : 37 + 0 ≤ _)⟩)
        dsimp only [Pt.U, Pt.locs, Pt.cells, Pt.slots] at X204 l204 y204 z204 st204 hQ204
        subst l204 y204 z204
        obtain ⟨rfl, Nq204, e204⟩ := hQ204
        have N204 := Fr.app N203 Nq204
        refine own_pre (fun t k => st204.trans k) ?_
        show own_Ends _ _ _ _ (T204.setTop (mkF m 122 #[.val (.int p0), .val (.int p1), .val (.int p2), .val (.int (2 : Int32)), .val (.int (2 : Int32)), .val (.int (0 : Int32)), .val (.ref b102)] [(.int (2 : Int32))]))
        refine own_pre (fun t k => XS.iload X204.here hx rfl (hb hby at_122) rfl k) ?_
        show own_Ends _ _ _ _ (T204.setTop (mkF m 124 #[.val (.int p0), .val (.int p1), .val (.int p2), .val (.int (2 : Int32)), .val (.int (2 : Int32)), .val (.int (0 : Int32)), .val (.ref b102)] [(.int (2 : Int32)), (.int (2 : Int32))]))
        refine own_pre (fun t k => XS.icmpNo X204.here hx rfl (hb hby at_124) rfl (teq ((by decide) : (2 : Int32) = (2 : Int32))).2 k) ?_
        show own_Ends _ _ _ _ (T204.setTop (mkF m 127 #[.val (.int p0), .val (.int p1), .val (.int p2), .val (.int (2 : Int32)), .val (.int (2 : Int32)), .val (.int (0 : Int32)), .val (.ref b102)] []))
        refine own_pre (fun t k => XS.iconst X204.here hx rfl (hb hby at_127) k) ?_
        show own_Ends _ _ _ _ (T204.setTop (mkF m 128 #[.val (.int p0), .val (.int p1), .val (.int p2), .val (.int (2 : Int32)), .val (.int (2 : Int32)), .val (.int (0 : Int32)), .val (.ref b102)] [(.int (1 : Int32))]))
        refine own_pre (fun t k => XS.goto X204.here hx rfl (pc0 := 128) (pc' := 132) rfl (hb hby at_128) (by decide) (by decide) k) ?_
        show own_Ends _ _ _ _ (T204.setTop (mkF m 132 #[.val (.int p0), .val (.int p1), .val (.int p2), .val (.int (2 : Int32)), .val (.int (2 : Int32)), .val (.int (0 : Int32)), .val (.ref b102)] [(.int (1 : Int32))]))
        exact own_retN X204 hx (t := .boolean) Bd.returns (by simp) (hb hby at_132) hlk rfl e204 ⟨rfl, N204⟩ (by decide) (by decide)
  · skip
    refine own_pre (fun t k => XS.ifNo X0.here hx rfl (hb hby at_20) rfl ((if0 _ _).trans (feq hc101).1) k) ?_
    show own_Ends _ _ _ _ (s₁.setTop (mkF m 23 #[.val (.int p0), .val (.int p1), .val (.int p2), .val (.int x3), .val (.int x4), .unset, .unset] []))
    refine own_pre (fun t k => XS.iconst X0.here hx rfl (hb hby at_23) k) ?_
    show own_Ends _ _ _ _ (s₁.setTop (mkF m 24 #[.val (.int p0), .val (.int p1), .val (.int p2), .val (.int x3), .val (.int x4), .unset, .unset] [(.int (1 : Int32))]))
    refine own_pre (fun t k => XS.goto X0.here hx rfl (pc0 := 24) (pc' := 28) rfl (hb hby at_24) (by decide) (by decide) k) ?_
    show own_Ends _ _ _ _ (s₁.setTop (mkF m 28 #[.val (.int p0), .val (.int p1), .val (.int p2), .val (.int x3), .val (.int x4), .unset, .unset] [(.int (1 : Int32))]))
    refine own_pre (fun t k => XS.istore X0.here hx rfl (hb hby at_28) rfl (l' := #[.val (.int p0), .val (.int p1), .val (.int p2), .val (.int x3), .val (.int x4), .val (.int (1 : Int32)), .unset]) rfl k) ?_
    show own_Ends _ _ _ _ (s₁.setTop (mkF m 30 #[.val (.int p0), .val (.int p1), .val (.int p2), .val (.int x3), .val (.int x4), .val (.int (1 : Int32)), .unset] []))
    obtain ⟨T205, h205, X205, e205, E205, A205, D205, -, st205⟩ := newO X0 hx hZ hown (hw _ (List.mem_of_getElem? (i := 0) rfl)) (hw _ (List.mem_of_getElem? (i := 1) rfl)) (hw _ (List.mem_of_getElem? (i := 2) rfl)) e0 (g := (mkF m 30 #[.val (.int p0), .val (.int p1), .val (.int p2), .val (.int x3), .val (.int x4), .val (.int (1 : Int32)), .unset] [])) rfl (hb hby at_30) (by decide) (by decide)
    obtain ⟨b205, g205⟩ : ∃ z, z = h0.size := ⟨_, rfl⟩
    rw [← g205] at A205 D205 st205
    refine own_pre st205 ?_
    have L206 : n0 ≤ b205 := Nat.le_trans Z0 (Nat.le_of_eq g205.symm)
    have Zn207 : n0 ≤ h205.size := Nat.le_trans Z0 E205.1
    have f208 : Fld Z h205 b205 "com/example/mursyn/mursyn/synthesis/SuccessorLists" "first" "[I" .null := D205 (Or.inl (hw _ (List.mem_of_getElem? (i := 11) rfl))) (ty := (.array .int)) (by decide)
    have f209 : Fld Z h205 b205 "com/example/mursyn/mursyn/synthesis/SuccessorLists" "targets" "[I" .null := D205 (Or.inl (hw _ (List.mem_of_getElem? (i := 13) rfl))) (ty := (.array .int)) (by decide)
    have f210 : Fld Z h205 b205 "com/example/mursyn/mursyn/synthesis/SuccessorLists" "listed" "I" (.int (0 : Int32)) := D205 (Or.inl (hw _ (List.mem_of_getElem? (i := 20) rfl))) (ty := .int) (by decide)
    have f211 : Fld Z h205 b205 "com/example/mursyn/mursyn/synthesis/SuccessorLists" "edgeCount" "I" (.int (0 : Int32)) := D205 (Or.inl (hw _ (List.mem_of_getElem? (i := 22) rfl))) (ty := .int) (by decide)
    show own_Ends _ _ _ _ (T205.setTop (mkF m 33 #[.val (.int p0), .val (.int p1), .val (.int p2), .val (.int x3), .val (.int x4), .val (.int (1 : Int32)), .unset] [(.ref b205)]))
    refine own_pre (fun t k => XS.dup X205.here hx rfl (hb hby at_33) rfl rfl k) ?_
    show own_Ends _ _ _ _ (T205.setTop (mkF m 34 #[.val (.int p0), .val (.int p1), .val (.int p2), .val (.int x3), .val (.int x4), .val (.int (1 : Int32)), .unset] [(.ref b205), (.ref b205)]))
    obtain ⟨_, _, ⟨T212, L212, k212, n212⟩, -, X212, ⟨Lc212, hQ212, l212, y212, z212⟩, st212⟩ := X205.specialBack hx (y := (⟨"com/example/mursyn/mursyn/synthesis/SuccessorLists", "<init>", "()V"⟩ : MethodName)) rfl hown (mvT hZ (hw _ (List.mem_of_getElem? (i := 3) rfl))) (mvT hZ (hw _ (List.mem_of_getElem? (i := 4) rfl))) (mvT hZ (hw _ (List.mem_of_getElem? (i := 5) rfl))) (by decide) (backOf (W := 1) (rm1 l Z a0 hw [] b205 h205 n0 Zn207 A205 L206 f208 f209 f211 f210) hZ (hw _ (List.mem_of_getElem? (i := 5) rfl)) (hw _ (List.mem_of_getElem? (i := 2) rfl)) (by decide) (by decide)) (g := (mkF m 34 #[.val (.int p0), .val (.int p1), .val (.int p2), .val (.int x3), .val (.int x4), .val (.int (1 : Int32)), .unset] [(.ref b205), (.ref b205)])) rfl (by rw [hml]; rfl) (Steps.refl _) (a := b205) (argsL := []) (rest := [(.ref b205)]) (lenOf own_pd0 rfl) rfl (by show 2 * 0 + _ ≤ _; exact Nat.le_of_eq rfl) (hb hby at_34) (fun _ _ => ⟨rfl, e205, (by decide : 1 + 2 ≤ _), (by decide : 4 + 33 ≤ _)⟩)
    dsimp only [Pt.U, Pt.locs, Pt.cells, Pt.slots] at X212 l212 y212 z212 st212 hQ212
    subst l212 y212 z212
    obtain ⟨bf212, bt212, kf212, kt212, rfl, Nq212, Kq212, fa212, fb212, fc212, fd212, va212, vb212, la212, lb212, na212, nb212, nc212⟩ := hQ212
    have N212 := Fr.app N0 Nq212
    have f213 := A205.keep Kq212
    have Zn212 : n0 ≤ T212.heap.size := Nat.le_trans Zn207 Kq212.1
    refine own_pre (fun t k => st212.trans k) ?_
    show own_Ends _ _ _ _ (T212.setTop (mkF m 37 #[.val (.int p0), .val (.int p1), .val (.int p2), .val (.int x3), .val (.int x4), .val (.int (1 : Int32)), .unset] [(.ref b205)]))
    refine own_pre (fun t k => XS.astore X212.here hx rfl (hb hby at_37) rfl rfl (l' := #[.val (.int p0), .val (.int p1), .val (.int p2), .val (.int x3), .val (.int x4), .val (.int (1 : Int32)), .val (.ref b205)]) rfl k) ?_
    show own_Ends _ _ _ _ (T212.setTop (mkF m 39 #[.val (.int p0), .val (.int p1), .val (.int p2), .val (.int x3), .val (.int x4), .val (.int (1 : Int32)), .val (.ref b205)] []))
    rcases own_c3 hx3 with hs214 | hs214 | hs214
    · subst hs214
      show own_Ends _ _ _ _ (T212.setTop (mkF m 39 #[.val (.int p0), .val (.int p1), .val (.int p2), .val (.int (0 : Int32)), .val (.int x4), .val (.int (1 : Int32)), .val (.ref b205)] []))
      refine own_pre (fun t k => XS.iloadN X212.here hx rfl (hb hby at_39) rfl k) ?_
      show own_Ends _ _ _ _ (T212.setTop (mkF m 40 #[.val (.int p0), .val (.int p1), .val (.int p2), .val (.int (0 : Int32)), .val (.int x4), .val (.int (1 : Int32)), .val (.ref b205)] [(.int (0 : Int32))]))
      refine own_pre (fun t k => XS.iconst X212.here hx rfl (hb hby at_40) k) ?_
      show own_Ends _ _ _ _ (T212.setTop (mkF m 41 #[.val (.int p0), .val (.int p1), .val (.int p2), .val (.int (0 : Int32)), .val (.int x4), .val (.int (1 : Int32)), .val (.ref b205)] [(.int (1 : Int32)), (.int (0 : Int32))]))
      refine own_pre (fun t k => XS.icmpYes X212.here hx rfl (pc0 := 41) (pc' := 50) rfl (hb hby at_41) rfl (tlt ((by decide) : (0 : Int32) < (1 : Int32))).1 (by decide) (by decide) k) ?_
      show own_Ends _ _ _ _ (T212.setTop (mkF m 50 #[.val (.int p0), .val (.int p1), .val (.int p2), .val (.int (0 : Int32)), .val (.int x4), .val (.int (1 : Int32)), .val (.ref b205)] []))
      refine own_pre (fun t k => XS.iloadN X212.here hx rfl (hb hby at_50) rfl k) ?_
      show own_Ends _ _ _ _ (T212.setTop (mkF m 51 #[.val (.int p0), .val (.int p1), .val (.int p2), .val (.int (0 : Int32)), .val (.int x4), .val (.int (1 : Int32)), .val (.ref b205)] [(.int (0 : Int32))]))
      refine own_pre (fun t k => XS.iconst X212.here hx rfl (hb hby at_51) k) ?_
      show own_Ends _ _ _ _ (T212.setTop (mkF m 52 #[.val (.int p0), .val (.int p1), .val (.int p2), .val (.int (0 : Int32)), .val (.int x4), .val (.int (1 : Int32)), .val (.ref b205)] [(.int (2 : Int32)), (.int (0 : Int32))]))
      refine own_pre (fun t k => XS.icmpYes X212.here hx rfl (pc0 := 52) (pc' := 61) rfl (hb hby at_52) rfl (tlt ((by decide) : (0 : Int32) < (2 : Int32))).1 (by decide) (by decide) k) ?_
      show own_Ends _ _ _ _ (T212.setTop (mkF m 61 #[.val (.int p0), .val (.int p1), .val (.int p2), .val (.int (0 : Int32)), .val (.int x4), .val (.int (1 : Int32)), .val (.ref b205)] []))
      refine own_pre (fun t k => XS.aload X212.here hx rfl (hb hby at_61) rfl rfl k) ?_
      show own_Ends _ _ _ _ (T212.setTop (mkF m 63 #[.val (.int p0), .val (.int p1), .val (.int p2), .val (.int (0 : Int32)), .val (.int x4), .val (.int (1 : Int32)), .val (.ref b205)] [(.ref b205)]))
      obtain ⟨cq215, kq215, q215a, q215b, q215c⟩ := isOf hZ rfl f213
      obtain ⟨_, _, ⟨T215, L215, k215, n215⟩, -, X215, ⟨Lc215, hQ215, l215, y215, z215⟩, st215⟩ := X212.virtualBack hx (y := (⟨"com/example/mursyn/mursyn/synthesis/SuccessorLists", "close", "()V"⟩ : MethodName)) (z := (⟨"com/example/mursyn/mursyn/synthesis/SuccessorLists", "close", "()V"⟩ : MethodName)) hown (mvT hZ (hw _ (List.mem_of_getElem? (i := 14) rfl))) (mvT hZ (hw _ (List.mem_of_getElem? (i := 15) rfl))) (notFace_of_selects (args := #[]) (mvT hZ (hw _ (List.mem_of_getElem? (i := 17) rfl)))) (mvT hZ (hw _ (List.mem_of_getElem? (i := 17) rfl))) (mvT hZ (hw _ (List.mem_of_getElem? (i := 16) rfl))) (by decide) (backOf (W := 0) (rm3 l Z a0 hw [] b205 bf212 bt212 (0 : Int32) (0 : Int32) kf212 [(.int (0 : Int32)), (.int (0 : Int32)), (.int (0 : Int32)), (.int (0 : Int32)), (.int (0 : Int32)), (.int (0 : Int32)), (.int (0 : Int32)), (.int (0 : Int32)), (.int (0 : Int32)), (.int (0 : Int32)), (.int (0 : Int32)), (.int (0 : Int32)), (.int (0 : Int32)), (.int (0 : Int32)), (.int (0 : Int32)), (.int (0 : Int32)), (.int (0 : Int32))]  T212.heap n0 Zn212 f213 L206 la212 na212 fa212 fb212 fc212 fd212 va212 (by decide) ⟨by decide, by decide⟩ (Nat.le_of_ble_eq_true rfl)) hZ (hw _ (List.mem_of_getElem? (i := 18) rfl)) (hw _ (List.mem_of_getElem? (i := 2) rfl)) (by decide) (by decide)) q215a q215c (g := (mkF m 63 #[.val (.int p0), .val (.int p1), .val (.int p2), .val (.int (0 : Int32)), .val (.int x4), .val (.int (1 : Int32)), .val (.ref b205)] [(.ref b205)])) rfl (by rw [hml]; rfl) (Steps.refl _) (argsL := []) (rest := []) (lenOf own_pd0 rfl) rfl (by show 2 * 0 + _ ≤ _; exact Nat.le_of_eq rfl) (hb hby at_63) (fun _ _ => ⟨rfl, rfl, (by decide : 3 + 0 ≤ _), (by decide : 37 + 0 ≤ _)⟩)
      dsimp only [Pt.U, Pt.locs, Pt.cells, Pt.slots] at X215 l215 y215 z215 st215 hQ215
      subst l215 y215 z215
      obtain ⟨rfl, Nq215, Kq215, fa215, fb215, fc215, fd215, vv215⟩ := hQ215
      have N215 := Fr.app N212 Nq215
      have f216 := f213.keep Kq215
      have f217 := vb212.keep Kq215 (ninS (Ne.symm nb212) (ninS (Ne.symm nc212) nin0))
      have Zn215 : n0 ≤ T215.heap.size := Nat.le_trans Zn212 Kq215.1
      have fa215 : Fld Z T215.heap b205 "com/example/mursyn/mursyn/synthesis/SuccessorLists" "first" "[I" (.ref bf212) := fa215
      have fb215 : Fld Z T215.heap b205 "com/example/mursyn/mursyn/synthesis/SuccessorLists" "targets" "[I" (.ref bt212) := fb215
      have fc215 : Fld Z T215.heap b205 "com/example/mursyn/mursyn/synthesis/SuccessorLists" "edgeCount" "I" (.int (0 : Int32)) := fc215
      have fd215 : Fld Z T215.heap b205 "com/example/mursyn/mursyn/synthesis/SuccessorLists" "listed" "I" (.int (1 : Int32)) := fd215
      have vv215 : Arv Z T215.heap bf212 kf212 .int (17 : Int32) [(.int (0 : Int32)), (.int (0 : Int32)), (.int (0 : Int32)), (.int (0 : Int32)), (.int (0 : Int32)), (.int (0 : Int32)), (.int (0 : Int32)), (.int (0 : Int32)), (.int (0 : Int32)), (.int (0 : Int32)), (.int (0 : Int32)), (.int (0 : Int32)), (.int (0 : Int32)), (.int (0 : Int32)), (.int (0 : Int32)), (.int (0 : Int32)), (.int (0 : Int32))] (.int (0 : Int32)) := vv215
      refine own_pre (fun t k => st215.trans k) ?_
      show own_Ends _ _ _ _ (T215.setTop (mkF m 66 #[.val (.int p0), .val (.int p1), .val (.int p2), .val (.int (0 : Int32)), .val (.int x4), .val (.int (1 : Int32)), .val (.ref b205)] []))
      rcases own_c3 hx4 with hs218 | hs218 | hs218
      · subst hs218
        show own_Ends _ _ _ _ (T215.setTop (mkF m 66 #[.val (.int p0), .val (.int p1), .val (.int p2), .val (.int (0 : Int32)), .val (.int (0 : Int32)), .val (.int (1 : Int32)), .val (.ref b205)] []))
        refine own_pre (fun t k => XS.iload X215.here hx rfl (hb hby at_66) rfl k) ?_
        show own_Ends _ _ _ _ (T215.setTop (mkF m 68 #[.val (.int p0), .val (.int p1), .val (.int p2), .val (.int (0 : Int32)), .val (.int (0 : Int32)), .val (.int (1 : Int32)), .val (.ref b205)] [(.int (0 : Int32))]))
        refine own_pre (fun t k => XS.iconst X215.here hx rfl (hb hby at_68) k) ?_
        show own_Ends _ _ _ _ (T215.setTop (mkF m 69 #[.val (.int p0), .val (.int p1), .val (.int p2), .val (.int (0 : Int32)), .val (.int (0 : Int32)), .val (.int (1 : Int32)), .val (.ref b205)] [(.int (1 : Int32)), (.int (0 : Int32))]))
        refine own_pre (fun t k => XS.icmpYes X215.here hx rfl (pc0 := 69) (pc' := 78) rfl (hb hby at_69) rfl (tlt ((by decide) : (0 : Int32) < (1 : Int32))).1 (by decide) (by decide) k) ?_
        show own_Ends _ _ _ _ (T215.setTop (mkF m 78 #[.val (.int p0), .val (.int p1), .val (.int p2), .val (.int (0 : Int32)), .val (.int (0 : Int32)), .val (.int (1 : Int32)), .val (.ref b205)] []))
        refine own_pre (fun t k => XS.iload X215.here hx rfl (hb hby at_78) rfl k) ?_
        show own_Ends _ _ _ _ (T215.setTop (mkF m 80 #[.val (.int p0), .val (.int p1), .val (.int p2), .val (.int (0 : Int32)), .val (.int (0 : Int32)), .val (.int (1 : Int32)), .val (.ref b205)] [(.int (0 : Int32))]))
        refine own_pre (fun t k => XS.iconst X215.here hx rfl (hb hby at_80) k) ?_
        show own_Ends _ _ _ _ (T215.setTop (mkF m 81 #[.val (.int p0), .val (.int p1), .val (.int p2), .val (.int (0 : Int32)), .val (.int (0 : Int32)), .val (.int (1 : Int32)), .val (.ref b205)] [(.int (2 : Int32)), (.int (0 : Int32))]))
        refine own_pre (fun t k => XS.icmpYes X215.here hx rfl (pc0 := 81) (pc' := 90) rfl (hb hby at_81) rfl (tlt ((by decide) : (0 : Int32) < (2 : Int32))).1 (by decide) (by decide) k) ?_
        show own_Ends _ _ _ _ (T215.setTop (mkF m 90 #[.val (.int p0), .val (.int p1), .val (.int p2), .val (.int (0 : Int32)), .val (.int (0 : Int32)), .val (.int (1 : Int32)), .val (.ref b205)] []))
        refine own_pre (fun t k => XS.aload X215.here hx rfl (hb hby at_90) rfl rfl k) ?_
        show own_Ends _ _ _ _ (T215.setTop (mkF m 92 #[.val (.int p0), .val (.int p1), .val (.int p2), .val (.int (0 : Int32)), .val (.int (0 : Int32)), .val (.int (1 : Int32)), .val (.ref b205)] [(.ref b205)]))
        obtain ⟨cq219, kq219, q219a, q219b, q219c⟩ := isOf hZ rfl f216
        obtain ⟨_, _, ⟨T219, L219, k219, n219⟩, -, X219, ⟨Lc219, hQ219, l219, y219, z219⟩, st219⟩ := X215.virtualBack hx (y := (⟨"com/example/mursyn/mursyn/synthesis/SuccessorLists", "close", "()V"⟩ : MethodName)) (z := (⟨"com/example/mursyn/mursyn/synthesis/SuccessorLists", "close", "()V"⟩ : MethodName)) hown (mvT hZ (hw _ (List.mem_of_getElem? (i := 14) rfl))) (mvT hZ (hw _ (List.mem_of_getElem? (i := 15) rfl))) (notFace_of_selects (args := #[]) (mvT hZ (hw _ (List.mem_of_getElem? (i := 17) rfl)))) (mvT hZ (hw _ (List.mem_of_getElem? (i := 17) rfl))) (mvT hZ (hw _ (List.mem_of_getElem? (i := 16) rfl))) (by decide) (backOf (W := 0) (rm3 l Z a0 hw [] b205 bf212 bt212 (0 : Int32) (1 : Int32) kf212 [(.int (0 : Int32)), (.int (0 : Int32)), (.int (0 : Int32)), (.int (0 : Int32)), (.int (0 : Int32)), (.int (0 : Int32)), (.int (0 : Int32)), (.int (0 : Int32)), (.int (0 : Int32)), (.int (0 : Int32)), (.int (0 : Int32)), (.int (0 : Int32)), (.int (0 : Int32)), (.int (0 : Int32)), (.int (0 : Int32)), (.int (0 : Int32)), (.int (0 : Int32))]  T215.heap n0 Zn215 f216 L206 la212 na212 fa215 fb215 fc215 fd215 vv215 (by decide) ⟨by decide, by decide⟩ (Nat.le_of_ble_eq_true rfl)) hZ (hw _ (List.mem_of_getElem? (i := 18) rfl)) (hw _ (List.mem_of_getElem? (i := 2) rfl)) (by decide) (by decide)) q219a q219c (g := (mkF m 92 #[.val (.int p0), .val (.int p1), .val (.int p2), .val (.int (0 : Int32)), .val (.int (0 : Int32)), .val (.int (1 : Int32)), .val (.ref b205)] [(.ref b205)])) rfl (by rw [hml]; rfl) (Steps.refl _) (argsL := []) (rest := []) (lenOf own_pd0 rfl) rfl (by show 2 * 0 + _ ≤ _; exact Nat.le_of_eq rfl) (hb hby at_92) (fun _ _ => ⟨rfl, rfl, (by decide : 3 + 0 ≤ _), (by decide : 37 + 0 ≤ _)⟩)
        dsimp only [Pt.U, Pt.locs, Pt.cells, Pt.slots] at X219 l219 y219 z219 st219 hQ219
        subst l219 y219 z219
        obtain ⟨rfl, Nq219, Kq219, fa219, fb219, fc219, fd219, vv219⟩ := hQ219
        have N219 := Fr.app N215 Nq219
        have f220 := f216.keep Kq219
        have f221 := f217.keep Kq219 (ninS (Ne.symm nb212) (ninS (Ne.symm nc212) nin0))
        have Zn219 : n0 ≤ T219.heap.size := Nat.le_trans Zn215 Kq219.1
        have fa219 : Fld Z T219.heap b205 "com/example/mursyn/mursyn/synthesis/SuccessorLists" "first" "[I" (.ref bf212) := fa219
        have fb219 : Fld Z T219.heap b205 "com/example/mursyn/mursyn/synthesis/SuccessorLists" "targets" "[I" (.ref bt212) := fb219
        have fc219 : Fld Z T219.heap b205 "com/example/mursyn/mursyn/synthesis/SuccessorLists" "edgeCount" "I" (.int (0 : Int32)) := fc219
        have fd219 : Fld Z T219.heap b205 "com/example/mursyn/mursyn/synthesis/SuccessorLists" "listed" "I" (.int (2 : Int32)) := fd219
        have vv219 : Arv Z T219.heap bf212 kf212 .int (17 : Int32) [(.int (0 : Int32)), (.int (0 : Int32)), (.int (0 : Int32)), (.int (0 : Int32)), (.int (0 : Int32)), (.int (0 : Int32)), (.int (0 : Int32)), (.int (0 : Int32)), (.int (0 : Int32)), (.int (0 : Int32)), (.int (0 : Int32)), (.int (0 : Int32)), (.int (0 : Int32)), (.int (0 : Int32)), (.int (0 : Int32)), (.int (0 : Int32)), (.int (0 : Int32))] (.int (0 : Int32)) := vv219
        refine own_pre (fun t k => st219.trans k) ?_
        show own_Ends _ _ _ _ (T219.setTop (mkF m 95 #[.val (.int p0), .val (.int p1), .val (.int p2), .val (.int (0 : Int32)), .val (.int (0 : Int32)), .val (.int (1 : Int32)), .val (.ref b205)] []))
        refine own_pre (fun t k => XS.iload X219.here hx rfl (hb hby at_95) rfl k) ?_
        show own_Ends _ _ _ _ (T219.setTop (mkF m 97 #[.val (.int p0), .val (.int p1), .val (.int p2), .val (.int (0 : Int32)), .val (.int (0 : Int32)), .val (.int (1 : Int32)), .val (.ref b205)] [(.int (1 : Int32))]))
        refine own_pre (fun t k => XS.ifNo X219.here hx rfl (hb hby at_97) rfl ((if0 _ _).trans (feq ((by decide) : ¬ ((1 : Int32) = (0 : Int32)))).1) k) ?_
        show own_Ends _ _ _ _ (T219.setTop (mkF m 100 #[.val (.int p0), .val (.int p1), .val (.int p2), .val (.int (0 : Int32)), .val (.int (0 : Int32)), .val (.int (1 : Int32)), .val (.ref b205)] []))
        refine own_pre (fun t k => XS.aload X219.here hx rfl (hb hby at_100) rfl rfl k) ?_
        show own_Ends _ _ _ _ (T219.setTop (mkF m 102 #[.val (.int p0), .val (.int p1), .val (.int p2), .val (.int (0 : Int32)), .val (.int (0 : Int32)), .val (.int (1 : Int32)), .val (.ref b205)] [(.ref b205)]))
        refine own_pre (fun t k => XS.iloadN X219.here hx rfl (hb hby at_102) rfl k) ?_
        show own_Ends _ _ _ _ (T219.setTop (mkF m 103 #[.val (.int p0), .val (.int p1), .val (.int p2), .val (.int (0 : Int32)), .val (.int (0 : Int32)), .val (.int (1 : Int32)), .val (.ref b205)] [(.int p1), (.ref b205)]))
        obtain ⟨cq222, kq222, q222a, q222b, q222c⟩ := isOf hZ rfl f220
        obtain ⟨_, _, ⟨T222, L222, k222, n222⟩, -, X222, ⟨Lc222, hQ222, l222, y222, z222⟩, st222⟩ := X219.virtualBack hx (y := (⟨"com/example/mursyn/mursyn/synthesis/SuccessorLists", "add", "(I)V"⟩ : MethodName)) (z := (⟨"com/example/mursyn/mursyn/synthesis/SuccessorLists", "add", "(I)V"⟩ : MethodName)) hown (mvT hZ (hw _ (List.mem_of_getElem? (i := 28) rfl))) (mvT hZ (hw _ (List.mem_of_getElem? (i := 29) rfl))) (notFace_of_selects (args := #[]) (mvT hZ (hw _ (List.mem_of_getElem? (i := 31) rfl)))) (mvT hZ (hw _ (List.mem_of_getElem? (i := 31) rfl))) (mvT hZ (hw _ (List.mem_of_getElem? (i := 30) rfl))) (by decide) (backOf (W := 0) (rm2 l Z a0 hw [] b205 p1 bf212 bt212 (0 : Int32) (2 : Int32) kt212 [(.int (0 : Int32)), (.int (0 : Int32)), (.int (0 : Int32)), (.int (0 : Int32)), (.int (0 : Int32)), (.int (0 : Int32)), (.int (0 : Int32)), (.int (0 : Int32)), (.int (0 : Int32)), (.int (0 : Int32)), (.int (0 : Int32)), (.int (0 : Int32)), (.int (0 : Int32)), (.int (0 : Int32)), (.int (0 : Int32)), (.int (0 : Int32))]  T219.heap n0 Zn219 f220 L206 lb212 nb212 fa219 fb219 fc219 fd219 f221 (by decide) ⟨by decide, by decide⟩ (Nat.le_of_ble_eq_true rfl)) hZ (hw _ (List.mem_of_getElem? (i := 32) rfl)) (hw _ (List.mem_of_getElem? (i := 2) rfl)) (by decide) (by decide)) q222a q222c (g := (mkF m 103 #[.val (.int p0), .val (.int p1), .val (.int p2), .val (.int (0 : Int32)), .val (.int (0 : Int32)), .val (.int (1 : Int32)), .val (.ref b205)] [(.int p1), (.ref b205)])) rfl (by rw [hml]; rfl) (Steps.refl _) (argsL := [(.int p1)]) (rest := []) (lenOf own_pd2 rfl) rfl (by show 2 * 0 + _ ≤ _; exact Nat.le_of_eq rfl) (hb hby at_103) (fun _ _ => ⟨rfl, rfl, (by decide : 3 + 0 ≤ _), (by decide : 37 + 0 ≤ _)⟩)
        dsimp only [Pt.U, Pt.locs, Pt.cells, Pt.slots] at X222 l222 y222 z222 st222 hQ222
        subst l222 y222 z222
        obtain ⟨rfl, Nq222, Kq222, fa222, fb222, fc222, fd222, vv222⟩ := hQ222
        have N222 := Fr.app N219 Nq222
        have f223 := f220.keep Kq222
        have f224 := vv219.keep Kq222 (ninS (Ne.symm na212) (ninS nc212 nin0))
        have Zn222 : n0 ≤ T222.heap.size := Nat.le_trans Zn219 Kq222.1
        have fa222 : Fld Z T222.heap b205 "com/example/mursyn/mursyn/synthesis/SuccessorLists" "first" "[I" (.ref bf212) := fa222
        have fb222 : Fld Z T222.heap b205 "com/example/mursyn/mursyn/synthesis/SuccessorLists" "targets" "[I" (.ref bt212) := fb222
        have fc222 : Fld Z T222.heap b205 "com/example/mursyn/mursyn/synthesis/SuccessorLists" "edgeCount" "I" (.int (1 : Int32)) := fc222
        have fd222 : Fld Z T222.heap b205 "com/example/mursyn/mursyn/synthesis/SuccessorLists" "listed" "I" (.int (2 : Int32)) := fd222
        have vv222 : Arv Z T222.heap bt212 kt212 .int (16 : Int32) [(.int p1), (.int (0 : Int32)), (.int (0 : Int32)), (.int (0 : Int32)), (.int (0 : Int32)), (.int (0 : Int32)), (.int (0 : Int32)), (.int (0 : Int32)), (.int (0 : Int32)), (.int (0 : Int32)), (.int (0 : Int32)), (.int (0 : Int32)), (.int (0 : Int32)), (.int (0 : Int32)), (.int (0 : Int32)), (.int (0 : Int32))] (.int (0 : Int32)) := vv222
        refine own_pre (fun t k => st222.trans k) ?_
        show own_Ends _ _ _ _ (T222.setTop (mkF m 106 #[.val (.int p0), .val (.int p1), .val (.int p2), .val (.int (0 : Int32)), .val (.int (0 : Int32)), .val (.int (1 : Int32)), .val (.ref b205)] []))
        refine own_pre (fun t k => XS.aload X222.here hx rfl (hb hby at_106) rfl rfl k) ?_
        show own_Ends _ _ _ _ (T222.setTop (mkF m 108 #[.val (.int p0), .val (.int p1), .val (.int p2), .val (.int (0 : Int32)), .val (.int (0 : Int32)), .val (.int (1 : Int32)), .val (.ref b205)] [(.ref b205)]))
        refine own_pre (fun t k => XS.iconst X222.here hx rfl (hb hby at_108) k) ?_
        show own_Ends _ _ _ _ (T222.setTop (mkF m 109 #[.val (.int p0), .val (.int p1), .val (.int p2), .val (.int (0 : Int32)), .val (.int (0 : Int32)), .val (.int (1 : Int32)), .val (.ref b205)] [(.int (0 : Int32)), (.ref b205)]))
        obtain ⟨cq225, kq225, q225a, q225b, q225c⟩ := isOf hZ rfl f223
        obtain ⟨_, _, ⟨T225, L225, k225, n225⟩, -, X225, ⟨Lc225, hQ225, l225, y225, z225⟩, st225⟩ := X222.virtualBack hx (y := (⟨"com/example/mursyn/mursyn/synthesis/SuccessorLists", "count", "(I)I"⟩ : MethodName)) (z := (⟨"com/example/mursyn/mursyn/synthesis/SuccessorLists", "count", "(I)I"⟩ : MethodName)) hown (mvT hZ (hw _ (List.mem_of_getElem? (i := 23) rfl))) (mvT hZ (hw _ (List.mem_of_getElem? (i := 24) rfl))) (notFace_of_selects (args := #[]) (mvT hZ (hw _ (List.mem_of_getElem? (i := 26) rfl)))) (mvT hZ (hw _ (List.mem_of_getElem? (i := 26) rfl))) (mvT hZ (hw _ (List.mem_of_getElem? (i := 25) rfl))) (by decide) (backOf (W := 0) (rm4 l Z a0 hw [] b205 (0 : Int32) bf212 kf212 [(.int (0 : Int32)), (.int (0 : Int32)), (.int (0 : Int32)), (.int (0 : Int32)), (.int (0 : Int32)), (.int (0 : Int32)), (.int (0 : Int32)), (.int (0 : Int32)), (.int (0 : Int32)), (.int (0 : Int32)), (.int (0 : Int32)), (.int (0 : Int32)), (.int (0 : Int32)), (.int (0 : Int32)), (.int (0 : Int32)), (.int (0 : Int32)), (.int (0 : Int32))] (0 : Int32) (0 : Int32) T222.heap n0 Zn222 fa222 f224 ⟨by decide, by decide⟩ rfl ⟨by decide, by decide⟩ rfl) hZ (hw _ (List.mem_of_getElem? (i := 27) rfl)) (hw _ (List.mem_of_getElem? (i := 2) rfl)) (by decide) (by decide)) q225a q225c (g := (mkF m 109 #[.val (.int p0), .val (.int p1), .val (.int p2), .val (.int (0 : Int32)), .val (.int (0 : Int32)), .val (.int (1 : Int32)), .val (.ref b205)] [(.int (0 : Int32)), (.ref b205)])) rfl (by rw [hml]; rfl) (Steps.refl _) (argsL := [(.int (0 : Int32))]) (rest := []) (lenOf own_pd1 rfl) rfl (by show 2 * 0 + _ ≤ _; exact Nat.le_of_eq rfl) (hb hby at_109) (fun _ _ => ⟨rfl, rfl, (by decide : 3 + 0 ≤ _), (by decide : 37 + 0 ≤ _)⟩)
        dsimp only [Pt.U, Pt.locs, Pt.cells, Pt.slots] at X225 l225 y225 z225 st225 hQ225
        subst l225 y225 z225
        obtain ⟨rfl, Nq225, e225⟩ := hQ225
        have N225 := Fr.app N222 Nq225
        refine own_pre (fun t k => st225.trans k) ?_
        show own_Ends _ _ _ _ (T225.setTop (mkF m 112 #[.val (.int p0), .val (.int p1), .val (.int p2), .val (.int (0 : Int32)), .val (.int (0 : Int32)), .val (.int (1 : Int32)), .val (.ref b205)] [(.int (0 : Int32))]))
        refine own_pre (fun t k => XS.iloadN X225.here hx rfl (hb hby at_112) rfl k) ?_
        show own_Ends _ _ _ _ (T225.setTop (mkF m 113 #[.val (.int p0), .val (.int p1), .val (.int p2), .val (.int (0 : Int32)), .val (.int (0 : Int32)), .val (.int (1 : Int32)), .val (.ref b205)] [(.int (0 : Int32)), (.int (0 : Int32))]))
        refine own_pre (fun t k => XS.icmpNo X225.here hx rfl (hb hby at_113) rfl (teq ((by decide) : (0 : Int32) = (0 : Int32))).2 k) ?_
        show own_Ends _ _ _ _ (T225.setTop (mkF m 116 #[.val (.int p0), .val (.int p1), .val (.int p2), .val (.int (0 : Int32)), .val (.int (0 : Int32)), .val (.int (1 : Int32)), .val (.ref b205)] []))
        refine own_pre (fun t k => XS.aload X225.here hx rfl (hb hby at_116) rfl rfl k) ?_
        show own_Ends _ _ _ _ (T225.setTop (mkF m 118 #[.val (.int p0), .val (.int p1), .val (.int p2), .val (.int (0 : Int32)), .val (.int (0 : Int32)), .val (.int (1 : Int32)), .val (.ref b205)] [(.ref b205)]))
        refine own_pre (fun t k => XS.iconst X225.here hx rfl (hb hby at_118) k) ?_
        show own_Ends _ _ _ _ (T225.setTop (mkF m 119 #[.val (.int p0), .val (.int p1), .val (.int p2), .val (.int (0 : Int32)), .val (.int (0 : Int32)), .val (.int (1 : Int32)), .val (.ref b205)] [(.int (1 : Int32)), (.ref b205)]))
        obtain ⟨cq226, kq226, q226a, q226b, q226c⟩ := isOf hZ e225 f223
        obtain ⟨_, _, ⟨T226, L226, k226, n226⟩, -, X226, ⟨Lc226, hQ226, l226, y226, z226⟩, st226⟩ := X225.virtualBack hx (y := (⟨"com/example/mursyn/mursyn/synthesis/SuccessorLists", "count", "(I)I"⟩ : MethodName)) (z := (⟨"com/example/mursyn/mursyn/synthesis/SuccessorLists", "count", "(I)I"⟩ : MethodName)) hown (mvT hZ (hw _ (List.mem_of_getElem? (i := 23) rfl))) (mvT hZ (hw _ (List.mem_of_getElem? (i := 24) rfl))) (notFace_of_selects (args := #[]) (mvT hZ (hw _ (List.mem_of_getElem? (i := 26) rfl)))) (mvT hZ (hw _ (List.mem_of_getElem? (i := 26) rfl))) (mvT hZ (hw _ (List.mem_of_getElem? (i := 25) rfl))) (by decide) (backOf (W := 0) (rm4 l Z a0 hw [] b205 (1 : Int32) bf212 kf212 [(.int (0 : Int32)), (.int (0 : Int32)), (.int (0 : Int32)), (.int (0 : Int32)), (.int (0 : Int32)), (.int (0 : Int32)), (.int (0 : Int32)), (.int (0 : Int32)), (.int (0 : Int32)), (.int (0 : Int32)), (.int (0 : Int32)), (.int (0 : Int32)), (.int (0 : Int32)), (.int (0 : Int32)), (.int (0 : Int32)), (.int (0 : Int32)), (.int (0 : Int32))] (0 : Int32) (0 : Int32) T222.heap n0 Zn222 fa222 f224 ⟨by decide, by decide⟩ rfl ⟨by decide, by decide⟩ rfl) hZ (hw _ (List.mem_of_getElem? (i := 27) rfl)) (hw _ (List.mem_of_getElem? (i := 2) rfl)) (by decide) (by decide)) q226a q226c (g := (mkF m 119 #[.val (.int p0), .val (.int p1), .val (.int p2), .val (.int (0 : Int32)), .val (.int (0 : Int32)), .val (.int (1 : Int32)), .val (.ref b205)] [(.int (1 : Int32)), (.ref b205)])) rfl (by rw [hml]; rfl) (Steps.refl _) (argsL := [(.int (1 : Int32))]) (rest := []) (lenOf own_pd1 rfl) rfl (by show 2 * 0 + _ ≤ _; exact Nat.le_of_eq rfl) (hb hby at_119) (fun _ _ => ⟨rfl, e225, (by decide : 3 + 0 ≤ _), (by decide : 37 + 0 ≤ _)⟩)
        dsimp only [Pt.U, Pt.locs, Pt.cells, Pt.slots] at X226 l226 y226 z226 st226 hQ226
        subst l226 y226 z226
        obtain ⟨rfl, Nq226, e226⟩ := hQ226
        have N226 := Fr.app N225 Nq226
        refine own_pre (fun t k => st226.trans k) ?_
        show own_Ends _ _ _ _ (T226.setTop (mkF m 122 #[.val (.int p0), .val (.int p1), .val (.int p2), .val (.int (0 : Int32)), .val (.int (0 : Int32)), .val (.int (1 : Int32)), .val (.ref b205)] [(.int (0 : Int32))]))
        refine own_pre (fun t k => XS.iload X226.here hx rfl (hb hby at_122) rfl k) ?_
        show own_Ends _ _ _ _ (T226.setTop (mkF m 124 #[.val (.int p0), .val (.int p1), .val (.int p2), .val (.int (0 : Int32)), .val (.int (0 : Int32)), .val (.int (1 : Int32)), .val (.ref b205)] [(.int (0 : Int32)), (.int (0 : Int32))]))
        refine own_pre (fun t k => XS.icmpNo X226.here hx rfl (hb hby at_124) rfl (teq ((by decide) : (0 : Int32) = (0 : Int32))).2 k) ?_
        show own_Ends _ _ _ _ (T226.setTop (mkF m 127 #[.val (.int p0), .val (.int p1), .val (.int p2), .val (.int (0 : Int32)), .val (.int (0 : Int32)), .val (.int (1 : Int32)), .val (.ref b205)] []))
        refine own_pre (fun t k => XS.iconst X226.here hx rfl (hb hby at_127) k) ?_
        show own_Ends _ _ _ _ (T226.setTop (mkF m 128 #[.val (.int p0), .val (.int p1), .val (.int p2), .val (.int (0 : Int32)), .val (.int (0 : Int32)), .val (.int (1 : Int32)), .val (.ref b205)] [(.int (1 : Int32))]))
        refine own_pre (fun t k => XS.goto X226.here hx rfl (pc0 := 128) (pc' := 132) rfl (hb hby at_128) (by decide) (by decide) k) ?_
        show own_Ends _ _ _ _ (T226.setTop (mkF m 132 #[.val (.int p0), .val (.int p1), .val (.int p2), .val (.int (0 : Int32)), .val (.int (0 : Int32)), .val (.int (1 : Int32)), .val (.ref b205)] [(.int (1 : Int32))]))
        exact own_retN X226 hx (t := .boolean) Bd.returns (by simp) (hb hby at_132) hlk rfl e226 ⟨rfl, N226⟩ (by decide) (by decide)
      · subst hs218
        show own_Ends _ _ _ _ (T215.setTop (mkF m 66 #[.val (.int p0), .val (.int p1), .val (.int p2), .val (.int (0 : Int32)), .val (.int (1 : Int32)), .val (.int (1 : Int32)), .val (.ref b205)] []))
        refine own_pre (fun t k => XS.iload X215.here hx rfl (hb hby at_66) rfl k) ?_
        show own_Ends _ _ _ _ (T215.setTop (mkF m 68 #[.val (.int p0), .val (.int p1), .val (.int p2), .val (.int (0 : Int32)), .val (.int (1 : Int32)), .val (.int (1 : Int32)), .val (.ref b205)] [(.int (1 : Int32))]))
        refine own_pre (fun t k => XS.iconst X215.here hx rfl (hb hby at_68) k) ?_
        show own_Ends _ _ _ _ (T215.setTop (mkF m 69 #[.val (.int p0), .val (.int p1), .val (.int p2), .val (.int (0 : Int32)), .val (.int (1 : Int32)), .val (.int (1 : Int32)), .val (.ref b205)] [(.int (1 : Int32)), (.int (1 : Int32))]))
        refine own_pre (fun t k => XS.icmpNo X215.here hx rfl (hb hby at_69) rfl (flt ((by decide) : ¬ ((1 : Int32) < (1 : Int32)))).1 k) ?_
        show own_Ends _ _ _ _ (T215.setTop (mkF m 72 #[.val (.int p0), .val (.int p1), .val (.int p2), .val (.int (0 : Int32)), .val (.int (1 : Int32)), .val (.int (1 : Int32)), .val (.ref b205)] []))
        refine own_pre (fun t k => XS.aload X215.here hx rfl (hb hby at_72) rfl rfl k) ?_
        show own_Ends _ _ _ _ (T215.setTop (mkF m 74 #[.val (.int p0), .val (.int p1), .val (.int p2), .val (.int (0 : Int32)), .val (.int (1 : Int32)), .val (.int (1 : Int32)), .val (.ref b205)] [(.ref b205)]))
        refine own_pre (fun t k => XS.iloadN X215.here hx rfl (hb hby at_74) rfl k) ?_
        show own_Ends _ _ _ _ (T215.setTop (mkF m 75 #[.val (.int p0), .val (.int p1), .val (.int p2), .val (.int (0 : Int32)), .val (.int (1 : Int32)), .val (.int (1 : Int32)), .val (.ref b205)] [(.int p2), (.ref b205)]))
        obtain ⟨cq227, kq227, q227a, q227b, q227c⟩ := isOf hZ rfl f216
        obtain ⟨_, _, ⟨T227, L227, k227, n227⟩, -, X227, ⟨Lc227, hQ227, l227, y227, z227⟩, st227⟩ := X215.virtualBack hx (y := (⟨"com/example/mursyn/mursyn/synthesis/SuccessorLists", "add", "(I)V"⟩ : MethodName)) (z := (⟨"com/example/mursyn/mursyn/synthesis/SuccessorLists", "add", "(I)V"⟩ : MethodName)) hown (mvT hZ (hw _ (List.mem_of_getElem? (i := 28) rfl))) (mvT hZ (hw _ (List.mem_of_getElem? (i := 29) rfl))) (notFace_of_selects (args := #[]) (mvT hZ (hw _ (List.mem_of_getElem? (i := 31) rfl)))) (mvT hZ (hw _ (List.mem_of_getElem? (i := 31) rfl))) (mvT hZ (hw _ (List.mem_of_getElem? (i := 30) rfl))) (by decide) (backOf (W := 0) (rm2 l Z a0 hw [] b205 p2 bf212 bt212 (0 : Int32) (1 : Int32) kt212 [(.int (0 : Int32)), (.int (0 : Int32)), (.int (0 : Int32)), (.int (0 : Int32)), (.int (0 : Int32)), (.int (0 : Int32)), (.int (0 : Int32)), (.int (0 : Int32)), (.int (0 : Int32)), (.int (0 : Int32)), (.int (0 : Int32)), (.int (0 : Int32)), (.int (0 : Int32)), (.int (0 : Int32)), (.int (0 : Int32)), (.int (0 : Int32))]  T215.heap n0 Zn215 f216 L206 lb212 nb212 fa215 fb215 fc215 fd215 f217 (by decide) ⟨by decide, by decide⟩ (Nat.le_of_ble_eq_true rfl)) hZ (hw _ (List.mem_of_getElem? (i := 32) rfl)) (hw _ (List.mem_of_getElem? (i := 2) rfl)) (by decide) (by decide)) q227a q227c (g := (mkF m 75 #[.val (.int p0), .val (.int p1), .val (.int p2), .val (.int (0 : Int32)), .val (.int (1 : Int32)), .val (.int (1 : Int32)), .val (.ref b205)] [(.int p2), (.ref b205)])) rfl (by rw [hml]; rfl) (Steps.refl _) (argsL := [(.int p2)]) (rest := []) (lenOf own_pd2 rfl) rfl (by show 2 * 0 + _ ≤ _; exact Nat.le_of_eq rfl) (hb hby at_75) (fun _ _ => ⟨rfl, rfl, (by decide : 3 + 0 ≤ _), (by decide : 37 + 0 ≤ _)⟩)
        dsimp only [Pt.U, Pt.locs, Pt.cells, Pt.slots] at X227 l227 y227 z227 st227 hQ227
        subst l227 y227 z227
        obtain ⟨rfl, Nq227, Kq227, fa227, fb227, fc227, fd227, vv227⟩ := hQ227
        have N227 := Fr.app N215 Nq227
        have f228 := f216.keep Kq227
        have f229 := vv215.keep Kq227 (ninS (Ne.symm na212) (ninS nc212 nin0))
        have Zn227 : n0 ≤ T227.heap.size := Nat.le_trans Zn215 Kq227.1
        have fa227 : Fld Z T227.heap b205 "com/example/mursyn/mursyn/synthesis/SuccessorLists" "first" "[I" (.ref bf212) := fa227
        have fb227 : Fld Z T227.heap b205 "com/example/mursyn/mursyn/synthesis/SuccessorLists" "targets" "[I" (.ref bt212) := fb227
        have fc227 : Fld Z T227.heap b205 "com/example/mursyn/mursyn/synthesis/SuccessorLists" "edgeCount" "I" (.int (1 : Int32)) := fc227
        have fd227 : Fld Z T227.heap b205 "com/example/mursyn/mursyn/synthesis/SuccessorLists" "listed" "I" (.int (1 : Int32)) := fd227
        have vv227 : Arv Z T227.heap bt212 kt212 .int (16 : Int32) [(.int p2), (.int (0 : Int32)), (.int (0 : Int32)), (.int (0 : Int32)), (.int (0 : Int32)), (.int (0 : Int32)), (.int (0 : Int32)), (.int (0 : Int32)), (.int (0 : Int32)), (.int (0 : Int32)), (.int (0 : Int32)), (.int (0 : Int32)), (.int (0 : Int32)), (.int (0 : Int32)), (.int (0 : Int32)), (.int (0 : Int32))] (.int (0 : Int32)) := vv227
        refine own_pre (fun t k => st227.trans k) ?_
        show own_Ends _ _ _ _ (T227.setTop (mkF m 78 #[.val (.int p0), .val (.int p1), .val (.int p2), .val (.int (0 : Int32)), .val (.int (1 : Int32)), .val (.int (1 : Int32)), .val (.ref b205)] []))
        refine own_pre (fun t k => XS.iload X227.here hx rfl (hb hby at_78) rfl k) ?_
        show own_Ends _ _ _ _ (T227.setTop (mkF m 80 #[.val (.int p0), .val (.int p1), .val (.int p2), .val (.int (0 : Int32)), .val (.int (1 : Int32)), .val (.int (1 : Int32)), .val (.ref b205)] [(.int (1 : Int32))]))
        refine own_pre (fun t k => XS.iconst X227.here hx rfl (hb hby at_80) k) ?_
        show own_Ends _ _ _ _ (T227.setTop (mkF m 81 #[.val (.int p0), .val (.int p1), .val (.int p2), .val (.int (0 : Int32)), .val (.int (1 : Int32)), .val (.int (1 : Int32)), .val (.ref b205)] [(.int (2 : Int32)), (.int (1 : Int32))]))
        refine own_pre (fun t k => XS.icmpYes X227.here hx rfl (pc0 := 81) (pc' := 90) rfl (hb hby at_81) rfl (tlt ((by decide) : (1 : Int32) < (2 : Int32))).1 (by decide) (by decide) k) ?_
        show own_Ends _ _ _ _ (T227.setTop (mkF m 90 #[.val (.int p0), .val (.int p1), .val (.int p2), .val (.int (0 : Int32)), .val (.int (1 : Int32)), .val (.int (1 : Int32)), .val (.ref b205)] []))
        refine own_pre (fun t k => XS.aload X227.here hx rfl (hb hby at_90) rfl rfl k) ?_
        show own_Ends _ _ _ _ (T227.setTop (mkF m 92 #[.val (.int p0), .val (.int p1), .val (.int p2), .val (.int (0 : Int32)), .val (.int (1 : Int32)), .val (.int (1 : Int32)), .val (.ref b205)] [(.ref b205)]))
        obtain ⟨cq230, kq230, q230a, q230b, q230c⟩ := isOf hZ rfl f228
        obtain ⟨_, _, ⟨T230, L230, k230, n230⟩, -, X230, ⟨Lc230, hQ230, l230, y230, z230⟩, st230⟩ := X227.virtualBack hx (y := (⟨"com/example/mursyn/mursyn/synthesis/SuccessorLists", "close", "()V"⟩ : MethodName)) (z := (⟨"com/example/mursyn/mursyn/synthesis/SuccessorLists", "close", "()V"⟩ : MethodName)) hown (mvT hZ (hw _ (List.mem_of_getElem? (i := 14) rfl))) (mvT hZ (hw _ (List.mem_of_getElem? (i := 15) rfl))) (notFace_of_selects (args := #[]) (mvT hZ (hw _ (List.mem_of_getElem? (i := 17) rfl)))) (mvT hZ (hw _ (List.mem_of_getElem? (i := 17) rfl))) (mvT hZ (hw _ (List.mem_of_getElem? (i := 16) rfl))) (by decide) (backOf (W := 0) (rm3 l Z a0 hw [] b205 bf212 bt212 (1 : Int32) (1 : Int32) kf212 [(.int (0 : Int32)), (.int (0 : Int32)), (.int (0 : Int32)), (.int (0 : Int32)), (.int (0 : Int32)), (.int (0 : Int32)), (.int (0 : Int32)), (.int (0 : Int32)), (.int (0 : Int32)), (.int (0 : Int32)), (.int (0 : Int32)), (.int (0 : Int32)), (.int (0 : Int32)), (.int (0 : Int32)), (.int (0 : Int32)), (.int (0 : Int32)), (.int (0 : Int32))]  T227.heap n0 Zn227 f228 L206 la212 na212 fa227 fb227 fc227 fd227 f229 (by decide) ⟨by decide, by decide⟩ (Nat.le_of_ble_eq_true rfl)) hZ (hw _ (List.mem_of_getElem? (i := 18) rfl)) (hw _ (List.mem_of_getElem? (i := 2) rfl)) (by decide) (by decide)) q230a q230c (g := (mkF m 92 #[.val (.int p0), .val (.int p1), .val (.int p2), .val (.int (0 : Int32)), .val (.int (1 : Int32)), .val (.int (1 : Int32)), .val (.ref b205)] [(.ref b205)])) rfl (by rw [hml]; rfl) (Steps.refl _) (argsL := []) (rest := []) (lenOf own_pd0 rfl) rfl (by show 2 * 0 + _ ≤ _; exact Nat.le_of_eq rfl) (hb hby at_92) (fun _ _ => ⟨rfl, rfl, (by decide : 3 + 0 ≤ _), (by decide : 37 + 0 ≤ _)⟩)
        dsimp only [Pt.U, Pt.locs, Pt.cells, Pt.slots] at X230 l230 y230 z230 st230 hQ230
        subst l230 y230 z230
        obtain ⟨rfl, Nq230, Kq230, fa230, fb230, fc230, fd230, vv230⟩ := hQ230
        have N230 := Fr.app N227 Nq230
        have f231 := f228.keep Kq230
        have f232 := vv227.keep Kq230 (ninS (Ne.symm nb212) (ninS (Ne.symm nc212) nin0))
        have Zn230 : n0 ≤ T230.heap.size := Nat.le_trans Zn227 Kq230.1
        have fa230 : Fld Z T230.heap b205 "com/example/mursyn/mursyn/synthesis/SuccessorLists" "first" "[I" (.ref bf212) := fa230
        have fb230 : Fld Z T230.heap b205 "com/example/mursyn/mursyn/synthesis/SuccessorLists" "targets" "[I" (.ref bt212) := fb230
        have fc230 : Fld Z T230.heap b205 "com/example/mursyn/mursyn/synthesis/SuccessorLists" "edgeCount" "I" (.int (1 : Int32)) := fc230
        have fd230 : Fld Z T230.heap b205 "com/example/mursyn/mursyn/synthesis/SuccessorLists" "listed" "I" (.int (2 : Int32)) := fd230
        have vv230 : Arv Z T230.heap bf212 kf212 .int (17 : Int32) [(.int (0 : Int32)), (.int (0 : Int32)), (.int (1 : Int32)), (.int (0 : Int32)), (.int (0 : Int32)), (.int (0 : Int32)), (.int (0 : Int32)), (.int (0 : Int32)), (.int (0 : Int32)), (.int (0 : Int32)), (.int (0 : Int32)), (.int (0 : Int32)), (.int (0 : Int32)), (.int (0 : Int32)), (.int (0 : Int32)), (.int (0 : Int32)), (.int (0 : Int32))] (.int (0 : Int32)) := vv230
        refine own_pre (fun t k => st230.trans k) ?_
        show own_Ends _ _ _ _ (T230.setTop (mkF m 95 #[.val (.int p0), .val (.int p1), .val (.int p2), .val (.int (0 : Int32)), .val (.int (1 : Int32)), .val (.int (1 : Int32)), .val (.ref b205)] []))
        refine own_pre (fun t k => XS.iload X230.here hx rfl (hb hby at_95) rfl k) ?_
        show own_Ends _ _ _ _ (T230.setTop (mkF m 97 #[.val (.int p0), .val (.int p1), .val (.int p2), .val (.int (0 : Int32)), .val (.int (1 : Int32)), .val (.int (1 : Int32)), .val (.ref b205)] [(.int (1 : Int32))]))
        refine own_pre (fun t k => XS.ifNo X230.here hx rfl (hb hby at_97) rfl ((if0 _ _).trans (feq ((by decide) : ¬ ((1 : Int32) = (0 : Int32)))).1) k) ?_
        show own_Ends _ _ _ _ (T230.setTop (mkF m 100 #[.val (.int p0), .val (.int p1), .val (.int p2), .val (.int (0 : Int32)), .val (.int (1 : Int32)), .val (.int (1 : Int32)), .val (.ref b205)] []))
        refine own_pre (fun t k => XS.aload X230.here hx rfl (hb hby at_100) rfl rfl k) ?_
        show own_Ends _ _ _ _ (T230.setTop (mkF m 102 #[.val (.int p0), .val (.int p1), .val (.int p2), .val (.int (0 : Int32)), .val (.int (1 : Int32)), .val (.int (1 : Int32)), .val (.ref b205)] [(.ref b205)]))
        refine own_pre (fun t k => XS.iloadN X230.here hx rfl (hb hby at_102) rfl k) ?_
        show own_Ends _ _ _ _ (T230.setTop (mkF m 103 #[.val (.int p0), .val (.int p1), .val (.int p2), .val (.int (0 : Int32)), .val (.int (1 : Int32)), .val (.int (1 : Int32)), .val (.ref b205)] [(.int p1), (.ref b205)]))
        obtain ⟨cq233, kq233, q233a, q233b, q233c⟩ := isOf hZ rfl f231
        obtain ⟨_, _, ⟨T233, L233, k233, n233⟩, -, X233, ⟨Lc233, hQ233, l233, y233, z233⟩, st233⟩ := X230.virtualBack hx (y := (⟨"com/example/mursyn/mursyn/synthesis/SuccessorLists", "add", "(I)V"⟩ : MethodName)) (z := (⟨"com/example/mursyn/mursyn/synthesis/SuccessorLists", "add", "(I)V"⟩ : MethodName)) hown (mvT hZ (hw _ (List.mem_of_getElem? (i := 28) rfl))) (mvT hZ (hw _ (List.mem_of_getElem? (i := 29) rfl))) (notFace_of_selects (args := #[]) (mvT hZ (hw _ (List.mem_of_getElem? (i := 31) rfl)))) (mvT hZ (hw _ (List.mem_of_getElem? (i := 31) rfl))) (mvT hZ (hw _ (List.mem_of_getElem? (i := 30) rfl))) (by decide) (backOf (W := 0) (rm2 l Z a0 hw [] b205 p1 bf212 bt212 (1 : Int32) (2 : Int32) kt212 [(.int p2), (.int (0 : Int32)), (.int (0 : Int32)), (.int (0 : Int32)), (.int (0 : Int32)), (.int (0 : Int32)), (.int (0 : Int32)), (.int (0 : Int32)), (.int (0 : Int32)), (.int (0 : Int32)), (.int (0 : Int32)), (.int (0 : Int32)), (.int (0 : Int32)), (.int (0 : Int32)), (.int (0 : Int32)), (.int (0 : Int32))]  T230.heap n0 Zn230 f231 L206 lb212 nb212 fa230 fb230 fc230 fd230 f232 (by decide) ⟨by decide, by decide⟩ (Nat.le_of_ble_eq_true rfl)) hZ (hw _ (List.mem_of_getElem? (i := 32) rfl)) (hw _ (List.mem_of_getElem? (i := 2) rfl)) (by decide) (by decide)) q233a q233c (g := (mkF m 103 #[.val (.int p0), .val (.int p1), .val (.int p2), .val (.int (0 : Int32)), .val (.int (1 : Int32)), .val (.int (1 : Int32)), .val (.ref b205)] [(.int p1), (.ref b205)])) rfl (by rw [hml]; rfl) (Steps.refl _) (argsL := [(.int p1)]) (rest := []) (lenOf own_pd2 rfl) rfl (by show 2 * 0 + _ ≤ _; exact Nat.le_of_eq rfl) (hb hby at_103) (fun _ _ => ⟨rfl, rfl, (by decide : 3 + 0 ≤ _), (by decide : 37 + 0 ≤ _)⟩)
        dsimp only [Pt.U, Pt.locs, Pt.cells, Pt.slots] at X233 l233 y233 z233 st233 hQ233
        subst l233 y233 z233
        obtain ⟨rfl, Nq233, Kq233, fa233, fb233, fc233, fd233, vv233⟩ := hQ233
        have N233 := Fr.app N230 Nq233
        have f234 := f231.keep Kq233
        have f235 := vv230.keep Kq233 (ninS (Ne.symm na212) (ninS nc212 nin0))
        have Zn233 : n0 ≤ T233.heap.size := Nat.le_trans Zn230 Kq233.1
        have fa233 : Fld Z T233.heap b205 "com/example/mursyn/mursyn/synthesis/SuccessorLists" "first" "[I" (.ref bf212) := fa233
        have fb233 : Fld Z T233.heap b205 "com/example/mursyn/mursyn/synthesis/SuccessorLists" "targets" "[I" (.ref bt212) := fb233
        have fc233 : Fld Z T233.heap b205 "com/example/mursyn/mursyn/synthesis/SuccessorLists" "edgeCount" "I" (.int (2 : Int32)) := fc233
        have fd233 : Fld Z T233.heap b205 "com/example/mursyn/mursyn/synthesis/SuccessorLists" "listed" "I" (.int (2 : Int32)) := fd233
        have vv233 : Arv Z T233.heap bt212 kt212 .int (16 : Int32) [(.int p2), (.int p1), (.int (0 : Int32)), (.int (0 : Int32)), (.int (0 : Int32)), (.int (0 : Int32)), (.int (0 : Int32)), (.int (0 : Int32)), (.int (0 : Int32)), (.int (0 : Int32)), (.int (0 : Int32)), (.int (0 : Int32)), (.int (0 : Int32)), (.int (0 : Int32)), (.int (0 : Int32)), (.int (0 : Int32))] (.int (0 : Int32)) := vv233
        refine own_pre (fun t k => st233.trans k) ?_
        show own_Ends _ _ _ _ (T233.setTop (mkF m 106 #[.val (.int p0), .val (.int p1), .val (.int p2), .val (.int (0 : Int32)), .val (.int (1 : Int32)), .val (.int (1 : Int32)), .val (.ref b205)] []))
        refine own_pre (fun t k => XS.aload X233.here hx rfl (hb hby at_106) rfl rfl k) ?_
        show own_Ends _ _ _ _ (T233.setTop (mkF m 108 #[.val (.int p0), .val (.int p1), .val (.int p2), .val (.int (0 : Int32)), .val (.int (1 : Int32)), .val (.int (1 : Int32)), .val (.ref b205)] [(.ref b205)]))
        refine own_pre (fun t k => XS.iconst X233.here hx rfl (hb hby at_108) k) ?_
        show own_Ends _ _ _ _ (T233.setTop (mkF m 109 #[.val (.int p0), .val (.int p1), .val (.int p2), .val (.int (0 : Int32)), .val (.int (1 : Int32)), .val (.int (1 : Int32)), .val (.ref b205)] [(.int (0 : Int32)), (.ref b205)]))
        obtain ⟨cq236, kq236, q236a, q236b, q236c⟩ := isOf hZ rfl f234
        obtain ⟨_, _, ⟨T236, L236, k236, n236⟩, -, X236, ⟨Lc236, hQ236, l236, y236, z236⟩, st236⟩ := X233.virtualBack hx (y := (⟨"com/example/mursyn/mursyn/synthesis/SuccessorLists", "count", "(I)I"⟩ : MethodName)) (z := (⟨"com/example/mursyn/mursyn/synthesis/SuccessorLists", "count", "(I)I"⟩ : MethodName)) hown (mvT hZ (hw _ (List.mem_of_getElem? (i := 23) rfl))) (mvT hZ (hw _ (List.mem_of_getElem? (i := 24) rfl))) (notFace_of_selects (args := #[]) (mvT hZ (hw _ (List.mem_of_getElem? (i := 26) rfl)))) (mvT hZ (hw _ (List.mem_of_getElem? (i := 26) rfl))) (mvT hZ (hw _ (List.mem_of_getElem? (i := 25) rfl))) (by decide) (backOf (W := 0) (rm4 l Z a0 hw [] b205 (0 : Int32) bf212 kf212 [(.int (0 : Int32)), (.int (0 : Int32)), (.int (1 : Int32)), (.int (0 : Int32)), (.int (0 : Int32)), (.int (0 : Int32)), (.int (0 : Int32)), (.int (0 : Int32)), (.int (0 : Int32)), (.int (0 : Int32)), (.int (0 : Int32)), (.int (0 : Int32)), (.int (0 : Int32)), (.int (0 : Int32)), (.int (0 : Int32)), (.int (0 : Int32)), (.int (0 : Int32))] (0 : Int32) (0 : Int32) T233.heap n0 Zn233 fa233 f235 ⟨by decide, by decide⟩ rfl ⟨by decide, by decide⟩ rfl) hZ (hw _ (List.mem_of_getElem? (i := 27) rfl)) (hw _ (List.mem_of_getElem? (i := 2) rfl)) (by decide) (by decide)) q236a q236c (g := (mkF m 109 #[.val (.int p0), .val (.int p1), .val (.int p2), .val (.int (0 : Int32)), .val (.int (1 : Int32)), .val (.int (1 : Int32)), .val (.ref b205)] [(.int (0 : Int32)), (.ref b205)])) rfl (by rw [hml]; rfl) (Steps.refl _) (argsL := [(.int (0 : Int32))]) (rest := []) (lenOf own_pd1 rfl) rfl (by show 2 * 0 + _ ≤ _; exact Nat.le_of_eq rfl) (hb hby at_109) (fun _ _ => ⟨rfl, rfl, (by decide : 3 + 0 ≤ _), (by decide : 37 + 0 ≤ _)⟩)
        dsimp only [Pt.U, Pt.locs, Pt.cells, Pt.slots] at X236 l236 y236 z236 st236 hQ236
        subst l236 y236 z236
        obtain ⟨rfl, Nq236, e236⟩ := hQ236
        have N236 := Fr.app N233 Nq236
        refine own_pre (fun t k => st236.trans k) ?_
        show own_Ends _ _ _ _ (T236.setTop (mkF m 112 #[.val (.int p0), .val (.int p1), .val (.int p2), .val (.int (0 : Int32)), .val (.int (1 : Int32)), .val (.int (1 : Int32)), .val (.ref b205)] [(.int (0 : Int32))]))
        refine own_pre (fun t k => XS.iloadN X236.here hx rfl (hb hby at_112) rfl k) ?_
        show own_Ends _ _ _ _ (T236.setTop (mkF m 113 #[.val (.int p0), .val (.int p1), .val (.int p2), .val (.int (0 : Int32)), .val (.int (1 : Int32)), .val (.int (1 : Int32)), .val (.ref b205)] [(.int (0 : Int32)), (.int (0 : Int32))]))
        refine own_pre (fun t k => XS.icmpNo X236.here hx rfl (hb hby at_113) rfl (teq ((by decide) : (0 : Int32) = (0 : Int32))).2 k) ?_
        show own_Ends _ _ _ _ (T236.setTop (mkF m 116 #[.val (.int p0), .val (.int p1), .val (.int p2), .val (.int (0 : Int32)), .val (.int (1 : Int32)), .val (.int (1 : Int32)), .val (.ref b205)] []))
        refine own_pre (fun t k => XS.aload X236.here hx rfl (hb hby at_116) rfl rfl k) ?_
        show own_Ends _ _ _ _ (T236.setTop (mkF m 118 #[.val (.int p0), .val (.int p1), .val (.int p2), .val (.int (0 : Int32)), .val (.int (1 : Int32)), .val (.int (1 : Int32)), .val (.ref b205)] [(.ref b205)]))
        refine own_pre (fun t k => XS.iconst X236.here hx rfl (hb hby at_118) k) ?_
        show own_Ends _ _ _ _ (T236.setTop (mkF m 119 #[.val (.int p0), .val (.int p1), .val (.int p2), .val (.int (0 : Int32)), .val (.int (1 : Int32)), .val (.int (1 : Int32)), .val (.ref b205)] [(.int (1 : Int32)), (.ref b205)]))
        obtain ⟨cq237, kq237, q237a, q237b, q237c⟩ := isOf hZ e236 f234
        obtain ⟨_, _, ⟨T237, L237, k237, n237⟩, -, X237, ⟨Lc237, hQ237, l237, y237, z237⟩, st237⟩ := X236.virtualBack hx (y := (⟨"com/example/mursyn/mursyn/synthesis/SuccessorLists", "count", "(I)I"⟩ : MethodName)) (z := (⟨"com/example/mursyn/mursyn/synthesis/SuccessorLists", "count", "(I)I"⟩ : MethodName)) hown (mvT hZ (hw _ (List.mem_of_getElem? (i := 23) rfl))) (mvT hZ (hw _ (List.mem_of_getElem? (i := 24) rfl))) (notFace_of_selects (args := #[]) (mvT hZ (hw _ (List.mem_of_getElem? (i := 26) rfl)))) (mvT hZ (hw _ (List.mem_of_getElem? (i := 26) rfl))) (mvT hZ (hw _ (List.mem_of_getElem? (i := 25) rfl))) (by decide) (backOf (W := 0) (rm4 l Z a0 hw [] b205 (1 : Int32) bf212 kf212 [(.int (0 : Int32)), (.int (0 : Int32)), (.int (1 : Int32)), (.int (0 : Int32)), (.int (0 : Int32)), (.int (0 : Int32)), (.int (0 : Int32)), (.int (0 : Int32)), (.int (0 : Int32)), (.int (0 : Int32)), (.int (0 : Int32)), (.int (0 : Int32)), (.int (0 : Int32)), (.int (0 : Int32)), (.int (0 : Int32)), (.int (0 : Int32)), (.int (0 : Int32))] (1 : Int32) (0 : Int32) T233.heap n0 Zn233 fa233 f235 ⟨by decide, by decide⟩ rfl ⟨by decide, by decide⟩ rfl) hZ (hw _ (List.mem_of_getElem? (i := 27) rfl)) (hw _ (List.mem_of_getElem? (i := 2) rfl)) (by decide) (by decide)) q237a q237c (g := (mkF m 119 #[.val (.int p0), .val (.int p1), .val (.int p2), .val (.int (0 : Int32)), .val (.int (1 : Int32)), .val (.int (1 : Int32)), .val (.ref b205)] [(.int (1 : Int32)), (.ref b205)])) rfl (by rw [hml]; rfl) (Steps.refl _) (argsL := [(.int (1 : Int32))]) (rest := []) (lenOf own_pd1 rfl) rfl (by show 2 * 0 + _ ≤ _; exact Nat.le_of_eq rfl) (hb hby at_119) (fun _ _ => ⟨rfl, e236, (by decide : 3 + 0 ≤ _), (by decide : 37 + 0 ≤ _)⟩)
        dsimp only [Pt.U, Pt.locs, Pt.cells, Pt.slots] at X237 l237 y237 z237 st237 hQ237
        subst l237 y237 z237
        obtain ⟨rfl, Nq237, e237⟩ := hQ237
        have N237 := Fr.app N236 Nq237
        refine own_pre (fun t k => st237.trans k) ?_
        show own_Ends _ _ _ _ (T237.setTop (mkF m 122 #[.val (.int p0), .val (.int p1), .val (.int p2), .val (.int (0 : Int32)), .val (.int (1 : Int32)), .val (.int (1 : Int32)), .val (.ref b205)] [(.int (1 : Int32))]))
        refine own_pre (fun t k => XS.iload X237.here hx rfl (hb hby at_122) rfl k) ?_
        show own_Ends _ _ _ _ (T237.setTop (mkF m 124 #[.val (.int p0), .val (.int p1), .val (.int p2), .val (.int (0 : Int32)), .val (.int (1 : Int32)), .val (.int (1 : Int32)), .val (.ref b205)] [(.int (1 : Int32)), (.int (1 : Int32))]))
        refine own_pre (fun t k => XS.icmpNo X237.here hx rfl (hb hby at_124) rfl (teq ((by decide) : (1 : Int32) = (1 : Int32))).2 k) ?_
        show own_Ends _ _ _ _ (T237.setTop (mkF m 127 #[.val (.int p0), .val (.int p1), .val (.int p2), .val (.int (0 : Int32)), .val (.int (1 : Int32)), .val (.int (1 : Int32)), .val (.ref b205)] []))
        refine own_pre (fun t k => XS.iconst X237.here hx rfl (hb hby at_127) k) ?_
        show own_Ends _ _ _ _ (T237.setTop (mkF m 128 #[.val (.int p0), .val (.int p1), .val (.int p2), .val (.int (0 : Int32)), .val (.int (1 : Int32)), .val (.int (1 : Int32)), .val (.ref b205)] [(.int (1 : Int32))]))
        refine own_pre (fun t k => XS.goto X237.here hx rfl (pc0 := 128) (pc' := 132) rfl (hb hby at_128) (by decide) (by decide) k) ?_
        show own_Ends _ _ _ _ (T237.setTop (mkF m 132 #[.val (.int p0), .val (.int p1), .val (.int p2), .val (.int (0 : Int32)), .val (.int (1 : Int32)), .val (.int (1 : Int32)), .val (.ref b205)] [(.int (1 : Int32))]))
        exact own_retN X237 hx (t := .boolean) Bd.returns (by simp) (hb hby at_132) hlk rfl e237 ⟨rfl, N237⟩ (by decide) (by decide)
      · subst hs218
        show own_Ends _ _ _ _ (T215.setTop (mkF m 66 #[.val (.int p0), .val (.int p1), .val (.int p2), .val (.int (0 : Int32)), .val (.int (2 : Int32)), .val (.int (1 : Int32)), .val (.ref b205)] []))
        refine own_pre (fun t k => XS.iload X215.here hx rfl (hb hby at_66) rfl k) ?_
        show own_Ends _ _ _ _ (T215.setTop (mkF m 68 #[.val (.int p0), .val (.int p1), .val (.int p2), .val (.int (0 : Int32)), .val (.int (2 : Int32)), .val (.int (1 : Int32)), .val (.ref b205)] [(.int (2 : Int32))]))
        refine own_pre (fun t k => XS.iconst X215.here hx rfl (hb hby at_68) k) ?_
        show own_Ends _ _ _ _ (T215.setTop (mkF m 69 #[.val (.int p0), .val (.int p1), .val (.int p2), .val (.int (0 : Int32)), .val (.int (2 : Int32)), .val (.int (1 : Int32)), .val (.ref b205)] [(.int (1 : Int32)), (.int (2 : Int32))]))
        refine own_pre (fun t k => XS.icmpNo X215.here hx rfl (hb hby at_69) rfl (flt ((by decide) : ¬ ((2 : Int32) < (1 : Int32)))).1 k) ?_
        show own_Ends _ _ _ _ (T215.setTop (mkF m 72 #[.val (.int p0), .val (.int p1), .val (.int p2), .val (.int (0 : Int32)), .val (.int (2 : Int32)), .val (.int (1 : Int32)), .val (.ref b205)] []))
        refine own_pre (fun t k => XS.aload X215.here hx rfl (hb hby at_72) rfl rfl k) ?_
        show own_Ends _ _ _ _ (T215.setTop (mkF m 74 #[.val (.int p0), .val (.int p1), .val (.int p2), .val (.int (0 : Int32)), .val (.int (2 : Int32)), .val (.int (1 : Int32)), .val (.ref b205)] [(.ref b205)]))
        refine own_pre (fun t k => XS.iloadN X215.here hx rfl (hb hby at_74) rfl k) ?_
        show own_Ends _ _ _ _ (T215.setTop (mkF m 75 #[.val (.int p0), .val (.int p1), .val (.int p2), .val (.int (0 : Int32)), .val (.int (2 : Int32)), .val (.int (1 : Int32)), .val (.ref b205)] [(.int p2), (.ref b205)]))
        obtain ⟨cq238, kq238, q238a, q238b, q238c⟩ := isOf hZ rfl f216
        obtain ⟨_, _, ⟨T238, L238, k238, n238⟩, -, X238, ⟨Lc238, hQ238, l238, y238, z238⟩, st238⟩ := X215.virtualBack hx (y := (⟨"com/example/mursyn/mursyn/synthesis/SuccessorLists", "add", "(I)V"⟩ : MethodName)) (z := (⟨"com/example/mursyn/mursyn/synthesis/SuccessorLists", "add", "(I)V"⟩ : MethodName)) hown (mvT hZ (hw _ (List.mem_of_getElem? (i := 28) rfl))) (mvT hZ (hw _ (List.mem_of_getElem? (i := 29) rfl))) (notFace_of_selects (args := #[]) (mvT hZ (hw _ (List.mem_of_getElem? (i := 31) rfl)))) (mvT hZ (hw _ (List.mem_of_getElem? (i := 31) rfl))) (mvT hZ (hw _ (List.mem_of_getElem? (i := 30) rfl))) (by decide) (backOf (W := 0) (rm2 l Z a0 hw [] b205 p2 bf212 bt212 (0 : Int32) (1 : Int32) kt212 [(.int (0 : Int32)), (.int (0 : Int32)), (.int (0 : Int32)), (.int (0 : Int32)), (.int (0 : Int32)), (.int (0 : Int32)), (.int (0 : Int32)), (.int (0 : Int32)), (.int (0 : Int32)), (.int (0 : Int32)), (.int (0 : Int32)), (.int (0 : Int32)), (.int (0 : Int32)), (.int (0 : Int32)), (.int (0 : Int32)), (.int (0 : Int32))]  T215.heap n0 Zn215 f216 L206 lb212 nb212 fa215 fb215 fc215 fd215 f217 (by decide) ⟨by decide, by decide⟩ (Nat.le_of_ble_eq_true rfl)) hZ (hw _ (List.mem_of_getElem? (i := 32) rfl)) (hw _ (List.mem_of_getElem? (i := 2) rfl)) (by decide) (by decide)) q238a q238c (g := (mkF m 75 #[.val (.int p0), .val (.int p1), .val (.int p2), .val (.int (0 : Int32)), .val (.int (2 : Int32)), .val (.int (1 : Int32)), .val (.ref b205)] [(.int p2), (.ref b205)])) rfl (by rw [hml]; rfl) (Steps.refl _) (argsL := [(.int p2)]) (rest := []) (lenOf own_pd2 rfl) rfl (by show 2 * 0 + _ ≤ _; exact Nat.le_of_eq rfl) (hb hby at_75) (fun _ _ => ⟨rfl, rfl, (by decide : 3 + 0 ≤ _), (by decide : 37 + 0 ≤ _)⟩)
        dsimp only [Pt.U, Pt.locs, Pt.cells, Pt.slots] at X238 l238 y238 z238 st238 hQ238
        subst l238 y238 z238
        obtain ⟨rfl, Nq238, Kq238, fa238, fb238, fc238, fd238, vv238⟩ := hQ238
        have N238 := Fr.app N215 Nq238
        have f239 := f216.keep Kq238
        have f240 := vv215.keep Kq238 (ninS (Ne.symm na212) (ninS nc212 nin0))
        have Zn238 : n0 ≤ T238.heap.size := Nat.le_trans Zn215 Kq238.1
        have fa238 : Fld Z T238.heap b205 "com/example/mursyn/mursyn/synthesis/SuccessorLists" "first" "[I" (.ref bf212) := fa238
        have fb238 : Fld Z T238.heap b205 "com/example/mursyn/mursyn/synthesis/SuccessorLists" "targets" "[I" (.ref bt212) := fb238
        have fc238 : Fld Z T238.heap b205 "com/example/mursyn/mursyn/synthesis/SuccessorLists" "edgeCount" "I" (.int (1 : Int32)) := fc238
        have fd238 : Fld Z T238.heap b205 "com/example/mursyn/mursyn/synthesis/SuccessorLists" "listed" "I" (.int (1 : Int32)) := fd238
        have vv238 : Arv Z T238.heap bt212 kt212 .int (16 : Int32) [(.int p2), (.int (0 : Int32)), (.int (0 : Int32)), (.int (0 : Int32)), (.int (0 : Int32)), (.int (0 : Int32)), (.int (0 : Int32)), (.int (0 : Int32)), (.int (0 : Int32)), (.int (0 : Int32)), (.int (0 : Int32)), (.int (0 : Int32)), (.int (0 : Int32)), (.int (0 : Int32)), (.int (0 : Int32)), (.int (0 : Int32))] (.int (0 : Int32)) := vv238
        refine own_pre (fun t k => st238.trans k) ?_
        show own_Ends _ _ _ _ (T238.setTop (mkF m 78 #[.val (.int p0), .val (.int p1), .val (.int p2), .val (.int (0 : Int32)), .val (.int (2 : Int32)), .val (.int (1 : Int32)), .val (.ref b205)] []))
        refine own_pre (fun t k => XS.iload X238.here hx rfl (hb hby at_78) rfl k) ?_
        show own_Ends _ _ _ _ (T238.setTop (mkF m 80 #[.val (.int p0), .val (.int p1), .val (.int p2), .val (.int (0 : Int32)), .val (.int (2 : Int32)), .val (.int (1 : Int32)), .val (.ref b205)] [(.int (2 : Int32))]))
        refine own_pre (fun t k => XS.iconst X238.here hx rfl (hb hby at_80) k) ?_
        show own_Ends _ _ _ _ (T238.setTop (mkF m 81 #[.val (.int p0), .val (.int p1), .val (.int p2), .val (.int (0 : Int32)), .val (.int (2 : Int32)), .val (.int (1 : Int32)), .val (.ref b205)] [(.int (2 : Int32)), (.int (2 : Int32))]))
        refine own_pre (fun t k => XS.icmpNo X238.here hx rfl (hb hby at_81) rfl (flt ((by decide) : ¬ ((2 : Int32) < (2 : Int32)))).1 k) ?_
        show own_Ends _ _ _ _ (T238.setTop (mkF m 84 #[.val (.int p0), .val (.int p1), .val (.int p2), .val (.int (0 : Int32)), .val (.int (2 : Int32)), .val (.int (1 : Int32)), .val (.ref b205)] []))
        refine own_pre (fun t k => XS.aload X238.here hx rfl (hb hby at_84) rfl rfl k) ?_
        show own_Ends _ _ _ _ (T238.setTop (mkF m 86 #[.val (.int p0), .val (.int p1), .val (.int p2), .val (.int (0 : Int32)), .val (.int (2 : Int32)), .val (.int (1 : Int32)), .val (.ref b205)] [(.ref b205)]))
        refine own_pre (fun t k => XS.iloadN X238.here hx rfl (hb hby at_86) rfl k) ?_
        show own_Ends _ _ _ _ (T238.setTop (mkF m 87 #[.val (.int p0), .val (.int p1), .val (.int p2), .val (.int (0 : Int32)), .val (.int (2 : Int32)), .val (.int (1 : Int32)), .val (.ref b205)] [(.int p1), (.ref b205)]))
        obtain ⟨cq241, kq241, q241a, q241b, q241c⟩ := isOf hZ rfl f239
        obtain ⟨_, _, ⟨T241, L241, k241, n241⟩, -, X241, ⟨Lc241, hQ241, l241, y241, z241⟩, st241⟩ := X238.virtualBack hx (y := (⟨"com/example/mursyn/mursyn/synthesis/SuccessorLists", "add", "(I)V"⟩ : MethodName)) (z := (⟨"com/example/mursyn/mursyn/synthesis/SuccessorLists", "add", "(I)V"⟩ : MethodName)) hown (mvT hZ (hw _ (List.mem_of_getElem? (i := 28) rfl))) (mvT hZ (hw _ (List.mem_of_getElem? (i := 29) rfl))) (notFace_of_selects (args := #[]) (mvT hZ (hw _ (List.mem_of_getElem? (i := 31) rfl)))) (mvT hZ (hw _ (List.mem_of_getElem? (i := 31) rfl))) (mvT hZ (hw _ (List.mem_of_getElem? (i := 30) rfl))) (by decide) (backOf (W := 0) (rm2 l Z a0 hw [] b205 p1 bf212 bt212 (1 : Int32) (1 : Int32) kt212 [(.int p2), (.int (0 : Int32)), (.int (0 : Int32)), (.int (0 : Int32)), (.int (0 : Int32)), (.int (0 : Int32)), (.int (0 : Int32)), (.int (0 : Int32)), (.int (0 : Int32)), (.int (0 : Int32)), (.int (0 : Int32)), (.int (0 : Int32)), (.int (0 : Int32)), (.int (0 : Int32)), (.int (0 : Int32)), (.int (0 : Int32))]  T238.heap n0 Zn238 f239 L206 lb212 nb212 fa238 fb238 fc238 fd238 vv238 (by decide) ⟨by decide, by decide⟩ (Nat.le_of_ble_eq_true rfl)) hZ (hw _ (List.mem_of_getElem? (i := 32) rfl)) (hw _ (List.mem_of_getElem? (i := 2) rfl)) (by decide) (by decide)) q241a q241c (g := (mkF m 87 #[.val (.int p0), .val (.int p1), .val (.int p2), .val (.int (0 : Int32)), .val (.int (2 : Int32)), .val (.int (1 : Int32)), .val (.ref b205)] [(.int p1), (.ref b205)])) rfl (by rw [hml]; rfl) (Steps.refl _) (argsL := [(.int p1)]) (rest := []) (lenOf own_pd2 rfl) rfl (by show 2 * 0 + _ ≤ _; exact Nat.le_of_eq rfl) (hb hby at_87) (fun _ _ => ⟨rfl, rfl, (by decide : 3 + 0 ≤ _), (by decide : 37 + 0 ≤ _)⟩)
        dsimp only [Pt.U, Pt.locs, Pt.cells, Pt.slots] at X241 l241 y241 z241 st241 hQ241
        subst l241 y241 z241
        obtain ⟨rfl, Nq241, Kq241, fa241, fb241, fc241, fd241, vv241⟩ := hQ241
        have N241 := Fr.app N238 Nq241
        have f242 := f239.keep Kq241
        have f243 := f240.keep Kq241 (ninS (Ne.symm na212) (ninS nc212 nin0))
        have Zn241 : n0 ≤ T241.heap.size := Nat.le_trans Zn238 Kq241.1
        have fa241 : Fld Z T241.heap b205 "com/example/mursyn/mursyn/synthesis/SuccessorLists" "first" "[I" (.ref bf212) := fa241
        have fb241 : Fld Z T241.heap b205 "com/example/mursyn/mursyn/synthesis/SuccessorLists" "targets" "[I" (.ref bt212) := fb241
        have fc241 : Fld Z T241.heap b205 "com/example/mursyn/mursyn/synthesis/SuccessorLists" "edgeCount" "I" (.int (2 : Int32)) := fc241
        have fd241 : Fld Z T241.heap b205 "com/example/mursyn/mursyn/synthesis/SuccessorLists" "listed" "I" (.int (1 : Int32)) := fd241
        have vv241 : Arv Z T241.heap bt212 kt212 .int (16 : Int32) [(.int p2), (.int p1), (.int (0 : Int32)), (.int (0 : Int32)), (.int (0 : Int32)), (.int (0 : Int32)), (.int (0 : Int32)), (.int (0 : Int32)), (.int (0 : Int32)), (.int (0 : Int32)), (.int (0 : Int32)), (.int (0 : Int32)), (.int (0 : Int32)), (.int (0 : Int32)), (.int (0 : Int32)), (.int (0 : Int32))] (.int (0 : Int32)) := vv241
        refine own_pre (fun t k => st241.trans k) ?_
        show own_Ends _ _ _ _ (T241.setTop (mkF m 90 #[.val (.int p0), .val (.int p1), .val (.int p2), .val (.int (0 : Int32)), .val (.int (2 : Int32)), .val (.int (1 : Int32)), .val (.ref b205)] []))
        refine own_pre (fun t k => XS.aload X241.here hx rfl (hb hby at_90) rfl rfl k) ?_
        show own_Ends _ _ _ _ (T241.setTop (mkF m 92 #[.val (.int p0), .val (.int p1), .val (.int p2), .val (.int (0 : Int32)), .val (.int (2 : Int32)), .val (.int (1 : Int32)), .val (.ref b205)] [(.ref b205)]))
        obtain ⟨cq244, kq244, q244a, q244b, q244c⟩ := isOf hZ rfl f242
        obtain ⟨_, _, ⟨T244, L244, k244, n244⟩, -, X244, ⟨Lc244, hQ244, l244, y244, z244⟩, st244⟩ := X241.virtualBack hx (y := (⟨"com/example/mursyn/mursyn/synthesis/SuccessorLists", "close", "()V"⟩ : MethodName)) (z := (⟨"com/example/mursyn/mursyn/synthesis/SuccessorLists", "close", "()V"⟩ : MethodName)) hown (mvT hZ (hw _ (List.mem_of_getElem? (i := 14) rfl))) (mvT hZ (hw _ (List.mem_of_getElem? (i := 15) rfl))) (notFace_of_selects (args := #[]) (mvT hZ (hw _ (List.mem_of_getElem? (i := 17) rfl)))) (mvT hZ (hw _ (List.mem_of_getElem? (i := 17) rfl))) (mvT hZ (hw _ (List.mem_of_getElem? (i := 16) rfl))) (by decide) (backOf (W := 0) (rm3 l Z a0 hw [] b205 bf212 bt212 (2 : Int32) (1 : Int32) kf212 [(.int (0 : Int32)), (.int (0 : Int32)), (.int (0 : Int32)), (.int (0 : Int32)), (.int (0 : Int32)), (.int (0 : Int32)), (.int (0 : Int32)), (.int (0 : Int32)), (.int (0 : Int32)), (.int (0 : Int32)), (.int (0 : Int32)), (.int (0 : Int32)), (.int (0 : Int32)), (.int (0 : Int32)), (.int (0 : Int32)), (.int (0 : Int32)), (.int (0 : Int32))]  T241.heap n0 Zn241 f242 L206 la212 na212 fa241 fb241 fc241 fd241 f243 (by decide) ⟨by decide, by decide⟩ (Nat.le_of_ble_eq_true rfl)) hZ (hw _ (List.mem_of_getElem? (i := 18) rfl)) (hw _ (List.mem_of_getElem? (i := 2) rfl)) (by decide) (by decide)) q244a q244c (g := (mkF m 92 #[.val (.int p0), .val (.int p1), .val (.int p2), .val (.int (0 : Int32)), .val (.int (2 : Int32)), .val (.int (1 : Int32)), .val (.ref b205)] [(.ref b205)])) rfl (by rw [hml]; rfl) (Steps.refl _) (argsL := []) (rest := []) (lenOf own_pd0 rfl) rfl (by show 2 * 0 + _ ≤ _; exact Nat.le_of_eq rfl) (hb hby at_92) (fun _ _ => ⟨rfl, rfl, (by decide : 3 + 0 ≤ _), (by decide : 37 + 0 ≤ _)⟩)
        dsimp only [Pt.U, Pt.locs, Pt.cells, Pt.slots] at X244 l244 y244 z244 st244 hQ244
        subst l244 y244 z244
        obtain ⟨rfl, Nq244, Kq244, fa244, fb244, fc244, fd244, vv244⟩ := hQ244
        have N244 := Fr.app N241 Nq244
        have f245 := f242.keep Kq244
        have f246 := vv241.keep Kq244 (ninS (Ne.symm nb212) (ninS (Ne.symm nc212) nin0))
        have Zn244 : n0 ≤ T244.heap.size := Nat.le_trans Zn241 Kq244.1
        have fa244 : Fld Z T244.heap b205 "com/example/mursyn/mursyn/synthesis/SuccessorLists" "first" "[I" (.ref bf212) := fa244
        have fb244 : Fld Z T244.heap b205 "com/example/mursyn/mursyn/synthesis/SuccessorLists" "targets" "[I" (.ref bt212) := fb244
        have fc244 : Fld Z T244.heap b205 "com/example/mursyn/mursyn/synthesis/SuccessorLists" "edgeCount" "I" (.int (2 : Int32)) := fc244
        have fd244 : Fld Z T244.heap b205 "com/example/mursyn/mursyn/synthesis/SuccessorLists" "listed" "I" (.int (2 : Int32)) := fd244
        have vv244 : Arv Z T244.heap bf212 kf212 .int (17 : Int32) [(.int (0 : Int32)), (.int (0 : Int32)), (.int (2 : Int32)), (.int (0 : Int32)), (.int (0 : Int32)), (.int (0 : Int32)), (.int (0 : Int32)), (.int (0 : Int32)), (.int (0 : Int32)), (.int (0 : Int32)), (.int (0 : Int32)), (.int (0 : Int32)), (.int (0 : Int32)), (.int (0 : Int32)), (.int (0 : Int32)), (.int (0 : Int32)), (.int (0 : Int32))] (.int (0 : Int32)) := vv244
        refine own_pre (fun t k => st244.trans k) ?_
        show own_Ends _ _ _ _ (T244.setTop (mkF m 95 #[.val (.int p0), .val (.int p1), .val (.int p2), .val (.int (0 : Int32)), .val (.int (2 : Int32)), .val (.int (1 : Int32)), .val (.ref b205)] []))
        refine own_pre (fun t k => XS.iload X244.here hx rfl (hb hby at_95) rfl k) ?_
        show own_Ends _ _ _ _ (T244.setTop (mkF m 97 #[.val (.int p0), .val (.int p1), .val (.int p2), .val (.int (0 : Int32)), .val (.int (2 : Int32)), .val (.int (1 : Int32)), .val (.ref b205)] [(.int (1 : Int32))]))
        refine own_pre (fun t k => XS.ifNo X244.here hx rfl (hb hby at_97) rfl ((if0 _ _).trans (feq ((by decide) : ¬ ((1 : Int32) = (0 : Int32)))).1) k) ?_
        show own_Ends _ _ _ _ (T244.setTop (mkF m 100 #[.val (.int p0), .val (.int p1), .val (.int p2), .val (.int (0 : Int32)), .val (.int (2 : Int32)), .val (.int (1 : Int32)), .val (.ref b205)] []))
        refine own_pre (fun t k => XS.aload X244.here hx rfl (hb hby at_100) rfl rfl k) ?_
        show own_Ends _ _ _ _ (T244.setTop (mkF m 102 #[.val (.int p0), .val (.int p1), .val (.int p2), .val (.int (0 : Int32)), .val (.int (2 : Int32)), .val (.int (1 : Int32)), .val (.ref b205)] [(.ref b205)]))
        refine own_pre (fun t k => XS.iloadN X244.here hx rfl (hb hby at_102) rfl k) ?_
        show own_Ends _ _ _ _ (T244.setTop (mkF m 103 #[.val (.int p0), .val (.int p1), .val (.int p2), .val (.int (0 : Int32)), .val (.int (2 : Int32)), .val (.int (1 : Int32)), .val (.ref b205)] [(.int p1), (.ref b205)]))
        obtain ⟨cq247, kq247, q247a, q247b, q247c⟩ := isOf hZ rfl f245
        obtain ⟨_, _, ⟨T247, L247, k247, n247⟩, -, X247, ⟨Lc247, hQ247, l247, y247, z247⟩, st247⟩ := X244.virtualBack hx (y := (⟨"com/example/mursyn/mursyn/synthesis/SuccessorLists", "add", "(I)V"⟩ : MethodName)) (z := (⟨"com/example/mursyn/mursyn/synthesis/SuccessorLists", "add", "(I)V"⟩ : MethodName)) hown (mvT hZ (hw _ (List.mem_of_getElem? (i := 28) rfl))) (mvT hZ (hw _ (List.mem_of_getElem? (i := 29) rfl))) (notFace_of_selects (args := #[]) (mvT hZ (hw _ (List.mem_of_getElem? (i := 31) rfl)))) (mvT hZ (hw _ (List.mem_of_getElem? (i := 31) rfl))) (mvT hZ (hw _ (List.mem_of_getElem? (i := 30) rfl))) (by decide) (backOf (W := 0) (rm2 l Z a0 hw [] b205 p1 bf212 bt212 (2 : Int32) (2 : Int32) kt212 [(.int p2), (.int p1), (.int (0 : Int32)), (.int (0 : Int32)), (.int (0 : Int32)), (.int (0 : Int32)), (.int (0 : Int32)), (.int (0 : Int32)), (.int (0 : Int32)), (.int (0 : Int32)), (.int (0 : Int32)), (.int (0 : Int32)), (.int (0 : Int32)), (.int (0 : Int32)), (.int (0 : Int32)), (.int (0 : Int32))]  T244.heap n0 Zn244 f245 L206 lb212 nb212 fa244 fb244 fc244 fd244 f246 (by decide) ⟨by decide, by decide⟩ (Nat.le_of_ble_eq_true rfl)) hZ (hw _ (List.mem_of_getElem? (i := 32) rfl)) (hw _ (List.mem_of_getElem? (i := 2) rfl)) (by decide) (by decide)) q247a q247c (g := (mkF m 103 #[.val (.int p0), .val (.int p1), .val (.int p2), .val (.int (0 : Int32)), .val (.int (2 : Int32)), .val (.int (1 : Int32)), .val (.ref b205)] [(.int p1), (.ref b205)])) rfl (by rw [hml]; rfl) (Steps.refl _) (argsL := [(.int p1)]) (rest := []) (lenOf own_pd2 rfl) rfl (by show 2 * 0 + _ ≤ _; exact Nat.le_of_eq rfl) (hb hby at_103) (fun _ _ => ⟨rfl, rfl, (by decide : 3 + 0 ≤ _), (by decide : 37 + 0 ≤ _)⟩)
        dsimp only [Pt.U, Pt.locs, Pt.cells, Pt.slots] at X247 l247 y247 z247 st247 hQ247
        subst l247 y247 z247
        obtain ⟨rfl, Nq247, Kq247, fa247, fb247, fc247, fd247, vv247⟩ := hQ247
        have N247 := Fr.app N244 Nq247
        have f248 := f245.keep Kq247
        have f249 := vv244.keep Kq247 (ninS (Ne.symm na212) (ninS nc212 nin0))
        have Zn247 : n0 ≤ T247.heap.size := Nat.le_trans Zn244 Kq247.1
        have fa247 : Fld Z T247.heap b205 "com/example/mursyn/mursyn/synthesis/SuccessorLists" "first" "[I" (.ref bf212) := fa247
        have fb247 : Fld Z T247.heap b205 "com/example/mursyn/mursyn/synthesis/SuccessorLists" "targets" "[I" (.ref bt212) := fb247
        have fc247 : Fld Z T247.heap b205 "com/example/mursyn/mursyn/synthesis/SuccessorLists" "edgeCount" "I" (.int (3 : Int32)) := fc247
        have fd247 : Fld Z T247.heap b205 "com/example/mursyn/mursyn/synthesis/SuccessorLists" "listed" "I" (.int (2 : Int32)) := fd247
        have vv247 : Arv Z T247.heap bt212 kt212 .int (16 : Int32) [(.int p2), (.int p1), (.int p1), (.int (0 : Int32)), (.int (0 : Int32)), (.int (0 : Int32)), (.int (0 : Int32)), (.int (0 : Int32)), (.int (0 : Int32)), (.int (0 : Int32)), (.int (0 : Int32)), (.int (0 : Int32)), (.int (0 : Int32)), (.int (0 : Int32)), (.int (0 : Int32)), (.int (0 : Int32))] (.int (0 : Int32)) := vv247
        refine own_pre (fun t k => st247.trans k) ?_
        show own_Ends _ _ _ _ (T247.setTop (mkF m 106 #[.val (.int p0), .val (.int p1), .val (.int p2), .val (.int (0 : Int32)), .val (.int (2 : Int32)), .val (.int (1 : Int32)), .val (.ref b205)] []))
        refine own_pre (fun t k => XS.aload X247.here hx rfl (hb hby at_106) rfl rfl k) ?_
        show own_Ends _ _ _ _ (T247.setTop (mkF m 108 #[.val (.int p0), .val (.int p1), .val (.int p2), .val (.int (0 : Int32)), .val (.int (2 : Int32)), .val (.int (1 : Int32)), .val (.ref b205)] [(.ref b205)]))
        refine own_pre (fun t k => XS.iconst X247.here hx rfl (hb hby at_108) k) ?_
        show own_Ends _ _ _ _ (T247.setTop (mkF m 109 #[.val (.int p0), .val (.int p1), .val (.int p2), .val (.int (0 : Int32)), .val (.int (2 : Int32)), .val (.int (1 : Int32)), .val (.ref b205)] [(.int (0 : Int32)), (.ref b205)]))
        obtain ⟨cq250, kq250, q250a, q250b, q250c⟩ := isOf hZ rfl f248
        obtain ⟨_, _, ⟨T250, L250, k250, n250⟩, -, X250, ⟨Lc250, hQ250, l250, y250, z250⟩, st250⟩ := X247.virtualBack hx (y := (⟨"com/example/mursyn/mursyn/synthesis/SuccessorLists", "count", "(I)I"⟩ : MethodName)) (z := (⟨"com/example/mursyn/mursyn/synthesis/SuccessorLists", "count", "(I)I"⟩ : MethodName)) hown (mvT hZ (hw _ (List.mem_of_getElem? (i := 23) rfl))) (mvT hZ (hw _ (List.mem_of_getElem? (i := 24) rfl))) (notFace_of_selects (args := #[]) (mvT hZ (hw _ (List.mem_of_getElem? (i := 26) rfl)))) (mvT hZ (hw _ (List.mem_of_getElem? (i := 26) rfl))) (mvT hZ (hw _ (List.mem_of_getElem? (i := 25) rfl))) (by decide) (backOf (W := 0) (rm4 l Z a0 hw [] b205 (0 : Int32) bf212 kf212 [(.int (0 : Int32)), (.int (0 : Int32)), (.int (2 : Int32)), (.int (0 : Int32)), (.int (0 : Int32)), (.int (0 : Int32)), (.int (0 : Int32)), (.int (0 : Int32)), (.int (0 : Int32)), (.int (0 : Int32)), (.int (0 : Int32)), (.int (0 : Int32)), (.int (0 : Int32)), (.int (0 : Int32)), (.int (0 : Int32)), (.int (0 : Int32)), (.int (0 : Int32))] (0 : Int32) (0 : Int32) T247.heap n0 Zn247 fa247 f249 ⟨by decide, by decide⟩ rfl ⟨by decide, by decide⟩ rfl) hZ (hw _ (List.mem_of_getElem? (i := 27) rfl)) (hw _ (List.mem_of_getElem? (i := 2) rfl)) (by decide) (by decide)) q250a q250c (g := (mkF m 109 #[.val (.int p0), .val (.int p1), .val (.int p2), .val (.int (0 : Int32)), .val (.int (2 : Int32)), .val (.int (1 : Int32)), .val (.ref b205)] [(.int (0 : Int32)), (.ref b205)])) rfl (by rw [hml]; rfl) (Steps.refl _) (argsL := [(.int (0 : Int32))]) (rest := []) (lenOf own_pd1 rfl) rfl (by show 2 * 0 + _ ≤ _; exact Nat.le_of_eq rfl) (hb hby at_109) (fun _ _ => ⟨rfl, rfl, (by decide : 3 + 0 ≤ _), (by decide : 37 + 0 ≤ _)⟩)
        dsimp only [Pt.U, Pt.locs, Pt.cells, Pt.slots] at X250 l250 y250 z250 st250 hQ250
        subst l250 y250 z250
        obtain ⟨rfl, Nq250, e250⟩ := hQ250
        have N250 := Fr.app N247 Nq250
        refine own_pre (fun t k => st250.trans k) ?_
        show own_Ends _ _ _ _ (T250.setTop (mkF m 112 #[.val (.int p0), .val (.int p1), .val (.int p2), .val (.int (0 : Int32)), .val (.int (2 : Int32)), .val (.int (1 : Int32)), .val (.ref b205)] [(.int (0 : Int32))]))
        refine own_pre (fun t k => XS.iloadN X250.here hx rfl (hb hby at_112) rfl k) ?_
        show own_Ends _ _ _ _ (T250.setTop (mkF m 113 #[.val (.int p0), .val (.int p1), .val (.int p2), .val (.int (0 : Int32)), .val (.int (2 : Int32)), .val (.int (1 : Int32)), .val (.ref b205)] [(.int (0 : Int32)), (.int (0 : Int32))]))
        refine own_pre (fun t k => XS.icmpNo X250.here hx rfl (hb hby at_113) rfl (teq ((by decide) : (0 : Int32) = (0 : Int32))).2 k) ?_
        show own_Ends _ _ _ _ (T250.setTop (mkF m 116 #[.val (.int p0), .val (.int p1), .val (.int p2), .val (.int (0 : Int32)), .val (.int (2 : Int32)), .val (.int (1 : Int32)), .val (.ref b205)] []))
        refine own_pre (fun t k => XS.aload X250.here hx rfl (hb hby at_116) rfl rfl k) ?_
        show own_Ends _ _ _ _ (T250.setTop (mkF m 118 #[.val (.int p0), .val (.int p1), .val (.int p2), .val (.int (0 : Int32)), .val (.int (2 : Int32)), .val (.int (1 : Int32)), .val (.ref b205)] [(.ref b205)]))
        refine own_pre (fun t k => XS.iconst X250.here hx rfl (hb hby at_118) k) ?_
        show own_Ends _ _ _ _ (T250.setTop (mkF m 119 #[.val (.int p0), .val (.int p1), .val (.int p2), .val (.int (0 : Int32)), .val (.int (2 : Int32)), .val (.int (1 : Int32)), .val (.ref b205)] [(.int (1 : Int32)), (.ref b205)]))
        obtain ⟨cq251, kq251, q251a, q251b, q251c⟩ := isOf hZ e250 f248
        obtain ⟨_, _, ⟨T251, L251, k251, n251⟩, -, X251, ⟨Lc251, hQ251, l251, y251, z251⟩, st251⟩ := X250.virtualBack hx (y := (⟨"com/example/mursyn/mursyn/synthesis/SuccessorLists", "count", "(I)I"⟩ : MethodName)) (z := (⟨"com/example/mursyn/mursyn/synthesis/SuccessorLists", "count", "(I)I"⟩ : MethodName)) hown (mvT hZ (hw _ (List.mem_of_getElem? (i := 23) rfl))) (mvT hZ (hw _ (List.mem_of_getElem? (i := 24) rfl))) (notFace_of_selects (args := #[]) (mvT hZ (hw _ (List.mem_of_getElem? (i := 26) rfl)))) (mvT hZ (hw _ (List.mem_of_getElem? (i := 26) rfl))) (mvT hZ (hw _ (List.mem_of_getElem? (i := 25) rfl))) (by decide) (backOf (W := 0) (rm4 l Z a0 hw [] b205 (1 : Int32) bf212 kf212 [(.int (0 : Int32)), (.int (0 : Int32)), (.int (2 : Int32)), (.int (0 : Int32)), (.int (0 : Int32)), (.int (0 : Int32)), (.int (0 : Int32)), (.int (0 : Int32)), (.int (0 : Int32)), (.int (0 : Int32)), (.int (0 : Int32)), (.int (0 : Int32)), (.int (0 : Int32)), (.int (0 : Int32)), (.int (0 : Int32)), (.int (0 : Int32)), (.int (0 : Int32))] (2 : Int32) (0 : Int32) T247.heap n0 Zn247 fa247 f249 ⟨by decide, by decide⟩ rfl ⟨by decide, by decide⟩ rfl) hZ (hw _ (List.mem_of_getElem? (i := 27) rfl)) (hw _ (List.mem_of_getElem? (i := 2) rfl)) (by decide) (by decide)) q251a q251c (g := (mkF m 119 #[.val (.int p0), .val (.int p1), .val (.int p2), .val (.int (0 : Int32)), .val (.int (2 : Int32)), .val (.int (1 : Int32)), .val (.ref b205)] [(.int (1 : Int32)), (.ref b205)])) rfl (by rw [hml]; rfl) (Steps.refl _) (argsL := [(.int (1 : Int32))]) (rest := []) (lenOf own_pd1 rfl) rfl (by show 2 * 0 + _ ≤ _; exact Nat.le_of_eq rfl) (hb hby at_119) (fun _ _ => ⟨rfl, e250, (by decide : 3 + 0 ≤ _), (by decide : 37 + 0 ≤ _)⟩)
        dsimp only [Pt.U, Pt.locs, Pt.cells, Pt.slots] at X251 l251 y251 z251 st251 hQ251
        subst l251 y251 z251
        obtain ⟨rfl, Nq251, e251⟩ := hQ251
        have N251 := Fr.app N250 Nq251
        refine own_pre (fun t k => st251.trans k) ?_
        show own_Ends _ _ _ _ (T251.setTop (mkF m 122 #[.val (.int p0), .val (.int p1), .val (.int p2), .val (.int (0 : Int32)), .val (.int (2 : Int32)), .val (.int (1 : Int32)), .val (.ref b205)] [(.int (2 : Int32))]))
        refine own_pre (fun t k => XS.iload X251.here hx rfl (hb hby at_122) rfl k) ?_
        show own_Ends _ _ _ _ (T251.setTop (mkF m 124 #[.val (.int p0), .val (.int p1), .val (.int p2), .val (.int (0 : Int32)), .val (.int (2 : Int32)), .val (.int (1 : Int32)), .val (.ref b205)] [(.int (2 : Int32)), (.int (2 : Int32))]))
        refine own_pre (fun t k => XS.icmpNo X251.here hx rfl (hb hby at_124) rfl (teq ((by decide) : (2 : Int32) = (2 : Int32))).2 k) ?_
        show own_Ends _ _ _ _ (T251.setTop (mkF m 127 #[.val (.int p0), .val (.int p1), .val (.int p2), .val (.int (0 : Int32)), .val (.int (2 : Int32)), .val (.int (1 : Int32)), .val (.ref b205)] []))
        refine own_pre (fun t k => XS.iconst X251.here hx rfl (hb hby at_127) k) ?_
        show own_Ends _ _ _ _ (T251.setTop (mkF m 128 #[.val (.int p0), .val (.int p1), .val (.int p2), .val (.int (0 : Int32)), .val (.int (2 : Int32)), .val (.int (1 : Int32)), .val (.ref b205)] [(.int (1 : Int32))]))
        refine own_pre (fun t k => XS.goto X251.here hx rfl (pc0 := 128) (pc' := 132) rfl (hb hby at_128) (by decide) (by decide) k) ?_
        show own_Ends _ _ _ _ (T251.setTop (mkF m 132 #[.val (.int p0), .val (.int p1), .val (.int p2), .val (.int (0 : Int32)), .val (.int (2 : Int32)), .val (.int (1 : Int32)), .val (.ref b205)] [(.int (1 : Int32))]))
        exact own_retN X251 hx (t := .boolean) Bd.returns (by simp) (hb hby at_132) hlk rfl e251 ⟨rfl, N251⟩ (by decide) (by decide)
    · subst hs214
      show own_Ends _ _ _ _ (T212.setTop (mkF m 39 #[.val (.int p0), .val (.int p1), .val (.int p2), .val (.int (1 : Int32)), .val (.int x4), .val (.int (1 : Int32)), .val (.ref b205)] []))
      refine own_pre (fun t k => XS.iloadN X212.here hx rfl (hb hby at_39) rfl k) ?_
      show own_Ends _ _ _ _ (T212.setTop (mkF m 40 #[.val (.int p0), .val (.int p1), .val (.int p2), .val (.int (1 : Int32)), .val (.int x4), .val (.int (1 : Int32)), .val (.ref b205)] [(.int (1 : Int32))]))
      refine own_pre (fun t k => XS.iconst X212.here hx rfl (hb hby at_40) k) ?_
      show own_Ends _ _ _ _ (T212.setTop (mkF m 41 #[.val (.int p0), .val (.int p1), .val (.int p2), .val (.int (1 : Int32)), .val (.int x4), .val (.int (1 : Int32)), .val (.ref b205)] [(.int (1 : Int32)), (.int (1 : Int32))]))
      refine own_pre (fun t k => XS.icmpNo X212.here hx rfl (hb hby at_41) rfl (flt ((by decide) : ¬ ((1 : Int32) < (1 : Int32)))).1 k) ?_
      show own_Ends _ _ _ _ (T212.setTop (mkF m 44 #[.val (.int p0), .val (.int p1), .val (.int p2), .val (.int (1 : Int32)), .val (.int x4), .val (.int (1 : Int32)), .val (.ref b205)] []))
      refine own_pre (fun t k => XS.aload X212.here hx rfl (hb hby at_44) rfl rfl k) ?_
      show own_Ends _ _ _ _ (T212.setTop (mkF m 46 #[.val (.int p0), .val (.int p1), .val (.int p2), .val (.int (1 : Int32)), .val (.int x4), .val (.int (1 : Int32)), .val (.ref b205)] [(.ref b205)]))
      refine own_pre (fun t k => XS.iloadN X212.here hx rfl (hb hby at_46) rfl k) ?_
      show own_Ends _ _ _ _ (T212.setTop (mkF m 47 #[.val (.int p0), .val (.int p1), .val (.int p2), .val (.int (1 : Int32)), .val (.int x4), .val (.int (1 : Int32)), .val (.ref b205)] [(.int p1), (.ref b205)]))
      obtain ⟨cq252, kq252, q252a, q252b, q252c⟩ := isOf hZ rfl f213
      obtain ⟨_, _, ⟨T252, L252, k252, n252⟩, -, X252, ⟨Lc252, hQ252, l252, y252, z252⟩, st252⟩ := X212.virtualBack hx (y := (⟨"com/example/mursyn/mursyn/synthesis/SuccessorLists", "add", "(I)V"⟩ : MethodName)) (z := (⟨"com/example/mursyn/mursyn/synthesis/SuccessorLists", "add", "(I)V"⟩ : MethodName)) hown (mvT hZ (hw _ (List.mem_of_getElem? (i := 28) rfl))) (mvT hZ (hw _ (List.mem_of_getElem? (i := 29) rfl))) (notFace_of_selects (args := #[]) (mvT hZ (hw _ (List.mem_of_getElem? (i := 31) rfl)))) (mvT hZ (hw _ (List.mem_of_getElem? (i := 31) rfl))) (mvT hZ (hw _ (List.mem_of_getElem? (i := 30) rfl))) (by decide) (backOf (W := 0) (rm2 l Z a0 hw [] b205 p1 bf212 bt212 (0 : Int32) (0 : Int32) kt212 [(.int (0 : Int32)), (.int (0 : Int32)), (.int (0 : Int32)), (.int (0 : Int32)), (.int (0 : Int32)), (.int (0 : Int32)), (.int (0 : Int32)), (.int (0 : Int32)), (.int (0 : Int32)), (.int (0 : Int32)), (.int (0 : Int32)), (.int (0 : Int32)), (.int (0 : Int32)), (.int (0 : Int32)), (.int (0 : Int32)), (.int (0 : Int32))]  T212.heap n0 Zn212 f213 L206 lb212 nb212 fa212 fb212 fc212 fd212 vb212 (by decide) ⟨by decide, by decide⟩ (Nat.le_of_ble_eq_true rfl)) hZ (hw _ (List.mem_of_getElem? (i := 32) rfl)) (hw _ (List.mem_of_getElem? (i := 2) rfl)) (by decide) (by decide)) q252a q252c (g := (mkF m 47 #[.val (.int p0), .val (.int p1), .val (.int p2), .val (.int (1 : Int32)), .val (.int x4), .val (.int (1 : Int32)), .val (.ref b205)] [(.int p1), (.ref b205)])) rfl (by rw [hml]; rfl) (Steps.refl _) (argsL := [(.int p1)]) (rest := []) (lenOf own_pd2 rfl) rfl (by show 2 * 0 + _ ≤ _; exact Nat.le_of_eq rfl) (hb hby at_47) (fun _ _ => ⟨rfl, rfl, (by decide : 3 + 0 ≤ _), (by decide : 37 + 0 ≤ _)⟩)
      dsimp only [Pt.U, Pt.locs, Pt.cells, Pt.slots] at X252 l252 y252 z252 st252 hQ252
      subst l252 y252 z252
      obtain ⟨rfl, Nq252, Kq252, fa252, fb252, fc252, fd252, vv252⟩ := hQ252
      have N252 := Fr.app N212 Nq252
      have f253 := f213.keep Kq252
      have f254 := va212.keep Kq252 (ninS (Ne.symm na212) (ninS nc212 nin0))
      have Zn252 : n0 ≤ T252.heap.size := Nat.le_trans Zn212 Kq252.1
      have fa252 : Fld Z T252.heap b205 "com/example/mursyn/mursyn/synthesis/SuccessorLists" "first" "[I" (.ref bf212) := fa252
      have fb252 : Fld Z T252.heap b205 "com/example/mursyn/mursyn/synthesis/SuccessorLists" "targets" "[I" (.ref bt212) := fb252
      have fc252 : Fld Z T252.heap b205 "com/example/mursyn/mursyn/synthesis/SuccessorLists" "edgeCount" "I" (.int (1 : Int32)) := fc252
      have fd252 : Fld Z T252.heap b205 "com/example/mursyn/mursyn/synthesis/SuccessorLists" "listed" "I" (.int (0 : Int32)) := fd252
      have vv252 : Arv Z T252.heap bt212 kt212 .int (16 : Int32) [(.int p1), (.int (0 : Int32)), (.int (0 : Int32)), (.int (0 : Int32)), (.int (0 : Int32)), (.int (0 : Int32)), (.int (0 : Int32)), (.int (0 : Int32)), (.int (0 : Int32)), (.int (0 : Int32)), (.int (0 : Int32)), (.int (0 : Int32)), (.int (0 : Int32)), (.int (0 : Int32)), (.int (0 : Int32)), (.int (0 : Int32))] (.int (0 : Int32)) := vv252
      refine own_pre (fun t k => st252.trans k) ?_
      show own_Ends _ _ _ _ (T252.setTop (mkF m 50 #[.val (.int p0), .val (.int p1), .val (.int p2), .val (.int (1 : Int32)), .val (.int x4), .val (.int (1 : Int32)), .val (.ref b205)] []))
      refine own_pre (fun t k => XS.iloadN X252.here hx rfl (hb hby at_50) rfl k) ?_
      show own_Ends _ _ _ _ (T252.setTop (mkF m 51 #[.val (.int p0), .val (.int p1), .val (.int p2), .val (.int (1 : Int32)), .val (.int x4), .val (.int (1 : Int32)), .val (.ref b205)] [(.int (1 : Int32))]))
      refine own_pre (fun t k => XS.iconst X252.here hx rfl (hb hby at_51) k) ?_
      show own_Ends _ _ _ _ (T252.setTop (mkF m 52 #[.val (.int p0), .val (.int p1), .val (.int p2), .val (.int (1 : Int32)), .val (.int x4), .val (.int (1 : Int32)), .val (.ref b205)] [(.int (2 : Int32)), (.int (1 : Int32))]))
      refine own_pre (fun t k => XS.icmpYes X252.here hx rfl (pc0 := 52) (pc' := 61) rfl (hb hby at_52) rfl (tlt ((by decide) : (1 : Int32) < (2 : Int32))).1 (by decide) (by decide) k) ?_
      show own_Ends _ _ _ _ (T252.setTop (mkF m 61 #[.val (.int p0), .val (.int p1), .val (.int p2), .val (.int (1 : Int32)), .val (.int x4), .val (.int (1 : Int32)), .val (.ref b205)] []))
      refine own_pre (fun t k => XS.aload X252.here hx rfl (hb hby at_61) rfl rfl k) ?_
      show own_Ends _ _ _ _ (T252.setTop (mkF m 63 #[.val (.int p0), .val (.int p1), .val (.int p2), .val (.int (1 : Int32)), .val (.int x4), .val (.int (1 : Int32)), .val (.ref b205)] [(.ref b205)]))
      obtain ⟨cq255, kq255, q255a, q255b, q255c⟩ := isOf hZ rfl f253
      obtain ⟨_, _, ⟨T255, L255, k255, n255⟩, -, X255, ⟨Lc255, hQ255, l255, y255, z255⟩, st255⟩ := X252.virtualBack hx (y := (⟨"com/example/mursyn/mursyn/synthesis/SuccessorLists", "close", "()V"⟩ : MethodName)) (z := (⟨"com/example/mursyn/mursyn/synthesis/SuccessorLists", "close", "()V"⟩ : MethodName)) hown (mvT hZ (hw _ (List.mem_of_getElem? (i := 14) rfl))) (mvT hZ (hw _ (List.mem_of_getElem? (i := 15) rfl))) (notFace_of_selects (args := #[]) (mvT hZ (hw _ (List.mem_of_getElem? (i := 17) rfl)))) (mvT hZ (hw _ (List.mem_of_getElem? (i := 17) rfl))) (mvT hZ (hw _ (List.mem_of_getElem? (i := 16) rfl))) (by decide) (backOf (W := 0) (rm3 l Z a0 hw [] b205 bf212 bt212 (1 : Int32) (0 : Int32) kf212 [(.int (0 : Int32)), (.int (0 : Int32)), (.int (0 : Int32)), (.int (0 : Int32)), (.int (0 : Int32)), (.int (0 : Int32)), (.int (0 : Int32)), (.int (0 : Int32)), (.int (0 : Int32)), (.int (0 : Int32)), (.int (0 : Int32)), (.int (0 : Int32)), (.int (0 : Int32)), (.int (0 : Int32)), (.int (0 : Int32)), (.int (0 : Int32)), (.int (0 : Int32))]  T252.heap n0 Zn252 f253 L206 la212 na212 fa252 fb252 fc252 fd252 f254 (by decide) ⟨by decide, by decide⟩ (Nat.le_of_ble_eq_true rfl)) hZ (hw _ (List.mem_of_getElem? (i := 18) rfl)) (hw _ (List.mem_of_getElem? (i := 2) rfl)) (by decide) (by decide)) q255a q255c (g := (mkF m 63 #[.val (.int p0), .val (.int p1), .val (.int p2), .val (.int (1 : Int32)), .val (.int x4), .val (.int (1 : Int32)), .val (.ref b205)] [(.ref b205)])) rfl (by rw [hml]; rfl) (Steps.refl _) (argsL := []) (rest := []) (lenOf own_pd0 rfl) rfl (by show 2 * 0 + _ ≤ _; exact Nat.le_of_eq rfl) (hb hby at_63) (fun _ _ => ⟨rfl, rfl, (by decide : 3 + 0 ≤ _), (by decide : 37 + 0 ≤ _)⟩)
      dsimp only [Pt.U, Pt.locs, Pt.cells, Pt.slots] at X255 l255 y255 z255 st255 hQ255
      subst l255 y255 z255
      obtain ⟨rfl, Nq255, Kq255, fa255, fb255, fc255, fd255, vv255⟩ := hQ255
      have N255 := Fr.app N252 Nq255
      have f256 := f253.keep Kq255
      have f257 := vv252.keep Kq255 (ninS (Ne.symm nb212) (ninS (Ne.symm nc212) nin0))
      have Zn255 : n0 ≤ T255.heap.size := Nat.le_trans Zn252 Kq255.1
      have fa255 : Fld Z T255.heap b205 "com/example/mursyn/mursyn/synthesis/SuccessorLists" "first" "[I" (.ref bf212) := fa255
      have fb255 : Fld Z T255.heap b205 "com/example/mursyn/mursyn/synthesis/SuccessorLists" "targets" "[I" (.ref bt212) := fb255
      have fc255 : Fld Z T255.heap b205 "com/example/mursyn/mursyn/synthesis/SuccessorLists" "edgeCount" "I" (.int (1 : Int32)) := fc255
      have fd255 : Fld Z T255.heap b205 "com/example/mursyn/mursyn/synthesis/SuccessorLists" "listed" "I" (.int (1 : Int32)) := fd255
      have vv255 : Arv Z T255.heap bf212 kf212 .int (17 : Int32) [(.int (0 : Int32)), (.int (1 : Int32)), (.int (0 : Int32)), (.int (0 : Int32)), (.int (0 : Int32)), (.int (0 : Int32)), (.int (0 : Int32)), (.int (0 : Int32)), (.int (0 : Int32)), (.int (0 : Int32)), (.int (0 : Int32)), (.int (0 : Int32)), (.int (0 : Int32)), (.int (0 : Int32)), (.int (0 : Int32)), (.int (0 : Int32)), (.int (0 : Int32))] (.int (0 : Int32)) := vv255
      refine own_pre (fun t k => st255.trans k) ?_
      show own_Ends _ _ _ _ (T255.setTop (mkF m 66 #[.val (.int p0), .val (.int p1), .val (.int p2), .val (.int (1 : Int32)), .val (.int x4), .val (.int (1 : Int32)), .val (.ref b205)] []))
      rcases own_c3 hx4 with hs258 | hs258 | hs258
      · subst hs258
        show own_Ends _ _ _ _ (T255.setTop (mkF m 66 #[.val (.int p0), .val (.int p1), .val (.int p2), .val (.int (1 : Int32)), .val (.int (0 : Int32)), .val (.int (1 : Int32)), .val (.ref b205)] []))
        refine own_pre (fun t k => XS.iload X255.here hx rfl (hb hby at_66) rfl k) ?_
        show own_Ends _ _ _ _ (T255.setTop (mkF m 68 #[.val (.int p0), .val (.int p1), .val (.int p2), .val (.int (1 : Int32)), .val (.int (0 : Int32)), .val (.int (1 : Int32)), .val (.ref b205)] [(.int (0 : Int32))]))
        refine own_pre (fun t k => XS.iconst X255.here hx rfl (hb hby at_68) k) ?_
        show own_Ends _ _ _ _ (T255.setTop (mkF m 69 #[.val (.int p0), .val (.int p1), .val (.int p2), .val (.int (1 : Int32)), .val (.int (0 : Int32)), .val (.int (1 : Int32)), .val (.ref b205)] [(.int (1 : Int32)), (.int (0 : Int32))]))
        refine own_pre (fun t k => XS.icmpYes X255.here hx rfl (pc0 := 69) (pc' := 78) rfl (hb hby at_69) rfl (tlt ((by decide) : (0 : Int32) < (1 : Int32))).1 (by decide) (by decide) k) ?_
        show own_Ends _ _ _ _ (T255.setTop (mkF m 78 #[.val (.int p0), .val (.int p1), .val (.int p2), .val (.int (1 : Int32)), .val (.int (0 : Int32)), .val (.int (1 : Int32)), .val (.ref b205)] []))
        refine own_pre (fun t k => XS.iload X255.here hx rfl (hb hby at_78) rfl k) ?_
        show own_Ends _ _ _ _ (T255.setTop (mkF m 80 #[.val (.int p0), .val (.int p1), .val (.int p2), .val (.int (1 : Int32)), .val (.int (0 : Int32)), .val (.int (1 : Int32)), .val (.ref b205)] [(.int (0 : Int32))]))
        refine own_pre (fun t k => XS.iconst X255.here hx rfl (hb hby at_80) k) ?_
        show own_Ends _ _ _ _ (T255.setTop (mkF m 81 #[.val (.int p0), .val (.int p1), .val (.int p2), .val (.int (1 : Int32)), .val (.int (0 : Int32)), .val (.int (1 : Int32)), .val (.ref b205)] [(.int (2 : Int32)), (.int (0 : Int32))]))
        refine own_pre (fun t k => XS.icmpYes X255.here hx rfl (pc0 := 81) (pc' := 90) rfl (hb hby at_81) rfl (tlt ((by decide) : (0 : Int32) < (2 : Int32))).1 (by decide) (by decide) k) ?_
        show own_Ends _ _ _ _ (T255.setTop (mkF m 90 #[.val (.int p0), .val (.int p1), .val (.int p2), .val (.int (1 : Int32)), .val (.int (0 : Int32)), .val (.int (1 : Int32)), .val (.ref b205)] []))
        refine own_pre (fun t k => XS.aload X255.here hx rfl (hb hby at_90) rfl rfl k) ?_
        show own_Ends _ _ _ _ (T255.setTop (mkF m 92 #[.val (.int p0), .val (.int p1), .val (.int p2), .val (.int (1 : Int32)), .val (.int (0 : Int32)), .val (.int (1 : Int32)), .val (.ref b205)] [(.ref b205)]))
        obtain ⟨cq259, kq259, q259a, q259b, q259c⟩ := isOf hZ rfl f256
        obtain ⟨_, _, ⟨T259, L259, k259, n259⟩, -, X259, ⟨Lc259, hQ259, l259, y259, z259⟩, st259⟩ := X255.virtualBack hx (y := (⟨"com/example/mursyn/mursyn/synthesis/SuccessorLists", "close", "()V"⟩ : MethodName)) (z := (⟨"com/example/mursyn/mursyn/synthesis/SuccessorLists", "close", "()V"⟩ : MethodName)) hown (mvT hZ (hw _ (List.mem_of_getElem? (i := 14) rfl))) (mvT hZ (hw _ (List.mem_of_getElem? (i := 15) rfl))) (notFace_of_selects (args := #[]) (mvT hZ (hw _ (List.mem_of_getElem? (i := 17) rfl)))) (mvT hZ (hw _ (List.mem_of_getElem? (i := 17) rfl))) (mvT hZ (hw _ (List.mem_of_getElem? (i := 16) rfl))) (by decide) (backOf (W := 0) (rm3 l Z a0 hw [] b205 bf212 bt212 (1 : Int32) (1 : Int32) kf212 [(.int (0 : Int32)), (.int (1 : Int32)), (.int (0 : Int32)), (.int (0 : Int32)), (.int (0 : Int32)), (.int (0 : Int32)), (.int (0 : Int32)), (.int (0 : Int32)), (.int (0 : Int32)), (.int (0 : Int32)), (.int (0 : Int32)), (.int (0 : Int32)), (.int (0 : Int32)), (.int (0 : Int32)), (.int (0 : Int32)), (.int (0 : Int32)), (.int (0 : Int32))]  T255.heap n0 Zn255 f256 L206 la212 na212 fa255 fb255 fc255 fd255 vv255 (by decide) ⟨by decide, by decide⟩ (Nat.le_of_ble_eq_true rfl)) hZ (hw _ (List.mem_of_getElem? (i := 18) rfl)) (hw _ (List.mem_of_getElem? (i := 2) rfl)) (by decide) (by decide)) q259a q259c (g := (mkF m 92 #[.val (.int p0), .val (.int p1), .val (.int p2), .val (.int (1 : Int32)), .val (.int (0 : Int32)), .val (.int (1 : Int32)), .val (.ref b205)] [(.ref b205)])) rfl (by rw [hml]; rfl) (Steps.refl _) (argsL := []) (rest := []) (lenOf own_pd0 rfl) rfl (by show 2 * 0 + _ ≤ _; exact Nat.le_of_eq rfl) (hb hby at_92) (fun _ _ => ⟨rfl, rfl, (by decide : 3 + 0 ≤ _), (by decide : 37 + 0 ≤ _)⟩)
        dsimp only [Pt.U, Pt.locs, Pt.cells, Pt.slots] at X259 l259 y259 z259 st259 hQ259
        subst l259 y259 z259
        obtain ⟨rfl, Nq259, Kq259, fa259, fb259, fc259, fd259, vv259⟩ := hQ259
        have N259 := Fr.app N255 Nq259
        have f260 := f256.keep Kq259
        have f261 := f257.keep Kq259 (ninS (Ne.symm nb212) (ninS (Ne.symm nc212) nin0))
        have Zn259 : n0 ≤ T259.heap.size := Nat.le_trans Zn255 Kq259.1
        have fa259 : Fld Z T259.heap b205 "com/example/mursyn/mursyn/synthesis/SuccessorLists" "first" "[I" (.ref bf212) := fa259
        have fb259 : Fld Z T259.heap b205 "com/example/mursyn/mursyn/synthesis/SuccessorLists" "targets" "[I" (.ref bt212) := fb259
        have fc259 : Fld Z T259.heap b205 "com/example/mursyn/mursyn/synthesis/SuccessorLists" "edgeCount" "I" (.int (1 : Int32)) := fc259
        have fd259 : Fld Z T259.heap b205 "com/example/mursyn/mursyn/synthesis/SuccessorLists" "listed" "I" (.int (2 : Int32)) := fd259
        have vv259 : Arv Z T259.heap bf212 kf212 .int (17 : Int32) [(.int (0 : Int32)), (.int (1 : Int32)), (.int (1 : Int32)), (.int (0 : Int32)), (.int (0 : Int32)), (.int (0 : Int32)), (.int (0 : Int32)), (.int (0 : Int32)), (.int (0 : Int32)), (.int (0 : Int32)), (.int (0 : Int32)), (.int (0 : Int32)), (.int (0 : Int32)), (.int (0 : Int32)), (.int (0 : Int32)), (.int (0 : Int32)), (.int (0 : Int32))] (.int (0 : Int32)) := vv259
        refine own_pre (fun t k => st259.trans k) ?_
        show own_Ends _ _ _ _ (T259.setTop (mkF m 95 #[.val (.int p0), .val (.int p1), .val (.int p2), .val (.int (1 : Int32)), .val (.int (0 : Int32)), .val (.int (1 : Int32)), .val (.ref b205)] []))
        refine own_pre (fun t k => XS.iload X259.here hx rfl (hb hby at_95) rfl k) ?_
        show own_Ends _ _ _ _ (T259.setTop (mkF m 97 #[.val (.int p0), .val (.int p1), .val (.int p2), .val (.int (1 : Int32)), .val (.int (0 : Int32)), .val (.int (1 : Int32)), .val (.ref b205)] [(.int (1 : Int32))]))
        refine own_pre (fun t k => XS.ifNo X259.here hx rfl (hb hby at_97) rfl ((if0 _ _).trans (feq ((by decide) : ¬ ((1 : Int32) = (0 : Int32)))).1) k) ?_
        show own_Ends _ _ _ _ (T259.setTop (mkF m 100 #[.val (.int p0), .val (.int p1), .val (.int p2), .val (.int (1 : Int32)), .val (.int (0 : Int32)), .val (.int (1 : Int32)), .val (.ref b205)] []))
        refine own_pre (fun t k => XS.aload X259.here hx rfl (hb hby at_100) rfl rfl k) ?_
        show own_Ends _ _ _ _ (T259.setTop (mkF m 102 #[.val (.int p0), .val (.int p1), .val (.int p2), .val (.int (1 : Int32)), .val (.int (0 : Int32)), .val (.int (1 : Int32)), .val (.ref b205)] [(.ref b205)]))
        refine own_pre (fun t k => XS.iloadN X259.here hx rfl (hb hby at_102) rfl k) ?_
        show own_Ends _ _ _ _ (T259.setTop (mkF m 103 #[.val (.int p0), .val (.int p1), .val (.int p2), .val (.int (1 : Int32)), .val (.int (0 : Int32)), .val (.int (1 : Int32)), .val (.ref b205)] [(.int p1), (.ref b205)]))
        obtain ⟨cq262, kq262, q262a, q262b, q262c⟩ := isOf hZ rfl f260
        obtain ⟨_, _, ⟨T262, L262, k262, n262⟩, -, X262, ⟨Lc262, hQ262, l262, y262, z262⟩, st262⟩ := X259.virtualBack hx (y := (⟨"com/example/mursyn/mursyn/synthesis/SuccessorLists", "add", "(I)V"⟩ : MethodName)) (z := (⟨"com/example/mursyn/mursyn/synthesis/SuccessorLists", "add", "(I)V"⟩ : MethodName)) hown (mvT hZ (hw _ (List.mem_of_getElem? (i := 28) rfl))) (mvT hZ (hw _ (List.mem_of_getElem? (i := 29) rfl))) (notFace_of_selects (args := #[]) (mvT hZ (hw _ (List.mem_of_getElem? (i := 31) rfl)))) (mvT hZ (hw _ (List.mem_of_getElem? (i := 31) rfl))) (mvT hZ (hw _ (List.mem_of_getElem? (i := 30) rfl))) (by decide) (backOf (W := 0) (rm2 l Z a0 hw [] b205 p1 bf212 bt212 (1 : Int32) (2 : Int32) kt212 [(.int p1), (.int (0 : Int32)), (.int (0 : Int32)), (.int (0 : Int32)), (.int (0 : Int32)), (.int (0 : Int32)), (.int (0 : Int32)), (.int (0 : Int32)), (.int (0 : Int32)), (.int (0 : Int32)), (.int (0 : Int32)), (.int (0 : Int32)), (.int (0 : Int32)), (.int (0 : Int32)), (.int (0 : Int32)), (.int (0 : Int32))]  T259.heap n0 Zn259 f260 L206 lb212 nb212 fa259 fb259 fc259 fd259 f261 (by decide) ⟨by decide, by decide⟩ (Nat.le_of_ble_eq_true rfl)) hZ (hw _ (List.mem_of_getElem? (i := 32) rfl)) (hw _ (List.mem_of_getElem? (i := 2) rfl)) (by decide) (by decide)) q262a q262c (g := (mkF m 103 #[.val (.int p0), .val (.int p1), .val (.int p2), .val (.int (1 : Int32)), .val (.int (0 : Int32)), .val (.int (1 : Int32)), .val (.ref b205)] [(.int p1), (.ref b205)])) rfl (by rw [hml]; rfl) (Steps.refl _) (argsL := [(.int p1)]) (rest := []) (lenOf own_pd2 rfl) rfl (by show 2 * 0 + _ ≤ _; exact Nat.le_of_eq rfl) (hb hby at_103) (fun _ _ => ⟨rfl, rfl, (by decide : 3 + 0 ≤ _), (by decide : 37 + 0 ≤ _)⟩)
        dsimp only [Pt.U, Pt.locs, Pt.cells, Pt.slots] at X262 l262 y262 z262 st262 hQ262
        subst l262 y262 z262
        obtain ⟨rfl, Nq262, Kq262, fa262, fb262, fc262, fd262, vv262⟩ := hQ262
        have N262 := Fr.app N259 Nq262
        have f263 := f260.keep Kq262
        have f264 := vv259.keep Kq262 (ninS (Ne.symm na212) (ninS nc212 nin0))
        have Zn262 : n0 ≤ T262.heap.size := Nat.le_trans Zn259 Kq262.1
        have fa262 : Fld Z T262.heap b205 "com/example/mursyn/mursyn/synthesis/SuccessorLists" "first" "[I" (.ref bf212) := fa262
        have fb262 : Fld Z T262.heap b205 "com/example/mursyn/mursyn/synthesis/SuccessorLists" "targets" "[I" (.ref bt212) := fb262
        have fc262 : Fld Z T262.heap b205 "com/example/mursyn/mursyn/synthesis/SuccessorLists" "edgeCount" "I" (.int (2 : Int32)) := fc262
        have fd262 : Fld Z T262.heap b205 "com/example/mursyn/mursyn/synthesis/SuccessorLists" "listed" "I" (.int (2 : Int32)) := fd262
        have vv262 : Arv Z T262.heap bt212 kt212 .int (16 : Int32) [(.int p1), (.int p1), (.int (0 : Int32)), (.int (0 : Int32)), (.int (0 : Int32)), (.int (0 : Int32)), (.int (0 : Int32)), (.int (0 : Int32)), (.int (0 : Int32)), (.int (0 : Int32)), (.int (0 : Int32)), (.int (0 : Int32)), (.int (0 : Int32)), (.int (0 : Int32)), (.int (0 : Int32)), (.int (0 : Int32))] (.int (0 : Int32)) := vv262
        refine own_pre (fun t k => st262.trans k) ?_
        show own_Ends _ _ _ _ (T262.setTop (mkF m 106 #[.val (.int p0), .val (.int p1), .val (.int p2), .val (.int (1 : Int32)), .val (.int (0 : Int32)), .val (.int (1 : Int32)), .val (.ref b205)] []))
        refine own_pre (fun t k => XS.aload X262.here hx rfl (hb hby at_106) rfl rfl k) ?_
        show own_Ends _ _ _ _ (T262.setTop (mkF m 108 #[.val (.int p0), .val (.int p1), .val (.int p2), .val (.int (1 : Int32)), .val (.int (0 : Int32)), .val (.int (1 : Int32)), .val (.ref b205)] [(.ref b205)]))
        refine own_pre (fun t k => XS.iconst X262.here hx rfl (hb hby at_108) k) ?_
        show own_Ends _ _ _ _ (T262.setTop (mkF m 109 #[.val (.int p0), .val (.int p1), .val (.int p2), .val (.int (1 : Int32)), .val (.int (0 : Int32)), .val (.int (1 : Int32)), .val (.ref b205)] [(.int (0 : Int32)), (.ref b205)]))
        obtain ⟨cq265, kq265, q265a, q265b, q265c⟩ := isOf hZ rfl f263
        obtain ⟨_, _, ⟨T265, L265, k265, n265⟩, -, X265, ⟨Lc265, hQ265, l265, y265, z265⟩, st265⟩ := X262.virtualBack hx (y := (⟨"com/example/mursyn/mursyn/synthesis/SuccessorLists", "count", "(I)I"⟩ : MethodName)) (z := (⟨"com/example/mursyn/mursyn/synthesis/SuccessorLists", "count", "(I)I"⟩ : MethodName)) hown (mvT hZ (hw _ (List.mem_of_getElem? (i := 23) rfl))) (mvT hZ (hw _ (List.mem_of_getElem? (i := 24) rfl))) (notFace_of_selects (args := #[]) (mvT hZ (hw _ (List.mem_of_getElem? (i := 26) rfl)))) (mvT hZ (hw _ (List.mem_of_getElem? (i := 26) rfl))) (mvT hZ (hw _ (List.mem_of_getElem? (i := 25) rfl))) (by decide) (backOf (W := 0) (rm4 l Z a0 hw [] b205 (0 : Int32) bf212 kf212 [(.int (0 : Int32)), (.int (1 : Int32)), (.int (1 : Int32)), (.int (0 : Int32)), (.int (0 : Int32)), (.int (0 : Int32)), (.int (0 : Int32)), (.int (0 : Int32)), (.int (0 : Int32)), (.int (0 : Int32)), (.int (0 : Int32)), (.int (0 : Int32)), (.int (0 : Int32)), (.int (0 : Int32)), (.int (0 : Int32)), (.int (0 : Int32)), (.int (0 : Int32))] (1 : Int32) (0 : Int32) T262.heap n0 Zn262 fa262 f264 ⟨by decide, by decide⟩ rfl ⟨by decide, by decide⟩ rfl) hZ (hw _ (List.mem_of_getElem? (i := 27) rfl)) (hw _ (List.mem_of_getElem? (i := 2) rfl)) (by decide) (by decide)) q265a q265c (g := (mkF m 109 #[.val (.int p0), .val (.int p1), .val (.int p2), .val (.int (1 : Int32)), .val (.int (0 : Int32)), .val (.int (1 : Int32)), .val (.ref b205)] [(.int (0 : Int32)), (.ref b205)])) rfl (by rw [hml]; rfl) (Steps.refl _) (argsL := [(.int (0 : Int32))]) (rest := []) (lenOf own_pd1 rfl) rfl (by show 2 * 0 + _ ≤ _; exact Nat.le_of_eq rfl) (hb hby at_109) (fun _ _ => ⟨rfl, rfl, (by decide : 3 + 0 ≤ _), (by decide : 37 + 0 ≤ _)⟩)
        dsimp only [Pt.U, Pt.locs, Pt.cells, Pt.slots] at X265 l265 y265 z265 st265 hQ265
        subst l265 y265 z265
        obtain ⟨rfl, Nq265, e265⟩ := hQ265
        have N265 := Fr.app N262 Nq265
        refine own_pre (fun t k => st265.trans k) ?_
        show own_Ends _ _ _ _ (T265.setTop (mkF m 112 #[.val (.int p0), .val (.int p1), .val (.int p2), .val (.int (1 : Int32)), .val (.int (0 : Int32)), .val (.int (1 : Int32)), .val (.ref b205)] [(.int (1 : Int32))]))
        refine own_pre (fun t k => XS.iloadN X265.here hx rfl (hb hby at_112) rfl k) ?_
        show own_Ends _ _ _ _ (T265.setTop (mkF m 113 #[.val (.int p0), .val (.int p1), .val (.int p2), .val (.int (1 : Int32)), .val (.int (0 : Int32)), .val (.int (1 : Int32)), .val (.ref b205)] [(.int (1 : Int32)), (.int (1 : Int32))]))
        refine own_pre (fun t k => XS.icmpNo X265.here hx rfl (hb hby at_113) rfl (teq ((by decide) : (1 : Int32) = (1 : Int32))).2 k) ?_
        show own_Ends _ _ _ _ (T265.setTop (mkF m 116 #[.val (.int p0), .val (.int p1), .val (.int p2), .val (.int (1 : Int32)), .val (.int (0 : Int32)), .val (.int (1 : Int32)), .val (.ref b205)] []))
        refine own_pre (fun t k => XS.aload X265.here hx rfl (hb hby at_116) rfl rfl k) ?_
        show own_Ends _ _ _ _ (T265.setTop (mkF m 118 #[.val (.int p0), .val (.int p1), .val (.int p2), .val (.int (1 : Int32)), .val (.int (0 : Int32)), .val (.int (1 : Int32)), .val (.ref b205)] [(.ref b205)]))
        refine own_pre (fun t k => XS.iconst X265.here hx rfl (hb hby at_118) k) ?_
        show own_Ends _ _ _ _ (T265.setTop (mkF m 119 #[.val (.int p0), .val (.int p1), .val (.int p2), .val (.int (1 : Int32)), .val (.int (0 : Int32)), .val (.int (1 : Int32)), .val (.ref b205)] [(.int (1 : Int32)), (.ref b205)]))
        obtain ⟨cq266, kq266, q266a, q266b, q266c⟩ := isOf hZ e265 f263
        obtain ⟨_, _, ⟨T266, L266, k266, n266⟩, -, X266, ⟨Lc266, hQ266, l266, y266, z266⟩, st266⟩ := X265.virtualBack hx (y := (⟨"com/example/mursyn/mursyn/synthesis/SuccessorLists", "count", "(I)I"⟩ : MethodName)) (z := (⟨"com/example/mursyn/mursyn/synthesis/SuccessorLists", "count", "(I)I"⟩ : MethodName)) hown (mvT hZ (hw _ (List.mem_of_getElem? (i := 23) rfl))) (mvT hZ (hw _ (List.mem_of_getElem? (i := 24) rfl))) (notFace_of_selects (args := #[]) (mvT hZ (hw _ (List.mem_of_getElem? (i := 26) rfl)))) (mvT hZ (hw _ (List.mem_of_getElem? (i := 26) rfl))) (mvT hZ (hw _ (List.mem_of_getElem? (i := 25) rfl))) (by decide) (backOf (W := 0) (rm4 l Z a0 hw [] b205 (1 : Int32) bf212 kf212 [(.int (0 : Int32)), (.int (1 : Int32)), (.int (1 : Int32)), (.int (0 : Int32)), (.int (0 : Int32)), (.int (0 : Int32)), (.int (0 : Int32)), (.int (0 : Int32)), (.int (0 : Int32)), (.int (0 : Int32)), (.int (0 : Int32)), (.int (0 : Int32)), (.int (0 : Int32)), (.int (0 : Int32)), (.int (0 : Int32)), (.int (0 : Int32)), (.int (0 : Int32))] (1 : Int32) (1 : Int32) T262.heap n0 Zn262 fa262 f264 ⟨by decide, by decide⟩ rfl ⟨by decide, by decide⟩ rfl) hZ (hw _ (List.mem_of_getElem? (i := 27) rfl)) (hw _ (List.mem_of_getElem? (i := 2) rfl)) (by decide) (by decide)) q266a q266c (g := (mkF m 119 #[.val (.int p0), .val (.int p1), .val (.int p2), .val (.int (1 : Int32)), .val (.int (0 : Int32)), .val (.int (1 : Int32)), .val (.ref b205)] [(.int (1 : Int32)), (.ref b205)])) rfl (by rw [hml]; rfl) (Steps.refl _) (argsL := [(.int (1 : Int32))]) (rest := []) (lenOf own_pd1 rfl) rfl (by show 2 * 0 + _ ≤ _; exact Nat.le_of_eq rfl) (hb hby at_119) (fun _ _ => ⟨rfl, e265, (by decide : 3 + 0 ≤ _), (by decide : 37 + 0 ≤ _)⟩)
        dsimp only [Pt.U, Pt.locs, Pt.cells, Pt.slots] at X266 l266 y266 z266 st266 hQ266
        subst l266 y266 z266
        obtain ⟨rfl, Nq266, e266⟩ := hQ266
        have N266 := Fr.app N265 Nq266
        refine own_pre (fun t k => st266.trans k) ?_
        show own_Ends _ _ _ _ (T266.setTop (mkF m 122 #[.val (.int p0), .val (.int p1), .val (.int p2), .val (.int (1 : Int32)), .val (.int (0 : Int32)), .val (.int (1 : Int32)), .val (.ref b205)] [(.int (0 : Int32))]))
        refine own_pre (fun t k => XS.iload X266.here hx rfl (hb hby at_122) rfl k) ?_
        show own_Ends _ _ _ _ (T266.setTop (mkF m 124 #[.val (.int p0), .val (.int p1), .val (.int p2), .val (.int (1 : Int32)), .val (.int (0 : Int32)), .val (.int (1 : Int32)), .val (.ref b205)] [(.int (0 : Int32)), (.int (0 : Int32))]))
        refine own_pre (fun t k => XS.icmpNo X266.here hx rfl (hb hby at_124) rfl (teq ((by decide) : (0 : Int32) = (0 : Int32))).2 k) ?_
        show own_Ends _ _ _ _ (T266.setTop (mkF m 127 #[.val (.int p0), .val (.int p1), .val (.int p2), .val (.int (1 : Int32)), .val (.int (0 : Int32)), .val (.int (1 : Int32)), .val (.ref b205)] []))
        refine own_pre (fun t k => XS.iconst X266.here hx rfl (hb hby at_127) k) ?_
        show own_Ends _ _ _ _ (T266.setTop (mkF m 128 #[.val (.int p0), .val (.int p1), .val (.int p2), .val (.int (1 : Int32)), .val (.int (0 : Int32)), .val (.int (1 : Int32)), .val (.ref b205)] [(.int (1 : Int32))]))
        refine own_pre (fun t k => XS.goto X266.here hx rfl (pc0 := 128) (pc' := 132) rfl (hb hby at_128) (by decide) (by decide) k) ?_
        show own_Ends _ _ _ _ (T266.setTop (mkF m 132 #[.val (.int p0), .val (.int p1), .val (.int p2), .val (.int (1 : Int32)), .val (.int (0 : Int32)), .val (.int (1 : Int32)), .val (.ref b205)] [(.int (1 : Int32))]))
        exact own_retN X266 hx (t := .boolean) Bd.returns (by simp) (hb hby at_132) hlk rfl e266 ⟨rfl, N266⟩ (by decide) (by decide)
      · subst hs258
        show own_Ends _ _ _ _ (T255.setTop (mkF m 66 #[.val (.int p0), .val (.int p1), .val (.int p2), .val (.int (1 : Int32)), .val (.int (1 : Int32)), .val (.int (1 : Int32)), .val (.ref b205)] []))
        refine own_pre (fun t k => XS.iload X255.here hx rfl (hb hby at_66) rfl k) ?_
        show own_Ends _ _ _ _ (T255.setTop (mkF m 68 #[.val (.int p0), .val (.int p1), .val (.int p2), .val (.int (1 : Int32)), .val (.int (1 : Int32)), .val (.int (1 : Int32)), .val (.ref b205)] [(.int (1 : Int32))]))
        refine own_pre (fun t k => XS.iconst X255.here hx rfl (hb hby at_68) k) ?_
        show own_Ends _ _ _ _ (T255.setTop (mkF m 69 #[.val (.int p0), .val (.int p1), .val (.int p2), .val (.int (1 : Int32)), .val (.int (1 : Int32)), .val (.int (1 : Int32)), .val (.ref b205)] [(.int (1 : Int32)), (.int (1 : Int32))]))
        refine own_pre (fun t k => XS.icmpNo X255.here hx rfl (hb hby at_69) rfl (flt ((by decide) : ¬ ((1 : Int32) < (1 : Int32)))).1 k) ?_
        show own_Ends _ _ _ _ (T255.setTop (mkF m 72 #[.val (.int p0), .val (.int p1), .val (.int p2), .val (.int (1 : Int32)), .val (.int (1 : Int32)), .val (.int (1 : Int32)), .val (.ref b205)] []))
        refine own_pre (fun t k => XS.aload X255.here hx rfl (hb hby at_72) rfl rfl k) ?_
        show own_Ends _ _ _ _ (T255.setTop (mkF m 74 #[.val (.int p0), .val (.int p1), .val (.int p2), .val (.int (1 : Int32)), .val (.int (1 : Int32)), .val (.int (1 : Int32)), .val (.ref b205)] [(.ref b205)]))
        refine own_pre (fun t k => XS.iloadN X255.here hx rfl (hb hby at_74) rfl k) ?_
        show own_Ends _ _ _ _ (T255.setTop (mkF m 75 #[.val (.int p0), .val (.int p1), .val (.int p2), .val (.int (1 : Int32)), .val (.int (1 : Int32)), .val (.int (1 : Int32)), .val (.ref b205)] [(.int p2), (.ref b205)]))
        obtain ⟨cq267, kq267, q267a, q267b, q267c⟩ := isOf hZ rfl f256
        obtain ⟨_, _, ⟨T267, L267, k267, n267⟩, -, X267, ⟨Lc267, hQ267, l267, y267, z267⟩, st267⟩ := X255.virtualBack hx (y := (⟨"com/example/mursyn/mursyn/synthesis/SuccessorLists", "add", "(I)V"⟩ : MethodName)) (z := (⟨"com/example/mursyn/mursyn/synthesis/SuccessorLists", "add", "(I)V"⟩ : MethodName)) hown (mvT hZ (hw _ (List.mem_of_getElem? (i := 28) rfl))) (mvT hZ (hw _ (List.mem_of_getElem? (i := 29) rfl))) (notFace_of_selects (args := #[]) (mvT hZ (hw _ (List.mem_of_getElem? (i := 31) rfl)))) (mvT hZ (hw _ (List.mem_of_getElem? (i := 31) rfl))) (mvT hZ (hw _ (List.mem_of_getElem? (i := 30) rfl))) (by decide) (backOf (W := 0) (rm2 l Z a0 hw [] b205 p2 bf212 bt212 (1 : Int32) (1 : Int32) kt212 [(.int p1), (.int (0 : Int32)), (.int (0 : Int32)), (.int (0 : Int32)), (.int (0 : Int32)), (.int (0 : Int32)), (.int (0 : Int32)), (.int (0 : Int32)), (.int (0 : Int32)), (.int (0 : Int32)), (.int (0 : Int32)), (.int (0 : Int32)), (.int (0 : Int32)), (.int (0 : Int32)), (.int (0 : Int32)), (.int (0 : Int32))]  T255.heap n0 Zn255 f256 L206 lb212 nb212 fa255 fb255 fc255 fd255 f257 (by decide) ⟨by decide, by decide⟩ (Nat.le_of_ble_eq_true rfl)) hZ (hw _ (List.mem_of_getElem? (i := 32) rfl)) (hw _ (List.mem_of_getElem? (i := 2) rfl)) (by decide) (by decide)) q267a q267c (g := (mkF m 75 #[.val (.int p0), .val (.int p1), .val (.int p2), .val (.int (1 : Int32)), .val (.int (1 : Int32)), .val (.int (1 : Int32)), .val (.ref b205)] [(.int p2), (.ref b205)])) rfl (by rw [hml]; rfl) (Steps.refl _) (argsL := [(.int p2)]) (rest := []) (lenOf own_pd2 rfl) rfl (by show 2 * 0 + _ ≤ _; exact Nat.le_of_eq rfl) (hb hby at_75) (fun _ _ => ⟨rfl, rfl, (by decide : 3 + 0 ≤ _), (by decide : 37 + 0 ≤ _)⟩)
        dsimp only [Pt.U, Pt.locs, Pt.cells, Pt.slots] at X267 l267 y267 z267 st267 hQ267
        subst l267 y267 z267
        obtain ⟨rfl, Nq267, Kq267, fa267, fb267, fc267, fd267, vv267⟩ := hQ267
        have N267 := Fr.app N255 Nq267
        have f268 := f256.keep Kq267
        have f269 := vv255.keep Kq267 (ninS (Ne.symm na212) (ninS nc212 nin0))
        have Zn267 : n0 ≤ T267.heap.size := Nat.le_trans Zn255 Kq267.1
        have fa267 : Fld Z T267.heap b205 "com/example/mursyn/mursyn/synthesis/SuccessorLists" "first" "[I" (.ref bf212) := fa267
        have fb267 : Fld Z T267.heap b205 "com/example/mursyn/mursyn/synthesis/SuccessorLists" "targets" "[I" (.ref bt212) := fb267
        have fc267 : Fld Z T267.heap b205 "com/example/mursyn/mursyn/synthesis/SuccessorLists" "edgeCount" "I" (.int (2 : Int32)) := fc267
        have fd267 : Fld Z T267.heap b205 "com/example/mursyn/mursyn/synthesis/SuccessorLists" "listed" "I" (.int (1 : Int32)) := fd267
        have vv267 : Arv Z T267.heap bt212 kt212 .int (16 : Int32) [(.int p1), (.int p2), (.int (0 : Int32)), (.int (0 : Int32)), (.int (0 : Int32)), (.int (0 : Int32)), (.int (0 : Int32)), (.int (0 : Int32)), (.int (0 : Int32)), (.int (0 : Int32)), (.int (0 : Int32)), (.int (0 : Int32)), (.int (0 : Int32)), (.int (0 : Int32)), (.int (0 : Int32)), (.int (0 : Int32))] (.int (0 : Int32)) := vv267
        refine own_pre (fun t k => st267.trans k) ?_
        show own_Ends _ _ _ _ (T267.setTop (mkF m 78 #[.val (.int p0), .val (.int p1), .val (.int p2), .val (.int (1 : Int32)), .val (.int (1 : Int32)), .val (.int (1 : Int32)), .val (.ref b205)] []))
        refine own_pre (fun t k => XS.iload X267.here hx rfl (hb hby at_78) rfl k) ?_
        show own_Ends _ _ _ _ (T267.setTop (mkF m 80 #[.val (.int p0), .val (.int p1), .val (.int p2), .val (.int (1 : Int32)), .val (.int (1 : Int32)), .val (.int (1 : Int32)), .val (.ref b205)] [(.int (1 : Int32))]))
        refine own_pre (fun t k => XS.iconst X267.here hx rfl (hb hby at_80) k) ?_
        show own_Ends _ _ _ _ (T267.setTop (mkF m 81 #[.val (.int p0), .val (.int p1), .val (.int p2), .val (.int (1 : Int32)), .val (.int (1 : Int32)), .val (.int (1 : Int32)), .val (.ref b205)] [(.int (2 : Int32)), (.int (1 : Int32))]))
        refine own_pre (fun t k => XS.icmpYes X267.here hx rfl (pc0 := 81) (pc' := 90) rfl (hb hby at_81) rfl (tlt ((by decide) : (1 : Int32) < (2 : Int32))).1 (by decide) (by decide) k) ?_
        show own_Ends _ _ _ _ (T267.setTop (mkF m 90 #[.val (.int p0), .val (.int p1), .val (.int p2), .val (.int (1 : Int32)), .val (.int (1 : Int32)), .val (.int (1 : Int32)), .val (.ref b205)] []))
        refine own_pre (fun t k => XS.aload X267.here hx rfl (hb hby at_90) rfl rfl k) ?_
        show own_Ends _ _ _ _ (T267.setTop (mkF m 92 #[.val (.int p0), .val (.int p1), .val (.int p2), .val (.int (1 : Int32)), .val (.int (1 : Int32)), .val (.int (1 : Int32)), .val (.ref b205)] [(.ref b205)]))
        obtain ⟨cq270, kq270, q270a, q270b, q270c⟩ := isOf hZ rfl f268
        obtain ⟨_, _, ⟨T270, L270, k270, n270⟩, -, X270, ⟨Lc270, hQ270, l270, y270, z270⟩, st270⟩ := X267.virtualBack hx (y := (⟨"com/example/mursyn/mursyn/synthesis/SuccessorLists", "close", "()V"⟩ : MethodName)) (z := (⟨"com/example/mursyn/mursyn/synthesis/SuccessorLists", "close", "()V"⟩ : MethodName)) hown (mvT hZ (hw _ (List.mem_of_getElem? (i := 14) rfl))) (mvT hZ (hw _ (List.mem_of_getElem? (i := 15) rfl))) (notFace_of_selects (args := #[]) (mvT hZ (hw _ (List.mem_of_getElem? (i := 17) rfl)))) (mvT hZ (hw _ (List.mem_of_getElem? (i := 17) rfl))) (mvT hZ (hw _ (List.mem_of_getElem? (i := 16) rfl))) (by decide) (backOf (W := 0) (rm3 l Z a0 hw [] b205 bf212 bt212 (2 : Int32) (1 : Int32) kf212 [(.int (0 : Int32)), (.int (1 : Int32)), (.int (0 : Int32)), (.int (0 : Int32)), (.int (0 : Int32)), (.int (0 : Int32)), (.int (0 : Int32)), (.int (0 : Int32)), (.int (0 : Int32)), (.int (0 : Int32)), (.int (0 : Int32)), (.int (0 : Int32)), (.int (0 : Int32)), (.int (0 : Int32)), (.int (0 : Int32)), (.int (0 : Int32)), (.int (0 : Int32))]  T267.heap n0 Zn267 f268 L206 la212 na212 fa267 fb267 fc267 fd267 f269 (by decide) ⟨by decide, by decide⟩ (Nat.le_of_ble_eq_true rfl)) hZ (hw _ (List.mem_of_getElem? (i := 18) rfl)) (hw _ (List.mem_of_getElem? (i := 2) rfl)) (by decide) (by decide)) q270a q270c (g := (mkF m 92 #[.val (.int p0), .val (.int p1), .val (.int p2), .val (.int (1 : Int32)), .val (.int (1 : Int32)), .val (.int (1 : Int32)), .val (.ref b205)] [(.ref b205)])) rfl (by rw [hml]; rfl) (Steps.refl _) (argsL := []) (rest := []) (lenOf own_pd0 rfl) rfl (by show 2 * 0 + _ ≤ _; exact Nat.le_of_eq rfl) (hb hby at_92) (fun _ _ => ⟨rfl, rfl, (by decide : 3 + 0 ≤ _), (by decide : 37 + 0 ≤ _)⟩)
        dsimp only [Pt.U, Pt.locs, Pt.cells, Pt.slots] at X270 l270 y270 z270 st270 hQ270
        subst l270 y270 z270
        obtain ⟨rfl, Nq270, Kq270, fa270, fb270, fc270, fd270, vv270⟩ := hQ270
        have N270 := Fr.app N267 Nq270
        have f271 := f268.keep Kq270
        have f272 := vv267.keep Kq270 (ninS (Ne.symm nb212) (ninS (Ne.symm nc212) nin0))
        have Zn270 : n0 ≤ T270.heap.size := Nat.le_trans Zn267 Kq270.1
        have fa270 : Fld Z T270.heap b205 "com/example/mursyn/mursyn/synthesis/SuccessorLists" "first" "[I" (.ref bf212) := fa270
        have fb270 : Fld Z T270.heap b205 "com/example/mursyn/mursyn/synthesis/SuccessorLists" "targets" "[I" (.ref bt212) := fb270
        have fc270 : Fld Z T270.heap b205 "com/example/mursyn/mursyn/synthesis/SuccessorLists" "edgeCount" "I" (.int (2 : Int32)) := fc270
        have fd270 : Fld Z T270.heap b205 "com/example/mursyn/mursyn/synthesis/SuccessorLists" "listed" "I" (.int (2 : Int32)) := fd270
        have vv270 : Arv Z T270.heap bf212 kf212 .int (17 : Int32) [(.int (0 : Int32)), (.int (1 : Int32)), (.int (2 : Int32)), (.int (0 : Int32)), (.int (0 : Int32)), (.int (0 : Int32)), (.int (0 : Int32)), (.int (0 : Int32)), (.int (0 : Int32)), (.int (0 : Int32)), (.int (0 : Int32)), (.int (0 : Int32)), (.int (0 : Int32)), (.int (0 : Int32)), (.int (0 : Int32)), (.int (0 : Int32)), (.int (0 : Int32))] (.int (0 : Int32)) := vv270
        refine own_pre (fun t k => st270.trans k) ?_
        show own_Ends _ _ _ _ (T270.setTop (mkF m 95 #[.val (.int p0), .val (.int p1), .val (.int p2), .val (.int (1 : Int32)), .val (.int (1 : Int32)), .val (.int (1 : Int32)), .val (.ref b205)] []))
        refine own_pre (fun t k => XS.iload X270.here hx rfl (hb hby at_95) rfl k) ?_
        show own_Ends _ _ _ _ (T270.setTop (mkF m 97 #[.val (.int p0), .val (.int p1), .val (.int p2), .val (.int (1 : Int32)), .val (.int (1 : Int32)), .val (.int (1 : Int32)), .val (.ref b205)] [(.int (1 : Int32))]))
        refine own_pre (fun t k => XS.ifNo X270.here hx rfl (hb hby at_97) rfl ((if0 _ _).trans (feq ((by decide) : ¬ ((1 : Int32) = (0 : Int32)))).1) k) ?_
        show own_Ends _ _ _ _ (T270.setTop (mkF m 100 #[.val (.int p0), .val (.int p1), .val (.int p2), .val (.int (1 : Int32)), .val (.int (1 : Int32)), .val (.int (1 : Int32)), .val (.ref b205)] []))
        refine own_pre (fun t k => XS.aload X270.here hx rfl (hb hby at_100) rfl rfl k) ?_
        show own_Ends _ _ _ _ (T270.setTop (mkF m 102 #[.val (.int p0), .val (.int p1), .val (.int p2), .val (.int (1 : Int32)), .val (.int (1 : Int32)), .val (.int (1 : Int32)), .val (.ref b205)] [(.ref b205)]))
        refine own_pre (fun t k => XS.iloadN X270.here hx rfl (hb hby at_102) rfl k) ?_
        show own_Ends _ _ _ _ (T270.setTop (mkF m 103 #[.val (.int p0), .val (.int p1), .val (.int p2), .val (.int (1 : Int32)), .val (.int (1 : Int32)), .val (.int (1 : Int32)), .val (.ref b205)] [(.int p1), (.ref b205)]))
        obtain ⟨cq273, kq273, q273a, q273b, q273c⟩ := isOf hZ rfl f271
        obtain ⟨_, _, ⟨T273, L273, k273, n273⟩, -, X273, ⟨Lc273, hQ273, l273, y273, z273⟩, st273⟩ := X270.virtualBack hx (y := (⟨"com/example/mursyn/mursyn/synthesis/SuccessorLists", "add", "(I)V"⟩ : MethodName)) (z := (⟨"com/example/mursyn/mursyn/synthesis/SuccessorLists", "add", "(I)V"⟩ : MethodName)) hown (mvT hZ (hw _ (List.mem_of_getElem? (i := 28) rfl))) (mvT hZ (hw _ (List.mem_of_getElem? (i := 29) rfl))) (notFace_of_selects (args := #[]) (mvT hZ (hw _ (List.mem_of_getElem? (i := 31) rfl)))) (mvT hZ (hw _ (List.mem_of_getElem? (i := 31) rfl))) (mvT hZ (hw _ (List.mem_of_getElem? (i := 30) rfl))) (by decide) (backOf (W := 0) (rm2 l Z a0 hw [] b205 p1 bf212 bt212 (2 : Int32) (2 : Int32) kt212 [(.int p1), (.int p2), (.int (0 : Int32)), (.int (0 : Int32)), (.int (0 : Int32)), (.int (0 : Int32)), (.int (0 : Int32)), (.int (0 : Int32)), (.int (0 : Int32)), (.int (0 : Int32)), (.int (0 : Int32)), (.int (0 : Int32)), (.int (0 : Int32)), (.int (0 : Int32)), (.int (0 : Int32)), (.int (0 : Int32))]  T270.heap n0 Zn270 f271 L206 lb212 nb212 fa270 fb270 fc270 fd270 f272 (by decide) ⟨by decide, by decide⟩ (Nat.le_of_ble_eq_true rfl)) hZ (hw _ (List.mem_of_getElem? (i := 32) rfl)) (hw _ (List.mem_of_getElem? (i := 2) rfl)) (by decide) (by decide)) q273a q273c (g := (mkF m 103 #[.val (.int p0), .val (.int p1), .val (.int p2), .val (.int (1 : Int32)), .val (.int (1 : Int32)), .val (.int (1 : Int32)), .val (.ref b205)] [(.int p1), (.ref b205)])) rfl (by rw [hml]; rfl) (Steps.refl _) (argsL := [(.int p1)]) (rest := []) (lenOf own_pd2 rfl) rfl (by show 2 * 0 + _ ≤ _; exact Nat.le_of_eq rfl) (hb hby at_103) (fun _ _ => ⟨rfl, rfl, (by decide : 3 + 0 ≤ _), (by decide : 37 + 0 ≤ _)⟩)
        dsimp only [Pt.U, Pt.locs, Pt.cells, Pt.slots] at X273 l273 y273 z273 st273 hQ273
        subst l273 y273 z273
        obtain ⟨rfl, Nq273, Kq273, fa273, fb273, fc273, fd273, vv273⟩ := hQ273
        have N273 := Fr.app N270 Nq273
        have f274 := f271.keep Kq273
        have f275 := vv270.keep Kq273 (ninS (Ne.symm na212) (ninS nc212 nin0))
        have Zn273 : n0 ≤ T273.heap.size := Nat.le_trans Zn270 Kq273.1
        have fa273 : Fld Z T273.heap b205 "com/example/mursyn/mursyn/synthesis/SuccessorLists" "first" "[I" (.ref bf212) := fa273
        have fb273 : Fld Z T273.heap b205 "com/example/mursyn/mursyn/synthesis/SuccessorLists" "targets" "[I" (.ref bt212) := fb273
        have fc273 : Fld Z T273.heap b205 "com/example/mursyn/mursyn/synthesis/SuccessorLists" "edgeCount" "I" (.int (3 : Int32)) := fc273
        have fd273 : Fld Z T273.heap b205 "com/example/mursyn/mursyn/synthesis/SuccessorLists" "listed" "I" (.int (2 : Int32)) := fd273
        have vv273 : Arv Z T273.heap bt212 kt212 .int (16 : Int32) [(.int p1), (.int p2), (.int p1), (.int (0 : Int32)), (.int (0 : Int32)), (.int (0 : Int32)), (.int (0 : Int32)), (.int (0 : Int32)), (.int (0 : Int32)), (.int (0 : Int32)), (.int (0 : Int32)), (.int (0 : Int32)), (.int (0 : Int32)), (.int (0 : Int32)), (.int (0 : Int32)), (.int (0 : Int32))] (.int (0 : Int32)) := vv273
        refine own_pre (fun t k => st273.trans k) ?_
        show own_Ends _ _ _ _ (T273.setTop (mkF m 106 #[.val (.int p0), .val (.int p1), .val (.int p2), .val (.int (1 : Int32)), .val (.int (1 : Int32)), .val (.int (1 : Int32)), .val (.ref b205)] []))
        refine own_pre (fun t k => XS.aload X273.here hx rfl (hb hby at_106) rfl rfl k) ?_
        show own_Ends _ _ _ _ (T273.setTop (mkF m 108 #[.val (.int p0), .val (.int p1), .val (.int p2), .val (.int (1 : Int32)), .val (.int (1 : Int32)), .val (.int (1 : Int32)), .val (.ref b205)] [(.ref b205)]))
        refine own_pre (fun t k => XS.iconst X273.here hx rfl (hb hby at_108) k) ?_
        show own_Ends _ _ _ _ (T273.setTop (mkF m 109 #[.val (.int p0), .val (.int p1), .val (.int p2), .val (.int (1 : Int32)), .val (.int (1 : Int32)), .val (.int (1 : Int32)), .val (.ref b205)] [(.int (0 : Int32)), (.ref b205)]))
        obtain ⟨cq276, kq276, q276a, q276b, q276c⟩ := isOf hZ rfl f274
        obtain ⟨_, _, ⟨T276, L276, k276, n276⟩, -, X276, ⟨Lc276, hQ276, l276, y276, z276⟩, st276⟩ := X273.virtualBack hx (y := (⟨"com/example/mursyn/mursyn/synthesis/SuccessorLists", "count", "(I)I"⟩ : MethodName)) (z := (⟨"com/example/mursyn/mursyn/synthesis/SuccessorLists", "count", "(I)I"⟩ : MethodName)) hown (mvT hZ (hw _ (List.mem_of_getElem? (i := 23) rfl))) (mvT hZ (hw _ (List.mem_of_getElem? (i := 24) rfl))) (notFace_of_selects (args := #[]) (mvT hZ (hw _ (List.mem_of_getElem? (i := 26) rfl)))) (mvT hZ (hw _ (List.mem_of_getElem? (i := 26) rfl))) (mvT hZ (hw _ (List.mem_of_getElem? (i := 25) rfl))) (by decide) (backOf (W := 0) (rm4 l Z a0 hw [] b205 (0 : Int32) bf212 kf212 [(.int (0 : Int32)), (.int (1 : Int32)), (.int (2 : Int32)), (.int (0 : Int32)), (.int (0 : Int32)), (.int (0 : Int32)), (.int (0 : Int32)), (.int (0 : Int32)), (.int (0 : Int32)), (.int (0 : Int32)), (.int (0 : Int32)), (.int (0 : Int32)), (.int (0 : Int32)), (.int (0 : Int32)), (.int (0 : Int32)), (.int (0 : Int32)), (.int (0 : Int32))] (1 : Int32) (0 : Int32) T273.heap n0 Zn273 fa273 f275 ⟨by decide, by decide⟩ rfl ⟨by decide, by decide⟩ rfl) hZ (hw _ (List.mem_of_getElem? (i := 27) rfl)) (hw _ (List.mem_of_getElem? (i := 2) rfl)) (by decide) (by decide)) q276a q276c (g := (mkF m 109 #[.val (.int p0), .val (.int p1), .val (.int p2), .val (.int (1 : Int32)), .val (.int (1 : Int32)), .val (.int (1 : Int32)), .val (.ref b205)] [(.int (0 : Int32)), (.ref b205)])) rfl (by rw [hml]; rfl) (Steps.refl _) (argsL := [(.int (0 : Int32))]) (rest := []) (lenOf own_pd1 rfl) rfl (by show 2 * 0 + _ ≤ _; exact Nat.le_of_eq rfl) (hb hby at_109) (fun _ _ => ⟨rfl, rfl, (by decide : 3 + 0 ≤ _), (by decide : 37 + 0 ≤ _)⟩)
        dsimp only [Pt.U, Pt.locs, Pt.cells, Pt.slots] at X276 l276 y276 z276 st276 hQ276
        subst l276 y276 z276
        obtain ⟨rfl, Nq276, e276⟩ := hQ276
        have N276 := Fr.app N273 Nq276
        refine own_pre (fun t k => st276.trans k) ?_
        show own_Ends _ _ _ _ (T276.setTop (mkF m 112 #[.val (.int p0), .val (.int p1), .val (.int p2), .val (.int (1 : Int32)), .val (.int (1 : Int32)), .val (.int (1 : Int32)), .val (.ref b205)] [(.int (1 : Int32))]))
        refine own_pre (fun t k => XS.iloadN X276.here hx rfl (hb hby at_112) rfl k) ?_
        show own_Ends _ _ _ _ (T276.setTop (mkF m 113 #[.val (.int p0), .val (.int p1), .val (.int p2), .val (.int (1 : Int32)), .val (.int (1 : Int32)), .val (.int (1 : Int32)), .val (.ref b205)] [(.int (1 : Int32)), (.int (1 : Int32))]))
        refine own_pre (fun t k => XS.icmpNo X276.here hx rfl (hb hby at_113) rfl (teq ((by decide) : (1 : Int32) = (1 : Int32))).2 k) ?_
        show own_Ends _ _ _ _ (T276.setTop (mkF m 116 #[.val (.int p0), .val (.int p1), .val (.int p2), .val (.int (1 : Int32)), .val (.int (1 : Int32)), .val (.int (1 : Int32)), .val (.ref b205)] []))
        refine own_pre (fun t k => XS.aload X276.here hx rfl (hb hby at_116) rfl rfl k) ?_
        show own_Ends _ _ _ _ (T276.setTop (mkF m 118 #[.val (.int p0), .val (.int p1), .val (.int p2), .val (.int (1 : Int32)), .val (.int (1 : Int32)), .val (.int (1 : Int32)), .val (.ref b205)] [(.ref b205)]))
        refine own_pre (fun t k => XS.iconst X276.here hx rfl (hb hby at_118) k) ?_
        show own_Ends _ _ _ _ (T276.setTop (mkF m 119 #[.val (.int p0), .val (.int p1), .val (.int p2), .val (.int (1 : Int32)), .val (.int (1 : Int32)), .val (.int (1 : Int32)), .val (.ref b205)] [(.int (1 : Int32)), (.ref b205)]))
        obtain ⟨cq277, kq277, q277a, q277b, q277c⟩ := isOf hZ e276 f274
        obtain ⟨_, _, ⟨T277, L277, k277, n277⟩, -, X277, ⟨Lc277, hQ277, l277, y277, z277⟩, st277⟩ := X276.virtualBack hx (y := (⟨"com/example/mursyn/mursyn/synthesis/SuccessorLists", "count", "(I)I"⟩ : MethodName)) (z := (⟨"com/example/mursyn/mursyn/synthesis/SuccessorLists", "count", "(I)I"⟩ : MethodName)) hown (mvT hZ (hw _ (List.mem_of_getElem? (i := 23) rfl))) (mvT hZ (hw _ (List.mem_of_getElem? (i := 24) rfl))) (notFace_of_selects (args := #[]) (mvT hZ (hw _ (List.mem_of_getElem? (i := 26) rfl)))) (mvT hZ (hw _ (List.mem_of_getElem? (i := 26) rfl))) (mvT hZ (hw _ (List.mem_of_getElem? (i := 25) rfl))) (by decide) (backOf (W := 0) (rm4 l Z a0 hw [] b205 (1 : Int32) bf212 kf212 [(.int (0 : Int32)), (.int (1 : Int32)), (.int (2 : Int32)), (.int (0 : Int32)), (.int (0 : Int32)), (.int (0 : Int32)), (.int (0 : Int32)), (.int (0 : Int32)), (.int (0 : Int32)), (.int (0 : Int32)), (.int (0 : Int32)), (.int (0 : Int32)), (.int (0 : Int32)), (.int (0 : Int32)), (.int (0 : Int32)), (.int (0 : Int32)), (.int (0 : Int32))] (2 : Int32) (1 : Int32) T273.heap n0 Zn273 fa273 f275 ⟨by decide, by decide⟩ rfl ⟨by decide, by decide⟩ rfl) hZ (hw _ (List.mem_of_getElem? (i := 27) rfl)) (hw _ (List.mem_of_getElem? (i := 2) rfl)) (by decide) (by decide)) q277a q277c (g := (mkF m 119 #[.val (.int p0), .val (.int p1), .val (.int p2), .val (.int (1 : Int32)), .val (.int (1 : Int32)), .val (.int (1 : Int32)), .val (.ref b205)] [(.int (1 : Int32)), (.ref b205)])) rfl (by rw [hml]; rfl) (Steps.refl _) (argsL := [(.int (1 : Int32))]) (rest := []) (lenOf own_pd1 rfl) rfl (by show 2 * 0 + _ ≤ _; exact Nat.le_of_eq rfl) (hb hby at_119) (fun _ _ => ⟨rfl, e276, (by decide : 3 + 0 ≤ _), (by decide : 37 + 0 ≤ _)⟩)
        dsimp only [Pt.U, Pt.locs, Pt.cells, Pt.slots] at X277 l277 y277 z277 st277 hQ277
        subst l277 y277 z277
        obtain ⟨rfl, Nq277, e277⟩ := hQ277
        have N277 := Fr.app N276 Nq277
        refine own_pre (fun t k => st277.trans k) ?_
        show own_Ends _ _ _ _ (T277.setTop (mkF m 122 #[.val (.int p0), .val (.int p1), .val (.int p2), .val (.int (1 : Int32)), .val (.int (1 : Int32)), .val (.int (1 : Int32)), .val (.ref b205)] [(.int (1 : Int32))]))
        refine own_pre (fun t k => XS.iload X277.here hx rfl (hb hby at_122) rfl k) ?_
        show own_Ends _ _ _ _ (T277.setTop (mkF m 124 #[.val (.int p0), .val (.int p1), .val (.int p2), .val (.int (1 : Int32)), .val (.int (1 : Int32)), .val (.int (1 : Int32)), .val (.ref b205)] [(.int (1 : Int32)), (.int (1 : Int32))]))
        refine own_pre (fun t k => XS.icmpNo X277.here hx rfl (hb hby at_124) rfl (teq ((by decide) : (1 : Int32) = (1 : Int32))).2 k) ?_
        show own_Ends _ _ _ _ (T277.setTop (mkF m 127 #[.val (.int p0), .val (.int p1), .val (.int p2), .val (.int (1 : Int32)), .val (.int (1 : Int32)), .val (.int (1 : Int32)), .val (.ref b205)] []))
        refine own_pre (fun t k => XS.iconst X277.here hx rfl (hb hby at_127) k) ?_
        show own_Ends _ _ _ _ (T277.setTop (mkF m 128 #[.val (.int p0), .val (.int p1), .val (.int p2), .val (.int (1 : Int32)), .val (.int (1 : Int32)), .val (.int (1 : Int32)), .val (.ref b205)] [(.int (1 : Int32))]))
        refine own_pre (fun t k => XS.goto X277.here hx rfl (pc0 := 128) (pc' := 132) rfl (hb hby at_128) (by decide) (by decide) k) ?_
        show own_Ends _ _ _ _ (T277.setTop (mkF m 132 #[.val (.int p0), .val (.int p1), .val (.int p2), .val (.int (1 : Int32)), .val (.int (1 : Int32)), .val (.int (1 : Int32)), .val (.ref b205)] [(.int (1 : Int32))]))
        exact own_retN X277 hx (t := .boolean) Bd.returns (by simp) (hb hby at_132) hlk rfl e277 ⟨rfl, N277⟩ (by decide) (by decide)
      · subst hs258
        show own_Ends _ _ _ _ (T255.setTop (mkF m 66 #[.val (.int p0), .val (.int p1), .val (.int p2), .val (.int (1 : Int32)), .val (.int (2 : Int32)), .val (.int (1 : Int32)), .val (.ref b205)] []))
        refine own_pre (fun t k => XS.iload X255.here hx rfl (hb hby at_66) rfl k) ?_
        show own_Ends _ _ _ _ (T255.setTop (mkF m 68 #[.val (.int p0), .val (.int p1), .val (.int p2), .val (.int (1 : Int32)), .val (.int (2 : Int32)), .val (.int (1 : Int32)), .val (.ref b205)] [(.int (2 : Int32))]))
        refine own_pre (fun t k => XS.iconst X255.here hx rfl (hb hby at_68) k) ?_
        show own_Ends _ _ _ _ (T255.setTop (mkF m 69 #[.val (.int p0), .val (.int p1), .val (.int p2), .val (.int (1 : Int32)), .val (.int (2 : Int32)), .val (.int (1 : Int32)), .val (.ref b205)] [(.int (1 : Int32)), (.int (2 : Int32))]))
        refine own_pre (fun t k => XS.icmpNo X255.here hx rfl (hb hby at_69) rfl (flt ((by decide) : ¬ ((2 : Int32) < (1 : Int32)))).1 k) ?_
        show own_Ends _ _ _ _ (T255.setTop (mkF m 72 #[.val (.int p0), .val (.int p1), .val (.int p2), .val (.int (1 : Int32)), .val (.int (2 : Int32)), .val (.int (1 : Int32)), .val (.ref b205)] []))
        refine own_pre (fun t k => XS.aload X255.here hx rfl (hb hby at_72) rfl rfl k) ?_
        show own_Ends _ _ _ _ (T255.setTop (mkF m 74 #[.val (.int p0), .val (.int p1), .val (.int p2), .val (.int (1 : Int32)), .val (.int (2 : Int32)), .val (.int (1 : Int32)), .val (.ref b205)] [(.ref b205)]))
        refine own_pre (fun t k => XS.iloadN X255.here hx rfl (hb hby at_74) rfl k) ?_
        show own_Ends _ _ _ _ (T255.setTop (mkF m 75 #[.val (.int p0), .val (.int p1), .val (.int p2), .val (.int (1 : Int32)), .val (.int (2 : Int32)), .val (.int (1 : Int32)), .val (.ref b205)] [(.int p2), (.ref b205)]))
        obtain ⟨cq278, kq278, q278a, q278b, q278c⟩ := isOf hZ rfl f256
        obtain ⟨_, _, ⟨T278, L278, k278, n278⟩, -, X278, ⟨Lc278, hQ278, l278, y278, z278⟩, st278⟩ := X255.virtualBack hx (y := (⟨"com/example/mursyn/mursyn/synthesis/SuccessorLists", "add", "(I)V"⟩ : MethodName)) (z := (⟨"com/example/mursyn/mursyn/synthesis/SuccessorLists", "add", "(I)V"⟩ : MethodName)) hown (mvT hZ (hw _ (List.mem_of_getElem? (i := 28) rfl))) (mvT hZ (hw _ (List.mem_of_getElem? (i := 29) rfl))) (notFace_of_selects (args := #[]) (mvT hZ (hw _ (List.mem_of_getElem? (i := 31) rfl)))) (mvT hZ (hw _ (List.mem_of_getElem? (i := 31) rfl))) (mvT hZ (hw _ (List.mem_of_getElem? (i := 30) rfl))) (by decide) (backOf (W := 0) (rm2 l Z a0 hw [] b205 p2 bf212 bt212 (1 : Int32) (1 : Int32) kt212 [(.int p1), (.int (0 : Int32)), (.int (0 : Int32)), (.int (0 : Int32)), (.int (0 : Int32)), (.int (0 : Int32)), (.int (0 : Int32)), (.int (0 : Int32)), (.int (0 : Int32)), (.int (0 : Int32)), (.int (0 : Int32)), (.int (0 : Int32)), (.int (0 : Int32)), (.int (0 : Int32)), (.int (0 : Int32)), (.int (0 : Int32))]  T255.heap n0 Zn255 f256 L206 lb212 nb212 fa255 fb255 fc255 fd255 f257 (by decide) ⟨by decide, by decide⟩ (Nat.le_of_ble_eq_true rfl)) hZ (hw _ (List.mem_of_getElem? (i := 32) rfl)) (hw _ (List.mem_of_getElem? (i := 2) rfl)) (by decide) (by decide)) q278a q278c (g := (mkF m 75 #[.val (.int p0), .val (.int p1), .val (.int p2), .val (.int (1 : Int32)), .val (.int (2 : Int32)), .val (.int (1 : Int32)), .val (.ref b205)] [(.int p2), (.ref b205)])) rfl (by rw [hml]; rfl) (Steps.refl _) (argsL := [(.int p2)]) (rest := []) (lenOf own_pd2 rfl) rfl (by show 2 * 0 + _ ≤ _; exact Nat.le_of_eq rfl) (hb hby at_75) (fun _ _ => ⟨rfl, rfl, (by decide : 3 + 0 ≤ _), (by decide : 37 + 0 ≤ _)⟩)
        dsimp only [Pt.U, Pt.locs, Pt.cells, Pt.slots] at X278 l278 y278 z278 st278 hQ278
        subst l278 y278 z278
        obtain ⟨rfl, Nq278, Kq278, fa278, fb278, fc278, fd278, vv278⟩ := hQ278
        have N278 := Fr.app N255 Nq278
        have f279 := f256.keep Kq278
        have f280 := vv255.keep Kq278 (ninS (Ne.symm na212) (ninS nc212 nin0))
        have Zn278 : n0 ≤ T278.heap.size := Nat.le_trans Zn255 Kq278.1
        have fa278 : Fld Z T278.heap b205 "com/example/mursyn/mursyn/synthesis/SuccessorLists" "first" "[I" (.ref bf212) := fa278
        have fb278 : Fld Z T278.heap b205 "com/example/mursyn/mursyn/synthesis/SuccessorLists" "targets" "[I" (.ref bt212) := fb278
        have fc278 : Fld Z T278.heap b205 "com/example/mursyn/mursyn/synthesis/SuccessorLists" "edgeCount" "I" (.int (2 : Int32)) := fc278
        have fd278 : Fld Z T278.heap b205 "com/example/mursyn/mursyn/synthesis/SuccessorLists" "listed" "I" (.int (1 : Int32)) := fd278
        have vv278 : Arv Z T278.heap bt212 kt212 .int (16 : Int32) [(.int p1), (.int p2), (.int (0 : Int32)), (.int (0 : Int32)), (.int (0 : Int32)), (.int (0 : Int32)), (.int (0 : Int32)), (.int (0 : Int32)), (.int (0 : Int32)), (.int (0 : Int32)), (.int (0 : Int32)), (.int (0 : Int32)), (.int (0 : Int32)), (.int (0 : Int32)), (.int (0 : Int32)), (.int (0 : Int32))] (.int (0 : Int32)) := vv278
        refine own_pre (fun t k => st278.trans k) ?_
        show own_Ends _ _ _ _ (T278.setTop (mkF m 78 #[.val (.int p0), .val (.int p1), .val (.int p2), .val (.int (1 : Int32)), .val (.int (2 : Int32)), .val (.int (1 : Int32)), .val (.ref b205)] []))
        refine own_pre (fun t k => XS.iload X278.here hx rfl (hb hby at_78) rfl k) ?_
        show own_Ends _ _ _ _ (T278.setTop (mkF m 80 #[.val (.int p0), .val (.int p1), .val (.int p2), .val (.int (1 : Int32)), .val (.int (2 : Int32)), .val (.int (1 : Int32)), .val (.ref b205)] [(.int (2 : Int32))]))
        refine own_pre (fun t k => XS.iconst X278.here hx rfl (hb hby at_80) k) ?_
        show own_Ends _ _ _ _ (T278.setTop (mkF m 81 #[.val (.int p0), .val (.int p1), .val (.int p2), .val (.int (1 : Int32)), .val (.int (2 : Int32)), .val (.int (1 : Int32)), .val (.ref b205)] [(.int (2 : Int32)), (.int (2 : Int32))]))
        refine own_pre (fun t k => XS.icmpNo X278.here hx rfl (hb hby at_81) rfl (flt ((by decide) : ¬ ((2 : Int32) < (2 : Int32)))).1 k) ?_
        show own_Ends _ _ _ _ (T278.setTop (mkF m 84 #[.val (.int p0), .val (.int p1), .val (.int p2), .val (.int (1 : Int32)), .val (.int (2 : Int32)), .val (.int (1 : Int32)), .val (.ref b205)] []))
        refine own_pre (fun t k => XS.aload X278.here hx rfl (hb hby at_84) rfl rfl k) ?_
        show own_Ends _ _ _ _ (T278.setTop (mkF m 86 #[.val (.int p0), .val (.int p1), .val (.int p2), .val (.int (1 : Int32)), .val (.int (2 : Int32)), .val (.int (1 : Int32)), .val (.ref b205)] [(.ref b205)]))
        refine own_pre (fun t k => XS.iloadN X278.here hx rfl (hb hby at_86) rfl k) ?_
        show own_Ends _ _ _ _ (T278.setTop (mkF m 87 #[.val (.int p0), .val (.int p1), .val (.int p2), .val (.int (1 : Int32)), .val (.int (2 : Int32)), .val (.int (1 : Int32)), .val (.ref b205)] [(.int p1), (.ref b205)]))
        obtain ⟨cq281, kq281, q281a, q281b, q281c⟩ := isOf hZ rfl f279
        obtain ⟨_, _, ⟨T281, L281, k281, n281⟩, -, X281, ⟨Lc281, hQ281, l281, y281, z281⟩, st281⟩ := X278.virtualBack hx (y := (⟨"com/example/mursyn/mursyn/synthesis/SuccessorLists", "add", "(I)V"⟩ : MethodName)) (z := (⟨"com/example/mursyn/mursyn/synthesis/SuccessorLists", "add", "(I)V"⟩ : MethodName)) hown (mvT hZ (hw _ (List.mem_of_getElem? (i := 28) rfl))) (mvT hZ (hw _ (List.mem_of_getElem? (i := 29) rfl))) (notFace_of_selects (args := #[]) (mvT hZ (hw _ (List.mem_of_getElem? (i := 31) rfl)))) (mvT hZ (hw _ (List.mem_of_getElem? (i := 31) rfl))) (mvT hZ (hw _ (List.mem_of_getElem? (i := 30) rfl))) (by decide) (backOf (W := 0) (rm2 l Z a0 hw [] b205 p1 bf212 bt212 (2 : Int32) (1 : Int32) kt212 [(.int p1), (.int p2), (.int (0 : Int32)), (.int (0 : Int32)), (.int (0 : Int32)), (.int (0 : Int32)), (.int (0 : Int32)), (.int (0 : Int32)), (.int (0 : Int32)), (.int (0 : Int32)), (.int (0 : Int32)), (.int (0 : Int32)), (.int (0 : Int32)), (.int (0 : Int32)), (.int (0 : Int32)), (.int (0 : Int32))]  T278.heap n0 Zn278 f279 L206 lb212 nb212 fa278 fb278 fc278 fd278 vv278 (by decide) ⟨by decide, by decide⟩ (Nat.le_of_ble_eq_true rfl)) hZ (hw _ (List.mem_of_getElem? (i := 32) rfl)) (hw _ (List.mem_of_getElem? (i := 2) rfl)) (by decide) (by decide)) q281a q281c (g := (mkF m 87 #[.val (.int p0), .val (.int p1), .val (.int p2), .val (.int (1 : Int32)), .val (.int (2 : Int32)), .val (.int (1 : Int32)), .val (.ref b205)] [(.int p1), (.ref b205)])) rfl (by rw [hml]; rfl) (Steps.refl _) (argsL := [(.int p1)]) (rest := []) (lenOf own_pd2 rfl) rfl (by show 2 * 0 + _ ≤ _; exact Nat.le_of_eq rfl) (hb hby at_87) (fun _ _ => ⟨rfl, rfl, (by decide : 3 + 0 ≤ _), (by decide : 37 + 0 ≤ _)⟩)
        dsimp only [Pt.U, Pt.locs, Pt.cells, Pt.slots] at X281 l281 y281 z281 st281 hQ281
        subst l281 y281 z281
        obtain ⟨rfl, Nq281, Kq281, fa281, fb281, fc281, fd281, vv281⟩ := hQ281
        have N281 := Fr.app N278 Nq281
        have f282 := f279.keep Kq281
        have f283 := f280.keep Kq281 (ninS (Ne.symm na212) (ninS nc212 nin0))
        have Zn281 : n0 ≤ T281.heap.size := Nat.le_trans Zn278 Kq281.1
        have fa281 : Fld Z T281.heap b205 "com/example/mursyn/mursyn/synthesis/SuccessorLists" "first" "[I" (.ref bf212) := fa281
        have fb281 : Fld Z T281.heap b205 "com/example/mursyn/mursyn/synthesis/SuccessorLists" "targets" "[I" (.ref bt212) := fb281
        have fc281 : Fld Z T281.heap b205 "com/example/mursyn/mursyn/synthesis/SuccessorLists" "edgeCount" "I" (.int (3 : Int32)) := fc281
        have fd281 : Fld Z T281.heap b205 "com/example/mursyn/mursyn/synthesis/SuccessorLists" "listed" "I" (.int (1 : Int32)) := fd281
        have vv281 : Arv Z T281.heap bt212 kt212 .int (16 : Int32) [(.int p1), (.int p2), (.int p1), (.int (0 : Int32)), (.int (0 : Int32)), (.int (0 : Int32)), (.int (0 : Int32)), (.int (0 : Int32)), (.int (0 : Int32)), (.int (0 : Int32)), (.int (0 : Int32)), (.int (0 : Int32)), (.int (0 : Int32)), (.int (0 : Int32)), (.int (0 : Int32)), (.int (0 : Int32))] (.int (0 : Int32)) := vv281
        refine own_pre (fun t k => st281.trans k) ?_
        show own_Ends _ _ _ _ (T281.setTop (mkF m 90 #[.val (.int p0), .val (.int p1), .val (.int p2), .val (.int (1 : Int32)), .val (.int (2 : Int32)), .val (.int (1 : Int32)), .val (.ref b205)] []))
        refine own_pre (fun t k => XS.aload X281.here hx rfl (hb hby at_90) rfl rfl k) ?_
        show own_Ends _ _ _ _ (T281.setTop (mkF m 92 #[.val (.int p0), .val (.int p1), .val (.int p2), .val (.int (1 : Int32)), .val (.int (2 : Int32)), .val (.int (1 : Int32)), .val (.ref b205)] [(.ref b205)]))
        obtain ⟨cq284, kq284, q284a, q284b, q284c⟩ := isOf hZ rfl f282
        obtain ⟨_, _, ⟨T284, L284, k284, n284⟩, -, X284, ⟨Lc284, hQ284, l284, y284, z284⟩, st284⟩ := X281.virtualBack hx (y := (⟨"com/example/mursyn/mursyn/synthesis/SuccessorLists", "close", "()V"⟩ : MethodName)) (z := (⟨"com/example/mursyn/mursyn/synthesis/SuccessorLists", "close", "()V"⟩ : MethodName)) hown (mvT hZ (hw _ (List.mem_of_getElem? (i := 14) rfl))) (mvT hZ (hw _ (List.mem_of_getElem? (i := 15) rfl))) (notFace_of_selects (args := #[]) (mvT hZ (hw _ (List.mem_of_getElem? (i := 17) rfl)))) (mvT hZ (hw _ (List.mem_of_getElem? (i := 17) rfl))) (mvT hZ (hw _ (List.mem_of_getElem? (i := 16) rfl))) (by decide) (backOf (W := 0) (rm3 l Z a0 hw [] b205 bf212 bt212 (3 : Int32) (1 : Int32) kf212 [(.int (0 : Int32)), (.int (1 : Int32)), (.int (0 : Int32)), (.int (0 : Int32)), (.int (0 : Int32)), (.int (0 : Int32)), (.int (0 : Int32)), (.int (0 : Int32)), (.int (0 : Int32)), (.int (0 : Int32)), (.int (0 : Int32)), (.int (0 : Int32)), (.int (0 : Int32)), (.int (0 : Int32)), (.int (0 : Int32)), (.int (0 : Int32)), (.int (0 : Int32))]  T281.heap n0 Zn281 f282 L206 la212 na212 fa281 fb281 fc281 fd281 f283 (by decide) ⟨by decide, by decide⟩ (Nat.le_of_ble_eq_true rfl)) hZ (hw _ (List.mem_of_getElem? (i := 18) rfl)) (hw _ (List.mem_of_getElem? (i := 2) rfl)) (by decide) (by decide)) q284a q284c (g := (mkF m 92 #[.val (.int p0), .val (.int p1), .val (.int p2), .val (.int (1 : Int32)), .val (.int (2 : Int32)), .val (.int (1 : Int32)), .val (.ref b205)] [(.ref b205)])) rfl (by rw [hml]; rfl) (Steps.refl _) (argsL := []) (rest := []) (lenOf own_pd0 rfl) rfl (by show 2 * 0 + _ ≤ _; exact Nat.le_of_eq rfl) (hb hby at_92) (fun _ _ => ⟨rfl, rfl, (by decide : 3 + 0 ≤ _), (by decide : 37 + 0 ≤ _)⟩)
        dsimp only [Pt.U, Pt.locs, Pt.cells, Pt.slots] at X284 l284 y284 z284 st284 hQ284
        subst l284 y284 z284
        obtain ⟨rfl, Nq284, Kq284, fa284, fb284, fc284, fd284, vv284⟩ := hQ284
        have N284 := Fr.app N281 Nq284
        have f285 := f282.keep Kq284
        have f286 := vv281.keep Kq284 (ninS (Ne.symm nb212) (ninS (Ne.symm nc212) nin0))
        have Zn284 : n0 ≤ T284.heap.size := Nat.le_trans Zn281 Kq284.1
        have fa284 : Fld Z T284.heap b205 "com/example/mursyn/mursyn/synthesis/SuccessorLists" "first" "[I" (.ref bf212) := fa284
        have fb284 : Fld Z T284.heap b205 "com/example/mursyn/mursyn/synthesis/SuccessorLists" "targets" "[I" (.ref bt212) := fb284
        have fc284 : Fld Z T284.heap b205 "com/example/mursyn/mursyn/synthesis/SuccessorLists" "edgeCount" "I" (.int (3 : Int32)) := fc284
        have fd284 : Fld Z T284.heap b205 "com/example/mursyn/mursyn/synthesis/SuccessorLists" "listed" "I" (.int (2 : Int32)) := fd284
        have vv284 : Arv Z T284.heap bf212 kf212 .int (17 : Int32) [(.int (0 : Int32)), (.int (1 : Int32)), (.int (3 : Int32)), (.int (0 : Int32)), (.int (0 : Int32)), (.int (0 : Int32)), (.int (0 : Int32)), (.int (0 : Int32)), (.int (0 : Int32)), (.int (0 : Int32)), (.int (0 : Int32)), (.int (0 : Int32)), (.int (0 : Int32)), (.int (0 : Int32)), (.int (0 : Int32)), (.int (0 : Int32)), (.int (0 : Int32))] (.int (0 : Int32)) := vv284
        refine own_pre (fun t k => st284.trans k) ?_
        show own_Ends _ _ _ _ (T284.setTop (mkF m 95 #[.val (.int p0), .val (.int p1), .val (.int p2), .val (.int (1 : Int32)), .val (.int (2 : Int32)), .val (.int (1 : Int32)), .val (.ref b205)] []))
        refine own_pre (fun t k => XS.iload X284.here hx rfl (hb hby at_95) rfl k) ?_
        show own_Ends _ _ _ _ (T284.setTop (mkF m 97 #[.val (.int p0), .val (.int p1), .val (.int p2), .val (.int (1 : Int32)), .val (.int (2 : Int32)), .val (.int (1 : Int32)), .val (.ref b205)] [(.int (1 : Int32))]))
        refine own_pre (fun t k => XS.ifNo X284.here hx rfl (hb hby at_97) rfl ((if0 _ _).trans (feq ((by decide) : ¬ ((1 : Int32) = (0 : Int32)))).1) k) ?_
        show own_Ends _ _ _ _ (T284.setTop (mkF m 100 #[.val (.int p0), .val (.int p1), .val (.int p2), .val (.int (1 : Int32)), .val (.int (2 : Int32)), .val (.int (1 : Int32)), .val (.ref b205)] []))
        refine own_pre (fun t k => XS.aload X284.here hx rfl (hb hby at_100) rfl rfl k) ?_
        show own_Ends _ _ _ _ (T284.setTop (mkF m 102 #[.val (.int p0), .val (.int p1), .val (.int p2), .val (.int (1 : Int32)), .val (.int (2 : Int32)), .val (.int (1 : Int32)), .val (.ref b205)] [(.ref b205)]))
        refine own_pre (fun t k => XS.iloadN X284.here hx rfl (hb hby at_102) rfl k) ?_
        show own_Ends _ _ _ _ (T284.setTop (mkF m 103 #[.val (.int p0), .val (.int p1), .val (.int p2), .val (.int (1 : Int32)), .val (.int (2 : Int32)), .val (.int (1 : Int32)), .val (.ref b205)] [(.int p1), (.ref b205)]))
        obtain ⟨cq287, kq287, q287a, q287b, q287c⟩ := isOf hZ rfl f285
        obtain ⟨_, _, ⟨T287, L287, k287, n287⟩, -, X287, ⟨Lc287, hQ287, l287, y287, z287⟩, st287⟩ := X284.virtualBack hx (y := (⟨"com/example/mursyn/mursyn/synthesis/SuccessorLists", "add", "(I)V"⟩ : MethodName)) (z := (⟨"com/example/mursyn/mursyn/synthesis/SuccessorLists", "add", "(I)V"⟩ : MethodName)) hown (mvT hZ (hw _ (List.mem_of_getElem? (i := 28) rfl))) (mvT hZ (hw _ (List.mem_of_getElem? (i := 29) rfl))) (notFace_of_selects (args := #[]) (mvT hZ (hw _ (List.mem_of_getElem? (i := 31) rfl)))) (mvT hZ (hw _ (List.mem_of_getElem? (i := 31) rfl))) (mvT hZ (hw _ (List.mem_of_getElem? (i := 30) rfl))) (by decide) (backOf (W := 0) (rm2 l Z a0 hw [] b205 p1 bf212 bt212 (3 : Int32) (2 : Int32) kt212 [(.int p1), (.int p2), (.int p1), (.int (0 : Int32)), (.int (0 : Int32)), (.int (0 : Int32)), (.int (0 : Int32)), (.int (0 : Int32)), (.int (0 : Int32)), (.int (0 : Int32)), (.int (0 : Int32)), (.int (0 : Int32)), (.int (0 : Int32)), (.int (0 : Int32)), (.int (0 : Int32)), (.int (0 : Int32))]  T284.heap n0 Zn284 f285 L206 lb212 nb212 fa284 fb284 fc284 fd284 f286 (by decide) ⟨by decide, by decide⟩ (Nat.le_of_ble_eq_true rfl)) hZ (hw _ (List.mem_of_getElem? (i := 32) rfl)) (hw _ (List.mem_of_getElem? (i := 2) rfl)) (by decide) (by decide)) q287a q287c (g := (mkF m 103 #[.val (.int p0), .val (.int p1), .val (.int p2), .val (.int (1 : Int32)), .val (.int (2 : Int32)), .val (.int (1 : Int32)), .val (.ref b205)] [(.int p1), (.ref b205)])) rfl (by rw [hml]; rfl) (Steps.refl _) (argsL := [(.int p1)]) (rest := []) (lenOf own_pd2 rfl) rfl (by show 2 * 0 + _ ≤ _; exact Nat.le_of_eq rfl) (hb hby at_103) (fun _ _ => ⟨rfl, rfl, (by decide : 3 + 0 ≤ _), (by decide : 37 + 0 ≤ _)⟩)
        dsimp only [Pt.U, Pt.locs, Pt.cells, Pt.slots] at X287 l287 y287 z287 st287 hQ287
        subst l287 y287 z287
        obtain ⟨rfl, Nq287, Kq287, fa287, fb287, fc287, fd287, vv287⟩ := hQ287
        have N287 := Fr.app N284 Nq287
        have f288 := f285.keep Kq287
        have f289 := vv284.keep Kq287 (ninS (Ne.symm na212) (ninS nc212 nin0))
        have Zn287 : n0 ≤ T287.heap.size := Nat.le_trans Zn284 Kq287.1
        have fa287 : Fld Z T287.heap b205 "com/example/mursyn/mursyn/synthesis/SuccessorLists" "first" "[I" (.ref bf212) := fa287
        have fb287 : Fld Z T287.heap b205 "com/example/mursyn/mursyn/synthesis/SuccessorLists" "targets" "[I" (.ref bt212) := fb287
        have fc287 : Fld Z T287.heap b205 "com/example/mursyn/mursyn/synthesis/SuccessorLists" "edgeCount" "I" (.int (4 : Int32)) := fc287
        have fd287 : Fld Z T287.heap b205 "com/example/mursyn/mursyn/synthesis/SuccessorLists" "listed" "I" (.int (2 : Int32)) := fd287
        have vv287 : Arv Z T287.heap bt212 kt212 .int (16 : Int32) [(.int p1), (.int p2), (.int p1), (.int p1), (.int (0 : Int32)), (.int (0 : Int32)), (.int (0 : Int32)), (.int (0 : Int32)), (.int (0 : Int32)), (.int (0 : Int32)), (.int (0 : Int32)), (.int (0 : Int32)), (.int (0 : Int32)), (.int (0 : Int32)), (.int (0 : Int32)), (.int (0 : Int32))] (.int (0 : Int32)) := vv287
        refine own_pre (fun t k => st287.trans k) ?_
        show own_Ends _ _ _ _ (T287.setTop (mkF m 106 #[.val (.int p0), .val (.int p1), .val (.int p2), .val (.int (1 : Int32)), .val (.int (2 : Int32)), .val (.int (1 : Int32)), .val (.ref b205)] []))
        refine own_pre (fun t k => XS.aload X287.here hx rfl (hb hby at_106) rfl rfl k) ?_
        show own_Ends _ _ _ _ (T287.setTop (mkF m 108 #[.val (.int p0), .val (.int p1), .val (.int p2), .val (.int (1 : Int32)), .val (.int (2 : Int32)), .val (.int (1 : Int32)), .val (.ref b205)] [(.ref b205)]))
        refine own_pre (fun t k => XS.iconst X287.here hx rfl (hb hby at_108) k) ?_
        show own_Ends _ _ _ _ (T287.setTop (mkF m 109 #[.val (.int p0), .val (.int p1), .val (.int p2), .val (.int (1 : Int32)), .val (.int (2 : Int32)), .val (.int (1 : Int32)), .val (.ref b205)] [(.int (0 : Int32)), (.ref b205)]))
        obtain ⟨cq290, kq290, q290a, q290b, q290c⟩ := isOf hZ rfl f288
        obtain ⟨_, _, ⟨T290, L290, k290, n290⟩, -, X290, ⟨Lc290, hQ290, l290, y290, z290⟩, st290⟩ := X287.virtualBack hx (y := (⟨"com/example/mursyn/mursyn/synthesis/SuccessorLists", "count", "(I)I"⟩ : MethodName)) (z := (⟨"com/example/mursyn/mursyn/synthesis/SuccessorLists", "count", "(I)I"⟩ : MethodName)) hown (mvT hZ (hw _ (List.mem_of_getElem? (i := 23) rfl))) (mvT hZ (hw _ (List.mem_of_getElem? (i := 24) rfl))) (notFace_of_selects (args := #[]) (mvT hZ (hw _ (List.mem_of_getElem? (i := 26) rfl)))) (mvT hZ (hw _ (List.mem_of_getElem? (i := 26) rfl))) (mvT hZ (hw _ (List.mem_of_getElem? (i := 25) rfl))) (by decide) (backOf (W := 0) (rm4 l Z a0 hw [] b205 (0 : Int32) bf212 kf212 [(.int (0 : Int32)), (.int (1 : Int32)), (.int (3 : Int32)), (.int (0 : Int32)), (.int (0 : Int32)), (.int (0 : Int32)), (.int (0 : Int32)), (.int (0 : Int32)), (.int (0 : Int32)), (.int (0 : Int32)), (.int (0 : Int32)), (.int (0 : Int32)), (.int (0 : Int32)), (.int (0 : Int32)), (.int (0 : Int32)), (.int (0 : Int32)), (.int (0 : Int32))] (1 : Int32) (0 : Int32) T287.heap n0 Zn287 fa287 f289 ⟨by decide, by decide⟩ rfl ⟨by decide, by decide⟩ rfl) hZ (hw _ (List.mem_of_getElem? (i := 27) rfl)) (hw _ (List.mem_of_getElem? (i := 2) rfl)) (by decide) (by decide)) q290a q290c (g := (mkF m 109 #[.val (.int p0), .val (.int p1), .val (.int p2), .val (.int (1 : Int32)), .val (.int (2 : Int32)), .val (.int (1 : Int32)), .val (.ref b205)] [(.int (0 : Int32)), (.ref b205)])) rfl (by rw [hml]; rfl) (Steps.refl _) (argsL := [(.int (0 : Int32))]) (rest := []) (lenOf own_pd1 rfl) rfl (by show 2 * 0 + _ ≤ _; exact Nat.le_of_eq rfl) (hb hby at_109) (fun _ _ => ⟨rfl, rfl, (by decide : 3 + 0 ≤ _), (by decide : 37 + 0 ≤ _)⟩)
        dsimp only [Pt.U, Pt.locs, Pt.cells, Pt.slots] at X290 l290 y290 z290 st290 hQ290
        subst l290 y290 z290
        obtain ⟨rfl, Nq290, e290⟩ := hQ290
        have N290 := Fr.app N287 Nq290
        refine own_pre (fun t k => st290.trans k) ?_
        show own_Ends _ _ _ _ (T290.setTop (mkF m 112 #[.val (.int p0), .val (.int p1), .val (.int p2), .val (.int (1 : Int32)), .val (.int (2 : Int32)), .val (.int (1 : Int32)), .val (.ref b205)] [(.int (1 : Int32))]))
        refine own_pre (fun t k => XS.iloadN X290.here hx rfl (hb hby at_112) rfl k) ?_
        show own_Ends _ _ _ _ (T290.setTop (mkF m 113 #[.val (.int p0), .val (.int p1), .val (.int p2), .val (.int (1 : Int32)), .val (.int (2 : Int32)), .val (.int (1 : Int32)), .val (.ref b205)] [(.int (1 : Int32)), (.int (1 : Int32))]))
        refine own_pre (fun t k => XS.icmpNo X290.here hx rfl (hb hby at_113) rfl (teq ((by decide) : (1 : Int32) = (1 : Int32))).2 k) ?_
        show own_Ends _ _ _ _ (T290.setTop (mkF m 116 #[.val (.int p0), .val (.int p1), .val (.int p2), .val (.int (1 : Int32)), .val (.int (2 : Int32)), .val (.int (1 : Int32)), .val (.ref b205)] []))
        refine own_pre (fun t k => XS.aload X290.here hx rfl (hb hby at_116) rfl rfl k) ?_
        show own_Ends _ _ _ _ (T290.setTop (mkF m 118 #[.val (.int p0), .val (.int p1), .val (.int p2), .val (.int (1 : Int32)), .val (.int (2 : Int32)), .val (.int (1 : Int32)), .val (.ref b205)] [(.ref b205)]))
        refine own_pre (fun t k => XS.iconst X290.here hx rfl (hb hby at_118) k) ?_
        show own_Ends _ _ _ _ (T290.setTop (mkF m 119 #[.val (.int p0), .val (.int p1), .val (.int p2), .val (.int (1 : Int32)), .val (.int (2 : Int32)), .val (.int (1 : Int32)), .val (.ref b205)] [(.int (1 : Int32)), (.ref b205)]))
        obtain ⟨cq291, kq291, q291a, q291b, q291c⟩ := isOf hZ e290 f288
        obtain ⟨_, _, ⟨T291, L291, k291, n291⟩, -, X291, ⟨Lc291, hQ291, l291, y291, z291⟩, st291⟩ := X290.virtualBack hx (y := (⟨"com/example/mursyn/mursyn/synthesis/SuccessorLists", "count", "(I)I"⟩ : MethodName)) (z := (⟨"com/example/mursyn/mursyn/synthesis/SuccessorLists", "count", "(I)I"⟩ : MethodName)) hown (mvT hZ (hw _ (List.mem_of_getElem? (i := 23) rfl))) (mvT hZ (hw _ (List.mem_of_getElem? (i := 24) rfl))) (notFace_of_selects (args := #[]) (mvT hZ (hw _ (List.mem_of_getElem? (i := 26) rfl)))) (mvT hZ (hw _ (List.mem_of_getElem? (i := 26) rfl))) (mvT hZ (hw _ (List.mem_of_getElem? (i := 25) rfl))) (by decide) (backOf (W := 0) (rm4 l Z a0 hw [] b205 (1 : Int32) bf212 kf212 [(.int (0 : Int32)), (.int (1 : Int32)), (.int (3 : Int32)), (.int (0 : Int32)), (.int (0 : Int32)), (.int (0 : Int32)), (.int (0 : Int32)), (.int (0 : Int32)), (.int (0 : Int32)), (.int (0 : Int32)), (.int (0 : Int32)), (.int (0 : Int32)), (.int (0 : Int32)), (.int (0 : Int32)), (.int (0 : Int32)), (.int (0 : Int32)), (.int (0 : Int32))] (3 : Int32) (1 : Int32) T287.heap n0 Zn287 fa287 f289 ⟨by decide, by decide⟩ rfl ⟨by decide, by decide⟩ rfl) hZ (hw _ (List.mem_of_getElem? (i := 27) rfl)) (hw _ (List.mem_of_getElem? (i := 2) rfl)) (by decide) (by decide)) q291a q291c (g := (mkF m 119 #[.val (.int p0), .val (.int p1), .val (.int p2), .val (.int (1 : Int32)), .val (.int (2 : Int32)), .val (.int (1 : Int32)), .val (.ref b205)] [(.int (1 : Int32)), (.ref b205)])) rfl (by rw [hml]; rfl) (Steps.refl _) (argsL := [(.int (1 : Int32))]) (rest := []) (lenOf own_pd1 rfl) rfl (by show 2 * 0 + _ ≤ _; exact Nat.le_of_eq rfl) (hb hby at_119) (fun _ _ => ⟨rfl, e290, (by decide : 3 + 0 ≤ _), (by decide : 37 + 0 ≤ _)⟩)
        dsimp only [Pt.U, Pt.locs, Pt.cells, Pt.slots] at X291 l291 y291 z291 st291 hQ291
        subst l291 y291 z291
        obtain ⟨rfl, Nq291, e291⟩ := hQ291
        have N291 := Fr.app N290 Nq291
        refine own_pre (fun t k => st291.trans k) ?_
        show own_Ends _ _ _ _ (T291.setTop (mkF m 122 #[.val (.int p0), .val (.int p1), .val (.int p2), .val (.int (1 : Int32)), .val (.int (2 : Int32)), .val (.int (1 : Int32)), .val (.ref b205)] [(.int (2 : Int32))]))
        refine own_pre (fun t k => XS.iload X291.here hx rfl (hb hby at_122) rfl k) ?_
        show own_Ends _ _ _ _ (T291.setTop (mkF m 124 #[.val (.int p0), .val (.int p1), .val (.int p2), .val (.int (1 : Int32)), .val (.int (2 : Int32)), .val (.int (1 : Int32)), .val (.ref b205)] [(.int (2 : Int32)), (.int (2 : Int32))]))
        refine own_pre (fun t k => XS.icmpNo X291.here hx rfl (hb hby at_124) rfl (teq ((by decide) : (2 : Int32) = (2 : Int32))).2 k) ?_
        show own_Ends _ _ _ _ (T291.setTop (mkF m 127 #[.val (.int p0), .val (.int p1), .val (.int p2), .val (.int (1 : Int32)), .val (.int (2 : Int32)), .val (.int (1 : Int32)), .val (.ref b205)] []))
        refine own_pre (fun t k => XS.iconst X291.here hx rfl (hb hby at_127) k) ?_
        show own_Ends _ _ _ _ (T291.setTop (mkF m 128 #[.val (.int p0), .val (.int p1), .val (.int p2), .val (.int (1 : Int32)), .val (.int (2 : Int32)), .val (.int (1 : Int32)), .val (.ref b205)] [(.int (1 : Int32))]))
        refine own_pre (fun t k => XS.goto X291.here hx rfl (pc0 := 128) (pc' := 132) rfl (hb hby at_128) (by decide) (by decide) k) ?_
        show own_Ends _ _ _ _ (T291.setTop (mkF m 132 #[.val (.int p0), .val (.int p1), .val (.int p2), .val (.int (1 : Int32)), .val (.int (2 : Int32)), .val (.int (1 : Int32)), .val (.ref b205)] [(.int (1 : Int32))]))
        exact own_retN X291 hx (t := .boolean) Bd.returns (by simp) (hb hby at_132) hlk rfl e291 ⟨rfl, N291⟩ (by decide) (by decide)
    · subst hs214
      show own_Ends _ _ _ _ (T212.setTop (mkF m 39 #[.val (.int p0), .val (.int p1), .val (.int p2), .val (.int (2 : Int32)), .val (.int x4), .val (.int (1 : Int32)), .val (.ref b205)] []))
      refine own_pre (fun t k => XS.iloadN X212.here hx rfl (hb hby at_39) rfl k) ?_
      show own_Ends _ _ _ _ (T212.setTop (mkF m 40 #[.val (.int p0), .val (.int p1), .val (.int p2), .val (.int (2 : Int32)), .val (.int x4), .val (.int (1 : Int32)), .val (.ref b205)] [(.int (2 : Int32))]))
      refine own_pre (fun t k => XS.iconst X212.here hx rfl (hb hby at_40) k) ?_
      show own_Ends _ _ _ _ (T212.setTop (mkF m 41 #[.val (.int p0), .val (.int p1), .val (.int p2), .val (.int (2 : Int32)), .val (.int x4), .val (.int (1 : Int32)), .val (.ref b205)] [(.int (1 : Int32)), (.int (2 : Int32))]))
      refine own_pre (fun t k => XS.icmpNo X212.here hx rfl (hb hby at_41) rfl (flt ((by decide) : ¬ ((2 : Int32) < (1 : Int32)))).1 k) ?_
      show own_Ends _ _ _ _ (T212.setTop (mkF m 44 #[.val (.int p0), .val (.int p1), .val (.int p2), .val (.int (2 : Int32)), .val (.int x4), .val (.int (1 : Int32)), .val (.ref b205)] []))
      refine own_pre (fun t k => XS.aload X212.here hx rfl (hb hby at_44) rfl rfl k) ?_
      show own_Ends _ _ _ _ (T212.setTop (mkF m 46 #[.val (.int p0), .val (.int p1), .val (.int p2), .val (.int (2 : Int32)), .val (.int x4), .val (.int (1 : Int32)), .val (.ref b205)] [(.ref b205)]))
      refine own_pre (fun t k => XS.iloadN X212.here hx rfl (hb hby at_46) rfl k) ?_
      show own_Ends _ _ _ _ (T212.setTop (mkF m 47 #[.val (.int p0), .val (.int p1), .val (.int p2), .val (.int (2 : Int32)), .val (.int x4), .val (.int (1 : Int32)), .val (.ref b205)] [(.int p1), (.ref b205)]))
      obtain ⟨cq292, kq292, q292a, q292b, q292c⟩ := isOf hZ rfl f213
      obtain ⟨_, _, ⟨T292, L292, k292, n292⟩, -, X292, ⟨Lc292, hQ292, l292, y292, z292⟩, st292⟩ := X212.virtualBack hx (y := (⟨"com/example/mursyn/mursyn/synthesis/SuccessorLists", "add", "(I)V"⟩ : MethodName)) (z := (⟨"com/example/mursyn/mursyn/synthesis/SuccessorLists", "add", "(I)V"⟩ : MethodName)) hown (mvT hZ (hw _ (List.mem_of_getElem? (i := 28) rfl))) (mvT hZ (hw _ (List.mem_of_getElem? (i := 29) rfl))) (notFace_of_selects (args := #[]) (mvT hZ (hw _ (List.mem_of_getElem? (i := 31) rfl)))) (mvT hZ (hw _ (List.mem_of_getElem? (i := 31) rfl))) (mvT hZ (hw _ (List.mem_of_getElem? (i := 30) rfl))) (by decide) (backOf (W := 0) (rm2 l Z a0 hw [] b205 p1 bf212 bt212 (0 : Int32) (0 : Int32) kt212 [(.int (0 : Int32)), (.int (0 : Int32)), (.int (0 : Int32)), (.int (0 : Int32)), (.int (0 : Int32)), (.int (0 : Int32)), (.int (0 : Int32)), (.int (0 : Int32)), (.int (0 : Int32)), (.int (0 : Int32)), (.int (0 : Int32)), (.int (0 : Int32)), (.int (0 : Int32)), (.int (0 : Int32)), (.int (0 : Int32)), (.int (0 : Int32))]  T212.heap n0 Zn212 f213 L206 lb212 nb212 fa212 fb212 fc212 fd212 vb212 (by decide) ⟨by decide, by decide⟩ (Nat.le_of_ble_eq_true rfl)) hZ (hw _ (List.mem_of_getElem? (i := 32) rfl)) (hw _ (List.mem_of_getElem? (i := 2) rfl)) (by decide) (by decide)) q292a q292c (g := (mkF m 47 #[.val (.int p0), .val (.int p1), .val (.int p2), .val (.int (2 : Int32)), .val (.int x4), .val (.int (1 : Int32)), .val (.ref b205)] [(.int p1), (.ref b205)])) rfl (by rw [hml]; rfl) (Steps.refl _) (argsL := [(.int p1)]) (rest := []) (lenOf own_pd2 rfl) rfl (by show 2 * 0 + _ ≤ _; exact Nat.le_of_eq rfl) (hb hby at_47) (fun _ _ => ⟨rfl, rfl, (by decide : 3 + 0 ≤ _), (by decide : 37 + 0 ≤ _)⟩)
      dsimp only [Pt.U, Pt.locs, Pt.cells, Pt.slots] at X292 l292 y292 z292 st292 hQ292
      subst l292 y292 z292
      obtain ⟨rfl, Nq292, Kq292, fa292, fb292, fc292, fd292, vv292⟩ := hQ292
      have N292 := Fr.app N212 Nq292
      have f293 := f213.keep Kq292
      have f294 := va212.keep Kq292 (ninS (Ne.symm na212) (ninS nc212 nin0))
      have Zn292 : n0 ≤ T292.heap.size := Nat.le_trans Zn212 Kq292.1
      have fa292 : Fld Z T292.heap b205 "com/example/mursyn/mursyn/synthesis/SuccessorLists" "first" "[I" (.ref bf212) := fa292
      have fb292 : Fld Z T292.heap b205 "com/example/mursyn/mursyn/synthesis/SuccessorLists" "targets" "[I" (.ref bt212) := fb292
      have fc292 : Fld Z T292.heap b205 "com/example/mursyn/mursyn/synthesis/SuccessorLists" "edgeCount" "I" (.int (1 : Int32)) := fc292
      have fd292 : Fld Z T292.heap b205 "com/example/mursyn/mursyn/synthesis/SuccessorLists" "listed" "I" (.int (0 : Int32)) := fd292
      have vv292 : Arv Z T292.heap bt212 kt212 .int (16 : Int32) [(.int p1), (.int (0 : Int32)), (.int (0 : Int32)), (.int (0 : Int32)), (.int (0 : Int32)), (.int (0 : Int32)), (.int (0 : Int32)), (.int (0 : Int32)), (.int (0 : Int32)), (.int (0 : Int32)), (.int (0 : Int32)), (.int (0 : Int32)), (.int (0 : Int32)), (.int (0 : Int32)), (.int (0 : Int32)), (.int (0 : Int32))] (.int (0 : Int32)) := vv292
      refine own_pre (fun t k => st292.trans k) ?_
      show own_Ends _ _ _ _ (T292.setTop (mkF m 50 #[.val (.int p0), .val (.int p1), .val (.int p2), .val (.int (2 : Int32)), .val (.int x4), .val (.int (1 : Int32)), .val (.ref b205)] []))
      refine own_pre (fun t k => XS.iloadN X292.here hx rfl (hb hby at_50) rfl k) ?_
      show own_Ends _ _ _ _ (T292.setTop (mkF m 51 #[.val (.int p0), .val (.int p1), .val (.int p2), .val (.int (2 : Int32)), .val (.int x4), .val (.int (1 : Int32)), .val (.ref b205)] [(.int (2 : Int32))]))
      refine own_pre (fun t k => XS.iconst X292.here hx rfl (hb hby at_51) k) ?_
      show own_Ends _ _ _ _ (T292.setTop (mkF m 52 #[.val (.int p0), .val (.int p1), .val (.int p2), .val (.int (2 : Int32)), .val (.int x4), .val (.int (1 : Int32)), .val (.ref b205)] [(.int (2 : Int32)), (.int (2 : Int32))]))
      refine own_pre (fun t k => XS.icmpNo X292.here hx rfl (hb hby at_52) rfl (flt ((by decide) : ¬ ((2 : Int32) < (2 : Int32)))).1 k) ?_
      show own_Ends _ _ _ _ (T292.setTop (mkF m 55 #[.val (.int p0), .val (.int p1), .val (.int p2), .val (.int (2 : Int32)), .val (.int x4), .val (.int (1 : Int32)), .val (.ref b205)] []))
      refine own_pre (fun t k => XS.aload X292.here hx rfl (hb hby at_55) rfl rfl k) ?_
      show own_Ends _ _ _ _ (T292.setTop (mkF m 57 #[.val (.int p0), .val (.int p1), .val (.int p2), .val (.int (2 : Int32)), .val (.int x4), .val (.int (1 : Int32)), .val (.ref b205)] [(.ref b205)]))
      refine own_pre (fun t k => XS.iloadN X292.here hx rfl (hb hby at_57) rfl k) ?_
      show own_Ends _ _ _ _ (T292.setTop (mkF m 58 #[.val (.int p0), .val (.int p1), .val (.int p2), .val (.int (2 : Int32)), .val (.int x4), .val (.int (1 : Int32)), .val (.ref b205)] [(.int p2), (.ref b205)]))
      obtain ⟨cq295, kq295, q295a, q295b, q295c⟩ := isOf hZ rfl f293
      obtain ⟨_, _, ⟨T295, L295, k295, n295⟩, -, X295, ⟨Lc295, hQ295, l295, y295, z295⟩, st295⟩ := X292.virtualBack hx (y := (⟨"com/example/mursyn/mursyn/synthesis/SuccessorLists", "add", "(I)V"⟩ : MethodName)) (z := (⟨"com/example/mursyn/mursyn/synthesis/SuccessorLists", "add", "(I)V"⟩ : MethodName)) hown (mvT hZ (hw _ (List.mem_of_getElem? (i := 28) rfl))) (mvT hZ (hw _ (List.mem_of_getElem? (i := 29) rfl))) (notFace_of_selects (args := #[]) (mvT hZ (hw _ (List.mem_of_getElem? (i := 31) rfl)))) (mvT hZ (hw _ (List.mem_of_getElem? (i := 31) rfl))) (mvT hZ (hw _ (List.mem_of_getElem? (i := 30) rfl))) (by decide) (backOf (W := 0) (rm2 l Z a0 hw [] b205 p2 bf212 bt212 (1 : Int32) (0 : Int32) kt212 [(.int p1), (.int (0 : Int32)), (.int (0 : Int32)), (.int (0 : Int32)), (.int (0 : Int32)), (.int (0 : Int32)), (.int (0 : Int32)), (.int (0 : Int32)), (.int (0 : Int32)), (.int (0 : Int32)), (.int (0 : Int32)), (.int (0 : Int32)), (.int (0 : Int32)), (.int (0 : Int32)), (.int (0 : Int32)), (.int (0 : Int32))]  T292.heap n0 Zn292 f293 L206 lb212 nb212 fa292 fb292 fc292 fd292 vv292 (by decide) ⟨by decide, by decide⟩ (Nat.le_of_ble_eq_true rfl)) hZ (hw _ (List.mem_of_getElem? (i := 32) rfl)) (hw _ (List.mem_of_getElem? (i := 2) rfl)) (by decide) (by decide)) q295a q295c (g := (mkF m 58 #[.val (.int p0), .val (.int p1), .val (.int p2), .val (.int (2 : Int32)), .val (.int x4), .val (.int (1 : Int32)), .val (.ref b205)] [(.int p2), (.ref b205)])) rfl (by rw [hml]; rfl) (Steps.refl _) (argsL := [(.int p2)]) (rest := []) (lenOf own_pd2 rfl) rfl (by show 2 * 0 + _ ≤ _; exact Nat.le_of_eq rfl) (hb hby at_58) (fun _ _ => ⟨rfl, rfl, (by decide : 3 + 0 ≤ _), (by decide : 37 + 0 ≤ _)⟩)
      dsimp only [Pt.U, Pt.locs, Pt.cells, Pt.slots] at X295 l295 y295 z295 st295 hQ295
      subst l295 y295 z295
      obtain ⟨rfl, Nq295, Kq295, fa295, fb295, fc295, fd295, vv295⟩ := hQ295
      have N295 := Fr.app N292 Nq295
      have f296 := f293.keep Kq295
      have f297 := f294.keep Kq295 (ninS (Ne.symm na212) (ninS nc212 nin0))
      have Zn295 : n0 ≤ T295.heap.size := Nat.le_trans Zn292 Kq295.1
      have fa295 : Fld Z T295.heap b205 "com/example/mursyn/mursyn/synthesis/SuccessorLists" "first" "[I" (.ref bf212) := fa295
      have fb295 : Fld Z T295.heap b205 "com/example/mursyn/mursyn/synthesis/SuccessorLists" "targets" "[I" (.ref bt212) := fb295
      have fc295 : Fld Z T295.heap b205 "com/example/mursyn/mursyn/synthesis/SuccessorLists" "edgeCount" "I" (.int (2 : Int32)) := fc295
      have fd295 : Fld Z T295.heap b205 "com/example/mursyn/mursyn/synthesis/SuccessorLists" "listed" "I" (.int (0 : Int32)) := fd295
      have vv295 : Arv Z T295.heap bt212 kt212 .int (16 : Int32) [(.int p1), (.int p2), (.int (0 : Int32)), (.int (0 : Int32)), (.int (0 : Int32)), (.int (0 : Int32)), (.int (0 : Int32)), (.int (0 : Int32)), (.int (0 : Int32)), (.int (0 : Int32)), (.int (0 : Int32)), (.int (0 : Int32)), (.int (0 : Int32)), (.int (0 : Int32)), (.int (0 : Int32)), (.int (0 : Int32))] (.int (0 : Int32)) := vv295
      refine own_pre (fun t k => st295.trans k) ?_
      show own_Ends _ _ _ _ (T295.setTop (mkF m 61 #[.val (.int p0), .val (.int p1), .val (.int p2), .val (.int (2 : Int32)), .val (.int x4), .val (.int (1 : Int32)), .val (.ref b205)] []))
      refine own_pre (fun t k => XS.aload X295.here hx rfl (hb hby at_61) rfl rfl k) ?_
      show own_Ends _ _ _ _ (T295.setTop (mkF m 63 #[.val (.int p0), .val (.int p1), .val (.int p2), .val (.int (2 : Int32)), .val (.int x4), .val (.int (1 : Int32)), .val (.ref b205)] [(.ref b205)]))
      obtain ⟨cq298, kq298, q298a, q298b, q298c⟩ := isOf hZ rfl f296
      obtain ⟨_, _, ⟨T298, L298, k298, n298⟩, -, X298, ⟨Lc298, hQ298, l298, y298, z298⟩, st298⟩ := X295.virtualBack hx (y := (⟨"com/example/mursyn/mursyn/synthesis/SuccessorLists", "close", "()V"⟩ : MethodName)) (z := (⟨"com/example/mursyn/mursyn/synthesis/SuccessorLists", "close", "()V"⟩ : MethodName)) hown (mvT hZ (hw _ (List.mem_of_getElem? (i := 14) rfl))) (mvT hZ (hw _ (List.mem_of_getElem? (i := 15) rfl))) (notFace_of_selects (args := #[]) (mvT hZ (hw _ (List.mem_of_getElem? (i := 17) rfl)))) (mvT hZ (hw _ (List.mem_of_getElem? (i := 17) rfl))) (mvT hZ (hw _ (List.mem_of_getElem? (i := 16) rfl))) (by decide) (backOf (W := 0) (rm3 l Z a0 hw [] b205 bf212 bt212 (2 : Int32) (0 : Int32) kf212 [(.int (0 : Int32)), (.int (0 : Int32)), (.int (0 : Int32)), (.int (0 : Int32)), (.int (0 : Int32)), (.int (0 : Int32)), (.int (0 : Int32)), (.int (0 : Int32)), (.int (0 : Int32)), (.int (0 : Int32)), (.int (0 : Int32)), (.int (0 : Int32)), (.int (0 : Int32)), (.int (0 : Int32)), (.int (0 : Int32)), (.int (0 : Int32)), (.int (0 : Int32))]  T295.heap n0 Zn295 f296 L206 la212 na212 fa295 fb295 fc295 fd295 f297 (by decide) ⟨by decide, by decide⟩ (Nat.le_of_ble_eq_true rfl)) hZ (hw _ (List.mem_of_getElem? (i := 18) rfl)) (hw _ (List.mem_of_getElem? (i := 2) rfl)) (by decide) (by decide)) q298a q298c (g := (mkF m 63 #[.val (.int p0), .val (.int p1), .val (.int p2), .val (.int (2 : Int32)), .val (.int x4), .val (.int (1 : Int32)), .val (.ref b205)] [(.ref b205)])) rfl (by rw [hml]; rfl) (Steps.refl _) (argsL := []) (rest := []) (lenOf own_pd0 rfl) rfl (by show 2 * 0 + _ ≤ _; exact Nat.le_of_eq rfl) (hb hby at_63) (fun _ _ => ⟨rfl, rfl, (by decide : 3 + 0 ≤ _), (by decide : 37 + 0 ≤ _)⟩)
      dsimp only [Pt.U, Pt.locs, Pt.cells, Pt.slots] at X298 l298 y298 z298 st298 hQ298
      subst l298 y298 z298
      obtain ⟨rfl, Nq298, Kq298, fa298, fb298, fc298, fd298, vv298⟩ := hQ298
      have N298 := Fr.app N295 Nq298
      have f299 := f296.keep Kq298
      have f300 := vv295.keep Kq298 (ninS (Ne.symm nb212) (ninS (Ne.symm nc212) nin0))
      have Zn298 : n0 ≤ T298.heap.size := Nat.le_trans Zn295 Kq298.1
      have fa298 : Fld Z T298.heap b205 "com/example/mursyn/mursyn/synthesis/SuccessorLists" "first" "[I" (.ref bf212) := fa298
      have fb298 : Fld Z T298.heap b205 "com/example/mursyn/mursyn/synthesis/SuccessorLists" "targets" "[I" (.ref bt212) := fb298
      have fc298 : Fld Z T298.heap b205 "com/example/mursyn/mursyn/synthesis/SuccessorLists" "edgeCount" "I" (.int (2 : Int32)) := fc298
      have fd298 : Fld Z T298.heap b205 "com/example/mursyn/mursyn/synthesis/SuccessorLists" "listed" "I" (.int (1 : Int32)) := fd298
      have vv298 : Arv Z T298.heap bf212 kf212 .int (17 : Int32) [(.int (0 : Int32)), (.int (2 : Int32)), (.int (0 : Int32)), (.int (0 : Int32)), (.int (0 : Int32)), (.int (0 : Int32)), (.int (0 : Int32)), (.int (0 : Int32)), (.int (0 : Int32)), (.int (0 : Int32)), (.int (0 : Int32)), (.int (0 : Int32)), (.int (0 : Int32)), (.int (0 : Int32)), (.int (0 : Int32)), (.int (0 : Int32)), (.int (0 : Int32))] (.int (0 : Int32)) := vv298
      refine own_pre (fun t k => st298.trans k) ?_
      show own_Ends _ _ _ _ (T298.setTop (mkF m 66 #[.val (.int p0), .val (.int p1), .val (.int p2), .val (.int (2 : Int32)), .val (.int x4), .val (.int (1 : Int32)), .val (.ref b205)] []))
      rcases own_c3 hx4 with hs301 | hs301 | hs301
      · subst hs301
        show own_Ends _ _ _ _ (T298.setTop (mkF m 66 #[.val (.int p0), .val (.int p1), .val (.int p2), .val (.int (2 : Int32)), .val (.int (0 : Int32)), .val (.int (1 : Int32)), .val (.ref b205)] []))
        refine own_pre (fun t k => XS.iload X298.here hx rfl (hb hby at_66) rfl k) ?_
        show own_Ends _ _ _ _ (T298.setTop (mkF m 68 #[.val (.int p0), .val (.int p1), .val (.int p2), .val (.int (2 : Int32)), .val (.int (0 : Int32)), .val (.int (1 : Int32)), .val (.ref b205)] [(.int (0 : Int32))]))
        refine own_pre (fun t k => XS.iconst X298.here hx rfl (hb hby at_68) k) ?_
        show own_Ends _ _ _ _ (T298.setTop (mkF m 69 #[.val (.int p0), .val (.int p1), .val (.int p2), .val (.int (2 : Int32)), .val (.int (0 : Int32)), .val (.int (1 : Int32)), .val (.ref b205)] [(.int (1 : Int32)), (.int (0 : Int32))]))
        refine own_pre (fun t k => XS.icmpYes X298.here hx rfl (pc0 := 69) (pc' := 78) rfl (hb hby at_69) rfl (tlt ((by decide) : (0 : Int32) < (1 : Int32))).1 (by decide) (by decide) k) ?_
        show own_Ends _ _ _ _ (T298.setTop (mkF m 78 #[.val (.int p0), .val (.int p1), .val (.int p2), .val (.int (2 : Int32)), .val (.int (0 : Int32)), .val (.int (1 : Int32)), .val (.ref b205)] []))
        refine own_pre (fun t k => XS.iload X298.here hx rfl (hb hby at_78) rfl k) ?_
        show own_Ends _ _ _ _ (T298.setTop (mkF m 80 #[.val (.int p0), .val (.int p1), .val (.int p2), .val (.int (2 : Int32)), .val (.int (0 : Int32)), .val (.int (1 : Int32)), .val (.ref b205)] [(.int (0 : Int32))]))
        refine own_pre (fun t k => XS.iconst X298.here hx rfl (hb hby at_80) k) ?_
        show own_Ends _ _ _ _ (T298.setTop (mkF m 81 #[.val (.int p0), .val (.int p1), .val (.int p2), .val (.int (2 : Int32)), .val (.int (0 : Int32)), .val (.int (1 : Int32)), .val (.ref b205)] [(.int (2 : Int32)), (.int (0 : Int32))]))
        refine own_pre (fun t k => XS.icmpYes X298.here hx rfl (pc0 := 81) (pc' := 90) rfl (hb hby at_81) rfl (tlt ((by decide) : (0 : Int32) < (2 : Int32))).1 (by decide) (by decide) k) ?_
        show own_Ends _ _ _ _ (T298.setTop (mkF m 90 #[.val (.int p0), .val (.int p1), .val (.int p2), .val (.int (2 : Int32)), .val (.int (0 : Int32)), .val (.int (1 : Int32)), .val (.ref b205)] []))
        refine own_pre (fun t k => XS.aload X298.here hx rfl (hb hby at_90) rfl rfl k) ?_
        show own_Ends _ _ _ _ (T298.setTop (mkF m 92 #[.val (.int p0), .val (.int p1), .val (.int p2), .val (.int (2 : Int32)), .val (.int (0 : Int32)), .val (.int (1 : Int32)), .val (.ref b205)] [(.ref b205)]))
        obtain ⟨cq302, kq302, q302a, q302b, q302c⟩ := isOf hZ rfl f299
        obtain ⟨_, _, ⟨T302, L302, k302, n302⟩, -, X302, ⟨Lc302, hQ302, l302, y302, z302⟩, st302⟩ := X298.virtualBack hx (y := (⟨"com/example/mursyn/mursyn/synthesis/SuccessorLists", "close", "()V"⟩ : MethodName)) (z := (⟨"com/example/mursyn/mursyn/synthesis/SuccessorLists", "close", "()V"⟩ : MethodName)) hown (mvT hZ (hw _ (List.mem_of_getElem? (i := 14) rfl))) (mvT hZ (hw _ (List.mem_of_getElem? (i := 15) rfl))) (notFace_of_selects (args := #[]) (mvT hZ (hw _ (List.mem_of_getElem? (i := 17) rfl)))) (mvT hZ (hw _ (List.mem_of_getElem? (i := 17) rfl))) (mvT hZ (hw _ (List.mem_of_getElem? (i := 16) rfl))) (by decide) (backOf (W := 0) (rm3 l Z a0 hw [] b205 bf212 bt212 (2 : Int32) (1 : Int32) kf212 [(.int (0 : Int32)), (.int (2 : Int32)), (.int (0 : Int32)), (.int (0 : Int32)), (.int (0 : Int32)), (.int (0 : Int32)), (.int (0 : Int32)), (.int (0 : Int32)), (.int (0 : Int32)), (.int (0 : Int32)), (.int (0 : Int32)), (.int (0 : Int32)), (.int (0 : Int32)), (.int (0 : Int32)), (.int (0 : Int32)), (.int (0 : Int32)), (.int (0 : Int32))]  T298.heap n0 Zn298 f299 L206 la212 na212 fa298 fb298 fc298 fd298 vv298 (by decide) ⟨by decide, by decide⟩ (Nat.le_of_ble_eq_true rfl)) hZ (hw _ (List.mem_of_getElem? (i := 18) rfl)) (hw _ (List.mem_of_getElem? (i := 2) rfl)) (by decide) (by decide)) q302a q302c (g := (mkF m 92 #[.val (.int p0), .val (.int p1), .val (.int p2), .val (.int (2 : Int32)), .val (.int (0 : Int32)), .val (.int (1 : Int32)), .val (.ref b205)] [(.ref b205)])) rfl (by rw [hml]; rfl) (Steps.refl _) (argsL := []) (rest := []) (lenOf own_pd0 rfl) rfl (by show 2 * 0 + _ ≤ _; exact Nat.le_of_eq rfl) (hb hby at_92) (fun _ _ => ⟨rfl, rfl, (by decide : 3 + 0 ≤ _), (by decide : 37 + 0 ≤ _)⟩)
        dsimp only [Pt.U, Pt.locs, Pt.cells, Pt.slots] at X302 l302 y302 z302 st302 hQ302
        subst l302 y302 z302
        obtain ⟨rfl, Nq302, Kq302, fa302, fb302, fc302, fd302, vv302⟩ := hQ302
        have N302 := Fr.app N298 Nq302
        have f303 := f299.keep Kq302
        have f304 := f300.keep Kq302 (ninS (Ne.symm nb212) (ninS (Ne.symm nc212) nin0))
        have Zn302 : n0 ≤ T302.heap.size := Nat.le_trans Zn298 Kq302.1
        have fa302 : Fld Z T302.heap b205 "com/example/mursyn/mursyn/synthesis/SuccessorLists" "first" "[I" (.ref bf212) := fa302
        have fb302 : Fld Z T302.heap b205 "com/example/mursyn/mursyn/synthesis/SuccessorLists" "targets" "[I" (.ref bt212) := fb302
        have fc302 : Fld Z T302.heap b205 "com/example/mursyn/mursyn/synthesis/SuccessorLists" "edgeCount" "I" (.int (2 : Int32)) := fc302
        have fd302 : Fld Z T302.heap b205 "com/example/mursyn/mursyn/synthesis/SuccessorLists" "listed" "I" (.int (2 : Int32)) := fd302
        have vv302 : Arv Z T302.heap bf212 kf212 .int (17 : Int32) [(.int (0 : Int32)), (.int (2 : Int32)), (.int (2 : Int32)), (.int (0 : Int32)), (.int (0 : Int32)), (.int (0 : Int32)), (.int (0 : Int32)), (.int (0 : Int32)), (.int (0 : Int32)), (.int (0 : Int32)), (.int (0 : Int32)), (.int (0 : Int32)), (.int (0 : Int32)), (.int (0 : Int32)), (.int (0 : Int32)), (.int (0 : Int32)), (.int (0 : Int32))] (.int (0 : Int32)) := vv302
        refine own_pre (fun t k => st302.trans k) ?_
        show own_Ends _ _ _ _ (T302.setTop (mkF m 95 #[.val (.int p0), .val (.int p1), .val (.int p2), .val (.int (2 : Int32)), .val (.int (0 : Int32)), .val (.int (1 : Int32)), .val (.ref b205)] []))
        refine own_pre (fun t k => XS.iload X302.here hx rfl (hb hby at_95) rfl k) ?_
        show own_Ends _ _ _ _ (T302.setTop (mkF m 97 #[.val (.int p0), .val (.int p1), .val (.int p2), .val (.int (2 : Int32)), .val (.int (0 : Int32)), .val (.int (1 : Int32)), .val (.ref b205)] [(.int (1 : Int32))]))
        refine own_pre (fun t k => XS.ifNo X302.here hx rfl (hb hby at_97) rfl ((if0 _ _).trans (feq ((by decide) : ¬ ((1 : Int32) = (0 : Int32)))).1) k) ?_
        show own_Ends _ _ _ _ (T302.setTop (mkF m 100 #[.val (.int p0), .val (.int p1), .val (.int p2), .val (.int (2 : Int32)), .val (.int (0 : Int32)), .val (.int (1 : Int32)), .val (.ref b205)] []))
        refine own_pre (fun t k => XS.aload X302.here hx rfl (hb hby at_100) rfl rfl k) ?_
        show own_Ends _ _ _ _ (T302.setTop (mkF m 102 #[.val (.int p0), .val (.int p1), .val (.int p2), .val (.int (2 : Int32)), .val (.int (0 : Int32)), .val (.int (1 : Int32)), .val (.ref b205)] [(.ref b205)]))
        refine own_pre (fun t k => XS.iloadN X302.here hx rfl (hb hby at_102) rfl k) ?_
        show own_Ends _ _ _ _ (T302.setTop (mkF m 103 #[.val (.int p0), .val (.int p1), .val (.int p2), .val (.int (2 : Int32)), .val (.int (0 : Int32)), .val (.int (1 : Int32)), .val (.ref b205)] [(.int p1), (.ref b205)]))
        obtain ⟨cq305, kq305, q305a, q305b, q305c⟩ := isOf hZ rfl f303
        obtain ⟨_, _, ⟨T305, L305, k305, n305⟩, -, X305, ⟨Lc305, hQ305, l305, y305, z305⟩, st305⟩ := X302.virtualBack hx (y := (⟨"com/example/mursyn/mursyn/synthesis/SuccessorLists", "add", "(I)V"⟩ : MethodName)) (z := (⟨"com/example/mursyn/mursyn/synthesis/SuccessorLists", "add", "(I)V"⟩ : MethodName)) hown (mvT hZ (hw _ (List.mem_of_getElem? (i := 28) rfl))) (mvT hZ (hw _ (List.mem_of_getElem? (i := 29) rfl))) (notFace_of_selects (args := #[]) (mvT hZ (hw _ (List.mem_of_getElem? (i := 31) rfl)))) (mvT hZ (hw _ (List.mem_of_getElem? (i := 31) rfl))) (mvT hZ (hw _ (List.mem_of_getElem? (i := 30) rfl))) (by decide) (backOf (W := 0) (rm2 l Z a0 hw [] b205 p1 bf212 bt212 (2 : Int32) (2 : Int32) kt212 [(.int p1), (.int p2), (.int (0 : Int32)), (.int (0 : Int32)), (.int (0 : Int32)), (.int (0 : Int32)), (.int (0 : Int32)), (.int (0 : Int32)), (.int (0 : Int32)), (.int (0 : Int32)), (.int (0 : Int32)), (.int (0 : Int32)), (.int (0 : Int32)), (.int (0 : Int32)), (.int (0 : Int32)), (.int (0 : Int32))]  T302.heap n0 Zn302 f303 L206 lb212 nb212 fa302 fb302 fc302 fd302 f304 (by decide) ⟨by decide, by decide⟩ (Nat.le_of_ble_eq_true rfl)) hZ (hw _ (List.mem_of_getElem? (i := 32) rfl)) (hw _ (List.mem_of_getElem? (i := 2) rfl)) (by decide) (by decide)) q305a q305c (g := (mkF m 103 #[.val (.int p0), .val (.int p1), .val (.int p2), .val (.int (2 : Int32)), .val (.int (0 : Int32)), .val (.int (1 : Int32)), .val (.ref b205)] [(.int p1), (.ref b205)])) rfl (by rw [hml]; rfl) (Steps.refl _) (argsL := [(.int p1)]) (rest := []) (lenOf own_pd2 rfl) rfl (by show 2 * 0 + _ ≤ _; exact Nat.le_of_eq rfl) (hb hby at_103) (fun _ _ => ⟨rfl, rfl, (by decide : 3 + 0 ≤ _), (by decide : 37 + 0 ≤ _)⟩)
        dsimp only [Pt.U, Pt.locs, Pt.cells, Pt.slots] at X305 l305 y305 z305 st305 hQ305
        subst l305 y305 z305
        obtain ⟨rfl, Nq305, Kq305, fa305, fb305, fc305, fd305, vv305⟩ := hQ305
        have N305 := Fr.app N302 Nq305
        have f306 := f303.keep Kq305
        have f307 := vv302.keep Kq305 (ninS (Ne.symm na212) (ninS nc212 nin0))
        have Zn305 : n0 ≤ T305.heap.size := Nat.le_trans Zn302 Kq305.1
        have fa305 : Fld Z T305.heap b205 "com/example/mursyn/mursyn/synthesis/SuccessorLists" "first" "[I" (.ref bf212) := fa305
        have fb305 : Fld Z T305.heap b205 "com/example/mursyn/mursyn/synthesis/SuccessorLists" "targets" "[I" (.ref bt212) := fb305
        have fc305 : Fld Z T305.heap b205 "com/example/mursyn/mursyn/synthesis/SuccessorLists" "edgeCount" "I" (.int (3 : Int32)) := fc305
        have fd305 : Fld Z T305.heap b205 "com/example/mursyn/mursyn/synthesis/SuccessorLists" "listed" "I" (.int (2 : Int32)) := fd305
        have vv305 : Arv Z T305.heap bt212 kt212 .int (16 : Int32) [(.int p1), (.int p2), (.int p1), (.int (0 : Int32)), (.int (0 : Int32)), (.int (0 : Int32)), (.int (0 : Int32)), (.int (0 : Int32)), (.int (0 : Int32)), (.int (0 : Int32)), (.int (0 : Int32)), (.int (0 : Int32)), (.int (0 : Int32)), (.int (0 : Int32)), (.int (0 : Int32)), (.int (0 : Int32))] (.int (0 : Int32)) := vv305
        refine own_pre (fun t k => st305.trans k) ?_
        show own_Ends _ _ _ _ (T305.setTop (mkF m 106 #[.val (.int p0), .val (.int p1), .val (.int p2), .val (.int (2 : Int32)), .val (.int (0 : Int32)), .val (.int (1 : Int32)), .val (.ref b205)] []))
        refine own_pre (fun t k => XS.aload X305.here hx rfl (hb hby at_106) rfl rfl k) ?_
        show own_Ends _ _ _ _ (T305.setTop (mkF m 108 #[.val (.int p0), .val (.int p1), .val (.int p2), .val (.int (2 : Int32)), .val (.int (0 : Int32)), .val (.int (1 : Int32)), .val (.ref b205)] [(.ref b205)]))
        refine own_pre (fun t k => XS.iconst X305.here hx rfl (hb hby at_108) k) ?_
        show own_Ends _ _ _ _ (T305.setTop (mkF m 109 #[.val (.int p0), .val (.int p1), .val (.int p2), .val (.int (2 : Int32)), .val (.int (0 : Int32)), .val (.int (1 : Int32)), .val (.ref b205)] [(.int (0 : Int32)), (.ref b205)]))
        obtain ⟨cq308, kq308, q308a, q308b, q308c⟩ := isOf hZ rfl f306
        obtain ⟨_, _, ⟨T308, L308, k308, n308⟩, -, X308, ⟨Lc308, hQ308, l308, y308, z308⟩, st308⟩ := X305.virtualBack hx (y := (⟨"com/example/mursyn/mursyn/synthesis/SuccessorLists", "count", "(I)I"⟩ : MethodName)) (z := (⟨"com/example/mursyn/mursyn/synthesis/SuccessorLists", "count", "(I)I"⟩ : MethodName)) hown (mvT hZ (hw _ (List.mem_of_getElem? (i := 23) rfl))) (mvT hZ (hw _ (List.mem_of_getElem? (i := 24) rfl))) (notFace_of_selects (args := #[]) (mvT hZ (hw _ (List.mem_of_getElem? (i := 26) rfl)))) (mvT hZ (hw _ (List.mem_of_getElem? (i := 26) rfl))) (mvT hZ (hw _ (List.mem_of_getElem? (i := 25) rfl))) (by decide) (backOf (W := 0) (rm4 l Z a0 hw [] b205 (0 : Int32) bf212 kf212 [(.int (0 : Int32)), (.int (2 : Int32)), (.int (2 : Int32)), (.int (0 : Int32)), (.int (0 : Int32)), (.int (0 : Int32)), (.int (0 : Int32)), (.int (0 : Int32)), (.int (0 : Int32)), (.int (0 : Int32)), (.int (0 : Int32)), (.int (0 : Int32)), (.int (0 : Int32)), (.int (0 : Int32)), (.int (0 : Int32)), (.int (0 : Int32)), (.int (0 : Int32))] (2 : Int32) (0 : Int32) T305.heap n0 Zn305 fa305 f307 ⟨by decide, by decide⟩ rfl ⟨by decide, by decide⟩ rfl) hZ (hw _ (List.mem_of_getElem? (i := 27) rfl)) (hw _ (List.mem_of_getElem? (i := 2) rfl)) (by decide) (by decide)) q308a q308c (g := (mkF m 109 #[.val (.int p0), .val (.int p1), .val (.int p2), .val (.int (2 : Int32)), .val (.int (0 : Int32)), .val (.int (1 : Int32)), .val (.ref b205)] [(.int (0 : Int32)), (.ref b205)])) rfl (by rw [hml]; rfl) (Steps.refl _) (argsL := [(.int (0 : Int32))]) (rest := []) (lenOf own_pd1 rfl) rfl (by show 2 * 0 + _ ≤ _; exact Nat.le_of_eq rfl) (hb hby at_109) (fun _ _ => ⟨rfl, rfl, (by decide : 3 + 0 ≤ _), (by decide : 37 + 0 ≤ _)⟩)
        dsimp only [Pt.U, Pt.locs, Pt.cells, Pt.slots] at X308 l308 y308 z308 st308 hQ308
        subst l308 y308 z308
        obtain ⟨rfl, Nq308, e308⟩ := hQ308
        have N308 := Fr.app N305 Nq308
        refine own_pre (fun t k => st308.trans k) ?_
        show own_Ends _ _ _ _ (T308.setTop (mkF m 112 #[.val (.int p0), .val (.int p1), .val (.int p2), .val (.int (2 : Int32)), .val (.int (0 : Int32)), .val (.int (1 : Int32)), .val (.ref b205)] [(.int (2 : Int32))]))
        refine own_pre (fun t k => XS.iloadN X308.here hx rfl (hb hby at_112) rfl k) ?_
        show own_Ends _ _ _ _ (T308.setTop (mkF m 113 #[.val (.int p0), .val (.int p1), .val (.int p2), .val (.int (2 : Int32)), .val (.int (0 : Int32)), .val (.int (1 : Int32)), .val (.ref b205)] [(.int (2 : Int32)), (.int (2 : Int32))]))
        refine own_pre (fun t k => XS.icmpNo X308.here hx rfl (hb hby at_113) rfl (teq ((by decide) : (2 : Int32) = (2 : Int32))).2 k) ?_
        show own_Ends _ _ _ _ (T308.setTop (mkF m 116 #[.val (.int p0), .val (.int p1), .val (.int p2), .val (.int (2 : Int32)), .val (.int (0 : Int32)), .val (.int (1 : Int32)), .val (.ref b205)] []))
        refine own_pre (fun t k => XS.aload X308.here hx rfl (hb hby at_116) rfl rfl k) ?_
        show own_Ends _ _ _ _ (T308.setTop (mkF m 118 #[.val (.int p0), .val (.int p1), .val (.int p2), .val (.int (2 : Int32)), .val (.int (0 : Int32)), .val (.int (1 : Int32)), .val (.ref b205)] [(.ref b205)]))
        refine own_pre (fun t k => XS.iconst X308.here hx rfl (hb hby at_118) k) ?_
        show own_Ends _ _ _ _ (T308.setTop (mkF m 119 #[.val (.int p0), .val (.int p1), .val (.int p2), .val (.int (2 : Int32)), .val (.int (0 : Int32)), .val (.int (1 : Int32)), .val (.ref b205)] [(.int (1 : Int32)), (.ref b205)]))
        obtain ⟨cq309, kq309, q309a, q309b, q309c⟩ := isOf hZ e308 f306
        obtain ⟨_, _, ⟨T309, L309, k309, n309⟩, -, X309, ⟨Lc309, hQ309, l309, y309, z309⟩, st309⟩ := X308.virtualBack hx (y := (⟨"com/example/mursyn/mursyn/synthesis/SuccessorLists", "count", "(I)I"⟩ : MethodName)) (z := (⟨"com/example/mursyn/mursyn/synthesis/SuccessorLists", "count", "(I)I"⟩ : MethodName)) hown (mvT hZ (hw _ (List.mem_of_getElem? (i := 23) rfl))) (mvT hZ (hw _ (List.mem_of_getElem? (i := 24) rfl))) (notFace_of_selects (args := #[]) (mvT hZ (hw _ (List.mem_of_getElem? (i := 26) rfl)))) (mvT hZ (hw _ (List.mem_of_getElem? (i := 26) rfl))) (mvT hZ (hw _ (List.mem_of_getElem? (i := 25) rfl))) (by decide) (backOf (W := 0) (rm4 l Z a0 hw [] b205 (1 : Int32) bf212 kf212 [(.int (0 : Int32)), (.int (2 : Int32)), (.int (2 : Int32)), (.int (0 : Int32)), (.int (0 : Int32)), (.int (0 : Int32)), (.int (0 : Int32)), (.int (0 : Int32)), (.int (0 : Int32)), (.int (0 : Int32)), (.int (0 : Int32)), (.int (0 : Int32)), (.int (0 : Int32)), (.int (0 : Int32)), (.int (0 : Int32)), (.int (0 : Int32)), (.int (0 : Int32))] (2 : Int32) (2 : Int32) T305.heap n0 Zn305 fa305 f307 ⟨by decide, by decide⟩ rfl ⟨by decide, by decide⟩ rfl) hZ (hw _ (List.mem_of_getElem? (i := 27) rfl)) (hw _ (List.mem_of_getElem? (i := 2) rfl)) (by decide) (by decide)) q309a q309c (g := (mkF m 119 #[.val (.int p0), .val (.int p1), .val (.int p2), .val (.int (2 : Int32)), .val (.int (0 : Int32)), .val (.int (1 : Int32)), .val (.ref b205)] [(.int (1 : Int32)), (.ref b205)])) rfl (by rw [hml]; rfl) (Steps.refl _) (argsL := [(.int (1 : Int32))]) (rest := []) (lenOf own_pd1 rfl) rfl (by show 2 * 0 + _ ≤ _; exact Nat.le_of_eq rfl) (hb hby at_119) (fun _ _ => ⟨rfl, e308, (by decide : 3 + 0 ≤ _), (by decide : 37 + 0 ≤ _)⟩)
        dsimp only [Pt.U, Pt.locs, Pt.cells, Pt.slots] at X309 l309 y309 z309 st309 hQ309
        subst l309 y309 z309
        obtain ⟨rfl, Nq309, e309⟩ := hQ309
        have N309 := Fr.app N308 Nq309
        refine own_pre (fun t k => st309.trans k) ?_
        show own_Ends _ _ _ _ (T309.setTop (mkF m 122 #[.val (.int p0), .val (.int p1), .val (.int p2), .val (.int (2 : Int32)), .val (.int (0 : Int32)), .val (.int (1 : Int32)), .val (.ref b205)] [(.int (0 : Int32))]))
        refine own_pre (fun t k => XS.iload X309.here hx rfl (hb hby at_122) rfl k) ?_
        show own_Ends _ _ _ _ (T309.setTop (mkF m 124 #[.val (.int p0), .val (.int p1), .val (.int p2), .val (.int (2 : Int32)), .val (.int (0 : Int32)), .val (.int (1 : Int32)), .val (.ref b205)] [(.int (0 : Int32)), (.int (0 : Int32))]))
        refine own_pre (fun t k => XS.icmpNo X309.here hx rfl (hb hby at_124) rfl (teq ((by decide) : (0 : Int32) = (0 : Int32))).2 k) ?_
        show own_Ends _ _ _ _ (T309.setTop (mkF m 127 #[.val (.int p0), .val (.int p1), .val (.int p2), .val (.int (2 : Int32)), .val (.int (0 : Int32)), .val (.int (1 : Int32)), .val (.ref b205)] []))
        refine own_pre (fun t k => XS.iconst X309.here hx rfl (hb hby at_127) k) ?_
        show own_Ends _ _ _ _ (T309.setTop (mkF m 128 #[.val (.int p0), .val (.int p1), .val (.int p2), .val (.int (2 : Int32)), .val (.int (0 : Int32)), .val (.int (1 : Int32)), .val (.ref b205)] [(.int (1 : Int32))]))
        refine own_pre (fun t k => XS.goto X309.here hx rfl (pc0 := 128) (pc' := 132) rfl (hb hby at_128) (by decide) (by decide) k) ?_
        show own_Ends _ _ _ _ (T309.setTop (mkF m 132 #[.val (.int p0), .val (.int p1), .val (.int p2), .val (.int (2 : Int32)), .val (.int (0 : Int32)), .val (.int (1 : Int32)), .val (.ref b205)] [(.int (1 : Int32))]))
        exact own_retN X309 hx (t := .boolean) Bd.returns (by simp) (hb hby at_132) hlk rfl e309 ⟨rfl, N309⟩ (by decide) (by decide)
      · subst hs301
        show own_Ends _ _ _ _ (T298.setTop (mkF m 66 #[.val (.int p0), .val (.int p1), .val (.int p2), .val (.int (2 : Int32)), .val (.int (1 : Int32)), .val (.int (1 : Int32)), .val (.ref b205)] []))
        refine own_pre (fun t k => XS.iload X298.here hx rfl (hb hby at_66) rfl k) ?_
        show own_Ends _ _ _ _ (T298.setTop (mkF m 68 #[.val (.int p0), .val (.int p1), .val (.int p2), .val (.int (2 : Int32)), .val (.int (1 : Int32)), .val (.int (1 : Int32)), .val (.ref b205)] [(.int (1 : Int32))]))
        refine own_pre (fun t k => XS.iconst X298.here hx rfl (hb hby at_68) k) ?_
        show own_Ends _ _ _ _ (T298.setTop (mkF m 69 #[.val (.int p0), .val (.int p1), .val (.int p2), .val (.int (2 : Int32)), .val (.int (1 : Int32)), .val (.int (1 : Int32)), .val (.ref b205)] [(.int (1 : Int32)), (.int (1 : Int32))]))
        refine own_pre (fun t k => XS.icmpNo X298.here hx rfl (hb hby at_69) rfl (flt ((by decide) : ¬ ((1 : Int32) < (1 : Int32)))).1 k) ?_
        show own_Ends _ _ _ _ (T298.setTop (mkF m 72 #[.val (.int p0), .val (.int p1), .val (.int p2), .val (.int (2 : Int32)), .val (.int (1 : Int32)), .val (.int (1 : Int32)), .val (.ref b205)] []))
        refine own_pre (fun t k => XS.aload X298.here hx rfl (hb hby at_72) rfl rfl k) ?_
        show own_Ends _ _ _ _ (T298.setTop (mkF m 74 #[.val (.int p0), .val (.int p1), .val (.int p2), .val (.int (2 : Int32)), .val (.int (1 : Int32)), .val (.int (1 : Int32)), .val (.ref b205)] [(.ref b205)]))
        refine own_pre (fun t k => XS.iloadN X298.here hx rfl (hb hby at_74) rfl k) ?_
        show own_Ends _ _ _ _ (T298.setTop (mkF m 75 #[.val (.int p0), .val (.int p1), .val (.int p2), .val (.int (2 : Int32)), .val (.int (1 : Int32)), .val (.int (1 : Int32)), .val (.ref b205)] [(.int p2), (.ref b205)]))
        obtain ⟨cq310, kq310, q310a, q310b, q310c⟩ := isOf hZ rfl f299
        obtain ⟨_, _, ⟨T310, L310, k310, n310⟩, -, X310, ⟨Lc310, hQ310, l310, y310, z310⟩, st310⟩ := X298.virtualBack hx (y := (⟨"com/example/mursyn/mursyn/synthesis/SuccessorLists", "add", "(I)V"⟩ : MethodName)) (z := (⟨"com/example/mursyn/mursyn/synthesis/SuccessorLists", "add", "(I)V"⟩ : MethodName)) hown (mvT hZ (hw _ (List.mem_of_getElem? (i := 28) rfl))) (mvT hZ (hw _ (List.mem_of_getElem? (i := 29) rfl))) (notFace_of_selects (args := #[]) (mvT hZ (hw _ (List.mem_of_getElem? (i := 31) rfl)))) (mvT hZ (hw _ (List.mem_of_getElem? (i := 31) rfl))) (mvT hZ (hw _ (List.mem_of_getElem? (i := 30) rfl))) (by decide) (backOf (W := 0) (rm2 l Z a0 hw [] b205 p2 bf212 bt212 (2 : Int32) (1 : Int32) kt212 [(.int p1), (.int p2), (.int (0 : Int32)), (.int (0 : Int32)), (.int (0 : Int32)), (.int (0 : Int32)), (.int (0 : Int32)), (.int (0 : Int32)), (.int (0 : Int32)), (.int (0 : Int32)), (.int (0 : Int32)), (.int (0 : Int32)), (.int (0 : Int32)), (.int (0 : Int32)), (.int (0 : Int32)), (.int (0 : Int32))]  T298.heap n0 Zn298 f299 L206 lb212 nb212 fa298 fb298 fc298 fd298 f300 (by decide) ⟨by decide, by decide⟩ (Nat.le_of_ble_eq_true rfl)) hZ (hw _ (List.mem_of_getElem? (i := 32) rfl)) (hw _ (List.mem_of_getElem? (i := 2) rfl)) (by decide) (by decide)) q310a q310c (g := (mkF m 75 #[.val (.int p0), .val (.int p1), .val (.int p2), .val (.int (2 : Int32)), .val (.int (1 : Int32)), .val (.int (1 : Int32)), .val (.ref b205)] [(.int p2), (.ref b205)])) rfl (by rw [hml]; rfl) (Steps.refl _) (argsL := [(.int p2)]) (rest := []) (lenOf own_pd2 rfl) rfl (by show 2 * 0 + _ ≤ _; exact Nat.le_of_eq rfl) (hb hby at_75) (fun _ _ => ⟨rfl, rfl, (by decide : 3 + 0 ≤ _), (by decide : 37 + 0 ≤ _)⟩)
        dsimp only [Pt.U, Pt.locs, Pt.cells, Pt.slots] at X310 l310 y310 z310 st310 hQ310
        subst l310 y310 z310
        obtain ⟨rfl, Nq310, Kq310, fa310, fb310, fc310, fd310, vv310⟩ := hQ310
        have N310 := Fr.app N298 Nq310
        have f311 := f299.keep Kq310
        have f312 := vv298.keep Kq310 (ninS (Ne.symm na212) (ninS nc212 nin0))
        have Zn310 : n0 ≤ T310.heap.size := Nat.le_trans Zn298 Kq310.1
        have fa310 : Fld Z T310.heap b205 "com/example/mursyn/mursyn/synthesis/SuccessorLists" "first" "[I" (.ref bf212) := fa310
        have fb310 : Fld Z T310.heap b205 "com/example/mursyn/mursyn/synthesis/SuccessorLists" "targets" "[I" (.ref bt212) := fb310
        have fc310 : Fld Z T310.heap b205 "com/example/mursyn/mursyn/synthesis/SuccessorLists" "edgeCount" "I" (.int (3 : Int32)) := fc310
        have fd310 : Fld Z T310.heap b205 "com/example/mursyn/mursyn/synthesis/SuccessorLists" "listed" "I" (.int (1 : Int32)) := fd310
        have vv310 : Arv Z T310.heap bt212 kt212 .int (16 : Int32) [(.int p1), (.int p2), (.int p2), (.int (0 : Int32)), (.int (0 : Int32)), (.int (0 : Int32)), (.int (0 : Int32)), (.int (0 : Int32)), (.int (0 : Int32)), (.int (0 : Int32)), (.int (0 : Int32)), (.int (0 : Int32)), (.int (0 : Int32)), (.int (0 : Int32)), (.int (0 : Int32)), (.int (0 : Int32))] (.int (0 : Int32)) := vv310
        refine own_pre (fun t k => st310.trans k) ?_
        show own_Ends _ _ _ _ (T310.setTop (mkF m 78 #[.val (.int p0), .val (.int p1), .val (.int p2), .val (.int (2 : Int32)), .val (.int (1 : Int32)), .val (.int (1 : Int32)), .val (.ref b205)] []))
        refine own_pre (fun t k => XS.iload X310.here hx rfl (hb hby at_78) rfl k) ?_
        show own_Ends _ _ _ _ (T310.setTop (mkF m 80 #[.val (.int p0), .val (.int p1), .val (.int p2), .val (.int (2 : Int32)), .val (.int (1 : Int32)), .val (.int (1 : Int32)), .val (.ref b205)] [(.int (1 : Int32))]))
        refine own_pre (fun t k => XS.iconst X310.here hx rfl (hb hby at_80) k) ?_
        show own_Ends _ _ _ _ (T310.setTop (mkF m 81 #[.val (.int p0), .val (.int p1), .val (.int p2), .val (.int (2 : Int32)), .val (.int (1 : Int32)), .val (.int (1 : Int32)), .val (.ref b205)] [(.int (2 : Int32)), (.int (1 : Int32))]))
        refine own_pre (fun t k => XS.icmpYes X310.here hx rfl (pc0 := 81) (pc' := 90) rfl (hb hby at_81) rfl (tlt ((by decide) : (1 : Int32) < (2 : Int32))).1 (by decide) (by decide) k) ?_
        show own_Ends _ _ _ _ (T310.setTop (mkF m 90 #[.val (.int p0), .val (.int p1), .val (.int p2), .val (.int (2 : Int32)), .val (.int (1 : Int32)), .val (.int (1 : Int32)), .val (.ref b205)] []))
        refine own_pre (fun t k => XS.aload X310.here hx rfl (hb hby at_90) rfl rfl k) ?_
        show own_Ends _ _ _ _ (T310.setTop (mkF m 92 #[.val (.int p0), .val (.int p1), .val (.int p2), .val (.int (2 : Int32)), .val (.int (1 : Int32)), .val (.int (1 : Int32)), .val (.ref b205)] [(.ref b205)]))
        obtain ⟨cq313, kq313, q313a, q313b, q313c⟩ := isOf hZ rfl f311
        obtain ⟨_, _, ⟨T313, L313, k313, n313⟩, -, X313, ⟨Lc313, hQ313, l313, y313, z313⟩, st313⟩ := X310.virtualBack hx (y := (⟨"com/example/mursyn/mursyn/synthesis/SuccessorLists", "close", "()V"⟩ : MethodName)) (z := (⟨"com/example/mursyn/mursyn/synthesis/SuccessorLists", "close", "()V"⟩ : MethodName)) hown (mvT hZ (hw _ (List.mem_of_getElem? (i := 14) rfl))) (mvT hZ (hw _ (List.mem_of_getElem? (i := 15) rfl))) (notFace_of_selects (args := #[]) (mvT hZ (hw _ (List.mem_of_getElem? (i := 17) rfl)))) (mvT hZ (hw _ (List.mem_of_getElem? (i := 17) rfl))) (mvT hZ (hw _ (List.mem_of_getElem? (i := 16) rfl))) (by decide) (backOf (W := 0) (rm3 l Z a0 hw [] b205 bf212 bt212 (3 : Int32) (1 : Int32) kf212 [(.int (0 : Int32)), (.int (2 : Int32)), (.int (0 : Int32)), (.int (0 : Int32)), (.int (0 : Int32)), (.int (0 : Int32)), (.int (0 : Int32)), (.int (0 : Int32)), (.int (0 : Int32)), (.int (0 : Int32)), (.int (0 : Int32)), (.int (0 : Int32)), (.int (0 : Int32)), (.int (0 : Int32)), (.int (0 : Int32)), (.int (0 : Int32)), (.int (0 : Int32))]  T310.heap n0 Zn310 f311 L206 la212 na212 fa310 fb310 fc310 fd310 f312 (by decide) ⟨by decide, by decide⟩ (Nat.le_of_ble_eq_true rfl)) hZ (hw _ (List.mem_of_getElem? (i := 18) rfl)) (hw _ (List.mem_of_getElem? (i := 2) rfl)) (by decide) (by decide)) q313a q313c (g := (mkF m 92 #[.val (.int p0), .val (.int p1), .val (.int p2), .val (.int (2 : Int32)), .val (.int (1 : Int32)), .val (.int (1 : Int32)), .val (.ref b205)] [(.ref b205)])) rfl (by rw [hml]; rfl) (Steps.refl _) (argsL := []) (rest := []) (lenOf own_pd0 rfl) rfl (by show 2 * 0 + _ ≤ _; exact Nat.le_of_eq rfl) (hb hby at_92) (fun _ _ => ⟨rfl, rfl, (by decide : 3 + 0 ≤ _), (by decide : 37 + 0 ≤ _)⟩)
        dsimp only [Pt.U, Pt.locs, Pt.cells, Pt.slots] at X313 l313 y313 z313 st313 hQ313
        subst l313 y313 z313
        obtain ⟨rfl, Nq313, Kq313, fa313, fb313, fc313, fd313, vv313⟩ := hQ313
        have N313 := Fr.app N310 Nq313
        have f314 := f311.keep Kq313
        have f315 := vv310.keep Kq313 (ninS (Ne.symm nb212) (ninS (Ne.symm nc212) nin0))
        have Zn313 : n0 ≤ T313.heap.size := Nat.le_trans Zn310 Kq313.1
        have fa313 : Fld Z T313.heap b205 "com/example/mursyn/mursyn/synthesis/SuccessorLists" "first" "[I" (.ref bf212) := fa313
        have fb313 : Fld Z T313.heap b205 "com/example/mursyn/mursyn/synthesis/SuccessorLists" "targets" "[I" (.ref bt212) := fb313
        have fc313 : Fld Z T313.heap b205 "com/example/mursyn/mursyn/synthesis/SuccessorLists" "edgeCount" "I" (.int (3 : Int32)) := fc313
        have fd313 : Fld Z T313.heap b205 "com/example/mursyn/mursyn/synthesis/SuccessorLists" "listed" "I" (.int (2 : Int32)) := fd313
        have vv313 : Arv Z T313.heap bf212 kf212 .int (17 : Int32) [(.int (0 : Int32)), (.int (2 : Int32)), (.int (3 : Int32)), (.int (0 : Int32)), (.int (0 : Int32)), (.int (0 : Int32)), (.int (0 : Int32)), (.int (0 : Int32)), (.int (0 : Int32)), (.int (0 : Int32)), (.int (0 : Int32)), (.int (0 : Int32)), (.int (0 : Int32)), (.int (0 : Int32)), (.int (0 : Int32)), (.int (0 : Int32)), (.int (0 : Int32))] (.int (0 : Int32)) := vv313
        refine own_pre (fun t k => st313.trans k) ?_
        show own_Ends _ _ _ _ (T313.setTop (mkF m 95 #[.val (.int p0), .val (.int p1), .val (.int p2), .val (.int (2 : Int32)), .val (.int (1 : Int32)), .val (.int (1 : Int32)), .val (.ref b205)] []))
        refine own_pre (fun t k => XS.iload X313.here hx rfl (hb hby at_95) rfl k) ?_
        show own_Ends _ _ _ _ (T313.setTop (mkF m 97 #[.val (.int p0), .val (.int p1), .val (.int p2), .val (.int (2 : Int32)), .val (.int (1 : Int32)), .val (.int (1 : Int32)), .val (.ref b205)] [(.int (1 : Int32))]))
        refine own_pre (fun t k => XS.ifNo X313.here hx rfl (hb hby at_97) rfl ((if0 _ _).trans (feq ((by decide) : ¬ ((1 : Int32) = (0 : Int32)))).1) k) ?_
        show own_Ends _ _ _ _ (T313.setTop (mkF m 100 #[.val (.int p0), .val (.int p1), .val (.int p2), .val (.int (2 : Int32)), .val (.int (1 : Int32)), .val (.int (1 : Int32)), .val (.ref b205)] []))
        refine own_pre (fun t k => XS.aload X313.here hx rfl (hb hby at_100) rfl rfl k) ?_
        show own_Ends _ _ _ _ (T313.setTop (mkF m 102 #[.val (.int p0), .val (.int p1), .val (.int p2), .val (.int (2 : Int32)), .val (.int (1 : Int32)), .val (.int (1 : Int32)), .val (.ref b205)] [(.ref b205)]))
        refine own_pre (fun t k => XS.iloadN X313.here hx rfl (hb hby at_102) rfl k) ?_
        show own_Ends _ _ _ _ (T313.setTop (mkF m 103 #[.val (.int p0), .val (.int p1), .val (.int p2), .val (.int (2 : Int32)), .val (.int (1 : Int32)), .val (.int (1 : Int32)), .val (.ref b205)] [(.int p1), (.ref b205)]))
        obtain ⟨cq316, kq316, q316a, q316b, q316c⟩ := isOf hZ rfl f314
        obtain ⟨_, _, ⟨T316, L316, k316, n316⟩, -, X316, ⟨Lc316, hQ316, l316, y316, z316⟩, st316⟩ := X313.virtualBack hx (y := (⟨"com/example/mursyn/mursyn/synthesis/SuccessorLists", "add", "(I)V"⟩ : MethodName)) (z := (⟨"com/example/mursyn/mursyn/synthesis/SuccessorLists", "add", "(I)V"⟩ : MethodName)) hown (mvT hZ (hw _ (List.mem_of_getElem? (i := 28) rfl))) (mvT hZ (hw _ (List.mem_of_getElem? (i := 29) rfl))) (notFace_of_selects (args := #[]) (mvT hZ (hw _ (List.mem_of_getElem? (i := 31) rfl)))) (mvT hZ (hw _ (List.mem_of_getElem? (i := 31) rfl))) (mvT hZ (hw _ (List.mem_of_getElem? (i := 30) rfl))) (by decide) (backOf (W := 0) (rm2 l Z a0 hw [] b205 p1 bf212 bt212 (3 : Int32) (2 : Int32) kt212 [(.int p1), (.int p2), (.int p2), (.int (0 : Int32)), (.int (0 : Int32)), (.int (0 : Int32)), (.int (0 : Int32)), (.int (0 : Int32)), (.int (0 : Int32)), (.int (0 : Int32)), (.int (0 : Int32)), (.int (0 : Int32)), (.int (0 : Int32)), (.int (0 : Int32)), (.int (0 : Int32)), (.int (0 : Int32))]  T313.heap n0 Zn313 f314 L206 lb212 nb212 fa313 fb313 fc313 fd313 f315 (by decide) ⟨by decide, by decide⟩ (Nat.le_of_ble_eq_true rfl)) hZ (hw _ (List.mem_of_getElem? (i := 32) rfl)) (hw _ (List.mem_of_getElem? (i := 2) rfl)) (by decide) (by decide)) q316a q316c (g := (mkF m 103 #[.val (.int p0), .val (.int p1), .val (.int p2), .val (.int (2 : Int32)), .val (.int (1 : Int32)), .val (.int (1 : Int32)), .val (.ref b205)] [(.int p1), (.ref b205)])) rfl (by rw [hml]; rfl) (Steps.refl _) (argsL := [(.int p1)]) (rest := []) (lenOf own_pd2 rfl) rfl (by show 2 * 0 + _ ≤ _; exact Nat.le_of_eq rfl) (hb hby at_103) (fun _ _ => ⟨rfl, rfl, (by decide : 3 + 0 ≤ _), (by decide : 37 + 0 ≤ _)⟩)
        dsimp only [Pt.U, Pt.locs, Pt.cells, Pt.slots] at X316 l316 y316 z316 st316 hQ316
        subst l316 y316 z316
        obtain ⟨rfl, Nq316, Kq316, fa316, fb316, fc316, fd316, vv316⟩ := hQ316
        have N316 := Fr.app N313 Nq316
        have f317 := f314.keep Kq316
        have f318 := vv313.keep Kq316 (ninS (Ne.symm na212) (ninS nc212 nin0))
        have Zn316 : n0 ≤ T316.heap.size := Nat.le_trans Zn313 Kq316.1
        have fa316 : Fld Z T316.heap b205 "com/example/mursyn/mursyn/synthesis/SuccessorLists" "first" "[I" (.ref bf212) := fa316
        have fb316 : Fld Z T316.heap b205 "com/example/mursyn/mursyn/synthesis/SuccessorLists" "targets" "[I" (.ref bt212) := fb316
        have fc316 : Fld Z T316.heap b205 "com/example/mursyn/mursyn/synthesis/SuccessorLists" "edgeCount" "I" (.int (4 : Int32)) := fc316
        have fd316 : Fld Z T316.heap b205 "com/example/mursyn/mursyn/synthesis/SuccessorLists" "listed" "I" (.int (2 : Int32)) := fd316
        have vv316 : Arv Z T316.heap bt212 kt212 .int (16 : Int32) [(.int p1), (.int p2), (.int p2), (.int p1), (.int (0 : Int32)), (.int (0 : Int32)), (.int (0 : Int32)), (.int (0 : Int32)), (.int (0 : Int32)), (.int (0 : Int32)), (.int (0 : Int32)), (.int (0 : Int32)), (.int (0 : Int32)), (.int (0 : Int32)), (.int (0 : Int32)), (.int (0 : Int32))] (.int (0 : Int32)) := vv316
        refine own_pre (fun t k => st316.trans k) ?_
        show own_Ends _ _ _ _ (T316.setTop (mkF m 106 #[.val (.int p0), .val (.int p1), .val (.int p2), .val (.int (2 : Int32)), .val (.int (1 : Int32)), .val (.int (1 : Int32)), .val (.ref b205)] []))
        refine own_pre (fun t k => XS.aload X316.here hx rfl (hb hby at_106) rfl rfl k) ?_
        show own_Ends _ _ _ _ (T316.setTop (mkF m 108 #[.val (.int p0), .val (.int p1), .val (.int p2), .val (.int (2 : Int32)), .val (.int (1 : Int32)), .val (.int (1 : Int32)), .val (.ref b205)] [(.ref b205)]))
        refine own_pre (fun t k => XS.iconst X316.here hx rfl (hb hby at_108) k) ?_
        show own_Ends _ _ _ _ (T316.setTop (mkF m 109 #[.val (.int p0), .val (.int p1), .val (.int p2), .val (.int (2 : Int32)), .val (.int (1 : Int32)), .val (.int (1 : Int32)), .val (.ref b205)] [(.int (0 : Int32)), (.ref b205)]))
        obtain ⟨cq319, kq319, q319a, q319b, q319c⟩ := isOf hZ rfl f317
        obtain ⟨_, _, ⟨T319, L319, k319, n319⟩, -, X319, ⟨Lc319, hQ319, l319, y319, z319⟩, st319⟩ := X316.virtualBack hx (y := (⟨"com/example/mursyn/mursyn/synthesis/SuccessorLists", "count", "(I)I"⟩ : MethodName)) (z := (⟨"com/example/mursyn/mursyn/synthesis/SuccessorLists", "count", "(I)I"⟩ : MethodName)) hown (mvT hZ (hw _ (List.mem_of_getElem? (i := 23) rfl))) (mvT hZ (hw _ (List.mem_of_getElem? (i := 24) rfl))) (notFace_of_selects (args := #[]) (mvT hZ (hw _ (List.mem_of_getElem? (i := 26) rfl)))) (mvT hZ (hw _ (List.mem_of_getElem? (i := 26) rfl))) (mvT hZ (hw _ (List.mem_of_getElem? (i := 25) rfl))) (by decide) (backOf (W := 0) (rm4 l Z a0 hw [] b205 (0 : Int32) bf212 kf212 [(.int (0 : Int32)), (.int (2 : Int32)), (.int (3 : Int32)), (.int (0 : Int32)), (.int (0 : Int32)), (.int (0 : Int32)), (.int (0 : Int32)), (.int (0 : Int32)), (.int (0 : Int32)), (.int (0 : Int32)), (.int (0 : Int32)), (.int (0 : Int32)), (.int (0 : Int32)), (.int (0 : Int32)), (.int (0 : Int32)), (.int (0 : Int32)), (.int (0 : Int32))] (2 : Int32) (0 : Int32) T316.heap n0 Zn316 fa316 f318 ⟨by decide, by decide⟩ rfl ⟨by decide, by decide⟩ rfl) hZ (hw _ (List.mem_of_getElem? (i := 27) rfl)) (hw _ (List.mem_of_getElem? (i := 2) rfl)) (by decide) (by decide)) q319a q319c (g := (mkF m 109 #[.val (.int p0), .val (.int p1), .val (.int p2), .val (.int (2 : Int32)), .val (.int (1 : Int32)), .val (.int (1 : Int32)), .val (.ref b205)] [(.int (0 : Int32)), (.ref b205)])) rfl (by rw [hml]; rfl) (Steps.refl _) (argsL := [(.int (0 : Int32))]) (rest := []) (lenOf own_pd1 rfl) rfl (by show 2 * 0 + _ ≤ _; exact Nat.le_of_eq rfl) (hb hby at_109) (fun _ _ => ⟨rfl, rfl, (by decide : 3 + 0 ≤ _), (by decide : 37 + 0 ≤ _)⟩)
        dsimp only [Pt.U, Pt.locs, Pt.cells, Pt.slots] at X319 l319 y319 z319 st319 hQ319
        subst l319 y319 z319
        obtain ⟨rfl, Nq319, e319⟩ := hQ319
        have N319 := Fr.app N316 Nq319
        refine own_pre (fun t k => st319.trans k) ?_
        show own_Ends _ _ _ _ (T319.setTop (mkF m 112 #[.val (.int p0), .val (.int p1), .val (.int p2), .val (.int (2 : Int32)), .val (.int (1 : Int32)), .val (.int (1 : Int32)), .val (.ref b205)] [(.int (2 : Int32))]))
        refine own_pre (fun t k => XS.iloadN X319.here hx rfl (hb hby at_112) rfl k) ?_
        show own_Ends _ _ _ _ (T319.setTop (mkF m 113 #[.val (.int p0), .val (.int p1), .val (.int p2), .val (.int (2 : Int32)), .val (.int (1 : Int32)), .val (.int (1 : Int32)), .val (.ref b205)] [(.int (2 : Int32)), (.int (2 : Int32))]))
        refine own_pre (fun t k => XS.icmpNo X319.here hx rfl (hb hby at_113) rfl (teq ((by decide) : (2 : Int32) = (2 : Int32))).2 k) ?_
        show own_Ends _ _ _ _ (T319.setTop (mkF m 116 #[.val (.int p0), .val (.int p1), .val (.int p2), .val (.int (2 : Int32)), .val (.int (1 : Int32)), .val (.int (1 : Int32)), .val (.ref b205)] []))
        refine own_pre (fun t k => XS.aload X319.here hx rfl (hb hby at_116) rfl rfl k) ?_
        show own_Ends _ _ _ _ (T319.setTop (mkF m 118 #[.val (.int p0), .val (.int p1), .val (.int p2), .val (.int (2 : Int32)), .val (.int (1 : Int32)), .val (.int (1 : Int32)), .val (.ref b205)] [(.ref b205)]))
        refine own_pre (fun t k => XS.iconst X319.here hx rfl (hb hby at_118) k) ?_
        show own_Ends _ _ _ _ (T319.setTop (mkF m 119 #[.val (.int p0), .val (.int p1), .val (.int p2), .val (.int (2 : Int32)), .val (.int (1 : Int32)), .val (.int (1 : Int32)), .val (.ref b205)] [(.int (1 : Int32)), (.ref b205)]))
        obtain ⟨cq320, kq320, q320a, q320b, q320c⟩ := isOf hZ e319 f317
        obtain ⟨_, _, ⟨T320, L320, k320, n320⟩, -, X320, ⟨Lc320, hQ320, l320, y320, z320⟩, st320⟩ := X319.virtualBack hx (y := (⟨"com/example/mursyn/mursyn/synthesis/SuccessorLists", "count", "(I)I"⟩ : MethodName)) (z := (⟨"com/example/mursyn/mursyn/synthesis/SuccessorLists", "count", "(I)I"⟩ : MethodName)) hown (mvT hZ (hw _ (List.mem_of_getElem? (i := 23) rfl))) (mvT hZ (hw _ (List.mem_of_getElem? (i := 24) rfl))) (notFace_of_selects (args := #[]) (mvT hZ (hw _ (List.mem_of_getElem? (i := 26) rfl)))) (mvT hZ (hw _ (List.mem_of_getElem? (i := 26) rfl))) (mvT hZ (hw _ (List.mem_of_getElem? (i := 25) rfl))) (by decide) (backOf (W := 0) (rm4 l Z a0 hw [] b205 (1 : Int32) bf212 kf212 [(.int (0 : Int32)), (.int (2 : Int32)), (.int (3 : Int32)), (.int (0 : Int32)), (.int (0 : Int32)), (.int (0 : Int32)), (.int (0 : Int32)), (.int (0 : Int32)), (.int (0 : Int32)), (.int (0 : Int32)), (.int (0 : Int32)), (.int (0 : Int32)), (.int (0 : Int32)), (.int (0 : Int32)), (.int (0 : Int32)), (.int (0 : Int32)), (.int (0 : Int32))] (3 : Int32) (2 : Int32) T316.heap n0 Zn316 fa316 f318 ⟨by decide, by decide⟩ rfl ⟨by decide, by decide⟩ rfl) hZ (hw _ (List.mem_of_getElem? (i := 27) rfl)) (hw _ (List.mem_of_getElem? (i := 2) rfl)) (by decide) (by decide)) q320a q320c (g := (mkF m 119 #[.val (.int p0), .val (.int p1), .val (.int p2), .val (.int (2 : Int32)), .val (.int (1 : Int32)), .val (.int (1 : Int32)), .val (.ref b205)] [(.int (1 : Int32)), (.ref b205)])) rfl (by rw [hml]; rfl) (Steps.refl _) (argsL := [(.int (1 : Int32))]) (rest := []) (lenOf own_pd1 rfl) rfl (by show 2 * 0 + _ ≤ _; exact Nat.le_of_eq rfl) (hb hby at_119) (fun _ _ => ⟨rfl, e319, (by decide : 3 + 0 ≤ _), (by decide : 37 + 0 ≤ _)⟩)
        dsimp only [Pt.U, Pt.locs, Pt.cells, Pt.slots] at X320 l320 y320 z320 st320 hQ320
        subst l320 y320 z320
        obtain ⟨rfl, Nq320, e320⟩ := hQ320
        have N320 := Fr.app N319 Nq320
        refine own_pre (fun t k => st320.trans k) ?_
        show own_Ends _ _ _ _ (T320.setTop (mkF m 122 #[.val (.int p0), .val (.int p1), .val (.int p2), .val (.int (2 : Int32)), .val (.int (1 : Int32)), .val (.int (1 : Int32)), .val (.ref b205)] [(.int (1 : Int32))]))
        refine own_pre (fun t k => XS.iload X320.here hx rfl (hb hby at_122) rfl k) ?_
        show own_Ends _ _ _ _ (T320.setTop (mkF m 124 #[.val (.int p0), .val (.int p1), .val (.int p2), .val (.int (2 : Int32)), .val (.int (1 : Int32)), .val (.int (1 : Int32)), .val (.ref b205)] [(.int (1 : Int32)), (.int (1 : Int32))]))
        refine own_pre (fun t k => XS.icmpNo X320.here hx rfl (hb hby at_124) rfl (teq ((by decide) : (1 : Int32) = (1 : Int32))).2 k) ?_
        show own_Ends _ _ _ _ (T320.setTop (mkF m 127 #[.val (.int p0), .val (.int p1), .val (.int p2), .val (.int (2 : Int32)), .val (.int (1 : Int32)), .val (.int (1 : Int32)), .val (.ref b205)] []))
        refine own_pre (fun t k => XS.iconst X320.here hx rfl (hb hby at_127) k) ?_
        show own_Ends _ _ _ _ (T320.setTop (mkF m 128 #[.val (.int p0), .val (.int p1), .val (.int p2), .val (.int (2 : Int32)), .val (.int (1 : Int32)), .val (.int (1 : Int32)), .val (.ref b205)] [(.int (1 : Int32))]))
        refine own_pre (fun t k => XS.goto X320.here hx rfl (pc0 := 128) (pc' := 132) rfl (hb hby at_128) (by decide) (by decide) k) ?_
        show own_Ends _ _ _ _ (T320.setTop (mkF m 132 #[.val (.int p0), .val (.int p1), .val (.int p2), .val (.int (2 : Int32)), .val (.int (1 : Int32)), .val (.int (1 : Int32)), .val (.ref b205)] [(.int (1 : Int32))]))
        exact own_retN X320 hx (t := .boolean) Bd.returns (by simp) (hb hby at_132) hlk rfl e320 ⟨rfl, N320⟩ (by decide) (by decide)
      · subst hs301
        show own_Ends _ _ _ _ (T298.setTop (mkF m 66 #[.val (.int p0), .val (.int p1), .val (.int p2), .val (.int (2 : Int32)), .val (.int (2 : Int32)), .val (.int (1 : Int32)), .val (.ref b205)] []))
        refine own_pre (fun t k => XS.iload X298.here hx rfl (hb hby at_66) rfl k) ?_
        show own_Ends _ _ _ _ (T298.setTop (mkF m 68 #[.val (.int p0), .val (.int p1), .val (.int p2), .val (.int (2 : Int32)), .val (.int (2 : Int32)), .val (.int (1 : Int32)), .val (.ref b205)] [(.int (2 : Int32))]))
        refine own_pre (fun t k => XS.iconst X298.here hx rfl (hb hby at_68) k) ?_
        show own_Ends _ _ _ _ (T298.setTop (mkF m 69 #[.val (.int p0), .val (.int p1), .val (.int p2), .val (.int (2 : Int32)), .val (.int (2 : Int32)), .val (.int (1 : Int32)), .val (.ref b205)] [(.int (1 : Int32)), (.int (2 : Int32))]))
        refine own_pre (fun t k => XS.icmpNo X298.here hx rfl (hb hby at_69) rfl (flt ((by decide) : ¬ ((2 : Int32) < (1 : Int32)))).1 k) ?_
        show own_Ends _ _ _ _ (T298.setTop (mkF m 72 #[.val (.int p0), .val (.int p1), .val (.int p2), .val (.int (2 : Int32)), .val (.int (2 : Int32)), .val (.int (1 : Int32)), .val (.ref b205)] []))
        refine own_pre (fun t k => XS.aload X298.here hx rfl (hb hby at_72) rfl rfl k) ?_
        show own_Ends _ _ _ _ (T298.setTop (mkF m 74 #[.val (.int p0), .val (.int p1), .val (.int p2), .val (.int (2 : Int32)), .val (.int (2 : Int32)), .val (.int (1 : Int32)), .val (.ref b205)] [(.ref b205)]))
        refine own_pre (fun t k => XS.iloadN X298.here hx rfl (hb hby at_74) rfl k) ?_
        show own_Ends _ _ _ _ (T298.setTop (mkF m 75 #[.val (.int p0), .val (.int p1), .val (.int p2), .val (.int (2 : Int32)), .val (.int (2 : Int32)), .val (.int (1 : Int32)), .val (.ref b205)] [(.int p2), (.ref b205)]))
        obtain ⟨cq321, kq321, q321a, q321b, q321c⟩ := isOf hZ rfl f299
        obtain ⟨_, _, ⟨T321, L321, k321, n321⟩, -, X321, ⟨Lc321, hQ321, l321, y321, z321⟩, st321⟩ := X298.virtualBack hx (y := (⟨"com/example/mursyn/mursyn/synthesis/SuccessorLists", "add", "(I)V"⟩ : MethodName)) (z := (⟨"com/example/mursyn/mursyn/synthesis/SuccessorLists", "add", "(I)V"⟩ : MethodName)) hown (mvT hZ (hw _ (List.mem_of_getElem? (i := 28) rfl))) (mvT hZ (hw _ (List.mem_of_getElem? (i := 29) rfl))) (notFace_of_selects (args := #[]) (mvT hZ (hw _ (List.mem_of_getElem? (i := 31) rfl)))) (mvT hZ (hw _ (List.mem_of_getElem? (i := 31) rfl))) (mvT hZ (hw _ (List.mem_of_getElem? (i := 30) rfl))) (by decide) (backOf (W := 0) (rm2 l Z a0 hw [] b205 p2 bf212 bt212 (2 : Int32) (1 : Int32) kt212 [(.int p1), (.int p2), (.int (0 : Int32)), (.int (0 : Int32)), (.int (0 : Int32)), (.int (0 : Int32)), (.int (0 : Int32)), (.int (0 : Int32)), (.int (0 : Int32)), (.int (0 : Int32)), (.int (0 : Int32)), (.int (0 : Int32)), (.int (0 : Int32)), (.int (0 : Int32)), (.int (0 : Int32)), (.int (0 : Int32))]  T298.heap n0 Zn298 f299 L206 lb212 nb212 fa298 fb298 fc298 fd298 f300 (by decide) ⟨by decide, by decide⟩ (Nat.le_of_ble_eq_true rfl)) hZ (hw _ (List.mem_of_getElem? (i := 32) rfl)) (hw _ (List.mem_of_getElem? (i := 2) rfl)) (by decide) (by decide)) q321a q321c (g := (mkF m 75 #[.val (.int p0), .val (.int p1), .val (.int p2), .val (.int (2 : Int32)), .val (.int (2 : Int32)), .val (.int (1 : Int32)), .val (.ref b205)] [(.int p2), (.ref b205)])) rfl (by rw [hml]; rfl) (Steps.refl _) (argsL := [(.int p2)]) (rest := []) (lenOf own_pd2 rfl) rfl (by show 2 * 0 + _ ≤ _; exact Nat.le_of_eq rfl) (hb hby at_75) (fun _ _ => ⟨rfl, rfl, (by decide : 3 + 0 ≤ _), (by decide : 37 + 0 ≤ _)⟩)
        dsimp only [Pt.U, Pt.locs, Pt.cells, Pt.slots] at X321 l321 y321 z321 st321 hQ321
        subst l321 y321 z321
        obtain ⟨rfl, Nq321, Kq321, fa321, fb321, fc321, fd321, vv321⟩ := hQ321
        have N321 := Fr.app N298 Nq321
        have f322 := f299.keep Kq321
        have f323 := vv298.keep Kq321 (ninS (Ne.symm na212) (ninS nc212 nin0))
        have Zn321 : n0 ≤ T321.heap.size := Nat.le_trans Zn298 Kq321.1
        have fa321 : Fld Z T321.heap b205 "com/example/mursyn/mursyn/synthesis/SuccessorLists" "first" "[I" (.ref bf212) := fa321
        have fb321 : Fld Z T321.heap b205 "com/example/mursyn/mursyn/synthesis/SuccessorLists" "targets" "[I" (.ref bt212) := fb321
        have fc321 : Fld Z T321.heap b205 "com/example/mursyn/mursyn/synthesis/SuccessorLists" "edgeCount" "I" (.int (3 : Int32)) := fc321
        have fd321 : Fld Z T321.heap b205 "com/example/mursyn/mursyn/synthesis/SuccessorLists" "listed" "I" (.int (1 : Int32)) := fd321
        have vv321 : Arv Z T321.heap bt212 kt212 .int (16 : Int32) [(.int p1), (.int p2), (.int p2), (.int (0 : Int32)), (.int (0 : Int32)), (.int (0 : Int32)), (.int (0 : Int32)), (.int (0 : Int32)), (.int (0 : Int32)), (.int (0 : Int32)), (.int (0 : Int32)), (.int (0 : Int32)), (.int (0 : Int32)), (.int (0 : Int32)), (.int (0 : Int32)), (.int (0 : Int32))] (.int (0 : Int32)) := vv321
        refine own_pre (fun t k => st321.trans k) ?_
        show own_Ends _ _ _ _ (T321.setTop (mkF m 78 #[.val (.int p0), .val (.int p1), .val (.int p2), .val (.int (2 : Int32)), .val (.int (2 : Int32)), .val (.int (1 : Int32)), .val (.ref b205)] []))
        refine own_pre (fun t k => XS.iload X321.here hx rfl (hb hby at_78) rfl k) ?_
        show own_Ends _ _ _ _ (T321.setTop (mkF m 80 #[.val (.int p0), .val (.int p1), .val (.int p2), .val (.int (2 : Int32)), .val (.int (2 : Int32)), .val (.int (1 : Int32)), .val (.ref b205)] [(.int (2 : Int32))]))
        refine own_pre (fun t k => XS.iconst X321.here hx rfl (hb hby at_80) k) ?_
        show own_Ends _ _ _ _ (T321.setTop (mkF m 81 #[.val (.int p0), .val (.int p1), .val (.int p2), .val (.int (2 : Int32)), .val (.int (2 : Int32)), .val (.int (1 : Int32)), .val (.ref b205)] [(.int (2 : Int32)), (.int (2 : Int32))]))
        refine own_pre (fun t k => XS.icmpNo X321.here hx rfl (hb hby at_81) rfl (flt ((by decide) : ¬ ((2 : Int32) < (2 : Int32)))).1 k) ?_
        show own_Ends _ _ _ _ (T321.setTop (mkF m 84 #[.val (.int p0), .val (.int p1), .val (.int p2), .val (.int (2 : Int32)), .val (.int (2 : Int32)), .val (.int (1 : Int32)), .val (.ref b205)] []))
        refine own_pre (fun t k => XS.aload X321.here hx rfl (hb hby at_84) rfl rfl k) ?_
        show own_Ends _ _ _ _ (T321.setTop (mkF m 86 #[.val (.int p0), .val (.int p1), .val (.int p2), .val (.int (2 : Int32)), .val (.int (2 : Int32)), .val (.int (1 : Int32)), .val (.ref b205)] [(.ref b205)]))
        refine own_pre (fun t k => XS.iloadN X321.here hx rfl (hb hby at_86) rfl k) ?_
        show own_Ends _ _ _ _ (T321.setTop (mkF m 87 #[.val (.int p0), .val (.int p1), .val (.int p2), .val (.int (2 : Int32)), .val (.int (2 : Int32)), .val (.int (1 : Int32)), .val (.ref b205)] [(.int p1), (.ref b205)]))
        obtain ⟨cq324, kq324, q324a, q324b, q324c⟩ := isOf hZ rfl f322
        obtain ⟨_, _, ⟨T324, L324, k324, n324⟩, -, X324, ⟨Lc324, hQ324, l324, y324, z324⟩, st324⟩ := X321.virtualBack hx (y := (⟨"com/example/mursyn/mursyn/synthesis/SuccessorLists", "add", "(I)V"⟩ : MethodName)) (z := (⟨"com/example/mursyn/mursyn/synthesis/SuccessorLists", "add", "(I)V"⟩ : MethodName)) hown (mvT hZ (hw _ (List.mem_of_getElem? (i := 28) rfl))) (mvT hZ (hw _ (List.mem_of_getElem? (i := 29) rfl))) (notFace_of_selects (args := #[]) (mvT hZ (hw _ (List.mem_of_getElem? (i := 31) rfl)))) (mvT hZ (hw _ (List.mem_of_getElem? (i := 31) rfl))) (mvT hZ (hw _ (List.mem_of_getElem? (i := 30) rfl))) (by decide) (backOf (W := 0) (rm2 l Z a0 hw [] b205 p1 bf212 bt212 (3 : Int32) (1 : Int32) kt212 [(.int p1), (.int p2), (.int p2), (.int (0 : Int32)), (.int (0 : Int32)), (.int (0 : Int32)), (.int (0 : Int32)), (.int (0 : Int32)), (.int (0 : Int32)), (.int (0 : Int32)), (.int (0 : Int32)), (.int (0 : Int32)), (.int (0 : Int32)), (.int (0 : Int32)), (.int (0 : Int32)), (.int (0 : Int32))]  T321.heap n0 Zn321 f322 L206 lb212 nb212 fa321 fb321 fc321 fd321 vv321 (by decide) ⟨by decide, by decide⟩ (Nat.le_of_ble_eq_true rfl)) hZ (hw _ (List.mem_of_getElem? (i := 32) rfl)) (hw _ (List.mem_of_getElem? (i := 2) rfl)) (by decide) (by decide)) q324a q324c (g := (mkF m 87 #[.val (.int p0), .val (.int p1), .val (.int p2), .val (.int (2 : Int32)), .val (.int (2 : Int32)), .val (.int (1 : Int32)), .val (.ref b205)] [(.int p1), (.ref b205)])) rfl (by rw [hml]; rfl) (Steps.refl _) (argsL := [(.int p1)]) (rest := []) (lenOf own_pd2 rfl) rfl (by show 2 * 0 + _ ≤ _; exact Nat.le_of_eq rfl) (hb hby at_87) (fun _ _ => ⟨rfl, rfl, (by decide : 3 + 0 ≤ _), (by decide : 37 + 0 ≤ _)⟩)
        dsimp only [Pt.U, Pt.locs, Pt.cells, Pt.slots] at X324 l324 y324 z324 st324 hQ324
        subst l324 y324 z324
        obtain ⟨rfl, Nq324, Kq324, fa324, fb324, fc324, fd324, vv324⟩ := hQ324
        have N324 := Fr.app N321 Nq324
        have f325 := f322.keep Kq324
        have f326 := f323.keep Kq324 (ninS (Ne.symm na212) (ninS nc212 nin0))
        have Zn324 : n0 ≤ T324.heap.size := Nat.le_trans Zn321 Kq324.1
        have fa324 : Fld Z T324.heap b205 "com/example/mursyn/mursyn/synthesis/SuccessorLists" "first" "[I" (.ref bf212) := fa324
        have fb324 : Fld Z T324.heap b205 "com/example/mursyn/mursyn/synthesis/SuccessorLists" "targets" "[I" (.ref bt212) := fb324
        have fc324 : Fld Z T324.heap b205 "com/example/mursyn/mursyn/synthesis/SuccessorLists" "edgeCount" "I" (.int (4 : Int32)) := fc324
        have fd324 : Fld Z T324.heap b205 "com/example/mursyn/mursyn/synthesis/SuccessorLists" "listed" "I" (.int (1 : Int32)) := fd324
        have vv324 : Arv Z T324.heap bt212 kt212 .int (16 : Int32) [(.int p1), (.int p2), (.int p2), (.int p1), (.int (0 : Int32)), (.int (0 : Int32)), (.int (0 : Int32)), (.int (0 : Int32)), (.int (0 : Int32)), (.int (0 : Int32)), (.int (0 : Int32)), (.int (0 : Int32)), (.int (0 : Int32)), (.int (0 : Int32)), (.int (0 : Int32)), (.int (0 : Int32))] (.int (0 : Int32)) := vv324
        refine own_pre (fun t k => st324.trans k) ?_
        show own_Ends _ _ _ _ (T324.setTop (mkF m 90 #[.val (.int p0), .val (.int p1), .val (.int p2), .val (.int (2 : Int32)), .val (.int (2 : Int32)), .val (.int (1 : Int32)), .val (.ref b205)] []))
        refine own_pre (fun t k => XS.aload X324.here hx rfl (hb hby at_90) rfl rfl k) ?_
        show own_Ends _ _ _ _ (T324.setTop (mkF m 92 #[.val (.int p0), .val (.int p1), .val (.int p2), .val (.int (2 : Int32)), .val (.int (2 : Int32)), .val (.int (1 : Int32)), .val (.ref b205)] [(.ref b205)]))
        obtain ⟨cq327, kq327, q327a, q327b, q327c⟩ := isOf hZ rfl f325
        obtain ⟨_, _, ⟨T327, L327, k327, n327⟩, -, X327, ⟨Lc327, hQ327, l327, y327, z327⟩, st327⟩ := X324.virtualBack hx (y := (⟨"com/example/mursyn/mursyn/synthesis/SuccessorLists", "close", "()V"⟩ : MethodName)) (z := (⟨"com/example/mursyn/mursyn/synthesis/SuccessorLists", "close", "()V"⟩ : MethodName)) hown (mvT hZ (hw _ (List.mem_of_getElem? (i := 14) rfl))) (mvT hZ (hw _ (List.mem_of_getElem? (i := 15) rfl))) (notFace_of_selects (args := #[]) (mvT hZ (hw _ (List.mem_of_getElem? (i := 17) rfl)))) (mvT hZ (hw _ (List.mem_of_getElem? (i := 17) rfl))) (mvT hZ (hw _ (List.mem_of_getElem? (i := 16) rfl))) (by decide) (backOf (W := 0) (rm3 l Z a0 hw [] b205 bf212 bt212 (4 : Int32) (1 : Int32) kf212 [(.int (0 : Int32)), (.int (2 : Int32)), (.int (0 : Int32)), (.int (0 : Int32)), (.int (0 : Int32)), (.int (0 : Int32)), (.int (0 : Int32)), (.int (0 : Int32)), (.int (0 : Int32)), (.int (0 : Int32)), (.int (0 : Int32)), (.int (0 : Int32)), (.int (0 : Int32)), (.int (0 : Int32)), (.int (0 : Int32)), (.int (0 : Int32)), (.int (0 : Int32))]  T324.heap n0 Zn324 f325 L206 la212 na212 fa324 fb324 fc324 fd324 f326 (by decide) ⟨by decide, by decide⟩ (Nat.le_of_ble_eq_true rfl)) hZ (hw _ (List.mem_of_getElem? (i := 18) rfl)) (hw _ (List.mem_of_getElem? (i := 2) rfl)) (by decide) (by decide)) q327a q327c (g := (mkF m 92 #[.val (.int p0), .val (.int p1), .val (.int p2), .val (.int (2 : Int32)), .val (.int (2 : Int32)), .val (.int (1 : Int32)), .val (.ref b205)] [(.ref b205)])) rfl (by rw [hml]; rfl) (Steps.refl _) (argsL := []) (rest := []) (lenOf own_pd0 rfl) rfl (by show 2 * 0 + _ ≤ _; exact Nat.le_of_eq rfl) (hb hby at_92) (fun _ _ => ⟨rfl, rfl, (by decide : 3 + 0 ≤ _), (by decide : 37 + 0 ≤ _)⟩)
        dsimp only [Pt.U, Pt.locs, Pt.cells, Pt.slots] at X327 l327 y327 z327 st327 hQ327
        subst l327 y327 z327
        obtain ⟨rfl, Nq327, Kq327, fa327, fb327, fc327, fd327, vv327⟩ := hQ327
        have N327 := Fr.app N324 Nq327
        have f328 := f325.keep Kq327
        have f329 := vv324.keep Kq327 (ninS (Ne.symm nb212) (ninS (Ne.symm nc212) nin0))
        have Zn327 : n0 ≤ T327.heap.size := Nat.le_trans Zn324 Kq327.1
        have fa327 : Fld Z T327.heap b205 "com/example/mursyn/mursyn/synthesis/SuccessorLists" "first" "[I" (.ref bf212) := fa327
        have fb327 : Fld Z T327.heap b205 "com/example/mursyn/mursyn/synthesis/SuccessorLists" "targets" "[I" (.ref bt212) := fb327
        have fc327 : Fld Z T327.heap b205 "com/example/mursyn/mursyn/synthesis/SuccessorLists" "edgeCount" "I" (.int (4 : Int32)) := fc327
        have fd327 : Fld Z T327.heap b205 "com/example/mursyn/mursyn/synthesis/SuccessorLists" "listed" "I" (.int (2 : Int32)) := fd327
        have vv327 : Arv Z T327.heap bf212 kf212 .int (17 : Int32) [(.int (0 : Int32)), (.int (2 : Int32)), (.int (4 : Int32)), (.int (0 : Int32)), (.int (0 : Int32)), (.int (0 : Int32)), (.int (0 : Int32)), (.int (0 : Int32)), (.int (0 : Int32)), (.int (0 : Int32)), (.int (0 : Int32)), (.int (0 : Int32)), (.int (0 : Int32)), (.int (0 : Int32)), (.int (0 : Int32)), (.int (0 : Int32)), (.int (0 : Int32))] (.int (0 : Int32)) := vv327
        refine own_pre (fun t k => st327.trans k) ?_
        show own_Ends _ _ _ _ (T327.setTop (mkF m 95 #[.val (.int p0), .val (.int p1), .val (.int p2), .val (.int (2 : Int32)), .val (.int (2 : Int32)), .val (.int (1 : Int32)), .val (.ref b205)] []))
        refine own_pre (fun t k => XS.iload X327.here hx rfl (hb hby at_95) rfl k) ?_
        show own_Ends _ _ _ _ (T327.setTop (mkF m 97 #[.val (.int p0), .val (.int p1), .val (.int p2), .val (.int (2 : Int32)), .val (.int (2 : Int32)), .val (.int (1 : Int32)), .val (.ref b205)] [(.int (1 : Int32))]))
        refine own_pre (fun t k => XS.ifNo X327.here hx rfl (hb hby at_97) rfl ((if0 _ _).trans (feq ((by decide) : ¬ ((1 : Int32) = (0 : Int32)))).1) k) ?_
        show own_Ends _ _ _ _ (T327.setTop (mkF m 100 #[.val (.int p0), .val (.int p1), .val (.int p2), .val (.int (2 : Int32)), .val (.int (2 : Int32)), .val (.int (1 : Int32)), .val (.ref b205)] []))
        refine own_pre (fun t k => XS.aload X327.here hx rfl (hb hby at_100) rfl rfl k) ?_
        show own_Ends _ _ _ _ (T327.setTop (mkF m 102 #[.val (.int p0), .val (.int p1), .val (.int p2), .val (.int (2 : Int32)), .val (.int (2 : Int32)), .val (.int (1 : Int32)), .val (.ref b205)] [(.ref b205)]))
        refine own_pre (fun t k => XS.iloadN X327.here hx rfl (hb hby at_102) rfl k) ?_
        show own_Ends _ _ _ _ (T327.setTop (mkF m 103 #[.val (.int p0), .val (.int p1), .val (.int p2), .val (.int (2 : Int32)), .val (.int (2 : Int32)), .val (.int (1 : Int32)), .val (.ref b205)] [(.int p1), (.ref b205)]))
        obtain ⟨cq330, kq330, q330a, q330b, q330c⟩ := isOf hZ rfl f328
        obtain ⟨_, _, ⟨T330, L330, k330, n330⟩, -, X330, ⟨Lc330, hQ330, l330, y330, z330⟩, st330⟩ := X327.virtualBack hx (y := (⟨"com/example/mursyn/mursyn/synthesis/SuccessorLists", "add", "(I)V"⟩ : MethodName)) (z := (⟨"com/example/mursyn/mursyn/synthesis/SuccessorLists", "add", "(I)V"⟩ : MethodName)) hown (mvT hZ (hw _ (List.mem_of_getElem? (i := 28) rfl))) (mvT hZ (hw _ (List.mem_of_getElem? (i := 29) rfl))) (notFace_of_selects (args := #[]) (mvT hZ (hw _ (List.mem_of_getElem? (i := 31) rfl)))) (mvT hZ (hw _ (List.mem_of_getElem? (i := 31) rfl))) (mvT hZ (hw _ (List.mem_of_getElem? (i := 30) rfl))) (by decide) (backOf (W := 0) (rm2 l Z a0 hw [] b205 p1 bf212 bt212 (4 : Int32) (2 : Int32) kt212 [(.int p1), (.int p2), (.int p2), (.int p1), (.int (0 : Int32)), (.int (0 : Int32)), (.int (0 : Int32)), (.int (0 : Int32)), (.int (0 : Int32)), (.int (0 : Int32)), (.int (0 : Int32)), (.int (0 : Int32)), (.int (0 : Int32)), (.int (0 : Int32)), (.int (0 : Int32)), (.int (0 : Int32))]  T327.heap n0 Zn327 f328 L206 lb212 nb212 fa327 fb327 fc327 fd327 f329 (by decide) ⟨by decide, by decide⟩ (Nat.le_of_ble_eq_true rfl)) hZ (hw _ (List.mem_of_getElem? (i := 32) rfl)) (hw _ (List.mem_of_getElem? (i := 2) rfl)) (by decide) (by decide)) q330a q330c (g := (mkF m 103 #[.val (.int p0), .val (.int p1), .val (.int p2), .val (.int (2 : Int32)), .val (.int (2 : Int32)), .val (.int (1 : Int32)), .val (.ref b205)] [(.int p1), (.ref b205)])) rfl (by rw [hml]; rfl) (Steps.refl _) (argsL := [(.int p1)]) (rest := []) (lenOf own_pd2 rfl) rfl (by show 2 * 0 + _ ≤ _; exact Nat.le_of_eq rfl) (hb hby at_103) (fun _ _ => ⟨rfl, rfl, (by decide : 3 + 0 ≤ _), (by decide : 37 + 0 ≤ _)⟩)
        dsimp only [Pt.U, Pt.locs, Pt.cells, Pt.slots] at X330 l330 y330 z330 st330 hQ330
        subst l330 y330 z330
        obtain ⟨rfl, Nq330, Kq330, fa330, fb330, fc330, fd330, vv330⟩ := hQ330
        have N330 := Fr.app N327 Nq330
        have f331 := f328.keep Kq330
        have f332 := vv327.keep Kq330 (ninS (Ne.symm na212) (ninS nc212 nin0))
        have Zn330 : n0 ≤ T330.heap.size := Nat.le_trans Zn327 Kq330.1
        have fa330 : Fld Z T330.heap b205 "com/example/mursyn/mursyn/synthesis/SuccessorLists" "first" "[I" (.ref bf212) := fa330
        have fb330 : Fld Z T330.heap b205 "com/example/mursyn/mursyn/synthesis/SuccessorLists" "targets" "[I" (.ref bt212) := fb330
        have fc330 : Fld Z T330.heap b205 "com/example/mursyn/mursyn/synthesis/SuccessorLists" "edgeCount" "I" (.int (5 : Int32)) := fc330
        have fd330 : Fld Z T330.heap b205 "com/example/mursyn/mursyn/synthesis/SuccessorLists" "listed" "I" (.int (2 : Int32)) := fd330
        have vv330 : Arv Z T330.heap bt212 kt212 .int (16 : Int32) [(.int p1), (.int p2), (.int p2), (.int p1), (.int p1), (.int (0 : Int32)), (.int (0 : Int32)), (.int (0 : Int32)), (.int (0 : Int32)), (.int (0 : Int32)), (.int (0 : Int32)), (.int (0 : Int32)), (.int (0 : Int32)), (.int (0 : Int32)), (.int (0 : Int32)), (.int (0 : Int32))] (.int (0 : Int32)) := vv330
        refine own_pre (fun t k => st330.trans k) ?_
        show own_Ends _ _ _ _ (T330.setTop (mkF m 106 #[.val (.int p0), .val (.int p1), .val (.int p2), .val (.int (2 : Int32)), .val (.int (2 : Int32)), .val (.int (1 : Int32)), .val (.ref b205)] []))
        refine own_pre (fun t k => XS.aload X330.here hx rfl (hb hby at_106) rfl rfl k) ?_
        show own_Ends _ _ _ _ (T330.setTop (mkF m 108 #[.val (.int p0), .val (.int p1), .val (.int p2), .val (.int (2 : Int32)), .val (.int (2 : Int32)), .val (.int (1 : Int32)), .val (.ref b205)] [(.ref b205)]))
        refine own_pre (fun t k => XS.iconst X330.here hx rfl (hb hby at_108) k) ?_
        show own_Ends _ _ _ _ (T330.setTop (mkF m 109 #[.val (.int p0), .val (.int p1), .val (.int p2), .val (.int (2 : Int32)), .val (.int (2 : Int32)), .val (.int (1 : Int32)), .val (.ref b205)] [(.int (0 : Int32)), (.ref b205)]))
        obtain ⟨cq333, kq333, q333a, q333b, q333c⟩ := isOf hZ rfl f331
        obtain ⟨_, _, ⟨T333, L333, k333, n333⟩, -, X333, ⟨Lc333, hQ333, l333, y333, z333⟩, st333⟩ := X330.virtualBack hx (y := (⟨"com/example/mursyn/mursyn/synthesis/SuccessorLists", "count", "(I)I"⟩ : MethodName)) (z := (⟨"com/example/mursyn/mursyn/synthesis/SuccessorLists", "count", "(I)I"⟩ : MethodName)) hown (mvT hZ (hw _ (List.mem_of_getElem? (i := 23) rfl))) (mvT hZ (hw _ (List.mem_of_getElem? (i := 24) rfl))) (notFace_of_selects (args := #[]) (mvT hZ (hw _ (List.mem_of_getElem? (i := 26) rfl)))) (mvT hZ (hw _ (List.mem_of_getElem? (i := 26) rfl))) (mvT hZ (hw _ (List.mem_of_getElem? (i := 25) rfl))) (by decide) (backOf (W := 0) (rm4 l Z a0 hw [] b205 (0 : Int32) bf212 kf212 [(.int (0 : Int32)), (.int (2 : Int32)), (.int (4 : Int32)), (.int (0 : Int32)), (.int (0 : Int32)), (.int (0 : Int32)), (.int (0 : Int32)), (.int (0 : Int32)), (.int (0 : Int32)), (.int (0 : Int32)), (.int (0 : Int32)), (.int (0 : Int32)), (.int (0 : Int32)), (.int (0 : Int32)), (.int (0 : Int32)), (.int (0 : Int32)), (.int (0 : Int32))] (2 : Int32) (0 : Int32) T330.heap n0 Zn330 fa330 f332 ⟨by decide, by decide⟩ rfl ⟨by decide, by decide⟩ rfl) hZ (hw _ (List.mem_of_getElem? (i := 27) rfl)) (hw _ (List.mem_of_getElem? (i := 2) rfl)) (by decide) (by decide)) q333a q333c (g := (mkF m 109 #[.val (.int p0), .val (.int p1), .val (.int p2), .val (.int (2 : Int32)), .val (.int (2 : Int32)), .val (.int (1 : Int32)), .val (.ref b205)] [(.int (0 : Int32)), (.ref b205)])) rfl (by rw [hml]; rfl) (Steps.refl _) (argsL := [(.int (0 : Int32))]) (rest := []) (lenOf own_pd1 rfl) rfl (by show 2 * 0 + _ ≤ _; exact Nat.le_of_eq rfl) (hb hby at_109) (fun _ _ => ⟨rfl, rfl, (by decide : 3 + 0 ≤ _), (by decide : 37 + 0 ≤ _)⟩)
        dsimp only [Pt.U, Pt.locs, Pt.cells, Pt.slots] at X333 l333 y333 z333 st333 hQ333
        subst l333 y333 z333
        obtain ⟨rfl, Nq333, e333⟩ := hQ333
        have N333 := Fr.app N330 Nq333
        refine own_pre (fun t k => st333.trans k) ?_
        show own_Ends _ _ _ _ (T333.setTop (mkF m 112 #[.val (.int p0), .val (.int p1), .val (.int p2), .val (.int (2 : Int32)), .val (.int (2 : Int32)), .val (.int (1 : Int32)), .val (.ref b205)] [(.int (2 : Int32))]))
        refine own_pre (fun t k => XS.iloadN X333.here hx rfl (hb hby at_112) rfl k) ?_
        show own_Ends _ _ _ _ (T333.setTop (mkF m 113 #[.val (.int p0), .val (.int p1), .val (.int p2), .val (.int (2 : Int32)), .val (.int (2 : Int32)), .val (.int (1 : Int32)), .val (.ref b205)] [(.int (2 : Int32)), (.int (2 : Int32))]))
        refine own_pre (fun t k => XS.icmpNo X333.here hx rfl (hb hby at_113) rfl (teq ((by decide) : (2 : Int32) = (2 : Int32))).2 k) ?_
        show own_Ends _ _ _ _ (T333.setTop (mkF m 116 #[.val (.int p0), .val (.int p1), .val (.int p2), .val (.int (2 : Int32)), .val (.int (2 : Int32)), .val (.int (1 : Int32)), .val (.ref b205)] []))
        refine own_pre (fun t k => XS.aload X333.here hx rfl (hb hby at_116) rfl rfl k) ?_
        show own_Ends _ _ _ _ (T333.setTop (mkF m 118 #[.val (.int p0), .val (.int p1), .val (.int p2), .val (.int (2 : Int32)), .val (.int (2 : Int32)), .val (.int (1 : Int32)), .val (.ref b205)] [(.ref b205)]))
        refine own_pre (fun t k => XS.iconst X333.here hx rfl (hb hby at_118) k) ?_
        show own_Ends _ _ _ _ (T333.setTop (mkF m 119 #[.val (.int p0), .val (.int p1), .val (.int p2), .val (.int (2 : Int32)), .val (.int (2 : Int32)), .val (.int (1 : Int32)), .val (.ref b205)] [(.int (1 : Int32)), (.ref b205)]))
        obtain ⟨cq334, kq334, q334a, q334b, q334c⟩ := isOf hZ e333 f331
        obtain ⟨_, _, ⟨T334, L334, k334, n334⟩, -, X334, ⟨Lc334, hQ334, l334, y334, z334⟩, st334⟩ := X333.virtualBack hx (y := (⟨"com/example/mursyn/mursyn/synthesis/SuccessorLists", "count", "(I)I"⟩ : MethodName)) (z := (⟨"com/example/mursyn/mursyn/synthesis/SuccessorLists", "count", "(I)I"⟩ : MethodName)) hown (mvT hZ (hw _ (List.mem_of_getElem? (i := 23) rfl))) (mvT hZ (hw _ (List.mem_of_getElem? (i := 24) rfl))) (notFace_of_selects (args := #[]) (mvT hZ (hw _ (List.mem_of_getElem? (i := 26) rfl)))) (mvT hZ (hw _ (List.mem_of_getElem? (i := 26) rfl))) (mvT hZ (hw _ (List.mem_of_getElem? (i := 25) rfl))) (by decide) (backOf (W := 0) (rm4 l Z a0 hw [] b205 (1 : Int32) bf212 kf212 [(.int (0 : Int32)), (.int (2 : Int32)), (.int (4 : Int32)), (.int (0 : Int32)), (.int (0 : Int32)), (.int (0 : Int32)), (.int (0 : Int32)), (.int (0 : Int32)), (.int (0 : Int32)), (.int (0 : Int32)), (.int (0 : Int32)), (.int (0 : Int32)), (.int (0 : Int32)), (.int (0 : Int32)), (.int (0 : Int32)), (.int (0 : Int32)), (.int (0 : Int32))] (4 : Int32) (2 : Int32) T330.heap n0 Zn330 fa330 f332 ⟨by decide, by decide⟩ rfl ⟨by decide, by decide⟩ rfl) hZ (hw _ (List.mem_of_getElem? (i := 27) rfl)) (hw _ (List.mem_of_getElem? (i := 2) rfl)) (by decide) (by decide)) q334a q334c (g := (mkF m 119 #[.val (.int p0), .val (.int p1), .val (.int p2), .val (.int (2 : Int32)), .val (.int (2 : Int32)), .val (.int (1 : Int32)), .val (.ref b205)] [(.int (1 : Int32)), (.ref b205)])) rfl (by rw [hml]; rfl) (Steps.refl _) (argsL := [(.int (1 : Int32))]) (rest := []) (lenOf own_pd1 rfl) rfl (by show 2 * 0 + _ ≤ _; exact Nat.le_of_eq rfl) (hb hby at_119) (fun _ _ => ⟨rfl, e333, (by decide : 3 + 0 ≤ _), (by decide : 37 + 0 ≤ _)⟩)
        dsimp only [Pt.U, Pt.locs, Pt.cells, Pt.slots] at X334 l334 y334 z334 st334 hQ334
        subst l334 y334 z334
        obtain ⟨rfl, Nq334, e334⟩ := hQ334
        have N334 := Fr.app N333 Nq334
        refine own_pre (fun t k => st334.trans k) ?_
        show own_Ends _ _ _ _ (T334.setTop (mkF m 122 #[.val (.int p0), .val (.int p1), .val (.int p2), .val (.int (2 : Int32)), .val (.int (2 : Int32)), .val (.int (1 : Int32)), .val (.ref b205)] [(.int (2 : Int32))]))
        refine own_pre (fun t k => XS.iload X334.here hx rfl (hb hby at_122) rfl k) ?_
        show own_Ends _ _ _ _ (T334.setTop (mkF m 124 #[.val (.int p0), .val (.int p1), .val (.int p2), .val (.int (2 : Int32)), .val (.int (2 : Int32)), .val (.int (1 : Int32)), .val (.ref b205)] [(.int (2 : Int32)), (.int (2 : Int32))]))
        refine own_pre (fun t k => XS.icmpNo X334.here hx rfl (hb hby at_124) rfl (teq ((by decide) : (2 : Int32) = (2 : Int32))).2 k) ?_
        show own_Ends _ _ _ _ (T334.setTop (mkF m 127 #[.val (.int p0), .val (.int p1), .val (.int p2), .val (.int (2 : Int32)), .val (.int (2 : Int32)), .val (.int (1 : Int32)), .val (.ref b205)] []))
        refine own_pre (fun t k => XS.iconst X334.here hx rfl (hb hby at_127) k) ?_
        show own_Ends _ _ _ _ (T334.setTop (mkF m 128 #[.val (.int p0), .val (.int p1), .val (.int p2), .val (.int (2 : Int32)), .val (.int (2 : Int32)), .val (.int (1 : Int32)), .val (.ref b205)] [(.int (1 : Int32))]))
        refine own_pre (fun t k => XS.goto X334.here hx rfl (pc0 := 128) (pc' := 132) rfl (hb hby at_128) (by decide) (by decide) k) ?_
        show own_Ends _ _ _ _ (T334.setTop (mkF m 132 #[.val (.int p0), .val (.int p1), .val (.int p2), .val (.int (2 : Int32)), .val (.int (2 : Int32)), .val (.int (1 : Int32)), .val (.ref b205)] [(.int (1 : Int32))]))
        exact own_retN X334 hx (t := .boolean) Bd.returns (by simp) (hb hby at_132) hlk rfl e334 ⟨rfl, N334⟩ (by decide) (by decide)
set_option maxRecDepth 65536 in
set_option maxHeartbeats 40000000 in
theorem own_comes {Post : Tables → Env → Array Value → State → Outcome → State → Prop} (hpost : ∀ tb e args s v u, (limb_1_1.after args s (.returned v) u = true ∧ limb_1_2.after args s (.returned v) u = true ∧ True) → FrameEnd s (.returned v) u (Jvm.fieldLocs frame_1_writes args s ++ Jvm.arrayLocs frame_1_arrays args s ++ Jvm.staticLocs frame_1_statics s) 16 192 → Post tb e args s (.returned v) u) :
    ArmFor flags0 classFile x code maxLocals ret World_1 tables_1 room_1 Calls_1 rest_1 Pre_1 Post := by
  intro l hfl _ _ p e ha hc hk s m args below hf hA hF happ hP
  obtain ⟨hcalls, hrest, hpre⟩ := hP
  obtain ⟨-, -, -, hnamed, -, -, -, hat⟩ := (Spec.applies_iff hf).mp happ
  obtain ⟨hg, hn⟩ := and_e (Cond.before_iff.mp (show (Jvm.Cond.and given_1 narrow_1).before args s = true from hpre))
  obtain ⟨hcount, g0⟩ := and_e hg
  obtain ⟨hk0, g1⟩ := and_e g0
  obtain ⟨hk1, g2⟩ := and_e g1
  obtain ⟨w0, w1, w2, rfl⟩ : ∃ w0 w1 w2 : Value, args = #[w0, w1, w2] := by
    have hs : args.size = 3 := by simpa [Cond.value, given_1] using hcount
    obtain ⟨L⟩ := args
    match L, hs with
    | [w0, w1, w2], _ => exact ⟨w0, w1, w2, rfl⟩
  have hw := fun d (hd : d ∈ tables_1) => atoms_spec (ws := Jvm.Cond.code x code maxLocals ret :: tables_1) hat d (List.mem_cons_of_mem _ hd)
  have hfit : Fit s := fun {y c} hc i hi => by
    obtain ⟨ha, rfl⟩ := Array.getElem?_eq_some_iff.mp hc
    have q := List.all_eq_true.mp ((Array.all_eq_true_iff_forall_mem.mp hF) _ (Array.getElem_mem ha)) i (List.mem_range.mpr hi)
    simpa [Array.getElem?_eq_getElem hi] using q
  obtain ⟨i0, ei0⟩ := is_v hk0
  obtain rfl : w0 = (.int i0) := Option.some.inj ei0
  obtain ⟨i1, ei1⟩ := is_v hk1
  obtain rfl : w1 = (.int i1) := Option.some.inj ei1
  obtain ⟨i2, ei2⟩ := is_v g2
  obtain rfl : w2 = (.int i2) := Option.some.inj ei2
  obtain ⟨n, o, h1, h2, h3, _, L, rfl, ⟨rfl, N⟩, hq⟩ := rm0 l s _ hw tables_1 i0 i1 i2 s.heap s.heap.size (Nat.le_refl _)  p e ha hc hk s m _ below hf ((Spec.applies_iff_loose hf).mp happ).1 ⟨rfl, State.Warmed39.refl s, rfl⟩ trivial
  refine ⟨n, _, h1, h2, h3, hpost _ _ _ _ _ _ ⟨Cond.after_iff.mpr rfl, Cond.after_iff.mpr (eq_i res_at (Term.int_eval (1)) rfl), trivial⟩ ⟨hq.1, hq.2.1, (hq.2.2.sift fun y hy => Or.inr (N y hy)).mono (by decide) (by decide)⟩⟩
theorem main_1_1 : Claimed_1_1 := own_comes fun _ _ _ _ _ _ h hF => ⟨h.1, hF⟩
theorem main_1_2 : Claimed_1_2 := own_comes fun _ _ _ _ _ _ h hF => ⟨h.2.1, hF⟩
end Jvm.Pilot.@@N@@
namespace Jvm.Pilot.@@N@@
open Jvm Jvm.ClassFile Sem Op Lib Jvm.Free Jvm.Stand Jvm.Pilot.@@N@@.Jvm.D
/-! MADE BY PROGRAM (witnessworld.py) out of the Statement's table words and the real class files: 9 classes; the members and pool entries that the words name. The judged class is class 1, her method 1. -/
namespace start1
open Jvm.ClassFile
def u (s : String) : CpInfo := .utf8 (stringToUtf16 s)
/-- a pool by its gaps: so many unusable entries, then the entry; so many at the end -/
def gap : Nat → List CpInfo → List CpInfo
  | 0, r => r
  | n + 1, r => .unusable :: gap n r
def poolList (es : List (Nat × CpInfo)) (last : Nat) : List CpInfo := es.foldr (fun e r => gap e.1 (e.2 :: r)) (gap last [])
def pool (es : List (Nat × CpInfo)) (last : Nat) : Array CpInfo := ⟨poolList es last⟩
def fileOf (pool : Array CpInfo) (this : Nat) (attrs : Array Attribute := #[]) (ms : Array MethodInfo := #[]) (fl : Nat := 33) (sup : Nat := 0) (ifs : Array Nat := #[]) (fds : Array FieldInfo := #[]) : ClassFile where
  minorVersion := 0
  majorVersion := 65
  constantPool := pool
  accessFlags := fl
  thisClass := this
  superClass := sup
  interfaces := ifs
  fields := fds
  methods := ms
  attributes := attrs
def plain (name : String) (sup : Option ClassId) : Class where
  name := name
  kind := .ordinary
  loader := none
  accessFlags := 33
  super := sup
  interfaces := #[]
  cf := none
  fields := #[]
  methods := #[]
  instanceTypes := #[]
  staticTypes := #[]
  resolved := #[]
  callSites := []
  init := .initialized
  statics := none
  mirror := none

def pool0 : Array CpInfo := pool [(5, u "<init>"), (0, u "()V"), (1, .class_ 10), (1, u "java/lang/Object")] 113

def k0c0 : Code := { maxStack := 0, maxLocals := 1, code := object_method_1_code, exceptionTable := #[], attributes := #[] }
def k0m0 : Method := { name := "<init>", desc := "()V", sig := { parameters := [], returnType := none }, accessFlags := 1, code := some k0c0 }
/-- java/lang/Object -/
def k0 : Class := { plain "java/lang/Object" none with
  accessFlags := 33
  interfaces := #[]
  cf := some (fileOf pool0 8 #[] #[{ accessFlags := 1, nameIndex := 5, descriptorIndex := 6, attributes := #[] }] 33 0 #[] #[])
  fields := #[]
  methods := #[k0m0]
  instanceTypes := #[]
  staticTypes := #[]
  resolved := Array.replicate 124 none
  statics := none }

def pool1 : Array CpInfo := pool [(2, .class_ 4), (0, .nameAndType 5 6), (0, u "java/lang/Object"), (0, u "<init>"), (0, u "()V"), (0, .class_ 8), (0, u "com/example/mursyn/mursyn/synthesis/SuccessorLists"), (0, .methodref 7 3), (0, .methodref 7 11), (0, .nameAndType 12 13), (0, u "add"), (0, u "(I)V"), (0, .methodref 7 15), (0, .nameAndType 16 6), (0, u "close"), (0, .methodref 7 18), (0, .nameAndType 19 20), (0, u "count"), (0, u "(I)I"), (0, .class_ 22), (0, u "com/example/mursyn/mursyn/synthesis/SuccessorListsCountPinLaw"), (2, u "law"), (0, u "(III)Z")] 3

def k1m0 : Method := { name := "<init>", desc := "()V", sig := { parameters := [], returnType := none }, accessFlags := 1, code := none }
def k1c1 : Code := { maxStack := 2, maxLocals := 7, code := code, exceptionTable := #[], attributes := #[] }
def k1m1 : Method := { name := "law", desc := "(III)Z", sig := { parameters := [.int, .int, .int], returnType := some .boolean }, accessFlags := 9, code := some k1c1 }
/-- com/example/mursyn/mursyn/synthesis/SuccessorListsCountPinLaw -/
def k1 : Class := { plain "com/example/mursyn/mursyn/synthesis/SuccessorListsCountPinLaw" (some 0) with
  accessFlags := 49
  interfaces := #[]
  cf := some (fileOf pool1 21 #[] #[{ accessFlags := 1, nameIndex := 5, descriptorIndex := 6, attributes := #[] }, { accessFlags := 9, nameIndex := 25, descriptorIndex := 26, attributes := #[] }] 49 2 #[] #[])
  fields := #[]
  methods := #[k1m0, k1m1]
  instanceTypes := #[]
  staticTypes := #[]
  resolved := Array.replicate 30 none
  statics := none }

def pool2 : Array CpInfo := pool [(1, .methodref 2 3), (0, .class_ 4), (0, .nameAndType 5 6), (0, u "java/lang/Object"), (0, u "<init>"), (0, u "()V"), (0, .fieldref 8 9), (0, .class_ 10), (0, .nameAndType 11 12), (0, u "com/example/mursyn/mursyn/synthesis/SuccessorLists"), (0, u "first"), (0, u "[I"), (0, .fieldref 8 14), (0, .nameAndType 15 12), (0, u "targets"), (0, .fieldref 8 17), (0, .nameAndType 18 19), (0, u "edgeCount"), (0, u "I"), (6, .fieldref 8 27), (0, .nameAndType 28 19), (0, u "listed"), (8, u "add"), (0, u "(I)V"), (1, u "close"), (0, u "count"), (0, u "(I)I")] 6

def k2c0 : Code := { maxStack := 2, maxLocals := 1, code := prog_58_method_1_code, exceptionTable := #[], attributes := #[] }
def k2m0 : Method := { name := "<init>", desc := "()V", sig := { parameters := [], returnType := none }, accessFlags := 0, code := some k2c0 }
def k2c1 : Code := { maxStack := 5, maxLocals := 2, code := prog_58_method_2_code, exceptionTable := #[], attributes := #[] }
def k2m1 : Method := { name := "add", desc := "(I)V", sig := { parameters := [.int], returnType := none }, accessFlags := 0, code := some k2c1 }
def k2c2 : Code := { maxStack := 4, maxLocals := 1, code := prog_58_method_3_code, exceptionTable := #[], attributes := #[] }
def k2m2 : Method := { name := "close", desc := "()V", sig := { parameters := [], returnType := none }, accessFlags := 0, code := some k2c2 }
def k2c3 : Code := { maxStack := 3, maxLocals := 2, code := prog_58_method_4_code, exceptionTable := #[], attributes := #[] }
def k2m3 : Method := { name := "count", desc := "(I)I", sig := { parameters := [.int], returnType := some .int }, accessFlags := 0, code := some k2c3 }
/-- com/example/mursyn/mursyn/synthesis/SuccessorLists -/
def k2 : Class := { plain "com/example/mursyn/mursyn/synthesis/SuccessorLists" (some 0) with
  accessFlags := 32
  interfaces := #[]
  cf := some (fileOf pool2 8 #[] #[{ accessFlags := 0, nameIndex := 5, descriptorIndex := 6, attributes := #[] }, { accessFlags := 0, nameIndex := 37, descriptorIndex := 38, attributes := #[] }, { accessFlags := 0, nameIndex := 40, descriptorIndex := 6, attributes := #[] }, { accessFlags := 0, nameIndex := 41, descriptorIndex := 42, attributes := #[] }] 32 2 #[] #[{ accessFlags := 2, nameIndex := 11, descriptorIndex := 12, attributes := #[] }, { accessFlags := 2, nameIndex := 15, descriptorIndex := 12, attributes := #[] }, { accessFlags := 2, nameIndex := 28, descriptorIndex := 19, attributes := #[] }, { accessFlags := 2, nameIndex := 18, descriptorIndex := 19, attributes := #[] }])
  fields := #[{ name := "first", type := (.array .int), accessFlags := 2, slot := 0, constantValue := 0 }, { name := "targets", type := (.array .int), accessFlags := 2, slot := 1, constantValue := 0 }, { name := "listed", type := .int, accessFlags := 2, slot := 2, constantValue := 0 }, { name := "edgeCount", type := .int, accessFlags := 2, slot := 3, constantValue := 0 }]
  methods := #[k2m0, k2m1, k2m2, k2m3]
  instanceTypes := #[(.array .int), (.array .int), .int, .int]
  staticTypes := #[]
  resolved := Array.replicate 49 none
  statics := none }

def pool3 : Array CpInfo := pool [(1, u "java/lang/Cloneable"), (0, .class_ 1), (0, u "java/lang/Object"), (0, .class_ 3)] 3

/-- java/lang/Cloneable -/
def k3 : Class := { plain "java/lang/Cloneable" (some 0) with
  accessFlags := 1537
  interfaces := #[]
  cf := some (fileOf pool3 2 #[] #[] 1537 4 #[] #[])
  fields := #[]
  methods := #[]
  instanceTypes := #[]
  staticTypes := #[]
  resolved := Array.replicate 8 none
  statics := none }

def pool4 : Array CpInfo := pool [(1, u "java/io/Serializable"), (0, .class_ 1), (0, u "java/lang/Object"), (0, .class_ 3)] 3

/-- java/io/Serializable -/
def k4 : Class := { plain "java/io/Serializable" (some 0) with
  accessFlags := 1537
  interfaces := #[]
  cf := some (fileOf pool4 2 #[] #[] 1537 4 #[] #[])
  fields := #[]
  methods := #[]
  instanceTypes := #[]
  staticTypes := #[]
  resolved := Array.replicate 8 none
  statics := none }

/-- the primitive byte -/
def k5 : Class := { plain "byte" none with kind := .primitive 'B', accessFlags := 0x411 }
/-- [B -/
def k6 : Class := { plain "[B" (some 0) with kind := .array 5 .byte, interfaces := #[3, 4], accessFlags := 1041 }

/-- the primitive int -/
def k7 : Class := { plain "int" none with kind := .primitive 'I', accessFlags := 0x411 }
/-- [I -/
def k8 : Class := { plain "[I" (some 0) with kind := .array 7 .int, interfaces := #[3, 4], accessFlags := 1041 }

def heap : Heap := #[]
def classes : Array Class := #[k0, k1, k2, k3, k4, k5, k6, k7, k8]
def interned : List (Array UInt16 × Addr) := []
def slotsUsed : Nat := 0
def theMethod : MethodId := ⟨1, 1⟩
def args0 : Array Value := #[.int 5, .int 6, .int 7]
def aboutOver (below : List Frame) : State where
  vm := { classes := classes, interned := interned.toArray }
  heap := heap
  slotsUsed := slotsUsed
  threads := #[{ frames := .invoking theMethod args0 :: below }]
def below0 : List Frame := [.native { method := ⟨0, 0⟩, args := #[] }]
def about1 : State := aboutOver below0
def p0 : Program := .bare "" "" ""
def e0 : Env := launch0.env 0 0 0
theorem w_frames : about1.frames = Frame.invoking theMethod args0 :: below0 := rfl
set_option maxRecDepth 65536 in
theorem w_args : argsFit about1.vm theMethod args0 = true := by decide +kernel
set_option maxRecDepth 65536 in
theorem w_heap : heapFits about1 = true := by decide +kernel
set_option maxRecDepth 65536 in
theorem w_runnable : about1.curStatus? = some .runnable := by decide +kernel
set_option maxRecDepth 65536 in
theorem w_alone : about1.alone = true := by decide +kernel
set_option maxRecDepth 65536 in
theorem w_named : about1.methodNamed? x = some theMethod := by decide +kernel
set_option maxRecDepth 65536 in
theorem w_hears : about1.hears theMethod below0 = true := by decide +kernel
set_option maxRecDepth 65536 in
theorem w_ripe : about1.ripe theMethod args0 below0 = true := by decide +kernel
theorem w_running : about1.status = .running := rfl
set_option maxRecDepth 65536 in
theorem w_room : about1.hasRoom e0.platform room_1 = true :=
  launch0.hasRoom_least _ room_1 (by decide +kernel) (by decide +kernel) (by decide +kernel) (by decide +kernel) (by decide +kernel) (by decide +kernel)
theorem allAtoms_all (ts : List Jvm.Cond) (a : Array Jvm.Value) (st : Jvm.State) : (allAtoms ts).before a st = ts.all (fun c => c.before a st) := by
  induction ts with
  | nil => rfl
  | cons c t ih =>
    show (Jvm.Cond.and c (allAtoms t)).before a st = _
    rw [Jvm.Cond.before_and, ih, List.all_cons]
def words1 : List Jvm.Cond := Jvm.Cond.code x code maxLocals ret :: tables_1
/-- a 'code' word, met by the world's own term for the bytes: nothing is compared byte by byte -/
theorem code_word {y : MethodName} {bytes : ByteArray} {mx : Nat} {rt : Option FieldType} {a : Array Value} {s : State} {m : MethodId} {meth : Method} {c : Code} (h1 : s.methodNamed? y = some m) (h2 : s.vm.method? m = some meth) (h3 : meth.code = some c) (h4 : c.code = bytes)
    (h5 : (c.maxLocals == mx && c.exceptionTable.isEmpty && decide (c.maxStack ≤ mostOperands) && decide (meth.sig.returnType = rt) && !meth.locks && decide (parseMethodDescriptor y.desc = some meth.sig)) = true) : (Jvm.Cond.code y bytes mx rt).before a s = true := by
  simp only [Bool.and_eq_true, beq_iff_eq, Bool.not_eq_true', decide_eq_true_eq] at h5
  obtain ⟨⟨⟨⟨⟨g1, g2⟩, g3⟩, g4⟩, g5⟩, g6⟩ := h5
  simp [Cond.before, Cond.holds, Cond.value, h1, h2, h3, h4, g1, g2, g3, g4, g5, g6]
def isCode : Jvm.Cond → Bool
  | .code _ _ _ _ => true
  | _ => false
theorem all_split {L : List Jvm.Cond} {P : Jvm.Cond → Bool} (h1 : L.all (fun c => isCode c || P c) = true) (h2 : ∀ c ∈ L.filter isCode, P c = true) : L.all P = true := by
  refine List.all_eq_true.mpr fun c hc => ?_
  have h := List.all_eq_true.mp h1 c hc
  rcases Bool.eq_false_or_eq_true (isCode c) with hi | hi
  · exact h2 c (List.mem_filter.mpr ⟨hc, hi⟩)
  · simpa [hi] using h
set_option maxRecDepth 65536 in
theorem w_c0 : (Jvm.Cond.code x code maxLocals ret).before args0 about1 = true := code_word (m := ⟨1, 1⟩) (meth := k1m1) (c := k1c1) (by decide +kernel) rfl rfl rfl (by decide +kernel)
set_option maxRecDepth 65536 in
theorem w_c1 : (Jvm.Cond.code ({ cls := "com/example/mursyn/mursyn/synthesis/SuccessorLists", name := "<init>", desc := "()V" } : Jvm.MethodName) prog_58_method_1_code (1 : Nat) (Option.none : Option Jvm.ClassFile.FieldType)).before args0 about1 = true := code_word (m := ⟨2, 0⟩) (meth := k2m0) (c := k2c0) (by decide +kernel) rfl rfl rfl (by decide +kernel)
set_option maxRecDepth 65536 in
theorem w_c2 : (Jvm.Cond.code ({ cls := "java/lang/Object", name := "<init>", desc := "()V" } : Jvm.MethodName) object_method_1_code (1 : Nat) (Option.none : Option Jvm.ClassFile.FieldType)).before args0 about1 = true := code_word (m := ⟨0, 0⟩) (meth := k0m0) (c := k0c0) (by decide +kernel) rfl rfl rfl (by decide +kernel)
set_option maxRecDepth 65536 in
theorem w_c3 : (Jvm.Cond.code ({ cls := "com/example/mursyn/mursyn/synthesis/SuccessorLists", name := "close", desc := "()V" } : Jvm.MethodName) prog_58_method_3_code (1 : Nat) (Option.none : Option Jvm.ClassFile.FieldType)).before args0 about1 = true := code_word (m := ⟨2, 2⟩) (meth := k2m2) (c := k2c2) (by decide +kernel) rfl rfl rfl (by decide +kernel)
set_option maxRecDepth 65536 in
theorem w_c4 : (Jvm.Cond.code ({ cls := "com/example/mursyn/mursyn/synthesis/SuccessorLists", name := "count", desc := "(I)I" } : Jvm.MethodName) prog_58_method_4_code (2 : Nat) (Option.some Jvm.ClassFile.FieldType.int)).before args0 about1 = true := code_word (m := ⟨2, 3⟩) (meth := k2m3) (c := k2c3) (by decide +kernel) rfl rfl rfl (by decide +kernel)
set_option maxRecDepth 65536 in
theorem w_c5 : (Jvm.Cond.code ({ cls := "com/example/mursyn/mursyn/synthesis/SuccessorLists", name := "add", desc := "(I)V" } : Jvm.MethodName) prog_58_method_2_code (2 : Nat) (Option.none : Option Jvm.ClassFile.FieldType)).before args0 about1 = true := code_word (m := ⟨2, 1⟩) (meth := k2m1) (c := k2c1) (by decide +kernel) rfl rfl rfl (by decide +kernel)
def codes1 : List Jvm.Cond := [Jvm.Cond.code x code maxLocals ret, Jvm.Cond.code ({ cls := "com/example/mursyn/mursyn/synthesis/SuccessorLists", name := "<init>", desc := "()V" } : Jvm.MethodName) prog_58_method_1_code (1 : Nat) (Option.none : Option Jvm.ClassFile.FieldType), Jvm.Cond.code ({ cls := "java/lang/Object", name := "<init>", desc := "()V" } : Jvm.MethodName) object_method_1_code (1 : Nat) (Option.none : Option Jvm.ClassFile.FieldType), Jvm.Cond.code ({ cls := "com/example/mursyn/mursyn/synthesis/SuccessorLists", name := "close", desc := "()V" } : Jvm.MethodName) prog_58_method_3_code (1 : Nat) (Option.none : Option Jvm.ClassFile.FieldType), Jvm.Cond.code ({ cls := "com/example/mursyn/mursyn/synthesis/SuccessorLists", name := "count", desc := "(I)I" } : Jvm.MethodName) prog_58_method_4_code (2 : Nat) (Option.some Jvm.ClassFile.FieldType.int), Jvm.Cond.code ({ cls := "com/example/mursyn/mursyn/synthesis/SuccessorLists", name := "add", desc := "(I)V" } : Jvm.MethodName) prog_58_method_2_code (2 : Nat) (Option.none : Option Jvm.ClassFile.FieldType)]
set_option maxRecDepth 65536 in
theorem codes_eq : words1.filter isCode = codes1 := rfl
theorem w_codes : ∀ c ∈ words1.filter isCode, c.before args0 about1 = true := by
  rw [codes_eq]
  intro c hc
  simp only [codes1, List.mem_cons, List.not_mem_nil, or_false] at hc
  rcases hc with rfl | rfl | rfl | rfl | rfl | rfl
  · exact w_c0
  · exact w_c1
  · exact w_c2
  · exact w_c3
  · exact w_c4
  · exact w_c5
set_option maxRecDepth 65536 in
theorem w_t1 : (words1.take 24).all (fun c => isCode c || c.before args0 about1) = true := by decide +kernel
set_option maxRecDepth 65536 in
theorem w_t2 : (words1.drop 24).all (fun c => isCode c || c.before args0 about1) = true := by decide +kernel
theorem w_tables : (allAtoms (Jvm.Cond.code x code maxLocals ret :: tables_1)).before args0 about1 = true := by
  rw [allAtoms_all]
  show words1.all (fun c => c.before args0 about1) = true
  refine all_split ?_ w_codes
  rw [← List.take_append_drop 24 words1, List.all_append, w_t1, w_t2]
  rfl
set_option maxRecDepth 65536 in
theorem w_case : (Jvm.Cond.and given_1 narrow_1).before args0 about1 = true := by decide +kernel
theorem w_applies : (headSpec (Jvm.Cond.code x code maxLocals ret :: tables_1) room_1).applies x e0.platform about1 = true :=
  (Spec.applies_iff w_frames).mpr ⟨w_running, w_runnable, w_alone, w_named, w_hears, w_ripe, w_room, w_tables⟩
theorem atStart : AtStart classFile x code maxLocals ret World_1 tables_1 room_1 Calls_1 rest_1 Pre_1 launch0 p0 e0 about1 theMethod args0 below0 :=
  ⟨lists_1, trivial, launch0.admits_env _ _ _, launch0.least_env, fairChoices_fair.cas, fairChoices_fair.clock, w_frames, w_args, w_heap, w_applies, trivial, trivial, w_case⟩
end start1
theorem witness_1 : WitnessClaimed_1 := ⟨start1.p0, start1.e0, start1.about1, start1.theMethod, start1.args0, start1.below0, start1.atStart⟩
end Jvm.Pilot.@@N@@

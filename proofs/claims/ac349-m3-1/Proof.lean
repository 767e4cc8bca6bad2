import JvmDerived
import JvmDerived.Pilot.@@N@@Statement
import JvmDerived.Pilot.@@N@@Code
set_option linter.unusedVariables false
set_option linter.unusedSimpArgs false
@@BLOCK:NumsL.lean.txt@@
@@BLOCK:Masks.lean.txt@@
namespace Jvm.Pilot.@@N@@
open Jvm Jvm.ClassFile Sem Op Lib Jvm.Free Jvm.Stand Jvm.LawKit Jvm.RoadKit Bundle Jvm.Pilot.@@N@@.Jvm.D
section Own
variable {p : Program} {l : Launch} {e : Env} {R : Room} {s : State} {m : MethodId} {args : Array Value} {below : List Frame} {meth : Method} {c : Code} {T : State} {locs : List Loc} {cells slots : Nat}
/-- from t the invocation comes to its end, and F holds there -/
def own_Ends (p : Program) (e : Env) (below : List Frame) (F : State → Outcome → Prop) (t : State) : Prop := ∃ s₂ o, Steps p.tables e below t s₂ ∧ s₂.status = .running ∧ Ended s₂ below o ∧ F s₂ o
theorem own_pre {F : State → Outcome → Prop} {t t' : State} (k : ∀ u, Steps p.tables e below t' u → Steps p.tables e below t u) (h : own_Ends p e below F t') : own_Ends p e below F t := by
  obtain ⟨s₂, o, h1, h2⟩ := h
  exact ⟨s₂, o, k _ h1, h2⟩
/-- what is asked of the end: G of the value, the heap and the places written; the frame -/
def own_Fin (s : State) (G : Option Value → Heap → List Loc → Prop) (C S : Nat) (s₂ : State) (o : Outcome) : Prop := ∃ v L, o = .returned v ∧ G v s₂.heap L ∧ FrameEnd s o s₂ L C S
theorem own_out (X : Stand p l e R s m args below meth c T locs cells slots) {v : Option Value} (hv : meth.sig.returnType = none → v = none) (hlk : meth.locks = false) {g : JFrame} {G : Option Value → Heap → List Loc → Prop} {C S : Nat} {h : Heap} (eT : T.heap = h) (hG : G v h locs) (hC : cells ≤ C) (hS : slots ≤ S)
    (st : ∀ fs, (∀ (f : JFrame) (acts : List Action), f.method = m → f.locked = none → f.entered = [] → (doReturn e (T.setTop f) acts v).1 = T.setFrames fs) → Steps p.tables e below (T.setTop g) (T.setFrames fs)) : own_Ends p e below (own_Fin s G C S) (T.setTop g) := by
  obtain ⟨fs, hr, hrun, hended, hW, hsame⟩ := X.leave (v := v) hv hlk
  subst eT
  exact ⟨_, _, st fs hr, hrun, hended, v, locs, rfl, hG, ⟨_, rfl⟩, hW, hsame.mono hC hS⟩
theorem own_retN (X : Stand p l e R s m args below meth c T locs cells slots) (hx : p.tables.exec = Jvm.exec) {pc : Nat} {Ls : Array Slot} {z z' : Int32} {t : FieldType} {rest : List Value} (hret : meth.sig.returnType = some t) (ht : t = .boolean ∨ t = .byte ∨ t = .char ∨ t = .short) (hd : decode c.code pc = .ok (.ireturn, 1)) (hlk : meth.locks = false) (hz : nar t z = z')
    {G : Option Value → Heap → List Loc → Prop} {C S : Nat} {h : Heap} (eT : T.heap = h) (hG : G (some (.int z')) h locs) (hC : cells ≤ C) (hS : slots ≤ S) : own_Ends p e below (own_Fin s G C S) (T.setTop (mkF m pc Ls (.int z :: rest))) := by
  subst hz
  exact own_out X (fun h => by rw [hret] at h; cases h) hlk eT hG hC hS (fun fs hr => retN X hx hret ht hd hr)
theorem own_retI (X : Stand p l e R s m args below meth c T locs cells slots) (hx : p.tables.exec = Jvm.exec) {pc : Nat} {Ls : Array Slot} {z : Int32} {rest : List Value} (hret : meth.sig.returnType = some .int) (hd : decode c.code pc = .ok (.ireturn, 1)) (hlk : meth.locks = false)
    {G : Option Value → Heap → List Loc → Prop} {C S : Nat} {h : Heap} (eT : T.heap = h) (hG : G (some (.int z)) h locs) (hC : cells ≤ C) (hS : slots ≤ S) : own_Ends p e below (own_Fin s G C S) (T.setTop (mkF m pc Ls (.int z :: rest))) :=
  own_out X (fun h => by rw [hret] at h; cases h) hlk eT hG hC hS (fun fs hr => retOut X hx hret rfl (Or.inl ⟨rfl, Or.inl rfl, _, rfl⟩) hd hr)
theorem own_retJ (X : Stand p l e R s m args below meth c T locs cells slots) (hx : p.tables.exec = Jvm.exec) {pc : Nat} {Ls : Array Slot} {z : Int64} {rest : List Value} (hret : meth.sig.returnType = some .long) (hd : decode c.code pc = .ok (.lreturn, 1)) (hlk : meth.locks = false)
    {G : Option Value → Heap → List Loc → Prop} {C S : Nat} {h : Heap} (eT : T.heap = h) (hG : G (some (.long z)) h locs) (hC : cells ≤ C) (hS : slots ≤ S) : own_Ends p e below (own_Fin s G C S) (T.setTop (mkF m pc Ls (.long z :: rest))) :=
  own_out X (fun h => by rw [hret] at h; cases h) hlk eT hG hC hS (fun fs hr => retOut X hx hret rfl (Or.inr (Or.inl ⟨rfl, rfl, _, rfl⟩)) hd hr)
theorem own_retR (X : Stand p l e R s m args below meth c T locs cells slots) (hx : p.tables.exec = Jvm.exec) {pc : Nat} {Ls : Array Slot} {a : Addr} {t : FieldType} {rest : List Value} (hret : meth.sig.returnType = some t) (ht : t.isReference = true) (hd : decode c.code pc = .ok (.areturn, 1)) (hlk : meth.locks = false)
    {G : Option Value → Heap → List Loc → Prop} {C S : Nat} {h : Heap} (eT : T.heap = h) (hG : G (some (.ref a)) h locs) (hC : cells ≤ C) (hS : slots ≤ S) : own_Ends p e below (own_Fin s G C S) (T.setTop (mkF m pc Ls (.ref a :: rest))) :=
  own_out X (fun h => by rw [hret] at h; cases h) hlk eT hG hC hS (fun fs hr => retOut X hx hret (by cases t <;> first | rfl | (simp [FieldType.isReference] at ht)) (Or.inr (Or.inr (Or.inr (Or.inr ⟨rfl, ht, rfl⟩)))) hd hr)
theorem own_retV (X : Stand p l e R s m args below meth c T locs cells slots) (hx : p.tables.exec = Jvm.exec) {pc : Nat} {Ls : Array Slot} (hret : meth.sig.returnType = none) (hd : decode c.code pc = .ok (.return_, 1)) (hlk : meth.locks = false)
    {G : Option Value → Heap → List Loc → Prop} {C S : Nat} {h : Heap} (eT : T.heap = h) (hG : G none h locs) (hC : cells ≤ C) (hS : slots ≤ S) : own_Ends p e below (own_Fin s G C S) (T.setTop (mkF m pc Ls [])) :=
  own_out X (fun _ => rfl) hlk eT hG hC hS (fun fs hr => X.returnOut hx hret hd hr)
theorem own_len (X : Stand p l e R s m args below meth c T locs cells slots) (hx : p.tables.exec = Jvm.exec) {h : Heap} (eT : T.heap = h) {Z : State} (hZ : Z.Warmed39 s.vm) {a : Addr} {cl : Cell} {ty : FieldType} {z : Int32} (A : Arr Z h a cl ty) (S : cl.slots.size = z.toNatClampNeg) (M : ¬ z < 0)
    {g : JFrame} (hg : g.method = m) {rest : List Value} (hs : g.stack = .ref a :: rest) (hd : decode c.code g.pc = .ok (.arraylength, 1)) {target : State} (k : Steps p.tables e below (T.setTop { g with pc := g.pc + 1, stack := .int z :: rest }) target) : Steps p.tables e below (T.setTop g) target := by
  refine X.arraylength hx (by rw [eT]; exact A.1) (State.isArrayOf_alike hZ.alike A.2.1) hg hs hd _ ?_
  rw [len_of S M]
  exact k
theorem own_setAny {Z : State} {h h' : Heap} {a : Addr} {cl : Cell} {k : ClassId} {ty : FieldType} {z : Int32} {vs : List Value} {dv v : Value} {j : Nat} (A : Arr Z h a cl ty) (q1 : cl.cls = k) (S : cl.slots.size = z.toNatClampNeg) (q3 : ¬ z < 0) (H : Has cl vs dv) (G : ∀ i, i < cl.slots.size → fits ty (vs.getD i dv) = true) (hv : fits ty v = true) (W : Wr h h' a j v) : ∃ vs', Arv Z h' a k ty z vs' dv := by
  have E : ∀ x, x < (cl.setSlot j v).slots.size → (cl.setSlot j v).slots[x]? = some ((cl.setSlot j v).slots.toList.getD x dv) := fun x hx => by
    rw [List.getD_eq_getElem?_getD, Array.getElem?_toList, Array.getElem?_eq_getElem hx]; rfl
  refine ⟨(cl.setSlot j v).slots.toList, _, A.same W, q1, by rw [sz_set]; exact S, q3, E, fun x hx => ?_⟩
  have hx' := hx
  rw [sz_set] at hx'
  have e1 := E x hx
  by_cases u : j = x
  · subst u
    have : (cl.setSlot j v).slots[j]? = some v := by simp [Cell.setSlot, hx']
    rw [this] at e1
    rw [← Option.some.inj e1]; exact hv
  · have : (cl.setSlot j v).slots[x]? = cl.slots[x]? := by simp [Cell.setSlot, Array.getElem?_setIfInBounds_ne u]
    rw [this, H x hx'] at e1
    rw [← Option.some.inj e1]; exact G x hx'
theorem own_staK {Z : State} {h h' : Heap} {a : Addr} {C n d D : String} {v : Value} (F : Sta Z h C n d v) (K : Keep h h' [a]) (E : Exa Z h a D) : Sta Z h' C n d v := by
  obtain ⟨cf, i, k, f, st, cell, h1, h2, h3, h4, h5, h6, h7⟩ := F
  obtain ⟨cl, kc, g1, -, -, g4, -⟩ := E
  have ne : st ≠ a := fun q => by subst q; cases h5.symm.trans g1; rw [h6] at g4; cases g4
  exact ⟨cf, i, k, f, st, cell, h1, h2, h3, h4, K.2.1 st cell h5 (ninS ne nin0), h6, h7⟩
theorem own_staK0 {Z : State} {h h' : Heap} {C n d : String} {v : Value} (F : Sta Z h C n d v) (K : Keep h h' []) : Sta Z h' C n d v := by
  obtain ⟨cf, i, k, f, st, cell, h1, h2, h3, h4, h5, h6, h7⟩ := F
  exact ⟨cf, i, k, f, st, cell, h1, h2, h3, h4, K.2.1 st cell h5 nin0, h6, h7⟩
theorem own_selP {Z : State} {a0 : Array Value} {y : MethodName} {kk : Nat} (hZ : Z.Warmed39 s.vm) (wi : (Cond.instantiable y.cls kk).before a0 Z = true) (wp : (Cond.privateMethod y).before a0 Z = true) (wm : (Cond.instanceMethod y).before a0 Z = true) (hy : y.cls ≠ "java/lang/invoke/MethodHandle" ∧ y.cls ≠ "java/lang/invoke/VarHandle") : (Cond.selects y.cls y y).before args s = true := by
  have wi' : (Cond.instantiable y.cls kk).before args s = true := mvT hZ wi
  obtain ⟨c', k', h1, h2, -, h4, -⟩ := Cond.instantiable_spec wi'
  have h5 : k'.isInterface = false := by
    cases q : k'.isInterface with
    | false => rfl
    | true => rw [q] at h4; simp at h4
  exact selects_self_of_private h1 h2 h5 (Cond.privateMethod_at (mvP hZ wp (args := args))) (mvT hZ wm) hy
/-- what lcmp pushes; the unsigned shifts -/
def own_cmpL (x y : Int64) : Int32 := if x > y then 1 else if x = y then 0 else -1
def own_ushr (x y : Int32) : Int32 := (x.toUInt32 >>> (y &&& 31).toUInt32).toInt32
def own_ushrL (x : Int64) (y : Int32) : Int64 := (x.toUInt64 >>> (y &&& 0x3f).toInt64.toUInt64).toInt64
theorem own_clt (x y : Int64) : own_cmpL x y < 0 ↔ x < y := lw_lt x y
theorem own_cgt (x y : Int64) : 0 < own_cmpL x y ↔ y < x := lw_gt x y
theorem own_ceq (x y : Int64) : own_cmpL x y = 0 ↔ x = y := lw_eq x y
end Own
theorem own_d1_0 : decode prog_58_method_1_code 0 = .ok (.aload_n 0, 1) := by decide +kernel
theorem own_d1_1 : decode prog_58_method_1_code 1 = .ok (.invokespecial 1, 3) := by decide +kernel
theorem own_d1_4 : decode prog_58_method_1_code 4 = .ok (.aload_n 0, 1) := by decide +kernel
theorem own_d1_5 : decode prog_58_method_1_code 5 = .ok (.bipush 17, 2) := by decide +kernel
theorem own_d1_7 : decode prog_58_method_1_code 7 = .ok (.newarray .int, 2) := by decide +kernel
theorem own_d1_9 : decode prog_58_method_1_code 9 = .ok (.putfield 7, 3) := by decide +kernel
theorem own_d1_12 : decode prog_58_method_1_code 12 = .ok (.aload_n 0, 1) := by decide +kernel
theorem own_d1_13 : decode prog_58_method_1_code 13 = .ok (.bipush 16, 2) := by decide +kernel
theorem own_d1_15 : decode prog_58_method_1_code 15 = .ok (.newarray .int, 2) := by decide +kernel
theorem own_d1_17 : decode prog_58_method_1_code 17 = .ok (.putfield 13, 3) := by decide +kernel
theorem own_d1_20 : decode prog_58_method_1_code 20 = .ok (.return_, 1) := by decide +kernel
theorem own_pn0 : plainName "com/example/mursyn/mursyn/synthesis/SuccessorLists" = true := by first | (simp [plainName, overriddenIn]; done) | decide +kernel
theorem own_ef_rm1 (m : MethodId) (x0 : Addr) : entryFrame m #[(.ref x0)] 1 = mkF m 0 #[.val (.ref x0)] [] := by first | (simp [entryFrame, mkF, argsToLocals, Value.category]; done) | rfl
def own_Q_rm1 (Z : State) (a0r : Addr) (h0 : Heap) (n0 : Nat) (v : Option Value) (h : Heap) (L : List Loc) : Prop := ∃ (b1 b2 : Addr) (k1 k2 : ClassId), v = none ∧ Fr n0 L ∧ Keep h0 h [a0r] ∧ Fld Z h a0r "com/example/mursyn/mursyn/synthesis/SuccessorLists" "first" "[I" (.ref b1) ∧ Fld Z h a0r "com/example/mursyn/mursyn/synthesis/SuccessorLists" "targets" "[I" (.ref b2) ∧ Fld Z h a0r "com/example/mursyn/mursyn/synthesis/SuccessorLists" "edgeCount" "I" (.int (0 : Int32)) ∧ Fld Z h a0r "com/example/mursyn/mursyn/synthesis/SuccessorLists" "listed" "I" (.int (0 : Int32)) ∧ Arv Z h b1 k1 .int (17 : Int32) [(.int (0 : Int32)), (.int (0 : Int32)), (.int (0 : Int32)), (.int (0 : Int32)), (.int (0 : Int32)), (.int (0 : Int32)), (.int (0 : Int32)), (.int (0 : Int32)), (.int (0 : Int32)), (.int (0 : Int32)), (.int (0 : Int32)), (.int (0 : Int32)), (.int (0 : Int32)), (.int (0 : Int32)), (.int (0 : Int32)), (.int (0 : Int32)), (.int (0 : Int32))] (.int (0 : Int32)) ∧ Arv Z h b2 k2 .int (16 : Int32) [(.int (0 : Int32)), (.int (0 : Int32)), (.int (0 : Int32)), (.int (0 : Int32)), (.int (0 : Int32)), (.int (0 : Int32)), (.int (0 : Int32)), (.int (0 : Int32)), (.int (0 : Int32)), (.int (0 : Int32)), (.int (0 : Int32)), (.int (0 : Int32)), (.int (0 : Int32)), (.int (0 : Int32)), (.int (0 : Int32)), (.int (0 : Int32))] (.int (0 : Int32)) ∧ n0 ≤ b1 ∧ n0 ≤ b2 ∧ a0r ≠ b1 ∧ a0r ≠ b2 ∧ b1 ≠ b2
set_option maxRecDepth 65536 in
set_option maxHeartbeats 40000000 in
theorem rm1 (l : Launch) (Z : State) (a0 : Array Value) (hw : ∀ d ∈ tables_1, d.before a0 Z = true) (ws : List Jvm.Cond) (a0r : Addr) (h0 : Heap) (n0 : Nat) (Z0 : n0 ≤ h0.size) (EX : Exa Z h0 a0r "com/example/mursyn/mursyn/synthesis/SuccessorLists") (g0r : n0 ≤ a0r) (F_first : Fld Z h0 a0r "com/example/mursyn/mursyn/synthesis/SuccessorLists" "first" "[I" .null) (F_targets : Fld Z h0 a0r "com/example/mursyn/mursyn/synthesis/SuccessorLists" "targets" "[I" .null) (F_edgeCount : Fld Z h0 a0r "com/example/mursyn/mursyn/synthesis/SuccessorLists" "edgeCount" "I" (.int (0 : Int32))) (F_listed : Fld Z h0 a0r "com/example/mursyn/mursyn/synthesis/SuccessorLists" "listed" "I" (.int (0 : Int32))) :
    MetFree l (⟨"com/example/mursyn/mursyn/synthesis/SuccessorLists", "<init>", "()V"⟩ : MethodName) (head1 (Jvm.Cond.code (⟨"com/example/mursyn/mursyn/synthesis/SuccessorLists", "<init>", "()V"⟩ : MethodName) prog_58_method_1_code 1 none :: ws) ({ frames := 1, cells := 2, slots := 33, locals := 12 } : Room)) (fun a U => a = #[(.ref a0r)] ∧ Z.Warmed39 U.vm ∧ U.heap = h0) (fun _ _ _ _ _ => True) (fun _ U o U' => ∃ v L, o = .returned v ∧ (own_Q_rm1 Z a0r h0 n0) v U'.heap L ∧ FrameEnd U o U' L ({ frames := 1, cells := 2, slots := 33, locals := 12 } : Room).cells ({ frames := 1, cells := 2, slots := 33, locals := 12 } : Room).slots) := by
  refine MetFree.of_bodySF (plainFor_of_name own_pn0) hisR ?_
  intro p e s m args below meth c s₁ Bd hml0 hP hK
  obtain ⟨rfl, hZ, hh⟩ := hP
  have hx := Bd.exec
  have hby := Bd.bytes
  have hml : c.maxLocals = 1 := hml0
  have hown : s.vm.findClass "com/example/mursyn/mursyn/synthesis/SuccessorLists" = some m.cls := findClass_of_methodNamed Bd.named
  have hnm := (name_of_methodNamed Bd.named Bd.method).1
  have hlk : meth.locks = false := BodyLoose.notSynchronized Bd
  have X0 : Stand p l e ({ frames := 1, cells := 2, slots := 33, locals := 12 } : Room) s m #[(.ref a0r)] below meth c s₁ [] 0 0 := Stand.of_body Bd
  have e0 : s₁.heap = h0 := by rw [← hh, Bd.state]; rfl
  have N0 := Fr.nil n0
  show own_Ends p e below (own_Fin s (own_Q_rm1 Z a0r h0 n0) ({ frames := 1, cells := 2, slots := 33, locals := 12 } : Room).cells ({ frames := 1, cells := 2, slots := 33, locals := 12 } : Room).slots) _
  refine own_pre (fun t k => castTop (own_ef_rm1 m a0r) k) ?_
  have KK0 : Keep h0 h0 [a0r] := Keep.refl _ _
  show own_Ends _ _ _ _ (s₁.setTop (mkF m 0 #[.val (.ref a0r)] []))
  refine own_pre (fun t k => XS.aloadN X0.here hx rfl (hb hby own_d1_0) rfl rfl k) ?_
  show own_Ends _ _ _ _ (s₁.setTop (mkF m 1 #[.val (.ref a0r)] [(.ref a0r)]))
  obtain ⟨T1, X1, e1, st1⟩ := initO X0 hx hZ hown (hw _ (List.mem_of_getElem? (i := 6) rfl)) (hw _ (List.mem_of_getElem? (i := 7) rfl)) (hw _ (List.mem_of_getElem? (i := 8) rfl)) e0 (g := (mkF m 1 #[.val (.ref a0r)] [(.ref a0r)])) rfl (by rw [hml]; rfl) rfl (hb hby own_d1_1) (by decide) (W := 0) (by show 2 * 0 + _ ≤ _; exact Nat.le_of_eq rfl) (by decide)
  refine own_pre st1 ?_
  show own_Ends _ _ _ _ (T1.setTop (mkF m 4 #[.val (.ref a0r)] []))
  refine own_pre (fun t k => XS.aloadN X1.here hx rfl (hb hby own_d1_4) rfl rfl k) ?_
  show own_Ends _ _ _ _ (T1.setTop (mkF m 5 #[.val (.ref a0r)] [(.ref a0r)]))
  refine own_pre (fun t k => XS.bipush X1.here hx rfl (hb hby own_d1_5) k) ?_
  show own_Ends _ _ _ _ (T1.setTop (mkF m 7 #[.val (.ref a0r)] [(.int (17 : Int32)), (.ref a0r)]))
  obtain ⟨T2, h2, k2, X2, e2, E2, A2, st2⟩ := newP X1 hx hZ (hw _ (List.mem_of_getElem? (i := 9) rfl)) e1 (g := (mkF m 7 #[.val (.ref a0r)] [(.int (17 : Int32)), (.ref a0r)])) rfl (hb hby own_d1_7) rfl (by decide) (cap := 17) (by decide) (by decide) (by decide) (by decide)
  obtain ⟨b2, g2⟩ : ∃ z, z = h0.size := ⟨_, rfl⟩
  rw [← g2] at A2 st2
  refine own_pre st2 ?_
  have ne3 : a0r ≠ b2 := Nat.ne_of_lt (Nat.lt_of_lt_of_le EX.lt (Nat.le_of_eq g2.symm))
  have f4 := EX.ext E2
  have f5 := F_first.ext E2
  have f6 := F_targets.ext E2
  have f7 := F_edgeCount.ext E2
  have f8 := F_listed.ext E2
  have L9 : n0 ≤ b2 := Nat.le_trans Z0 (Nat.le_of_eq g2.symm)
  have L10 : h0.size ≤ b2 := Nat.le_trans KK0.1 (Nat.le_of_eq g2.symm)
  have K11 : Keep h0 h2 [a0r] := KK0.ext E2
  have Zn12 : n0 ≤ h2.size := Nat.le_trans Z0 E2.1
  have f13 : Arv Z h2 b2 k2 .int (17 : Int32) [(.int (0 : Int32)), (.int (0 : Int32)), (.int (0 : Int32)), (.int (0 : Int32)), (.int (0 : Int32)), (.int (0 : Int32)), (.int (0 : Int32)), (.int (0 : Int32)), (.int (0 : Int32)), (.int (0 : Int32)), (.int (0 : Int32)), (.int (0 : Int32)), (.int (0 : Int32)), (.int (0 : Int32)), (.int (0 : Int32)), (.int (0 : Int32)), (.int (0 : Int32))] (.int (0 : Int32)) := (Arv.new A2 (by decide)).pad (pad_rep [] (.int (0 : Int32)) 17)
  show own_Ends _ _ _ _ (T2.setTop (mkF m 9 #[.val (.ref a0r)] [(.ref b2), (.ref a0r)]))
  obtain ⟨T14, h14, X14, e14, W14, st14⟩ := putF X2 hx hZ hown (host := "") (Or.inl (hw _ (List.mem_of_getElem? (i := 10) rfl))) Via.refl e2 f5 f4 (Or.inl (hw _ (List.mem_of_getElem? (i := 11) rfl))) (hw _ (List.mem_of_getElem? (i := 1) rfl)) (ty := (.array .int)) (by decide) rfl rfl (g := (mkF m 9 #[.val (.ref a0r)] [(.ref b2), (.ref a0r)])) rfl rfl (hb hby own_d1_9)
  refine own_pre st14 ?_
  have fw14 := f5.same W14
  have f15 := f4.wr W14
  have f16 := f6.other W14 (Or.inr (slot_ne (Or.inl (hw _ (List.mem_of_getElem? (i := 13) rfl))) (Or.inl (hw _ (List.mem_of_getElem? (i := 11) rfl))) (by decide) (t := (.array .int)) (t' := (.array .int)) (by decide) (by decide)))
  have f17 := f7.other W14 (Or.inr (slot_ne (Or.inl (hw _ (List.mem_of_getElem? (i := 20) rfl))) (Or.inl (hw _ (List.mem_of_getElem? (i := 11) rfl))) (by decide) (t := .int) (t' := (.array .int)) (by decide) (by decide)))
  have f18 := f8.other W14 (Or.inr (slot_ne (Or.inl (hw _ (List.mem_of_getElem? (i := 27) rfl))) (Or.inl (hw _ (List.mem_of_getElem? (i := 11) rfl))) (by decide) (t := .int) (t' := (.array .int)) (by decide) (by decide)))
  have f19 := f13.other W14 (Ne.symm ne3)
  have N20 := Fr.snoc X14 N0 g0r
  have Zn21 : n0 ≤ h14.size := by rw [W14.size]; exact Zn12
  have K22 : Keep h0 h14 [a0r] := K11.wr W14 (Or.inl (by simp))
  show own_Ends _ _ _ _ (T14.setTop (mkF m 12 #[.val (.ref a0r)] []))
  refine own_pre (fun t k => XS.aloadN X14.here hx rfl (hb hby own_d1_12) rfl rfl k) ?_
  show own_Ends _ _ _ _ (T14.setTop (mkF m 13 #[.val (.ref a0r)] [(.ref a0r)]))
  refine own_pre (fun t k => XS.bipush X14.here hx rfl (hb hby own_d1_13) k) ?_
  show own_Ends _ _ _ _ (T14.setTop (mkF m 15 #[.val (.ref a0r)] [(.int (16 : Int32)), (.ref a0r)]))
  obtain ⟨T23, h23, k23, X23, e23, E23, A23, st23⟩ := newP X14 hx hZ (hw _ (List.mem_of_getElem? (i := 9) rfl)) e14 (g := (mkF m 15 #[.val (.ref a0r)] [(.int (16 : Int32)), (.ref a0r)])) rfl (hb hby own_d1_15) rfl (by decide) (cap := 16) (by decide) (by decide) (by decide) (by decide)
  obtain ⟨b23, g23⟩ : ∃ z, z = h14.size := ⟨_, rfl⟩
  rw [← g23] at A23 st23
  refine own_pre st23 ?_
  have ne24 : a0r ≠ b23 := Nat.ne_of_lt (Nat.lt_of_lt_of_le f15.lt (Nat.le_of_eq g23.symm))
  have ne25 : b2 ≠ b23 := Nat.ne_of_lt (Nat.lt_of_lt_of_le f19.lt (Nat.le_of_eq g23.symm))
  have f26 := f15.ext E23
  have f27 := f16.ext E23
  have f28 := f17.ext E23
  have f29 := f18.ext E23
  have f30 := f19.ext E23
  have f31 := fw14.ext E23
  have L32 : n0 ≤ b23 := Nat.le_trans Zn21 (Nat.le_of_eq g23.symm)
  have L33 : h0.size ≤ b23 := Nat.le_trans K22.1 (Nat.le_of_eq g23.symm)
  have K34 : Keep h0 h23 [a0r] := K22.ext E23
  have Zn35 : n0 ≤ h23.size := Nat.le_trans Zn21 E23.1
  have f36 : Arv Z h23 b23 k23 .int (16 : Int32) [(.int (0 : Int32)), (.int (0 : Int32)), (.int (0 : Int32)), (.int (0 : Int32)), (.int (0 : Int32)), (.int (0 : Int32)), (.int (0 : Int32)), (.int (0 : Int32)), (.int (0 : Int32)), (.int (0 : Int32)), (.int (0 : Int32)), (.int (0 : Int32)), (.int (0 : Int32)), (.int (0 : Int32)), (.int (0 : Int32)), (.int (0 : Int32))] (.int (0 : Int32)) := (Arv.new A23 (by decide)).pad (pad_rep [] (.int (0 : Int32)) 16)
  show own_Ends _ _ _ _ (T23.setTop (mkF m 17 #[.val (.ref a0r)] [(.ref b23), (.ref a0r)]))
  obtain ⟨T37, h37, X37, e37, W37, st37⟩ := putF X23 hx hZ hown (host := "") (Or.inl (hw _ (List.mem_of_getElem? (i := 12) rfl))) Via.refl e23 f27 f26 (Or.inl (hw _ (List.mem_of_getElem? (i := 13) rfl))) (hw _ (List.mem_of_getElem? (i := 1) rfl)) (ty := (.array .int)) (by decide) rfl rfl (g := (mkF m 17 #[.val (.ref a0r)] [(.ref b23), (.ref a0r)])) rfl rfl (hb hby own_d1_17)
  refine own_pre st37 ?_
  have fw37 := f27.same W37
  have f38 := f26.wr W37
  have f39 := f28.other W37 (Or.inr (slot_ne (Or.inl (hw _ (List.mem_of_getElem? (i := 20) rfl))) (Or.inl (hw _ (List.mem_of_getElem? (i := 13) rfl))) (by decide) (t := .int) (t' := (.array .int)) (by decide) (by decide)))
  have f40 := f29.other W37 (Or.inr (slot_ne (Or.inl (hw _ (List.mem_of_getElem? (i := 27) rfl))) (Or.inl (hw _ (List.mem_of_getElem? (i := 13) rfl))) (by decide) (t := .int) (t' := (.array .int)) (by decide) (by decide)))
  have f41 := f30.other W37 (Ne.symm ne3)
  have f42 := f31.other W37 (Or.inr (slot_ne (Or.inl (hw _ (List.mem_of_getElem? (i := 11) rfl))) (Or.inl (hw _ (List.mem_of_getElem? (i := 13) rfl))) (by decide) (t := (.array .int)) (t' := (.array .int)) (by decide) (by decide)))
  have f43 := f36.other W37 (Ne.symm ne24)
  have N44 := Fr.snoc X37 N20 g0r
  have Zn45 : n0 ≤ h37.size := by rw [W37.size]; exact Zn35
  have K46 : Keep h0 h37 [a0r] := K34.wr W37 (Or.inl (by simp))
  show own_Ends _ _ _ _ (T37.setTop (mkF m 20 #[.val (.ref a0r)] []))
  exact own_retV X37 hx Bd.returns (hb hby own_d1_20) hlk e37 ⟨b2, b23, _, _, rfl, N44, K46, f42, fw37, f39, f40, f41, f43, L9, L32, ne3, ne24, ne25⟩ (by decide) (by decide)
theorem own_d3_0 : decode prog_58_method_2_code 0 = .ok (.aload_n 0, 1) := by decide +kernel
theorem own_d3_1 : decode prog_58_method_2_code 1 = .ok (.getfield 16, 3) := by decide +kernel
theorem own_d3_4 : decode prog_58_method_2_code 4 = .ok (.aload_n 0, 1) := by decide +kernel
theorem own_d3_5 : decode prog_58_method_2_code 5 = .ok (.getfield 13, 3) := by decide +kernel
theorem own_d3_8 : decode prog_58_method_2_code 8 = .ok (.arraylength, 1) := by decide +kernel
theorem own_d3_9 : decode prog_58_method_2_code 9 = .ok (.if_icmp .ne 21, 3) := by decide +kernel
theorem own_d3_30 : decode prog_58_method_2_code 30 = .ok (.aload_n 0, 1) := by decide +kernel
theorem own_d3_31 : decode prog_58_method_2_code 31 = .ok (.getfield 13, 3) := by decide +kernel
theorem own_d3_34 : decode prog_58_method_2_code 34 = .ok (.aload_n 0, 1) := by decide +kernel
theorem own_d3_35 : decode prog_58_method_2_code 35 = .ok (.dup, 1) := by decide +kernel
theorem own_d3_36 : decode prog_58_method_2_code 36 = .ok (.getfield 16, 3) := by decide +kernel
theorem own_d3_39 : decode prog_58_method_2_code 39 = .ok (.dup_x1, 1) := by decide +kernel
theorem own_d3_40 : decode prog_58_method_2_code 40 = .ok (.iconst 1, 1) := by decide +kernel
theorem own_d3_41 : decode prog_58_method_2_code 41 = .ok (.iadd, 1) := by decide +kernel
theorem own_d3_42 : decode prog_58_method_2_code 42 = .ok (.putfield 16, 3) := by decide +kernel
theorem own_d3_45 : decode prog_58_method_2_code 45 = .ok (.iload_n 1, 1) := by decide +kernel
theorem own_d3_46 : decode prog_58_method_2_code 46 = .ok (.iastore, 1) := by decide +kernel
theorem own_d3_47 : decode prog_58_method_2_code 47 = .ok (.return_, 1) := by decide +kernel
theorem own_ef_rm2 (m : MethodId) (x0 : Addr) (x1 : Int32) : entryFrame m #[(.ref x0), (.int x1)] 2 = mkF m 0 #[.val (.ref x0), .val (.int x1)] [] := by first | (simp [entryFrame, mkF, argsToLocals, Value.category]; done) | rfl
def own_Q_rm2 (Z : State) (a0r : Addr) (p1 : Int32) (af atg : Addr) (ec li : Int32) (kx : ClassId) (vs : List Value) (h0 : Heap) (n0 : Nat) (v : Option Value) (h : Heap) (L : List Loc) : Prop := v = none ∧ Fr n0 L ∧ Keep h0 h [a0r, atg] ∧ Fld Z h a0r "com/example/mursyn/mursyn/synthesis/SuccessorLists" "first" "[I" (.ref af) ∧ Fld Z h a0r "com/example/mursyn/mursyn/synthesis/SuccessorLists" "targets" "[I" (.ref atg) ∧ Fld Z h a0r "com/example/mursyn/mursyn/synthesis/SuccessorLists" "edgeCount" "I" (.int (ec + (1 : Int32))) ∧ Fld Z h a0r "com/example/mursyn/mursyn/synthesis/SuccessorLists" "listed" "I" (.int li) ∧ Arv Z h atg kx .int (16 : Int32) (vs.set (ec).toNatClampNeg (.int p1)) (.int (0 : Int32))
set_option maxRecDepth 65536 in
set_option maxHeartbeats 40000000 in
theorem rm2 (l : Launch) (Z : State) (a0 : Array Value) (hw : ∀ d ∈ tables_1, d.before a0 Z = true) (ws : List Jvm.Cond) (a0r : Addr) (p1 : Int32) (af atg : Addr) (ec li : Int32) (kx : ClassId) (vs : List Value) (h0 : Heap) (n0 : Nat) (Z0 : n0 ≤ h0.size) (EX : Exa Z h0 a0r "com/example/mursyn/mursyn/synthesis/SuccessorLists") (g0r : n0 ≤ a0r) (gx : n0 ≤ atg) (nex : a0r ≠ atg) (F_first : Fld Z h0 a0r "com/example/mursyn/mursyn/synthesis/SuccessorLists" "first" "[I" (.ref af)) (F_targets : Fld Z h0 a0r "com/example/mursyn/mursyn/synthesis/SuccessorLists" "targets" "[I" (.ref atg)) (F_edgeCount : Fld Z h0 a0r "com/example/mursyn/mursyn/synthesis/SuccessorLists" "edgeCount" "I" (.int ec)) (F_listed : Fld Z h0 a0r "com/example/mursyn/mursyn/synthesis/SuccessorLists" "listed" "I" (.int li)) (VV : Arv Z h0 atg kx .int (16 : Int32) vs (.int (0 : Int32))) (hne : ¬ ec = (16 : Int32)) (hin : ¬ ec < 0 ∧ ec < (16 : Int32)) (hln : (ec).toNatClampNeg < vs.length) :
    MetFree l (⟨"com/example/mursyn/mursyn/synthesis/SuccessorLists", "add", "(I)V"⟩ : MethodName) (head1 (Jvm.Cond.code (⟨"com/example/mursyn/mursyn/synthesis/SuccessorLists", "add", "(I)V"⟩ : MethodName) prog_58_method_2_code 2 none :: ws) ({ frames := 0, cells := 0, slots := 0, locals := 0 } : Room)) (fun a U => a = #[(.ref a0r), (.int p1)] ∧ Z.Warmed39 U.vm ∧ U.heap = h0) (fun _ _ _ _ _ => True) (fun _ U o U' => ∃ v L, o = .returned v ∧ (own_Q_rm2 Z a0r p1 af atg ec li kx vs h0 n0) v U'.heap L ∧ FrameEnd U o U' L ({ frames := 0, cells := 0, slots := 0, locals := 0 } : Room).cells ({ frames := 0, cells := 0, slots := 0, locals := 0 } : Room).slots) := by
  refine MetFree.of_bodySF (plainFor_of_name own_pn0) hisR ?_
  intro p e s m args below meth c s₁ Bd hml0 hP hK
  obtain ⟨rfl, hZ, hh⟩ := hP
  have hx := Bd.exec
  have hby := Bd.bytes
  have hml : c.maxLocals = 2 := hml0
  have hown : s.vm.findClass "com/example/mursyn/mursyn/synthesis/SuccessorLists" = some m.cls := findClass_of_methodNamed Bd.named
  have hnm := (name_of_methodNamed Bd.named Bd.method).1
  have hlk : meth.locks = false := BodyLoose.notSynchronized Bd
  have X0 : Stand p l e ({ frames := 0, cells := 0, slots := 0, locals := 0 } : Room) s m #[(.ref a0r), (.int p1)] below meth c s₁ [] 0 0 := Stand.of_body Bd
  have e0 : s₁.heap = h0 := by rw [← hh, Bd.state]; rfl
  have N0 := Fr.nil n0
  show own_Ends p e below (own_Fin s (own_Q_rm2 Z a0r p1 af atg ec li kx vs h0 n0) ({ frames := 0, cells := 0, slots := 0, locals := 0 } : Room).cells ({ frames := 0, cells := 0, slots := 0, locals := 0 } : Room).slots) _
  refine own_pre (fun t k => castTop (own_ef_rm2 m a0r p1) k) ?_
  have KK0 : Keep h0 h0 [a0r, atg] := Keep.refl _ _
  show own_Ends _ _ _ _ (s₁.setTop (mkF m 0 #[.val (.ref a0r), .val (.int p1)] []))
  refine own_pre (fun t k => XS.aloadN X0.here hx rfl (hb hby own_d3_0) rfl rfl k) ?_
  show own_Ends _ _ _ _ (s₁.setTop (mkF m 1 #[.val (.ref a0r), .val (.int p1)] [(.ref a0r)]))
  obtain ⟨T47, X47, e47, st47⟩ := getF X0 hx hZ hown (host := "") (Or.inl (hw _ (List.mem_of_getElem? (i := 19) rfl))) Via.refl e0 F_edgeCount (g := (mkF m 1 #[.val (.ref a0r), .val (.int p1)] [(.ref a0r)])) rfl rfl (hb hby own_d3_1)
  refine own_pre st47 ?_
  show own_Ends _ _ _ _ (T47.setTop (mkF m 4 #[.val (.ref a0r), .val (.int p1)] [(.int ec)]))
  refine own_pre (fun t k => XS.aloadN X47.here hx rfl (hb hby own_d3_4) rfl rfl k) ?_
  show own_Ends _ _ _ _ (T47.setTop (mkF m 5 #[.val (.ref a0r), .val (.int p1)] [(.ref a0r), (.int ec)]))
  obtain ⟨T48, X48, e48, st48⟩ := getF X47 hx hZ hown (host := "") (Or.inl (hw _ (List.mem_of_getElem? (i := 12) rfl))) Via.refl e47 F_targets (g := (mkF m 5 #[.val (.ref a0r), .val (.int p1)] [(.ref a0r), (.int ec)])) rfl rfl (hb hby own_d3_5)
  refine own_pre st48 ?_
  show own_Ends _ _ _ _ (T48.setTop (mkF m 8 #[.val (.ref a0r), .val (.int p1)] [(.ref atg), (.int ec)]))
  obtain ⟨cl49, Ar49, -, S49, M49, -, -⟩ := id (VV)
  refine own_pre (fun t k => own_len X48 hx e48 hZ Ar49 S49 M49 (g := (mkF m 8 #[.val (.ref a0r), .val (.int p1)] [(.ref atg), (.int ec)])) rfl rfl (hb hby own_d3_8) k) ?_
  show own_Ends _ _ _ _ (T48.setTop (mkF m 9 #[.val (.ref a0r), .val (.int p1)] [(.int (16 : Int32)), (.int ec)]))
  refine own_pre (fun t k => XS.icmpYes X48.here hx rfl (pc0 := 9) (pc' := 30) rfl (hb hby own_d3_9) rfl (feq (hne : ¬ (ec = (16 : Int32)))).2 (by decide) (by decide) k) ?_
  show own_Ends _ _ _ _ (T48.setTop (mkF m 30 #[.val (.ref a0r), .val (.int p1)] []))
  refine own_pre (fun t k => XS.aloadN X48.here hx rfl (hb hby own_d3_30) rfl rfl k) ?_
  show own_Ends _ _ _ _ (T48.setTop (mkF m 31 #[.val (.ref a0r), .val (.int p1)] [(.ref a0r)]))
  obtain ⟨T50, X50, e50, st50⟩ := getF X48 hx hZ hown (host := "") (Or.inl (hw _ (List.mem_of_getElem? (i := 12) rfl))) Via.refl e48 F_targets (g := (mkF m 31 #[.val (.ref a0r), .val (.int p1)] [(.ref a0r)])) rfl rfl (hb hby own_d3_31)
  refine own_pre st50 ?_
  show own_Ends _ _ _ _ (T50.setTop (mkF m 34 #[.val (.ref a0r), .val (.int p1)] [(.ref atg)]))
  refine own_pre (fun t k => XS.aloadN X50.here hx rfl (hb hby own_d3_34) rfl rfl k) ?_
  show own_Ends _ _ _ _ (T50.setTop (mkF m 35 #[.val (.ref a0r), .val (.int p1)] [(.ref a0r), (.ref atg)]))
  refine own_pre (fun t k => XS.dup X50.here hx rfl (hb hby own_d3_35) rfl rfl k) ?_
  show own_Ends _ _ _ _ (T50.setTop (mkF m 36 #[.val (.ref a0r), .val (.int p1)] [(.ref a0r), (.ref a0r), (.ref atg)]))
  obtain ⟨T51, X51, e51, st51⟩ := getF X50 hx hZ hown (host := "") (Or.inl (hw _ (List.mem_of_getElem? (i := 19) rfl))) Via.refl e50 F_edgeCount (g := (mkF m 36 #[.val (.ref a0r), .val (.int p1)] [(.ref a0r), (.ref a0r), (.ref atg)])) rfl rfl (hb hby own_d3_36)
  refine own_pre st51 ?_
  show own_Ends _ _ _ _ (T51.setTop (mkF m 39 #[.val (.ref a0r), .val (.int p1)] [(.int ec), (.ref a0r), (.ref atg)]))
  refine own_pre (fun t k => XS.dupX1 X51.here hx rfl (hb hby own_d3_39) rfl rfl rfl k) ?_
  show own_Ends _ _ _ _ (T51.setTop (mkF m 40 #[.val (.ref a0r), .val (.int p1)] [(.int ec), (.ref a0r), (.int ec), (.ref atg)]))
  refine own_pre (fun t k => XS.iconst X51.here hx rfl (hb hby own_d3_40) k) ?_
  show own_Ends _ _ _ _ (T51.setTop (mkF m 41 #[.val (.ref a0r), .val (.int p1)] [(.int (1 : Int32)), (.int ec), (.ref a0r), (.int ec), (.ref atg)]))
  refine own_pre (fun t k => XS.iadd X51.here hx rfl (hb hby own_d3_41) rfl k) ?_
  show own_Ends _ _ _ _ (T51.setTop (mkF m 42 #[.val (.ref a0r), .val (.int p1)] [(.int (ec + (1 : Int32))), (.ref a0r), (.int ec), (.ref atg)]))
  obtain ⟨T52, h52, X52, e52, W52, st52⟩ := putF X51 hx hZ hown (host := "") (Or.inl (hw _ (List.mem_of_getElem? (i := 19) rfl))) Via.refl e51 F_edgeCount EX (Or.inl (hw _ (List.mem_of_getElem? (i := 20) rfl))) (hw _ (List.mem_of_getElem? (i := 1) rfl)) (ty := .int) (by decide) rfl rfl (g := (mkF m 42 #[.val (.ref a0r), .val (.int p1)] [(.int (ec + (1 : Int32))), (.ref a0r), (.int ec), (.ref atg)])) rfl rfl (hb hby own_d3_42)
  refine own_pre st52 ?_
  have fw52 := F_edgeCount.same W52
  have f53 := EX.wr W52
  have f54 := F_first.other W52 (Or.inr (slot_ne (Or.inl (hw _ (List.mem_of_getElem? (i := 11) rfl))) (Or.inl (hw _ (List.mem_of_getElem? (i := 20) rfl))) (by decide) (t := (.array .int)) (t' := .int) (by decide) (by decide)))
  have f55 := F_targets.other W52 (Or.inr (slot_ne (Or.inl (hw _ (List.mem_of_getElem? (i := 13) rfl))) (Or.inl (hw _ (List.mem_of_getElem? (i := 20) rfl))) (by decide) (t := (.array .int)) (t' := .int) (by decide) (by decide)))
  have f56 := F_listed.other W52 (Or.inr (slot_ne (Or.inl (hw _ (List.mem_of_getElem? (i := 27) rfl))) (Or.inl (hw _ (List.mem_of_getElem? (i := 20) rfl))) (by decide) (t := .int) (t' := .int) (by decide) (by decide)))
  have f57 := VV.other W52 (Ne.symm nex)
  have N58 := Fr.snoc X52 N0 g0r
  have Zn59 : n0 ≤ h52.size := by rw [W52.size]; exact Z0
  have K60 : Keep h0 h52 [a0r, atg] := KK0.wr W52 (Or.inl (by simp))
  show own_Ends _ _ _ _ (T52.setTop (mkF m 45 #[.val (.ref a0r), .val (.int p1)] [(.int ec), (.ref atg)]))
  refine own_pre (fun t k => XS.iloadN X52.here hx rfl (hb hby own_d3_45) rfl k) ?_
  show own_Ends _ _ _ _ (T52.setTop (mkF m 46 #[.val (.ref a0r), .val (.int p1)] [(.int p1), (.int ec), (.ref atg)]))
  obtain ⟨cl61, Ar61, q61, S61, M61, H61, G61⟩ := id (f57)
  have hin61 : ¬ (ec < 0 ∨ cl61.slots.size ≤ (ec).toNatClampNeg) := inb_of S61 hin
  obtain ⟨T61, h61, X61, e61, W61, st61⟩ := stI X52 hx hZ e52 Ar61 (j := ec) hin61 (g := (mkF m 46 #[.val (.ref a0r), .val (.int p1)] [(.int p1), (.int ec), (.ref atg)])) rfl rfl (hb hby own_d3_46)
  refine own_pre st61 ?_
  have f62 := Arv.set Ar61 q61 S61 M61 H61 G61 (show fits .int (.int p1) = true from rfl) W61 (ec).toNatClampNeg rfl hln
  have f63 := f53.wr W61
  have f64 := f54.other W61 (Or.inl nex)
  have f65 := f55.other W61 (Or.inl nex)
  have f66 := f56.other W61 (Or.inl nex)
  have f67 := fw52.other W61 (Or.inl nex)
  have N68 := Fr.snoc X61 N58 gx
  have Zn69 : n0 ≤ h61.size := by rw [W61.size]; exact Zn59
  have K70 : Keep h0 h61 [a0r, atg] := K60.wr W61 (Or.inl (by simp))
  show own_Ends _ _ _ _ (T61.setTop (mkF m 47 #[.val (.ref a0r), .val (.int p1)] []))
  exact own_retV X61 hx Bd.returns (hb hby own_d3_47) hlk e61 ⟨rfl, N68, K70, f64, f65, f67, f66, f62⟩ (by decide) (by decide)
theorem own_d4_0 : decode prog_58_method_3_code 0 = .ok (.aload_n 0, 1) := by decide +kernel
theorem own_d4_1 : decode prog_58_method_3_code 1 = .ok (.dup, 1) := by decide +kernel
theorem own_d4_2 : decode prog_58_method_3_code 2 = .ok (.getfield 26, 3) := by decide +kernel
theorem own_d4_5 : decode prog_58_method_3_code 5 = .ok (.iconst 1, 1) := by decide +kernel
theorem own_d4_6 : decode prog_58_method_3_code 6 = .ok (.iadd, 1) := by decide +kernel
theorem own_d4_7 : decode prog_58_method_3_code 7 = .ok (.putfield 26, 3) := by decide +kernel
theorem own_d4_10 : decode prog_58_method_3_code 10 = .ok (.aload_n 0, 1) := by decide +kernel
theorem own_d4_11 : decode prog_58_method_3_code 11 = .ok (.getfield 26, 3) := by decide +kernel
theorem own_d4_14 : decode prog_58_method_3_code 14 = .ok (.aload_n 0, 1) := by decide +kernel
theorem own_d4_15 : decode prog_58_method_3_code 15 = .ok (.getfield 7, 3) := by decide +kernel
theorem own_d4_18 : decode prog_58_method_3_code 18 = .ok (.arraylength, 1) := by decide +kernel
theorem own_d4_19 : decode prog_58_method_3_code 19 = .ok (.if_icmp .ne 21, 3) := by decide +kernel
theorem own_d4_40 : decode prog_58_method_3_code 40 = .ok (.aload_n 0, 1) := by decide +kernel
theorem own_d4_41 : decode prog_58_method_3_code 41 = .ok (.getfield 7, 3) := by decide +kernel
theorem own_d4_44 : decode prog_58_method_3_code 44 = .ok (.aload_n 0, 1) := by decide +kernel
theorem own_d4_45 : decode prog_58_method_3_code 45 = .ok (.getfield 26, 3) := by decide +kernel
theorem own_d4_48 : decode prog_58_method_3_code 48 = .ok (.aload_n 0, 1) := by decide +kernel
theorem own_d4_49 : decode prog_58_method_3_code 49 = .ok (.getfield 16, 3) := by decide +kernel
theorem own_d4_52 : decode prog_58_method_3_code 52 = .ok (.iastore, 1) := by decide +kernel
theorem own_d4_53 : decode prog_58_method_3_code 53 = .ok (.return_, 1) := by decide +kernel
theorem own_ef_rm3 (m : MethodId) (x0 : Addr) : entryFrame m #[(.ref x0)] 1 = mkF m 0 #[.val (.ref x0)] [] := by first | (simp [entryFrame, mkF, argsToLocals, Value.category]; done) | rfl
def own_Q_rm3 (Z : State) (a0r : Addr) (af atg : Addr) (ec li : Int32) (kx : ClassId) (vs : List Value) (h0 : Heap) (n0 : Nat) (v : Option Value) (h : Heap) (L : List Loc) : Prop := v = none ∧ Fr n0 L ∧ Keep h0 h [a0r, af] ∧ Fld Z h a0r "com/example/mursyn/mursyn/synthesis/SuccessorLists" "first" "[I" (.ref af) ∧ Fld Z h a0r "com/example/mursyn/mursyn/synthesis/SuccessorLists" "targets" "[I" (.ref atg) ∧ Fld Z h a0r "com/example/mursyn/mursyn/synthesis/SuccessorLists" "edgeCount" "I" (.int ec) ∧ Fld Z h a0r "com/example/mursyn/mursyn/synthesis/SuccessorLists" "listed" "I" (.int (li + (1 : Int32))) ∧ Arv Z h af kx .int (17 : Int32) (vs.set ((li + (1 : Int32))).toNatClampNeg (.int ec)) (.int (0 : Int32))
set_option maxRecDepth 65536 in
set_option maxHeartbeats 40000000 in
theorem rm3 (l : Launch) (Z : State) (a0 : Array Value) (hw : ∀ d ∈ tables_1, d.before a0 Z = true) (ws : List Jvm.Cond) (a0r : Addr) (af atg : Addr) (ec li : Int32) (kx : ClassId) (vs : List Value) (h0 : Heap) (n0 : Nat) (Z0 : n0 ≤ h0.size) (EX : Exa Z h0 a0r "com/example/mursyn/mursyn/synthesis/SuccessorLists") (g0r : n0 ≤ a0r) (gx : n0 ≤ af) (nex : a0r ≠ af) (F_first : Fld Z h0 a0r "com/example/mursyn/mursyn/synthesis/SuccessorLists" "first" "[I" (.ref af)) (F_targets : Fld Z h0 a0r "com/example/mursyn/mursyn/synthesis/SuccessorLists" "targets" "[I" (.ref atg)) (F_edgeCount : Fld Z h0 a0r "com/example/mursyn/mursyn/synthesis/SuccessorLists" "edgeCount" "I" (.int ec)) (F_listed : Fld Z h0 a0r "com/example/mursyn/mursyn/synthesis/SuccessorLists" "listed" "I" (.int li)) (VV : Arv Z h0 af kx .int (17 : Int32) vs (.int (0 : Int32))) (hne : ¬ (li + (1 : Int32)) = (17 : Int32)) (hin : ¬ (li + (1 : Int32)) < 0 ∧ (li + (1 : Int32)) < (17 : Int32)) (hln : ((li + (1 : Int32))).toNatClampNeg < vs.length) :
    MetFree l (⟨"com/example/mursyn/mursyn/synthesis/SuccessorLists", "close", "()V"⟩ : MethodName) (head1 (Jvm.Cond.code (⟨"com/example/mursyn/mursyn/synthesis/SuccessorLists", "close", "()V"⟩ : MethodName) prog_58_method_3_code 1 none :: ws) ({ frames := 0, cells := 0, slots := 0, locals := 0 } : Room)) (fun a U => a = #[(.ref a0r)] ∧ Z.Warmed39 U.vm ∧ U.heap = h0) (fun _ _ _ _ _ => True) (fun _ U o U' => ∃ v L, o = .returned v ∧ (own_Q_rm3 Z a0r af atg ec li kx vs h0 n0) v U'.heap L ∧ FrameEnd U o U' L ({ frames := 0, cells := 0, slots := 0, locals := 0 } : Room).cells ({ frames := 0, cells := 0, slots := 0, locals := 0 } : Room).slots) := by
  refine MetFree.of_bodySF (plainFor_of_name own_pn0) hisR ?_
  intro p e s m args below meth c s₁ Bd hml0 hP hK
  obtain ⟨rfl, hZ, hh⟩ := hP
  have hx := Bd.exec
  have hby := Bd.bytes
  have hml : c.maxLocals = 1 := hml0
  have hown : s.vm.findClass "com/example/mursyn/mursyn/synthesis/SuccessorLists" = some m.cls := findClass_of_methodNamed Bd.named
  have hnm := (name_of_methodNamed Bd.named Bd.method).1
  have hlk : meth.locks = false := BodyLoose.notSynchronized Bd
  have X0 : Stand p l e ({ frames := 0, cells := 0, slots := 0, locals := 0 } : Room) s m #[(.ref a0r)] below meth c s₁ [] 0 0 := Stand.of_body Bd
  have e0 : s₁.heap = h0 := by rw [← hh, Bd.state]; rfl
  have N0 := Fr.nil n0
  show own_Ends p e below (own_Fin s (own_Q_rm3 Z a0r af atg ec li kx vs h0 n0) ({ frames := 0, cells := 0, slots := 0, locals := 0 } : Room).cells ({ frames := 0, cells := 0, slots := 0, locals := 0 } : Room).slots) _
  refine own_pre (fun t k => castTop (own_ef_rm3 m a0r) k) ?_
  have KK0 : Keep h0 h0 [a0r, af] := Keep.refl _ _
  show own_Ends _ _ _ _ (s₁.setTop (mkF m 0 #[.val (.ref a0r)] []))
  refine own_pre (fun t k => XS.aloadN X0.here hx rfl (hb hby own_d4_0) rfl rfl k) ?_
  show own_Ends _ _ _ _ (s₁.setTop (mkF m 1 #[.val (.ref a0r)] [(.ref a0r)]))
  refine own_pre (fun t k => XS.dup X0.here hx rfl (hb hby own_d4_1) rfl rfl k) ?_
  show own_Ends _ _ _ _ (s₁.setTop (mkF m 2 #[.val (.ref a0r)] [(.ref a0r), (.ref a0r)]))
  obtain ⟨T71, X71, e71, st71⟩ := getF X0 hx hZ hown (host := "") (Or.inl (hw _ (List.mem_of_getElem? (i := 26) rfl))) Via.refl e0 F_listed (g := (mkF m 2 #[.val (.ref a0r)] [(.ref a0r), (.ref a0r)])) rfl rfl (hb hby own_d4_2)
  refine own_pre st71 ?_
  show own_Ends _ _ _ _ (T71.setTop (mkF m 5 #[.val (.ref a0r)] [(.int li), (.ref a0r)]))
  refine own_pre (fun t k => XS.iconst X71.here hx rfl (hb hby own_d4_5) k) ?_
  show own_Ends _ _ _ _ (T71.setTop (mkF m 6 #[.val (.ref a0r)] [(.int (1 : Int32)), (.int li), (.ref a0r)]))
  refine own_pre (fun t k => XS.iadd X71.here hx rfl (hb hby own_d4_6) rfl k) ?_
  show own_Ends _ _ _ _ (T71.setTop (mkF m 7 #[.val (.ref a0r)] [(.int (li + (1 : Int32))), (.ref a0r)]))
  obtain ⟨T72, h72, X72, e72, W72, st72⟩ := putF X71 hx hZ hown (host := "") (Or.inl (hw _ (List.mem_of_getElem? (i := 26) rfl))) Via.refl e71 F_listed EX (Or.inl (hw _ (List.mem_of_getElem? (i := 27) rfl))) (hw _ (List.mem_of_getElem? (i := 1) rfl)) (ty := .int) (by decide) rfl rfl (g := (mkF m 7 #[.val (.ref a0r)] [(.int (li + (1 : Int32))), (.ref a0r)])) rfl rfl (hb hby own_d4_7)
  refine own_pre st72 ?_
  have fw72 := F_listed.same W72
  have f73 := EX.wr W72
  have f74 := F_first.other W72 (Or.inr (slot_ne (Or.inl (hw _ (List.mem_of_getElem? (i := 11) rfl))) (Or.inl (hw _ (List.mem_of_getElem? (i := 27) rfl))) (by decide) (t := (.array .int)) (t' := .int) (by decide) (by decide)))
  have f75 := F_targets.other W72 (Or.inr (slot_ne (Or.inl (hw _ (List.mem_of_getElem? (i := 13) rfl))) (Or.inl (hw _ (List.mem_of_getElem? (i := 27) rfl))) (by decide) (t := (.array .int)) (t' := .int) (by decide) (by decide)))
  have f76 := F_edgeCount.other W72 (Or.inr (slot_ne (Or.inl (hw _ (List.mem_of_getElem? (i := 20) rfl))) (Or.inl (hw _ (List.mem_of_getElem? (i := 27) rfl))) (by decide) (t := .int) (t' := .int) (by decide) (by decide)))
  have f77 := VV.other W72 (Ne.symm nex)
  have N78 := Fr.snoc X72 N0 g0r
  have Zn79 : n0 ≤ h72.size := by rw [W72.size]; exact Z0
  have K80 : Keep h0 h72 [a0r, af] := KK0.wr W72 (Or.inl (by simp))
  show own_Ends _ _ _ _ (T72.setTop (mkF m 10 #[.val (.ref a0r)] []))
  refine own_pre (fun t k => XS.aloadN X72.here hx rfl (hb hby own_d4_10) rfl rfl k) ?_
  show own_Ends _ _ _ _ (T72.setTop (mkF m 11 #[.val (.ref a0r)] [(.ref a0r)]))
  obtain ⟨T81, X81, e81, st81⟩ := getF X72 hx hZ hown (host := "") (Or.inl (hw _ (List.mem_of_getElem? (i := 26) rfl))) Via.refl e72 fw72 (g := (mkF m 11 #[.val (.ref a0r)] [(.ref a0r)])) rfl rfl (hb hby own_d4_11)
  refine own_pre st81 ?_
  show own_Ends _ _ _ _ (T81.setTop (mkF m 14 #[.val (.ref a0r)] [(.int (li + (1 : Int32)))]))
  refine own_pre (fun t k => XS.aloadN X81.here hx rfl (hb hby own_d4_14) rfl rfl k) ?_
  show own_Ends _ _ _ _ (T81.setTop (mkF m 15 #[.val (.ref a0r)] [(.ref a0r), (.int (li + (1 : Int32)))]))
  obtain ⟨T82, X82, e82, st82⟩ := getF X81 hx hZ hown (host := "") (Or.inl (hw _ (List.mem_of_getElem? (i := 10) rfl))) Via.refl e81 f74 (g := (mkF m 15 #[.val (.ref a0r)] [(.ref a0r), (.int (li + (1 : Int32)))])) rfl rfl (hb hby own_d4_15)
  refine own_pre st82 ?_
  show own_Ends _ _ _ _ (T82.setTop (mkF m 18 #[.val (.ref a0r)] [(.ref af), (.int (li + (1 : Int32)))]))
  obtain ⟨cl83, Ar83, -, S83, M83, -, -⟩ := id (f77)
  refine own_pre (fun t k => own_len X82 hx e82 hZ Ar83 S83 M83 (g := (mkF m 18 #[.val (.ref a0r)] [(.ref af), (.int (li + (1 : Int32)))])) rfl rfl (hb hby own_d4_18) k) ?_
  show own_Ends _ _ _ _ (T82.setTop (mkF m 19 #[.val (.ref a0r)] [(.int (17 : Int32)), (.int (li + (1 : Int32)))]))
  refine own_pre (fun t k => XS.icmpYes X82.here hx rfl (pc0 := 19) (pc' := 40) rfl (hb hby own_d4_19) rfl (feq (hne : ¬ ((li + (1 : Int32)) = (17 : Int32)))).2 (by decide) (by decide) k) ?_
  show own_Ends _ _ _ _ (T82.setTop (mkF m 40 #[.val (.ref a0r)] []))
  refine own_pre (fun t k => XS.aloadN X82.here hx rfl (hb hby own_d4_40) rfl rfl k) ?_
  show own_Ends _ _ _ _ (T82.setTop (mkF m 41 #[.val (.ref a0r)] [(.ref a0r)]))
  obtain ⟨T84, X84, e84, st84⟩ := getF X82 hx hZ hown (host := "") (Or.inl (hw _ (List.mem_of_getElem? (i := 10) rfl))) Via.refl e82 f74 (g := (mkF m 41 #[.val (.ref a0r)] [(.ref a0r)])) rfl rfl (hb hby own_d4_41)
  refine own_pre st84 ?_
  show own_Ends _ _ _ _ (T84.setTop (mkF m 44 #[.val (.ref a0r)] [(.ref af)]))
  refine own_pre (fun t k => XS.aloadN X84.here hx rfl (hb hby own_d4_44) rfl rfl k) ?_
  show own_Ends _ _ _ _ (T84.setTop (mkF m 45 #[.val (.ref a0r)] [(.ref a0r), (.ref af)]))
  obtain ⟨T85, X85, e85, st85⟩ := getF X84 hx hZ hown (host := "") (Or.inl (hw _ (List.mem_of_getElem? (i := 26) rfl))) Via.refl e84 fw72 (g := (mkF m 45 #[.val (.ref a0r)] [(.ref a0r), (.ref af)])) rfl rfl (hb hby own_d4_45)
  refine own_pre st85 ?_
  show own_Ends _ _ _ _ (T85.setTop (mkF m 48 #[.val (.ref a0r)] [(.int (li + (1 : Int32))), (.ref af)]))
  refine own_pre (fun t k => XS.aloadN X85.here hx rfl (hb hby own_d4_48) rfl rfl k) ?_
  show own_Ends _ _ _ _ (T85.setTop (mkF m 49 #[.val (.ref a0r)] [(.ref a0r), (.int (li + (1 : Int32))), (.ref af)]))
  obtain ⟨T86, X86, e86, st86⟩ := getF X85 hx hZ hown (host := "") (Or.inl (hw _ (List.mem_of_getElem? (i := 19) rfl))) Via.refl e85 f76 (g := (mkF m 49 #[.val (.ref a0r)] [(.ref a0r), (.int (li + (1 : Int32))), (.ref af)])) rfl rfl (hb hby own_d4_49)
  refine own_pre st86 ?_
  show own_Ends _ _ _ _ (T86.setTop (mkF m 52 #[.val (.ref a0r)] [(.int ec), (.int (li + (1 : Int32))), (.ref af)]))
  obtain ⟨cl87, Ar87, q87, S87, M87, H87, G87⟩ := id (f77)
  have hin87 : ¬ ((li + (1 : Int32)) < 0 ∨ cl87.slots.size ≤ ((li + (1 : Int32))).toNatClampNeg) := inb_of S87 hin
  obtain ⟨T87, h87, X87, e87, W87, st87⟩ := stI X86 hx hZ e86 Ar87 (j := (li + (1 : Int32))) hin87 (g := (mkF m 52 #[.val (.ref a0r)] [(.int ec), (.int (li + (1 : Int32))), (.ref af)])) rfl rfl (hb hby own_d4_52)
  refine own_pre st87 ?_
  have f88 := Arv.set Ar87 q87 S87 M87 H87 G87 (show fits .int (.int ec) = true from rfl) W87 ((li + (1 : Int32))).toNatClampNeg rfl hln
  have f89 := f73.wr W87
  have f90 := f74.other W87 (Or.inl nex)
  have f91 := f75.other W87 (Or.inl nex)
  have f92 := f76.other W87 (Or.inl nex)
  have f93 := fw72.other W87 (Or.inl nex)
  have N94 := Fr.snoc X87 N78 gx
  have Zn95 : n0 ≤ h87.size := by rw [W87.size]; exact Zn79
  have K96 : Keep h0 h87 [a0r, af] := K80.wr W87 (Or.inl (by simp))
  show own_Ends _ _ _ _ (T87.setTop (mkF m 53 #[.val (.ref a0r)] []))
  exact own_retV X87 hx Bd.returns (hb hby own_d4_53) hlk e87 ⟨rfl, N94, K96, f90, f91, f92, f93, f88⟩ (by decide) (by decide)
theorem own_d5_0 : decode prog_58_method_5_code 0 = .ok (.aload_n 0, 1) := by decide +kernel
theorem own_d5_1 : decode prog_58_method_5_code 1 = .ok (.getfield 13, 3) := by decide +kernel
theorem own_d5_4 : decode prog_58_method_5_code 4 = .ok (.aload_n 0, 1) := by decide +kernel
theorem own_d5_5 : decode prog_58_method_5_code 5 = .ok (.getfield 7, 3) := by decide +kernel
theorem own_d5_8 : decode prog_58_method_5_code 8 = .ok (.iload_n 1, 1) := by decide +kernel
theorem own_d5_9 : decode prog_58_method_5_code 9 = .ok (.iaload, 1) := by decide +kernel
theorem own_d5_10 : decode prog_58_method_5_code 10 = .ok (.iload_n 2, 1) := by decide +kernel
theorem own_d5_11 : decode prog_58_method_5_code 11 = .ok (.iadd, 1) := by decide +kernel
theorem own_d5_12 : decode prog_58_method_5_code 12 = .ok (.iaload, 1) := by decide +kernel
theorem own_d5_13 : decode prog_58_method_5_code 13 = .ok (.ireturn, 1) := by decide +kernel
theorem own_ef_rm4 (m : MethodId) (x0 : Addr) (x1 : Int32) (x2 : Int32) : entryFrame m #[(.ref x0), (.int x1), (.int x2)] 3 = mkF m 0 #[.val (.ref x0), .val (.int x1), .val (.int x2)] [] := by first | (simp [entryFrame, mkF, argsToLocals, Value.category]; done) | rfl
def own_Q_rm4 (Z : State) (a0r : Addr) (p1 : Int32) (p2 : Int32) (af atg : Addr) (kf kt : ClassId) (vf vt : List Value) (x9 x12 : Int32) (h0 : Heap) (n0 : Nat) (v : Option Value) (h : Heap) (L : List Loc) : Prop := v = some (.int x12) ∧ Fr n0 L ∧ h = h0
set_option maxRecDepth 65536 in
set_option maxHeartbeats 40000000 in
theorem rm4 (l : Launch) (Z : State) (a0 : Array Value) (hw : ∀ d ∈ tables_1, d.before a0 Z = true) (ws : List Jvm.Cond) (a0r : Addr) (p1 : Int32) (p2 : Int32) (af atg : Addr) (kf kt : ClassId) (vf vt : List Value) (x9 x12 : Int32) (h0 : Heap) (n0 : Nat) (Z0 : n0 ≤ h0.size) (F_first : Fld Z h0 a0r "com/example/mursyn/mursyn/synthesis/SuccessorLists" "first" "[I" (.ref af)) (F_targets : Fld Z h0 a0r "com/example/mursyn/mursyn/synthesis/SuccessorLists" "targets" "[I" (.ref atg)) (VF : Arv Z h0 af kf .int (17 : Int32) vf (.int (0 : Int32))) (VT : Arv Z h0 atg kt .int (16 : Int32) vt (.int (0 : Int32))) (h9a : ¬ p1 < 0 ∧ p1 < (17 : Int32)) (h9b : vf.getD p1.toNatClampNeg (.int (0 : Int32)) = (.int x9)) (h12a : ¬ (x9 + p2) < 0 ∧ (x9 + p2) < (16 : Int32)) (h12b : vt.getD (x9 + p2).toNatClampNeg (.int (0 : Int32)) = (.int x12)) :
    MetFree l (⟨"com/example/mursyn/mursyn/synthesis/SuccessorLists", "get", "(II)I"⟩ : MethodName) (head1 (Jvm.Cond.code (⟨"com/example/mursyn/mursyn/synthesis/SuccessorLists", "get", "(II)I"⟩ : MethodName) prog_58_method_5_code 3 (some .int) :: ws) ({ frames := 0, cells := 0, slots := 0, locals := 0 } : Room)) (fun a U => a = #[(.ref a0r), (.int p1), (.int p2)] ∧ Z.Warmed39 U.vm ∧ U.heap = h0) (fun _ _ _ _ _ => True) (fun _ U o U' => ∃ v L, o = .returned v ∧ (own_Q_rm4 Z a0r p1 p2 af atg kf kt vf vt x9 x12 h0 n0) v U'.heap L ∧ FrameEnd U o U' L ({ frames := 0, cells := 0, slots := 0, locals := 0 } : Room).cells ({ frames := 0, cells := 0, slots := 0, locals := 0 } : Room).slots) := by
  refine MetFree.of_bodySF (plainFor_of_name own_pn0) hisR ?_
  intro p e s m args below meth c s₁ Bd hml0 hP hK
  obtain ⟨rfl, hZ, hh⟩ := hP
  have hx := Bd.exec
  have hby := Bd.bytes
  have hml : c.maxLocals = 3 := hml0
  have hown : s.vm.findClass "com/example/mursyn/mursyn/synthesis/SuccessorLists" = some m.cls := findClass_of_methodNamed Bd.named
  have hnm := (name_of_methodNamed Bd.named Bd.method).1
  have hlk : meth.locks = false := BodyLoose.notSynchronized Bd
  have X0 : Stand p l e ({ frames := 0, cells := 0, slots := 0, locals := 0 } : Room) s m #[(.ref a0r), (.int p1), (.int p2)] below meth c s₁ [] 0 0 := Stand.of_body Bd
  have e0 : s₁.heap = h0 := by rw [← hh, Bd.state]; rfl
  have N0 := Fr.nil n0
  show own_Ends p e below (own_Fin s (own_Q_rm4 Z a0r p1 p2 af atg kf kt vf vt x9 x12 h0 n0) ({ frames := 0, cells := 0, slots := 0, locals := 0 } : Room).cells ({ frames := 0, cells := 0, slots := 0, locals := 0 } : Room).slots) _
  refine own_pre (fun t k => castTop (own_ef_rm4 m a0r p1 p2) k) ?_
  show own_Ends _ _ _ _ (s₁.setTop (mkF m 0 #[.val (.ref a0r), .val (.int p1), .val (.int p2)] []))
  refine own_pre (fun t k => XS.aloadN X0.here hx rfl (hb hby own_d5_0) rfl rfl k) ?_
  show own_Ends _ _ _ _ (s₁.setTop (mkF m 1 #[.val (.ref a0r), .val (.int p1), .val (.int p2)] [(.ref a0r)]))
  obtain ⟨T97, X97, e97, st97⟩ := getF X0 hx hZ hown (host := "") (Or.inl (hw _ (List.mem_of_getElem? (i := 12) rfl))) Via.refl e0 F_targets (g := (mkF m 1 #[.val (.ref a0r), .val (.int p1), .val (.int p2)] [(.ref a0r)])) rfl rfl (hb hby own_d5_1)
  refine own_pre st97 ?_
  show own_Ends _ _ _ _ (T97.setTop (mkF m 4 #[.val (.ref a0r), .val (.int p1), .val (.int p2)] [(.ref atg)]))
  refine own_pre (fun t k => XS.aloadN X97.here hx rfl (hb hby own_d5_4) rfl rfl k) ?_
  show own_Ends _ _ _ _ (T97.setTop (mkF m 5 #[.val (.ref a0r), .val (.int p1), .val (.int p2)] [(.ref a0r), (.ref atg)]))
  obtain ⟨T98, X98, e98, st98⟩ := getF X97 hx hZ hown (host := "") (Or.inl (hw _ (List.mem_of_getElem? (i := 10) rfl))) Via.refl e97 F_first (g := (mkF m 5 #[.val (.ref a0r), .val (.int p1), .val (.int p2)] [(.ref a0r), (.ref atg)])) rfl rfl (hb hby own_d5_5)
  refine own_pre st98 ?_
  show own_Ends _ _ _ _ (T98.setTop (mkF m 8 #[.val (.ref a0r), .val (.int p1), .val (.int p2)] [(.ref af), (.ref atg)]))
  refine own_pre (fun t k => XS.iloadN X98.here hx rfl (hb hby own_d5_8) rfl k) ?_
  show own_Ends _ _ _ _ (T98.setTop (mkF m 9 #[.val (.ref a0r), .val (.int p1), .val (.int p2)] [(.int p1), (.ref af), (.ref atg)]))
  obtain ⟨cl99, Ar99, q99, S99, M99, H99, G99⟩ := id (VF)
  have hin99 : ¬ (p1 < 0 ∨ cl99.slots.size ≤ (p1).toNatClampNeg) := inb_of S99 h9a
  have hat99 : cl99.slots[(p1).toNatClampNeg]? = some (.int x9) := H99.at hin99 h9b
  refine own_pre (fun t k => X98.iaload hx (j := p1) (v := (.int x9)) (by rw [e98]; exact Ar99.1) (State.isArrayOf_alike hZ.alike Ar99.2.1) Ar99.2.2 hin99 hat99 (g := (mkF m 9 #[.val (.ref a0r), .val (.int p1), .val (.int p2)] [(.int p1), (.ref af), (.ref atg)])) rfl rfl (hb hby own_d5_9) _ k) ?_
  show own_Ends _ _ _ _ (T98.setTop (mkF m 10 #[.val (.ref a0r), .val (.int p1), .val (.int p2)] [(.int x9), (.ref atg)]))
  refine own_pre (fun t k => XS.iloadN X98.here hx rfl (hb hby own_d5_10) rfl k) ?_
  show own_Ends _ _ _ _ (T98.setTop (mkF m 11 #[.val (.ref a0r), .val (.int p1), .val (.int p2)] [(.int p2), (.int x9), (.ref atg)]))
  refine own_pre (fun t k => XS.iadd X98.here hx rfl (hb hby own_d5_11) rfl k) ?_
  show own_Ends _ _ _ _ (T98.setTop (mkF m 12 #[.val (.ref a0r), .val (.int p1), .val (.int p2)] [(.int (x9 + p2)), (.ref atg)]))
  obtain ⟨cl100, Ar100, q100, S100, M100, H100, G100⟩ := id (VT)
  have hin100 : ¬ ((x9 + p2) < 0 ∨ cl100.slots.size ≤ ((x9 + p2)).toNatClampNeg) := inb_of S100 h12a
  have hat100 : cl100.slots[((x9 + p2)).toNatClampNeg]? = some (.int x12) := H100.at hin100 h12b
  refine own_pre (fun t k => X98.iaload hx (j := (x9 + p2)) (v := (.int x12)) (by rw [e98]; exact Ar100.1) (State.isArrayOf_alike hZ.alike Ar100.2.1) Ar100.2.2 hin100 hat100 (g := (mkF m 12 #[.val (.ref a0r), .val (.int p1), .val (.int p2)] [(.int (x9 + p2)), (.ref atg)])) rfl rfl (hb hby own_d5_12) _ k) ?_
  show own_Ends _ _ _ _ (T98.setTop (mkF m 13 #[.val (.ref a0r), .val (.int p1), .val (.int p2)] [(.int x12)]))
  exact own_retI X98 hx Bd.returns (hb hby own_d5_13) hlk e98 ⟨rfl, N0, rfl⟩ (by decide) (by decide)
theorem own_c4 {x y : Int32} (h : y &&& 3 = x) : x = 0 ∨ x = 1 ∨ x = 2 ∨ x = 3 := by
  have e : (y &&& 3).toInt = y.toInt % 2 ^ 2 := Jvm.Kit.i32_mask y 3 (by decide) (by decide)
  have e0 : (0 : Int32).toInt = 0 := rfl
  have e1 : (1 : Int32).toInt = 1 := rfl
  have e2 : (2 : Int32).toInt = 2 := rfl
  have e3 : (3 : Int32).toInt = 3 := rfl
  subst h
  simp only [← Int32.toInt_inj, e0, e1, e2, e3]
  omega
theorem own_c2 {x y : Int32} (h : y &&& 1 = x) : x = 0 ∨ x = 1 := by
  have e : (y &&& 1).toInt = y.toInt % 2 ^ 1 := Jvm.Kit.i32_mask y 1 (by decide) (by decide)
  have e0 : (0 : Int32).toInt = 0 := rfl
  have e1 : (1 : Int32).toInt = 1 := rfl
  subst h
  simp only [← Int32.toInt_inj, e0, e1]
  omega
theorem own_u1 (q : Int32) : 0 ≤ (own_ushr q 1).toInt := by
  have h : 0 ≤ own_ushr q 1 := Jvm.Kit.i32_iushr_nonneg q (n := ((1 : Int32) &&& 31).toUInt32) (k := 1) (by decide) (by decide) (by decide)
  exact Jvm.Kit.i32_nonneg.mp h
theorem own_r1 {x q : Int32} (h : own_ushr q 1 % 1 = x) : x = 0 := by
  have e : (own_ushr q 1 % 1).toInt = (own_ushr q 1).toInt % (1 : Int32).toInt := Jvm.Kit.i32_rem_nonneg (own_u1 q)
  have e1 : (1 : Int32).toInt = 1 := rfl
  have e0 : (0 : Int32).toInt = 0 := rfl
  subst h
  rw [← Int32.toInt_inj, e, e1, e0]
  omega
theorem own_r2 {x q : Int32} (h : own_ushr q 1 % 2 = x) : x = 0 ∨ x = 1 := by
  have e : (own_ushr q 1 % 2).toInt = (own_ushr q 1).toInt % (2 : Int32).toInt := Jvm.Kit.i32_rem_nonneg (own_u1 q)
  have e2 : (2 : Int32).toInt = 2 := rfl
  have e1 : (1 : Int32).toInt = 1 := rfl
  have e0 : (0 : Int32).toInt = 0 := rfl
  subst h
  simp only [← Int32.toInt_inj, e0, e1]
  rw [e, e2]
  omega
theorem own_r3 {x q : Int32} (h : own_ushr q 1 % 3 = x) : x = 0 ∨ x = 1 ∨ x = 2 := by
  have e : (own_ushr q 1 % 3).toInt = (own_ushr q 1).toInt % (3 : Int32).toInt := Jvm.Kit.i32_rem_nonneg (own_u1 q)
  have e3 : (3 : Int32).toInt = 3 := rfl
  have e2 : (2 : Int32).toInt = 2 := rfl
  have e1 : (1 : Int32).toInt = 1 := rfl
  have e0 : (0 : Int32).toInt = 0 := rfl
  subst h
  simp only [← Int32.toInt_inj, e0, e1, e2]
  rw [e, e3]
  omega
theorem own_pd0 : parseMethodDescriptor "()V" = some ⟨[], none⟩ := by decide +kernel
theorem own_pd1 : parseMethodDescriptor "(I)V" = some ⟨[.int], none⟩ := by decide +kernel
theorem own_pd2 : parseMethodDescriptor "(II)I" = some ⟨[.int, .int], some .int⟩ := by decide +kernel
theorem own_pn1 : plainName "com/example/mursyn/mursyn/synthesis/SuccessorListsGetPinLaw" = true := by first | (simp [plainName, overriddenIn]; done) | decide +kernel
theorem own_ef_rm0 (m : MethodId) (x0 : Int32) (x1 : Int32) (x2 : Int32) (x3 : Int32) (x4 : Int32) : entryFrame m #[(.int x0), (.int x1), (.int x2), (.int x3), (.int x4)] maxLocals = mkF m 0 #[.val (.int x0), .val (.int x1), .val (.int x2), .val (.int x3), .val (.int x4), .unset, .unset, .unset, .unset, .unset, .unset, .unset] [] := by first | (simp [entryFrame, mkF, argsToLocals, Value.category, maxLocals]; done) | rfl
def own_Q_rm0 (Z : State) (p0 : Int32) (p1 : Int32) (p2 : Int32) (p3 : Int32) (p4 : Int32) (h0 : Heap) (n0 : Nat) (v : Option Value) (h : Heap) (L : List Loc) : Prop := v = some (.int 1) ∧ Fr n0 L
set_option maxRecDepth 65536 in
set_option maxHeartbeats 40000000 in
theorem rm0 (l : Launch) (Z : State) (a0 : Array Value) (hw : ∀ d ∈ tables_1, d.before a0 Z = true) (ws : List Jvm.Cond) (p0 : Int32) (p1 : Int32) (p2 : Int32) (p3 : Int32) (p4 : Int32) (h0 : Heap) (n0 : Nat) (Z0 : n0 ≤ h0.size) :
    MetFree l x (head1 (Jvm.Cond.code x code maxLocals ret :: ws) room_1) (fun a U => a = #[(.int p0), (.int p1), (.int p2), (.int p3), (.int p4)] ∧ Z.Warmed39 U.vm ∧ U.heap = h0) (fun _ _ _ _ _ => True) (fun _ U o U' => ∃ v L, o = .returned v ∧ (own_Q_rm0 Z p0 p1 p2 p3 p4 h0 n0) v U'.heap L ∧ FrameEnd U o U' L 16 192) := by
  refine MetFree.of_bodySF (plainFor_of_name own_pn1) hisR ?_
  intro p e s m args below meth c s₁ Bd hml0 hP hK
  obtain ⟨rfl, hZ, hh⟩ := hP
  have hx := Bd.exec
  have hby := Bd.bytes
  have hml : c.maxLocals = 12 := hml0
  have hown : s.vm.findClass "com/example/mursyn/mursyn/synthesis/SuccessorListsGetPinLaw" = some m.cls := findClass_of_methodNamed Bd.named
  have hnm := (name_of_methodNamed Bd.named Bd.method).1
  have hlk : meth.locks = false := BodyLoose.notSynchronized Bd
  have X0 : Stand p l e room_1 s m #[(.int p0), (.int p1), (.int p2), (.int p3), (.int p4)] below meth c s₁ [] 0 0 := Stand.of_body Bd
  have e0 : s₁.heap = h0 := by rw [← hh, Bd.state]; rfl
  have N0 := Fr.nil n0
  show own_Ends p e below (own_Fin s (own_Q_rm0 Z p0 p1 p2 p3 p4 h0 n0) 16 192) _
  refine own_pre (fun t k => castTop (own_ef_rm0 m p0 p1 p2 p3 p4) k) ?_
  show own_Ends _ _ _ _ (s₁.setTop (mkF m 0 #[.val (.int p0), .val (.int p1), .val (.int p2), .val (.int p3), .val (.int p4), .unset, .unset, .unset, .unset, .unset, .unset, .unset] []))
  refine own_pre (fun t k => XS.iloadN X0.here hx rfl (hb hby at_0) rfl k) ?_
  show own_Ends _ _ _ _ (s₁.setTop (mkF m 1 #[.val (.int p0), .val (.int p1), .val (.int p2), .val (.int p3), .val (.int p4), .unset, .unset, .unset, .unset, .unset, .unset, .unset] [(.int p3)]))
  refine own_pre (fun t k => XS.iconst X0.here hx rfl (hb hby at_1) k) ?_
  show own_Ends _ _ _ _ (s₁.setTop (mkF m 2 #[.val (.int p0), .val (.int p1), .val (.int p2), .val (.int p3), .val (.int p4), .unset, .unset, .unset, .unset, .unset, .unset, .unset] [(.int (3 : Int32)), (.int p3)]))
  refine own_pre (fun t k => XS.iand X0.here hx rfl (hb hby at_2) rfl k) ?_
  show own_Ends _ _ _ _ (s₁.setTop (mkF m 3 #[.val (.int p0), .val (.int p1), .val (.int p2), .val (.int p3), .val (.int p4), .unset, .unset, .unset, .unset, .unset, .unset, .unset] [(.int (p3 &&& (3 : Int32)))]))
  refine own_pre (fun t k => XS.istore X0.here hx rfl (hb hby at_3) rfl (l' := #[.val (.int p0), .val (.int p1), .val (.int p2), .val (.int p3), .val (.int p4), .val (.int (p3 &&& (3 : Int32))), .unset, .unset, .unset, .unset, .unset, .unset]) rfl k) ?_
  show own_Ends _ _ _ _ (s₁.setTop (mkF m 5 #[.val (.int p0), .val (.int p1), .val (.int p2), .val (.int p3), .val (.int p4), .val (.int (p3 &&& (3 : Int32))), .unset, .unset, .unset, .unset, .unset, .unset] []))
  generalize hx5 : (p3 &&& (3 : Int32)) = x5
  show own_Ends _ _ _ _ (s₁.setTop (mkF m 5 #[.val (.int p0), .val (.int p1), .val (.int p2), .val (.int p3), .val (.int p4), .val (.int x5), .unset, .unset, .unset, .unset, .unset, .unset] []))
  obtain ⟨T101, h101, X101, e101, E101, A101, D101, -, st101⟩ := newO X0 hx hZ hown (hw _ (List.mem_of_getElem? (i := 0) rfl)) (hw _ (List.mem_of_getElem? (i := 1) rfl)) (hw _ (List.mem_of_getElem? (i := 2) rfl)) e0 (g := (mkF m 5 #[.val (.int p0), .val (.int p1), .val (.int p2), .val (.int p3), .val (.int p4), .val (.int x5), .unset, .unset, .unset, .unset, .unset, .unset] [])) rfl (hb hby at_5) (by decide) (by decide)
  obtain ⟨b101, g101⟩ : ∃ z, z = h0.size := ⟨_, rfl⟩
  rw [← g101] at A101 D101 st101
  refine own_pre st101 ?_
  have L102 : n0 ≤ b101 := Nat.le_trans Z0 (Nat.le_of_eq g101.symm)
  have Zn103 : n0 ≤ h101.size := Nat.le_trans Z0 E101.1
  have f104 : Fld Z h101 b101 "com/example/mursyn/mursyn/synthesis/SuccessorLists" "first" "[I" .null := D101 (Or.inl (hw _ (List.mem_of_getElem? (i := 11) rfl))) (ty := (.array .int)) (by decide)
  have f105 : Fld Z h101 b101 "com/example/mursyn/mursyn/synthesis/SuccessorLists" "targets" "[I" .null := D101 (Or.inl (hw _ (List.mem_of_getElem? (i := 13) rfl))) (ty := (.array .int)) (by decide)
  have f106 : Fld Z h101 b101 "com/example/mursyn/mursyn/synthesis/SuccessorLists" "edgeCount" "I" (.int (0 : Int32)) := D101 (Or.inl (hw _ (List.mem_of_getElem? (i := 20) rfl))) (ty := .int) (by decide)
  have f107 : Fld Z h101 b101 "com/example/mursyn/mursyn/synthesis/SuccessorLists" "listed" "I" (.int (0 : Int32)) := D101 (Or.inl (hw _ (List.mem_of_getElem? (i := 27) rfl))) (ty := .int) (by decide)
  show own_Ends _ _ _ _ (T101.setTop (mkF m 8 #[.val (.int p0), .val (.int p1), .val (.int p2), .val (.int p3), .val (.int p4), .val (.int x5), .unset, .unset, .unset, .unset, .unset, .unset] [(.ref b101)]))
  refine own_pre (fun t k => XS.dup X101.here hx rfl (hb hby at_8) rfl rfl k) ?_
  show own_Ends _ _ _ _ (T101.setTop (mkF m 9 #[.val (.int p0), .val (.int p1), .val (.int p2), .val (.int p3), .val (.int p4), .val (.int x5), .unset, .unset, .unset, .unset, .unset, .unset] [(.ref b101), (.ref b101)]))
  obtain ⟨_, _, ⟨T108, L108, k108, n108⟩, -, X108, ⟨Lc108, hQ108, l108, y108, z108⟩, st108⟩ := X101.specialBack hx (y := (⟨"com/example/mursyn/mursyn/synthesis/SuccessorLists", "<init>", "()V"⟩ : MethodName)) rfl hown (mvT hZ (hw _ (List.mem_of_getElem? (i := 3) rfl))) (mvT hZ (hw _ (List.mem_of_getElem? (i := 4) rfl))) (mvT hZ (hw _ (List.mem_of_getElem? (i := 5) rfl))) (by decide) (backOf (W := 1) (rm1 l Z a0 hw [] b101 h101 n0 Zn103 A101 L102 f104 f105 f106 f107) hZ (hw _ (List.mem_of_getElem? (i := 5) rfl)) (hw _ (List.mem_of_getElem? (i := 2) rfl)) (by decide) (by decide)) (g := (mkF m 9 #[.val (.int p0), .val (.int p1), .val (.int p2), .val (.int p3), .val (.int p4), .val (.int x5), .unset, .unset, .unset, .unset, .unset, .unset] [(.ref b101), (.ref b101)])) rfl (by rw [hml]; rfl) (Steps.refl _) (a := b101) (argsL := []) (rest := [(.ref b101)]) (lenOf own_pd0 rfl) rfl (by show 2 * 0 + _ ≤ _; exact Nat.le_of_eq rfl) (hb hby at_9) (fun _ _ => ⟨rfl, e101, (by decide : 1 + 2 ≤ _), (by decide : 4 + 33 ≤ _)⟩)
  dsimp only [Pt.U, Pt.locs, Pt.cells, Pt.slots] at X108 l108 y108 z108 st108 hQ108
  subst l108 y108 z108
  obtain ⟨bf108, bt108, kf108, kt108, rfl, Nq108, Kq108, fa108, fb108, fc108, fd108, va108, vb108, la108, lb108, na108, nb108, nc108⟩ := hQ108
  have N108 := Fr.app N0 Nq108
  have f109 := A101.keep Kq108
  have Zn108 : n0 ≤ T108.heap.size := Nat.le_trans Zn103 Kq108.1
  refine own_pre (fun t k => st108.trans k) ?_
  show own_Ends _ _ _ _ (T108.setTop (mkF m 12 #[.val (.int p0), .val (.int p1), .val (.int p2), .val (.int p3), .val (.int p4), .val (.int x5), .unset, .unset, .unset, .unset, .unset, .unset] [(.ref b101)]))
  refine own_pre (fun t k => XS.astore X108.here hx rfl (hb hby at_12) rfl rfl (l' := #[.val (.int p0), .val (.int p1), .val (.int p2), .val (.int p3), .val (.int p4), .val (.int x5), .val (.ref b101), .unset, .unset, .unset, .unset, .unset]) rfl k) ?_
  show own_Ends _ _ _ _ (T108.setTop (mkF m 14 #[.val (.int p0), .val (.int p1), .val (.int p2), .val (.int p3), .val (.int p4), .val (.int x5), .val (.ref b101), .unset, .unset, .unset, .unset, .unset] []))
  rcases own_c4 hx5 with hs110 | hs110 | hs110 | hs110
  · subst hs110
    show own_Ends _ _ _ _ (T108.setTop (mkF m 14 #[.val (.int p0), .val (.int p1), .val (.int p2), .val (.int p3), .val (.int p4), .val (.int (0 : Int32)), .val (.ref b101), .unset, .unset, .unset, .unset, .unset] []))
    refine own_pre (fun t k => XS.iload X108.here hx rfl (hb hby at_14) rfl k) ?_
    show own_Ends _ _ _ _ (T108.setTop (mkF m 16 #[.val (.int p0), .val (.int p1), .val (.int p2), .val (.int p3), .val (.int p4), .val (.int (0 : Int32)), .val (.ref b101), .unset, .unset, .unset, .unset, .unset] [(.int (0 : Int32))]))
    refine own_pre (fun t k => XS.ifNo X108.here hx rfl (hb hby at_16) rfl ((if0 _ _).trans (teq ((by decide) : (0 : Int32) = (0 : Int32))).2) k) ?_
    show own_Ends _ _ _ _ (T108.setTop (mkF m 19 #[.val (.int p0), .val (.int p1), .val (.int p2), .val (.int p3), .val (.int p4), .val (.int (0 : Int32)), .val (.ref b101), .unset, .unset, .unset, .unset, .unset] []))
    refine own_pre (fun t k => XS.aload X108.here hx rfl (hb hby at_19) rfl rfl k) ?_
    show own_Ends _ _ _ _ (T108.setTop (mkF m 21 #[.val (.int p0), .val (.int p1), .val (.int p2), .val (.int p3), .val (.int p4), .val (.int (0 : Int32)), .val (.ref b101), .unset, .unset, .unset, .unset, .unset] [(.ref b101)]))
    obtain ⟨cq111, kq111, q111a, q111b, q111c⟩ := isOf hZ rfl f109
    obtain ⟨_, _, ⟨T111, L111, k111, n111⟩, -, X111, ⟨Lc111, hQ111, l111, y111, z111⟩, st111⟩ := X108.virtualBack hx (y := (⟨"com/example/mursyn/mursyn/synthesis/SuccessorLists", "close", "()V"⟩ : MethodName)) (z := (⟨"com/example/mursyn/mursyn/synthesis/SuccessorLists", "close", "()V"⟩ : MethodName)) hown (mvT hZ (hw _ (List.mem_of_getElem? (i := 21) rfl))) (mvT hZ (hw _ (List.mem_of_getElem? (i := 22) rfl))) (notFace_of_selects (args := #[]) (mvT hZ (hw _ (List.mem_of_getElem? (i := 24) rfl)))) (mvT hZ (hw _ (List.mem_of_getElem? (i := 24) rfl))) (mvT hZ (hw _ (List.mem_of_getElem? (i := 23) rfl))) (by decide) (backOf (W := 0) (rm3 l Z a0 hw [] b101 bf108 bt108 (0 : Int32) (0 : Int32) kf108 [(.int (0 : Int32)), (.int (0 : Int32)), (.int (0 : Int32)), (.int (0 : Int32)), (.int (0 : Int32)), (.int (0 : Int32)), (.int (0 : Int32)), (.int (0 : Int32)), (.int (0 : Int32)), (.int (0 : Int32)), (.int (0 : Int32)), (.int (0 : Int32)), (.int (0 : Int32)), (.int (0 : Int32)), (.int (0 : Int32)), (.int (0 : Int32)), (.int (0 : Int32))]  T108.heap n0 Zn108 f109 L102 la108 na108 fa108 fb108 fc108 fd108 va108 (by decide) ⟨by decide, by decide⟩ (Nat.le_of_ble_eq_true rfl)) hZ (hw _ (List.mem_of_getElem? (i := 25) rfl)) (hw _ (List.mem_of_getElem? (i := 2) rfl)) (by decide) (by decide)) q111a q111c (g := (mkF m 21 #[.val (.int p0), .val (.int p1), .val (.int p2), .val (.int p3), .val (.int p4), .val (.int (0 : Int32)), .val (.ref b101), .unset, .unset, .unset, .unset, .unset] [(.ref b101)])) rfl (by rw [hml]; rfl) (Steps.refl _) (argsL := []) (rest := []) (lenOf own_pd0 rfl) rfl (by show 2 * 0 + _ ≤ _; exact Nat.le_of_eq rfl) (hb hby at_21) (fun _ _ => ⟨rfl, rfl, (by decide : 3 + 0 ≤ _), (by decide : 37 + 0 ≤ _)⟩)
    dsimp only [Pt.U, Pt.locs, Pt.cells, Pt.slots] at X111 l111 y111 z111 st111 hQ111
    subst l111 y111 z111
    obtain ⟨rfl, Nq111, Kq111, fa111, fb111, fc111, fd111, vv111⟩ := hQ111
    have N111 := Fr.app N108 Nq111
    have f112 := f109.keep Kq111
    have f113 := vb108.keep Kq111 (ninS (Ne.symm nb108) (ninS (Ne.symm nc108) nin0))
    have Zn111 : n0 ≤ T111.heap.size := Nat.le_trans Zn108 Kq111.1
    have fa111 : Fld Z T111.heap b101 "com/example/mursyn/mursyn/synthesis/SuccessorLists" "first" "[I" (.ref bf108) := fa111
    have fb111 : Fld Z T111.heap b101 "com/example/mursyn/mursyn/synthesis/SuccessorLists" "targets" "[I" (.ref bt108) := fb111
    have fc111 : Fld Z T111.heap b101 "com/example/mursyn/mursyn/synthesis/SuccessorLists" "edgeCount" "I" (.int (0 : Int32)) := fc111
    have fd111 : Fld Z T111.heap b101 "com/example/mursyn/mursyn/synthesis/SuccessorLists" "listed" "I" (.int (1 : Int32)) := fd111
    have vv111 : Arv Z T111.heap bf108 kf108 .int (17 : Int32) [(.int (0 : Int32)), (.int (0 : Int32)), (.int (0 : Int32)), (.int (0 : Int32)), (.int (0 : Int32)), (.int (0 : Int32)), (.int (0 : Int32)), (.int (0 : Int32)), (.int (0 : Int32)), (.int (0 : Int32)), (.int (0 : Int32)), (.int (0 : Int32)), (.int (0 : Int32)), (.int (0 : Int32)), (.int (0 : Int32)), (.int (0 : Int32)), (.int (0 : Int32))] (.int (0 : Int32)) := vv111
    refine own_pre (fun t k => st111.trans k) ?_
    show own_Ends _ _ _ _ (T111.setTop (mkF m 24 #[.val (.int p0), .val (.int p1), .val (.int p2), .val (.int p3), .val (.int p4), .val (.int (0 : Int32)), .val (.ref b101), .unset, .unset, .unset, .unset, .unset] []))
    refine own_pre (fun t k => XS.aload X111.here hx rfl (hb hby at_24) rfl rfl k) ?_
    show own_Ends _ _ _ _ (T111.setTop (mkF m 26 #[.val (.int p0), .val (.int p1), .val (.int p2), .val (.int p3), .val (.int p4), .val (.int (0 : Int32)), .val (.ref b101), .unset, .unset, .unset, .unset, .unset] [(.ref b101)]))
    refine own_pre (fun t k => XS.iloadN X111.here hx rfl (hb hby at_26) rfl k) ?_
    show own_Ends _ _ _ _ (T111.setTop (mkF m 27 #[.val (.int p0), .val (.int p1), .val (.int p2), .val (.int p3), .val (.int p4), .val (.int (0 : Int32)), .val (.ref b101), .unset, .unset, .unset, .unset, .unset] [(.int p0), (.ref b101)]))
    obtain ⟨cq114, kq114, q114a, q114b, q114c⟩ := isOf hZ rfl f112
    obtain ⟨_, _, ⟨T114, L114, k114, n114⟩, -, X114, ⟨Lc114, hQ114, l114, y114, z114⟩, st114⟩ := X111.virtualBack hx (y := (⟨"com/example/mursyn/mursyn/synthesis/SuccessorLists", "add", "(I)V"⟩ : MethodName)) (z := (⟨"com/example/mursyn/mursyn/synthesis/SuccessorLists", "add", "(I)V"⟩ : MethodName)) hown (mvT hZ (hw _ (List.mem_of_getElem? (i := 14) rfl))) (mvT hZ (hw _ (List.mem_of_getElem? (i := 15) rfl))) (notFace_of_selects (args := #[]) (mvT hZ (hw _ (List.mem_of_getElem? (i := 17) rfl)))) (mvT hZ (hw _ (List.mem_of_getElem? (i := 17) rfl))) (mvT hZ (hw _ (List.mem_of_getElem? (i := 16) rfl))) (by decide) (backOf (W := 0) (rm2 l Z a0 hw [] b101 p0 bf108 bt108 (0 : Int32) (1 : Int32) kt108 [(.int (0 : Int32)), (.int (0 : Int32)), (.int (0 : Int32)), (.int (0 : Int32)), (.int (0 : Int32)), (.int (0 : Int32)), (.int (0 : Int32)), (.int (0 : Int32)), (.int (0 : Int32)), (.int (0 : Int32)), (.int (0 : Int32)), (.int (0 : Int32)), (.int (0 : Int32)), (.int (0 : Int32)), (.int (0 : Int32)), (.int (0 : Int32))]  T111.heap n0 Zn111 f112 L102 lb108 nb108 fa111 fb111 fc111 fd111 f113 (by decide) ⟨by decide, by decide⟩ (Nat.le_of_ble_eq_true rfl)) hZ (hw _ (List.mem_of_getElem? (i := 18) rfl)) (hw _ (List.mem_of_getElem? (i := 2) rfl)) (by decide) (by decide)) q114a q114c (g := (mkF m 27 #[.val (.int p0), .val (.int p1), .val (.int p2), .val (.int p3), .val (.int p4), .val (.int (0 : Int32)), .val (.ref b101), .unset, .unset, .unset, .unset, .unset] [(.int p0), (.ref b101)])) rfl (by rw [hml]; rfl) (Steps.refl _) (argsL := [(.int p0)]) (rest := []) (lenOf own_pd1 rfl) rfl (by show 2 * 0 + _ ≤ _; exact Nat.le_of_eq rfl) (hb hby at_27) (fun _ _ => ⟨rfl, rfl, (by decide : 3 + 0 ≤ _), (by decide : 37 + 0 ≤ _)⟩)
    dsimp only [Pt.U, Pt.locs, Pt.cells, Pt.slots] at X114 l114 y114 z114 st114 hQ114
    subst l114 y114 z114
    obtain ⟨rfl, Nq114, Kq114, fa114, fb114, fc114, fd114, vv114⟩ := hQ114
    have N114 := Fr.app N111 Nq114
    have f115 := f112.keep Kq114
    have f116 := vv111.keep Kq114 (ninS (Ne.symm na108) (ninS nc108 nin0))
    have Zn114 : n0 ≤ T114.heap.size := Nat.le_trans Zn111 Kq114.1
    have fa114 : Fld Z T114.heap b101 "com/example/mursyn/mursyn/synthesis/SuccessorLists" "first" "[I" (.ref bf108) := fa114
    have fb114 : Fld Z T114.heap b101 "com/example/mursyn/mursyn/synthesis/SuccessorLists" "targets" "[I" (.ref bt108) := fb114
    have fc114 : Fld Z T114.heap b101 "com/example/mursyn/mursyn/synthesis/SuccessorLists" "edgeCount" "I" (.int (1 : Int32)) := fc114
    have fd114 : Fld Z T114.heap b101 "com/example/mursyn/mursyn/synthesis/SuccessorLists" "listed" "I" (.int (1 : Int32)) := fd114
    have vv114 : Arv Z T114.heap bt108 kt108 .int (16 : Int32) [(.int p0), (.int (0 : Int32)), (.int (0 : Int32)), (.int (0 : Int32)), (.int (0 : Int32)), (.int (0 : Int32)), (.int (0 : Int32)), (.int (0 : Int32)), (.int (0 : Int32)), (.int (0 : Int32)), (.int (0 : Int32)), (.int (0 : Int32)), (.int (0 : Int32)), (.int (0 : Int32)), (.int (0 : Int32)), (.int (0 : Int32))] (.int (0 : Int32)) := vv114
    refine own_pre (fun t k => st114.trans k) ?_
    show own_Ends _ _ _ _ (T114.setTop (mkF m 30 #[.val (.int p0), .val (.int p1), .val (.int p2), .val (.int p3), .val (.int p4), .val (.int (0 : Int32)), .val (.ref b101), .unset, .unset, .unset, .unset, .unset] []))
    refine own_pre (fun t k => XS.iload X114.here hx rfl (hb hby at_30) rfl k) ?_
    show own_Ends _ _ _ _ (T114.setTop (mkF m 32 #[.val (.int p0), .val (.int p1), .val (.int p2), .val (.int p3), .val (.int p4), .val (.int (0 : Int32)), .val (.ref b101), .unset, .unset, .unset, .unset, .unset] [(.int (0 : Int32))]))
    refine own_pre (fun t k => XS.iconst X114.here hx rfl (hb hby at_32) k) ?_
    show own_Ends _ _ _ _ (T114.setTop (mkF m 33 #[.val (.int p0), .val (.int p1), .val (.int p2), .val (.int p3), .val (.int p4), .val (.int (0 : Int32)), .val (.ref b101), .unset, .unset, .unset, .unset, .unset] [(.int (1 : Int32)), (.int (0 : Int32))]))
    refine own_pre (fun t k => XS.icmpYes X114.here hx rfl (pc0 := 33) (pc' := 41) rfl (hb hby at_33) rfl (feq ((by decide) : ¬ ((0 : Int32) = (1 : Int32)))).2 (by decide) (by decide) k) ?_
    show own_Ends _ _ _ _ (T114.setTop (mkF m 41 #[.val (.int p0), .val (.int p1), .val (.int p2), .val (.int p3), .val (.int p4), .val (.int (0 : Int32)), .val (.ref b101), .unset, .unset, .unset, .unset, .unset] []))
    refine own_pre (fun t k => XS.aload X114.here hx rfl (hb hby at_41) rfl rfl k) ?_
    show own_Ends _ _ _ _ (T114.setTop (mkF m 43 #[.val (.int p0), .val (.int p1), .val (.int p2), .val (.int p3), .val (.int p4), .val (.int (0 : Int32)), .val (.ref b101), .unset, .unset, .unset, .unset, .unset] [(.ref b101)]))
    refine own_pre (fun t k => XS.iloadN X114.here hx rfl (hb hby at_43) rfl k) ?_
    show own_Ends _ _ _ _ (T114.setTop (mkF m 44 #[.val (.int p0), .val (.int p1), .val (.int p2), .val (.int p3), .val (.int p4), .val (.int (0 : Int32)), .val (.ref b101), .unset, .unset, .unset, .unset, .unset] [(.int p1), (.ref b101)]))
    obtain ⟨cq117, kq117, q117a, q117b, q117c⟩ := isOf hZ rfl f115
    obtain ⟨_, _, ⟨T117, L117, k117, n117⟩, -, X117, ⟨Lc117, hQ117, l117, y117, z117⟩, st117⟩ := X114.virtualBack hx (y := (⟨"com/example/mursyn/mursyn/synthesis/SuccessorLists", "add", "(I)V"⟩ : MethodName)) (z := (⟨"com/example/mursyn/mursyn/synthesis/SuccessorLists", "add", "(I)V"⟩ : MethodName)) hown (mvT hZ (hw _ (List.mem_of_getElem? (i := 14) rfl))) (mvT hZ (hw _ (List.mem_of_getElem? (i := 15) rfl))) (notFace_of_selects (args := #[]) (mvT hZ (hw _ (List.mem_of_getElem? (i := 17) rfl)))) (mvT hZ (hw _ (List.mem_of_getElem? (i := 17) rfl))) (mvT hZ (hw _ (List.mem_of_getElem? (i := 16) rfl))) (by decide) (backOf (W := 0) (rm2 l Z a0 hw [] b101 p1 bf108 bt108 (1 : Int32) (1 : Int32) kt108 [(.int p0), (.int (0 : Int32)), (.int (0 : Int32)), (.int (0 : Int32)), (.int (0 : Int32)), (.int (0 : Int32)), (.int (0 : Int32)), (.int (0 : Int32)), (.int (0 : Int32)), (.int (0 : Int32)), (.int (0 : Int32)), (.int (0 : Int32)), (.int (0 : Int32)), (.int (0 : Int32)), (.int (0 : Int32)), (.int (0 : Int32))]  T114.heap n0 Zn114 f115 L102 lb108 nb108 fa114 fb114 fc114 fd114 vv114 (by decide) ⟨by decide, by decide⟩ (Nat.le_of_ble_eq_true rfl)) hZ (hw _ (List.mem_of_getElem? (i := 18) rfl)) (hw _ (List.mem_of_getElem? (i := 2) rfl)) (by decide) (by decide)) q117a q117c (g := (mkF m 44 #[.val (.int p0), .val (.int p1), .val (.int p2), .val (.int p3), .val (.int p4), .val (.int (0 : Int32)), .val (.ref b101), .unset, .unset, .unset, .unset, .unset] [(.int p1), (.ref b101)])) rfl (by rw [hml]; rfl) (Steps.refl _) (argsL := [(.int p1)]) (rest := []) (lenOf own_pd1 rfl) rfl (by show 2 * 0 + _ ≤ _; exact Nat.le_of_eq rfl) (hb hby at_44) (fun _ _ => ⟨rfl, rfl, (by decide : 3 + 0 ≤ _), (by decide : 37 + 0 ≤ _)⟩)
    dsimp only [Pt.U, Pt.locs, Pt.cells, Pt.slots] at X117 l117 y117 z117 st117 hQ117
    subst l117 y117 z117
    obtain ⟨rfl, Nq117, Kq117, fa117, fb117, fc117, fd117, vv117⟩ := hQ117
    have N117 := Fr.app N114 Nq117
    have f118 := f115.keep Kq117
    have f119 := f116.keep Kq117 (ninS (Ne.symm na108) (ninS nc108 nin0))
    have Zn117 : n0 ≤ T117.heap.size := Nat.le_trans Zn114 Kq117.1
    have fa117 : Fld Z T117.heap b101 "com/example/mursyn/mursyn/synthesis/SuccessorLists" "first" "[I" (.ref bf108) := fa117
    have fb117 : Fld Z T117.heap b101 "com/example/mursyn/mursyn/synthesis/SuccessorLists" "targets" "[I" (.ref bt108) := fb117
    have fc117 : Fld Z T117.heap b101 "com/example/mursyn/mursyn/synthesis/SuccessorLists" "edgeCount" "I" (.int (2 : Int32)) := fc117
    have fd117 : Fld Z T117.heap b101 "com/example/mursyn/mursyn/synthesis/SuccessorLists" "listed" "I" (.int (1 : Int32)) := fd117
    have vv117 : Arv Z T117.heap bt108 kt108 .int (16 : Int32) [(.int p0), (.int p1), (.int (0 : Int32)), (.int (0 : Int32)), (.int (0 : Int32)), (.int (0 : Int32)), (.int (0 : Int32)), (.int (0 : Int32)), (.int (0 : Int32)), (.int (0 : Int32)), (.int (0 : Int32)), (.int (0 : Int32)), (.int (0 : Int32)), (.int (0 : Int32)), (.int (0 : Int32)), (.int (0 : Int32))] (.int (0 : Int32)) := vv117
    refine own_pre (fun t k => st117.trans k) ?_
    show own_Ends _ _ _ _ (T117.setTop (mkF m 47 #[.val (.int p0), .val (.int p1), .val (.int p2), .val (.int p3), .val (.int p4), .val (.int (0 : Int32)), .val (.ref b101), .unset, .unset, .unset, .unset, .unset] []))
    refine own_pre (fun t k => XS.iload X117.here hx rfl (hb hby at_47) rfl k) ?_
    show own_Ends _ _ _ _ (T117.setTop (mkF m 49 #[.val (.int p0), .val (.int p1), .val (.int p2), .val (.int p3), .val (.int p4), .val (.int (0 : Int32)), .val (.ref b101), .unset, .unset, .unset, .unset, .unset] [(.int (0 : Int32))]))
    refine own_pre (fun t k => XS.iconst X117.here hx rfl (hb hby at_49) k) ?_
    show own_Ends _ _ _ _ (T117.setTop (mkF m 50 #[.val (.int p0), .val (.int p1), .val (.int p2), .val (.int p3), .val (.int p4), .val (.int (0 : Int32)), .val (.ref b101), .unset, .unset, .unset, .unset, .unset] [(.int (2 : Int32)), (.int (0 : Int32))]))
    refine own_pre (fun t k => XS.icmpYes X117.here hx rfl (pc0 := 50) (pc' := 58) rfl (hb hby at_50) rfl (feq ((by decide) : ¬ ((0 : Int32) = (2 : Int32)))).2 (by decide) (by decide) k) ?_
    show own_Ends _ _ _ _ (T117.setTop (mkF m 58 #[.val (.int p0), .val (.int p1), .val (.int p2), .val (.int p3), .val (.int p4), .val (.int (0 : Int32)), .val (.ref b101), .unset, .unset, .unset, .unset, .unset] []))
    refine own_pre (fun t k => XS.aload X117.here hx rfl (hb hby at_58) rfl rfl k) ?_
    show own_Ends _ _ _ _ (T117.setTop (mkF m 60 #[.val (.int p0), .val (.int p1), .val (.int p2), .val (.int p3), .val (.int p4), .val (.int (0 : Int32)), .val (.ref b101), .unset, .unset, .unset, .unset, .unset] [(.ref b101)]))
    refine own_pre (fun t k => XS.iloadN X117.here hx rfl (hb hby at_60) rfl k) ?_
    show own_Ends _ _ _ _ (T117.setTop (mkF m 61 #[.val (.int p0), .val (.int p1), .val (.int p2), .val (.int p3), .val (.int p4), .val (.int (0 : Int32)), .val (.ref b101), .unset, .unset, .unset, .unset, .unset] [(.int p2), (.ref b101)]))
    obtain ⟨cq120, kq120, q120a, q120b, q120c⟩ := isOf hZ rfl f118
    obtain ⟨_, _, ⟨T120, L120, k120, n120⟩, -, X120, ⟨Lc120, hQ120, l120, y120, z120⟩, st120⟩ := X117.virtualBack hx (y := (⟨"com/example/mursyn/mursyn/synthesis/SuccessorLists", "add", "(I)V"⟩ : MethodName)) (z := (⟨"com/example/mursyn/mursyn/synthesis/SuccessorLists", "add", "(I)V"⟩ : MethodName)) hown (mvT hZ (hw _ (List.mem_of_getElem? (i := 14) rfl))) (mvT hZ (hw _ (List.mem_of_getElem? (i := 15) rfl))) (notFace_of_selects (args := #[]) (mvT hZ (hw _ (List.mem_of_getElem? (i := 17) rfl)))) (mvT hZ (hw _ (List.mem_of_getElem? (i := 17) rfl))) (mvT hZ (hw _ (List.mem_of_getElem? (i := 16) rfl))) (by decide) (backOf (W := 0) (rm2 l Z a0 hw [] b101 p2 bf108 bt108 (2 : Int32) (1 : Int32) kt108 [(.int p0), (.int p1), (.int (0 : Int32)), (.int (0 : Int32)), (.int (0 : Int32)), (.int (0 : Int32)), (.int (0 : Int32)), (.int (0 : Int32)), (.int (0 : Int32)), (.int (0 : Int32)), (.int (0 : Int32)), (.int (0 : Int32)), (.int (0 : Int32)), (.int (0 : Int32)), (.int (0 : Int32)), (.int (0 : Int32))]  T117.heap n0 Zn117 f118 L102 lb108 nb108 fa117 fb117 fc117 fd117 vv117 (by decide) ⟨by decide, by decide⟩ (Nat.le_of_ble_eq_true rfl)) hZ (hw _ (List.mem_of_getElem? (i := 18) rfl)) (hw _ (List.mem_of_getElem? (i := 2) rfl)) (by decide) (by decide)) q120a q120c (g := (mkF m 61 #[.val (.int p0), .val (.int p1), .val (.int p2), .val (.int p3), .val (.int p4), .val (.int (0 : Int32)), .val (.ref b101), .unset, .unset, .unset, .unset, .unset] [(.int p2), (.ref b101)])) rfl (by rw [hml]; rfl) (Steps.refl _) (argsL := [(.int p2)]) (rest := []) (lenOf own_pd1 rfl) rfl (by show 2 * 0 + _ ≤ _; exact Nat.le_of_eq rfl) (hb hby at_61) (fun _ _ => ⟨rfl, rfl, (by decide : 3 + 0 ≤ _), (by decide : 37 + 0 ≤ _)⟩)
    dsimp only [Pt.U, Pt.locs, Pt.cells, Pt.slots] at X120 l120 y120 z120 st120 hQ120
    subst l120 y120 z120
    obtain ⟨rfl, Nq120, Kq120, fa120, fb120, fc120, fd120, vv120⟩ := hQ120
    have N120 := Fr.app N117 Nq120
    have f121 := f118.keep Kq120
    have f122 := f119.keep Kq120 (ninS (Ne.symm na108) (ninS nc108 nin0))
    have Zn120 : n0 ≤ T120.heap.size := Nat.le_trans Zn117 Kq120.1
    have fa120 : Fld Z T120.heap b101 "com/example/mursyn/mursyn/synthesis/SuccessorLists" "first" "[I" (.ref bf108) := fa120
    have fb120 : Fld Z T120.heap b101 "com/example/mursyn/mursyn/synthesis/SuccessorLists" "targets" "[I" (.ref bt108) := fb120
    have fc120 : Fld Z T120.heap b101 "com/example/mursyn/mursyn/synthesis/SuccessorLists" "edgeCount" "I" (.int (3 : Int32)) := fc120
    have fd120 : Fld Z T120.heap b101 "com/example/mursyn/mursyn/synthesis/SuccessorLists" "listed" "I" (.int (1 : Int32)) := fd120
    have vv120 : Arv Z T120.heap bt108 kt108 .int (16 : Int32) [(.int p0), (.int p1), (.int p2), (.int (0 : Int32)), (.int (0 : Int32)), (.int (0 : Int32)), (.int (0 : Int32)), (.int (0 : Int32)), (.int (0 : Int32)), (.int (0 : Int32)), (.int (0 : Int32)), (.int (0 : Int32)), (.int (0 : Int32)), (.int (0 : Int32)), (.int (0 : Int32)), (.int (0 : Int32))] (.int (0 : Int32)) := vv120
    refine own_pre (fun t k => st120.trans k) ?_
    show own_Ends _ _ _ _ (T120.setTop (mkF m 64 #[.val (.int p0), .val (.int p1), .val (.int p2), .val (.int p3), .val (.int p4), .val (.int (0 : Int32)), .val (.ref b101), .unset, .unset, .unset, .unset, .unset] []))
    refine own_pre (fun t k => XS.iload X120.here hx rfl (hb hby at_64) rfl k) ?_
    show own_Ends _ _ _ _ (T120.setTop (mkF m 66 #[.val (.int p0), .val (.int p1), .val (.int p2), .val (.int p3), .val (.int p4), .val (.int (0 : Int32)), .val (.ref b101), .unset, .unset, .unset, .unset, .unset] [(.int (0 : Int32))]))
    refine own_pre (fun t k => XS.iconst X120.here hx rfl (hb hby at_66) k) ?_
    show own_Ends _ _ _ _ (T120.setTop (mkF m 67 #[.val (.int p0), .val (.int p1), .val (.int p2), .val (.int p3), .val (.int p4), .val (.int (0 : Int32)), .val (.ref b101), .unset, .unset, .unset, .unset, .unset] [(.int (3 : Int32)), (.int (0 : Int32))]))
    refine own_pre (fun t k => XS.icmpYes X120.here hx rfl (pc0 := 67) (pc' := 75) rfl (hb hby at_67) rfl (feq ((by decide) : ¬ ((0 : Int32) = (3 : Int32)))).2 (by decide) (by decide) k) ?_
    show own_Ends _ _ _ _ (T120.setTop (mkF m 75 #[.val (.int p0), .val (.int p1), .val (.int p2), .val (.int p3), .val (.int p4), .val (.int (0 : Int32)), .val (.ref b101), .unset, .unset, .unset, .unset, .unset] []))
    refine own_pre (fun t k => XS.aload X120.here hx rfl (hb hby at_75) rfl rfl k) ?_
    show own_Ends _ _ _ _ (T120.setTop (mkF m 77 #[.val (.int p0), .val (.int p1), .val (.int p2), .val (.int p3), .val (.int p4), .val (.int (0 : Int32)), .val (.ref b101), .unset, .unset, .unset, .unset, .unset] [(.ref b101)]))
    obtain ⟨cq123, kq123, q123a, q123b, q123c⟩ := isOf hZ rfl f121
    obtain ⟨_, _, ⟨T123, L123, k123, n123⟩, -, X123, ⟨Lc123, hQ123, l123, y123, z123⟩, st123⟩ := X120.virtualBack hx (y := (⟨"com/example/mursyn/mursyn/synthesis/SuccessorLists", "close", "()V"⟩ : MethodName)) (z := (⟨"com/example/mursyn/mursyn/synthesis/SuccessorLists", "close", "()V"⟩ : MethodName)) hown (mvT hZ (hw _ (List.mem_of_getElem? (i := 21) rfl))) (mvT hZ (hw _ (List.mem_of_getElem? (i := 22) rfl))) (notFace_of_selects (args := #[]) (mvT hZ (hw _ (List.mem_of_getElem? (i := 24) rfl)))) (mvT hZ (hw _ (List.mem_of_getElem? (i := 24) rfl))) (mvT hZ (hw _ (List.mem_of_getElem? (i := 23) rfl))) (by decide) (backOf (W := 0) (rm3 l Z a0 hw [] b101 bf108 bt108 (3 : Int32) (1 : Int32) kf108 [(.int (0 : Int32)), (.int (0 : Int32)), (.int (0 : Int32)), (.int (0 : Int32)), (.int (0 : Int32)), (.int (0 : Int32)), (.int (0 : Int32)), (.int (0 : Int32)), (.int (0 : Int32)), (.int (0 : Int32)), (.int (0 : Int32)), (.int (0 : Int32)), (.int (0 : Int32)), (.int (0 : Int32)), (.int (0 : Int32)), (.int (0 : Int32)), (.int (0 : Int32))]  T120.heap n0 Zn120 f121 L102 la108 na108 fa120 fb120 fc120 fd120 f122 (by decide) ⟨by decide, by decide⟩ (Nat.le_of_ble_eq_true rfl)) hZ (hw _ (List.mem_of_getElem? (i := 25) rfl)) (hw _ (List.mem_of_getElem? (i := 2) rfl)) (by decide) (by decide)) q123a q123c (g := (mkF m 77 #[.val (.int p0), .val (.int p1), .val (.int p2), .val (.int p3), .val (.int p4), .val (.int (0 : Int32)), .val (.ref b101), .unset, .unset, .unset, .unset, .unset] [(.ref b101)])) rfl (by rw [hml]; rfl) (Steps.refl _) (argsL := []) (rest := []) (lenOf own_pd0 rfl) rfl (by show 2 * 0 + _ ≤ _; exact Nat.le_of_eq rfl) (hb hby at_77) (fun _ _ => ⟨rfl, rfl, (by decide : 3 + 0 ≤ _), (by decide : 37 + 0 ≤ _)⟩)
    dsimp only [Pt.U, Pt.locs, Pt.cells, Pt.slots] at X123 l123 y123 z123 st123 hQ123
    subst l123 y123 z123
    obtain ⟨rfl, Nq123, Kq123, fa123, fb123, fc123, fd123, vv123⟩ := hQ123
    have N123 := Fr.app N120 Nq123
    have f124 := f121.keep Kq123
    have f125 := vv120.keep Kq123 (ninS (Ne.symm nb108) (ninS (Ne.symm nc108) nin0))
    have Zn123 : n0 ≤ T123.heap.size := Nat.le_trans Zn120 Kq123.1
    have fa123 : Fld Z T123.heap b101 "com/example/mursyn/mursyn/synthesis/SuccessorLists" "first" "[I" (.ref bf108) := fa123
    have fb123 : Fld Z T123.heap b101 "com/example/mursyn/mursyn/synthesis/SuccessorLists" "targets" "[I" (.ref bt108) := fb123
    have fc123 : Fld Z T123.heap b101 "com/example/mursyn/mursyn/synthesis/SuccessorLists" "edgeCount" "I" (.int (3 : Int32)) := fc123
    have fd123 : Fld Z T123.heap b101 "com/example/mursyn/mursyn/synthesis/SuccessorLists" "listed" "I" (.int (2 : Int32)) := fd123
    have vv123 : Arv Z T123.heap bf108 kf108 .int (17 : Int32) [(.int (0 : Int32)), (.int (0 : Int32)), (.int (3 : Int32)), (.int (0 : Int32)), (.int (0 : Int32)), (.int (0 : Int32)), (.int (0 : Int32)), (.int (0 : Int32)), (.int (0 : Int32)), (.int (0 : Int32)), (.int (0 : Int32)), (.int (0 : Int32)), (.int (0 : Int32)), (.int (0 : Int32)), (.int (0 : Int32)), (.int (0 : Int32)), (.int (0 : Int32))] (.int (0 : Int32)) := vv123
    refine own_pre (fun t k => st123.trans k) ?_
    show own_Ends _ _ _ _ (T123.setTop (mkF m 80 #[.val (.int p0), .val (.int p1), .val (.int p2), .val (.int p3), .val (.int p4), .val (.int (0 : Int32)), .val (.ref b101), .unset, .unset, .unset, .unset, .unset] []))
    refine own_pre (fun t k => XS.iload X123.here hx rfl (hb hby at_80) rfl k) ?_
    show own_Ends _ _ _ _ (T123.setTop (mkF m 82 #[.val (.int p0), .val (.int p1), .val (.int p2), .val (.int p3), .val (.int p4), .val (.int (0 : Int32)), .val (.ref b101), .unset, .unset, .unset, .unset, .unset] [(.int p4)]))
    refine own_pre (fun t k => XS.iconst X123.here hx rfl (hb hby at_82) k) ?_
    show own_Ends _ _ _ _ (T123.setTop (mkF m 83 #[.val (.int p0), .val (.int p1), .val (.int p2), .val (.int p3), .val (.int p4), .val (.int (0 : Int32)), .val (.ref b101), .unset, .unset, .unset, .unset, .unset] [(.int (1 : Int32)), (.int p4)]))
    refine own_pre (fun t k => XS.iand X123.here hx rfl (hb hby at_83) rfl k) ?_
    show own_Ends _ _ _ _ (T123.setTop (mkF m 84 #[.val (.int p0), .val (.int p1), .val (.int p2), .val (.int p3), .val (.int p4), .val (.int (0 : Int32)), .val (.ref b101), .unset, .unset, .unset, .unset, .unset] [(.int (p4 &&& (1 : Int32)))]))
    refine own_pre (fun t k => XS.istore X123.here hx rfl (hb hby at_84) rfl (l' := #[.val (.int p0), .val (.int p1), .val (.int p2), .val (.int p3), .val (.int p4), .val (.int (0 : Int32)), .val (.ref b101), .val (.int (p4 &&& (1 : Int32))), .unset, .unset, .unset, .unset]) rfl k) ?_
    show own_Ends _ _ _ _ (T123.setTop (mkF m 86 #[.val (.int p0), .val (.int p1), .val (.int p2), .val (.int p3), .val (.int p4), .val (.int (0 : Int32)), .val (.ref b101), .val (.int (p4 &&& (1 : Int32))), .unset, .unset, .unset, .unset] []))
    generalize hx7 : (p4 &&& (1 : Int32)) = x7
    show own_Ends _ _ _ _ (T123.setTop (mkF m 86 #[.val (.int p0), .val (.int p1), .val (.int p2), .val (.int p3), .val (.int p4), .val (.int (0 : Int32)), .val (.ref b101), .val (.int x7), .unset, .unset, .unset, .unset] []))
    refine own_pre (fun t k => XS.iload X123.here hx rfl (hb hby at_86) rfl k) ?_
    show own_Ends _ _ _ _ (T123.setTop (mkF m 88 #[.val (.int p0), .val (.int p1), .val (.int p2), .val (.int p3), .val (.int p4), .val (.int (0 : Int32)), .val (.ref b101), .val (.int x7), .unset, .unset, .unset, .unset] [(.int (0 : Int32))]))
    refine own_pre (fun t k => XS.ifNo X123.here hx rfl (hb hby at_88) rfl ((if0 _ _).trans (teq ((by decide) : (0 : Int32) = (0 : Int32))).2) k) ?_
    show own_Ends _ _ _ _ (T123.setTop (mkF m 91 #[.val (.int p0), .val (.int p1), .val (.int p2), .val (.int p3), .val (.int p4), .val (.int (0 : Int32)), .val (.ref b101), .val (.int x7), .unset, .unset, .unset, .unset] []))
    refine own_pre (fun t k => XS.iconst X123.here hx rfl (hb hby at_91) k) ?_
    show own_Ends _ _ _ _ (T123.setTop (mkF m 92 #[.val (.int p0), .val (.int p1), .val (.int p2), .val (.int p3), .val (.int p4), .val (.int (0 : Int32)), .val (.ref b101), .val (.int x7), .unset, .unset, .unset, .unset] [(.int (1 : Int32))]))
    refine own_pre (fun t k => XS.istore X123.here hx rfl (hb hby at_92) rfl (l' := #[.val (.int p0), .val (.int p1), .val (.int p2), .val (.int p3), .val (.int p4), .val (.int (0 : Int32)), .val (.ref b101), .val (.int (1 : Int32)), .unset, .unset, .unset, .unset]) rfl k) ?_
    show own_Ends _ _ _ _ (T123.setTop (mkF m 94 #[.val (.int p0), .val (.int p1), .val (.int p2), .val (.int p3), .val (.int p4), .val (.int (0 : Int32)), .val (.ref b101), .val (.int (1 : Int32)), .unset, .unset, .unset, .unset] []))
    refine own_pre (fun t k => XS.iload X123.here hx rfl (hb hby at_94) rfl k) ?_
    show own_Ends _ _ _ _ (T123.setTop (mkF m 96 #[.val (.int p0), .val (.int p1), .val (.int p2), .val (.int p3), .val (.int p4), .val (.int (0 : Int32)), .val (.ref b101), .val (.int (1 : Int32)), .unset, .unset, .unset, .unset] [(.int (0 : Int32))]))
    refine own_pre (fun t k => XS.iconst X123.here hx rfl (hb hby at_96) k) ?_
    show own_Ends _ _ _ _ (T123.setTop (mkF m 97 #[.val (.int p0), .val (.int p1), .val (.int p2), .val (.int p3), .val (.int p4), .val (.int (0 : Int32)), .val (.ref b101), .val (.int (1 : Int32)), .unset, .unset, .unset, .unset] [(.int (3 : Int32)), (.int (0 : Int32))]))
    refine own_pre (fun t k => XS.icmpYes X123.here hx rfl (pc0 := 97) (pc' := 103) rfl (hb hby at_97) rfl (feq ((by decide) : ¬ ((0 : Int32) = (3 : Int32)))).2 (by decide) (by decide) k) ?_
    show own_Ends _ _ _ _ (T123.setTop (mkF m 103 #[.val (.int p0), .val (.int p1), .val (.int p2), .val (.int p3), .val (.int p4), .val (.int (0 : Int32)), .val (.ref b101), .val (.int (1 : Int32)), .unset, .unset, .unset, .unset] []))
    refine own_pre (fun t k => XS.iload X123.here hx rfl (hb hby at_103) rfl k) ?_
    show own_Ends _ _ _ _ (T123.setTop (mkF m 105 #[.val (.int p0), .val (.int p1), .val (.int p2), .val (.int p3), .val (.int p4), .val (.int (0 : Int32)), .val (.ref b101), .val (.int (1 : Int32)), .unset, .unset, .unset, .unset] [(.int (1 : Int32))]))
    refine own_pre (fun t k => XS.ifYes X123.here hx rfl (pc0 := 105) (pc' := 113) rfl (hb hby at_105) rfl ((if0 _ _).trans (feq ((by decide) : ¬ ((1 : Int32) = (0 : Int32)))).2) (by decide) (by decide) k) ?_
    show own_Ends _ _ _ _ (T123.setTop (mkF m 113 #[.val (.int p0), .val (.int p1), .val (.int p2), .val (.int p3), .val (.int p4), .val (.int (0 : Int32)), .val (.ref b101), .val (.int (1 : Int32)), .unset, .unset, .unset, .unset] []))
    refine own_pre (fun t k => XS.iconst X123.here hx rfl (hb hby at_113) k) ?_
    show own_Ends _ _ _ _ (T123.setTop (mkF m 114 #[.val (.int p0), .val (.int p1), .val (.int p2), .val (.int p3), .val (.int p4), .val (.int (0 : Int32)), .val (.ref b101), .val (.int (1 : Int32)), .unset, .unset, .unset, .unset] [(.int (3 : Int32))]))
    refine own_pre (fun t k => XS.iload X123.here hx rfl (hb hby at_114) rfl k) ?_
    show own_Ends _ _ _ _ (T123.setTop (mkF m 116 #[.val (.int p0), .val (.int p1), .val (.int p2), .val (.int p3), .val (.int p4), .val (.int (0 : Int32)), .val (.ref b101), .val (.int (1 : Int32)), .unset, .unset, .unset, .unset] [(.int (0 : Int32)), (.int (3 : Int32))]))
    refine own_pre (fun t k => XS.isub X123.here hx rfl (hb hby at_116) rfl k) ?_
    show own_Ends _ _ _ _ (T123.setTop (mkF m 117 #[.val (.int p0), .val (.int p1), .val (.int p2), .val (.int p3), .val (.int p4), .val (.int (0 : Int32)), .val (.ref b101), .val (.int (1 : Int32)), .unset, .unset, .unset, .unset] [(.int (3 : Int32))]))
    refine own_pre (fun t k => XS.istore X123.here hx rfl (hb hby at_117) rfl (l' := #[.val (.int p0), .val (.int p1), .val (.int p2), .val (.int p3), .val (.int p4), .val (.int (0 : Int32)), .val (.ref b101), .val (.int (1 : Int32)), .val (.int (3 : Int32)), .unset, .unset, .unset]) rfl k) ?_
    show own_Ends _ _ _ _ (T123.setTop (mkF m 119 #[.val (.int p0), .val (.int p1), .val (.int p2), .val (.int p3), .val (.int p4), .val (.int (0 : Int32)), .val (.ref b101), .val (.int (1 : Int32)), .val (.int (3 : Int32)), .unset, .unset, .unset] []))
    refine own_pre (fun t k => XS.iload X123.here hx rfl (hb hby at_119) rfl k) ?_
    show own_Ends _ _ _ _ (T123.setTop (mkF m 121 #[.val (.int p0), .val (.int p1), .val (.int p2), .val (.int p3), .val (.int p4), .val (.int (0 : Int32)), .val (.ref b101), .val (.int (1 : Int32)), .val (.int (3 : Int32)), .unset, .unset, .unset] [(.int p4)]))
    refine own_pre (fun t k => XS.iconst X123.here hx rfl (hb hby at_121) k) ?_
    show own_Ends _ _ _ _ (T123.setTop (mkF m 122 #[.val (.int p0), .val (.int p1), .val (.int p2), .val (.int p3), .val (.int p4), .val (.int (0 : Int32)), .val (.ref b101), .val (.int (1 : Int32)), .val (.int (3 : Int32)), .unset, .unset, .unset] [(.int (1 : Int32)), (.int p4)]))
    refine own_pre (fun t k => XS.iushr X123.here hx rfl (hb hby at_122) rfl k) ?_
    show own_Ends _ _ _ _ (T123.setTop (mkF m 123 #[.val (.int p0), .val (.int p1), .val (.int p2), .val (.int p3), .val (.int p4), .val (.int (0 : Int32)), .val (.ref b101), .val (.int (1 : Int32)), .val (.int (3 : Int32)), .unset, .unset, .unset] [(.int (own_ushr p4 (1 : Int32)))]))
    refine own_pre (fun t k => XS.iload X123.here hx rfl (hb hby at_123) rfl k) ?_
    show own_Ends _ _ _ _ (T123.setTop (mkF m 125 #[.val (.int p0), .val (.int p1), .val (.int p2), .val (.int p3), .val (.int p4), .val (.int (0 : Int32)), .val (.ref b101), .val (.int (1 : Int32)), .val (.int (3 : Int32)), .unset, .unset, .unset] [(.int (3 : Int32)), (.int (own_ushr p4 (1 : Int32)))]))
    refine own_pre (fun t k => iremM X123 hx rfl (hb hby at_125) rfl (by decide) k) ?_
    show own_Ends _ _ _ _ (T123.setTop (mkF m 126 #[.val (.int p0), .val (.int p1), .val (.int p2), .val (.int p3), .val (.int p4), .val (.int (0 : Int32)), .val (.ref b101), .val (.int (1 : Int32)), .val (.int (3 : Int32)), .unset, .unset, .unset] [(.int ((own_ushr p4 (1 : Int32)) % (3 : Int32)))]))
    refine own_pre (fun t k => XS.istore X123.here hx rfl (hb hby at_126) rfl (l' := #[.val (.int p0), .val (.int p1), .val (.int p2), .val (.int p3), .val (.int p4), .val (.int (0 : Int32)), .val (.ref b101), .val (.int (1 : Int32)), .val (.int (3 : Int32)), .val (.int ((own_ushr p4 (1 : Int32)) % (3 : Int32))), .unset, .unset]) rfl k) ?_
    show own_Ends _ _ _ _ (T123.setTop (mkF m 128 #[.val (.int p0), .val (.int p1), .val (.int p2), .val (.int p3), .val (.int p4), .val (.int (0 : Int32)), .val (.ref b101), .val (.int (1 : Int32)), .val (.int (3 : Int32)), .val (.int ((own_ushr p4 (1 : Int32)) % (3 : Int32))), .unset, .unset] []))
    generalize hx9 : ((own_ushr p4 (1 : Int32)) % (3 : Int32)) = x9
    show own_Ends _ _ _ _ (T123.setTop (mkF m 128 #[.val (.int p0), .val (.int p1), .val (.int p2), .val (.int p3), .val (.int p4), .val (.int (0 : Int32)), .val (.ref b101), .val (.int (1 : Int32)), .val (.int (3 : Int32)), .val (.int x9), .unset, .unset] []))
    rcases own_r3 hx9 with hs126 | hs126 | hs126
    · subst hs126
      show own_Ends _ _ _ _ (T123.setTop (mkF m 128 #[.val (.int p0), .val (.int p1), .val (.int p2), .val (.int p3), .val (.int p4), .val (.int (0 : Int32)), .val (.ref b101), .val (.int (1 : Int32)), .val (.int (3 : Int32)), .val (.int (0 : Int32)), .unset, .unset] []))
      refine own_pre (fun t k => XS.iload X123.here hx rfl (hb hby at_128) rfl k) ?_
      show own_Ends _ _ _ _ (T123.setTop (mkF m 130 #[.val (.int p0), .val (.int p1), .val (.int p2), .val (.int p3), .val (.int p4), .val (.int (0 : Int32)), .val (.ref b101), .val (.int (1 : Int32)), .val (.int (3 : Int32)), .val (.int (0 : Int32)), .unset, .unset] [(.int (1 : Int32))]))
      refine own_pre (fun t k => XS.ifYes X123.here hx rfl (pc0 := 130) (pc' := 138) rfl (hb hby at_130) rfl ((if0 _ _).trans (feq ((by decide) : ¬ ((1 : Int32) = (0 : Int32)))).2) (by decide) (by decide) k) ?_
      show own_Ends _ _ _ _ (T123.setTop (mkF m 138 #[.val (.int p0), .val (.int p1), .val (.int p2), .val (.int p3), .val (.int p4), .val (.int (0 : Int32)), .val (.ref b101), .val (.int (1 : Int32)), .val (.int (3 : Int32)), .val (.int (0 : Int32)), .unset, .unset] []))
      refine own_pre (fun t k => XS.iload X123.here hx rfl (hb hby at_138) rfl k) ?_
      show own_Ends _ _ _ _ (T123.setTop (mkF m 140 #[.val (.int p0), .val (.int p1), .val (.int p2), .val (.int p3), .val (.int p4), .val (.int (0 : Int32)), .val (.ref b101), .val (.int (1 : Int32)), .val (.int (3 : Int32)), .val (.int (0 : Int32)), .unset, .unset] [(.int (0 : Int32))]))
      refine own_pre (fun t k => XS.iload X123.here hx rfl (hb hby at_140) rfl k) ?_
      show own_Ends _ _ _ _ (T123.setTop (mkF m 142 #[.val (.int p0), .val (.int p1), .val (.int p2), .val (.int p3), .val (.int p4), .val (.int (0 : Int32)), .val (.ref b101), .val (.int (1 : Int32)), .val (.int (3 : Int32)), .val (.int (0 : Int32)), .unset, .unset] [(.int (0 : Int32)), (.int (0 : Int32))]))
      refine own_pre (fun t k => XS.iadd X123.here hx rfl (hb hby at_142) rfl k) ?_
      show own_Ends _ _ _ _ (T123.setTop (mkF m 143 #[.val (.int p0), .val (.int p1), .val (.int p2), .val (.int p3), .val (.int p4), .val (.int (0 : Int32)), .val (.ref b101), .val (.int (1 : Int32)), .val (.int (3 : Int32)), .val (.int (0 : Int32)), .unset, .unset] [(.int (0 : Int32))]))
      refine own_pre (fun t k => XS.istore X123.here hx rfl (hb hby at_143) rfl (l' := #[.val (.int p0), .val (.int p1), .val (.int p2), .val (.int p3), .val (.int p4), .val (.int (0 : Int32)), .val (.ref b101), .val (.int (1 : Int32)), .val (.int (3 : Int32)), .val (.int (0 : Int32)), .val (.int (0 : Int32)), .unset]) rfl k) ?_
      show own_Ends _ _ _ _ (T123.setTop (mkF m 145 #[.val (.int p0), .val (.int p1), .val (.int p2), .val (.int p3), .val (.int p4), .val (.int (0 : Int32)), .val (.ref b101), .val (.int (1 : Int32)), .val (.int (3 : Int32)), .val (.int (0 : Int32)), .val (.int (0 : Int32)), .unset] []))
      refine own_pre (fun t k => XS.iload X123.here hx rfl (hb hby at_145) rfl k) ?_
      show own_Ends _ _ _ _ (T123.setTop (mkF m 147 #[.val (.int p0), .val (.int p1), .val (.int p2), .val (.int p3), .val (.int p4), .val (.int (0 : Int32)), .val (.ref b101), .val (.int (1 : Int32)), .val (.int (3 : Int32)), .val (.int (0 : Int32)), .val (.int (0 : Int32)), .unset] [(.int (0 : Int32))]))
      refine own_pre (fun t k => XS.ifNo X123.here hx rfl (hb hby at_147) rfl ((if0 _ _).trans (teq ((by decide) : (0 : Int32) = (0 : Int32))).2) k) ?_
      show own_Ends _ _ _ _ (T123.setTop (mkF m 150 #[.val (.int p0), .val (.int p1), .val (.int p2), .val (.int p3), .val (.int p4), .val (.int (0 : Int32)), .val (.ref b101), .val (.int (1 : Int32)), .val (.int (3 : Int32)), .val (.int (0 : Int32)), .val (.int (0 : Int32)), .unset] []))
      refine own_pre (fun t k => XS.iloadN X123.here hx rfl (hb hby at_150) rfl k) ?_
      show own_Ends _ _ _ _ (T123.setTop (mkF m 151 #[.val (.int p0), .val (.int p1), .val (.int p2), .val (.int p3), .val (.int p4), .val (.int (0 : Int32)), .val (.ref b101), .val (.int (1 : Int32)), .val (.int (3 : Int32)), .val (.int (0 : Int32)), .val (.int (0 : Int32)), .unset] [(.int p0)]))
      refine own_pre (fun t k => XS.istore X123.here hx rfl (hb hby at_151) rfl (l' := #[.val (.int p0), .val (.int p1), .val (.int p2), .val (.int p3), .val (.int p4), .val (.int (0 : Int32)), .val (.ref b101), .val (.int (1 : Int32)), .val (.int (3 : Int32)), .val (.int (0 : Int32)), .val (.int (0 : Int32)), .val (.int p0)]) rfl k) ?_
      show own_Ends _ _ _ _ (T123.setTop (mkF m 153 #[.val (.int p0), .val (.int p1), .val (.int p2), .val (.int p3), .val (.int p4), .val (.int (0 : Int32)), .val (.ref b101), .val (.int (1 : Int32)), .val (.int (3 : Int32)), .val (.int (0 : Int32)), .val (.int (0 : Int32)), .val (.int p0)] []))
      refine own_pre (fun t k => XS.goto X123.here hx rfl (pc0 := 153) (pc' := 171) rfl (hb hby at_153) (by decide) (by decide) k) ?_
      show own_Ends _ _ _ _ (T123.setTop (mkF m 171 #[.val (.int p0), .val (.int p1), .val (.int p2), .val (.int p3), .val (.int p4), .val (.int (0 : Int32)), .val (.ref b101), .val (.int (1 : Int32)), .val (.int (3 : Int32)), .val (.int (0 : Int32)), .val (.int (0 : Int32)), .val (.int p0)] []))
      refine own_pre (fun t k => XS.aload X123.here hx rfl (hb hby at_171) rfl rfl k) ?_
      show own_Ends _ _ _ _ (T123.setTop (mkF m 173 #[.val (.int p0), .val (.int p1), .val (.int p2), .val (.int p3), .val (.int p4), .val (.int (0 : Int32)), .val (.ref b101), .val (.int (1 : Int32)), .val (.int (3 : Int32)), .val (.int (0 : Int32)), .val (.int (0 : Int32)), .val (.int p0)] [(.ref b101)]))
      refine own_pre (fun t k => XS.iload X123.here hx rfl (hb hby at_173) rfl k) ?_
      show own_Ends _ _ _ _ (T123.setTop (mkF m 175 #[.val (.int p0), .val (.int p1), .val (.int p2), .val (.int p3), .val (.int p4), .val (.int (0 : Int32)), .val (.ref b101), .val (.int (1 : Int32)), .val (.int (3 : Int32)), .val (.int (0 : Int32)), .val (.int (0 : Int32)), .val (.int p0)] [(.int (1 : Int32)), (.ref b101)]))
      refine own_pre (fun t k => XS.iload X123.here hx rfl (hb hby at_175) rfl k) ?_
      show own_Ends _ _ _ _ (T123.setTop (mkF m 177 #[.val (.int p0), .val (.int p1), .val (.int p2), .val (.int p3), .val (.int p4), .val (.int (0 : Int32)), .val (.ref b101), .val (.int (1 : Int32)), .val (.int (3 : Int32)), .val (.int (0 : Int32)), .val (.int (0 : Int32)), .val (.int p0)] [(.int (0 : Int32)), (.int (1 : Int32)), (.ref b101)]))
      obtain ⟨cq127, kq127, q127a, q127b, q127c⟩ := isOf hZ rfl f124
      obtain ⟨_, _, ⟨T127, L127, k127, n127⟩, -, X127, ⟨Lc127, hQ127, l127, y127, z127⟩, st127⟩ := X123.virtualBack hx (y := (⟨"com/example/mursyn/mursyn/synthesis/SuccessorLists", "get", "(II)I"⟩ : MethodName)) (z := (⟨"com/example/mursyn/mursyn/synthesis/SuccessorLists", "get", "(II)I"⟩ : MethodName)) hown (mvT hZ (hw _ (List.mem_of_getElem? (i := 28) rfl))) (mvT hZ (hw _ (List.mem_of_getElem? (i := 29) rfl))) (notFace_of_selects (args := #[]) (mvT hZ (hw _ (List.mem_of_getElem? (i := 31) rfl)))) (mvT hZ (hw _ (List.mem_of_getElem? (i := 31) rfl))) (mvT hZ (hw _ (List.mem_of_getElem? (i := 30) rfl))) (by decide) (backOf (W := 0) (rm4 l Z a0 hw [] b101 (1 : Int32) (0 : Int32) bf108 bt108 kf108 kt108 [(.int (0 : Int32)), (.int (0 : Int32)), (.int (3 : Int32)), (.int (0 : Int32)), (.int (0 : Int32)), (.int (0 : Int32)), (.int (0 : Int32)), (.int (0 : Int32)), (.int (0 : Int32)), (.int (0 : Int32)), (.int (0 : Int32)), (.int (0 : Int32)), (.int (0 : Int32)), (.int (0 : Int32)), (.int (0 : Int32)), (.int (0 : Int32)), (.int (0 : Int32))] [(.int p0), (.int p1), (.int p2), (.int (0 : Int32)), (.int (0 : Int32)), (.int (0 : Int32)), (.int (0 : Int32)), (.int (0 : Int32)), (.int (0 : Int32)), (.int (0 : Int32)), (.int (0 : Int32)), (.int (0 : Int32)), (.int (0 : Int32)), (.int (0 : Int32)), (.int (0 : Int32)), (.int (0 : Int32))] (0 : Int32) p0 T123.heap n0 Zn123 fa123 fb123 vv123 f125 ⟨by decide, by decide⟩ rfl ⟨by decide, by decide⟩ rfl) hZ (hw _ (List.mem_of_getElem? (i := 32) rfl)) (hw _ (List.mem_of_getElem? (i := 2) rfl)) (by decide) (by decide)) q127a q127c (g := (mkF m 177 #[.val (.int p0), .val (.int p1), .val (.int p2), .val (.int p3), .val (.int p4), .val (.int (0 : Int32)), .val (.ref b101), .val (.int (1 : Int32)), .val (.int (3 : Int32)), .val (.int (0 : Int32)), .val (.int (0 : Int32)), .val (.int p0)] [(.int (0 : Int32)), (.int (1 : Int32)), (.ref b101)])) rfl (by rw [hml]; rfl) (Steps.refl _) (argsL := [(.int (1 : Int32)), (.int (0 : Int32))]) (rest := []) (lenOf own_pd2 rfl) rfl (by show 2 * 0 + _ ≤ _; exact Nat.le_of_eq rfl) (hb hby at_177) (fun _ _ => ⟨rfl, rfl, (by decide : 3 + 0 ≤ _), (by decide : 37 + 0 ≤ _)⟩)
      dsimp only [Pt.U, Pt.locs, Pt.cells, Pt.slots] at X127 l127 y127 z127 st127 hQ127
      subst l127 y127 z127
      obtain ⟨rfl, Nq127, e127⟩ := hQ127
      have N127 := Fr.app N123 Nq127
      refine own_pre (fun t k => st127.trans k) ?_
      show own_Ends _ _ _ _ (T127.setTop (mkF m 180 #[.val (.int p0), .val (.int p1), .val (.int p2), .val (.int p3), .val (.int p4), .val (.int (0 : Int32)), .val (.ref b101), .val (.int (1 : Int32)), .val (.int (3 : Int32)), .val (.int (0 : Int32)), .val (.int (0 : Int32)), .val (.int p0)] [(.int p0)]))
      refine own_pre (fun t k => XS.iload X127.here hx rfl (hb hby at_180) rfl k) ?_
      show own_Ends _ _ _ _ (T127.setTop (mkF m 182 #[.val (.int p0), .val (.int p1), .val (.int p2), .val (.int p3), .val (.int p4), .val (.int (0 : Int32)), .val (.ref b101), .val (.int (1 : Int32)), .val (.int (3 : Int32)), .val (.int (0 : Int32)), .val (.int (0 : Int32)), .val (.int p0)] [(.int p0), (.int p0)]))
      refine own_pre (fun t k => XS.icmpNo X127.here hx rfl (hb hby at_182) rfl (teq (rfl : p0 = p0)).2 k) ?_
      show own_Ends _ _ _ _ (T127.setTop (mkF m 185 #[.val (.int p0), .val (.int p1), .val (.int p2), .val (.int p3), .val (.int p4), .val (.int (0 : Int32)), .val (.ref b101), .val (.int (1 : Int32)), .val (.int (3 : Int32)), .val (.int (0 : Int32)), .val (.int (0 : Int32)), .val (.int p0)] []))
      refine own_pre (fun t k => XS.iconst X127.here hx rfl (hb hby at_185) k) ?_
      show own_Ends _ _ _ _ (T127.setTop (mkF m 186 #[.val (.int p0), .val (.int p1), .val (.int p2), .val (.int p3), .val (.int p4), .val (.int (0 : Int32)), .val (.ref b101), .val (.int (1 : Int32)), .val (.int (3 : Int32)), .val (.int (0 : Int32)), .val (.int (0 : Int32)), .val (.int p0)] [(.int (1 : Int32))]))
      refine own_pre (fun t k => XS.goto X127.here hx rfl (pc0 := 186) (pc' := 190) rfl (hb hby at_186) (by decide) (by decide) k) ?_
      show own_Ends _ _ _ _ (T127.setTop (mkF m 190 #[.val (.int p0), .val (.int p1), .val (.int p2), .val (.int p3), .val (.int p4), .val (.int (0 : Int32)), .val (.ref b101), .val (.int (1 : Int32)), .val (.int (3 : Int32)), .val (.int (0 : Int32)), .val (.int (0 : Int32)), .val (.int p0)] [(.int (1 : Int32))]))
      exact own_retN X127 hx (t := .boolean) Bd.returns (by simp) (hb hby at_190) hlk rfl e127 ⟨rfl, N127⟩ (by decide) (by decide)
    · subst hs126
      show own_Ends _ _ _ _ (T123.setTop (mkF m 128 #[.val (.int p0), .val (.int p1), .val (.int p2), .val (.int p3), .val (.int p4), .val (.int (0 : Int32)), .val (.ref b101), .val (.int (1 : Int32)), .val (.int (3 : Int32)), .val (.int (1 : Int32)), .unset, .unset] []))
      refine own_pre (fun t k => XS.iload X123.here hx rfl (hb hby at_128) rfl k) ?_
      show own_Ends _ _ _ _ (T123.setTop (mkF m 130 #[.val (.int p0), .val (.int p1), .val (.int p2), .val (.int p3), .val (.int p4), .val (.int (0 : Int32)), .val (.ref b101), .val (.int (1 : Int32)), .val (.int (3 : Int32)), .val (.int (1 : Int32)), .unset, .unset] [(.int (1 : Int32))]))
      refine own_pre (fun t k => XS.ifYes X123.here hx rfl (pc0 := 130) (pc' := 138) rfl (hb hby at_130) rfl ((if0 _ _).trans (feq ((by decide) : ¬ ((1 : Int32) = (0 : Int32)))).2) (by decide) (by decide) k) ?_
      show own_Ends _ _ _ _ (T123.setTop (mkF m 138 #[.val (.int p0), .val (.int p1), .val (.int p2), .val (.int p3), .val (.int p4), .val (.int (0 : Int32)), .val (.ref b101), .val (.int (1 : Int32)), .val (.int (3 : Int32)), .val (.int (1 : Int32)), .unset, .unset] []))
      refine own_pre (fun t k => XS.iload X123.here hx rfl (hb hby at_138) rfl k) ?_
      show own_Ends _ _ _ _ (T123.setTop (mkF m 140 #[.val (.int p0), .val (.int p1), .val (.int p2), .val (.int p3), .val (.int p4), .val (.int (0 : Int32)), .val (.ref b101), .val (.int (1 : Int32)), .val (.int (3 : Int32)), .val (.int (1 : Int32)), .unset, .unset] [(.int (0 : Int32))]))
      refine own_pre (fun t k => XS.iload X123.here hx rfl (hb hby at_140) rfl k) ?_
      show own_Ends _ _ _ _ (T123.setTop (mkF m 142 #[.val (.int p0), .val (.int p1), .val (.int p2), .val (.int p3), .val (.int p4), .val (.int (0 : Int32)), .val (.ref b101), .val (.int (1 : Int32)), .val (.int (3 : Int32)), .val (.int (1 : Int32)), .unset, .unset] [(.int (1 : Int32)), (.int (0 : Int32))]))
      refine own_pre (fun t k => XS.iadd X123.here hx rfl (hb hby at_142) rfl k) ?_
      show own_Ends _ _ _ _ (T123.setTop (mkF m 143 #[.val (.int p0), .val (.int p1), .val (.int p2), .val (.int p3), .val (.int p4), .val (.int (0 : Int32)), .val (.ref b101), .val (.int (1 : Int32)), .val (.int (3 : Int32)), .val (.int (1 : Int32)), .unset, .unset] [(.int (1 : Int32))]))
      refine own_pre (fun t k => XS.istore X123.here hx rfl (hb hby at_143) rfl (l' := #[.val (.int p0), .val (.int p1), .val (.int p2), .val (.int p3), .val (.int p4), .val (.int (0 : Int32)), .val (.ref b101), .val (.int (1 : Int32)), .val (.int (3 : Int32)), .val (.int (1 : Int32)), .val (.int (1 : Int32)), .unset]) rfl k) ?_
      show own_Ends _ _ _ _ (T123.setTop (mkF m 145 #[.val (.int p0), .val (.int p1), .val (.int p2), .val (.int p3), .val (.int p4), .val (.int (0 : Int32)), .val (.ref b101), .val (.int (1 : Int32)), .val (.int (3 : Int32)), .val (.int (1 : Int32)), .val (.int (1 : Int32)), .unset] []))
      refine own_pre (fun t k => XS.iload X123.here hx rfl (hb hby at_145) rfl k) ?_
      show own_Ends _ _ _ _ (T123.setTop (mkF m 147 #[.val (.int p0), .val (.int p1), .val (.int p2), .val (.int p3), .val (.int p4), .val (.int (0 : Int32)), .val (.ref b101), .val (.int (1 : Int32)), .val (.int (3 : Int32)), .val (.int (1 : Int32)), .val (.int (1 : Int32)), .unset] [(.int (1 : Int32))]))
      refine own_pre (fun t k => XS.ifYes X123.here hx rfl (pc0 := 147) (pc' := 156) rfl (hb hby at_147) rfl ((if0 _ _).trans (feq ((by decide) : ¬ ((1 : Int32) = (0 : Int32)))).2) (by decide) (by decide) k) ?_
      show own_Ends _ _ _ _ (T123.setTop (mkF m 156 #[.val (.int p0), .val (.int p1), .val (.int p2), .val (.int p3), .val (.int p4), .val (.int (0 : Int32)), .val (.ref b101), .val (.int (1 : Int32)), .val (.int (3 : Int32)), .val (.int (1 : Int32)), .val (.int (1 : Int32)), .unset] []))
      refine own_pre (fun t k => XS.iload X123.here hx rfl (hb hby at_156) rfl k) ?_
      show own_Ends _ _ _ _ (T123.setTop (mkF m 158 #[.val (.int p0), .val (.int p1), .val (.int p2), .val (.int p3), .val (.int p4), .val (.int (0 : Int32)), .val (.ref b101), .val (.int (1 : Int32)), .val (.int (3 : Int32)), .val (.int (1 : Int32)), .val (.int (1 : Int32)), .unset] [(.int (1 : Int32))]))
      refine own_pre (fun t k => XS.iconst X123.here hx rfl (hb hby at_158) k) ?_
      show own_Ends _ _ _ _ (T123.setTop (mkF m 159 #[.val (.int p0), .val (.int p1), .val (.int p2), .val (.int p3), .val (.int p4), .val (.int (0 : Int32)), .val (.ref b101), .val (.int (1 : Int32)), .val (.int (3 : Int32)), .val (.int (1 : Int32)), .val (.int (1 : Int32)), .unset] [(.int (1 : Int32)), (.int (1 : Int32))]))
      refine own_pre (fun t k => XS.icmpNo X123.here hx rfl (hb hby at_159) rfl (teq ((by decide) : (1 : Int32) = (1 : Int32))).2 k) ?_
      show own_Ends _ _ _ _ (T123.setTop (mkF m 162 #[.val (.int p0), .val (.int p1), .val (.int p2), .val (.int p3), .val (.int p4), .val (.int (0 : Int32)), .val (.ref b101), .val (.int (1 : Int32)), .val (.int (3 : Int32)), .val (.int (1 : Int32)), .val (.int (1 : Int32)), .unset] []))
      refine own_pre (fun t k => XS.iloadN X123.here hx rfl (hb hby at_162) rfl k) ?_
      show own_Ends _ _ _ _ (T123.setTop (mkF m 163 #[.val (.int p0), .val (.int p1), .val (.int p2), .val (.int p3), .val (.int p4), .val (.int (0 : Int32)), .val (.ref b101), .val (.int (1 : Int32)), .val (.int (3 : Int32)), .val (.int (1 : Int32)), .val (.int (1 : Int32)), .unset] [(.int p1)]))
      refine own_pre (fun t k => XS.istore X123.here hx rfl (hb hby at_163) rfl (l' := #[.val (.int p0), .val (.int p1), .val (.int p2), .val (.int p3), .val (.int p4), .val (.int (0 : Int32)), .val (.ref b101), .val (.int (1 : Int32)), .val (.int (3 : Int32)), .val (.int (1 : Int32)), .val (.int (1 : Int32)), .val (.int p1)]) rfl k) ?_
      show own_Ends _ _ _ _ (T123.setTop (mkF m 165 #[.val (.int p0), .val (.int p1), .val (.int p2), .val (.int p3), .val (.int p4), .val (.int (0 : Int32)), .val (.ref b101), .val (.int (1 : Int32)), .val (.int (3 : Int32)), .val (.int (1 : Int32)), .val (.int (1 : Int32)), .val (.int p1)] []))
      refine own_pre (fun t k => XS.goto X123.here hx rfl (pc0 := 165) (pc' := 171) rfl (hb hby at_165) (by decide) (by decide) k) ?_
      show own_Ends _ _ _ _ (T123.setTop (mkF m 171 #[.val (.int p0), .val (.int p1), .val (.int p2), .val (.int p3), .val (.int p4), .val (.int (0 : Int32)), .val (.ref b101), .val (.int (1 : Int32)), .val (.int (3 : Int32)), .val (.int (1 : Int32)), .val (.int (1 : Int32)), .val (.int p1)] []))
      refine own_pre (fun t k => XS.aload X123.here hx rfl (hb hby at_171) rfl rfl k) ?_
      show own_Ends _ _ _ _ (T123.setTop (mkF m 173 #[.val (.int p0), .val (.int p1), .val (.int p2), .val (.int p3), .val (.int p4), .val (.int (0 : Int32)), .val (.ref b101), .val (.int (1 : Int32)), .val (.int (3 : Int32)), .val (.int (1 : Int32)), .val (.int (1 : Int32)), .val (.int p1)] [(.ref b101)]))
      refine own_pre (fun t k => XS.iload X123.here hx rfl (hb hby at_173) rfl k) ?_
      show own_Ends _ _ _ _ (T123.setTop (mkF m 175 #[.val (.int p0), .val (.int p1), .val (.int p2), .val (.int p3), .val (.int p4), .val (.int (0 : Int32)), .val (.ref b101), .val (.int (1 : Int32)), .val (.int (3 : Int32)), .val (.int (1 : Int32)), .val (.int (1 : Int32)), .val (.int p1)] [(.int (1 : Int32)), (.ref b101)]))
      refine own_pre (fun t k => XS.iload X123.here hx rfl (hb hby at_175) rfl k) ?_
      show own_Ends _ _ _ _ (T123.setTop (mkF m 177 #[.val (.int p0), .val (.int p1), .val (.int p2), .val (.int p3), .val (.int p4), .val (.int (0 : Int32)), .val (.ref b101), .val (.int (1 : Int32)), .val (.int (3 : Int32)), .val (.int (1 : Int32)), .val (.int (1 : Int32)), .val (.int p1)] [(.int (1 : Int32)), (.int (1 : Int32)), (.ref b101)]))
      obtain ⟨cq128, kq128, q128a, q128b, q128c⟩ := isOf hZ rfl f124
      obtain ⟨_, _, ⟨T128, L128, k128, n128⟩, -, X128, ⟨Lc128, hQ128, l128, y128, z128⟩, st128⟩ := X123.virtualBack hx (y := (⟨"com/example/mursyn/mursyn/synthesis/SuccessorLists", "get", "(II)I"⟩ : MethodName)) (z := (⟨"com/example/mursyn/mursyn/synthesis/SuccessorLists", "get", "(II)I"⟩ : MethodName)) hown (mvT hZ (hw _ (List.mem_of_getElem? (i := 28) rfl))) (mvT hZ (hw _ (List.mem_of_getElem? (i := 29) rfl))) (notFace_of_selects (args := #[]) (mvT hZ (hw _ (List.mem_of_getElem? (i := 31) rfl)))) (mvT hZ (hw _ (List.mem_of_getElem? (i := 31) rfl))) (mvT hZ (hw _ (List.mem_of_getElem? (i := 30) rfl))) (by decide) (backOf (W := 0) (rm4 l Z a0 hw [] b101 (1 : Int32) (1 : Int32) bf108 bt108 kf108 kt108 [(.int (0 : Int32)), (.int (0 : Int32)), (.int (3 : Int32)), (.int (0 : Int32)), (.int (0 : Int32)), (.int (0 : Int32)), (.int (0 : Int32)), (.int (0 : Int32)), (.int (0 : Int32)), (.int (0 : Int32)), (.int (0 : Int32)), (.int (0 : Int32)), (.int (0 : Int32)), (.int (0 : Int32)), (.int (0 : Int32)), (.int (0 : Int32)), (.int (0 : Int32))] [(.int p0), (.int p1), (.int p2), (.int (0 : Int32)), (.int (0 : Int32)), (.int (0 : Int32)), (.int (0 : Int32)), (.int (0 : Int32)), (.int (0 : Int32)), (.int (0 : Int32)), (.int (0 : Int32)), (.int (0 : Int32)), (.int (0 : Int32)), (.int (0 : Int32)), (.int (0 : Int32)), (.int (0 : Int32))] (0 : Int32) p1 T123.heap n0 Zn123 fa123 fb123 vv123 f125 ⟨by decide, by decide⟩ rfl ⟨by decide, by decide⟩ rfl) hZ (hw _ (List.mem_of_getElem? (i := 32) rfl)) (hw _ (List.mem_of_getElem? (i := 2) rfl)) (by decide) (by decide)) q128a q128c (g := (mkF m 177 #[.val (.int p0), .val (.int p1), .val (.int p2), .val (.int p3), .val (.int p4), .val (.int (0 : Int32)), .val (.ref b101), .val (.int (1 : Int32)), .val (.int (3 : Int32)), .val (.int (1 : Int32)), .val (.int (1 : Int32)), .val (.int p1)] [(.int (1 : Int32)), (.int (1 : Int32)), (.ref b101)])) rfl (by rw [hml]; rfl) (Steps.refl _) (argsL := [(.int (1 : Int32)), (.int (1 : Int32))]) (rest := []) (lenOf own_pd2 rfl) rfl (by show 2 * 0 + _ ≤ _; exact Nat.le_of_eq rfl) (hb hby at_177) (fun _ _ => ⟨rfl, rfl, (by decide : 3 + 0 ≤ _), (by decide : 37 + 0 ≤ _)⟩)
      dsimp only [Pt.U, Pt.locs, Pt.cells, Pt.slots] at X128 l128 y128 z128 st128 hQ128
      subst l128 y128 z128
      obtain ⟨rfl, Nq128, e128⟩ := hQ128
      have N128 := Fr.app N123 Nq128
      refine own_pre (fun t k => st128.trans k) ?_
      show own_Ends _ _ _ _ (T128.setTop (mkF m 180 #[.val (.int p0), .val (.int p1), .val (.int p2), .val (.int p3), .val (.int p4), .val (.int (0 : Int32)), .val (.ref b101), .val (.int (1 : Int32)), .val (.int (3 : Int32)), .val (.int (1 : Int32)), .val (.int (1 : Int32)), .val (.int p1)] [(.int p1)]))
      refine own_pre (fun t k => XS.iload X128.here hx rfl (hb hby at_180) rfl k) ?_
      show own_Ends _ _ _ _ (T128.setTop (mkF m 182 #[.val (.int p0), .val (.int p1), .val (.int p2), .val (.int p3), .val (.int p4), .val (.int (0 : Int32)), .val (.ref b101), .val (.int (1 : Int32)), .val (.int (3 : Int32)), .val (.int (1 : Int32)), .val (.int (1 : Int32)), .val (.int p1)] [(.int p1), (.int p1)]))
      refine own_pre (fun t k => XS.icmpNo X128.here hx rfl (hb hby at_182) rfl (teq (rfl : p1 = p1)).2 k) ?_
      show own_Ends _ _ _ _ (T128.setTop (mkF m 185 #[.val (.int p0), .val (.int p1), .val (.int p2), .val (.int p3), .val (.int p4), .val (.int (0 : Int32)), .val (.ref b101), .val (.int (1 : Int32)), .val (.int (3 : Int32)), .val (.int (1 : Int32)), .val (.int (1 : Int32)), .val (.int p1)] []))
      refine own_pre (fun t k => XS.iconst X128.here hx rfl (hb hby at_185) k) ?_
      show own_Ends _ _ _ _ (T128.setTop (mkF m 186 #[.val (.int p0), .val (.int p1), .val (.int p2), .val (.int p3), .val (.int p4), .val (.int (0 : Int32)), .val (.ref b101), .val (.int (1 : Int32)), .val (.int (3 : Int32)), .val (.int (1 : Int32)), .val (.int (1 : Int32)), .val (.int p1)] [(.int (1 : Int32))]))
      refine own_pre (fun t k => XS.goto X128.here hx rfl (pc0 := 186) (pc' := 190) rfl (hb hby at_186) (by decide) (by decide) k) ?_
      show own_Ends _ _ _ _ (T128.setTop (mkF m 190 #[.val (.int p0), .val (.int p1), .val (.int p2), .val (.int p3), .val (.int p4), .val (.int (0 : Int32)), .val (.ref b101), .val (.int (1 : Int32)), .val (.int (3 : Int32)), .val (.int (1 : Int32)), .val (.int (1 : Int32)), .val (.int p1)] [(.int (1 : Int32))]))
      exact own_retN X128 hx (t := .boolean) Bd.returns (by simp) (hb hby at_190) hlk rfl e128 ⟨rfl, N128⟩ (by decide) (by decide)
    · subst hs126
      show own_Ends _ _ _ _ (T123.setTop (mkF m 128 #[.val (.int p0), .val (.int p1), .val (.int p2), .val (.int p3), .val (.int p4), .val (.int (0 : Int32)), .val (.ref b101), .val (.int (1 : Int32)), .val (.int (3 : Int32)), .val (.int (2 : Int32)), .unset, .unset] []))
      refine own_pre (fun t k => XS.iload X123.here hx rfl (hb hby at_128) rfl k) ?_
      show own_Ends _ _ _ _ (T123.setTop (mkF m 130 #[.val (.int p0), .val (.int p1), .val (.int p2), .val (.int p3), .val (.int p4), .val (.int (0 : Int32)), .val (.ref b101), .val (.int (1 : Int32)), .val (.int (3 : Int32)), .val (.int (2 : Int32)), .unset, .unset] [(.int (1 : Int32))]))
      refine own_pre (fun t k => XS.ifYes X123.here hx rfl (pc0 := 130) (pc' := 138) rfl (hb hby at_130) rfl ((if0 _ _).trans (feq ((by decide) : ¬ ((1 : Int32) = (0 : Int32)))).2) (by decide) (by decide) k) ?_
      show own_Ends _ _ _ _ (T123.setTop (mkF m 138 #[.val (.int p0), .val (.int p1), .val (.int p2), .val (.int p3), .val (.int p4), .val (.int (0 : Int32)), .val (.ref b101), .val (.int (1 : Int32)), .val (.int (3 : Int32)), .val (.int (2 : Int32)), .unset, .unset] []))
      refine own_pre (fun t k => XS.iload X123.here hx rfl (hb hby at_138) rfl k) ?_
      show own_Ends _ _ _ _ (T123.setTop (mkF m 140 #[.val (.int p0), .val (.int p1), .val (.int p2), .val (.int p3), .val (.int p4), .val (.int (0 : Int32)), .val (.ref b101), .val (.int (1 : Int32)), .val (.int (3 : Int32)), .val (.int (2 : Int32)), .unset, .unset] [(.int (0 : Int32))]))
      refine own_pre (fun t k => XS.iload X123.here hx rfl (hb hby at_140) rfl k) ?_
      show own_Ends _ _ _ _ (T123.setTop (mkF m 142 #[.val (.int p0), .val (.int p1), .val (.int p2), .val (.int p3), .val (.int p4), .val (.int (0 : Int32)), .val (.ref b101), .val (.int (1 : Int32)), .val (.int (3 : Int32)), .val (.int (2 : Int32)), .unset, .unset] [(.int (2 : Int32)), (.int (0 : Int32))]))
      refine own_pre (fun t k => XS.iadd X123.here hx rfl (hb hby at_142) rfl k) ?_
      show own_Ends _ _ _ _ (T123.setTop (mkF m 143 #[.val (.int p0), .val (.int p1), .val (.int p2), .val (.int p3), .val (.int p4), .val (.int (0 : Int32)), .val (.ref b101), .val (.int (1 : Int32)), .val (.int (3 : Int32)), .val (.int (2 : Int32)), .unset, .unset] [(.int (2 : Int32))]))
      refine own_pre (fun t k => XS.istore X123.here hx rfl (hb hby at_143) rfl (l' := #[.val (.int p0), .val (.int p1), .val (.int p2), .val (.int p3), .val (.int p4), .val (.int (0 : Int32)), .val (.ref b101), .val (.int (1 : Int32)), .val (.int (3 : Int32)), .val (.int (2 : Int32)), .val (.int (2 : Int32)), .unset]) rfl k) ?_
      show own_Ends _ _ _ _ (T123.setTop (mkF m 145 #[.val (.int p0), .val (.int p1), .val (.int p2), .val (.int p3), .val (.int p4), .val (.int (0 : Int32)), .val (.ref b101), .val (.int (1 : Int32)), .val (.int (3 : Int32)), .val (.int (2 : Int32)), .val (.int (2 : Int32)), .unset] []))
      refine own_pre (fun t k => XS.iload X123.here hx rfl (hb hby at_145) rfl k) ?_
      show own_Ends _ _ _ _ (T123.setTop (mkF m 147 #[.val (.int p0), .val (.int p1), .val (.int p2), .val (.int p3), .val (.int p4), .val (.int (0 : Int32)), .val (.ref b101), .val (.int (1 : Int32)), .val (.int (3 : Int32)), .val (.int (2 : Int32)), .val (.int (2 : Int32)), .unset] [(.int (2 : Int32))]))
      refine own_pre (fun t k => XS.ifYes X123.here hx rfl (pc0 := 147) (pc' := 156) rfl (hb hby at_147) rfl ((if0 _ _).trans (feq ((by decide) : ¬ ((2 : Int32) = (0 : Int32)))).2) (by decide) (by decide) k) ?_
      show own_Ends _ _ _ _ (T123.setTop (mkF m 156 #[.val (.int p0), .val (.int p1), .val (.int p2), .val (.int p3), .val (.int p4), .val (.int (0 : Int32)), .val (.ref b101), .val (.int (1 : Int32)), .val (.int (3 : Int32)), .val (.int (2 : Int32)), .val (.int (2 : Int32)), .unset] []))
      refine own_pre (fun t k => XS.iload X123.here hx rfl (hb hby at_156) rfl k) ?_
      show own_Ends _ _ _ _ (T123.setTop (mkF m 158 #[.val (.int p0), .val (.int p1), .val (.int p2), .val (.int p3), .val (.int p4), .val (.int (0 : Int32)), .val (.ref b101), .val (.int (1 : Int32)), .val (.int (3 : Int32)), .val (.int (2 : Int32)), .val (.int (2 : Int32)), .unset] [(.int (2 : Int32))]))
      refine own_pre (fun t k => XS.iconst X123.here hx rfl (hb hby at_158) k) ?_
      show own_Ends _ _ _ _ (T123.setTop (mkF m 159 #[.val (.int p0), .val (.int p1), .val (.int p2), .val (.int p3), .val (.int p4), .val (.int (0 : Int32)), .val (.ref b101), .val (.int (1 : Int32)), .val (.int (3 : Int32)), .val (.int (2 : Int32)), .val (.int (2 : Int32)), .unset] [(.int (1 : Int32)), (.int (2 : Int32))]))
      refine own_pre (fun t k => XS.icmpYes X123.here hx rfl (pc0 := 159) (pc' := 168) rfl (hb hby at_159) rfl (feq ((by decide) : ¬ ((2 : Int32) = (1 : Int32)))).2 (by decide) (by decide) k) ?_
      show own_Ends _ _ _ _ (T123.setTop (mkF m 168 #[.val (.int p0), .val (.int p1), .val (.int p2), .val (.int p3), .val (.int p4), .val (.int (0 : Int32)), .val (.ref b101), .val (.int (1 : Int32)), .val (.int (3 : Int32)), .val (.int (2 : Int32)), .val (.int (2 : Int32)), .unset] []))
      refine own_pre (fun t k => XS.iloadN X123.here hx rfl (hb hby at_168) rfl k) ?_
      show own_Ends _ _ _ _ (T123.setTop (mkF m 169 #[.val (.int p0), .val (.int p1), .val (.int p2), .val (.int p3), .val (.int p4), .val (.int (0 : Int32)), .val (.ref b101), .val (.int (1 : Int32)), .val (.int (3 : Int32)), .val (.int (2 : Int32)), .val (.int (2 : Int32)), .unset] [(.int p2)]))
      refine own_pre (fun t k => XS.istore X123.here hx rfl (hb hby at_169) rfl (l' := #[.val (.int p0), .val (.int p1), .val (.int p2), .val (.int p3), .val (.int p4), .val (.int (0 : Int32)), .val (.ref b101), .val (.int (1 : Int32)), .val (.int (3 : Int32)), .val (.int (2 : Int32)), .val (.int (2 : Int32)), .val (.int p2)]) rfl k) ?_
      show own_Ends _ _ _ _ (T123.setTop (mkF m 171 #[.val (.int p0), .val (.int p1), .val (.int p2), .val (.int p3), .val (.int p4), .val (.int (0 : Int32)), .val (.ref b101), .val (.int (1 : Int32)), .val (.int (3 : Int32)), .val (.int (2 : Int32)), .val (.int (2 : Int32)), .val (.int p2)] []))
      refine own_pre (fun t k => XS.aload X123.here hx rfl (hb hby at_171) rfl rfl k) ?_
      show own_Ends _ _ _ _ (T123.setTop (mkF m 173 #[.val (.int p0), .val (.int p1), .val (.int p2), .val (.int p3), .val (.int p4), .val (.int (0 : Int32)), .val (.ref b101), .val (.int (1 : Int32)), .val (.int (3 : Int32)), .val (.int (2 : Int32)), .val (.int (2 : Int32)), .val (.int p2)] [(.ref b101)]))
      refine own_pre (fun t k => XS.iload X123.here hx rfl (hb hby at_173) rfl k) ?_
      show own_Ends _ _ _ _ (T123.setTop (mkF m 175 #[.val (.int p0), .val (.int p1), .val (.int p2), .val (.int p3), .val (.int p4), .val (.int (0 : Int32)), .val (.ref b101), .val (.int (1 : Int32)), .val (.int (3 : Int32)), .val (.int (2 : Int32)), .val (.int (2 : Int32)), .val (.int p2)] [(.int (1 : Int32)), (.ref b101)]))
      refine own_pre (fun t k => XS.iload X123.here hx rfl (hb hby at_175) rfl k) ?_
      show own_Ends _ _ _ _ (T123.setTop (mkF m 177 #[.val (.int p0), .val (.int p1), .val (.int p2), .val (.int p3), .val (.int p4), .val (.int (0 : Int32)), .val (.ref b101), .val (.int (1 : Int32)), .val (.int (3 : Int32)), .val (.int (2 : Int32)), .val (.int (2 : Int32)), .val (.int p2)] [(.int (2 : Int32)), (.int (1 : Int32)), (.ref b101)]))
      obtain ⟨cq129, kq129, q129a, q129b, q129c⟩ := isOf hZ rfl f124
      obtain ⟨_, _, ⟨T129, L129, k129, n129⟩, -, X129, ⟨Lc129, hQ129, l129, y129, z129⟩, st129⟩ := X123.virtualBack hx (y := (⟨"com/example/mursyn/mursyn/synthesis/SuccessorLists", "get", "(II)I"⟩ : MethodName)) (z := (⟨"com/example/mursyn/mursyn/synthesis/SuccessorLists", "get", "(II)I"⟩ : MethodName)) hown (mvT hZ (hw _ (List.mem_of_getElem? (i := 28) rfl))) (mvT hZ (hw _ (List.mem_of_getElem? (i := 29) rfl))) (notFace_of_selects (args := #[]) (mvT hZ (hw _ (List.mem_of_getElem? (i := 31) rfl)))) (mvT hZ (hw _ (List.mem_of_getElem? (i := 31) rfl))) (mvT hZ (hw _ (List.mem_of_getElem? (i := 30) rfl))) (by decide) (backOf (W := 0) (rm4 l Z a0 hw [] b101 (1 : Int32) (2 : Int32) bf108 bt108 kf108 kt108 [(.int (0 : Int32)), (.int (0 : Int32)), (.int (3 : Int32)), (.int (0 : Int32)), (.int (0 : Int32)), (.int (0 : Int32)), (.int (0 : Int32)), (.int (0 : Int32)), (.int (0 : Int32)), (.int (0 : Int32)), (.int (0 : Int32)), (.int (0 : Int32)), (.int (0 : Int32)), (.int (0 : Int32)), (.int (0 : Int32)), (.int (0 : Int32)), (.int (0 : Int32))] [(.int p0), (.int p1), (.int p2), (.int (0 : Int32)), (.int (0 : Int32)), (.int (0 : Int32)), (.int (0 : Int32)), (.int (0 : Int32)), (.int (0 : Int32)), (.int (0 : Int32)), (.int (0 : Int32)), (.int (0 : Int32)), (.int (0 : Int32)), (.int (0 : Int32)), (.int (0 : Int32)), (.int (0 : Int32))] (0 : Int32) p2 T123.heap n0 Zn123 fa123 fb123 vv123 f125 ⟨by decide, by decide⟩ rfl ⟨by decide, by decide⟩ rfl) hZ (hw _ (List.mem_of_getElem? (i := 32) rfl)) (hw _ (List.mem_of_getElem? (i := 2) rfl)) (by decide) (by decide)) q129a q129c (g := (mkF m 177 #[.val (.int p0), .val (.int p1), .val (.int p2), .val (.int p3), .val (.int p4), .val (.int (0 : Int32)), .val (.ref b101), .val (.int (1 : Int32)), .val (.int (3 : Int32)), .val (.int (2 : Int32)), .val (.int (2 : Int32)), .val (.int p2)] [(.int (2 : Int32)), (.int (1 : Int32)), (.ref b101)])) rfl (by rw [hml]; rfl) (Steps.refl _) (argsL := [(.int (1 : Int32)), (.int (2 : Int32))]) (rest := []) (lenOf own_pd2 rfl) rfl (by show 2 * 0 + _ ≤ _; exact Nat.le_of_eq rfl) (hb hby at_177) (fun _ _ => ⟨rfl, rfl, (by decide : 3 + 0 ≤ _), (by decide : 37 + 0 ≤ _)⟩)
      dsimp only [Pt.U, Pt.locs, Pt.cells, Pt.slots] at X129 l129 y129 z129 st129 hQ129
      subst l129 y129 z129
      obtain ⟨rfl, Nq129, e129⟩ := hQ129
      have N129 := Fr.app N123 Nq129
      refine own_pre (fun t k => st129.trans k) ?_
      show own_Ends _ _ _ _ (T129.setTop (mkF m 180 #[.val (.int p0), .val (.int p1), .val (.int p2), .val (.int p3), .val (.int p4), .val (.int (0 : Int32)), .val (.ref b101), .val (.int (1 : Int32)), .val (.int (3 : Int32)), .val (.int (2 : Int32)), .val (.int (2 : Int32)), .val (.int p2)] [(.int p2)]))
      refine own_pre (fun t k => XS.iload X129.here hx rfl (hb hby at_180) rfl k) ?_
      show own_Ends _ _ _ _ (T129.setTop (mkF m 182 #[.val (.int p0), .val (.int p1), .val (.int p2), .val (.int p3), .val (.int p4), .val (.int (0 : Int32)), .val (.ref b101), .val (.int (1 : Int32)), .val (.int (3 : Int32)), .val (.int (2 : Int32)), .val (.int (2 : Int32)), .val (.int p2)] [(.int p2), (.int p2)]))
      refine own_pre (fun t k => XS.icmpNo X129.here hx rfl (hb hby at_182) rfl (teq (rfl : p2 = p2)).2 k) ?_
      show own_Ends _ _ _ _ (T129.setTop (mkF m 185 #[.val (.int p0), .val (.int p1), .val (.int p2), .val (.int p3), .val (.int p4), .val (.int (0 : Int32)), .val (.ref b101), .val (.int (1 : Int32)), .val (.int (3 : Int32)), .val (.int (2 : Int32)), .val (.int (2 : Int32)), .val (.int p2)] []))
      refine own_pre (fun t k => XS.iconst X129.here hx rfl (hb hby at_185) k) ?_
      show own_Ends _ _ _ _ (T129.setTop (mkF m 186 #[.val (.int p0), .val (.int p1), .val (.int p2), .val (.int p3), .val (.int p4), .val (.int (0 : Int32)), .val (.ref b101), .val (.int (1 : Int32)), .val (.int (3 : Int32)), .val (.int (2 : Int32)), .val (.int (2 : Int32)), .val (.int p2)] [(.int (1 : Int32))]))
      refine own_pre (fun t k => XS.goto X129.here hx rfl (pc0 := 186) (pc' := 190) rfl (hb hby at_186) (by decide) (by decide) k) ?_
      show own_Ends _ _ _ _ (T129.setTop (mkF m 190 #[.val (.int p0), .val (.int p1), .val (.int p2), .val (.int p3), .val (.int p4), .val (.int (0 : Int32)), .val (.ref b101), .val (.int (1 : Int32)), .val (.int (3 : Int32)), .val (.int (2 : Int32)), .val (.int (2 : Int32)), .val (.int p2)] [(.int (1 : Int32))]))
      exact own_retN X129 hx (t := .boolean) Bd.returns (by simp) (hb hby at_190) hlk rfl e129 ⟨rfl, N129⟩ (by decide) (by decide)
  · subst hs110
    show own_Ends _ _ _ _ (T108.setTop (mkF m 14 #[.val (.int p0), .val (.int p1), .val (.int p2), .val (.int p3), .val (.int p4), .val (.int (1 : Int32)), .val (.ref b101), .unset, .unset, .unset, .unset, .unset] []))
    refine own_pre (fun t k => XS.iload X108.here hx rfl (hb hby at_14) rfl k) ?_
    show own_Ends _ _ _ _ (T108.setTop (mkF m 16 #[.val (.int p0), .val (.int p1), .val (.int p2), .val (.int p3), .val (.int p4), .val (.int (1 : Int32)), .val (.ref b101), .unset, .unset, .unset, .unset, .unset] [(.int (1 : Int32))]))
    refine own_pre (fun t k => XS.ifYes X108.here hx rfl (pc0 := 16) (pc' := 24) rfl (hb hby at_16) rfl ((if0 _ _).trans (feq ((by decide) : ¬ ((1 : Int32) = (0 : Int32)))).2) (by decide) (by decide) k) ?_
    show own_Ends _ _ _ _ (T108.setTop (mkF m 24 #[.val (.int p0), .val (.int p1), .val (.int p2), .val (.int p3), .val (.int p4), .val (.int (1 : Int32)), .val (.ref b101), .unset, .unset, .unset, .unset, .unset] []))
    refine own_pre (fun t k => XS.aload X108.here hx rfl (hb hby at_24) rfl rfl k) ?_
    show own_Ends _ _ _ _ (T108.setTop (mkF m 26 #[.val (.int p0), .val (.int p1), .val (.int p2), .val (.int p3), .val (.int p4), .val (.int (1 : Int32)), .val (.ref b101), .unset, .unset, .unset, .unset, .unset] [(.ref b101)]))
    refine own_pre (fun t k => XS.iloadN X108.here hx rfl (hb hby at_26) rfl k) ?_
    show own_Ends _ _ _ _ (T108.setTop (mkF m 27 #[.val (.int p0), .val (.int p1), .val (.int p2), .val (.int p3), .val (.int p4), .val (.int (1 : Int32)), .val (.ref b101), .unset, .unset, .unset, .unset, .unset] [(.int p0), (.ref b101)]))
    obtain ⟨cq130, kq130, q130a, q130b, q130c⟩ := isOf hZ rfl f109
    obtain ⟨_, _, ⟨T130, L130, k130, n130⟩, -, X130, ⟨Lc130, hQ130, l130, y130, z130⟩, st130⟩ := X108.virtualBack hx (y := (⟨"com/example/mursyn/mursyn/synthesis/SuccessorLists", "add", "(I)V"⟩ : MethodName)) (z := (⟨"com/example/mursyn/mursyn/synthesis/SuccessorLists", "add", "(I)V"⟩ : MethodName)) hown (mvT hZ (hw _ (List.mem_of_getElem? (i := 14) rfl))) (mvT hZ (hw _ (List.mem_of_getElem? (i := 15) rfl))) (notFace_of_selects (args := #[]) (mvT hZ (hw _ (List.mem_of_getElem? (i := 17) rfl)))) (mvT hZ (hw _ (List.mem_of_getElem? (i := 17) rfl))) (mvT hZ (hw _ (List.mem_of_getElem? (i := 16) rfl))) (by decide) (backOf (W := 0) (rm2 l Z a0 hw [] b101 p0 bf108 bt108 (0 : Int32) (0 : Int32) kt108 [(.int (0 : Int32)), (.int (0 : Int32)), (.int (0 : Int32)), (.int (0 : Int32)), (.int (0 : Int32)), (.int (0 : Int32)), (.int (0 : Int32)), (.int (0 : Int32)), (.int (0 : Int32)), (.int (0 : Int32)), (.int (0 : Int32)), (.int (0 : Int32)), (.int (0 : Int32)), (.int (0 : Int32)), (.int (0 : Int32)), (.int (0 : Int32))]  T108.heap n0 Zn108 f109 L102 lb108 nb108 fa108 fb108 fc108 fd108 vb108 (by decide) ⟨by decide, by decide⟩ (Nat.le_of_ble_eq_true rfl)) hZ (hw _ (List.mem_of_getElem? (i := 18) rfl)) (hw _ (List.mem_of_getElem? (i := 2) rfl)) (by decide) (by decide)) q130a q130c (g := (mkF m 27 #[.val (.int p0), .val (.int p1), .val (.int p2), .val (.int p3), .val (.int p4), .val (.int (1 : Int32)), .val (.ref b101), .unset, .unset, .unset, .unset, .unset] [(.int p0), (.ref b101)])) rfl (by rw [hml]; rfl) (Steps.refl _) (argsL := [(.int p0)]) (rest := []) (lenOf own_pd1 rfl) rfl (by show 2 * 0 + _ ≤ _; exact Nat.le_of_eq rfl) (hb hby at_27) (fun _ _ => ⟨rfl, rfl, (by decide : 3 + 0 ≤ _), (by decide : 37 + 0 ≤ _)⟩)
    dsimp only [Pt.U, Pt.locs, Pt.cells, Pt.slots] at X130 l130 y130 z130 st130 hQ130
    subst l130 y130 z130
    obtain ⟨rfl, Nq130, Kq130, fa130, fb130, fc130, fd130, vv130⟩ := hQ130
    have N130 := Fr.app N108 Nq130
    have f131 := f109.keep Kq130
    have f132 := va108.keep Kq130 (ninS (Ne.symm na108) (ninS nc108 nin0))
    have Zn130 : n0 ≤ T130.heap.size := Nat.le_trans Zn108 Kq130.1
    have fa130 : Fld Z T130.heap b101 "com/example/mursyn/mursyn/synthesis/SuccessorLists" "first" "[I" (.ref bf108) := fa130
    have fb130 : Fld Z T130.heap b101 "com/example/mursyn/mursyn/synthesis/SuccessorLists" "targets" "[I" (.ref bt108) := fb130
    have fc130 : Fld Z T130.heap b101 "com/example/mursyn/mursyn/synthesis/SuccessorLists" "edgeCount" "I" (.int (1 : Int32)) := fc130
    have fd130 : Fld Z T130.heap b101 "com/example/mursyn/mursyn/synthesis/SuccessorLists" "listed" "I" (.int (0 : Int32)) := fd130
    have vv130 : Arv Z T130.heap bt108 kt108 .int (16 : Int32) [(.int p0), (.int (0 : Int32)), (.int (0 : Int32)), (.int (0 : Int32)), (.int (0 : Int32)), (.int (0 : Int32)), (.int (0 : Int32)), (.int (0 : Int32)), (.int (0 : Int32)), (.int (0 : Int32)), (.int (0 : Int32)), (.int (0 : Int32)), (.int (0 : Int32)), (.int (0 : Int32)), (.int (0 : Int32)), (.int (0 : Int32))] (.int (0 : Int32)) := vv130
    refine own_pre (fun t k => st130.trans k) ?_
    show own_Ends _ _ _ _ (T130.setTop (mkF m 30 #[.val (.int p0), .val (.int p1), .val (.int p2), .val (.int p3), .val (.int p4), .val (.int (1 : Int32)), .val (.ref b101), .unset, .unset, .unset, .unset, .unset] []))
    refine own_pre (fun t k => XS.iload X130.here hx rfl (hb hby at_30) rfl k) ?_
    show own_Ends _ _ _ _ (T130.setTop (mkF m 32 #[.val (.int p0), .val (.int p1), .val (.int p2), .val (.int p3), .val (.int p4), .val (.int (1 : Int32)), .val (.ref b101), .unset, .unset, .unset, .unset, .unset] [(.int (1 : Int32))]))
    refine own_pre (fun t k => XS.iconst X130.here hx rfl (hb hby at_32) k) ?_
    show own_Ends _ _ _ _ (T130.setTop (mkF m 33 #[.val (.int p0), .val (.int p1), .val (.int p2), .val (.int p3), .val (.int p4), .val (.int (1 : Int32)), .val (.ref b101), .unset, .unset, .unset, .unset, .unset] [(.int (1 : Int32)), (.int (1 : Int32))]))
    refine own_pre (fun t k => XS.icmpNo X130.here hx rfl (hb hby at_33) rfl (teq ((by decide) : (1 : Int32) = (1 : Int32))).2 k) ?_
    show own_Ends _ _ _ _ (T130.setTop (mkF m 36 #[.val (.int p0), .val (.int p1), .val (.int p2), .val (.int p3), .val (.int p4), .val (.int (1 : Int32)), .val (.ref b101), .unset, .unset, .unset, .unset, .unset] []))
    refine own_pre (fun t k => XS.aload X130.here hx rfl (hb hby at_36) rfl rfl k) ?_
    show own_Ends _ _ _ _ (T130.setTop (mkF m 38 #[.val (.int p0), .val (.int p1), .val (.int p2), .val (.int p3), .val (.int p4), .val (.int (1 : Int32)), .val (.ref b101), .unset, .unset, .unset, .unset, .unset] [(.ref b101)]))
    obtain ⟨cq133, kq133, q133a, q133b, q133c⟩ := isOf hZ rfl f131
    obtain ⟨_, _, ⟨T133, L133, k133, n133⟩, -, X133, ⟨Lc133, hQ133, l133, y133, z133⟩, st133⟩ := X130.virtualBack hx (y := (⟨"com/example/mursyn/mursyn/synthesis/SuccessorLists", "close", "()V"⟩ : MethodName)) (z := (⟨"com/example/mursyn/mursyn/synthesis/SuccessorLists", "close", "()V"⟩ : MethodName)) hown (mvT hZ (hw _ (List.mem_of_getElem? (i := 21) rfl))) (mvT hZ (hw _ (List.mem_of_getElem? (i := 22) rfl))) (notFace_of_selects (args := #[]) (mvT hZ (hw _ (List.mem_of_getElem? (i := 24) rfl)))) (mvT hZ (hw _ (List.mem_of_getElem? (i := 24) rfl))) (mvT hZ (hw _ (List.mem_of_getElem? (i := 23) rfl))) (by decide) (backOf (W := 0) (rm3 l Z a0 hw [] b101 bf108 bt108 (1 : Int32) (0 : Int32) kf108 [(.int (0 : Int32)), (.int (0 : Int32)), (.int (0 : Int32)), (.int (0 : Int32)), (.int (0 : Int32)), (.int (0 : Int32)), (.int (0 : Int32)), (.int (0 : Int32)), (.int (0 : Int32)), (.int (0 : Int32)), (.int (0 : Int32)), (.int (0 : Int32)), (.int (0 : Int32)), (.int (0 : Int32)), (.int (0 : Int32)), (.int (0 : Int32)), (.int (0 : Int32))]  T130.heap n0 Zn130 f131 L102 la108 na108 fa130 fb130 fc130 fd130 f132 (by decide) ⟨by decide, by decide⟩ (Nat.le_of_ble_eq_true rfl)) hZ (hw _ (List.mem_of_getElem? (i := 25) rfl)) (hw _ (List.mem_of_getElem? (i := 2) rfl)) (by decide) (by decide)) q133a q133c (g := (mkF m 38 #[.val (.int p0), .val (.int p1), .val (.int p2), .val (.int p3), .val (.int p4), .val (.int (1 : Int32)), .val (.ref b101), .unset, .unset, .unset, .unset, .unset] [(.ref b101)])) rfl (by rw [hml]; rfl) (Steps.refl _) (argsL := []) (rest := []) (lenOf own_pd0 rfl) rfl (by show 2 * 0 + _ ≤ _; exact Nat.le_of_eq rfl) (hb hby at_38) (fun _ _ => ⟨rfl, rfl, (by decide : 3 + 0 ≤ _), (by decide : 37 + 0 ≤ _)⟩)
    dsimp only [Pt.U, Pt.locs, Pt.cells, Pt.slots] at X133 l133 y133 z133 st133 hQ133
    subst l133 y133 z133
    obtain ⟨rfl, Nq133, Kq133, fa133, fb133, fc133, fd133, vv133⟩ := hQ133
    have N133 := Fr.app N130 Nq133
    have f134 := f131.keep Kq133
    have f135 := vv130.keep Kq133 (ninS (Ne.symm nb108) (ninS (Ne.symm nc108) nin0))
    have Zn133 : n0 ≤ T133.heap.size := Nat.le_trans Zn130 Kq133.1
    have fa133 : Fld Z T133.heap b101 "com/example/mursyn/mursyn/synthesis/SuccessorLists" "first" "[I" (.ref bf108) := fa133
    have fb133 : Fld Z T133.heap b101 "com/example/mursyn/mursyn/synthesis/SuccessorLists" "targets" "[I" (.ref bt108) := fb133
    have fc133 : Fld Z T133.heap b101 "com/example/mursyn/mursyn/synthesis/SuccessorLists" "edgeCount" "I" (.int (1 : Int32)) := fc133
    have fd133 : Fld Z T133.heap b101 "com/example/mursyn/mursyn/synthesis/SuccessorLists" "listed" "I" (.int (1 : Int32)) := fd133
    have vv133 : Arv Z T133.heap bf108 kf108 .int (17 : Int32) [(.int (0 : Int32)), (.int (1 : Int32)), (.int (0 : Int32)), (.int (0 : Int32)), (.int (0 : Int32)), (.int (0 : Int32)), (.int (0 : Int32)), (.int (0 : Int32)), (.int (0 : Int32)), (.int (0 : Int32)), (.int (0 : Int32)), (.int (0 : Int32)), (.int (0 : Int32)), (.int (0 : Int32)), (.int (0 : Int32)), (.int (0 : Int32)), (.int (0 : Int32))] (.int (0 : Int32)) := vv133
    refine own_pre (fun t k => st133.trans k) ?_
    show own_Ends _ _ _ _ (T133.setTop (mkF m 41 #[.val (.int p0), .val (.int p1), .val (.int p2), .val (.int p3), .val (.int p4), .val (.int (1 : Int32)), .val (.ref b101), .unset, .unset, .unset, .unset, .unset] []))
    refine own_pre (fun t k => XS.aload X133.here hx rfl (hb hby at_41) rfl rfl k) ?_
    show own_Ends _ _ _ _ (T133.setTop (mkF m 43 #[.val (.int p0), .val (.int p1), .val (.int p2), .val (.int p3), .val (.int p4), .val (.int (1 : Int32)), .val (.ref b101), .unset, .unset, .unset, .unset, .unset] [(.ref b101)]))
    refine own_pre (fun t k => XS.iloadN X133.here hx rfl (hb hby at_43) rfl k) ?_
    show own_Ends _ _ _ _ (T133.setTop (mkF m 44 #[.val (.int p0), .val (.int p1), .val (.int p2), .val (.int p3), .val (.int p4), .val (.int (1 : Int32)), .val (.ref b101), .unset, .unset, .unset, .unset, .unset] [(.int p1), (.ref b101)]))
    obtain ⟨cq136, kq136, q136a, q136b, q136c⟩ := isOf hZ rfl f134
    obtain ⟨_, _, ⟨T136, L136, k136, n136⟩, -, X136, ⟨Lc136, hQ136, l136, y136, z136⟩, st136⟩ := X133.virtualBack hx (y := (⟨"com/example/mursyn/mursyn/synthesis/SuccessorLists", "add", "(I)V"⟩ : MethodName)) (z := (⟨"com/example/mursyn/mursyn/synthesis/SuccessorLists", "add", "(I)V"⟩ : MethodName)) hown (mvT hZ (hw _ (List.mem_of_getElem? (i := 14) rfl))) (mvT hZ (hw _ (List.mem_of_getElem? (i := 15) rfl))) (notFace_of_selects (args := #[]) (mvT hZ (hw _ (List.mem_of_getElem? (i := 17) rfl)))) (mvT hZ (hw _ (List.mem_of_getElem? (i := 17) rfl))) (mvT hZ (hw _ (List.mem_of_getElem? (i := 16) rfl))) (by decide) (backOf (W := 0) (rm2 l Z a0 hw [] b101 p1 bf108 bt108 (1 : Int32) (1 : Int32) kt108 [(.int p0), (.int (0 : Int32)), (.int (0 : Int32)), (.int (0 : Int32)), (.int (0 : Int32)), (.int (0 : Int32)), (.int (0 : Int32)), (.int (0 : Int32)), (.int (0 : Int32)), (.int (0 : Int32)), (.int (0 : Int32)), (.int (0 : Int32)), (.int (0 : Int32)), (.int (0 : Int32)), (.int (0 : Int32)), (.int (0 : Int32))]  T133.heap n0 Zn133 f134 L102 lb108 nb108 fa133 fb133 fc133 fd133 f135 (by decide) ⟨by decide, by decide⟩ (Nat.le_of_ble_eq_true rfl)) hZ (hw _ (List.mem_of_getElem? (i := 18) rfl)) (hw _ (List.mem_of_getElem? (i := 2) rfl)) (by decide) (by decide)) q136a q136c (g := (mkF m 44 #[.val (.int p0), .val (.int p1), .val (.int p2), .val (.int p3), .val (.int p4), .val (.int (1 : Int32)), .val (.ref b101), .unset, .unset, .unset, .unset, .unset] [(.int p1), (.ref b101)])) rfl (by rw [hml]; rfl) (Steps.refl _) (argsL := [(.int p1)]) (rest := []) (lenOf own_pd1 rfl) rfl (by show 2 * 0 + _ ≤ _; exact Nat.le_of_eq rfl) (hb hby at_44) (fun _ _ => ⟨rfl, rfl, (by decide : 3 + 0 ≤ _), (by decide : 37 + 0 ≤ _)⟩)
    dsimp only [Pt.U, Pt.locs, Pt.cells, Pt.slots] at X136 l136 y136 z136 st136 hQ136
    subst l136 y136 z136
    obtain ⟨rfl, Nq136, Kq136, fa136, fb136, fc136, fd136, vv136⟩ := hQ136
    have N136 := Fr.app N133 Nq136
    have f137 := f134.keep Kq136
    have f138 := vv133.keep Kq136 (ninS (Ne.symm na108) (ninS nc108 nin0))
    have Zn136 : n0 ≤ T136.heap.size := Nat.le_trans Zn133 Kq136.1
    have fa136 : Fld Z T136.heap b101 "com/example/mursyn/mursyn/synthesis/SuccessorLists" "first" "[I" (.ref bf108) := fa136
    have fb136 : Fld Z T136.heap b101 "com/example/mursyn/mursyn/synthesis/SuccessorLists" "targets" "[I" (.ref bt108) := fb136
    have fc136 : Fld Z T136.heap b101 "com/example/mursyn/mursyn/synthesis/SuccessorLists" "edgeCount" "I" (.int (2 : Int32)) := fc136
    have fd136 : Fld Z T136.heap b101 "com/example/mursyn/mursyn/synthesis/SuccessorLists" "listed" "I" (.int (1 : Int32)) := fd136
    have vv136 : Arv Z T136.heap bt108 kt108 .int (16 : Int32) [(.int p0), (.int p1), (.int (0 : Int32)), (.int (0 : Int32)), (.int (0 : Int32)), (.int (0 : Int32)), (.int (0 : Int32)), (.int (0 : Int32)), (.int (0 : Int32)), (.int (0 : Int32)), (.int (0 : Int32)), (.int (0 : Int32)), (.int (0 : Int32)), (.int (0 : Int32)), (.int (0 : Int32)), (.int (0 : Int32))] (.int (0 : Int32)) := vv136
    refine own_pre (fun t k => st136.trans k) ?_
    show own_Ends _ _ _ _ (T136.setTop (mkF m 47 #[.val (.int p0), .val (.int p1), .val (.int p2), .val (.int p3), .val (.int p4), .val (.int (1 : Int32)), .val (.ref b101), .unset, .unset, .unset, .unset, .unset] []))
    refine own_pre (fun t k => XS.iload X136.here hx rfl (hb hby at_47) rfl k) ?_
    show own_Ends _ _ _ _ (T136.setTop (mkF m 49 #[.val (.int p0), .val (.int p1), .val (.int p2), .val (.int p3), .val (.int p4), .val (.int (1 : Int32)), .val (.ref b101), .unset, .unset, .unset, .unset, .unset] [(.int (1 : Int32))]))
    refine own_pre (fun t k => XS.iconst X136.here hx rfl (hb hby at_49) k) ?_
    show own_Ends _ _ _ _ (T136.setTop (mkF m 50 #[.val (.int p0), .val (.int p1), .val (.int p2), .val (.int p3), .val (.int p4), .val (.int (1 : Int32)), .val (.ref b101), .unset, .unset, .unset, .unset, .unset] [(.int (2 : Int32)), (.int (1 : Int32))]))
    refine own_pre (fun t k => XS.icmpYes X136.here hx rfl (pc0 := 50) (pc' := 58) rfl (hb hby at_50) rfl (feq ((by decide) : ¬ ((1 : Int32) = (2 : Int32)))).2 (by decide) (by decide) k) ?_
    show own_Ends _ _ _ _ (T136.setTop (mkF m 58 #[.val (.int p0), .val (.int p1), .val (.int p2), .val (.int p3), .val (.int p4), .val (.int (1 : Int32)), .val (.ref b101), .unset, .unset, .unset, .unset, .unset] []))
    refine own_pre (fun t k => XS.aload X136.here hx rfl (hb hby at_58) rfl rfl k) ?_
    show own_Ends _ _ _ _ (T136.setTop (mkF m 60 #[.val (.int p0), .val (.int p1), .val (.int p2), .val (.int p3), .val (.int p4), .val (.int (1 : Int32)), .val (.ref b101), .unset, .unset, .unset, .unset, .unset] [(.ref b101)]))
    refine own_pre (fun t k => XS.iloadN X136.here hx rfl (hb hby at_60) rfl k) ?_
    show own_Ends _ _ _ _ (T136.setTop (mkF m 61 #[.val (.int p0), .val (.int p1), .val (.int p2), .val (.int p3), .val (.int p4), .val (.int (1 : Int32)), .val (.ref b101), .unset, .unset, .unset, .unset, .unset] [(.int p2), (.ref b101)]))
    obtain ⟨cq139, kq139, q139a, q139b, q139c⟩ := isOf hZ rfl f137
    obtain ⟨_, _, ⟨T139, L139, k139, n139⟩, -, X139, ⟨Lc139, hQ139, l139, y139, z139⟩, st139⟩ := X136.virtualBack hx (y := (⟨"com/example/mursyn/mursyn/synthesis/SuccessorLists", "add", "(I)V"⟩ : MethodName)) (z := (⟨"com/example/mursyn/mursyn/synthesis/SuccessorLists", "add", "(I)V"⟩ : MethodName)) hown (mvT hZ (hw _ (List.mem_of_getElem? (i := 14) rfl))) (mvT hZ (hw _ (List.mem_of_getElem? (i := 15) rfl))) (notFace_of_selects (args := #[]) (mvT hZ (hw _ (List.mem_of_getElem? (i := 17) rfl)))) (mvT hZ (hw _ (List.mem_of_getElem? (i := 17) rfl))) (mvT hZ (hw _ (List.mem_of_getElem? (i := 16) rfl))) (by decide) (backOf (W := 0) (rm2 l Z a0 hw [] b101 p2 bf108 bt108 (2 : Int32) (1 : Int32) kt108 [(.int p0), (.int p1), (.int (0 : Int32)), (.int (0 : Int32)), (.int (0 : Int32)), (.int (0 : Int32)), (.int (0 : Int32)), (.int (0 : Int32)), (.int (0 : Int32)), (.int (0 : Int32)), (.int (0 : Int32)), (.int (0 : Int32)), (.int (0 : Int32)), (.int (0 : Int32)), (.int (0 : Int32)), (.int (0 : Int32))]  T136.heap n0 Zn136 f137 L102 lb108 nb108 fa136 fb136 fc136 fd136 vv136 (by decide) ⟨by decide, by decide⟩ (Nat.le_of_ble_eq_true rfl)) hZ (hw _ (List.mem_of_getElem? (i := 18) rfl)) (hw _ (List.mem_of_getElem? (i := 2) rfl)) (by decide) (by decide)) q139a q139c (g := (mkF m 61 #[.val (.int p0), .val (.int p1), .val (.int p2), .val (.int p3), .val (.int p4), .val (.int (1 : Int32)), .val (.ref b101), .unset, .unset, .unset, .unset, .unset] [(.int p2), (.ref b101)])) rfl (by rw [hml]; rfl) (Steps.refl _) (argsL := [(.int p2)]) (rest := []) (lenOf own_pd1 rfl) rfl (by show 2 * 0 + _ ≤ _; exact Nat.le_of_eq rfl) (hb hby at_61) (fun _ _ => ⟨rfl, rfl, (by decide : 3 + 0 ≤ _), (by decide : 37 + 0 ≤ _)⟩)
    dsimp only [Pt.U, Pt.locs, Pt.cells, Pt.slots] at X139 l139 y139 z139 st139 hQ139
    subst l139 y139 z139
    obtain ⟨rfl, Nq139, Kq139, fa139, fb139, fc139, fd139, vv139⟩ := hQ139
    have N139 := Fr.app N136 Nq139
    have f140 := f137.keep Kq139
    have f141 := f138.keep Kq139 (ninS (Ne.symm na108) (ninS nc108 nin0))
    have Zn139 : n0 ≤ T139.heap.size := Nat.le_trans Zn136 Kq139.1
    have fa139 : Fld Z T139.heap b101 "com/example/mursyn/mursyn/synthesis/SuccessorLists" "first" "[I" (.ref bf108) := fa139
    have fb139 : Fld Z T139.heap b101 "com/example/mursyn/mursyn/synthesis/SuccessorLists" "targets" "[I" (.ref bt108) := fb139
    have fc139 : Fld Z T139.heap b101 "com/example/mursyn/mursyn/synthesis/SuccessorLists" "edgeCount" "I" (.int (3 : Int32)) := fc139
    have fd139 : Fld Z T139.heap b101 "com/example/mursyn/mursyn/synthesis/SuccessorLists" "listed" "I" (.int (1 : Int32)) := fd139
    have vv139 : Arv Z T139.heap bt108 kt108 .int (16 : Int32) [(.int p0), (.int p1), (.int p2), (.int (0 : Int32)), (.int (0 : Int32)), (.int (0 : Int32)), (.int (0 : Int32)), (.int (0 : Int32)), (.int (0 : Int32)), (.int (0 : Int32)), (.int (0 : Int32)), (.int (0 : Int32)), (.int (0 : Int32)), (.int (0 : Int32)), (.int (0 : Int32)), (.int (0 : Int32))] (.int (0 : Int32)) := vv139
    refine own_pre (fun t k => st139.trans k) ?_
    show own_Ends _ _ _ _ (T139.setTop (mkF m 64 #[.val (.int p0), .val (.int p1), .val (.int p2), .val (.int p3), .val (.int p4), .val (.int (1 : Int32)), .val (.ref b101), .unset, .unset, .unset, .unset, .unset] []))
    refine own_pre (fun t k => XS.iload X139.here hx rfl (hb hby at_64) rfl k) ?_
    show own_Ends _ _ _ _ (T139.setTop (mkF m 66 #[.val (.int p0), .val (.int p1), .val (.int p2), .val (.int p3), .val (.int p4), .val (.int (1 : Int32)), .val (.ref b101), .unset, .unset, .unset, .unset, .unset] [(.int (1 : Int32))]))
    refine own_pre (fun t k => XS.iconst X139.here hx rfl (hb hby at_66) k) ?_
    show own_Ends _ _ _ _ (T139.setTop (mkF m 67 #[.val (.int p0), .val (.int p1), .val (.int p2), .val (.int p3), .val (.int p4), .val (.int (1 : Int32)), .val (.ref b101), .unset, .unset, .unset, .unset, .unset] [(.int (3 : Int32)), (.int (1 : Int32))]))
    refine own_pre (fun t k => XS.icmpYes X139.here hx rfl (pc0 := 67) (pc' := 75) rfl (hb hby at_67) rfl (feq ((by decide) : ¬ ((1 : Int32) = (3 : Int32)))).2 (by decide) (by decide) k) ?_
    show own_Ends _ _ _ _ (T139.setTop (mkF m 75 #[.val (.int p0), .val (.int p1), .val (.int p2), .val (.int p3), .val (.int p4), .val (.int (1 : Int32)), .val (.ref b101), .unset, .unset, .unset, .unset, .unset] []))
    refine own_pre (fun t k => XS.aload X139.here hx rfl (hb hby at_75) rfl rfl k) ?_
    show own_Ends _ _ _ _ (T139.setTop (mkF m 77 #[.val (.int p0), .val (.int p1), .val (.int p2), .val (.int p3), .val (.int p4), .val (.int (1 : Int32)), .val (.ref b101), .unset, .unset, .unset, .unset, .unset] [(.ref b101)]))
    obtain ⟨cq142, kq142, q142a, q142b, q142c⟩ := isOf hZ rfl f140
    obtain ⟨_, _, ⟨T142, L142, k142, n142⟩, -, X142, ⟨Lc142, hQ142, l142, y142, z142⟩, st142⟩ := X139.virtualBack hx (y := (⟨"com/example/mursyn/mursyn/synthesis/SuccessorLists", "close", "()V"⟩ : MethodName)) (z := (⟨"com/example/mursyn/mursyn/synthesis/SuccessorLists", "close", "()V"⟩ : MethodName)) hown (mvT hZ (hw _ (List.mem_of_getElem? (i := 21) rfl))) (mvT hZ (hw _ (List.mem_of_getElem? (i := 22) rfl))) (notFace_of_selects (args := #[]) (mvT hZ (hw _ (List.mem_of_getElem? (i := 24) rfl)))) (mvT hZ (hw _ (List.mem_of_getElem? (i := 24) rfl))) (mvT hZ (hw _ (List.mem_of_getElem? (i := 23) rfl))) (by decide) (backOf (W := 0) (rm3 l Z a0 hw [] b101 bf108 bt108 (3 : Int32) (1 : Int32) kf108 [(.int (0 : Int32)), (.int (1 : Int32)), (.int (0 : Int32)), (.int (0 : Int32)), (.int (0 : Int32)), (.int (0 : Int32)), (.int (0 : Int32)), (.int (0 : Int32)), (.int (0 : Int32)), (.int (0 : Int32)), (.int (0 : Int32)), (.int (0 : Int32)), (.int (0 : Int32)), (.int (0 : Int32)), (.int (0 : Int32)), (.int (0 : Int32)), (.int (0 : Int32))]  T139.heap n0 Zn139 f140 L102 la108 na108 fa139 fb139 fc139 fd139 f141 (by decide) ⟨by decide, by decide⟩ (Nat.le_of_ble_eq_true rfl)) hZ (hw _ (List.mem_of_getElem? (i := 25) rfl)) (hw _ (List.mem_of_getElem? (i := 2) rfl)) (by decide) (by decide)) q142a q142c (g := (mkF m 77 #[.val (.int p0), .val (.int p1), .val (.int p2), .val (.int p3), .val (.int p4), .val (.int (1 : Int32)), .val (.ref b101), .unset, .unset, .unset, .unset, .unset] [(.ref b101)])) rfl (by rw [hml]; rfl) (Steps.refl _) (argsL := []) (rest := []) (lenOf own_pd0 rfl) rfl (by show 2 * 0 + _ ≤ _; exact Nat.le_of_eq rfl) (hb hby at_77) (fun _ _ => ⟨rfl, rfl, (by decide : 3 + 0 ≤ _), (by decide : 37 + 0 ≤ _)⟩)
    dsimp only [Pt.U, Pt.locs, Pt.cells, Pt.slots] at X142 l142 y142 z142 st142 hQ142
    subst l142 y142 z142
    obtain ⟨rfl, Nq142, Kq142, fa142, fb142, fc142, fd142, vv142⟩ := hQ142
    have N142 := Fr.app N139 Nq142
    have f143 := f140.keep Kq142
    have f144 := vv139.keep Kq142 (ninS (Ne.symm nb108) (ninS (Ne.symm nc108) nin0))
    have Zn142 : n0 ≤ T142.heap.size := Nat.le_trans Zn139 Kq142.1
    have fa142 : Fld Z T142.heap b101 "com/example/mursyn/mursyn/synthesis/SuccessorLists" "first" "[I" (.ref bf108) := fa142
    have fb142 : Fld Z T142.heap b101 "com/example/mursyn/mursyn/synthesis/SuccessorLists" "targets" "[I" (.ref bt108) := fb142
    have fc142 : Fld Z T142.heap b101 "com/example/mursyn/mursyn/synthesis/SuccessorLists" "edgeCount" "I" (.int (3 : Int32)) := fc142
    have fd142 : Fld Z T142.heap b101 "com/example/mursyn/mursyn/synthesis/SuccessorLists" "listed" "I" (.int (2 : Int32)) := fd142
    have vv142 : Arv Z T142.heap bf108 kf108 .int (17 : Int32) [(.int (0 : Int32)), (.int (1 : Int32)), (.int (3 : Int32)), (.int (0 : Int32)), (.int (0 : Int32)), (.int (0 : Int32)), (.int (0 : Int32)), (.int (0 : Int32)), (.int (0 : Int32)), (.int (0 : Int32)), (.int (0 : Int32)), (.int (0 : Int32)), (.int (0 : Int32)), (.int (0 : Int32)), (.int (0 : Int32)), (.int (0 : Int32)), (.int (0 : Int32))] (.int (0 : Int32)) := vv142
    refine own_pre (fun t k => st142.trans k) ?_
    show own_Ends _ _ _ _ (T142.setTop (mkF m 80 #[.val (.int p0), .val (.int p1), .val (.int p2), .val (.int p3), .val (.int p4), .val (.int (1 : Int32)), .val (.ref b101), .unset, .unset, .unset, .unset, .unset] []))
    refine own_pre (fun t k => XS.iload X142.here hx rfl (hb hby at_80) rfl k) ?_
    show own_Ends _ _ _ _ (T142.setTop (mkF m 82 #[.val (.int p0), .val (.int p1), .val (.int p2), .val (.int p3), .val (.int p4), .val (.int (1 : Int32)), .val (.ref b101), .unset, .unset, .unset, .unset, .unset] [(.int p4)]))
    refine own_pre (fun t k => XS.iconst X142.here hx rfl (hb hby at_82) k) ?_
    show own_Ends _ _ _ _ (T142.setTop (mkF m 83 #[.val (.int p0), .val (.int p1), .val (.int p2), .val (.int p3), .val (.int p4), .val (.int (1 : Int32)), .val (.ref b101), .unset, .unset, .unset, .unset, .unset] [(.int (1 : Int32)), (.int p4)]))
    refine own_pre (fun t k => XS.iand X142.here hx rfl (hb hby at_83) rfl k) ?_
    show own_Ends _ _ _ _ (T142.setTop (mkF m 84 #[.val (.int p0), .val (.int p1), .val (.int p2), .val (.int p3), .val (.int p4), .val (.int (1 : Int32)), .val (.ref b101), .unset, .unset, .unset, .unset, .unset] [(.int (p4 &&& (1 : Int32)))]))
    refine own_pre (fun t k => XS.istore X142.here hx rfl (hb hby at_84) rfl (l' := #[.val (.int p0), .val (.int p1), .val (.int p2), .val (.int p3), .val (.int p4), .val (.int (1 : Int32)), .val (.ref b101), .val (.int (p4 &&& (1 : Int32))), .unset, .unset, .unset, .unset]) rfl k) ?_
    show own_Ends _ _ _ _ (T142.setTop (mkF m 86 #[.val (.int p0), .val (.int p1), .val (.int p2), .val (.int p3), .val (.int p4), .val (.int (1 : Int32)), .val (.ref b101), .val (.int (p4 &&& (1 : Int32))), .unset, .unset, .unset, .unset] []))
    generalize hx7 : (p4 &&& (1 : Int32)) = x7
    show own_Ends _ _ _ _ (T142.setTop (mkF m 86 #[.val (.int p0), .val (.int p1), .val (.int p2), .val (.int p3), .val (.int p4), .val (.int (1 : Int32)), .val (.ref b101), .val (.int x7), .unset, .unset, .unset, .unset] []))
    refine own_pre (fun t k => XS.iload X142.here hx rfl (hb hby at_86) rfl k) ?_
    show own_Ends _ _ _ _ (T142.setTop (mkF m 88 #[.val (.int p0), .val (.int p1), .val (.int p2), .val (.int p3), .val (.int p4), .val (.int (1 : Int32)), .val (.ref b101), .val (.int x7), .unset, .unset, .unset, .unset] [(.int (1 : Int32))]))
    refine own_pre (fun t k => XS.ifYes X142.here hx rfl (pc0 := 88) (pc' := 94) rfl (hb hby at_88) rfl ((if0 _ _).trans (feq ((by decide) : ¬ ((1 : Int32) = (0 : Int32)))).2) (by decide) (by decide) k) ?_
    show own_Ends _ _ _ _ (T142.setTop (mkF m 94 #[.val (.int p0), .val (.int p1), .val (.int p2), .val (.int p3), .val (.int p4), .val (.int (1 : Int32)), .val (.ref b101), .val (.int x7), .unset, .unset, .unset, .unset] []))
    refine own_pre (fun t k => XS.iload X142.here hx rfl (hb hby at_94) rfl k) ?_
    show own_Ends _ _ _ _ (T142.setTop (mkF m 96 #[.val (.int p0), .val (.int p1), .val (.int p2), .val (.int p3), .val (.int p4), .val (.int (1 : Int32)), .val (.ref b101), .val (.int x7), .unset, .unset, .unset, .unset] [(.int (1 : Int32))]))
    refine own_pre (fun t k => XS.iconst X142.here hx rfl (hb hby at_96) k) ?_
    show own_Ends _ _ _ _ (T142.setTop (mkF m 97 #[.val (.int p0), .val (.int p1), .val (.int p2), .val (.int p3), .val (.int p4), .val (.int (1 : Int32)), .val (.ref b101), .val (.int x7), .unset, .unset, .unset, .unset] [(.int (3 : Int32)), (.int (1 : Int32))]))
    refine own_pre (fun t k => XS.icmpYes X142.here hx rfl (pc0 := 97) (pc' := 103) rfl (hb hby at_97) rfl (feq ((by decide) : ¬ ((1 : Int32) = (3 : Int32)))).2 (by decide) (by decide) k) ?_
    show own_Ends _ _ _ _ (T142.setTop (mkF m 103 #[.val (.int p0), .val (.int p1), .val (.int p2), .val (.int p3), .val (.int p4), .val (.int (1 : Int32)), .val (.ref b101), .val (.int x7), .unset, .unset, .unset, .unset] []))
    rcases own_c2 hx7 with hs145 | hs145
    · subst hs145
      show own_Ends _ _ _ _ (T142.setTop (mkF m 103 #[.val (.int p0), .val (.int p1), .val (.int p2), .val (.int p3), .val (.int p4), .val (.int (1 : Int32)), .val (.ref b101), .val (.int (0 : Int32)), .unset, .unset, .unset, .unset] []))
      refine own_pre (fun t k => XS.iload X142.here hx rfl (hb hby at_103) rfl k) ?_
      show own_Ends _ _ _ _ (T142.setTop (mkF m 105 #[.val (.int p0), .val (.int p1), .val (.int p2), .val (.int p3), .val (.int p4), .val (.int (1 : Int32)), .val (.ref b101), .val (.int (0 : Int32)), .unset, .unset, .unset, .unset] [(.int (0 : Int32))]))
      refine own_pre (fun t k => XS.ifNo X142.here hx rfl (hb hby at_105) rfl ((if0 _ _).trans (teq ((by decide) : (0 : Int32) = (0 : Int32))).2) k) ?_
      show own_Ends _ _ _ _ (T142.setTop (mkF m 108 #[.val (.int p0), .val (.int p1), .val (.int p2), .val (.int p3), .val (.int p4), .val (.int (1 : Int32)), .val (.ref b101), .val (.int (0 : Int32)), .unset, .unset, .unset, .unset] []))
      refine own_pre (fun t k => XS.iload X142.here hx rfl (hb hby at_108) rfl k) ?_
      show own_Ends _ _ _ _ (T142.setTop (mkF m 110 #[.val (.int p0), .val (.int p1), .val (.int p2), .val (.int p3), .val (.int p4), .val (.int (1 : Int32)), .val (.ref b101), .val (.int (0 : Int32)), .unset, .unset, .unset, .unset] [(.int (1 : Int32))]))
      refine own_pre (fun t k => XS.goto X142.here hx rfl (pc0 := 110) (pc' := 117) rfl (hb hby at_110) (by decide) (by decide) k) ?_
      show own_Ends _ _ _ _ (T142.setTop (mkF m 117 #[.val (.int p0), .val (.int p1), .val (.int p2), .val (.int p3), .val (.int p4), .val (.int (1 : Int32)), .val (.ref b101), .val (.int (0 : Int32)), .unset, .unset, .unset, .unset] [(.int (1 : Int32))]))
      refine own_pre (fun t k => XS.istore X142.here hx rfl (hb hby at_117) rfl (l' := #[.val (.int p0), .val (.int p1), .val (.int p2), .val (.int p3), .val (.int p4), .val (.int (1 : Int32)), .val (.ref b101), .val (.int (0 : Int32)), .val (.int (1 : Int32)), .unset, .unset, .unset]) rfl k) ?_
      show own_Ends _ _ _ _ (T142.setTop (mkF m 119 #[.val (.int p0), .val (.int p1), .val (.int p2), .val (.int p3), .val (.int p4), .val (.int (1 : Int32)), .val (.ref b101), .val (.int (0 : Int32)), .val (.int (1 : Int32)), .unset, .unset, .unset] []))
      refine own_pre (fun t k => XS.iload X142.here hx rfl (hb hby at_119) rfl k) ?_
      show own_Ends _ _ _ _ (T142.setTop (mkF m 121 #[.val (.int p0), .val (.int p1), .val (.int p2), .val (.int p3), .val (.int p4), .val (.int (1 : Int32)), .val (.ref b101), .val (.int (0 : Int32)), .val (.int (1 : Int32)), .unset, .unset, .unset] [(.int p4)]))
      refine own_pre (fun t k => XS.iconst X142.here hx rfl (hb hby at_121) k) ?_
      show own_Ends _ _ _ _ (T142.setTop (mkF m 122 #[.val (.int p0), .val (.int p1), .val (.int p2), .val (.int p3), .val (.int p4), .val (.int (1 : Int32)), .val (.ref b101), .val (.int (0 : Int32)), .val (.int (1 : Int32)), .unset, .unset, .unset] [(.int (1 : Int32)), (.int p4)]))
      refine own_pre (fun t k => XS.iushr X142.here hx rfl (hb hby at_122) rfl k) ?_
      show own_Ends _ _ _ _ (T142.setTop (mkF m 123 #[.val (.int p0), .val (.int p1), .val (.int p2), .val (.int p3), .val (.int p4), .val (.int (1 : Int32)), .val (.ref b101), .val (.int (0 : Int32)), .val (.int (1 : Int32)), .unset, .unset, .unset] [(.int (own_ushr p4 (1 : Int32)))]))
      refine own_pre (fun t k => XS.iload X142.here hx rfl (hb hby at_123) rfl k) ?_
      show own_Ends _ _ _ _ (T142.setTop (mkF m 125 #[.val (.int p0), .val (.int p1), .val (.int p2), .val (.int p3), .val (.int p4), .val (.int (1 : Int32)), .val (.ref b101), .val (.int (0 : Int32)), .val (.int (1 : Int32)), .unset, .unset, .unset] [(.int (1 : Int32)), (.int (own_ushr p4 (1 : Int32)))]))
      refine own_pre (fun t k => iremM X142 hx rfl (hb hby at_125) rfl (by decide) k) ?_
      show own_Ends _ _ _ _ (T142.setTop (mkF m 126 #[.val (.int p0), .val (.int p1), .val (.int p2), .val (.int p3), .val (.int p4), .val (.int (1 : Int32)), .val (.ref b101), .val (.int (0 : Int32)), .val (.int (1 : Int32)), .unset, .unset, .unset] [(.int ((own_ushr p4 (1 : Int32)) % (1 : Int32)))]))
      refine own_pre (fun t k => XS.istore X142.here hx rfl (hb hby at_126) rfl (l' := #[.val (.int p0), .val (.int p1), .val (.int p2), .val (.int p3), .val (.int p4), .val (.int (1 : Int32)), .val (.ref b101), .val (.int (0 : Int32)), .val (.int (1 : Int32)), .val (.int ((own_ushr p4 (1 : Int32)) % (1 : Int32))), .unset, .unset]) rfl k) ?_
      show own_Ends _ _ _ _ (T142.setTop (mkF m 128 #[.val (.int p0), .val (.int p1), .val (.int p2), .val (.int p3), .val (.int p4), .val (.int (1 : Int32)), .val (.ref b101), .val (.int (0 : Int32)), .val (.int (1 : Int32)), .val (.int ((own_ushr p4 (1 : Int32)) % (1 : Int32))), .unset, .unset] []))
      generalize hx9 : ((own_ushr p4 (1 : Int32)) % (1 : Int32)) = x9
      show own_Ends _ _ _ _ (T142.setTop (mkF m 128 #[.val (.int p0), .val (.int p1), .val (.int p2), .val (.int p3), .val (.int p4), .val (.int (1 : Int32)), .val (.ref b101), .val (.int (0 : Int32)), .val (.int (1 : Int32)), .val (.int x9), .unset, .unset] []))
      rcases own_r1 hx9 with hs146
      subst hs146
      show own_Ends _ _ _ _ (T142.setTop (mkF m 128 #[.val (.int p0), .val (.int p1), .val (.int p2), .val (.int p3), .val (.int p4), .val (.int (1 : Int32)), .val (.ref b101), .val (.int (0 : Int32)), .val (.int (1 : Int32)), .val (.int (0 : Int32)), .unset, .unset] []))
      refine own_pre (fun t k => XS.iload X142.here hx rfl (hb hby at_128) rfl k) ?_
      show own_Ends _ _ _ _ (T142.setTop (mkF m 130 #[.val (.int p0), .val (.int p1), .val (.int p2), .val (.int p3), .val (.int p4), .val (.int (1 : Int32)), .val (.ref b101), .val (.int (0 : Int32)), .val (.int (1 : Int32)), .val (.int (0 : Int32)), .unset, .unset] [(.int (0 : Int32))]))
      refine own_pre (fun t k => XS.ifNo X142.here hx rfl (hb hby at_130) rfl ((if0 _ _).trans (teq ((by decide) : (0 : Int32) = (0 : Int32))).2) k) ?_
      show own_Ends _ _ _ _ (T142.setTop (mkF m 133 #[.val (.int p0), .val (.int p1), .val (.int p2), .val (.int p3), .val (.int p4), .val (.int (1 : Int32)), .val (.ref b101), .val (.int (0 : Int32)), .val (.int (1 : Int32)), .val (.int (0 : Int32)), .unset, .unset] []))
      refine own_pre (fun t k => XS.iload X142.here hx rfl (hb hby at_133) rfl k) ?_
      show own_Ends _ _ _ _ (T142.setTop (mkF m 135 #[.val (.int p0), .val (.int p1), .val (.int p2), .val (.int p3), .val (.int p4), .val (.int (1 : Int32)), .val (.ref b101), .val (.int (0 : Int32)), .val (.int (1 : Int32)), .val (.int (0 : Int32)), .unset, .unset] [(.int (0 : Int32))]))
      refine own_pre (fun t k => XS.goto X142.here hx rfl (pc0 := 135) (pc' := 143) rfl (hb hby at_135) (by decide) (by decide) k) ?_
      show own_Ends _ _ _ _ (T142.setTop (mkF m 143 #[.val (.int p0), .val (.int p1), .val (.int p2), .val (.int p3), .val (.int p4), .val (.int (1 : Int32)), .val (.ref b101), .val (.int (0 : Int32)), .val (.int (1 : Int32)), .val (.int (0 : Int32)), .unset, .unset] [(.int (0 : Int32))]))
      refine own_pre (fun t k => XS.istore X142.here hx rfl (hb hby at_143) rfl (l' := #[.val (.int p0), .val (.int p1), .val (.int p2), .val (.int p3), .val (.int p4), .val (.int (1 : Int32)), .val (.ref b101), .val (.int (0 : Int32)), .val (.int (1 : Int32)), .val (.int (0 : Int32)), .val (.int (0 : Int32)), .unset]) rfl k) ?_
      show own_Ends _ _ _ _ (T142.setTop (mkF m 145 #[.val (.int p0), .val (.int p1), .val (.int p2), .val (.int p3), .val (.int p4), .val (.int (1 : Int32)), .val (.ref b101), .val (.int (0 : Int32)), .val (.int (1 : Int32)), .val (.int (0 : Int32)), .val (.int (0 : Int32)), .unset] []))
      refine own_pre (fun t k => XS.iload X142.here hx rfl (hb hby at_145) rfl k) ?_
      show own_Ends _ _ _ _ (T142.setTop (mkF m 147 #[.val (.int p0), .val (.int p1), .val (.int p2), .val (.int p3), .val (.int p4), .val (.int (1 : Int32)), .val (.ref b101), .val (.int (0 : Int32)), .val (.int (1 : Int32)), .val (.int (0 : Int32)), .val (.int (0 : Int32)), .unset] [(.int (0 : Int32))]))
      refine own_pre (fun t k => XS.ifNo X142.here hx rfl (hb hby at_147) rfl ((if0 _ _).trans (teq ((by decide) : (0 : Int32) = (0 : Int32))).2) k) ?_
      show own_Ends _ _ _ _ (T142.setTop (mkF m 150 #[.val (.int p0), .val (.int p1), .val (.int p2), .val (.int p3), .val (.int p4), .val (.int (1 : Int32)), .val (.ref b101), .val (.int (0 : Int32)), .val (.int (1 : Int32)), .val (.int (0 : Int32)), .val (.int (0 : Int32)), .unset] []))
      refine own_pre (fun t k => XS.iloadN X142.here hx rfl (hb hby at_150) rfl k) ?_
      show own_Ends _ _ _ _ (T142.setTop (mkF m 151 #[.val (.int p0), .val (.int p1), .val (.int p2), .val (.int p3), .val (.int p4), .val (.int (1 : Int32)), .val (.ref b101), .val (.int (0 : Int32)), .val (.int (1 : Int32)), .val (.int (0 : Int32)), .val (.int (0 : Int32)), .unset] [(.int p0)]))
      refine own_pre (fun t k => XS.istore X142.here hx rfl (hb hby at_151) rfl (l' := #[.val (.int p0), .val (.int p1), .val (.int p2), .val (.int p3), .val (.int p4), .val (.int (1 : Int32)), .val (.ref b101), .val (.int (0 : Int32)), .val (.int (1 : Int32)), .val (.int (0 : Int32)), .val (.int (0 : Int32)), .val (.int p0)]) rfl k) ?_
      show own_Ends _ _ _ _ (T142.setTop (mkF m 153 #[.val (.int p0), .val (.int p1), .val (.int p2), .val (.int p3), .val (.int p4), .val (.int (1 : Int32)), .val (.ref b101), .val (.int (0 : Int32)), .val (.int (1 : Int32)), .val (.int (0 : Int32)), .val (.int (0 : Int32)), .val (.int p0)] []))
      refine own_pre (fun t k => XS.goto X142.here hx rfl (pc0 := 153) (pc' := 171) rfl (hb hby at_153) (by decide) (by decide) k) ?_
      show own_Ends _ _ _ _ (T142.setTop (mkF m 171 #[.val (.int p0), .val (.int p1), .val (.int p2), .val (.int p3), .val (.int p4), .val (.int (1 : Int32)), .val (.ref b101), .val (.int (0 : Int32)), .val (.int (1 : Int32)), .val (.int (0 : Int32)), .val (.int (0 : Int32)), .val (.int p0)] []))
      refine own_pre (fun t k => XS.aload X142.here hx rfl (hb hby at_171) rfl rfl k) ?_
      show own_Ends _ _ _ _ (T142.setTop (mkF m 173 #[.val (.int p0), .val (.int p1), .val (.int p2), .val (.int p3), .val (.int p4), .val (.int (1 : Int32)), .val (.ref b101), .val (.int (0 : Int32)), .val (.int (1 : Int32)), .val (.int (0 : Int32)), .val (.int (0 : Int32)), .val (.int p0)] [(.ref b101)]))
      refine own_pre (fun t k => XS.iload X142.here hx rfl (hb hby at_173) rfl k) ?_
      show own_Ends _ _ _ _ (T142.setTop (mkF m 175 #[.val (.int p0), .val (.int p1), .val (.int p2), .val (.int p3), .val (.int p4), .val (.int (1 : Int32)), .val (.ref b101), .val (.int (0 : Int32)), .val (.int (1 : Int32)), .val (.int (0 : Int32)), .val (.int (0 : Int32)), .val (.int p0)] [(.int (0 : Int32)), (.ref b101)]))
      refine own_pre (fun t k => XS.iload X142.here hx rfl (hb hby at_175) rfl k) ?_
      show own_Ends _ _ _ _ (T142.setTop (mkF m 177 #[.val (.int p0), .val (.int p1), .val (.int p2), .val (.int p3), .val (.int p4), .val (.int (1 : Int32)), .val (.ref b101), .val (.int (0 : Int32)), .val (.int (1 : Int32)), .val (.int (0 : Int32)), .val (.int (0 : Int32)), .val (.int p0)] [(.int (0 : Int32)), (.int (0 : Int32)), (.ref b101)]))
      obtain ⟨cq147, kq147, q147a, q147b, q147c⟩ := isOf hZ rfl f143
      obtain ⟨_, _, ⟨T147, L147, k147, n147⟩, -, X147, ⟨Lc147, hQ147, l147, y147, z147⟩, st147⟩ := X142.virtualBack hx (y := (⟨"com/example/mursyn/mursyn/synthesis/SuccessorLists", "get", "(II)I"⟩ : MethodName)) (z := (⟨"com/example/mursyn/mursyn/synthesis/SuccessorLists", "get", "(II)I"⟩ : MethodName)) hown (mvT hZ (hw _ (List.mem_of_getElem? (i := 28) rfl))) (mvT hZ (hw _ (List.mem_of_getElem? (i := 29) rfl))) (notFace_of_selects (args := #[]) (mvT hZ (hw _ (List.mem_of_getElem? (i := 31) rfl)))) (mvT hZ (hw _ (List.mem_of_getElem? (i := 31) rfl))) (mvT hZ (hw _ (List.mem_of_getElem? (i := 30) rfl))) (by decide) (backOf (W := 0) (rm4 l Z a0 hw [] b101 (0 : Int32) (0 : Int32) bf108 bt108 kf108 kt108 [(.int (0 : Int32)), (.int (1 : Int32)), (.int (3 : Int32)), (.int (0 : Int32)), (.int (0 : Int32)), (.int (0 : Int32)), (.int (0 : Int32)), (.int (0 : Int32)), (.int (0 : Int32)), (.int (0 : Int32)), (.int (0 : Int32)), (.int (0 : Int32)), (.int (0 : Int32)), (.int (0 : Int32)), (.int (0 : Int32)), (.int (0 : Int32)), (.int (0 : Int32))] [(.int p0), (.int p1), (.int p2), (.int (0 : Int32)), (.int (0 : Int32)), (.int (0 : Int32)), (.int (0 : Int32)), (.int (0 : Int32)), (.int (0 : Int32)), (.int (0 : Int32)), (.int (0 : Int32)), (.int (0 : Int32)), (.int (0 : Int32)), (.int (0 : Int32)), (.int (0 : Int32)), (.int (0 : Int32))] (0 : Int32) p0 T142.heap n0 Zn142 fa142 fb142 vv142 f144 ⟨by decide, by decide⟩ rfl ⟨by decide, by decide⟩ rfl) hZ (hw _ (List.mem_of_getElem? (i := 32) rfl)) (hw _ (List.mem_of_getElem? (i := 2) rfl)) (by decide) (by decide)) q147a q147c (g := (mkF m 177 #[.val (.int p0), .val (.int p1), .val (.int p2), .val (.int p3), .val (.int p4), .val (.int (1 : Int32)), .val (.ref b101), .val (.int (0 : Int32)), .val (.int (1 : Int32)), .val (.int (0 : Int32)), .val (.int (0 : Int32)), .val (.int p0)] [(.int (0 : Int32)), (.int (0 : Int32)), (.ref b101)])) rfl (by rw [hml]; rfl) (Steps.refl _) (argsL := [(.int (0 : Int32)), (.int (0 : Int32))]) (rest := []) (lenOf own_pd2 rfl) rfl (by show 2 * 0 + _ ≤ _; exact Nat.le_of_eq rfl) (hb hby at_177) (fun _ _ => ⟨rfl, rfl, (by decide : 3 + 0 ≤ _), (by decide : 37 + 0 ≤ _)⟩)
      dsimp only [Pt.U, Pt.locs, Pt.cells, Pt.slots] at X147 l147 y147 z147 st147 hQ147
      subst l147 y147 z147
      obtain ⟨rfl, Nq147, e147⟩ := hQ147
      have N147 := Fr.app N142 Nq147
      refine own_pre (fun t k => st147.trans k) ?_
      show own_Ends _ _ _ _ (T147.setTop (mkF m 180 #[.val (.int p0), .val (.int p1), .val (.int p2), .val (.int p3), .val (.int p4), .val (.int (1 : Int32)), .val (.ref b101), .val (.int (0 : Int32)), .val (.int (1 : Int32)), .val (.int (0 : Int32)), .val (.int (0 : Int32)), .val (.int p0)] [(.int p0)]))
      refine own_pre (fun t k => XS.iload X147.here hx rfl (hb hby at_180) rfl k) ?_
      show own_Ends _ _ _ _ (T147.setTop (mkF m 182 #[.val (.int p0), .val (.int p1), .val (.int p2), .val (.int p3), .val (.int p4), .val (.int (1 : Int32)), .val (.ref b101), .val (.int (0 : Int32)), .val (.int (1 : Int32)), .val (.int (0 : Int32)), .val (.int (0 : Int32)), .val (.int p0)] [(.int p0), (.int p0)]))
      refine own_pre (fun t k => XS.icmpNo X147.here hx rfl (hb hby at_182) rfl (teq (rfl : p0 = p0)).2 k) ?_
      show own_Ends _ _ _ _ (T147.setTop (mkF m 185 #[.val (.int p0), .val (.int p1), .val (.int p2), .val (.int p3), .val (.int p4), .val (.int (1 : Int32)), .val (.ref b101), .val (.int (0 : Int32)), .val (.int (1 : Int32)), .val (.int (0 : Int32)), .val (.int (0 : Int32)), .val (.int p0)] []))
      refine own_pre (fun t k => XS.iconst X147.here hx rfl (hb hby at_185) k) ?_
      show own_Ends _ _ _ _ (T147.setTop (mkF m 186 #[.val (.int p0), .val (.int p1), .val (.int p2), .val (.int p3), .val (.int p4), .val (.int (1 : Int32)), .val (.ref b101), .val (.int (0 : Int32)), .val (.int (1 : Int32)), .val (.int (0 : Int32)), .val (.int (0 : Int32)), .val (.int p0)] [(.int (1 : Int32))]))
      refine own_pre (fun t k => XS.goto X147.here hx rfl (pc0 := 186) (pc' := 190) rfl (hb hby at_186) (by decide) (by decide) k) ?_
      show own_Ends _ _ _ _ (T147.setTop (mkF m 190 #[.val (.int p0), .val (.int p1), .val (.int p2), .val (.int p3), .val (.int p4), .val (.int (1 : Int32)), .val (.ref b101), .val (.int (0 : Int32)), .val (.int (1 : Int32)), .val (.int (0 : Int32)), .val (.int (0 : Int32)), .val (.int p0)] [(.int (1 : Int32))]))
      exact own_retN X147 hx (t := .boolean) Bd.returns (by simp) (hb hby at_190) hlk rfl e147 ⟨rfl, N147⟩ (by decide) (by decide)
    · subst hs145
      show own_Ends _ _ _ _ (T142.setTop (mkF m 103 #[.val (.int p0), .val (.int p1), .val (.int p2), .val (.int p3), .val (.int p4), .val (.int (1 : Int32)), .val (.ref b101), .val (.int (1 : Int32)), .unset, .unset, .unset, .unset] []))
      refine own_pre (fun t k => XS.iload X142.here hx rfl (hb hby at_103) rfl k) ?_
      show own_Ends _ _ _ _ (T142.setTop (mkF m 105 #[.val (.int p0), .val (.int p1), .val (.int p2), .val (.int p3), .val (.int p4), .val (.int (1 : Int32)), .val (.ref b101), .val (.int (1 : Int32)), .unset, .unset, .unset, .unset] [(.int (1 : Int32))]))
      refine own_pre (fun t k => XS.ifYes X142.here hx rfl (pc0 := 105) (pc' := 113) rfl (hb hby at_105) rfl ((if0 _ _).trans (feq ((by decide) : ¬ ((1 : Int32) = (0 : Int32)))).2) (by decide) (by decide) k) ?_
      show own_Ends _ _ _ _ (T142.setTop (mkF m 113 #[.val (.int p0), .val (.int p1), .val (.int p2), .val (.int p3), .val (.int p4), .val (.int (1 : Int32)), .val (.ref b101), .val (.int (1 : Int32)), .unset, .unset, .unset, .unset] []))
      refine own_pre (fun t k => XS.iconst X142.here hx rfl (hb hby at_113) k) ?_
      show own_Ends _ _ _ _ (T142.setTop (mkF m 114 #[.val (.int p0), .val (.int p1), .val (.int p2), .val (.int p3), .val (.int p4), .val (.int (1 : Int32)), .val (.ref b101), .val (.int (1 : Int32)), .unset, .unset, .unset, .unset] [(.int (3 : Int32))]))
      refine own_pre (fun t k => XS.iload X142.here hx rfl (hb hby at_114) rfl k) ?_
      show own_Ends _ _ _ _ (T142.setTop (mkF m 116 #[.val (.int p0), .val (.int p1), .val (.int p2), .val (.int p3), .val (.int p4), .val (.int (1 : Int32)), .val (.ref b101), .val (.int (1 : Int32)), .unset, .unset, .unset, .unset] [(.int (1 : Int32)), (.int (3 : Int32))]))
      refine own_pre (fun t k => XS.isub X142.here hx rfl (hb hby at_116) rfl k) ?_
      show own_Ends _ _ _ _ (T142.setTop (mkF m 117 #[.val (.int p0), .val (.int p1), .val (.int p2), .val (.int p3), .val (.int p4), .val (.int (1 : Int32)), .val (.ref b101), .val (.int (1 : Int32)), .unset, .unset, .unset, .unset] [(.int (2 : Int32))]))
      refine own_pre (fun t k => XS.istore X142.here hx rfl (hb hby at_117) rfl (l' := #[.val (.int p0), .val (.int p1), .val (.int p2), .val (.int p3), .val (.int p4), .val (.int (1 : Int32)), .val (.ref b101), .val (.int (1 : Int32)), .val (.int (2 : Int32)), .unset, .unset, .unset]) rfl k) ?_
      show own_Ends _ _ _ _ (T142.setTop (mkF m 119 #[.val (.int p0), .val (.int p1), .val (.int p2), .val (.int p3), .val (.int p4), .val (.int (1 : Int32)), .val (.ref b101), .val (.int (1 : Int32)), .val (.int (2 : Int32)), .unset, .unset, .unset] []))
      refine own_pre (fun t k => XS.iload X142.here hx rfl (hb hby at_119) rfl k) ?_
      show own_Ends _ _ _ _ (T142.setTop (mkF m 121 #[.val (.int p0), .val (.int p1), .val (.int p2), .val (.int p3), .val (.int p4), .val (.int (1 : Int32)), .val (.ref b101), .val (.int (1 : Int32)), .val (.int (2 : Int32)), .unset, .unset, .unset] [(.int p4)]))
      refine own_pre (fun t k => XS.iconst X142.here hx rfl (hb hby at_121) k) ?_
      show own_Ends _ _ _ _ (T142.setTop (mkF m 122 #[.val (.int p0), .val (.int p1), .val (.int p2), .val (.int p3), .val (.int p4), .val (.int (1 : Int32)), .val (.ref b101), .val (.int (1 : Int32)), .val (.int (2 : Int32)), .unset, .unset, .unset] [(.int (1 : Int32)), (.int p4)]))
      refine own_pre (fun t k => XS.iushr X142.here hx rfl (hb hby at_122) rfl k) ?_
      show own_Ends _ _ _ _ (T142.setTop (mkF m 123 #[.val (.int p0), .val (.int p1), .val (.int p2), .val (.int p3), .val (.int p4), .val (.int (1 : Int32)), .val (.ref b101), .val (.int (1 : Int32)), .val (.int (2 : Int32)), .unset, .unset, .unset] [(.int (own_ushr p4 (1 : Int32)))]))
      refine own_pre (fun t k => XS.iload X142.here hx rfl (hb hby at_123) rfl k) ?_
      show own_Ends _ _ _ _ (T142.setTop (mkF m 125 #[.val (.int p0), .val (.int p1), .val (.int p2), .val (.int p3), .val (.int p4), .val (.int (1 : Int32)), .val (.ref b101), .val (.int (1 : Int32)), .val (.int (2 : Int32)), .unset, .unset, .unset] [(.int (2 : Int32)), (.int (own_ushr p4 (1 : Int32)))]))
      refine own_pre (fun t k => iremM X142 hx rfl (hb hby at_125) rfl (by decide) k) ?_
      show own_Ends _ _ _ _ (T142.setTop (mkF m 126 #[.val (.int p0), .val (.int p1), .val (.int p2), .val (.int p3), .val (.int p4), .val (.int (1 : Int32)), .val (.ref b101), .val (.int (1 : Int32)), .val (.int (2 : Int32)), .unset, .unset, .unset] [(.int ((own_ushr p4 (1 : Int32)) % (2 : Int32)))]))
      refine own_pre (fun t k => XS.istore X142.here hx rfl (hb hby at_126) rfl (l' := #[.val (.int p0), .val (.int p1), .val (.int p2), .val (.int p3), .val (.int p4), .val (.int (1 : Int32)), .val (.ref b101), .val (.int (1 : Int32)), .val (.int (2 : Int32)), .val (.int ((own_ushr p4 (1 : Int32)) % (2 : Int32))), .unset, .unset]) rfl k) ?_
      show own_Ends _ _ _ _ (T142.setTop (mkF m 128 #[.val (.int p0), .val (.int p1), .val (.int p2), .val (.int p3), .val (.int p4), .val (.int (1 : Int32)), .val (.ref b101), .val (.int (1 : Int32)), .val (.int (2 : Int32)), .val (.int ((own_ushr p4 (1 : Int32)) % (2 : Int32))), .unset, .unset] []))
      generalize hx9 : ((own_ushr p4 (1 : Int32)) % (2 : Int32)) = x9
      show own_Ends _ _ _ _ (T142.setTop (mkF m 128 #[.val (.int p0), .val (.int p1), .val (.int p2), .val (.int p3), .val (.int p4), .val (.int (1 : Int32)), .val (.ref b101), .val (.int (1 : Int32)), .val (.int (2 : Int32)), .val (.int x9), .unset, .unset] []))
      rcases own_r2 hx9 with hs148 | hs148
      · subst hs148
        show own_Ends _ _ _ _ (T142.setTop (mkF m 128 #[.val (.int p0), .val (.int p1), .val (.int p2), .val (.int p3), .val (.int p4), .val (.int (1 : Int32)), .val (.ref b101), .val (.int (1 : Int32)), .val (.int (2 : Int32)), .val (.int (0 : Int32)), .unset, .unset] []))
        refine own_pre (fun t k => XS.iload X142.here hx rfl (hb hby at_128) rfl k) ?_
        show own_Ends _ _ _ _ (T142.setTop (mkF m 130 #[.val (.int p0), .val (.int p1), .val (.int p2), .val (.int p3), .val (.int p4), .val (.int (1 : Int32)), .val (.ref b101), .val (.int (1 : Int32)), .val (.int (2 : Int32)), .val (.int (0 : Int32)), .unset, .unset] [(.int (1 : Int32))]))
        refine own_pre (fun t k => XS.ifYes X142.here hx rfl (pc0 := 130) (pc' := 138) rfl (hb hby at_130) rfl ((if0 _ _).trans (feq ((by decide) : ¬ ((1 : Int32) = (0 : Int32)))).2) (by decide) (by decide) k) ?_
        show own_Ends _ _ _ _ (T142.setTop (mkF m 138 #[.val (.int p0), .val (.int p1), .val (.int p2), .val (.int p3), .val (.int p4), .val (.int (1 : Int32)), .val (.ref b101), .val (.int (1 : Int32)), .val (.int (2 : Int32)), .val (.int (0 : Int32)), .unset, .unset] []))
        refine own_pre (fun t k => XS.iload X142.here hx rfl (hb hby at_138) rfl k) ?_
        show own_Ends _ _ _ _ (T142.setTop (mkF m 140 #[.val (.int p0), .val (.int p1), .val (.int p2), .val (.int p3), .val (.int p4), .val (.int (1 : Int32)), .val (.ref b101), .val (.int (1 : Int32)), .val (.int (2 : Int32)), .val (.int (0 : Int32)), .unset, .unset] [(.int (1 : Int32))]))
        refine own_pre (fun t k => XS.iload X142.here hx rfl (hb hby at_140) rfl k) ?_
        show own_Ends _ _ _ _ (T142.setTop (mkF m 142 #[.val (.int p0), .val (.int p1), .val (.int p2), .val (.int p3), .val (.int p4), .val (.int (1 : Int32)), .val (.ref b101), .val (.int (1 : Int32)), .val (.int (2 : Int32)), .val (.int (0 : Int32)), .unset, .unset] [(.int (0 : Int32)), (.int (1 : Int32))]))
        refine own_pre (fun t k => XS.iadd X142.here hx rfl (hb hby at_142) rfl k) ?_
        show own_Ends _ _ _ _ (T142.setTop (mkF m 143 #[.val (.int p0), .val (.int p1), .val (.int p2), .val (.int p3), .val (.int p4), .val (.int (1 : Int32)), .val (.ref b101), .val (.int (1 : Int32)), .val (.int (2 : Int32)), .val (.int (0 : Int32)), .unset, .unset] [(.int (1 : Int32))]))
        refine own_pre (fun t k => XS.istore X142.here hx rfl (hb hby at_143) rfl (l' := #[.val (.int p0), .val (.int p1), .val (.int p2), .val (.int p3), .val (.int p4), .val (.int (1 : Int32)), .val (.ref b101), .val (.int (1 : Int32)), .val (.int (2 : Int32)), .val (.int (0 : Int32)), .val (.int (1 : Int32)), .unset]) rfl k) ?_
        show own_Ends _ _ _ _ (T142.setTop (mkF m 145 #[.val (.int p0), .val (.int p1), .val (.int p2), .val (.int p3), .val (.int p4), .val (.int (1 : Int32)), .val (.ref b101), .val (.int (1 : Int32)), .val (.int (2 : Int32)), .val (.int (0 : Int32)), .val (.int (1 : Int32)), .unset] []))
        refine own_pre (fun t k => XS.iload X142.here hx rfl (hb hby at_145) rfl k) ?_
        show own_Ends _ _ _ _ (T142.setTop (mkF m 147 #[.val (.int p0), .val (.int p1), .val (.int p2), .val (.int p3), .val (.int p4), .val (.int (1 : Int32)), .val (.ref b101), .val (.int (1 : Int32)), .val (.int (2 : Int32)), .val (.int (0 : Int32)), .val (.int (1 : Int32)), .unset] [(.int (1 : Int32))]))
        refine own_pre (fun t k => XS.ifYes X142.here hx rfl (pc0 := 147) (pc' := 156) rfl (hb hby at_147) rfl ((if0 _ _).trans (feq ((by decide) : ¬ ((1 : Int32) = (0 : Int32)))).2) (by decide) (by decide) k) ?_
        show own_Ends _ _ _ _ (T142.setTop (mkF m 156 #[.val (.int p0), .val (.int p1), .val (.int p2), .val (.int p3), .val (.int p4), .val (.int (1 : Int32)), .val (.ref b101), .val (.int (1 : Int32)), .val (.int (2 : Int32)), .val (.int (0 : Int32)), .val (.int (1 : Int32)), .unset] []))
        refine own_pre (fun t k => XS.iload X142.here hx rfl (hb hby at_156) rfl k) ?_
        show own_Ends _ _ _ _ (T142.setTop (mkF m 158 #[.val (.int p0), .val (.int p1), .val (.int p2), .val (.int p3), .val (.int p4), .val (.int (1 : Int32)), .val (.ref b101), .val (.int (1 : Int32)), .val (.int (2 : Int32)), .val (.int (0 : Int32)), .val (.int (1 : Int32)), .unset] [(.int (1 : Int32))]))
        refine own_pre (fun t k => XS.iconst X142.here hx rfl (hb hby at_158) k) ?_
        show own_Ends _ _ _ _ (T142.setTop (mkF m 159 #[.val (.int p0), .val (.int p1), .val (.int p2), .val (.int p3), .val (.int p4), .val (.int (1 : Int32)), .val (.ref b101), .val (.int (1 : Int32)), .val (.int (2 : Int32)), .val (.int (0 : Int32)), .val (.int (1 : Int32)), .unset] [(.int (1 : Int32)), (.int (1 : Int32))]))
        refine own_pre (fun t k => XS.icmpNo X142.here hx rfl (hb hby at_159) rfl (teq ((by decide) : (1 : Int32) = (1 : Int32))).2 k) ?_
        show own_Ends _ _ _ _ (T142.setTop (mkF m 162 #[.val (.int p0), .val (.int p1), .val (.int p2), .val (.int p3), .val (.int p4), .val (.int (1 : Int32)), .val (.ref b101), .val (.int (1 : Int32)), .val (.int (2 : Int32)), .val (.int (0 : Int32)), .val (.int (1 : Int32)), .unset] []))
        refine own_pre (fun t k => XS.iloadN X142.here hx rfl (hb hby at_162) rfl k) ?_
        show own_Ends _ _ _ _ (T142.setTop (mkF m 163 #[.val (.int p0), .val (.int p1), .val (.int p2), .val (.int p3), .val (.int p4), .val (.int (1 : Int32)), .val (.ref b101), .val (.int (1 : Int32)), .val (.int (2 : Int32)), .val (.int (0 : Int32)), .val (.int (1 : Int32)), .unset] [(.int p1)]))
        refine own_pre (fun t k => XS.istore X142.here hx rfl (hb hby at_163) rfl (l' := #[.val (.int p0), .val (.int p1), .val (.int p2), .val (.int p3), .val (.int p4), .val (.int (1 : Int32)), .val (.ref b101), .val (.int (1 : Int32)), .val (.int (2 : Int32)), .val (.int (0 : Int32)), .val (.int (1 : Int32)), .val (.int p1)]) rfl k) ?_
        show own_Ends _ _ _ _ (T142.setTop (mkF m 165 #[.val (.int p0), .val (.int p1), .val (.int p2), .val (.int p3), .val (.int p4), .val (.int (1 : Int32)), .val (.ref b101), .val (.int (1 : Int32)), .val (.int (2 : Int32)), .val (.int (0 : Int32)), .val (.int (1 : Int32)), .val (.int p1)] []))
        refine own_pre (fun t k => XS.goto X142.here hx rfl (pc0 := 165) (pc' := 171) rfl (hb hby at_165) (by decide) (by decide) k) ?_
        show own_Ends _ _ _ _ (T142.setTop (mkF m 171 #[.val (.int p0), .val (.int p1), .val (.int p2), .val (.int p3), .val (.int p4), .val (.int (1 : Int32)), .val (.ref b101), .val (.int (1 : Int32)), .val (.int (2 : Int32)), .val (.int (0 : Int32)), .val (.int (1 : Int32)), .val (.int p1)] []))
        refine own_pre (fun t k => XS.aload X142.here hx rfl (hb hby at_171) rfl rfl k) ?_
        show own_Ends _ _ _ _ (T142.setTop (mkF m 173 #[.val (.int p0), .val (.int p1), .val (.int p2), .val (.int p3), .val (.int p4), .val (.int (1 : Int32)), .val (.ref b101), .val (.int (1 : Int32)), .val (.int (2 : Int32)), .val (.int (0 : Int32)), .val (.int (1 : Int32)), .val (.int p1)] [(.ref b101)]))
        refine own_pre (fun t k => XS.iload X142.here hx rfl (hb hby at_173) rfl k) ?_
        show own_Ends _ _ _ _ (T142.setTop (mkF m 175 #[.val (.int p0), .val (.int p1), .val (.int p2), .val (.int p3), .val (.int p4), .val (.int (1 : Int32)), .val (.ref b101), .val (.int (1 : Int32)), .val (.int (2 : Int32)), .val (.int (0 : Int32)), .val (.int (1 : Int32)), .val (.int p1)] [(.int (1 : Int32)), (.ref b101)]))
        refine own_pre (fun t k => XS.iload X142.here hx rfl (hb hby at_175) rfl k) ?_
        show own_Ends _ _ _ _ (T142.setTop (mkF m 177 #[.val (.int p0), .val (.int p1), .val (.int p2), .val (.int p3), .val (.int p4), .val (.int (1 : Int32)), .val (.ref b101), .val (.int (1 : Int32)), .val (.int (2 : Int32)), .val (.int (0 : Int32)), .val (.int (1 : Int32)), .val (.int p1)] [(.int (0 : Int32)), (.int (1 : Int32)), (.ref b101)]))
        obtain ⟨cq149, kq149, q149a, q149b, q149c⟩ := isOf hZ rfl f143
        obtain ⟨_, _, ⟨T149, L149, k149, n149⟩, -, X149, ⟨Lc149, hQ149, l149, y149, z149⟩, st149⟩ := X142.virtualBack hx (y := (⟨"com/example/mursyn/mursyn/synthesis/SuccessorLists", "get", "(II)I"⟩ : MethodName)) (z := (⟨"com/example/mursyn/mursyn/synthesis/SuccessorLists", "get", "(II)I"⟩ : MethodName)) hown (mvT hZ (hw _ (List.mem_of_getElem? (i := 28) rfl))) (mvT hZ (hw _ (List.mem_of_getElem? (i := 29) rfl))) (notFace_of_selects (args := #[]) (mvT hZ (hw _ (List.mem_of_getElem? (i := 31) rfl)))) (mvT hZ (hw _ (List.mem_of_getElem? (i := 31) rfl))) (mvT hZ (hw _ (List.mem_of_getElem? (i := 30) rfl))) (by decide) (backOf (W := 0) (rm4 l Z a0 hw [] b101 (1 : Int32) (0 : Int32) bf108 bt108 kf108 kt108 [(.int (0 : Int32)), (.int (1 : Int32)), (.int (3 : Int32)), (.int (0 : Int32)), (.int (0 : Int32)), (.int (0 : Int32)), (.int (0 : Int32)), (.int (0 : Int32)), (.int (0 : Int32)), (.int (0 : Int32)), (.int (0 : Int32)), (.int (0 : Int32)), (.int (0 : Int32)), (.int (0 : Int32)), (.int (0 : Int32)), (.int (0 : Int32)), (.int (0 : Int32))] [(.int p0), (.int p1), (.int p2), (.int (0 : Int32)), (.int (0 : Int32)), (.int (0 : Int32)), (.int (0 : Int32)), (.int (0 : Int32)), (.int (0 : Int32)), (.int (0 : Int32)), (.int (0 : Int32)), (.int (0 : Int32)), (.int (0 : Int32)), (.int (0 : Int32)), (.int (0 : Int32)), (.int (0 : Int32))] (1 : Int32) p1 T142.heap n0 Zn142 fa142 fb142 vv142 f144 ⟨by decide, by decide⟩ rfl ⟨by decide, by decide⟩ rfl) hZ (hw _ (List.mem_of_getElem? (i := 32) rfl)) (hw _ (List.mem_of_getElem? (i := 2) rfl)) (by decide) (by decide)) q149a q149c (g := (mkF m 177 #[.val (.int p0), .val (.int p1), .val (.int p2), .val (.int p3), .val (.int p4), .val (.int (1 : Int32)), .val (.ref b101), .val (.int (1 : Int32)), .val (.int (2 : Int32)), .val (.int (0 : Int32)), .val (.int (1 : Int32)), .val (.int p1)] [(.int (0 : Int32)), (.int (1 : Int32)), (.ref b101)])) rfl (by rw [hml]; rfl) (Steps.refl _) (argsL := [(.int (1 : Int32)), (.int (0 : Int32))]) (rest := []) (lenOf own_pd2 rfl) rfl (by show 2 * 0 + _ ≤ _; exact Nat.le_of_eq rfl) (hb hby at_177) (fun _ _ => ⟨rfl, rfl, (by decide : 3 + 0 ≤ _), (by decide : 37 + 0 ≤ _)⟩)
        dsimp only [Pt.U, Pt.locs, Pt.cells, Pt.slots] at X149 l149 y149 z149 st149 hQ149
        subst l149 y149 z149
        obtain ⟨rfl, Nq149, e149⟩ := hQ149
        have N149 := Fr.app N142 Nq149
        refine own_pre (fun t k => st149.trans k) ?_
        show own_Ends _ _ _ _ (T149.setTop (mkF m 180 #[.val (.int p0), .val (.int p1), .val (.int p2), .val (.int p3), .val (.int p4), .val (.int (1 : Int32)), .val (.ref b101), .val (.int (1 : Int32)), .val (.int (2 : Int32)), .val (.int (0 : Int32)), .val (.int (1 : Int32)), .val (.int p1)] [(.int p1)]))
        refine own_pre (fun t k => XS.iload X149.here hx rfl (hb hby at_180) rfl k) ?_
        show own_Ends _ _ _ _ (T149.setTop (mkF m 182 #[.val (.int p0), .val (.int p1), .val (.int p2), .val (.int p3), .val (.int p4), .val (.int (1 : Int32)), .val (.ref b101), .val (.int (1 : Int32)), .val (.int (2 : Int32)), .val (.int (0 : Int32)), .val (.int (1 : Int32)), .val (.int p1)] [(.int p1), (.int p1)]))
        refine own_pre (fun t k => XS.icmpNo X149.here hx rfl (hb hby at_182) rfl (teq (rfl : p1 = p1)).2 k) ?_
        show own_Ends _ _ _ _ (T149.setTop (mkF m 185 #[.val (.int p0), .val (.int p1), .val (.int p2), .val (.int p3), .val (.int p4), .val (.int (1 : Int32)), .val (.ref b101), .val (.int (1 : Int32)), .val (.int (2 : Int32)), .val (.int (0 : Int32)), .val (.int (1 : Int32)), .val (.int p1)] []))
        refine own_pre (fun t k => XS.iconst X149.here hx rfl (hb hby at_185) k) ?_
        show own_Ends _ _ _ _ (T149.setTop (mkF m 186 #[.val (.int p0), .val (.int p1), .val (.int p2), .val (.int p3), .val (.int p4), .val (.int (1 : Int32)), .val (.ref b101), .val (.int (1 : Int32)), .val (.int (2 : Int32)), .val (.int (0 : Int32)), .val (.int (1 : Int32)), .val (.int p1)] [(.int (1 : Int32))]))
        refine own_pre (fun t k => XS.goto X149.here hx rfl (pc0 := 186) (pc' := 190) rfl (hb hby at_186) (by decide) (by decide) k) ?_
        show own_Ends _ _ _ _ (T149.setTop (mkF m 190 #[.val (.int p0), .val (.int p1), .val (.int p2), .val (.int p3), .val (.int p4), .val (.int (1 : Int32)), .val (.ref b101), .val (.int (1 : Int32)), .val (.int (2 : Int32)), .val (.int (0 : Int32)), .val (.int (1 : Int32)), .val (.int p1)] [(.int (1 : Int32))]))
        exact own_retN X149 hx (t := .boolean) Bd.returns (by simp) (hb hby at_190) hlk rfl e149 ⟨rfl, N149⟩ (by decide) (by decide)
      · subst hs148
        show own_Ends _ _ _ _ (T142.setTop (mkF m 128 #[.val (.int p0), .val (.int p1), .val (.int p2), .val (.int p3), .val (.int p4), .val (.int (1 : Int32)), .val (.ref b101), .val (.int (1 : Int32)), .val (.int (2 : Int32)), .val (.int (1 : Int32)), .unset, .unset] []))
        refine own_pre (fun t k => XS.iload X142.here hx rfl (hb hby at_128) rfl k) ?_
        show own_Ends _ _ _ _ (T142.setTop (mkF m 130 #[.val (.int p0), .val (.int p1), .val (.int p2), .val (.int p3), .val (.int p4), .val (.int (1 : Int32)), .val (.ref b101), .val (.int (1 : Int32)), .val (.int (2 : Int32)), .val (.int (1 : Int32)), .unset, .unset] [(.int (1 : Int32))]))
        refine own_pre (fun t k => XS.ifYes X142.here hx rfl (pc0 := 130) (pc' := 138) rfl (hb hby at_130) rfl ((if0 _ _).trans (feq ((by decide) : ¬ ((1 : Int32) = (0 : Int32)))).2) (by decide) (by decide) k) ?_
        show own_Ends _ _ _ _ (T142.setTop (mkF m 138 #[.val (.int p0), .val (.int p1), .val (.int p2), .val (.int p3), .val (.int p4), .val (.int (1 : Int32)), .val (.ref b101), .val (.int (1 : Int32)), .val (.int (2 : Int32)), .val (.int (1 : Int32)), .unset, .unset] []))
        refine own_pre (fun t k => XS.iload X142.here hx rfl (hb hby at_138) rfl k) ?_
        show own_Ends _ _ _ _ (T142.setTop (mkF m 140 #[.val (.int p0), .val (.int p1), .val (.int p2), .val (.int p3), .val (.int p4), .val (.int (1 : Int32)), .val (.ref b101), .val (.int (1 : Int32)), .val (.int (2 : Int32)), .val (.int (1 : Int32)), .unset, .unset] [(.int (1 : Int32))]))
        refine own_pre (fun t k => XS.iload X142.here hx rfl (hb hby at_140) rfl k) ?_
        show own_Ends _ _ _ _ (T142.setTop (mkF m 142 #[.val (.int p0), .val (.int p1), .val (.int p2), .val (.int p3), .val (.int p4), .val (.int (1 : Int32)), .val (.ref b101), .val (.int (1 : Int32)), .val (.int (2 : Int32)), .val (.int (1 : Int32)), .unset, .unset] [(.int (1 : Int32)), (.int (1 : Int32))]))
        refine own_pre (fun t k => XS.iadd X142.here hx rfl (hb hby at_142) rfl k) ?_
        show own_Ends _ _ _ _ (T142.setTop (mkF m 143 #[.val (.int p0), .val (.int p1), .val (.int p2), .val (.int p3), .val (.int p4), .val (.int (1 : Int32)), .val (.ref b101), .val (.int (1 : Int32)), .val (.int (2 : Int32)), .val (.int (1 : Int32)), .unset, .unset] [(.int (2 : Int32))]))
        refine own_pre (fun t k => XS.istore X142.here hx rfl (hb hby at_143) rfl (l' := #[.val (.int p0), .val (.int p1), .val (.int p2), .val (.int p3), .val (.int p4), .val (.int (1 : Int32)), .val (.ref b101), .val (.int (1 : Int32)), .val (.int (2 : Int32)), .val (.int (1 : Int32)), .val (.int (2 : Int32)), .unset]) rfl k) ?_
        show own_Ends _ _ _ _ (T142.setTop (mkF m 145 #[.val (.int p0), .val (.int p1), .val (.int p2), .val (.int p3), .val (.int p4), .val (.int (1 : Int32)), .val (.ref b101), .val (.int (1 : Int32)), .val (.int (2 : Int32)), .val (.int (1 : Int32)), .val (.int (2 : Int32)), .unset] []))
        refine own_pre (fun t k => XS.iload X142.here hx rfl (hb hby at_145) rfl k) ?_
        show own_Ends _ _ _ _ (T142.setTop (mkF m 147 #[.val (.int p0), .val (.int p1), .val (.int p2), .val (.int p3), .val (.int p4), .val (.int (1 : Int32)), .val (.ref b101), .val (.int (1 : Int32)), .val (.int (2 : Int32)), .val (.int (1 : Int32)), .val (.int (2 : Int32)), .unset] [(.int (2 : Int32))]))
        refine own_pre (fun t k => XS.ifYes X142.here hx rfl (pc0 := 147) (pc' := 156) rfl (hb hby at_147) rfl ((if0 _ _).trans (feq ((by decide) : ¬ ((2 : Int32) = (0 : Int32)))).2) (by decide) (by decide) k) ?_
        show own_Ends _ _ _ _ (T142.setTop (mkF m 156 #[.val (.int p0), .val (.int p1), .val (.int p2), .val (.int p3), .val (.int p4), .val (.int (1 : Int32)), .val (.ref b101), .val (.int (1 : Int32)), .val (.int (2 : Int32)), .val (.int (1 : Int32)), .val (.int (2 : Int32)), .unset] []))
        refine own_pre (fun t k => XS.iload X142.here hx rfl (hb hby at_156) rfl k) ?_
        show own_Ends _ _ _ _ (T142.setTop (mkF m 158 #[.val (.int p0), .val (.int p1), .val (.int p2), .val (.int p3), .val (.int p4), .val (.int (1 : Int32)), .val (.ref b101), .val (.int (1 : Int32)), .val (.int (2 : Int32)), .val (.int (1 : Int32)), .val (.int (2 : Int32)), .unset] [(.int (2 : Int32))]))
        refine own_pre (fun t k => XS.iconst X142.here hx rfl (hb hby at_158) k) ?_
        show own_Ends _ _ _ _ (T142.setTop (mkF m 159 #[.val (.int p0), .val (.int p1), .val (.int p2), .val (.int p3), .val (.int p4), .val (.int (1 : Int32)), .val (.ref b101), .val (.int (1 : Int32)), .val (.int (2 : Int32)), .val (.int (1 : Int32)), .val (.int (2 : Int32)), .unset] [(.int (1 : Int32)), (.int (2 : Int32))]))
        refine own_pre (fun t k => XS.icmpYes X142.here hx rfl (pc0 := 159) (pc' := 168) rfl (hb hby at_159) rfl (feq ((by decide) : ¬ ((2 : Int32) = (1 : Int32)))).2 (by decide) (by decide) k) ?_
        show own_Ends _ _ _ _ (T142.setTop (mkF m 168 #[.val (.int p0), .val (.int p1), .val (.int p2), .val (.int p3), .val (.int p4), .val (.int (1 : Int32)), .val (.ref b101), .val (.int (1 : Int32)), .val (.int (2 : Int32)), .val (.int (1 : Int32)), .val (.int (2 : Int32)), .unset] []))
        refine own_pre (fun t k => XS.iloadN X142.here hx rfl (hb hby at_168) rfl k) ?_
        show own_Ends _ _ _ _ (T142.setTop (mkF m 169 #[.val (.int p0), .val (.int p1), .val (.int p2), .val (.int p3), .val (.int p4), .val (.int (1 : Int32)), .val (.ref b101), .val (.int (1 : Int32)), .val (.int (2 : Int32)), .val (.int (1 : Int32)), .val (.int (2 : Int32)), .unset] [(.int p2)]))
        refine own_pre (fun t k => XS.istore X142.here hx rfl (hb hby at_169) rfl (l' := #[.val (.int p0), .val (.int p1), .val (.int p2), .val (.int p3), .val (.int p4), .val (.int (1 : Int32)), .val (.ref b101), .val (.int (1 : Int32)), .val (.int (2 : Int32)), .val (.int (1 : Int32)), .val (.int (2 : Int32)), .val (.int p2)]) rfl k) ?_
        show own_Ends _ _ _ _ (T142.setTop (mkF m 171 #[.val (.int p0), .val (.int p1), .val (.int p2), .val (.int p3), .val (.int p4), .val (.int (1 : Int32)), .val (.ref b101), .val (.int (1 : Int32)), .val (.int (2 : Int32)), .val (.int (1 : Int32)), .val (.int (2 : Int32)), .val (.int p2)] []))
        refine own_pre (fun t k => XS.aload X142.here hx rfl (hb hby at_171) rfl rfl k) ?_
        show own_Ends _ _ _ _ (T142.setTop (mkF m 173 #[.val (.int p0), .val (.int p1), .val (.int p2), .val (.int p3), .val (.int p4), .val (.int (1 : Int32)), .val (.ref b101), .val (.int (1 : Int32)), .val (.int (2 : Int32)), .val (.int (1 : Int32)), .val (.int (2 : Int32)), .val (.int p2)] [(.ref b101)]))
        refine own_pre (fun t k => XS.iload X142.here hx rfl (hb hby at_173) rfl k) ?_
        show own_Ends _ _ _ _ (T142.setTop (mkF m 175 #[.val (.int p0), .val (.int p1), .val (.int p2), .val (.int p3), .val (.int p4), .val (.int (1 : Int32)), .val (.ref b101), .val (.int (1 : Int32)), .val (.int (2 : Int32)), .val (.int (1 : Int32)), .val (.int (2 : Int32)), .val (.int p2)] [(.int (1 : Int32)), (.ref b101)]))
        refine own_pre (fun t k => XS.iload X142.here hx rfl (hb hby at_175) rfl k) ?_
        show own_Ends _ _ _ _ (T142.setTop (mkF m 177 #[.val (.int p0), .val (.int p1), .val (.int p2), .val (.int p3), .val (.int p4), .val (.int (1 : Int32)), .val (.ref b101), .val (.int (1 : Int32)), .val (.int (2 : Int32)), .val (.int (1 : Int32)), .val (.int (2 : Int32)), .val (.int p2)] [(.int (1 : Int32)), (.int (1 : Int32)), (.ref b101)]))
        obtain ⟨cq150, kq150, q150a, q150b, q150c⟩ := isOf hZ rfl f143
        obtain ⟨_, _, ⟨T150, L150, k150, n150⟩, -, X150, ⟨Lc150, hQ150, l150, y150, z150⟩, st150⟩ := X142.virtualBack hx (y := (⟨"com/example/mursyn/mursyn/synthesis/SuccessorLists", "get", "(II)I"⟩ : MethodName)) (z := (⟨"com/example/mursyn/mursyn/synthesis/SuccessorLists", "get", "(II)I"⟩ : MethodName)) hown (mvT hZ (hw _ (List.mem_of_getElem? (i := 28) rfl))) (mvT hZ (hw _ (List.mem_of_getElem? (i := 29) rfl))) (notFace_of_selects (args := #[]) (mvT hZ (hw _ (List.mem_of_getElem? (i := 31) rfl)))) (mvT hZ (hw _ (List.mem_of_getElem? (i := 31) rfl))) (mvT hZ (hw _ (List.mem_of_getElem? (i := 30) rfl))) (by decide) (backOf (W := 0) (rm4 l Z a0 hw [] b101 (1 : Int32) (1 : Int32) bf108 bt108 kf108 kt108 [(.int (0 : Int32)), (.int (1 : Int32)), (.int (3 : Int32)), (.int (0 : Int32)), (.int (0 : Int32)), (.int (0 : Int32)), (.int (0 : Int32)), (.int (0 : Int32)), (.int (0 : Int32)), (.int (0 : Int32)), (.int (0 : Int32)), (.int (0 : Int32)), (.int (0 : Int32)), (.int (0 : Int32)), (.int (0 : Int32)), (.int (0 : Int32)), (.int (0 : Int32))] [(.int p0), (.int p1), (.int p2), (.int (0 : Int32)), (.int (0 : Int32)), (.int (0 : Int32)), (.int (0 : Int32)), (.int (0 : Int32)), (.int (0 : Int32)), (.int (0 : Int32)), (.int (0 : Int32)), (.int (0 : Int32)), (.int (0 : Int32)), (.int (0 : Int32)), (.int (0 : Int32)), (.int (0 : Int32))] (1 : Int32) p2 T142.heap n0 Zn142 fa142 fb142 vv142 f144 ⟨by decide, by decide⟩ rfl ⟨by decide, by decide⟩ rfl) hZ (hw _ (List.mem_of_getElem? (i := 32) rfl)) (hw _ (List.mem_of_getElem? (i := 2) rfl)) (by decide) (by decide)) q150a q150c (g := (mkF m 177 #[.val (.int p0), .val (.int p1), .val (.int p2), .val (.int p3), .val (.int p4), .val (.int (1 : Int32)), .val (.ref b101), .val (.int (1 : Int32)), .val (.int (2 : Int32)), .val (.int (1 : Int32)), .val (.int (2 : Int32)), .val (.int p2)] [(.int (1 : Int32)), (.int (1 : Int32)), (.ref b101)])) rfl (by rw [hml]; rfl) (Steps.refl _) (argsL := [(.int (1 : Int32)), (.int (1 : Int32))]) (rest := []) (lenOf own_pd2 rfl) rfl (by show 2 * 0 + _ ≤ _; exact Nat.le_of_eq rfl) (hb hby at_177) (fun _ _ => ⟨rfl, rfl, (by decide : 3 + 0 ≤ _), (by decide : 37 + 0 ≤ _)⟩)
        dsimp only [Pt.U, Pt.locs, Pt.cells, Pt.slots] at X150 l150 y150 z150 st150 hQ150
        subst l150 y150 z150
        obtain ⟨rfl, Nq150, e150⟩ := hQ150
        have N150 := Fr.app N142 Nq150
        refine own_pre (fun t k => st150.trans k) ?_
        show own_Ends _ _ _ _ (T150.setTop (mkF m 180 #[.val (.int p0), .val (.int p1), .val (.int p2), .val (.int p3), .val (.int p4), .val (.int (1 : Int32)), .val (.ref b101), .val (.int (1 : Int32)), .val (.int (2 : Int32)), .val (.int (1 : Int32)), .val (.int (2 : Int32)), .val (.int p2)] [(.int p2)]))
        refine own_pre (fun t k => XS.iload X150.here hx rfl (hb hby at_180) rfl k) ?_
        show own_Ends _ _ _ _ (T150.setTop (mkF m 182 #[.val (.int p0), .val (.int p1), .val (.int p2), .val (.int p3), .val (.int p4), .val (.int (1 : Int32)), .val (.ref b101), .val (.int (1 : Int32)), .val (.int (2 : Int32)), .val (.int (1 : Int32)), .val (.int (2 : Int32)), .val (.int p2)] [(.int p2), (.int p2)]))
        refine own_pre (fun t k => XS.icmpNo X150.here hx rfl (hb hby at_182) rfl (teq (rfl : p2 = p2)).2 k) ?_
        show own_Ends _ _ _ _ (T150.setTop (mkF m 185 #[.val (.int p0), .val (.int p1), .val (.int p2), .val (.int p3), .val (.int p4), .val (.int (1 : Int32)), .val (.ref b101), .val (.int (1 : Int32)), .val (.int (2 : Int32)), .val (.int (1 : Int32)), .val (.int (2 : Int32)), .val (.int p2)] []))
        refine own_pre (fun t k => XS.iconst X150.here hx rfl (hb hby at_185) k) ?_
        show own_Ends _ _ _ _ (T150.setTop (mkF m 186 #[.val (.int p0), .val (.int p1), .val (.int p2), .val (.int p3), .val (.int p4), .val (.int (1 : Int32)), .val (.ref b101), .val (.int (1 : Int32)), .val (.int (2 : Int32)), .val (.int (1 : Int32)), .val (.int (2 : Int32)), .val (.int p2)] [(.int (1 : Int32))]))
        refine own_pre (fun t k => XS.goto X150.here hx rfl (pc0 := 186) (pc' := 190) rfl (hb hby at_186) (by decide) (by decide) k) ?_
        show own_Ends _ _ _ _ (T150.setTop (mkF m 190 #[.val (.int p0), .val (.int p1), .val (.int p2), .val (.int p3), .val (.int p4), .val (.int (1 : Int32)), .val (.ref b101), .val (.int (1 : Int32)), .val (.int (2 : Int32)), .val (.int (1 : Int32)), .val (.int (2 : Int32)), .val (.int p2)] [(.int (1 : Int32))]))
        exact own_retN X150 hx (t := .boolean) Bd.returns (by simp) (hb hby at_190) hlk rfl e150 ⟨rfl, N150⟩ (by decide) (by decide)
  · subst hs110
    show own_Ends _ _ _ _ (T108.setTop (mkF m 14 #[.val (.int p0), .val (.int p1), .val (.int p2), .val (.int p3), .val (.int p4), .val (.int (2 : Int32)), .val (.ref b101), .unset, .unset, .unset, .unset, .unset] []))
    refine own_pre (fun t k => XS.iload X108.here hx rfl (hb hby at_14) rfl k) ?_
    show own_Ends _ _ _ _ (T108.setTop (mkF m 16 #[.val (.int p0), .val (.int p1), .val (.int p2), .val (.int p3), .val (.int p4), .val (.int (2 : Int32)), .val (.ref b101), .unset, .unset, .unset, .unset, .unset] [(.int (2 : Int32))]))
    refine own_pre (fun t k => XS.ifYes X108.here hx rfl (pc0 := 16) (pc' := 24) rfl (hb hby at_16) rfl ((if0 _ _).trans (feq ((by decide) : ¬ ((2 : Int32) = (0 : Int32)))).2) (by decide) (by decide) k) ?_
    show own_Ends _ _ _ _ (T108.setTop (mkF m 24 #[.val (.int p0), .val (.int p1), .val (.int p2), .val (.int p3), .val (.int p4), .val (.int (2 : Int32)), .val (.ref b101), .unset, .unset, .unset, .unset, .unset] []))
    refine own_pre (fun t k => XS.aload X108.here hx rfl (hb hby at_24) rfl rfl k) ?_
    show own_Ends _ _ _ _ (T108.setTop (mkF m 26 #[.val (.int p0), .val (.int p1), .val (.int p2), .val (.int p3), .val (.int p4), .val (.int (2 : Int32)), .val (.ref b101), .unset, .unset, .unset, .unset, .unset] [(.ref b101)]))
    refine own_pre (fun t k => XS.iloadN X108.here hx rfl (hb hby at_26) rfl k) ?_
    show own_Ends _ _ _ _ (T108.setTop (mkF m 27 #[.val (.int p0), .val (.int p1), .val (.int p2), .val (.int p3), .val (.int p4), .val (.int (2 : Int32)), .val (.ref b101), .unset, .unset, .unset, .unset, .unset] [(.int p0), (.ref b101)]))
    obtain ⟨cq151, kq151, q151a, q151b, q151c⟩ := isOf hZ rfl f109
    obtain ⟨_, _, ⟨T151, L151, k151, n151⟩, -, X151, ⟨Lc151, hQ151, l151, y151, z151⟩, st151⟩ := X108.virtualBack hx (y := (⟨"com/example/mursyn/mursyn/synthesis/SuccessorLists", "add", "(I)V"⟩ : MethodName)) (z := (⟨"com/example/mursyn/mursyn/synthesis/SuccessorLists", "add", "(I)V"⟩ : MethodName)) hown (mvT hZ (hw _ (List.mem_of_getElem? (i := 14) rfl))) (mvT hZ (hw _ (List.mem_of_getElem? (i := 15) rfl))) (notFace_of_selects (args := #[]) (mvT hZ (hw _ (List.mem_of_getElem? (i := 17) rfl)))) (mvT hZ (hw _ (List.mem_of_getElem? (i := 17) rfl))) (mvT hZ (hw _ (List.mem_of_getElem? (i := 16) rfl))) (by decide) (backOf (W := 0) (rm2 l Z a0 hw [] b101 p0 bf108 bt108 (0 : Int32) (0 : Int32) kt108 [(.int (0 : Int32)), (.int (0 : Int32)), (.int (0 : Int32)), (.int (0 : Int32)), (.int (0 : Int32)), (.int (0 : Int32)), (.int (0 : Int32)), (.int (0 : Int32)), (.int (0 : Int32)), (.int (0 : Int32)), (.int (0 : Int32)), (.int (0 : Int32)), (.int (0 : Int32)), (.int (0 : Int32)), (.int (0 : Int32)), (.int (0 : Int32))]  T108.heap n0 Zn108 f109 L102 lb108 nb108 fa108 fb108 fc108 fd108 vb108 (by decide) ⟨by decide, by decide⟩ (Nat.le_of_ble_eq_true rfl)) hZ (hw _ (List.mem_of_getElem? (i := 18) rfl)) (hw _ (List.mem_of_getElem? (i := 2) rfl)) (by decide) (by decide)) q151a q151c (g := (mkF m 27 #[.val (.int p0), .val (.int p1), .val (.int p2), .val (.int p3), .val (.int p4), .val (.int (2 : Int32)), .val (.ref b101), .unset, .unset, .unset, .unset, .unset] [(.int p0), (.ref b101)])) rfl (by rw [hml]; rfl) (Steps.refl _) (argsL := [(.int p0)]) (rest := []) (lenOf own_pd1 rfl) rfl (by show 2 * 0 + _ ≤ _; exact Nat.le_of_eq rfl) (hb hby at_27) (fun _ _ => ⟨rfl, rfl, (by decide : 3 + 0 ≤ _), (by decide : 37 + 0 ≤ _)⟩)
    dsimp only [Pt.U, Pt.locs, Pt.cells, Pt.slots] at X151 l151 y151 z151 st151 hQ151
    subst l151 y151 z151
    obtain ⟨rfl, Nq151, Kq151, fa151, fb151, fc151, fd151, vv151⟩ := hQ151
    have N151 := Fr.app N108 Nq151
    have f152 := f109.keep Kq151
    have f153 := va108.keep Kq151 (ninS (Ne.symm na108) (ninS nc108 nin0))
    have Zn151 : n0 ≤ T151.heap.size := Nat.le_trans Zn108 Kq151.1
    have fa151 : Fld Z T151.heap b101 "com/example/mursyn/mursyn/synthesis/SuccessorLists" "first" "[I" (.ref bf108) := fa151
    have fb151 : Fld Z T151.heap b101 "com/example/mursyn/mursyn/synthesis/SuccessorLists" "targets" "[I" (.ref bt108) := fb151
    have fc151 : Fld Z T151.heap b101 "com/example/mursyn/mursyn/synthesis/SuccessorLists" "edgeCount" "I" (.int (1 : Int32)) := fc151
    have fd151 : Fld Z T151.heap b101 "com/example/mursyn/mursyn/synthesis/SuccessorLists" "listed" "I" (.int (0 : Int32)) := fd151
    have vv151 : Arv Z T151.heap bt108 kt108 .int (16 : Int32) [(.int p0), (.int (0 : Int32)), (.int (0 : Int32)), (.int (0 : Int32)), (.int (0 : Int32)), (.int (0 : Int32)), (.int (0 : Int32)), (.int (0 : Int32)), (.int (0 : Int32)), (.int (0 : Int32)), (.int (0 : Int32)), (.int (0 : Int32)), (.int (0 : Int32)), (.int (0 : Int32)), (.int (0 : Int32)), (.int (0 : Int32))] (.int (0 : Int32)) := vv151
    refine own_pre (fun t k => st151.trans k) ?_
    show own_Ends _ _ _ _ (T151.setTop (mkF m 30 #[.val (.int p0), .val (.int p1), .val (.int p2), .val (.int p3), .val (.int p4), .val (.int (2 : Int32)), .val (.ref b101), .unset, .unset, .unset, .unset, .unset] []))
    refine own_pre (fun t k => XS.iload X151.here hx rfl (hb hby at_30) rfl k) ?_
    show own_Ends _ _ _ _ (T151.setTop (mkF m 32 #[.val (.int p0), .val (.int p1), .val (.int p2), .val (.int p3), .val (.int p4), .val (.int (2 : Int32)), .val (.ref b101), .unset, .unset, .unset, .unset, .unset] [(.int (2 : Int32))]))
    refine own_pre (fun t k => XS.iconst X151.here hx rfl (hb hby at_32) k) ?_
    show own_Ends _ _ _ _ (T151.setTop (mkF m 33 #[.val (.int p0), .val (.int p1), .val (.int p2), .val (.int p3), .val (.int p4), .val (.int (2 : Int32)), .val (.ref b101), .unset, .unset, .unset, .unset, .unset] [(.int (1 : Int32)), (.int (2 : Int32))]))
    refine own_pre (fun t k => XS.icmpYes X151.here hx rfl (pc0 := 33) (pc' := 41) rfl (hb hby at_33) rfl (feq ((by decide) : ¬ ((2 : Int32) = (1 : Int32)))).2 (by decide) (by decide) k) ?_
    show own_Ends _ _ _ _ (T151.setTop (mkF m 41 #[.val (.int p0), .val (.int p1), .val (.int p2), .val (.int p3), .val (.int p4), .val (.int (2 : Int32)), .val (.ref b101), .unset, .unset, .unset, .unset, .unset] []))
    refine own_pre (fun t k => XS.aload X151.here hx rfl (hb hby at_41) rfl rfl k) ?_
    show own_Ends _ _ _ _ (T151.setTop (mkF m 43 #[.val (.int p0), .val (.int p1), .val (.int p2), .val (.int p3), .val (.int p4), .val (.int (2 : Int32)), .val (.ref b101), .unset, .unset, .unset, .unset, .unset] [(.ref b101)]))
    refine own_pre (fun t k => XS.iloadN X151.here hx rfl (hb hby at_43) rfl k) ?_
    show own_Ends _ _ _ _ (T151.setTop (mkF m 44 #[.val (.int p0), .val (.int p1), .val (.int p2), .val (.int p3), .val (.int p4), .val (.int (2 : Int32)), .val (.ref b101), .unset, .unset, .unset, .unset, .unset] [(.int p1), (.ref b101)]))
    obtain ⟨cq154, kq154, q154a, q154b, q154c⟩ := isOf hZ rfl f152
    obtain ⟨_, _, ⟨T154, L154, k154, n154⟩, -, X154, ⟨Lc154, hQ154, l154, y154, z154⟩, st154⟩ := X151.virtualBack hx (y := (⟨"com/example/mursyn/mursyn/synthesis/SuccessorLists", "add", "(I)V"⟩ : MethodName)) (z := (⟨"com/example/mursyn/mursyn/synthesis/SuccessorLists", "add", "(I)V"⟩ : MethodName)) hown (mvT hZ (hw _ (List.mem_of_getElem? (i := 14) rfl))) (mvT hZ (hw _ (List.mem_of_getElem? (i := 15) rfl))) (notFace_of_selects (args := #[]) (mvT hZ (hw _ (List.mem_of_getElem? (i := 17) rfl)))) (mvT hZ (hw _ (List.mem_of_getElem? (i := 17) rfl))) (mvT hZ (hw _ (List.mem_of_getElem? (i := 16) rfl))) (by decide) (backOf (W := 0) (rm2 l Z a0 hw [] b101 p1 bf108 bt108 (1 : Int32) (0 : Int32) kt108 [(.int p0), (.int (0 : Int32)), (.int (0 : Int32)), (.int (0 : Int32)), (.int (0 : Int32)), (.int (0 : Int32)), (.int (0 : Int32)), (.int (0 : Int32)), (.int (0 : Int32)), (.int (0 : Int32)), (.int (0 : Int32)), (.int (0 : Int32)), (.int (0 : Int32)), (.int (0 : Int32)), (.int (0 : Int32)), (.int (0 : Int32))]  T151.heap n0 Zn151 f152 L102 lb108 nb108 fa151 fb151 fc151 fd151 vv151 (by decide) ⟨by decide, by decide⟩ (Nat.le_of_ble_eq_true rfl)) hZ (hw _ (List.mem_of_getElem? (i := 18) rfl)) (hw _ (List.mem_of_getElem? (i := 2) rfl)) (by decide) (by decide)) q154a q154c (g := (mkF m 44 #[.val (.int p0), .val (.int p1), .val (.int p2), .val (.int p3), .val (.int p4), .val (.int (2 : Int32)), .val (.ref b101), .unset, .unset, .unset, .unset, .unset] [(.int p1), (.ref b101)])) rfl (by rw [hml]; rfl) (Steps.refl _) (argsL := [(.int p1)]) (rest := []) (lenOf own_pd1 rfl) rfl (by show 2 * 0 + _ ≤ _; exact Nat.le_of_eq rfl) (hb hby at_44) (fun _ _ => ⟨rfl, rfl, (by decide : 3 + 0 ≤ _), (by decide : 37 + 0 ≤ _)⟩)
    dsimp only [Pt.U, Pt.locs, Pt.cells, Pt.slots] at X154 l154 y154 z154 st154 hQ154
    subst l154 y154 z154
    obtain ⟨rfl, Nq154, Kq154, fa154, fb154, fc154, fd154, vv154⟩ := hQ154
    have N154 := Fr.app N151 Nq154
    have f155 := f152.keep Kq154
    have f156 := f153.keep Kq154 (ninS (Ne.symm na108) (ninS nc108 nin0))
    have Zn154 : n0 ≤ T154.heap.size := Nat.le_trans Zn151 Kq154.1
    have fa154 : Fld Z T154.heap b101 "com/example/mursyn/mursyn/synthesis/SuccessorLists" "first" "[I" (.ref bf108) := fa154
    have fb154 : Fld Z T154.heap b101 "com/example/mursyn/mursyn/synthesis/SuccessorLists" "targets" "[I" (.ref bt108) := fb154
    have fc154 : Fld Z T154.heap b101 "com/example/mursyn/mursyn/synthesis/SuccessorLists" "edgeCount" "I" (.int (2 : Int32)) := fc154
    have fd154 : Fld Z T154.heap b101 "com/example/mursyn/mursyn/synthesis/SuccessorLists" "listed" "I" (.int (0 : Int32)) := fd154
    have vv154 : Arv Z T154.heap bt108 kt108 .int (16 : Int32) [(.int p0), (.int p1), (.int (0 : Int32)), (.int (0 : Int32)), (.int (0 : Int32)), (.int (0 : Int32)), (.int (0 : Int32)), (.int (0 : Int32)), (.int (0 : Int32)), (.int (0 : Int32)), (.int (0 : Int32)), (.int (0 : Int32)), (.int (0 : Int32)), (.int (0 : Int32)), (.int (0 : Int32)), (.int (0 : Int32))] (.int (0 : Int32)) := vv154
    refine own_pre (fun t k => st154.trans k) ?_
    show own_Ends _ _ _ _ (T154.setTop (mkF m 47 #[.val (.int p0), .val (.int p1), .val (.int p2), .val (.int p3), .val (.int p4), .val (.int (2 : Int32)), .val (.ref b101), .unset, .unset, .unset, .unset, .unset] []))
    refine own_pre (fun t k => XS.iload X154.here hx rfl (hb hby at_47) rfl k) ?_
    show own_Ends _ _ _ _ (T154.setTop (mkF m 49 #[.val (.int p0), .val (.int p1), .val (.int p2), .val (.int p3), .val (.int p4), .val (.int (2 : Int32)), .val (.ref b101), .unset, .unset, .unset, .unset, .unset] [(.int (2 : Int32))]))
    refine own_pre (fun t k => XS.iconst X154.here hx rfl (hb hby at_49) k) ?_
    show own_Ends _ _ _ _ (T154.setTop (mkF m 50 #[.val (.int p0), .val (.int p1), .val (.int p2), .val (.int p3), .val (.int p4), .val (.int (2 : Int32)), .val (.ref b101), .unset, .unset, .unset, .unset, .unset] [(.int (2 : Int32)), (.int (2 : Int32))]))
    refine own_pre (fun t k => XS.icmpNo X154.here hx rfl (hb hby at_50) rfl (teq ((by decide) : (2 : Int32) = (2 : Int32))).2 k) ?_
    show own_Ends _ _ _ _ (T154.setTop (mkF m 53 #[.val (.int p0), .val (.int p1), .val (.int p2), .val (.int p3), .val (.int p4), .val (.int (2 : Int32)), .val (.ref b101), .unset, .unset, .unset, .unset, .unset] []))
    refine own_pre (fun t k => XS.aload X154.here hx rfl (hb hby at_53) rfl rfl k) ?_
    show own_Ends _ _ _ _ (T154.setTop (mkF m 55 #[.val (.int p0), .val (.int p1), .val (.int p2), .val (.int p3), .val (.int p4), .val (.int (2 : Int32)), .val (.ref b101), .unset, .unset, .unset, .unset, .unset] [(.ref b101)]))
    obtain ⟨cq157, kq157, q157a, q157b, q157c⟩ := isOf hZ rfl f155
    obtain ⟨_, _, ⟨T157, L157, k157, n157⟩, -, X157, ⟨Lc157, hQ157, l157, y157, z157⟩, st157⟩ := X154.virtualBack hx (y := (⟨"com/example/mursyn/mursyn/synthesis/SuccessorLists", "close", "()V"⟩ : MethodName)) (z := (⟨"com/example/mursyn/mursyn/synthesis/SuccessorLists", "close", "()V"⟩ : MethodName)) hown (mvT hZ (hw _ (List.mem_of_getElem? (i := 21) rfl))) (mvT hZ (hw _ (List.mem_of_getElem? (i := 22) rfl))) (notFace_of_selects (args := #[]) (mvT hZ (hw _ (List.mem_of_getElem? (i := 24) rfl)))) (mvT hZ (hw _ (List.mem_of_getElem? (i := 24) rfl))) (mvT hZ (hw _ (List.mem_of_getElem? (i := 23) rfl))) (by decide) (backOf (W := 0) (rm3 l Z a0 hw [] b101 bf108 bt108 (2 : Int32) (0 : Int32) kf108 [(.int (0 : Int32)), (.int (0 : Int32)), (.int (0 : Int32)), (.int (0 : Int32)), (.int (0 : Int32)), (.int (0 : Int32)), (.int (0 : Int32)), (.int (0 : Int32)), (.int (0 : Int32)), (.int (0 : Int32)), (.int (0 : Int32)), (.int (0 : Int32)), (.int (0 : Int32)), (.int (0 : Int32)), (.int (0 : Int32)), (.int (0 : Int32)), (.int (0 : Int32))]  T154.heap n0 Zn154 f155 L102 la108 na108 fa154 fb154 fc154 fd154 f156 (by decide) ⟨by decide, by decide⟩ (Nat.le_of_ble_eq_true rfl)) hZ (hw _ (List.mem_of_getElem? (i := 25) rfl)) (hw _ (List.mem_of_getElem? (i := 2) rfl)) (by decide) (by decide)) q157a q157c (g := (mkF m 55 #[.val (.int p0), .val (.int p1), .val (.int p2), .val (.int p3), .val (.int p4), .val (.int (2 : Int32)), .val (.ref b101), .unset, .unset, .unset, .unset, .unset] [(.ref b101)])) rfl (by rw [hml]; rfl) (Steps.refl _) (argsL := []) (rest := []) (lenOf own_pd0 rfl) rfl (by show 2 * 0 + _ ≤ _; exact Nat.le_of_eq rfl) (hb hby at_55) (fun _ _ => ⟨rfl, rfl, (by decide : 3 + 0 ≤ _), (by decide : 37 + 0 ≤ _)⟩)
    dsimp only [Pt.U, Pt.locs, Pt.cells, Pt.slots] at X157 l157 y157 z157 st157 hQ157
    subst l157 y157 z157
    obtain ⟨rfl, Nq157, Kq157, fa157, fb157, fc157, fd157, vv157⟩ := hQ157
    have N157 := Fr.app N154 Nq157
    have f158 := f155.keep Kq157
    have f159 := vv154.keep Kq157 (ninS (Ne.symm nb108) (ninS (Ne.symm nc108) nin0))
    have Zn157 : n0 ≤ T157.heap.size := Nat.le_trans Zn154 Kq157.1
    have fa157 : Fld Z T157.heap b101 "com/example/mursyn/mursyn/synthesis/SuccessorLists" "first" "[I" (.ref bf108) := fa157
    have fb157 : Fld Z T157.heap b101 "com/example/mursyn/mursyn/synthesis/SuccessorLists" "targets" "[I" (.ref bt108) := fb157
    have fc157 : Fld Z T157.heap b101 "com/example/mursyn/mursyn/synthesis/SuccessorLists" "edgeCount" "I" (.int (2 : Int32)) := fc157
    have fd157 : Fld Z T157.heap b101 "com/example/mursyn/mursyn/synthesis/SuccessorLists" "listed" "I" (.int (1 : Int32)) := fd157
    have vv157 : Arv Z T157.heap bf108 kf108 .int (17 : Int32) [(.int (0 : Int32)), (.int (2 : Int32)), (.int (0 : Int32)), (.int (0 : Int32)), (.int (0 : Int32)), (.int (0 : Int32)), (.int (0 : Int32)), (.int (0 : Int32)), (.int (0 : Int32)), (.int (0 : Int32)), (.int (0 : Int32)), (.int (0 : Int32)), (.int (0 : Int32)), (.int (0 : Int32)), (.int (0 : Int32)), (.int (0 : Int32)), (.int (0 : Int32))] (.int (0 : Int32)) := vv157
    refine own_pre (fun t k => st157.trans k) ?_
    show own_Ends _ _ _ _ (T157.setTop (mkF m 58 #[.val (.int p0), .val (.int p1), .val (.int p2), .val (.int p3), .val (.int p4), .val (.int (2 : Int32)), .val (.ref b101), .unset, .unset, .unset, .unset, .unset] []))
    refine own_pre (fun t k => XS.aload X157.here hx rfl (hb hby at_58) rfl rfl k) ?_
    show own_Ends _ _ _ _ (T157.setTop (mkF m 60 #[.val (.int p0), .val (.int p1), .val (.int p2), .val (.int p3), .val (.int p4), .val (.int (2 : Int32)), .val (.ref b101), .unset, .unset, .unset, .unset, .unset] [(.ref b101)]))
    refine own_pre (fun t k => XS.iloadN X157.here hx rfl (hb hby at_60) rfl k) ?_
    show own_Ends _ _ _ _ (T157.setTop (mkF m 61 #[.val (.int p0), .val (.int p1), .val (.int p2), .val (.int p3), .val (.int p4), .val (.int (2 : Int32)), .val (.ref b101), .unset, .unset, .unset, .unset, .unset] [(.int p2), (.ref b101)]))
    obtain ⟨cq160, kq160, q160a, q160b, q160c⟩ := isOf hZ rfl f158
    obtain ⟨_, _, ⟨T160, L160, k160, n160⟩, -, X160, ⟨Lc160, hQ160, l160, y160, z160⟩, st160⟩ := X157.virtualBack hx (y := (⟨"com/example/mursyn/mursyn/synthesis/SuccessorLists", "add", "(I)V"⟩ : MethodName)) (z := (⟨"com/example/mursyn/mursyn/synthesis/SuccessorLists", "add", "(I)V"⟩ : MethodName)) hown (mvT hZ (hw _ (List.mem_of_getElem? (i := 14) rfl))) (mvT hZ (hw _ (List.mem_of_getElem? (i := 15) rfl))) (notFace_of_selects (args := #[]) (mvT hZ (hw _ (List.mem_of_getElem? (i := 17) rfl)))) (mvT hZ (hw _ (List.mem_of_getElem? (i := 17) rfl))) (mvT hZ (hw _ (List.mem_of_getElem? (i := 16) rfl))) (by decide) (backOf (W := 0) (rm2 l Z a0 hw [] b101 p2 bf108 bt108 (2 : Int32) (1 : Int32) kt108 [(.int p0), (.int p1), (.int (0 : Int32)), (.int (0 : Int32)), (.int (0 : Int32)), (.int (0 : Int32)), (.int (0 : Int32)), (.int (0 : Int32)), (.int (0 : Int32)), (.int (0 : Int32)), (.int (0 : Int32)), (.int (0 : Int32)), (.int (0 : Int32)), (.int (0 : Int32)), (.int (0 : Int32)), (.int (0 : Int32))]  T157.heap n0 Zn157 f158 L102 lb108 nb108 fa157 fb157 fc157 fd157 f159 (by decide) ⟨by decide, by decide⟩ (Nat.le_of_ble_eq_true rfl)) hZ (hw _ (List.mem_of_getElem? (i := 18) rfl)) (hw _ (List.mem_of_getElem? (i := 2) rfl)) (by decide) (by decide)) q160a q160c (g := (mkF m 61 #[.val (.int p0), .val (.int p1), .val (.int p2), .val (.int p3), .val (.int p4), .val (.int (2 : Int32)), .val (.ref b101), .unset, .unset, .unset, .unset, .unset] [(.int p2), (.ref b101)])) rfl (by rw [hml]; rfl) (Steps.refl _) (argsL := [(.int p2)]) (rest := []) (lenOf own_pd1 rfl) rfl (by show 2 * 0 + _ ≤ _; exact Nat.le_of_eq rfl) (hb hby at_61) (fun _ _ => ⟨rfl, rfl, (by decide : 3 + 0 ≤ _), (by decide : 37 + 0 ≤ _)⟩)
    dsimp only [Pt.U, Pt.locs, Pt.cells, Pt.slots] at X160 l160 y160 z160 st160 hQ160
    subst l160 y160 z160
    obtain ⟨rfl, Nq160, Kq160, fa160, fb160, fc160, fd160, vv160⟩ := hQ160
    have N160 := Fr.app N157 Nq160
    have f161 := f158.keep Kq160
    have f162 := vv157.keep Kq160 (ninS (Ne.symm na108) (ninS nc108 nin0))
    have Zn160 : n0 ≤ T160.heap.size := Nat.le_trans Zn157 Kq160.1
    have fa160 : Fld Z T160.heap b101 "com/example/mursyn/mursyn/synthesis/SuccessorLists" "first" "[I" (.ref bf108) := fa160
    have fb160 : Fld Z T160.heap b101 "com/example/mursyn/mursyn/synthesis/SuccessorLists" "targets" "[I" (.ref bt108) := fb160
    have fc160 : Fld Z T160.heap b101 "com/example/mursyn/mursyn/synthesis/SuccessorLists" "edgeCount" "I" (.int (3 : Int32)) := fc160
    have fd160 : Fld Z T160.heap b101 "com/example/mursyn/mursyn/synthesis/SuccessorLists" "listed" "I" (.int (1 : Int32)) := fd160
    have vv160 : Arv Z T160.heap bt108 kt108 .int (16 : Int32) [(.int p0), (.int p1), (.int p2), (.int (0 : Int32)), (.int (0 : Int32)), (.int (0 : Int32)), (.int (0 : Int32)), (.int (0 : Int32)), (.int (0 : Int32)), (.int (0 : Int32)), (.int (0 : Int32)), (.int (0 : Int32)), (.int (0 : Int32)), (.int (0 : Int32)), (.int (0 : Int32)), (.int (0 : Int32))] (.int (0 : Int32)) := vv160
    refine own_pre (fun t k => st160.trans k) ?_
    show own_Ends _ _ _ _ (T160.setTop (mkF m 64 #[.val (.int p0), .val (.int p1), .val (.int p2), .val (.int p3), .val (.int p4), .val (.int (2 : Int32)), .val (.ref b101), .unset, .unset, .unset, .unset, .unset] []))
    refine own_pre (fun t k => XS.iload X160.here hx rfl (hb hby at_64) rfl k) ?_
    show own_Ends _ _ _ _ (T160.setTop (mkF m 66 #[.val (.int p0), .val (.int p1), .val (.int p2), .val (.int p3), .val (.int p4), .val (.int (2 : Int32)), .val (.ref b101), .unset, .unset, .unset, .unset, .unset] [(.int (2 : Int32))]))
    refine own_pre (fun t k => XS.iconst X160.here hx rfl (hb hby at_66) k) ?_
    show own_Ends _ _ _ _ (T160.setTop (mkF m 67 #[.val (.int p0), .val (.int p1), .val (.int p2), .val (.int p3), .val (.int p4), .val (.int (2 : Int32)), .val (.ref b101), .unset, .unset, .unset, .unset, .unset] [(.int (3 : Int32)), (.int (2 : Int32))]))
    refine own_pre (fun t k => XS.icmpYes X160.here hx rfl (pc0 := 67) (pc' := 75) rfl (hb hby at_67) rfl (feq ((by decide) : ¬ ((2 : Int32) = (3 : Int32)))).2 (by decide) (by decide) k) ?_
    show own_Ends _ _ _ _ (T160.setTop (mkF m 75 #[.val (.int p0), .val (.int p1), .val (.int p2), .val (.int p3), .val (.int p4), .val (.int (2 : Int32)), .val (.ref b101), .unset, .unset, .unset, .unset, .unset] []))
    refine own_pre (fun t k => XS.aload X160.here hx rfl (hb hby at_75) rfl rfl k) ?_
    show own_Ends _ _ _ _ (T160.setTop (mkF m 77 #[.val (.int p0), .val (.int p1), .val (.int p2), .val (.int p3), .val (.int p4), .val (.int (2 : Int32)), .val (.ref b101), .unset, .unset, .unset, .unset, .unset] [(.ref b101)]))
    obtain ⟨cq163, kq163, q163a, q163b, q163c⟩ := isOf hZ rfl f161
    obtain ⟨_, _, ⟨T163, L163, k163, n163⟩, -, X163, ⟨Lc163, hQ163, l163, y163, z163⟩, st163⟩ := X160.virtualBack hx (y := (⟨"com/example/mursyn/mursyn/synthesis/SuccessorLists", "close", "()V"⟩ : MethodName)) (z := (⟨"com/example/mursyn/mursyn/synthesis/SuccessorLists", "close", "()V"⟩ : MethodName)) hown (mvT hZ (hw _ (List.mem_of_getElem? (i := 21) rfl))) (mvT hZ (hw _ (List.mem_of_getElem? (i := 22) rfl))) (notFace_of_selects (args := #[]) (mvT hZ (hw _ (List.mem_of_getElem? (i := 24) rfl)))) (mvT hZ (hw _ (List.mem_of_getElem? (i := 24) rfl))) (mvT hZ (hw _ (List.mem_of_getElem? (i := 23) rfl))) (by decide) (backOf (W := 0) (rm3 l Z a0 hw [] b101 bf108 bt108 (3 : Int32) (1 : Int32) kf108 [(.int (0 : Int32)), (.int (2 : Int32)), (.int (0 : Int32)), (.int (0 : Int32)), (.int (0 : Int32)), (.int (0 : Int32)), (.int (0 : Int32)), (.int (0 : Int32)), (.int (0 : Int32)), (.int (0 : Int32)), (.int (0 : Int32)), (.int (0 : Int32)), (.int (0 : Int32)), (.int (0 : Int32)), (.int (0 : Int32)), (.int (0 : Int32)), (.int (0 : Int32))]  T160.heap n0 Zn160 f161 L102 la108 na108 fa160 fb160 fc160 fd160 f162 (by decide) ⟨by decide, by decide⟩ (Nat.le_of_ble_eq_true rfl)) hZ (hw _ (List.mem_of_getElem? (i := 25) rfl)) (hw _ (List.mem_of_getElem? (i := 2) rfl)) (by decide) (by decide)) q163a q163c (g := (mkF m 77 #[.val (.int p0), .val (.int p1), .val (.int p2), .val (.int p3), .val (.int p4), .val (.int (2 : Int32)), .val (.ref b101), .unset, .unset, .unset, .unset, .unset] [(.ref b101)])) rfl (by rw [hml]; rfl) (Steps.refl _) (argsL := []) (rest := []) (lenOf own_pd0 rfl) rfl (by show 2 * 0 + _ ≤ _; exact Nat.le_of_eq rfl) (hb hby at_77) (fun _ _ => ⟨rfl, rfl, (by decide : 3 + 0 ≤ _), (by decide : 37 + 0 ≤ _)⟩)
    dsimp only [Pt.U, Pt.locs, Pt.cells, Pt.slots] at X163 l163 y163 z163 st163 hQ163
    subst l163 y163 z163
    obtain ⟨rfl, Nq163, Kq163, fa163, fb163, fc163, fd163, vv163⟩ := hQ163
    have N163 := Fr.app N160 Nq163
    have f164 := f161.keep Kq163
    have f165 := vv160.keep Kq163 (ninS (Ne.symm nb108) (ninS (Ne.symm nc108) nin0))
    have Zn163 : n0 ≤ T163.heap.size := Nat.le_trans Zn160 Kq163.1
    have fa163 : Fld Z T163.heap b101 "com/example/mursyn/mursyn/synthesis/SuccessorLists" "first" "[I" (.ref bf108) := fa163
    have fb163 : Fld Z T163.heap b101 "com/example/mursyn/mursyn/synthesis/SuccessorLists" "targets" "[I" (.ref bt108) := fb163
    have fc163 : Fld Z T163.heap b101 "com/example/mursyn/mursyn/synthesis/SuccessorLists" "edgeCount" "I" (.int (3 : Int32)) := fc163
    have fd163 : Fld Z T163.heap b101 "com/example/mursyn/mursyn/synthesis/SuccessorLists" "listed" "I" (.int (2 : Int32)) := fd163
    have vv163 : Arv Z T163.heap bf108 kf108 .int (17 : Int32) [(.int (0 : Int32)), (.int (2 : Int32)), (.int (3 : Int32)), (.int (0 : Int32)), (.int (0 : Int32)), (.int (0 : Int32)), (.int (0 : Int32)), (.int (0 : Int32)), (.int (0 : Int32)), (.int (0 : Int32)), (.int (0 : Int32)), (.int (0 : Int32)), (.int (0 : Int32)), (.int (0 : Int32)), (.int (0 : Int32)), (.int (0 : Int32)), (.int (0 : Int32))] (.int (0 : Int32)) := vv163
    refine own_pre (fun t k => st163.trans k) ?_
    show own_Ends _ _ _ _ (T163.setTop (mkF m 80 #[.val (.int p0), .val (.int p1), .val (.int p2), .val (.int p3), .val (.int p4), .val (.int (2 : Int32)), .val (.ref b101), .unset, .unset, .unset, .unset, .unset] []))
    refine own_pre (fun t k => XS.iload X163.here hx rfl (hb hby at_80) rfl k) ?_
    show own_Ends _ _ _ _ (T163.setTop (mkF m 82 #[.val (.int p0), .val (.int p1), .val (.int p2), .val (.int p3), .val (.int p4), .val (.int (2 : Int32)), .val (.ref b101), .unset, .unset, .unset, .unset, .unset] [(.int p4)]))
    refine own_pre (fun t k => XS.iconst X163.here hx rfl (hb hby at_82) k) ?_
    show own_Ends _ _ _ _ (T163.setTop (mkF m 83 #[.val (.int p0), .val (.int p1), .val (.int p2), .val (.int p3), .val (.int p4), .val (.int (2 : Int32)), .val (.ref b101), .unset, .unset, .unset, .unset, .unset] [(.int (1 : Int32)), (.int p4)]))
    refine own_pre (fun t k => XS.iand X163.here hx rfl (hb hby at_83) rfl k) ?_
    show own_Ends _ _ _ _ (T163.setTop (mkF m 84 #[.val (.int p0), .val (.int p1), .val (.int p2), .val (.int p3), .val (.int p4), .val (.int (2 : Int32)), .val (.ref b101), .unset, .unset, .unset, .unset, .unset] [(.int (p4 &&& (1 : Int32)))]))
    refine own_pre (fun t k => XS.istore X163.here hx rfl (hb hby at_84) rfl (l' := #[.val (.int p0), .val (.int p1), .val (.int p2), .val (.int p3), .val (.int p4), .val (.int (2 : Int32)), .val (.ref b101), .val (.int (p4 &&& (1 : Int32))), .unset, .unset, .unset, .unset]) rfl k) ?_
    show own_Ends _ _ _ _ (T163.setTop (mkF m 86 #[.val (.int p0), .val (.int p1), .val (.int p2), .val (.int p3), .val (.int p4), .val (.int (2 : Int32)), .val (.ref b101), .val (.int (p4 &&& (1 : Int32))), .unset, .unset, .unset, .unset] []))
    generalize hx7 : (p4 &&& (1 : Int32)) = x7
    show own_Ends _ _ _ _ (T163.setTop (mkF m 86 #[.val (.int p0), .val (.int p1), .val (.int p2), .val (.int p3), .val (.int p4), .val (.int (2 : Int32)), .val (.ref b101), .val (.int x7), .unset, .unset, .unset, .unset] []))
    refine own_pre (fun t k => XS.iload X163.here hx rfl (hb hby at_86) rfl k) ?_
    show own_Ends _ _ _ _ (T163.setTop (mkF m 88 #[.val (.int p0), .val (.int p1), .val (.int p2), .val (.int p3), .val (.int p4), .val (.int (2 : Int32)), .val (.ref b101), .val (.int x7), .unset, .unset, .unset, .unset] [(.int (2 : Int32))]))
    refine own_pre (fun t k => XS.ifYes X163.here hx rfl (pc0 := 88) (pc' := 94) rfl (hb hby at_88) rfl ((if0 _ _).trans (feq ((by decide) : ¬ ((2 : Int32) = (0 : Int32)))).2) (by decide) (by decide) k) ?_
    show own_Ends _ _ _ _ (T163.setTop (mkF m 94 #[.val (.int p0), .val (.int p1), .val (.int p2), .val (.int p3), .val (.int p4), .val (.int (2 : Int32)), .val (.ref b101), .val (.int x7), .unset, .unset, .unset, .unset] []))
    refine own_pre (fun t k => XS.iload X163.here hx rfl (hb hby at_94) rfl k) ?_
    show own_Ends _ _ _ _ (T163.setTop (mkF m 96 #[.val (.int p0), .val (.int p1), .val (.int p2), .val (.int p3), .val (.int p4), .val (.int (2 : Int32)), .val (.ref b101), .val (.int x7), .unset, .unset, .unset, .unset] [(.int (2 : Int32))]))
    refine own_pre (fun t k => XS.iconst X163.here hx rfl (hb hby at_96) k) ?_
    show own_Ends _ _ _ _ (T163.setTop (mkF m 97 #[.val (.int p0), .val (.int p1), .val (.int p2), .val (.int p3), .val (.int p4), .val (.int (2 : Int32)), .val (.ref b101), .val (.int x7), .unset, .unset, .unset, .unset] [(.int (3 : Int32)), (.int (2 : Int32))]))
    refine own_pre (fun t k => XS.icmpYes X163.here hx rfl (pc0 := 97) (pc' := 103) rfl (hb hby at_97) rfl (feq ((by decide) : ¬ ((2 : Int32) = (3 : Int32)))).2 (by decide) (by decide) k) ?_
    show own_Ends _ _ _ _ (T163.setTop (mkF m 103 #[.val (.int p0), .val (.int p1), .val (.int p2), .val (.int p3), .val (.int p4), .val (.int (2 : Int32)), .val (.ref b101), .val (.int x7), .unset, .unset, .unset, .unset] []))
    rcases own_c2 hx7 with hs166 | hs166
    · subst hs166
      show own_Ends _ _ _ _ (T163.setTop (mkF m 103 #[.val (.int p0), .val (.int p1), .val (.int p2), .val (.int p3), .val (.int p4), .val (.int (2 : Int32)), .val (.ref b101), .val (.int (0 : Int32)), .unset, .unset, .unset, .unset] []))
      refine own_pre (fun t k => XS.iload X163.here hx rfl (hb hby at_103) rfl k) ?_
      show own_Ends _ _ _ _ (T163.setTop (mkF m 105 #[.val (.int p0), .val (.int p1), .val (.int p2), .val (.int p3), .val (.int p4), .val (.int (2 : Int32)), .val (.ref b101), .val (.int (0 : Int32)), .unset, .unset, .unset, .unset] [(.int (0 : Int32))]))
      refine own_pre (fun t k => XS.ifNo X163.here hx rfl (hb hby at_105) rfl ((if0 _ _).trans (teq ((by decide) : (0 : Int32) = (0 : Int32))).2) k) ?_
      show own_Ends _ _ _ _ (T163.setTop (mkF m 108 #[.val (.int p0), .val (.int p1), .val (.int p2), .val (.int p3), .val (.int p4), .val (.int (2 : Int32)), .val (.ref b101), .val (.int (0 : Int32)), .unset, .unset, .unset, .unset] []))
      refine own_pre (fun t k => XS.iload X163.here hx rfl (hb hby at_108) rfl k) ?_
      show own_Ends _ _ _ _ (T163.setTop (mkF m 110 #[.val (.int p0), .val (.int p1), .val (.int p2), .val (.int p3), .val (.int p4), .val (.int (2 : Int32)), .val (.ref b101), .val (.int (0 : Int32)), .unset, .unset, .unset, .unset] [(.int (2 : Int32))]))
      refine own_pre (fun t k => XS.goto X163.here hx rfl (pc0 := 110) (pc' := 117) rfl (hb hby at_110) (by decide) (by decide) k) ?_
      show own_Ends _ _ _ _ (T163.setTop (mkF m 117 #[.val (.int p0), .val (.int p1), .val (.int p2), .val (.int p3), .val (.int p4), .val (.int (2 : Int32)), .val (.ref b101), .val (.int (0 : Int32)), .unset, .unset, .unset, .unset] [(.int (2 : Int32))]))
      refine own_pre (fun t k => XS.istore X163.here hx rfl (hb hby at_117) rfl (l' := #[.val (.int p0), .val (.int p1), .val (.int p2), .val (.int p3), .val (.int p4), .val (.int (2 : Int32)), .val (.ref b101), .val (.int (0 : Int32)), .val (.int (2 : Int32)), .unset, .unset, .unset]) rfl k) ?_
      show own_Ends _ _ _ _ (T163.setTop (mkF m 119 #[.val (.int p0), .val (.int p1), .val (.int p2), .val (.int p3), .val (.int p4), .val (.int (2 : Int32)), .val (.ref b101), .val (.int (0 : Int32)), .val (.int (2 : Int32)), .unset, .unset, .unset] []))
      refine own_pre (fun t k => XS.iload X163.here hx rfl (hb hby at_119) rfl k) ?_
      show own_Ends _ _ _ _ (T163.setTop (mkF m 121 #[.val (.int p0), .val (.int p1), .val (.int p2), .val (.int p3), .val (.int p4), .val (.int (2 : Int32)), .val (.ref b101), .val (.int (0 : Int32)), .val (.int (2 : Int32)), .unset, .unset, .unset] [(.int p4)]))
      refine own_pre (fun t k => XS.iconst X163.here hx rfl (hb hby at_121) k) ?_
      show own_Ends _ _ _ _ (T163.setTop (mkF m 122 #[.val (.int p0), .val (.int p1), .val (.int p2), .val (.int p3), .val (.int p4), .val (.int (2 : Int32)), .val (.ref b101), .val (.int (0 : Int32)), .val (.int (2 : Int32)), .unset, .unset, .unset] [(.int (1 : Int32)), (.int p4)]))
      refine own_pre (fun t k => XS.iushr X163.here hx rfl (hb hby at_122) rfl k) ?_
      show own_Ends _ _ _ _ (T163.setTop (mkF m 123 #[.val (.int p0), .val (.int p1), .val (.int p2), .val (.int p3), .val (.int p4), .val (.int (2 : Int32)), .val (.ref b101), .val (.int (0 : Int32)), .val (.int (2 : Int32)), .unset, .unset, .unset] [(.int (own_ushr p4 (1 : Int32)))]))
      refine own_pre (fun t k => XS.iload X163.here hx rfl (hb hby at_123) rfl k) ?_
      show own_Ends _ _ _ _ (T163.setTop (mkF m 125 #[.val (.int p0), .val (.int p1), .val (.int p2), .val (.int p3), .val (.int p4), .val (.int (2 : Int32)), .val (.ref b101), .val (.int (0 : Int32)), .val (.int (2 : Int32)), .unset, .unset, .unset] [(.int (2 : Int32)), (.int (own_ushr p4 (1 : Int32)))]))
      refine own_pre (fun t k => iremM X163 hx rfl (hb hby at_125) rfl (by decide) k) ?_
      show own_Ends _ _ _ _ (T163.setTop (mkF m 126 #[.val (.int p0), .val (.int p1), .val (.int p2), .val (.int p3), .val (.int p4), .val (.int (2 : Int32)), .val (.ref b101), .val (.int (0 : Int32)), .val (.int (2 : Int32)), .unset, .unset, .unset] [(.int ((own_ushr p4 (1 : Int32)) % (2 : Int32)))]))
      refine own_pre (fun t k => XS.istore X163.here hx rfl (hb hby at_126) rfl (l' := #[.val (.int p0), .val (.int p1), .val (.int p2), .val (.int p3), .val (.int p4), .val (.int (2 : Int32)), .val (.ref b101), .val (.int (0 : Int32)), .val (.int (2 : Int32)), .val (.int ((own_ushr p4 (1 : Int32)) % (2 : Int32))), .unset, .unset]) rfl k) ?_
      show own_Ends _ _ _ _ (T163.setTop (mkF m 128 #[.val (.int p0), .val (.int p1), .val (.int p2), .val (.int p3), .val (.int p4), .val (.int (2 : Int32)), .val (.ref b101), .val (.int (0 : Int32)), .val (.int (2 : Int32)), .val (.int ((own_ushr p4 (1 : Int32)) % (2 : Int32))), .unset, .unset] []))
      generalize hx9 : ((own_ushr p4 (1 : Int32)) % (2 : Int32)) = x9
      show own_Ends _ _ _ _ (T163.setTop (mkF m 128 #[.val (.int p0), .val (.int p1), .val (.int p2), .val (.int p3), .val (.int p4), .val (.int (2 : Int32)), .val (.ref b101), .val (.int (0 : Int32)), .val (.int (2 : Int32)), .val (.int x9), .unset, .unset] []))
      rcases own_r2 hx9 with hs167 | hs167
      · subst hs167
        show own_Ends _ _ _ _ (T163.setTop (mkF m 128 #[.val (.int p0), .val (.int p1), .val (.int p2), .val (.int p3), .val (.int p4), .val (.int (2 : Int32)), .val (.ref b101), .val (.int (0 : Int32)), .val (.int (2 : Int32)), .val (.int (0 : Int32)), .unset, .unset] []))
        refine own_pre (fun t k => XS.iload X163.here hx rfl (hb hby at_128) rfl k) ?_
        show own_Ends _ _ _ _ (T163.setTop (mkF m 130 #[.val (.int p0), .val (.int p1), .val (.int p2), .val (.int p3), .val (.int p4), .val (.int (2 : Int32)), .val (.ref b101), .val (.int (0 : Int32)), .val (.int (2 : Int32)), .val (.int (0 : Int32)), .unset, .unset] [(.int (0 : Int32))]))
        refine own_pre (fun t k => XS.ifNo X163.here hx rfl (hb hby at_130) rfl ((if0 _ _).trans (teq ((by decide) : (0 : Int32) = (0 : Int32))).2) k) ?_
        show own_Ends _ _ _ _ (T163.setTop (mkF m 133 #[.val (.int p0), .val (.int p1), .val (.int p2), .val (.int p3), .val (.int p4), .val (.int (2 : Int32)), .val (.ref b101), .val (.int (0 : Int32)), .val (.int (2 : Int32)), .val (.int (0 : Int32)), .unset, .unset] []))
        refine own_pre (fun t k => XS.iload X163.here hx rfl (hb hby at_133) rfl k) ?_
        show own_Ends _ _ _ _ (T163.setTop (mkF m 135 #[.val (.int p0), .val (.int p1), .val (.int p2), .val (.int p3), .val (.int p4), .val (.int (2 : Int32)), .val (.ref b101), .val (.int (0 : Int32)), .val (.int (2 : Int32)), .val (.int (0 : Int32)), .unset, .unset] [(.int (0 : Int32))]))
        refine own_pre (fun t k => XS.goto X163.here hx rfl (pc0 := 135) (pc' := 143) rfl (hb hby at_135) (by decide) (by decide) k) ?_
        show own_Ends _ _ _ _ (T163.setTop (mkF m 143 #[.val (.int p0), .val (.int p1), .val (.int p2), .val (.int p3), .val (.int p4), .val (.int (2 : Int32)), .val (.ref b101), .val (.int (0 : Int32)), .val (.int (2 : Int32)), .val (.int (0 : Int32)), .unset, .unset] [(.int (0 : Int32))]))
        refine own_pre (fun t k => XS.istore X163.here hx rfl (hb hby at_143) rfl (l' := #[.val (.int p0), .val (.int p1), .val (.int p2), .val (.int p3), .val (.int p4), .val (.int (2 : Int32)), .val (.ref b101), .val (.int (0 : Int32)), .val (.int (2 : Int32)), .val (.int (0 : Int32)), .val (.int (0 : Int32)), .unset]) rfl k) ?_
        show own_Ends _ _ _ _ (T163.setTop (mkF m 145 #[.val (.int p0), .val (.int p1), .val (.int p2), .val (.int p3), .val (.int p4), .val (.int (2 : Int32)), .val (.ref b101), .val (.int (0 : Int32)), .val (.int (2 : Int32)), .val (.int (0 : Int32)), .val (.int (0 : Int32)), .unset] []))
        refine own_pre (fun t k => XS.iload X163.here hx rfl (hb hby at_145) rfl k) ?_
        show own_Ends _ _ _ _ (T163.setTop (mkF m 147 #[.val (.int p0), .val (.int p1), .val (.int p2), .val (.int p3), .val (.int p4), .val (.int (2 : Int32)), .val (.ref b101), .val (.int (0 : Int32)), .val (.int (2 : Int32)), .val (.int (0 : Int32)), .val (.int (0 : Int32)), .unset] [(.int (0 : Int32))]))
        refine own_pre (fun t k => XS.ifNo X163.here hx rfl (hb hby at_147) rfl ((if0 _ _).trans (teq ((by decide) : (0 : Int32) = (0 : Int32))).2) k) ?_
        show own_Ends _ _ _ _ (T163.setTop (mkF m 150 #[.val (.int p0), .val (.int p1), .val (.int p2), .val (.int p3), .val (.int p4), .val (.int (2 : Int32)), .val (.ref b101), .val (.int (0 : Int32)), .val (.int (2 : Int32)), .val (.int (0 : Int32)), .val (.int (0 : Int32)), .unset] []))
        refine own_pre (fun t k => XS.iloadN X163.here hx rfl (hb hby at_150) rfl k) ?_
        show own_Ends _ _ _ _ (T163.setTop (mkF m 151 #[.val (.int p0), .val (.int p1), .val (.int p2), .val (.int p3), .val (.int p4), .val (.int (2 : Int32)), .val (.ref b101), .val (.int (0 : Int32)), .val (.int (2 : Int32)), .val (.int (0 : Int32)), .val (.int (0 : Int32)), .unset] [(.int p0)]))
        refine own_pre (fun t k => XS.istore X163.here hx rfl (hb hby at_151) rfl (l' := #[.val (.int p0), .val (.int p1), .val (.int p2), .val (.int p3), .val (.int p4), .val (.int (2 : Int32)), .val (.ref b101), .val (.int (0 : Int32)), .val (.int (2 : Int32)), .val (.int (0 : Int32)), .val (.int (0 : Int32)), .val (.int p0)]) rfl k) ?_
        show own_Ends _ _ _ _ (T163.setTop (mkF m 153 #[.val (.int p0), .val (.int p1), .val (.int p2), .val (.int p3), .val (.int p4), .val (.int (2 : Int32)), .val (.ref b101), .val (.int (0 : Int32)), .val (.int (2 : Int32)), .val (.int (0 : Int32)), .val (.int (0 : Int32)), .val (.int p0)] []))
        refine own_pre (fun t k => XS.goto X163.here hx rfl (pc0 := 153) (pc' := 171) rfl (hb hby at_153) (by decide) (by decide) k) ?_
        show own_Ends _ _ _ _ (T163.setTop (mkF m 171 #[.val (.int p0), .val (.int p1), .val (.int p2), .val (.int p3), .val (.int p4), .val (.int (2 : Int32)), .val (.ref b101), .val (.int (0 : Int32)), .val (.int (2 : Int32)), .val (.int (0 : Int32)), .val (.int (0 : Int32)), .val (.int p0)] []))
        refine own_pre (fun t k => XS.aload X163.here hx rfl (hb hby at_171) rfl rfl k) ?_
        show own_Ends _ _ _ _ (T163.setTop (mkF m 173 #[.val (.int p0), .val (.int p1), .val (.int p2), .val (.int p3), .val (.int p4), .val (.int (2 : Int32)), .val (.ref b101), .val (.int (0 : Int32)), .val (.int (2 : Int32)), .val (.int (0 : Int32)), .val (.int (0 : Int32)), .val (.int p0)] [(.ref b101)]))
        refine own_pre (fun t k => XS.iload X163.here hx rfl (hb hby at_173) rfl k) ?_
        show own_Ends _ _ _ _ (T163.setTop (mkF m 175 #[.val (.int p0), .val (.int p1), .val (.int p2), .val (.int p3), .val (.int p4), .val (.int (2 : Int32)), .val (.ref b101), .val (.int (0 : Int32)), .val (.int (2 : Int32)), .val (.int (0 : Int32)), .val (.int (0 : Int32)), .val (.int p0)] [(.int (0 : Int32)), (.ref b101)]))
        refine own_pre (fun t k => XS.iload X163.here hx rfl (hb hby at_175) rfl k) ?_
        show own_Ends _ _ _ _ (T163.setTop (mkF m 177 #[.val (.int p0), .val (.int p1), .val (.int p2), .val (.int p3), .val (.int p4), .val (.int (2 : Int32)), .val (.ref b101), .val (.int (0 : Int32)), .val (.int (2 : Int32)), .val (.int (0 : Int32)), .val (.int (0 : Int32)), .val (.int p0)] [(.int (0 : Int32)), (.int (0 : Int32)), (.ref b101)]))
        obtain ⟨cq168, kq168, q168a, q168b, q168c⟩ := isOf hZ rfl f164
        obtain ⟨_, _, ⟨T168, L168, k168, n168⟩, -, X168, ⟨Lc168, hQ168, l168, y168, z168⟩, st168⟩ := X163.virtualBack hx (y := (⟨"com/example/mursyn/mursyn/synthesis/SuccessorLists", "get", "(II)I"⟩ : MethodName)) (z := (⟨"com/example/mursyn/mursyn/synthesis/SuccessorLists", "get", "(II)I"⟩ : MethodName)) hown (mvT hZ (hw _ (List.mem_of_getElem? (i := 28) rfl))) (mvT hZ (hw _ (List.mem_of_getElem? (i := 29) rfl))) (notFace_of_selects (args := #[]) (mvT hZ (hw _ (List.mem_of_getElem? (i := 31) rfl)))) (mvT hZ (hw _ (List.mem_of_getElem? (i := 31) rfl))) (mvT hZ (hw _ (List.mem_of_getElem? (i := 30) rfl))) (by decide) (backOf (W := 0) (rm4 l Z a0 hw [] b101 (0 : Int32) (0 : Int32) bf108 bt108 kf108 kt108 [(.int (0 : Int32)), (.int (2 : Int32)), (.int (3 : Int32)), (.int (0 : Int32)), (.int (0 : Int32)), (.int (0 : Int32)), (.int (0 : Int32)), (.int (0 : Int32)), (.int (0 : Int32)), (.int (0 : Int32)), (.int (0 : Int32)), (.int (0 : Int32)), (.int (0 : Int32)), (.int (0 : Int32)), (.int (0 : Int32)), (.int (0 : Int32)), (.int (0 : Int32))] [(.int p0), (.int p1), (.int p2), (.int (0 : Int32)), (.int (0 : Int32)), (.int (0 : Int32)), (.int (0 : Int32)), (.int (0 : Int32)), (.int (0 : Int32)), (.int (0 : Int32)), (.int (0 : Int32)), (.int (0 : Int32)), (.int (0 : Int32)), (.int (0 : Int32)), (.int (0 : Int32)), (.int (0 : Int32))] (0 : Int32) p0 T163.heap n0 Zn163 fa163 fb163 vv163 f165 ⟨by decide, by decide⟩ rfl ⟨by decide, by decide⟩ rfl) hZ (hw _ (List.mem_of_getElem? (i := 32) rfl)) (hw _ (List.mem_of_getElem? (i := 2) rfl)) (by decide) (by decide)) q168a q168c (g := (mkF m 177 #[.val (.int p0), .val (.int p1), .val (.int p2), .val (.int p3), .val (.int p4), .val (.int (2 : Int32)), .val (.ref b101), .val (.int (0 : Int32)), .val (.int (2 : Int32)), .val (.int (0 : Int32)), .val (.int (0 : Int32)), .val (.int p0)] [(.int (0 : Int32)), (.int (0 : Int32)), (.ref b101)])) rfl (by rw [hml]; rfl) (Steps.refl _) (argsL := [(.int (0 : Int32)), (.int (0 : Int32))]) (rest := []) (lenOf own_pd2 rfl) rfl (by show 2 * 0 + _ ≤ _; exact Nat.le_of_eq rfl) (hb hby at_177) (fun _ _ => ⟨rfl, rfl, (by decide : 3 + 0 ≤ _), (by decide : 37 + 0 ≤ _)⟩)
        dsimp only [Pt.U, Pt.locs, Pt.cells, Pt.slots] at X168 l168 y168 z168 st168 hQ168
        subst l168 y168 z168
        obtain ⟨rfl, Nq168, e168⟩ := hQ168
        have N168 := Fr.app N163 Nq168
        refine own_pre (fun t k => st168.trans k) ?_
        show own_Ends _ _ _ _ (T168.setTop (mkF m 180 #[.val (.int p0), .val (.int p1), .val (.int p2), .val (.int p3), .val (.int p4), .val (.int (2 : Int32)), .val (.ref b101), .val (.int (0 : Int32)), .val (.int (2 : Int32)), .val (.int (0 : Int32)), .val (.int (0 : Int32)), .val (.int p0)] [(.int p0)]))
        refine own_pre (fun t k => XS.iload X168.here hx rfl (hb hby at_180) rfl k) ?_
        show own_Ends _ _ _ _ (T168.setTop (mkF m 182 #[.val (.int p0), .val (.int p1), .val (.int p2), .val (.int p3), .val (.int p4), .val (.int (2 : Int32)), .val (.ref b101), .val (.int (0 : Int32)), .val (.int (2 : Int32)), .val (.int (0 : Int32)), .val (.int (0 : Int32)), .val (.int p0)] [(.int p0), (.int p0)]))
        refine own_pre (fun t k => XS.icmpNo X168.here hx rfl (hb hby at_182) rfl (teq (rfl : p0 = p0)).2 k) ?_
        show own_Ends _ _ _ _ (T168.setTop (mkF m 185 #[.val (.int p0), .val (.int p1), .val (.int p2), .val (.int p3), .val (.int p4), .val (.int (2 : Int32)), .val (.ref b101), .val (.int (0 : Int32)), .val (.int (2 : Int32)), .val (.int (0 : Int32)), .val (.int (0 : Int32)), .val (.int p0)] []))
        refine own_pre (fun t k => XS.iconst X168.here hx rfl (hb hby at_185) k) ?_
        show own_Ends _ _ _ _ (T168.setTop (mkF m 186 #[.val (.int p0), .val (.int p1), .val (.int p2), .val (.int p3), .val (.int p4), .val (.int (2 : Int32)), .val (.ref b101), .val (.int (0 : Int32)), .val (.int (2 : Int32)), .val (.int (0 : Int32)), .val (.int (0 : Int32)), .val (.int p0)] [(.int (1 : Int32))]))
        refine own_pre (fun t k => XS.goto X168.here hx rfl (pc0 := 186) (pc' := 190) rfl (hb hby at_186) (by decide) (by decide) k) ?_
        show own_Ends _ _ _ _ (T168.setTop (mkF m 190 #[.val (.int p0), .val (.int p1), .val (.int p2), .val (.int p3), .val (.int p4), .val (.int (2 : Int32)), .val (.ref b101), .val (.int (0 : Int32)), .val (.int (2 : Int32)), .val (.int (0 : Int32)), .val (.int (0 : Int32)), .val (.int p0)] [(.int (1 : Int32))]))
        exact own_retN X168 hx (t := .boolean) Bd.returns (by simp) (hb hby at_190) hlk rfl e168 ⟨rfl, N168⟩ (by decide) (by decide)
      · subst hs167
        show own_Ends _ _ _ _ (T163.setTop (mkF m 128 #[.val (.int p0), .val (.int p1), .val (.int p2), .val (.int p3), .val (.int p4), .val (.int (2 : Int32)), .val (.ref b101), .val (.int (0 : Int32)), .val (.int (2 : Int32)), .val (.int (1 : Int32)), .unset, .unset] []))
        refine own_pre (fun t k => XS.iload X163.here hx rfl (hb hby at_128) rfl k) ?_
        show own_Ends _ _ _ _ (T163.setTop (mkF m 130 #[.val (.int p0), .val (.int p1), .val (.int p2), .val (.int p3), .val (.int p4), .val (.int (2 : Int32)), .val (.ref b101), .val (.int (0 : Int32)), .val (.int (2 : Int32)), .val (.int (1 : Int32)), .unset, .unset] [(.int (0 : Int32))]))
        refine own_pre (fun t k => XS.ifNo X163.here hx rfl (hb hby at_130) rfl ((if0 _ _).trans (teq ((by decide) : (0 : Int32) = (0 : Int32))).2) k) ?_
        show own_Ends _ _ _ _ (T163.setTop (mkF m 133 #[.val (.int p0), .val (.int p1), .val (.int p2), .val (.int p3), .val (.int p4), .val (.int (2 : Int32)), .val (.ref b101), .val (.int (0 : Int32)), .val (.int (2 : Int32)), .val (.int (1 : Int32)), .unset, .unset] []))
        refine own_pre (fun t k => XS.iload X163.here hx rfl (hb hby at_133) rfl k) ?_
        show own_Ends _ _ _ _ (T163.setTop (mkF m 135 #[.val (.int p0), .val (.int p1), .val (.int p2), .val (.int p3), .val (.int p4), .val (.int (2 : Int32)), .val (.ref b101), .val (.int (0 : Int32)), .val (.int (2 : Int32)), .val (.int (1 : Int32)), .unset, .unset] [(.int (1 : Int32))]))
        refine own_pre (fun t k => XS.goto X163.here hx rfl (pc0 := 135) (pc' := 143) rfl (hb hby at_135) (by decide) (by decide) k) ?_
        show own_Ends _ _ _ _ (T163.setTop (mkF m 143 #[.val (.int p0), .val (.int p1), .val (.int p2), .val (.int p3), .val (.int p4), .val (.int (2 : Int32)), .val (.ref b101), .val (.int (0 : Int32)), .val (.int (2 : Int32)), .val (.int (1 : Int32)), .unset, .unset] [(.int (1 : Int32))]))
        refine own_pre (fun t k => XS.istore X163.here hx rfl (hb hby at_143) rfl (l' := #[.val (.int p0), .val (.int p1), .val (.int p2), .val (.int p3), .val (.int p4), .val (.int (2 : Int32)), .val (.ref b101), .val (.int (0 : Int32)), .val (.int (2 : Int32)), .val (.int (1 : Int32)), .val (.int (1 : Int32)), .unset]) rfl k) ?_
        show own_Ends _ _ _ _ (T163.setTop (mkF m 145 #[.val (.int p0), .val (.int p1), .val (.int p2), .val (.int p3), .val (.int p4), .val (.int (2 : Int32)), .val (.ref b101), .val (.int (0 : Int32)), .val (.int (2 : Int32)), .val (.int (1 : Int32)), .val (.int (1 : Int32)), .unset] []))
        refine own_pre (fun t k => XS.iload X163.here hx rfl (hb hby at_145) rfl k) ?_
        show own_Ends _ _ _ _ (T163.setTop (mkF m 147 #[.val (.int p0), .val (.int p1), .val (.int p2), .val (.int p3), .val (.int p4), .val (.int (2 : Int32)), .val (.ref b101), .val (.int (0 : Int32)), .val (.int (2 : Int32)), .val (.int (1 : Int32)), .val (.int (1 : Int32)), .unset] [(.int (1 : Int32))]))
        refine own_pre (fun t k => XS.ifYes X163.here hx rfl (pc0 := 147) (pc' := 156) rfl (hb hby at_147) rfl ((if0 _ _).trans (feq ((by decide) : ¬ ((1 : Int32) = (0 : Int32)))).2) (by decide) (by decide) k) ?_
        show own_Ends _ _ _ _ (T163.setTop (mkF m 156 #[.val (.int p0), .val (.int p1), .val (.int p2), .val (.int p3), .val (.int p4), .val (.int (2 : Int32)), .val (.ref b101), .val (.int (0 : Int32)), .val (.int (2 : Int32)), .val (.int (1 : Int32)), .val (.int (1 : Int32)), .unset] []))
        refine own_pre (fun t k => XS.iload X163.here hx rfl (hb hby at_156) rfl k) ?_
        show own_Ends _ _ _ _ (T163.setTop (mkF m 158 #[.val (.int p0), .val (.int p1), .val (.int p2), .val (.int p3), .val (.int p4), .val (.int (2 : Int32)), .val (.ref b101), .val (.int (0 : Int32)), .val (.int (2 : Int32)), .val (.int (1 : Int32)), .val (.int (1 : Int32)), .unset] [(.int (1 : Int32))]))
        refine own_pre (fun t k => XS.iconst X163.here hx rfl (hb hby at_158) k) ?_
        show own_Ends _ _ _ _ (T163.setTop (mkF m 159 #[.val (.int p0), .val (.int p1), .val (.int p2), .val (.int p3), .val (.int p4), .val (.int (2 : Int32)), .val (.ref b101), .val (.int (0 : Int32)), .val (.int (2 : Int32)), .val (.int (1 : Int32)), .val (.int (1 : Int32)), .unset] [(.int (1 : Int32)), (.int (1 : Int32))]))
        refine own_pre (fun t k => XS.icmpNo X163.here hx rfl (hb hby at_159) rfl (teq ((by decide) : (1 : Int32) = (1 : Int32))).2 k) ?_
        show own_Ends _ _ _ _ (T163.setTop (mkF m 162 #[.val (.int p0), .val (.int p1), .val (.int p2), .val (.int p3), .val (.int p4), .val (.int (2 : Int32)), .val (.ref b101), .val (.int (0 : Int32)), .val (.int (2 : Int32)), .val (.int (1 : Int32)), .val (.int (1 : Int32)), .unset] []))
        refine own_pre (fun t k => XS.iloadN X163.here hx rfl (hb hby at_162) rfl k) ?_
        show own_Ends _ _ _ _ (T163.setTop (mkF m 163 #[.val (.int p0), .val (.int p1), .val (.int p2), .val (.int p3), .val (.int p4), .val (.int (2 : Int32)), .val (.ref b101), .val (.int (0 : Int32)), .val (.int (2 : Int32)), .val (.int (1 : Int32)), .val (.int (1 : Int32)), .unset] [(.int p1)]))
        refine own_pre (fun t k => XS.istore X163.here hx rfl (hb hby at_163) rfl (l' := #[.val (.int p0), .val (.int p1), .val (.int p2), .val (.int p3), .val (.int p4), .val (.int (2 : Int32)), .val (.ref b101), .val (.int (0 : Int32)), .val (.int (2 : Int32)), .val (.int (1 : Int32)), .val (.int (1 : Int32)), .val (.int p1)]) rfl k) ?_
        show own_Ends _ _ _ _ (T163.setTop (mkF m 165 #[.val (.int p0), .val (.int p1), .val (.int p2), .val (.int p3), .val (.int p4), .val (.int (2 : Int32)), .val (.ref b101), .val (.int (0 : Int32)), .val (.int (2 : Int32)), .val (.int (1 : Int32)), .val (.int (1 : Int32)), .val (.int p1)] []))
        refine own_pre (fun t k => XS.goto X163.here hx rfl (pc0 := 165) (pc' := 171) rfl (hb hby at_165) (by decide) (by decide) k) ?_
        show own_Ends _ _ _ _ (T163.setTop (mkF m 171 #[.val (.int p0), .val (.int p1), .val (.int p2), .val (.int p3), .val (.int p4), .val (.int (2 : Int32)), .val (.ref b101), .val (.int (0 : Int32)), .val (.int (2 : Int32)), .val (.int (1 : Int32)), .val (.int (1 : Int32)), .val (.int p1)] []))
        refine own_pre (fun t k => XS.aload X163.here hx rfl (hb hby at_171) rfl rfl k) ?_
        show own_Ends _ _ _ _ (T163.setTop (mkF m 173 #[.val (.int p0), .val (.int p1), .val (.int p2), .val (.int p3), .val (.int p4), .val (.int (2 : Int32)), .val (.ref b101), .val (.int (0 : Int32)), .val (.int (2 : Int32)), .val (.int (1 : Int32)), .val (.int (1 : Int32)), .val (.int p1)] [(.ref b101)]))
        refine own_pre (fun t k => XS.iload X163.here hx rfl (hb hby at_173) rfl k) ?_
        show own_Ends _ _ _ _ (T163.setTop (mkF m 175 #[.val (.int p0), .val (.int p1), .val (.int p2), .val (.int p3), .val (.int p4), .val (.int (2 : Int32)), .val (.ref b101), .val (.int (0 : Int32)), .val (.int (2 : Int32)), .val (.int (1 : Int32)), .val (.int (1 : Int32)), .val (.int p1)] [(.int (0 : Int32)), (.ref b101)]))
        refine own_pre (fun t k => XS.iload X163.here hx rfl (hb hby at_175) rfl k) ?_
        show own_Ends _ _ _ _ (T163.setTop (mkF m 177 #[.val (.int p0), .val (.int p1), .val (.int p2), .val (.int p3), .val (.int p4), .val (.int (2 : Int32)), .val (.ref b101), .val (.int (0 : Int32)), .val (.int (2 : Int32)), .val (.int (1 : Int32)), .val (.int (1 : Int32)), .val (.int p1)] [(.int (1 : Int32)), (.int (0 : Int32)), (.ref b101)]))
        obtain ⟨cq169, kq169, q169a, q169b, q169c⟩ := isOf hZ rfl f164
        obtain ⟨_, _, ⟨T169, L169, k169, n169⟩, -, X169, ⟨Lc169, hQ169, l169, y169, z169⟩, st169⟩ := X163.virtualBack hx (y := (⟨"com/example/mursyn/mursyn/synthesis/SuccessorLists", "get", "(II)I"⟩ : MethodName)) (z := (⟨"com/example/mursyn/mursyn/synthesis/SuccessorLists", "get", "(II)I"⟩ : MethodName)) hown (mvT hZ (hw _ (List.mem_of_getElem? (i := 28) rfl))) (mvT hZ (hw _ (List.mem_of_getElem? (i := 29) rfl))) (notFace_of_selects (args := #[]) (mvT hZ (hw _ (List.mem_of_getElem? (i := 31) rfl)))) (mvT hZ (hw _ (List.mem_of_getElem? (i := 31) rfl))) (mvT hZ (hw _ (List.mem_of_getElem? (i := 30) rfl))) (by decide) (backOf (W := 0) (rm4 l Z a0 hw [] b101 (0 : Int32) (1 : Int32) bf108 bt108 kf108 kt108 [(.int (0 : Int32)), (.int (2 : Int32)), (.int (3 : Int32)), (.int (0 : Int32)), (.int (0 : Int32)), (.int (0 : Int32)), (.int (0 : Int32)), (.int (0 : Int32)), (.int (0 : Int32)), (.int (0 : Int32)), (.int (0 : Int32)), (.int (0 : Int32)), (.int (0 : Int32)), (.int (0 : Int32)), (.int (0 : Int32)), (.int (0 : Int32)), (.int (0 : Int32))] [(.int p0), (.int p1), (.int p2), (.int (0 : Int32)), (.int (0 : Int32)), (.int (0 : Int32)), (.int (0 : Int32)), (.int (0 : Int32)), (.int (0 : Int32)), (.int (0 : Int32)), (.int (0 : Int32)), (.int (0 : Int32)), (.int (0 : Int32)), (.int (0 : Int32)), (.int (0 : Int32)), (.int (0 : Int32))] (0 : Int32) p1 T163.heap n0 Zn163 fa163 fb163 vv163 f165 ⟨by decide, by decide⟩ rfl ⟨by decide, by decide⟩ rfl) hZ (hw _ (List.mem_of_getElem? (i := 32) rfl)) (hw _ (List.mem_of_getElem? (i := 2) rfl)) (by decide) (by decide)) q169a q169c (g := (mkF m 177 #[.val (.int p0), .val (.int p1), .val (.int p2), .val (.int p3), .val (.int p4), .val (.int (2 : Int32)), .val (.ref b101), .val (.int (0 : Int32)), .val (.int (2 : Int32)), .val (.int (1 : Int32)), .val (.int (1 : Int32)), .val (.int p1)] [(.int (1 : Int32)), (.int (0 : Int32)), (.ref b101)])) rfl (by rw [hml]; rfl) (Steps.refl _) (argsL := [(.int (0 : Int32)), (.int (1 : Int32))]) (rest := []) (lenOf own_pd2 rfl) rfl (by show 2 * 0 + _ ≤ _; exact Nat.le_of_eq rfl) (hb hby at_177) (fun _ _ => ⟨rfl, rfl, (by decide : 3 + 0 ≤ _), (by decide : 37 + 0 ≤ _)⟩)
        dsimp only [Pt.U, Pt.locs, Pt.cells, Pt.slots] at X169 l169 y169 z169 st169 hQ169
        subst l169 y169 z169
        obtain ⟨rfl, Nq169, e169⟩ := hQ169
        have N169 := Fr.app N163 Nq169
        refine own_pre (fun t k => st169.trans k) ?_
        show own_Ends _ _ _ _ (T169.setTop (mkF m 180 #[.val (.int p0), .val (.int p1), .val (.int p2), .val (.int p3), .val (.int p4), .val (.int (2 : Int32)), .val (.ref b101), .val (.int (0 : Int32)), .val (.int (2 : Int32)), .val (.int (1 : Int32)), .val (.int (1 : Int32)), .val (.int p1)] [(.int p1)]))
        refine own_pre (fun t k => XS.iload X169.here hx rfl (hb hby at_180) rfl k) ?_
        show own_Ends _ _ _ _ (T169.setTop (mkF m 182 #[.val (.int p0), .val (.int p1), .val (.int p2), .val (.int p3), .val (.int p4), .val (.int (2 : Int32)), .val (.ref b101), .val (.int (0 : Int32)), .val (.int (2 : Int32)), .val (.int (1 : Int32)), .val (.int (1 : Int32)), .val (.int p1)] [(.int p1), (.int p1)]))
        refine own_pre (fun t k => XS.icmpNo X169.here hx rfl (hb hby at_182) rfl (teq (rfl : p1 = p1)).2 k) ?_
        show own_Ends _ _ _ _ (T169.setTop (mkF m 185 #[.val (.int p0), .val (.int p1), .val (.int p2), .val (.int p3), .val (.int p4), .val (.int (2 : Int32)), .val (.ref b101), .val (.int (0 : Int32)), .val (.int (2 : Int32)), .val (.int (1 : Int32)), .val (.int (1 : Int32)), .val (.int p1)] []))
        refine own_pre (fun t k => XS.iconst X169.here hx rfl (hb hby at_185) k) ?_
        show own_Ends _ _ _ _ (T169.setTop (mkF m 186 #[.val (.int p0), .val (.int p1), .val (.int p2), .val (.int p3), .val (.int p4), .val (.int (2 : Int32)), .val (.ref b101), .val (.int (0 : Int32)), .val (.int (2 : Int32)), .val (.int (1 : Int32)), .val (.int (1 : Int32)), .val (.int p1)] [(.int (1 : Int32))]))
        refine own_pre (fun t k => XS.goto X169.here hx rfl (pc0 := 186) (pc' := 190) rfl (hb hby at_186) (by decide) (by decide) k) ?_
        show own_Ends _ _ _ _ (T169.setTop (mkF m 190 #[.val (.int p0), .val (.int p1), .val (.int p2), .val (.int p3), .val (.int p4), .val (.int (2 : Int32)), .val (.ref b101), .val (.int (0 : Int32)), .val (.int (2 : Int32)), .val (.int (1 : Int32)), .val (.int (1 : Int32)), .val (.int p1)] [(.int (1 : Int32))]))
        exact own_retN X169 hx (t := .boolean) Bd.returns (by simp) (hb hby at_190) hlk rfl e169 ⟨rfl, N169⟩ (by decide) (by decide)
    · subst hs166
      show own_Ends _ _ _ _ (T163.setTop (mkF m 103 #[.val (.int p0), .val (.int p1), .val (.int p2), .val (.int p3), .val (.int p4), .val (.int (2 : Int32)), .val (.ref b101), .val (.int (1 : Int32)), .unset, .unset, .unset, .unset] []))
      refine own_pre (fun t k => XS.iload X163.here hx rfl (hb hby at_103) rfl k) ?_
      show own_Ends _ _ _ _ (T163.setTop (mkF m 105 #[.val (.int p0), .val (.int p1), .val (.int p2), .val (.int p3), .val (.int p4), .val (.int (2 : Int32)), .val (.ref b101), .val (.int (1 : Int32)), .unset, .unset, .unset, .unset] [(.int (1 : Int32))]))
      refine own_pre (fun t k => XS.ifYes X163.here hx rfl (pc0 := 105) (pc' := 113) rfl (hb hby at_105) rfl ((if0 _ _).trans (feq ((by decide) : ¬ ((1 : Int32) = (0 : Int32)))).2) (by decide) (by decide) k) ?_
      show own_Ends _ _ _ _ (T163.setTop (mkF m 113 #[.val (.int p0), .val (.int p1), .val (.int p2), .val (.int p3), .val (.int p4), .val (.int (2 : Int32)), .val (.ref b101), .val (.int (1 : Int32)), .unset, .unset, .unset, .unset] []))
      refine own_pre (fun t k => XS.iconst X163.here hx rfl (hb hby at_113) k) ?_
      show own_Ends _ _ _ _ (T163.setTop (mkF m 114 #[.val (.int p0), .val (.int p1), .val (.int p2), .val (.int p3), .val (.int p4), .val (.int (2 : Int32)), .val (.ref b101), .val (.int (1 : Int32)), .unset, .unset, .unset, .unset] [(.int (3 : Int32))]))
      refine own_pre (fun t k => XS.iload X163.here hx rfl (hb hby at_114) rfl k) ?_
      show own_Ends _ _ _ _ (T163.setTop (mkF m 116 #[.val (.int p0), .val (.int p1), .val (.int p2), .val (.int p3), .val (.int p4), .val (.int (2 : Int32)), .val (.ref b101), .val (.int (1 : Int32)), .unset, .unset, .unset, .unset] [(.int (2 : Int32)), (.int (3 : Int32))]))
      refine own_pre (fun t k => XS.isub X163.here hx rfl (hb hby at_116) rfl k) ?_
      show own_Ends _ _ _ _ (T163.setTop (mkF m 117 #[.val (.int p0), .val (.int p1), .val (.int p2), .val (.int p3), .val (.int p4), .val (.int (2 : Int32)), .val (.ref b101), .val (.int (1 : Int32)), .unset, .unset, .unset, .unset] [(.int (1 : Int32))]))
      refine own_pre (fun t k => XS.istore X163.here hx rfl (hb hby at_117) rfl (l' := #[.val (.int p0), .val (.int p1), .val (.int p2), .val (.int p3), .val (.int p4), .val (.int (2 : Int32)), .val (.ref b101), .val (.int (1 : Int32)), .val (.int (1 : Int32)), .unset, .unset, .unset]) rfl k) ?_
      show own_Ends _ _ _ _ (T163.setTop (mkF m 119 #[.val (.int p0), .val (.int p1), .val (.int p2), .val (.int p3), .val (.int p4), .val (.int (2 : Int32)), .val (.ref b101), .val (.int (1 : Int32)), .val (.int (1 : Int32)), .unset, .unset, .unset] []))
      refine own_pre (fun t k => XS.iload X163.here hx rfl (hb hby at_119) rfl k) ?_
      show own_Ends _ _ _ _ (T163.setTop (mkF m 121 #[.val (.int p0), .val (.int p1), .val (.int p2), .val (.int p3), .val (.int p4), .val (.int (2 : Int32)), .val (.ref b101), .val (.int (1 : Int32)), .val (.int (1 : Int32)), .unset, .unset, .unset] [(.int p4)]))
      refine own_pre (fun t k => XS.iconst X163.here hx rfl (hb hby at_121) k) ?_
      show own_Ends _ _ _ _ (T163.setTop (mkF m 122 #[.val (.int p0), .val (.int p1), .val (.int p2), .val (.int p3), .val (.int p4), .val (.int (2 : Int32)), .val (.ref b101), .val (.int (1 : Int32)), .val (.int (1 : Int32)), .unset, .unset, .unset] [(.int (1 : Int32)), (.int p4)]))
      refine own_pre (fun t k => XS.iushr X163.here hx rfl (hb hby at_122) rfl k) ?_
      show own_Ends _ _ _ _ (T163.setTop (mkF m 123 #[.val (.int p0), .val (.int p1), .val (.int p2), .val (.int p3), .val (.int p4), .val (.int (2 : Int32)), .val (.ref b101), .val (.int (1 : Int32)), .val (.int (1 : Int32)), .unset, .unset, .unset] [(.int (own_ushr p4 (1 : Int32)))]))
      refine own_pre (fun t k => XS.iload X163.here hx rfl (hb hby at_123) rfl k) ?_
      show own_Ends _ _ _ _ (T163.setTop (mkF m 125 #[.val (.int p0), .val (.int p1), .val (.int p2), .val (.int p3), .val (.int p4), .val (.int (2 : Int32)), .val (.ref b101), .val (.int (1 : Int32)), .val (.int (1 : Int32)), .unset, .unset, .unset] [(.int (1 : Int32)), (.int (own_ushr p4 (1 : Int32)))]))
      refine own_pre (fun t k => iremM X163 hx rfl (hb hby at_125) rfl (by decide) k) ?_
      show own_Ends _ _ _ _ (T163.setTop (mkF m 126 #[.val (.int p0), .val (.int p1), .val (.int p2), .val (.int p3), .val (.int p4), .val (.int (2 : Int32)), .val (.ref b101), .val (.int (1 : Int32)), .val (.int (1 : Int32)), .unset, .unset, .unset] [(.int ((own_ushr p4 (1 : Int32)) % (1 : Int32)))]))
      refine own_pre (fun t k => XS.istore X163.here hx rfl (hb hby at_126) rfl (l' := #[.val (.int p0), .val (.int p1), .val (.int p2), .val (.int p3), .val (.int p4), .val (.int (2 : Int32)), .val (.ref b101), .val (.int (1 : Int32)), .val (.int (1 : Int32)), .val (.int ((own_ushr p4 (1 : Int32)) % (1 : Int32))), .unset, .unset]) rfl k) ?_
      show own_Ends _ _ _ _ (T163.setTop (mkF m 128 #[.val (.int p0), .val (.int p1), .val (.int p2), .val (.int p3), .val (.int p4), .val (.int (2 : Int32)), .val (.ref b101), .val (.int (1 : Int32)), .val (.int (1 : Int32)), .val (.int ((own_ushr p4 (1 : Int32)) % (1 : Int32))), .unset, .unset] []))
      generalize hx9 : ((own_ushr p4 (1 : Int32)) % (1 : Int32)) = x9
      show own_Ends _ _ _ _ (T163.setTop (mkF m 128 #[.val (.int p0), .val (.int p1), .val (.int p2), .val (.int p3), .val (.int p4), .val (.int (2 : Int32)), .val (.ref b101), .val (.int (1 : Int32)), .val (.int (1 : Int32)), .val (.int x9), .unset, .unset] []))
      rcases own_r1 hx9 with hs170
      subst hs170
      show own_Ends _ _ _ _ (T163.setTop (mkF m 128 #[.val (.int p0), .val (.int p1), .val (.int p2), .val (.int p3), .val (.int p4), .val (.int (2 : Int32)), .val (.ref b101), .val (.int (1 : Int32)), .val (.int (1 : Int32)), .val (.int (0 : Int32)), .unset, .unset] []))
      refine own_pre (fun t k => XS.iload X163.here hx rfl (hb hby at_128) rfl k) ?_
      show own_Ends _ _ _ _ (T163.setTop (mkF m 130 #[.val (.int p0), .val (.int p1), .val (.int p2), .val (.int p3), .val (.int p4), .val (.int (2 : Int32)), .val (.ref b101), .val (.int (1 : Int32)), .val (.int (1 : Int32)), .val (.int (0 : Int32)), .unset, .unset] [(.int (1 : Int32))]))
      refine own_pre (fun t k => XS.ifYes X163.here hx rfl (pc0 := 130) (pc' := 138) rfl (hb hby at_130) rfl ((if0 _ _).trans (feq ((by decide) : ¬ ((1 : Int32) = (0 : Int32)))).2) (by decide) (by decide) k) ?_
      show own_Ends _ _ _ _ (T163.setTop (mkF m 138 #[.val (.int p0), .val (.int p1), .val (.int p2), .val (.int p3), .val (.int p4), .val (.int (2 : Int32)), .val (.ref b101), .val (.int (1 : Int32)), .val (.int (1 : Int32)), .val (.int (0 : Int32)), .unset, .unset] []))
      refine own_pre (fun t k => XS.iload X163.here hx rfl (hb hby at_138) rfl k) ?_
      show own_Ends _ _ _ _ (T163.setTop (mkF m 140 #[.val (.int p0), .val (.int p1), .val (.int p2), .val (.int p3), .val (.int p4), .val (.int (2 : Int32)), .val (.ref b101), .val (.int (1 : Int32)), .val (.int (1 : Int32)), .val (.int (0 : Int32)), .unset, .unset] [(.int (2 : Int32))]))
      refine own_pre (fun t k => XS.iload X163.here hx rfl (hb hby at_140) rfl k) ?_
      show own_Ends _ _ _ _ (T163.setTop (mkF m 142 #[.val (.int p0), .val (.int p1), .val (.int p2), .val (.int p3), .val (.int p4), .val (.int (2 : Int32)), .val (.ref b101), .val (.int (1 : Int32)), .val (.int (1 : Int32)), .val (.int (0 : Int32)), .unset, .unset] [(.int (0 : Int32)), (.int (2 : Int32))]))
      refine own_pre (fun t k => XS.iadd X163.here hx rfl (hb hby at_142) rfl k) ?_
      show own_Ends _ _ _ _ (T163.setTop (mkF m 143 #[.val (.int p0), .val (.int p1), .val (.int p2), .val (.int p3), .val (.int p4), .val (.int (2 : Int32)), .val (.ref b101), .val (.int (1 : Int32)), .val (.int (1 : Int32)), .val (.int (0 : Int32)), .unset, .unset] [(.int (2 : Int32))]))
      refine own_pre (fun t k => XS.istore X163.here hx rfl (hb hby at_143) rfl (l' := #[.val (.int p0), .val (.int p1), .val (.int p2), .val (.int p3), .val (.int p4), .val (.int (2 : Int32)), .val (.ref b101), .val (.int (1 : Int32)), .val (.int (1 : Int32)), .val (.int (0 : Int32)), .val (.int (2 : Int32)), .unset]) rfl k) ?_
      show own_Ends _ _ _ _ (T163.setTop (mkF m 145 #[.val (.int p0), .val (.int p1), .val (.int p2), .val (.int p3), .val (.int p4), .val (.int (2 : Int32)), .val (.ref b101), .val (.int (1 : Int32)), .val (.int (1 : Int32)), .val (.int (0 : Int32)), .val (.int (2 : Int32)), .unset] []))
      refine own_pre (fun t k => XS.iload X163.here hx rfl (hb hby at_145) rfl k) ?_
      show own_Ends _ _ _ _ (T163.setTop (mkF m 147 #[.val (.int p0), .val (.int p1), .val (.int p2), .val (.int p3), .val (.int p4), .val (.int (2 : Int32)), .val (.ref b101), .val (.int (1 : Int32)), .val (.int (1 : Int32)), .val (.int (0 : Int32)), .val (.int (2 : Int32)), .unset] [(.int (2 : Int32))]))
      refine own_pre (fun t k => XS.ifYes X163.here hx rfl (pc0 := 147) (pc' := 156) rfl (hb hby at_147) rfl ((if0 _ _).trans (feq ((by decide) : ¬ ((2 : Int32) = (0 : Int32)))).2) (by decide) (by decide) k) ?_
      show own_Ends _ _ _ _ (T163.setTop (mkF m 156 #[.val (.int p0), .val (.int p1), .val (.int p2), .val (.int p3), .val (.int p4), .val (.int (2 : Int32)), .val (.ref b101), .val (.int (1 : Int32)), .val (.int (1 : Int32)), .val (.int (0 : Int32)), .val (.int (2 : Int32)), .unset] []))
      refine own_pre (fun t k => XS.iload X163.here hx rfl (hb hby at_156) rfl k) ?_
      show own_Ends _ _ _ _ (T163.setTop (mkF m 158 #[.val (.int p0), .val (.int p1), .val (.int p2), .val (.int p3), .val (.int p4), .val (.int (2 : Int32)), .val (.ref b101), .val (.int (1 : Int32)), .val (.int (1 : Int32)), .val (.int (0 : Int32)), .val (.int (2 : Int32)), .unset] [(.int (2 : Int32))]))
      refine own_pre (fun t k => XS.iconst X163.here hx rfl (hb hby at_158) k) ?_
      show own_Ends _ _ _ _ (T163.setTop (mkF m 159 #[.val (.int p0), .val (.int p1), .val (.int p2), .val (.int p3), .val (.int p4), .val (.int (2 : Int32)), .val (.ref b101), .val (.int (1 : Int32)), .val (.int (1 : Int32)), .val (.int (0 : Int32)), .val (.int (2 : Int32)), .unset] [(.int (1 : Int32)), (.int (2 : Int32))]))
      refine own_pre (fun t k => XS.icmpYes X163.here hx rfl (pc0 := 159) (pc' := 168) rfl (hb hby at_159) rfl (feq ((by decide) : ¬ ((2 : Int32) = (1 : Int32)))).2 (by decide) (by decide) k) ?_
      show own_Ends _ _ _ _ (T163.setTop (mkF m 168 #[.val (.int p0), .val (.int p1), .val (.int p2), .val (.int p3), .val (.int p4), .val (.int (2 : Int32)), .val (.ref b101), .val (.int (1 : Int32)), .val (.int (1 : Int32)), .val (.int (0 : Int32)), .val (.int (2 : Int32)), .unset] []))
      refine own_pre (fun t k => XS.iloadN X163.here hx rfl (hb hby at_168) rfl k) ?_
      show own_Ends _ _ _ _ (T163.setTop (mkF m 169 #[.val (.int p0), .val (.int p1), .val (.int p2), .val (.int p3), .val (.int p4), .val (.int (2 : Int32)), .val (.ref b101), .val (.int (1 : Int32)), .val (.int (1 : Int32)), .val (.int (0 : Int32)), .val (.int (2 : Int32)), .unset] [(.int p2)]))
      refine own_pre (fun t k => XS.istore X163.here hx rfl (hb hby at_169) rfl (l' := #[.val (.int p0), .val (.int p1), .val (.int p2), .val (.int p3), .val (.int p4), .val (.int (2 : Int32)), .val (.ref b101), .val (.int (1 : Int32)), .val (.int (1 : Int32)), .val (.int (0 : Int32)), .val (.int (2 : Int32)), .val (.int p2)]) rfl k) ?_
      show own_Ends _ _ _ _ (T163.setTop (mkF m 171 #[.val (.int p0), .val (.int p1), .val (.int p2), .val (.int p3), .val (.int p4), .val (.int (2 : Int32)), .val (.ref b101), .val (.int (1 : Int32)), .val (.int (1 : Int32)), .val (.int (0 : Int32)), .val (.int (2 : Int32)), .val (.int p2)] []))
      refine own_pre (fun t k => XS.aload X163.here hx rfl (hb hby at_171) rfl rfl k) ?_
      show own_Ends _ _ _ _ (T163.setTop (mkF m 173 #[.val (.int p0), .val (.int p1), .val (.int p2), .val (.int p3), .val (.int p4), .val (.int (2 : Int32)), .val (.ref b101), .val (.int (1 : Int32)), .val (.int (1 : Int32)), .val (.int (0 : Int32)), .val (.int (2 : Int32)), .val (.int p2)] [(.ref b101)]))
      refine own_pre (fun t k => XS.iload X163.here hx rfl (hb hby at_173) rfl k) ?_
      show own_Ends _ _ _ _ (T163.setTop (mkF m 175 #[.val (.int p0), .val (.int p1), .val (.int p2), .val (.int p3), .val (.int p4), .val (.int (2 : Int32)), .val (.ref b101), .val (.int (1 : Int32)), .val (.int (1 : Int32)), .val (.int (0 : Int32)), .val (.int (2 : Int32)), .val (.int p2)] [(.int (1 : Int32)), (.ref b101)]))
      refine own_pre (fun t k => XS.iload X163.here hx rfl (hb hby at_175) rfl k) ?_
      show own_Ends _ _ _ _ (T163.setTop (mkF m 177 #[.val (.int p0), .val (.int p1), .val (.int p2), .val (.int p3), .val (.int p4), .val (.int (2 : Int32)), .val (.ref b101), .val (.int (1 : Int32)), .val (.int (1 : Int32)), .val (.int (0 : Int32)), .val (.int (2 : Int32)), .val (.int p2)] [(.int (0 : Int32)), (.int (1 : Int32)), (.ref b101)]))
      obtain ⟨cq171, kq171, q171a, q171b, q171c⟩ := isOf hZ rfl f164
      obtain ⟨_, _, ⟨T171, L171, k171, n171⟩, -, X171, ⟨Lc171, hQ171, l171, y171, z171⟩, st171⟩ := X163.virtualBack hx (y := (⟨"com/example/mursyn/mursyn/synthesis/SuccessorLists", "get", "(II)I"⟩ : MethodName)) (z := (⟨"com/example/mursyn/mursyn/synthesis/SuccessorLists", "get", "(II)I"⟩ : MethodName)) hown (mvT hZ (hw _ (List.mem_of_getElem? (i := 28) rfl))) (mvT hZ (hw _ (List.mem_of_getElem? (i := 29) rfl))) (notFace_of_selects (args := #[]) (mvT hZ (hw _ (List.mem_of_getElem? (i := 31) rfl)))) (mvT hZ (hw _ (List.mem_of_getElem? (i := 31) rfl))) (mvT hZ (hw _ (List.mem_of_getElem? (i := 30) rfl))) (by decide) (backOf (W := 0) (rm4 l Z a0 hw [] b101 (1 : Int32) (0 : Int32) bf108 bt108 kf108 kt108 [(.int (0 : Int32)), (.int (2 : Int32)), (.int (3 : Int32)), (.int (0 : Int32)), (.int (0 : Int32)), (.int (0 : Int32)), (.int (0 : Int32)), (.int (0 : Int32)), (.int (0 : Int32)), (.int (0 : Int32)), (.int (0 : Int32)), (.int (0 : Int32)), (.int (0 : Int32)), (.int (0 : Int32)), (.int (0 : Int32)), (.int (0 : Int32)), (.int (0 : Int32))] [(.int p0), (.int p1), (.int p2), (.int (0 : Int32)), (.int (0 : Int32)), (.int (0 : Int32)), (.int (0 : Int32)), (.int (0 : Int32)), (.int (0 : Int32)), (.int (0 : Int32)), (.int (0 : Int32)), (.int (0 : Int32)), (.int (0 : Int32)), (.int (0 : Int32)), (.int (0 : Int32)), (.int (0 : Int32))] (2 : Int32) p2 T163.heap n0 Zn163 fa163 fb163 vv163 f165 ⟨by decide, by decide⟩ rfl ⟨by decide, by decide⟩ rfl) hZ (hw _ (List.mem_of_getElem? (i := 32) rfl)) (hw _ (List.mem_of_getElem? (i := 2) rfl)) (by decide) (by decide)) q171a q171c (g := (mkF m 177 #[.val (.int p0), .val (.int p1), .val (.int p2), .val (.int p3), .val (.int p4), .val (.int (2 : Int32)), .val (.ref b101), .val (.int (1 : Int32)), .val (.int (1 : Int32)), .val (.int (0 : Int32)), .val (.int (2 : Int32)), .val (.int p2)] [(.int (0 : Int32)), (.int (1 : Int32)), (.ref b101)])) rfl (by rw [hml]; rfl) (Steps.refl _) (argsL := [(.int (1 : Int32)), (.int (0 : Int32))]) (rest := []) (lenOf own_pd2 rfl) rfl (by show 2 * 0 + _ ≤ _; exact Nat.le_of_eq rfl) (hb hby at_177) (fun _ _ => ⟨rfl, rfl, (by decide : 3 + 0 ≤ _), (by decide : 37 + 0 ≤ _)⟩)
      dsimp only [Pt.U, Pt.locs, Pt.cells, Pt.slots] at X171 l171 y171 z171 st171 hQ171
      subst l171 y171 z171
      obtain ⟨rfl, Nq171, e171⟩ := hQ171
      have N171 := Fr.app N163 Nq171
      refine own_pre (fun t k => st171.trans k) ?_
      show own_Ends _ _ _ _ (T171.setTop (mkF m 180 #[.val (.int p0), .val (.int p1), .val (.int p2), .val (.int p3), .val (.int p4), .val (.int (2 : Int32)), .val (.ref b101), .val (.int (1 : Int32)), .val (.int (1 : Int32)), .val (.int (0 : Int32)), .val (.int (2 : Int32)), .val (.int p2)] [(.int p2)]))
      refine own_pre (fun t k => XS.iload X171.here hx rfl (hb hby at_180) rfl k) ?_
      show own_Ends _ _ _ _ (T171.setTop (mkF m 182 #[.val (.int p0), .val (.int p1), .val (.int p2), .val (.int p3), .val (.int p4), .val (.int (2 : Int32)), .val (.ref b101), .val (.int (1 : Int32)), .val (.int (1 : Int32)), .val (.int (0 : Int32)), .val (.int (2 : Int32)), .val (.int p2)] [(.int p2), (.int p2)]))
      refine own_pre (fun t k => XS.icmpNo X171.here hx rfl (hb hby at_182) rfl (teq (rfl : p2 = p2)).2 k) ?_
      show own_Ends _ _ _ _ (T171.setTop (mkF m 185 #[.val (.int p0), .val (.int p1), .val (.int p2), .val (.int p3), .val (.int p4), .val (.int (2 : Int32)), .val (.ref b101), .val (.int (1 : Int32)), .val (.int (1 : Int32)), .val (.int (0 : Int32)), .val (.int (2 : Int32)), .val (.int p2)] []))
      refine own_pre (fun t k => XS.iconst X171.here hx rfl (hb hby at_185) k) ?_
      show own_Ends _ _ _ _ (T171.setTop (mkF m 186 #[.val (.int p0), .val (.int p1), .val (.int p2), .val (.int p3), .val (.int p4), .val (.int (2 : Int32)), .val (.ref b101), .val (.int (1 : Int32)), .val (.int (1 : Int32)), .val (.int (0 : Int32)), .val (.int (2 : Int32)), .val (.int p2)] [(.int (1 : Int32))]))
      refine own_pre (fun t k => XS.goto X171.here hx rfl (pc0 := 186) (pc' := 190) rfl (hb hby at_186) (by decide) (by decide) k) ?_
      show own_Ends _ _ _ _ (T171.setTop (mkF m 190 #[.val (.int p0), .val (.int p1), .val (.int p2), .val (.int p3), .val (.int p4), .val (.int (2 : Int32)), .val (.ref b101), .val (.int (1 : Int32)), .val (.int (1 : Int32)), .val (.int (0 : Int32)), .val (.int (2 : Int32)), .val (.int p2)] [(.int (1 : Int32))]))
      exact own_retN X171 hx (t := .boolean) Bd.returns (by simp) (hb hby at_190) hlk rfl e171 ⟨rfl, N171⟩ (by decide) (by decide)
  · subst hs110
    show own_Ends _ _ _ _ (T108.setTop (mkF m 14 #[.val (.int p0), .val (.int p1), .val (.int p2), .val (.int p3), .val (.int p4), .val (.int (3 : Int32)), .val (.ref b101), .unset, .unset, .unset, .unset, .unset] []))
    refine own_pre (fun t k => XS.iload X108.here hx rfl (hb hby at_14) rfl k) ?_
    show own_Ends _ _ _ _ (T108.setTop (mkF m 16 #[.val (.int p0), .val (.int p1), .val (.int p2), .val (.int p3), .val (.int p4), .val (.int (3 : Int32)), .val (.ref b101), .unset, .unset, .unset, .unset, .unset] [(.int (3 : Int32))]))
    refine own_pre (fun t k => XS.ifYes X108.here hx rfl (pc0 := 16) (pc' := 24) rfl (hb hby at_16) rfl ((if0 _ _).trans (feq ((by decide) : ¬ ((3 : Int32) = (0 : Int32)))).2) (by decide) (by decide) k) ?_
    show own_Ends _ _ _ _ (T108.setTop (mkF m 24 #[.val (.int p0), .val (.int p1), .val (.int p2), .val (.int p3), .val (.int p4), .val (.int (3 : Int32)), .val (.ref b101), .unset, .unset, .unset, .unset, .unset] []))
    refine own_pre (fun t k => XS.aload X108.here hx rfl (hb hby at_24) rfl rfl k) ?_
    show own_Ends _ _ _ _ (T108.setTop (mkF m 26 #[.val (.int p0), .val (.int p1), .val (.int p2), .val (.int p3), .val (.int p4), .val (.int (3 : Int32)), .val (.ref b101), .unset, .unset, .unset, .unset, .unset] [(.ref b101)]))
    refine own_pre (fun t k => XS.iloadN X108.here hx rfl (hb hby at_26) rfl k) ?_
    show own_Ends _ _ _ _ (T108.setTop (mkF m 27 #[.val (.int p0), .val (.int p1), .val (.int p2), .val (.int p3), .val (.int p4), .val (.int (3 : Int32)), .val (.ref b101), .unset, .unset, .unset, .unset, .unset] [(.int p0), (.ref b101)]))
    obtain ⟨cq172, kq172, q172a, q172b, q172c⟩ := isOf hZ rfl f109
    obtain ⟨_, _, ⟨T172, L172, k172, n172⟩, -, X172, ⟨Lc172, hQ172, l172, y172, z172⟩, st172⟩ := X108.virtualBack hx (y := (⟨"com/example/mursyn/mursyn/synthesis/SuccessorLists", "add", "(I)V"⟩ : MethodName)) (z := (⟨"com/example/mursyn/mursyn/synthesis/SuccessorLists", "add", "(I)V"⟩ : MethodName)) hown (mvT hZ (hw _ (List.mem_of_getElem? (i := 14) rfl))) (mvT hZ (hw _ (List.mem_of_getElem? (i := 15) rfl))) (notFace_of_selects (args := #[]) (mvT hZ (hw _ (List.mem_of_getElem? (i := 17) rfl)))) (mvT hZ (hw _ (List.mem_of_getElem? (i := 17) rfl))) (mvT hZ (hw _ (List.mem_of_getElem? (i := 16) rfl))) (by decide) (backOf (W := 0) (rm2 l Z a0 hw [] b101 p0 bf108 bt108 (0 : Int32) (0 : Int32) kt108 [(.int (0 : Int32)), (.int (0 : Int32)), (.int (0 : Int32)), (.int (0 : Int32)), (.int (0 : Int32)), (.int (0 : Int32)), (.int (0 : Int32)), (.int (0 : Int32)), (.int (0 : Int32)), (.int (0 : Int32)), (.int (0 : Int32)), (.int (0 : Int32)), (.int (0 : Int32)), (.int (0 : Int32)), (.int (0 : Int32)), (.int (0 : Int32))]  T108.heap n0 Zn108 f109 L102 lb108 nb108 fa108 fb108 fc108 fd108 vb108 (by decide) ⟨by decide, by decide⟩ (Nat.le_of_ble_eq_true rfl)) hZ (hw _ (List.mem_of_getElem? (i := 18) rfl)) (hw _ (List.mem_of_getElem? (i := 2) rfl)) (by decide) (by decide)) q172a q172c (g := (mkF m 27 #[.val (.int p0), .val (.int p1), .val (.int p2), .val (.int p3), .val (.int p4), .val (.int (3 : Int32)), .val (.ref b101), .unset, .unset, .unset, .unset, .unset] [(.int p0), (.ref b101)])) rfl (by rw [hml]; rfl) (Steps.refl _) (argsL := [(.int p0)]) (rest := []) (lenOf own_pd1 rfl) rfl (by show 2 * 0 + _ ≤ _; exact Nat.le_of_eq rfl) (hb hby at_27) (fun _ _ => ⟨rfl, rfl, (by decide : 3 + 0 ≤ _), (by decide : 37 + 0 ≤ _)⟩)
    dsimp only [Pt.U, Pt.locs, Pt.cells, Pt.slots] at X172 l172 y172 z172 st172 hQ172
    subst l172 y172 z172
    obtain ⟨rfl, Nq172, Kq172, fa172, fb172, fc172, fd172, vv172⟩ := hQ172
    have N172 := Fr.app N108 Nq172
    have f173 := f109.keep Kq172
    have f174 := va108.keep Kq172 (ninS (Ne.symm na108) (ninS nc108 nin0))
    have Zn172 : n0 ≤ T172.heap.size := Nat.le_trans Zn108 Kq172.1
    have fa172 : Fld Z T172.heap b101 "com/example/mursyn/mursyn/synthesis/SuccessorLists" "first" "[I" (.ref bf108) := fa172
    have fb172 : Fld Z T172.heap b101 "com/example/mursyn/mursyn/synthesis/SuccessorLists" "targets" "[I" (.ref bt108) := fb172
    have fc172 : Fld Z T172.heap b101 "com/example/mursyn/mursyn/synthesis/SuccessorLists" "edgeCount" "I" (.int (1 : Int32)) := fc172
    have fd172 : Fld Z T172.heap b101 "com/example/mursyn/mursyn/synthesis/SuccessorLists" "listed" "I" (.int (0 : Int32)) := fd172
    have vv172 : Arv Z T172.heap bt108 kt108 .int (16 : Int32) [(.int p0), (.int (0 : Int32)), (.int (0 : Int32)), (.int (0 : Int32)), (.int (0 : Int32)), (.int (0 : Int32)), (.int (0 : Int32)), (.int (0 : Int32)), (.int (0 : Int32)), (.int (0 : Int32)), (.int (0 : Int32)), (.int (0 : Int32)), (.int (0 : Int32)), (.int (0 : Int32)), (.int (0 : Int32)), (.int (0 : Int32))] (.int (0 : Int32)) := vv172
    refine own_pre (fun t k => st172.trans k) ?_
    show own_Ends _ _ _ _ (T172.setTop (mkF m 30 #[.val (.int p0), .val (.int p1), .val (.int p2), .val (.int p3), .val (.int p4), .val (.int (3 : Int32)), .val (.ref b101), .unset, .unset, .unset, .unset, .unset] []))
    refine own_pre (fun t k => XS.iload X172.here hx rfl (hb hby at_30) rfl k) ?_
    show own_Ends _ _ _ _ (T172.setTop (mkF m 32 #[.val (.int p0), .val (.int p1), .val (.int p2), .val (.int p3), .val (.int p4), .val (.int (3 : Int32)), .val (.ref b101), .unset, .unset, .unset, .unset, .unset] [(.int (3 : Int32))]))
    refine own_pre (fun t k => XS.iconst X172.here hx rfl (hb hby at_32) k) ?_
    show own_Ends _ _ _ _ (T172.setTop (mkF m 33 #[.val (.int p0), .val (.int p1), .val (.int p2), .val (.int p3), .val (.int p4), .val (.int (3 : Int32)), .val (.ref b101), .unset, .unset, .unset, .unset, .unset] [(.int (1 : Int32)), (.int (3 : Int32))]))
    refine own_pre (fun t k => XS.icmpYes X172.here hx rfl (pc0 := 33) (pc' := 41) rfl (hb hby at_33) rfl (feq ((by decide) : ¬ ((3 : Int32) = (1 : Int32)))).2 (by decide) (by decide) k) ?_
    show own_Ends _ _ _ _ (T172.setTop (mkF m 41 #[.val (.int p0), .val (.int p1), .val (.int p2), .val (.int p3), .val (.int p4), .val (.int (3 : Int32)), .val (.ref b101), .unset, .unset, .unset, .unset, .unset] []))
    refine own_pre (fun t k => XS.aload X172.here hx rfl (hb hby at_41) rfl rfl k) ?_
    show own_Ends _ _ _ _ (T172.setTop (mkF m 43 #[.val (.int p0), .val (.int p1), .val (.int p2), .val (.int p3), .val (.int p4), .val (.int (3 : Int32)), .val (.ref b101), .unset, .unset, .unset, .unset, .unset] [(.ref b101)]))
    refine own_pre (fun t k => XS.iloadN X172.here hx rfl (hb hby at_43) rfl k) ?_
    show own_Ends _ _ _ _ (T172.setTop (mkF m 44 #[.val (.int p0), .val (.int p1), .val (.int p2), .val (.int p3), .val (.int p4), .val (.int (3 : Int32)), .val (.ref b101), .unset, .unset, .unset, .unset, .unset] [(.int p1), (.ref b101)]))
    obtain ⟨cq175, kq175, q175a, q175b, q175c⟩ := isOf hZ rfl f173
    obtain ⟨_, _, ⟨T175, L175, k175, n175⟩, -, X175, ⟨Lc175, hQ175, l175, y175, z175⟩, st175⟩ := X172.virtualBack hx (y := (⟨"com/example/mursyn/mursyn/synthesis/SuccessorLists", "add", "(I)V"⟩ : MethodName)) (z := (⟨"com/example/mursyn/mursyn/synthesis/SuccessorLists", "add", "(I)V"⟩ : MethodName)) hown (mvT hZ (hw _ (List.mem_of_getElem? (i := 14) rfl))) (mvT hZ (hw _ (List.mem_of_getElem? (i := 15) rfl))) (notFace_of_selects (args := #[]) (mvT hZ (hw _ (List.mem_of_getElem? (i := 17) rfl)))) (mvT hZ (hw _ (List.mem_of_getElem? (i := 17) rfl))) (mvT hZ (hw _ (List.mem_of_getElem? (i := 16) rfl))) (by decide) (backOf (W := 0) (rm2 l Z a0 hw [] b101 p1 bf108 bt108 (1 : Int32) (0 : Int32) kt108 [(.int p0), (.int (0 : Int32)), (.int (0 : Int32)), (.int (0 : Int32)), (.int (0 : Int32)), (.int (0 : Int32)), (.int (0 : Int32)), (.int (0 : Int32)), (.int (0 : Int32)), (.int (0 : Int32)), (.int (0 : Int32)), (.int (0 : Int32)), (.int (0 : Int32)), (.int (0 : Int32)), (.int (0 : Int32)), (.int (0 : Int32))]  T172.heap n0 Zn172 f173 L102 lb108 nb108 fa172 fb172 fc172 fd172 vv172 (by decide) ⟨by decide, by decide⟩ (Nat.le_of_ble_eq_true rfl)) hZ (hw _ (List.mem_of_getElem? (i := 18) rfl)) (hw _ (List.mem_of_getElem? (i := 2) rfl)) (by decide) (by decide)) q175a q175c (g := (mkF m 44 #[.val (.int p0), .val (.int p1), .val (.int p2), .val (.int p3), .val (.int p4), .val (.int (3 : Int32)), .val (.ref b101), .unset, .unset, .unset, .unset, .unset] [(.int p1), (.ref b101)])) rfl (by rw [hml]; rfl) (Steps.refl _) (argsL := [(.int p1)]) (rest := []) (lenOf own_pd1 rfl) rfl (by show 2 * 0 + _ ≤ _; exact Nat.le_of_eq rfl) (hb hby at_44) (fun _ _ => ⟨rfl, rfl, (by decide : 3 + 0 ≤ _), (by decide : 37 + 0 ≤ _)⟩)
    dsimp only [Pt.U, Pt.locs, Pt.cells, Pt.slots] at X175 l175 y175 z175 st175 hQ175
    subst l175 y175 z175
    obtain ⟨rfl, Nq175, Kq175, fa175, fb175, fc175, fd175, vv175⟩ := hQ175
    have N175 := Fr.app N172 Nq175
    have f176 := f173.keep Kq175
    have f177 := f174.keep Kq175 (ninS (Ne.symm na108) (ninS nc108 nin0))
    have Zn175 : n0 ≤ T175.heap.size := Nat.le_trans Zn172 Kq175.1
    have fa175 : Fld Z T175.heap b101 "com/example/mursyn/mursyn/synthesis/SuccessorLists" "first" "[I" (.ref bf108) := fa175
    have fb175 : Fld Z T175.heap b101 "com/example/mursyn/mursyn/synthesis/SuccessorLists" "targets" "[I" (.ref bt108) := fb175
    have fc175 : Fld Z T175.heap b101 "com/example/mursyn/mursyn/synthesis/SuccessorLists" "edgeCount" "I" (.int (2 : Int32)) := fc175
    have fd175 : Fld Z T175.heap b101 "com/example/mursyn/mursyn/synthesis/SuccessorLists" "listed" "I" (.int (0 : Int32)) := fd175
    have vv175 : Arv Z T175.heap bt108 kt108 .int (16 : Int32) [(.int p0), (.int p1), (.int (0 : Int32)), (.int (0 : Int32)), (.int (0 : Int32)), (.int (0 : Int32)), (.int (0 : Int32)), (.int (0 : Int32)), (.int (0 : Int32)), (.int (0 : Int32)), (.int (0 : Int32)), (.int (0 : Int32)), (.int (0 : Int32)), (.int (0 : Int32)), (.int (0 : Int32)), (.int (0 : Int32))] (.int (0 : Int32)) := vv175
    refine own_pre (fun t k => st175.trans k) ?_
    show own_Ends _ _ _ _ (T175.setTop (mkF m 47 #[.val (.int p0), .val (.int p1), .val (.int p2), .val (.int p3), .val (.int p4), .val (.int (3 : Int32)), .val (.ref b101), .unset, .unset, .unset, .unset, .unset] []))
    refine own_pre (fun t k => XS.iload X175.here hx rfl (hb hby at_47) rfl k) ?_
    show own_Ends _ _ _ _ (T175.setTop (mkF m 49 #[.val (.int p0), .val (.int p1), .val (.int p2), .val (.int p3), .val (.int p4), .val (.int (3 : Int32)), .val (.ref b101), .unset, .unset, .unset, .unset, .unset] [(.int (3 : Int32))]))
    refine own_pre (fun t k => XS.iconst X175.here hx rfl (hb hby at_49) k) ?_
    show own_Ends _ _ _ _ (T175.setTop (mkF m 50 #[.val (.int p0), .val (.int p1), .val (.int p2), .val (.int p3), .val (.int p4), .val (.int (3 : Int32)), .val (.ref b101), .unset, .unset, .unset, .unset, .unset] [(.int (2 : Int32)), (.int (3 : Int32))]))
    refine own_pre (fun t k => XS.icmpYes X175.here hx rfl (pc0 := 50) (pc' := 58) rfl (hb hby at_50) rfl (feq ((by decide) : ¬ ((3 : Int32) = (2 : Int32)))).2 (by decide) (by decide) k) ?_
    show own_Ends _ _ _ _ (T175.setTop (mkF m 58 #[.val (.int p0), .val (.int p1), .val (.int p2), .val (.int p3), .val (.int p4), .val (.int (3 : Int32)), .val (.ref b101), .unset, .unset, .unset, .unset, .unset] []))
    refine own_pre (fun t k => XS.aload X175.here hx rfl (hb hby at_58) rfl rfl k) ?_
    show own_Ends _ _ _ _ (T175.setTop (mkF m 60 #[.val (.int p0), .val (.int p1), .val (.int p2), .val (.int p3), .val (.int p4), .val (.int (3 : Int32)), .val (.ref b101), .unset, .unset, .unset, .unset, .unset] [(.ref b101)]))
    refine own_pre (fun t k => XS.iloadN X175.here hx rfl (hb hby at_60) rfl k) ?_
    show own_Ends _ _ _ _ (T175.setTop (mkF m 61 #[.val (.int p0), .val (.int p1), .val (.int p2), .val (.int p3), .val (.int p4), .val (.int (3 : Int32)), .val (.ref b101), .unset, .unset, .unset, .unset, .unset] [(.int p2), (.ref b101)]))
    obtain ⟨cq178, kq178, q178a, q178b, q178c⟩ := isOf hZ rfl f176
    obtain ⟨_, _, ⟨T178, L178, k178, n178⟩, -, X178, ⟨Lc178, hQ178, l178, y178, z178⟩, st178⟩ := X175.virtualBack hx (y := (⟨"com/example/mursyn/mursyn/synthesis/SuccessorLists", "add", "(I)V"⟩ : MethodName)) (z := (⟨"com/example/mursyn/mursyn/synthesis/SuccessorLists", "add", "(I)V"⟩ : MethodName)) hown (mvT hZ (hw _ (List.mem_of_getElem? (i := 14) rfl))) (mvT hZ (hw _ (List.mem_of_getElem? (i := 15) rfl))) (notFace_of_selects (args := #[]) (mvT hZ (hw _ (List.mem_of_getElem? (i := 17) rfl)))) (mvT hZ (hw _ (List.mem_of_getElem? (i := 17) rfl))) (mvT hZ (hw _ (List.mem_of_getElem? (i := 16) rfl))) (by decide) (backOf (W := 0) (rm2 l Z a0 hw [] b101 p2 bf108 bt108 (2 : Int32) (0 : Int32) kt108 [(.int p0), (.int p1), (.int (0 : Int32)), (.int (0 : Int32)), (.int (0 : Int32)), (.int (0 : Int32)), (.int (0 : Int32)), (.int (0 : Int32)), (.int (0 : Int32)), (.int (0 : Int32)), (.int (0 : Int32)), (.int (0 : Int32)), (.int (0 : Int32)), (.int (0 : Int32)), (.int (0 : Int32)), (.int (0 : Int32))]  T175.heap n0 Zn175 f176 L102 lb108 nb108 fa175 fb175 fc175 fd175 vv175 (by decide) ⟨by decide, by decide⟩ (Nat.le_of_ble_eq_true rfl)) hZ (hw _ (List.mem_of_getElem? (i := 18) rfl)) (hw _ (List.mem_of_getElem? (i := 2) rfl)) (by decide) (by decide)) q178a q178c (g := (mkF m 61 #[.val (.int p0), .val (.int p1), .val (.int p2), .val (.int p3), .val (.int p4), .val (.int (3 : Int32)), .val (.ref b101), .unset, .unset, .unset, .unset, .unset] [(.int p2), (.ref b101)])) rfl (by rw [hml]; rfl) (Steps.refl _) (argsL := [(.int p2)]) (rest := []) (lenOf own_pd1 rfl) rfl (by show 2 * 0 + _ ≤ _; exact Nat.le_of_eq rfl) (hb hby at_61) (fun _ _ => ⟨rfl, rfl, (by decide : 3 + 0 ≤ _), (by decide : 37 + 0 ≤ _)⟩)
    dsimp only [Pt.U, Pt.locs, Pt.cells, Pt.slots] at X178 l178 y178 z178 st178 hQ178
    subst l178 y178 z178
    obtain ⟨rfl, Nq178, Kq178, fa178, fb178, fc178, fd178, vv178⟩ := hQ178
    have N178 := Fr.app N175 Nq178
    have f179 := f176.keep Kq178
    have f180 := f177.keep Kq178 (ninS (Ne.symm na108) (ninS nc108 nin0))
    have Zn178 : n0 ≤ T178.heap.size := Nat.le_trans Zn175 Kq178.1
    have fa178 : Fld Z T178.heap b101 "com/example/mursyn/mursyn/synthesis/SuccessorLists" "first" "[I" (.ref bf108) := fa178
    have fb178 : Fld Z T178.heap b101 "com/example/mursyn/mursyn/synthesis/SuccessorLists" "targets" "[I" (.ref bt108) := fb178
    have fc178 : Fld Z T178.heap b101 "com/example/mursyn/mursyn/synthesis/SuccessorLists" "edgeCount" "I" (.int (3 : Int32)) := fc178
    have fd178 : Fld Z T178.heap b101 "com/example/mursyn/mursyn/synthesis/SuccessorLists" "listed" "I" (.int (0 : Int32)) := fd178
    have vv178 : Arv Z T178.heap bt108 kt108 .int (16 : Int32) [(.int p0), (.int p1), (.int p2), (.int (0 : Int32)), (.int (0 : Int32)), (.int (0 : Int32)), (.int (0 : Int32)), (.int (0 : Int32)), (.int (0 : Int32)), (.int (0 : Int32)), (.int (0 : Int32)), (.int (0 : Int32)), (.int (0 : Int32)), (.int (0 : Int32)), (.int (0 : Int32)), (.int (0 : Int32))] (.int (0 : Int32)) := vv178
    refine own_pre (fun t k => st178.trans k) ?_
    show own_Ends _ _ _ _ (T178.setTop (mkF m 64 #[.val (.int p0), .val (.int p1), .val (.int p2), .val (.int p3), .val (.int p4), .val (.int (3 : Int32)), .val (.ref b101), .unset, .unset, .unset, .unset, .unset] []))
    refine own_pre (fun t k => XS.iload X178.here hx rfl (hb hby at_64) rfl k) ?_
    show own_Ends _ _ _ _ (T178.setTop (mkF m 66 #[.val (.int p0), .val (.int p1), .val (.int p2), .val (.int p3), .val (.int p4), .val (.int (3 : Int32)), .val (.ref b101), .unset, .unset, .unset, .unset, .unset] [(.int (3 : Int32))]))
    refine own_pre (fun t k => XS.iconst X178.here hx rfl (hb hby at_66) k) ?_
    show own_Ends _ _ _ _ (T178.setTop (mkF m 67 #[.val (.int p0), .val (.int p1), .val (.int p2), .val (.int p3), .val (.int p4), .val (.int (3 : Int32)), .val (.ref b101), .unset, .unset, .unset, .unset, .unset] [(.int (3 : Int32)), (.int (3 : Int32))]))
    refine own_pre (fun t k => XS.icmpNo X178.here hx rfl (hb hby at_67) rfl (teq ((by decide) : (3 : Int32) = (3 : Int32))).2 k) ?_
    show own_Ends _ _ _ _ (T178.setTop (mkF m 70 #[.val (.int p0), .val (.int p1), .val (.int p2), .val (.int p3), .val (.int p4), .val (.int (3 : Int32)), .val (.ref b101), .unset, .unset, .unset, .unset, .unset] []))
    refine own_pre (fun t k => XS.aload X178.here hx rfl (hb hby at_70) rfl rfl k) ?_
    show own_Ends _ _ _ _ (T178.setTop (mkF m 72 #[.val (.int p0), .val (.int p1), .val (.int p2), .val (.int p3), .val (.int p4), .val (.int (3 : Int32)), .val (.ref b101), .unset, .unset, .unset, .unset, .unset] [(.ref b101)]))
    obtain ⟨cq181, kq181, q181a, q181b, q181c⟩ := isOf hZ rfl f179
    obtain ⟨_, _, ⟨T181, L181, k181, n181⟩, -, X181, ⟨Lc181, hQ181, l181, y181, z181⟩, st181⟩ := X178.virtualBack hx (y := (⟨"com/example/mursyn/mursyn/synthesis/SuccessorLists", "close", "()V"⟩ : MethodName)) (z := (⟨"com/example/mursyn/mursyn/synthesis/SuccessorLists", "close", "()V"⟩ : MethodName)) hown (mvT hZ (hw _ (List.mem_of_getElem? (i := 21) rfl))) (mvT hZ (hw _ (List.mem_of_getElem? (i := 22) rfl))) (notFace_of_selects (args := #[]) (mvT hZ (hw _ (List.mem_of_getElem? (i := 24) rfl)))) (mvT hZ (hw _ (List.mem_of_getElem? (i := 24) rfl))) (mvT hZ (hw _ (List.mem_of_getElem? (i := 23) rfl))) (by decide) (backOf (W := 0) (rm3 l Z a0 hw [] b101 bf108 bt108 (3 : Int32) (0 : Int32) kf108 [(.int (0 : Int32)), (.int (0 : Int32)), (.int (0 : Int32)), (.int (0 : Int32)), (.int (0 : Int32)), (.int (0 : Int32)), (.int (0 : Int32)), (.int (0 : Int32)), (.int (0 : Int32)), (.int (0 : Int32)), (.int (0 : Int32)), (.int (0 : Int32)), (.int (0 : Int32)), (.int (0 : Int32)), (.int (0 : Int32)), (.int (0 : Int32)), (.int (0 : Int32))]  T178.heap n0 Zn178 f179 L102 la108 na108 fa178 fb178 fc178 fd178 f180 (by decide) ⟨by decide, by decide⟩ (Nat.le_of_ble_eq_true rfl)) hZ (hw _ (List.mem_of_getElem? (i := 25) rfl)) (hw _ (List.mem_of_getElem? (i := 2) rfl)) (by decide) (by decide)) q181a q181c (g := (mkF m 72 #[.val (.int p0), .val (.int p1), .val (.int p2), .val (.int p3), .val (.int p4), .val (.int (3 : Int32)), .val (.ref b101), .unset, .unset, .unset, .unset, .unset] [(.ref b101)])) rfl (by rw [hml]; rfl) (Steps.refl _) (argsL := []) (rest := []) (lenOf own_pd0 rfl) rfl (by show 2 * 0 + _ ≤ _; exact Nat.le_of_eq rfl) (hb hby at_72) (fun _ _ => ⟨rfl, rfl, (by decide : 3 + 0 ≤ _), (by decide : 37 + 0 ≤ _)⟩)
    dsimp only [Pt.U, Pt.locs, Pt.cells, Pt.slots] at X181 l181 y181 z181 st181 hQ181
    subst l181 y181 z181
    obtain ⟨rfl, Nq181, Kq181, fa181, fb181, fc181, fd181, vv181⟩ := hQ181
    have N181 := Fr.app N178 Nq181
    have f182 := f179.keep Kq181
    have f183 := vv178.keep Kq181 (ninS (Ne.symm nb108) (ninS (Ne.symm nc108) nin0))
    have Zn181 : n0 ≤ T181.heap.size := Nat.le_trans Zn178 Kq181.1
    have fa181 : Fld Z T181.heap b101 "com/example/mursyn/mursyn/synthesis/SuccessorLists" "first" "[I" (.ref bf108) := fa181
    have fb181 : Fld Z T181.heap b101 "com/example/mursyn/mursyn/synthesis/SuccessorLists" "targets" "[I" (.ref bt108) := fb181
    have fc181 : Fld Z T181.heap b101 "com/example/mursyn/mursyn/synthesis/SuccessorLists" "edgeCount" "I" (.int (3 : Int32)) := fc181
    have fd181 : Fld Z T181.heap b101 "com/example/mursyn/mursyn/synthesis/SuccessorLists" "listed" "I" (.int (1 : Int32)) := fd181
    have vv181 : Arv Z T181.heap bf108 kf108 .int (17 : Int32) [(.int (0 : Int32)), (.int (3 : Int32)), (.int (0 : Int32)), (.int (0 : Int32)), (.int (0 : Int32)), (.int (0 : Int32)), (.int (0 : Int32)), (.int (0 : Int32)), (.int (0 : Int32)), (.int (0 : Int32)), (.int (0 : Int32)), (.int (0 : Int32)), (.int (0 : Int32)), (.int (0 : Int32)), (.int (0 : Int32)), (.int (0 : Int32)), (.int (0 : Int32))] (.int (0 : Int32)) := vv181
    refine own_pre (fun t k => st181.trans k) ?_
    show own_Ends _ _ _ _ (T181.setTop (mkF m 75 #[.val (.int p0), .val (.int p1), .val (.int p2), .val (.int p3), .val (.int p4), .val (.int (3 : Int32)), .val (.ref b101), .unset, .unset, .unset, .unset, .unset] []))
    refine own_pre (fun t k => XS.aload X181.here hx rfl (hb hby at_75) rfl rfl k) ?_
    show own_Ends _ _ _ _ (T181.setTop (mkF m 77 #[.val (.int p0), .val (.int p1), .val (.int p2), .val (.int p3), .val (.int p4), .val (.int (3 : Int32)), .val (.ref b101), .unset, .unset, .unset, .unset, .unset] [(.ref b101)]))
    obtain ⟨cq184, kq184, q184a, q184b, q184c⟩ := isOf hZ rfl f182
    obtain ⟨_, _, ⟨T184, L184, k184, n184⟩, -, X184, ⟨Lc184, hQ184, l184, y184, z184⟩, st184⟩ := X181.virtualBack hx (y := (⟨"com/example/mursyn/mursyn/synthesis/SuccessorLists", "close", "()V"⟩ : MethodName)) (z := (⟨"com/example/mursyn/mursyn/synthesis/SuccessorLists", "close", "()V"⟩ : MethodName)) hown (mvT hZ (hw _ (List.mem_of_getElem? (i := 21) rfl))) (mvT hZ (hw _ (List.mem_of_getElem? (i := 22) rfl))) (notFace_of_selects (args := #[]) (mvT hZ (hw _ (List.mem_of_getElem? (i := 24) rfl)))) (mvT hZ (hw _ (List.mem_of_getElem? (i := 24) rfl))) (mvT hZ (hw _ (List.mem_of_getElem? (i := 23) rfl))) (by decide) (backOf (W := 0) (rm3 l Z a0 hw [] b101 bf108 bt108 (3 : Int32) (1 : Int32) kf108 [(.int (0 : Int32)), (.int (3 : Int32)), (.int (0 : Int32)), (.int (0 : Int32)), (.int (0 : Int32)), (.int (0 : Int32)), (.int (0 : Int32)), (.int (0 : Int32)), (.int (0 : Int32)), (.int (0 : Int32)), (.int (0 : Int32)), (.int (0 : Int32)), (.int (0 : Int32)), (.int (0 : Int32)), (.int (0 : Int32)), (.int (0 : Int32)), (.int (0 : Int32))]  T181.heap n0 Zn181 f182 L102 la108 na108 fa181 fb181 fc181 fd181 vv181 (by decide) ⟨by decide, by decide⟩ (Nat.le_of_ble_eq_true rfl)) hZ (hw _ (List.mem_of_getElem? (i := 25) rfl)) (hw _ (List.mem_of_getElem? (i := 2) rfl)) (by decide) (by decide)) q184a q184c (g := (mkF m 77 #[.val (.int p0), .val (.int p1), .val (.int p2), .val (.int p3), .val (.int p4), .val (.int (3 : Int32)), .val (.ref b101), .unset, .unset, .unset, .unset, .unset] [(.ref b101)])) rfl (by rw [hml]; rfl) (Steps.refl _) (argsL := []) (rest := []) (lenOf own_pd0 rfl) rfl (by show 2 * 0 + _ ≤ _; exact Nat.le_of_eq rfl) (hb hby at_77) (fun _ _ => ⟨rfl, rfl, (by decide : 3 + 0 ≤ _), (by decide : 37 + 0 ≤ _)⟩)
    dsimp only [Pt.U, Pt.locs, Pt.cells, Pt.slots] at X184 l184 y184 z184 st184 hQ184
    subst l184 y184 z184
    obtain ⟨rfl, Nq184, Kq184, fa184, fb184, fc184, fd184, vv184⟩ := hQ184
    have N184 := Fr.app N181 Nq184
    have f185 := f182.keep Kq184
    have f186 := f183.keep Kq184 (ninS (Ne.symm nb108) (ninS (Ne.symm nc108) nin0))
    have Zn184 : n0 ≤ T184.heap.size := Nat.le_trans Zn181 Kq184.1
    have fa184 : Fld Z T184.heap b101 "com/example/mursyn/mursyn/synthesis/SuccessorLists" "first" "[I" (.ref bf108) := fa184
    have fb184 : Fld Z T184.heap b101 "com/example/mursyn/mursyn/synthesis/SuccessorLists" "targets" "[I" (.ref bt108) := fb184
    have fc184 : Fld Z T184.heap b101 "com/example/mursyn/mursyn/synthesis/SuccessorLists" "edgeCount" "I" (.int (3 : Int32)) := fc184
    have fd184 : Fld Z T184.heap b101 "com/example/mursyn/mursyn/synthesis/SuccessorLists" "listed" "I" (.int (2 : Int32)) := fd184
    have vv184 : Arv Z T184.heap bf108 kf108 .int (17 : Int32) [(.int (0 : Int32)), (.int (3 : Int32)), (.int (3 : Int32)), (.int (0 : Int32)), (.int (0 : Int32)), (.int (0 : Int32)), (.int (0 : Int32)), (.int (0 : Int32)), (.int (0 : Int32)), (.int (0 : Int32)), (.int (0 : Int32)), (.int (0 : Int32)), (.int (0 : Int32)), (.int (0 : Int32)), (.int (0 : Int32)), (.int (0 : Int32)), (.int (0 : Int32))] (.int (0 : Int32)) := vv184
    refine own_pre (fun t k => st184.trans k) ?_
    show own_Ends _ _ _ _ (T184.setTop (mkF m 80 #[.val (.int p0), .val (.int p1), .val (.int p2), .val (.int p3), .val (.int p4), .val (.int (3 : Int32)), .val (.ref b101), .unset, .unset, .unset, .unset, .unset] []))
    refine own_pre (fun t k => XS.iload X184.here hx rfl (hb hby at_80) rfl k) ?_
    show own_Ends _ _ _ _ (T184.setTop (mkF m 82 #[.val (.int p0), .val (.int p1), .val (.int p2), .val (.int p3), .val (.int p4), .val (.int (3 : Int32)), .val (.ref b101), .unset, .unset, .unset, .unset, .unset] [(.int p4)]))
    refine own_pre (fun t k => XS.iconst X184.here hx rfl (hb hby at_82) k) ?_
    show own_Ends _ _ _ _ (T184.setTop (mkF m 83 #[.val (.int p0), .val (.int p1), .val (.int p2), .val (.int p3), .val (.int p4), .val (.int (3 : Int32)), .val (.ref b101), .unset, .unset, .unset, .unset, .unset] [(.int (1 : Int32)), (.int p4)]))
    refine own_pre (fun t k => XS.iand X184.here hx rfl (hb hby at_83) rfl k) ?_
    show own_Ends _ _ _ _ (T184.setTop (mkF m 84 #[.val (.int p0), .val (.int p1), .val (.int p2), .val (.int p3), .val (.int p4), .val (.int (3 : Int32)), .val (.ref b101), .unset, .unset, .unset, .unset, .unset] [(.int (p4 &&& (1 : Int32)))]))
    refine own_pre (fun t k => XS.istore X184.here hx rfl (hb hby at_84) rfl (l' := #[.val (.int p0), .val (.int p1), .val (.int p2), .val (.int p3), .val (.int p4), .val (.int (3 : Int32)), .val (.ref b101), .val (.int (p4 &&& (1 : Int32))), .unset, .unset, .unset, .unset]) rfl k) ?_
    show own_Ends _ _ _ _ (T184.setTop (mkF m 86 #[.val (.int p0), .val (.int p1), .val (.int p2), .val (.int p3), .val (.int p4), .val (.int (3 : Int32)), .val (.ref b101), .val (.int (p4 &&& (1 : Int32))), .unset, .unset, .unset, .unset] []))
    generalize hx7 : (p4 &&& (1 : Int32)) = x7
    show own_Ends _ _ _ _ (T184.setTop (mkF m 86 #[.val (.int p0), .val (.int p1), .val (.int p2), .val (.int p3), .val (.int p4), .val (.int (3 : Int32)), .val (.ref b101), .val (.int x7), .unset, .unset, .unset, .unset] []))
    refine own_pre (fun t k => XS.iload X184.here hx rfl (hb hby at_86) rfl k) ?_
    show own_Ends _ _ _ _ (T184.setTop (mkF m 88 #[.val (.int p0), .val (.int p1), .val (.int p2), .val (.int p3), .val (.int p4), .val (.int (3 : Int32)), .val (.ref b101), .val (.int x7), .unset, .unset, .unset, .unset] [(.int (3 : Int32))]))
    refine own_pre (fun t k => XS.ifYes X184.here hx rfl (pc0 := 88) (pc' := 94) rfl (hb hby at_88) rfl ((if0 _ _).trans (feq ((by decide) : ¬ ((3 : Int32) = (0 : Int32)))).2) (by decide) (by decide) k) ?_
    show own_Ends _ _ _ _ (T184.setTop (mkF m 94 #[.val (.int p0), .val (.int p1), .val (.int p2), .val (.int p3), .val (.int p4), .val (.int (3 : Int32)), .val (.ref b101), .val (.int x7), .unset, .unset, .unset, .unset] []))
    refine own_pre (fun t k => XS.iload X184.here hx rfl (hb hby at_94) rfl k) ?_
    show own_Ends _ _ _ _ (T184.setTop (mkF m 96 #[.val (.int p0), .val (.int p1), .val (.int p2), .val (.int p3), .val (.int p4), .val (.int (3 : Int32)), .val (.ref b101), .val (.int x7), .unset, .unset, .unset, .unset] [(.int (3 : Int32))]))
    refine own_pre (fun t k => XS.iconst X184.here hx rfl (hb hby at_96) k) ?_
    show own_Ends _ _ _ _ (T184.setTop (mkF m 97 #[.val (.int p0), .val (.int p1), .val (.int p2), .val (.int p3), .val (.int p4), .val (.int (3 : Int32)), .val (.ref b101), .val (.int x7), .unset, .unset, .unset, .unset] [(.int (3 : Int32)), (.int (3 : Int32))]))
    refine own_pre (fun t k => XS.icmpNo X184.here hx rfl (hb hby at_97) rfl (teq ((by decide) : (3 : Int32) = (3 : Int32))).2 k) ?_
    show own_Ends _ _ _ _ (T184.setTop (mkF m 100 #[.val (.int p0), .val (.int p1), .val (.int p2), .val (.int p3), .val (.int p4), .val (.int (3 : Int32)), .val (.ref b101), .val (.int x7), .unset, .unset, .unset, .unset] []))
    refine own_pre (fun t k => XS.iconst X184.here hx rfl (hb hby at_100) k) ?_
    show own_Ends _ _ _ _ (T184.setTop (mkF m 101 #[.val (.int p0), .val (.int p1), .val (.int p2), .val (.int p3), .val (.int p4), .val (.int (3 : Int32)), .val (.ref b101), .val (.int x7), .unset, .unset, .unset, .unset] [(.int (0 : Int32))]))
    refine own_pre (fun t k => XS.istore X184.here hx rfl (hb hby at_101) rfl (l' := #[.val (.int p0), .val (.int p1), .val (.int p2), .val (.int p3), .val (.int p4), .val (.int (3 : Int32)), .val (.ref b101), .val (.int (0 : Int32)), .unset, .unset, .unset, .unset]) rfl k) ?_
    show own_Ends _ _ _ _ (T184.setTop (mkF m 103 #[.val (.int p0), .val (.int p1), .val (.int p2), .val (.int p3), .val (.int p4), .val (.int (3 : Int32)), .val (.ref b101), .val (.int (0 : Int32)), .unset, .unset, .unset, .unset] []))
    refine own_pre (fun t k => XS.iload X184.here hx rfl (hb hby at_103) rfl k) ?_
    show own_Ends _ _ _ _ (T184.setTop (mkF m 105 #[.val (.int p0), .val (.int p1), .val (.int p2), .val (.int p3), .val (.int p4), .val (.int (3 : Int32)), .val (.ref b101), .val (.int (0 : Int32)), .unset, .unset, .unset, .unset] [(.int (0 : Int32))]))
    refine own_pre (fun t k => XS.ifNo X184.here hx rfl (hb hby at_105) rfl ((if0 _ _).trans (teq ((by decide) : (0 : Int32) = (0 : Int32))).2) k) ?_
    show own_Ends _ _ _ _ (T184.setTop (mkF m 108 #[.val (.int p0), .val (.int p1), .val (.int p2), .val (.int p3), .val (.int p4), .val (.int (3 : Int32)), .val (.ref b101), .val (.int (0 : Int32)), .unset, .unset, .unset, .unset] []))
    refine own_pre (fun t k => XS.iload X184.here hx rfl (hb hby at_108) rfl k) ?_
    show own_Ends _ _ _ _ (T184.setTop (mkF m 110 #[.val (.int p0), .val (.int p1), .val (.int p2), .val (.int p3), .val (.int p4), .val (.int (3 : Int32)), .val (.ref b101), .val (.int (0 : Int32)), .unset, .unset, .unset, .unset] [(.int (3 : Int32))]))
    refine own_pre (fun t k => XS.goto X184.here hx rfl (pc0 := 110) (pc' := 117) rfl (hb hby at_110) (by decide) (by decide) k) ?_
    show own_Ends _ _ _ _ (T184.setTop (mkF m 117 #[.val (.int p0), .val (.int p1), .val (.int p2), .val (.int p3), .val (.int p4), .val (.int (3 : Int32)), .val (.ref b101), .val (.int (0 : Int32)), .unset, .unset, .unset, .unset] [(.int (3 : Int32))]))
    refine own_pre (fun t k => XS.istore X184.here hx rfl (hb hby at_117) rfl (l' := #[.val (.int p0), .val (.int p1), .val (.int p2), .val (.int p3), .val (.int p4), .val (.int (3 : Int32)), .val (.ref b101), .val (.int (0 : Int32)), .val (.int (3 : Int32)), .unset, .unset, .unset]) rfl k) ?_
    show own_Ends _ _ _ _ (T184.setTop (mkF m 119 #[.val (.int p0), .val (.int p1), .val (.int p2), .val (.int p3), .val (.int p4), .val (.int (3 : Int32)), .val (.ref b101), .val (.int (0 : Int32)), .val (.int (3 : Int32)), .unset, .unset, .unset] []))
    refine own_pre (fun t k => XS.iload X184.here hx rfl (hb hby at_119) rfl k) ?_
    show own_Ends _ _ _ _ (T184.setTop (mkF m 121 #[.val (.int p0), .val (.int p1), .val (.int p2), .val (.int p3), .val (.int p4), .val (.int (3 : Int32)), .val (.ref b101), .val (.int (0 : Int32)), .val (.int (3 : Int32)), .unset, .unset, .unset] [(.int p4)]))
    refine own_pre (fun t k => XS.iconst X184.here hx rfl (hb hby at_121) k) ?_
    show own_Ends _ _ _ _ (T184.setTop (mkF m 122 #[.val (.int p0), .val (.int p1), .val (.int p2), .val (.int p3), .val (.int p4), .val (.int (3 : Int32)), .val (.ref b101), .val (.int (0 : Int32)), .val (.int (3 : Int32)), .unset, .unset, .unset] [(.int (1 : Int32)), (.int p4)]))
    refine own_pre (fun t k => XS.iushr X184.here hx rfl (hb hby at_122) rfl k) ?_
    show own_Ends _ _ _ _ (T184.setTop (mkF m 123 #[.val (.int p0), .val (.int p1), .val (.int p2), .val (.int p3), .val (.int p4), .val (.int (3 : Int32)), .val (.ref b101), .val (.int (0 : Int32)), .val (.int (3 : Int32)), .unset, .unset, .unset] [(.int (own_ushr p4 (1 : Int32)))]))
    refine own_pre (fun t k => XS.iload X184.here hx rfl (hb hby at_123) rfl k) ?_
    show own_Ends _ _ _ _ (T184.setTop (mkF m 125 #[.val (.int p0), .val (.int p1), .val (.int p2), .val (.int p3), .val (.int p4), .val (.int (3 : Int32)), .val (.ref b101), .val (.int (0 : Int32)), .val (.int (3 : Int32)), .unset, .unset, .unset] [(.int (3 : Int32)), (.int (own_ushr p4 (1 : Int32)))]))
    refine own_pre (fun t k => iremM X184 hx rfl (hb hby at_125) rfl (by decide) k) ?_
    show own_Ends _ _ _ _ (T184.setTop (mkF m 126 #[.val (.int p0), .val (.int p1), .val (.int p2), .val (.int p3), .val (.int p4), .val (.int (3 : Int32)), .val (.ref b101), .val (.int (0 : Int32)), .val (.int (3 : Int32)), .unset, .unset, .unset] [(.int ((own_ushr p4 (1 : Int32)) % (3 : Int32)))]))
    refine own_pre (fun t k => XS.istore X184.here hx rfl (hb hby at_126) rfl (l' := #[.val (.int p0), .val (.int p1), .val (.int p2), .val (.int p3), .val (.int p4), .val (.int (3 : Int32)), .val (.ref b101), .val (.int (0 : Int32)), .val (.int (3 : Int32)), .val (.int ((own_ushr p4 (1 : Int32)) % (3 : Int32))), .unset, .unset]) rfl k) ?_
    show own_Ends _ _ _ _ (T184.setTop (mkF m 128 #[.val (.int p0), .val (.int p1), .val (.int p2), .val (.int p3), .val (.int p4), .val (.int (3 : Int32)), .val (.ref b101), .val (.int (0 : Int32)), .val (.int (3 : Int32)), .val (.int ((own_ushr p4 (1 : Int32)) % (3 : Int32))), .unset, .unset] []))
    generalize hx9 : ((own_ushr p4 (1 : Int32)) % (3 : Int32)) = x9
    show own_Ends _ _ _ _ (T184.setTop (mkF m 128 #[.val (.int p0), .val (.int p1), .val (.int p2), .val (.int p3), .val (.int p4), .val (.int (3 : Int32)), .val (.ref b101), .val (.int (0 : Int32)), .val (.int (3 : Int32)), .val (.int x9), .unset, .unset] []))
    rcases own_r3 hx9 with hs187 | hs187 | hs187
    · subst hs187
      show own_Ends _ _ _ _ (T184.setTop (mkF m 128 #[.val (.int p0), .val (.int p1), .val (.int p2), .val (.int p3), .val (.int p4), .val (.int (3 : Int32)), .val (.ref b101), .val (.int (0 : Int32)), .val (.int (3 : Int32)), .val (.int (0 : Int32)), .unset, .unset] []))
      refine own_pre (fun t k => XS.iload X184.here hx rfl (hb hby at_128) rfl k) ?_
      show own_Ends _ _ _ _ (T184.setTop (mkF m 130 #[.val (.int p0), .val (.int p1), .val (.int p2), .val (.int p3), .val (.int p4), .val (.int (3 : Int32)), .val (.ref b101), .val (.int (0 : Int32)), .val (.int (3 : Int32)), .val (.int (0 : Int32)), .unset, .unset] [(.int (0 : Int32))]))
      refine own_pre (fun t k => XS.ifNo X184.here hx rfl (hb hby at_130) rfl ((if0 _ _).trans (teq ((by decide) : (0 : Int32) = (0 : Int32))).2) k) ?_
      show own_Ends _ _ _ _ (T184.setTop (mkF m 133 #[.val (.int p0), .val (.int p1), .val (.int p2), .val (.int p3), .val (.int p4), .val (.int (3 : Int32)), .val (.ref b101), .val (.int (0 : Int32)), .val (.int (3 : Int32)), .val (.int (0 : Int32)), .unset, .unset] []))
      refine own_pre (fun t k => XS.iload X184.here hx rfl (hb hby at_133) rfl k) ?_
      show own_Ends _ _ _ _ (T184.setTop (mkF m 135 #[.val (.int p0), .val (.int p1), .val (.int p2), .val (.int p3), .val (.int p4), .val (.int (3 : Int32)), .val (.ref b101), .val (.int (0 : Int32)), .val (.int (3 : Int32)), .val (.int (0 : Int32)), .unset, .unset] [(.int (0 : Int32))]))
      refine own_pre (fun t k => XS.goto X184.here hx rfl (pc0 := 135) (pc' := 143) rfl (hb hby at_135) (by decide) (by decide) k) ?_
      show own_Ends _ _ _ _ (T184.setTop (mkF m 143 #[.val (.int p0), .val (.int p1), .val (.int p2), .val (.int p3), .val (.int p4), .val (.int (3 : Int32)), .val (.ref b101), .val (.int (0 : Int32)), .val (.int (3 : Int32)), .val (.int (0 : Int32)), .unset, .unset] [(.int (0 : Int32))]))
      refine own_pre (fun t k => XS.istore X184.here hx rfl (hb hby at_143) rfl (l' := #[.val (.int p0), .val (.int p1), .val (.int p2), .val (.int p3), .val (.int p4), .val (.int (3 : Int32)), .val (.ref b101), .val (.int (0 : Int32)), .val (.int (3 : Int32)), .val (.int (0 : Int32)), .val (.int (0 : Int32)), .unset]) rfl k) ?_
      show own_Ends _ _ _ _ (T184.setTop (mkF m 145 #[.val (.int p0), .val (.int p1), .val (.int p2), .val (.int p3), .val (.int p4), .val (.int (3 : Int32)), .val (.ref b101), .val (.int (0 : Int32)), .val (.int (3 : Int32)), .val (.int (0 : Int32)), .val (.int (0 : Int32)), .unset] []))
      refine own_pre (fun t k => XS.iload X184.here hx rfl (hb hby at_145) rfl k) ?_
      show own_Ends _ _ _ _ (T184.setTop (mkF m 147 #[.val (.int p0), .val (.int p1), .val (.int p2), .val (.int p3), .val (.int p4), .val (.int (3 : Int32)), .val (.ref b101), .val (.int (0 : Int32)), .val (.int (3 : Int32)), .val (.int (0 : Int32)), .val (.int (0 : Int32)), .unset] [(.int (0 : Int32))]))
      refine own_pre (fun t k => XS.ifNo X184.here hx rfl (hb hby at_147) rfl ((if0 _ _).trans (teq ((by decide) : (0 : Int32) = (0 : Int32))).2) k) ?_
      show own_Ends _ _ _ _ (T184.setTop (mkF m 150 #[.val (.int p0), .val (.int p1), .val (.int p2), .val (.int p3), .val (.int p4), .val (.int (3 : Int32)), .val (.ref b101), .val (.int (0 : Int32)), .val (.int (3 : Int32)), .val (.int (0 : Int32)), .val (.int (0 : Int32)), .unset] []))
      refine own_pre (fun t k => XS.iloadN X184.here hx rfl (hb hby at_150) rfl k) ?_
      show own_Ends _ _ _ _ (T184.setTop (mkF m 151 #[.val (.int p0), .val (.int p1), .val (.int p2), .val (.int p3), .val (.int p4), .val (.int (3 : Int32)), .val (.ref b101), .val (.int (0 : Int32)), .val (.int (3 : Int32)), .val (.int (0 : Int32)), .val (.int (0 : Int32)), .unset] [(.int p0)]))
      refine own_pre (fun t k => XS.istore X184.here hx rfl (hb hby at_151) rfl (l' := #[.val (.int p0), .val (.int p1), .val (.int p2), .val (.int p3), .val (.int p4), .val (.int (3 : Int32)), .val (.ref b101), .val (.int (0 : Int32)), .val (.int (3 : Int32)), .val (.int (0 : Int32)), .val (.int (0 : Int32)), .val (.int p0)]) rfl k) ?_
      show own_Ends _ _ _ _ (T184.setTop (mkF m 153 #[.val (.int p0), .val (.int p1), .val (.int p2), .val (.int p3), .val (.int p4), .val (.int (3 : Int32)), .val (.ref b101), .val (.int (0 : Int32)), .val (.int (3 : Int32)), .val (.int (0 : Int32)), .val (.int (0 : Int32)), .val (.int p0)] []))
      refine own_pre (fun t k => XS.goto X184.here hx rfl (pc0 := 153) (pc' := 171) rfl (hb hby at_153) (by decide) (by decide) k) ?_
      show own_Ends _ _ _ _ (T184.setTop (mkF m 171 #[.val (.int p0), .val (.int p1), .val (.int p2), .val (.int p3), .val (.int p4), .val (.int (3 : Int32)), .val (.ref b101), .val (.int (0 : Int32)), .val (.int (3 : Int32)), .val (.int (0 : Int32)), .val (.int (0 : Int32)), .val (.int p0)] []))
      refine own_pre (fun t k => XS.aload X184.here hx rfl (hb hby at_171) rfl rfl k) ?_
      show own_Ends _ _ _ _ (T184.setTop (mkF m 173 #[.val (.int p0), .val (.int p1), .val (.int p2), .val (.int p3), .val (.int p4), .val (.int (3 : Int32)), .val (.ref b101), .val (.int (0 : Int32)), .val (.int (3 : Int32)), .val (.int (0 : Int32)), .val (.int (0 : Int32)), .val (.int p0)] [(.ref b101)]))
      refine own_pre (fun t k => XS.iload X184.here hx rfl (hb hby at_173) rfl k) ?_
      show own_Ends _ _ _ _ (T184.setTop (mkF m 175 #[.val (.int p0), .val (.int p1), .val (.int p2), .val (.int p3), .val (.int p4), .val (.int (3 : Int32)), .val (.ref b101), .val (.int (0 : Int32)), .val (.int (3 : Int32)), .val (.int (0 : Int32)), .val (.int (0 : Int32)), .val (.int p0)] [(.int (0 : Int32)), (.ref b101)]))
      refine own_pre (fun t k => XS.iload X184.here hx rfl (hb hby at_175) rfl k) ?_
      show own_Ends _ _ _ _ (T184.setTop (mkF m 177 #[.val (.int p0), .val (.int p1), .val (.int p2), .val (.int p3), .val (.int p4), .val (.int (3 : Int32)), .val (.ref b101), .val (.int (0 : Int32)), .val (.int (3 : Int32)), .val (.int (0 : Int32)), .val (.int (0 : Int32)), .val (.int p0)] [(.int (0 : Int32)), (.int (0 : Int32)), (.ref b101)]))
      obtain ⟨cq188, kq188, q188a, q188b, q188c⟩ := isOf hZ rfl f185
      obtain ⟨_, _, ⟨T188, L188, k188, n188⟩, -, X188, ⟨Lc188, hQ188, l188, y188, z188⟩, st188⟩ := X184.virtualBack hx (y := (⟨"com/example/mursyn/mursyn/synthesis/SuccessorLists", "get", "(II)I"⟩ : MethodName)) (z := (⟨"com/example/mursyn/mursyn/synthesis/SuccessorLists", "get", "(II)I"⟩ : MethodName)) hown (mvT hZ (hw _ (List.mem_of_getElem? (i := 28) rfl))) (mvT hZ (hw _ (List.mem_of_getElem? (i := 29) rfl))) (notFace_of_selects (args := #[]) (mvT hZ (hw _ (List.mem_of_getElem? (i := 31) rfl)))) (mvT hZ (hw _ (List.mem_of_getElem? (i := 31) rfl))) (mvT hZ (hw _ (List.mem_of_getElem? (i := 30) rfl))) (by decide) (backOf (W := 0) (rm4 l Z a0 hw [] b101 (0 : Int32) (0 : Int32) bf108 bt108 kf108 kt108 [(.int (0 : Int32)), (.int (3 : Int32)), (.int (3 : Int32)), (.int (0 : Int32)), (.int (0 : Int32)), (.int (0 : Int32)), (.int (0 : Int32)), (.int (0 : Int32)), (.int (0 : Int32)), (.int (0 : Int32)), (.int (0 : Int32)), (.int (0 : Int32)), (.int (0 : Int32)), (.int (0 : Int32)), (.int (0 : Int32)), (.int (0 : Int32)), (.int (0 : Int32))] [(.int p0), (.int p1), (.int p2), (.int (0 : Int32)), (.int (0 : Int32)), (.int (0 : Int32)), (.int (0 : Int32)), (.int (0 : Int32)), (.int (0 : Int32)), (.int (0 : Int32)), (.int (0 : Int32)), (.int (0 : Int32)), (.int (0 : Int32)), (.int (0 : Int32)), (.int (0 : Int32)), (.int (0 : Int32))] (0 : Int32) p0 T184.heap n0 Zn184 fa184 fb184 vv184 f186 ⟨by decide, by decide⟩ rfl ⟨by decide, by decide⟩ rfl) hZ (hw _ (List.mem_of_getElem? (i := 32) rfl)) (hw _ (List.mem_of_getElem? (i := 2) rfl)) (by decide) (by decide)) q188a q188c (g := (mkF m 177 #[.val (.int p0), .val (.int p1), .val (.int p2), .val (.int p3), .val (.int p4), .val (.int (3 : Int32)), .val (.ref b101), .val (.int (0 : Int32)), .val (.int (3 : Int32)), .val (.int (0 : Int32)), .val (.int (0 : Int32)), .val (.int p0)] [(.int (0 : Int32)), (.int (0 : Int32)), (.ref b101)])) rfl (by rw [hml]; rfl) (Steps.refl _) (argsL := [(.int (0 : Int32)), (.int (0 : Int32))]) (rest := []) (lenOf own_pd2 rfl) rfl (by show 2 * 0 + _ ≤ _; exact Nat.le_of_eq rfl) (hb hby at_177) (fun _ _ => ⟨rfl, rfl, (by decide : 3 + 0 ≤ _), (by decide : 37 + 0 ≤ _)⟩)
      dsimp only [Pt.U, Pt.locs, Pt.cells, Pt.slots] at X188 l188 y188 z188 st188 hQ188
      subst l188 y188 z188
      obtain ⟨rfl, Nq188, e188⟩ := hQ188
      have N188 := Fr.app N184 Nq188
      refine own_pre (fun t k => st188.trans k) ?_
      show own_Ends _ _ _ _ (T188.setTop (mkF m 180 #[.val (.int p0), .val (.int p1), .val (.int p2), .val (.int p3), .val (.int p4), .val (.int (3 : Int32)), .val (.ref b101), .val (.int (0 : Int32)), .val (.int (3 : Int32)), .val (.int (0 : Int32)), .val (.int (0 : Int32)), .val (.int p0)] [(.int p0)]))
      refine own_pre (fun t k => XS.iload X188.here hx rfl (hb hby at_180) rfl k) ?_
      show own_Ends _ _ _ _ (T188.setTop (mkF m 182 #[.val (.int p0), .val (.int p1), .val (.int p2), .val (.int p3), .val (.int p4), .val (.int (3 : Int32)), .val (.ref b101), .val (.int (0 : Int32)), .val (.int (3 : Int32)), .val (.int (0 : Int32)), .val (.int (0 : Int32)), .val (.int p0)] [(.int p0), (.int p0)]))
      refine own_pre (fun t k => XS.icmpNo X188.here hx rfl (hb hby at_182) rfl (teq (rfl : p0 = p0)).2 k) ?_
      show own_Ends _ _ _ _ (T188.setTop (mkF m 185 #[.val (.int p0), .val (.int p1), .val (.int p2), .val (.int p3), .val (.int p4), .val (.int (3 : Int32)), .val (.ref b101), .val (.int (0 : Int32)), .val (.int (3 : Int32)), .val (.int (0 : Int32)), .val (.int (0 : Int32)), .val (.int p0)] []))
      refine own_pre (fun t k => XS.iconst X188.here hx rfl (hb hby at_185) k) ?_
      show own_Ends _ _ _ _ (T188.setTop (mkF m 186 #[.val (.int p0), .val (.int p1), .val (.int p2), .val (.int p3), .val (.int p4), .val (.int (3 : Int32)), .val (.ref b101), .val (.int (0 : Int32)), .val (.int (3 : Int32)), .val (.int (0 : Int32)), .val (.int (0 : Int32)), .val (.int p0)] [(.int (1 : Int32))]))
      refine own_pre (fun t k => XS.goto X188.here hx rfl (pc0 := 186) (pc' := 190) rfl (hb hby at_186) (by decide) (by decide) k) ?_
      show own_Ends _ _ _ _ (T188.setTop (mkF m 190 #[.val (.int p0), .val (.int p1), .val (.int p2), .val (.int p3), .val (.int p4), .val (.int (3 : Int32)), .val (.ref b101), .val (.int (0 : Int32)), .val (.int (3 : Int32)), .val (.int (0 : Int32)), .val (.int (0 : Int32)), .val (.int p0)] [(.int (1 : Int32))]))
      exact own_retN X188 hx (t := .boolean) Bd.returns (by simp) (hb hby at_190) hlk rfl e188 ⟨rfl, N188⟩ (by decide) (by decide)
    · subst hs187
      show own_Ends _ _ _ _ (T184.setTop (mkF m 128 #[.val (.int p0), .val (.int p1), .val (.int p2), .val (.int p3), .val (.int p4), .val (.int (3 : Int32)), .val (.ref b101), .val (.int (0 : Int32)), .val (.int (3 : Int32)), .val (.int (1 : Int32)), .unset, .unset] []))
      refine own_pre (fun t k => XS.iload X184.here hx rfl (hb hby at_128) rfl k) ?_
      show own_Ends _ _ _ _ (T184.setTop (mkF m 130 #[.val (.int p0), .val (.int p1), .val (.int p2), .val (.int p3), .val (.int p4), .val (.int (3 : Int32)), .val (.ref b101), .val (.int (0 : Int32)), .val (.int (3 : Int32)), .val (.int (1 : Int32)), .unset, .unset] [(.int (0 : Int32))]))
      refine own_pre (fun t k => XS.ifNo X184.here hx rfl (hb hby at_130) rfl ((if0 _ _).trans (teq ((by decide) : (0 : Int32) = (0 : Int32))).2) k) ?_
      show own_Ends _ _ _ _ (T184.setTop (mkF m 133 #[.val (.int p0), .val (.int p1), .val (.int p2), .val (.int p3), .val (.int p4), .val (.int (3 : Int32)), .val (.ref b101), .val (.int (0 : Int32)), .val (.int (3 : Int32)), .val (.int (1 : Int32)), .unset, .unset] []))
      refine own_pre (fun t k => XS.iload X184.here hx rfl (hb hby at_133) rfl k) ?_
      show own_Ends _ _ _ _ (T184.setTop (mkF m 135 #[.val (.int p0), .val (.int p1), .val (.int p2), .val (.int p3), .val (.int p4), .val (.int (3 : Int32)), .val (.ref b101), .val (.int (0 : Int32)), .val (.int (3 : Int32)), .val (.int (1 : Int32)), .unset, .unset] [(.int (1 : Int32))]))
      refine own_pre (fun t k => XS.goto X184.here hx rfl (pc0 := 135) (pc' := 143) rfl (hb hby at_135) (by decide) (by decide) k) ?_
      show own_Ends _ _ _ _ (T184.setTop (mkF m 143 #[.val (.int p0), .val (.int p1), .val (.int p2), .val (.int p3), .val (.int p4), .val (.int (3 : Int32)), .val (.ref b101), .val (.int (0 : Int32)), .val (.int (3 : Int32)), .val (.int (1 : Int32)), .unset, .unset] [(.int (1 : Int32))]))
      refine own_pre (fun t k => XS.istore X184.here hx rfl (hb hby at_143) rfl (l' := #[.val (.int p0), .val (.int p1), .val (.int p2), .val (.int p3), .val (.int p4), .val (.int (3 : Int32)), .val (.ref b101), .val (.int (0 : Int32)), .val (.int (3 : Int32)), .val (.int (1 : Int32)), .val (.int (1 : Int32)), .unset]) rfl k) ?_
      show own_Ends _ _ _ _ (T184.setTop (mkF m 145 #[.val (.int p0), .val (.int p1), .val (.int p2), .val (.int p3), .val (.int p4), .val (.int (3 : Int32)), .val (.ref b101), .val (.int (0 : Int32)), .val (.int (3 : Int32)), .val (.int (1 : Int32)), .val (.int (1 : Int32)), .unset] []))
      refine own_pre (fun t k => XS.iload X184.here hx rfl (hb hby at_145) rfl k) ?_
      show own_Ends _ _ _ _ (T184.setTop (mkF m 147 #[.val (.int p0), .val (.int p1), .val (.int p2), .val (.int p3), .val (.int p4), .val (.int (3 : Int32)), .val (.ref b101), .val (.int (0 : Int32)), .val (.int (3 : Int32)), .val (.int (1 : Int32)), .val (.int (1 : Int32)), .unset] [(.int (1 : Int32))]))
      refine own_pre (fun t k => XS.ifYes X184.here hx rfl (pc0 := 147) (pc' := 156) rfl (hb hby at_147) rfl ((if0 _ _).trans (feq ((by decide) : ¬ ((1 : Int32) = (0 : Int32)))).2) (by decide) (by decide) k) ?_
      show own_Ends _ _ _ _ (T184.setTop (mkF m 156 #[.val (.int p0), .val (.int p1), .val (.int p2), .val (.int p3), .val (.int p4), .val (.int (3 : Int32)), .val (.ref b101), .val (.int (0 : Int32)), .val (.int (3 : Int32)), .val (.int (1 : Int32)), .val (.int (1 : Int32)), .unset] []))
      refine own_pre (fun t k => XS.iload X184.here hx rfl (hb hby at_156) rfl k) ?_
      show own_Ends _ _ _ _ (T184.setTop (mkF m 158 #[.val (.int p0), .val (.int p1), .val (.int p2), .val (.int p3), .val (.int p4), .val (.int (3 : Int32)), .val (.ref b101), .val (.int (0 : Int32)), .val (.int (3 : Int32)), .val (.int (1 : Int32)), .val (.int (1 : Int32)), .unset] [(.int (1 : Int32))]))
      refine own_pre (fun t k => XS.iconst X184.here hx rfl (hb hby at_158) k) ?_
      show own_Ends _ _ _ _ (T184.setTop (mkF m 159 #[.val (.int p0), .val (.int p1), .val (.int p2), .val (.int p3), .val (.int p4), .val (.int (3 : Int32)), .val (.ref b101), .val (.int (0 : Int32)), .val (.int (3 : Int32)), .val (.int (1 : Int32)), .val (.int (1 : Int32)), .unset] [(.int (1 : Int32)), (.int (1 : Int32))]))
      refine own_pre (fun t k => XS.icmpNo X184.here hx rfl (hb hby at_159) rfl (teq ((by decide) : (1 : Int32) = (1 : Int32))).2 k) ?_
      show own_Ends _ _ _ _ (T184.setTop (mkF m 162 #[.val (.int p0), .val (.int p1), .val (.int p2), .val (.int p3), .val (.int p4), .val (.int (3 : Int32)), .val (.ref b101), .val (.int (0 : Int32)), .val (.int (3 : Int32)), .val (.int (1 : Int32)), .val (.int (1 : Int32)), .unset] []))
      refine own_pre (fun t k => XS.iloadN X184.here hx rfl (hb hby at_162) rfl k) ?_
      show own_Ends _ _ _ _ (T184.setTop (mkF m 163 #[.val (.int p0), .val (.int p1), .val (.int p2), .val (.int p3), .val (.int p4), .val (.int (3 : Int32)), .val (.ref b101), .val (.int (0 : Int32)), .val (.int (3 : Int32)), .val (.int (1 : Int32)), .val (.int (1 : Int32)), .unset] [(.int p1)]))
      refine own_pre (fun t k => XS.istore X184.here hx rfl (hb hby at_163) rfl (l' := #[.val (.int p0), .val (.int p1), .val (.int p2), .val (.int p3), .val (.int p4), .val (.int (3 : Int32)), .val (.ref b101), .val (.int (0 : Int32)), .val (.int (3 : Int32)), .val (.int (1 : Int32)), .val (.int (1 : Int32)), .val (.int p1)]) rfl k) ?_
      show own_Ends _ _ _ _ (T184.setTop (mkF m 165 #[.val (.int p0), .val (.int p1), .val (.int p2), .val (.int p3), .val (.int p4), .val (.int (3 : Int32)), .val (.ref b101), .val (.int (0 : Int32)), .val (.int (3 : Int32)), .val (.int (1 : Int32)), .val (.int (1 : Int32)), .val (.int p1)] []))
      refine own_pre (fun t k => XS.goto X184.here hx rfl (pc0 := 165) (pc' := 171) rfl (hb hby at_165) (by decide) (by decide) k) ?_
      show own_Ends _ _ _ _ (T184.setTop (mkF m 171 #[.val (.int p0), .val (.int p1), .val (.int p2), .val (.int p3), .val (.int p4), .val (.int (3 : Int32)), .val (.ref b101), .val (.int (0 : Int32)), .val (.int (3 : Int32)), .val (.int (1 : Int32)), .val (.int (1 : Int32)), .val (.int p1)] []))
      refine own_pre (fun t k => XS.aload X184.here hx rfl (hb hby at_171) rfl rfl k) ?_
      show own_Ends _ _ _ _ (T184.setTop (mkF m 173 #[.val (.int p0), .val (.int p1), .val (.int p2), .val (.int p3), .val (.int p4), .val (.int (3 : Int32)), .val (.ref b101), .val (.int (0 : Int32)), .val (.int (3 : Int32)), .val (.int (1 : Int32)), .val (.int (1 : Int32)), .val (.int p1)] [(.ref b101)]))
      refine own_pre (fun t k => XS.iload X184.here hx rfl (hb hby at_173) rfl k) ?_
      show own_Ends _ _ _ _ (T184.setTop (mkF m 175 #[.val (.int p0), .val (.int p1), .val (.int p2), .val (.int p3), .val (.int p4), .val (.int (3 : Int32)), .val (.ref b101), .val (.int (0 : Int32)), .val (.int (3 : Int32)), .val (.int (1 : Int32)), .val (.int (1 : Int32)), .val (.int p1)] [(.int (0 : Int32)), (.ref b101)]))
      refine own_pre (fun t k => XS.iload X184.here hx rfl (hb hby at_175) rfl k) ?_
      show own_Ends _ _ _ _ (T184.setTop (mkF m 177 #[.val (.int p0), .val (.int p1), .val (.int p2), .val (.int p3), .val (.int p4), .val (.int (3 : Int32)), .val (.ref b101), .val (.int (0 : Int32)), .val (.int (3 : Int32)), .val (.int (1 : Int32)), .val (.int (1 : Int32)), .val (.int p1)] [(.int (1 : Int32)), (.int (0 : Int32)), (.ref b101)]))
      obtain ⟨cq189, kq189, q189a, q189b, q189c⟩ := isOf hZ rfl f185
      obtain ⟨_, _, ⟨T189, L189, k189, n189⟩, -, X189, ⟨Lc189, hQ189, l189, y189, z189⟩, st189⟩ := X184.virtualBack hx (y := (⟨"com/example/mursyn/mursyn/synthesis/SuccessorLists", "get", "(II)I"⟩ : MethodName)) (z := (⟨"com/example/mursyn/mursyn/synthesis/SuccessorLists", "get", "(II)I"⟩ : MethodName)) hown (mvT hZ (hw _ (List.mem_of_getElem? (i := 28) rfl))) (mvT hZ (hw _ (List.mem_of_getElem? (i := 29) rfl))) (notFace_of_selects (args := #[]) (mvT hZ (hw _ (List.mem_of_getElem? (i := 31) rfl)))) (mvT hZ (hw _ (List.mem_of_getElem? (i := 31) rfl))) (mvT hZ (hw _ (List.mem_of_getElem? (i := 30) rfl))) (by decide) (backOf (W := 0) (rm4 l Z a0 hw [] b101 (0 : Int32) (1 : Int32) bf108 bt108 kf108 kt108 [(.int (0 : Int32)), (.int (3 : Int32)), (.int (3 : Int32)), (.int (0 : Int32)), (.int (0 : Int32)), (.int (0 : Int32)), (.int (0 : Int32)), (.int (0 : Int32)), (.int (0 : Int32)), (.int (0 : Int32)), (.int (0 : Int32)), (.int (0 : Int32)), (.int (0 : Int32)), (.int (0 : Int32)), (.int (0 : Int32)), (.int (0 : Int32)), (.int (0 : Int32))] [(.int p0), (.int p1), (.int p2), (.int (0 : Int32)), (.int (0 : Int32)), (.int (0 : Int32)), (.int (0 : Int32)), (.int (0 : Int32)), (.int (0 : Int32)), (.int (0 : Int32)), (.int (0 : Int32)), (.int (0 : Int32)), (.int (0 : Int32)), (.int (0 : Int32)), (.int (0 : Int32)), (.int (0 : Int32))] (0 : Int32) p1 T184.heap n0 Zn184 fa184 fb184 vv184 f186 ⟨by decide, by decide⟩ rfl ⟨by decide, by decide⟩ rfl) hZ (hw _ (List.mem_of_getElem? (i := 32) rfl)) (hw _ (List.mem_of_getElem? (i := 2) rfl)) (by decide) (by decide)) q189a q189c (g := (mkF m 177 #[.val (.int p0), .val (.int p1), .val (.int p2), .val (.int p3), .val (.int p4), .val (.int (3 : Int32)), .val (.ref b101), .val (.int (0 : Int32)), .val (.int (3 : Int32)), .val (.int (1 : Int32)), .val (.int (1 : Int32)), .val (.int p1)] [(.int (1 : Int32)), (.int (0 : Int32)), (.ref b101)])) rfl (by rw [hml]; rfl) (Steps.refl _) (argsL := [(.int (0 : Int32)), (.int (1 : Int32))]) (rest := []) (lenOf own_pd2 rfl) rfl (by show 2 * 0 + _ ≤ _; exact Nat.le_of_eq rfl) (hb hby at_177) (fun _ _ => ⟨rfl, rfl, (by decide : 3 + 0 ≤ _), (by decide : 37 + 0 ≤ _)⟩)
      dsimp only [Pt.U, Pt.locs, Pt.cells, Pt.slots] at X189 l189 y189 z189 st189 hQ189
      subst l189 y189 z189
      obtain ⟨rfl, Nq189, e189⟩ := hQ189
      have N189 := Fr.app N184 Nq189
      refine own_pre (fun t k => st189.trans k) ?_
      show own_Ends _ _ _ _ (T189.setTop (mkF m 180 #[.val (.int p0), .val (.int p1), .val (.int p2), .val (.int p3), .val (.int p4), .val (.int (3 : Int32)), .val (.ref b101), .val (.int (0 : Int32)), .val (.int (3 : Int32)), .val (.int (1 : Int32)), .val (.int (1 : Int32)), .val (.int p1)] [(.int p1)]))
      refine own_pre (fun t k => XS.iload X189.here hx rfl (hb hby at_180) rfl k) ?_
      show own_Ends _ _ _ _ (T189.setTop (mkF m 182 #[.val (.int p0), .val (.int p1), .val (.int p2), .val (.int p3), .val (.int p4), .val (.int (3 : Int32)), .val (.ref b101), .val (.int (0 : Int32)), .val (.int (3 : Int32)), .val (.int (1 : Int32)), .val (.int (1 : Int32)), .val (.int p1)] [(.int p1), (.int p1)]))
      refine own_pre (fun t k => XS.icmpNo X189.here hx rfl (hb hby at_182) rfl (teq (rfl : p1 = p1)).2 k) ?_
      show own_Ends _ _ _ _ (T189.setTop (mkF m 185 #[.val (.int p0), .val (.int p1), .val (.int p2), .val (.int p3), .val (.int p4), .val (.int (3 : Int32)), .val (.ref b101), .val (.int (0 : Int32)), .val (.int (3 : Int32)), .val (.int (1 : Int32)), .val (.int (1 : Int32)), .val (.int p1)] []))
      refine own_pre (fun t k => XS.iconst X189.here hx rfl (hb hby at_185) k) ?_
      show own_Ends _ _ _ _ (T189.setTop (mkF m 186 #[.val (.int p0), .val (.int p1), .val (.int p2), .val (.int p3), .val (.int p4), .val (.int (3 : Int32)), .val (.ref b101), .val (.int (0 : Int32)), .val (.int (3 : Int32)), .val (.int (1 : Int32)), .val (.int (1 : Int32)), .val (.int p1)] [(.int (1 : Int32))]))
      refine own_pre (fun t k => XS.goto X189.here hx rfl (pc0 := 186) (pc' := 190) rfl (hb hby at_186) (by decide) (by decide) k) ?_
      show own_Ends _ _ _ _ (T189.setTop (mkF m 190 #[.val (.int p0), .val (.int p1), .val (.int p2), .val (.int p3), .val (.int p4), .val (.int (3 : Int32)), .val (.ref b101), .val (.int (0 : Int32)), .val (.int (3 : Int32)), .val (.int (1 : Int32)), .val (.int (1 : Int32)), .val (.int p1)] [(.int (1 : Int32))]))
      exact own_retN X189 hx (t := .boolean) Bd.returns (by simp) (hb hby at_190) hlk rfl e189 ⟨rfl, N189⟩ (by decide) (by decide)
    · subst hs187
      show own_Ends _ _ _ _ (T184.setTop (mkF m 128 #[.val (.int p0), .val (.int p1), .val (.int p2), .val (.int p3), .val (.int p4), .val (.int (3 : Int32)), .val (.ref b101), .val (.int (0 : Int32)), .val (.int (3 : Int32)), .val (.int (2 : Int32)), .unset, .unset] []))
      refine own_pre (fun t k => XS.iload X184.here hx rfl (hb hby at_128) rfl k) ?_
      show own_Ends _ _ _ _ (T184.setTop (mkF m 130 #[.val (.int p0), .val (.int p1), .val (.int p2), .val (.int p3), .val (.int p4), .val (.int (3 : Int32)), .val (.ref b101), .val (.int (0 : Int32)), .val (.int (3 : Int32)), .val (.int (2 : Int32)), .unset, .unset] [(.int (0 : Int32))]))
      refine own_pre (fun t k => XS.ifNo X184.here hx rfl (hb hby at_130) rfl ((if0 _ _).trans (teq ((by decide) : (0 : Int32) = (0 : Int32))).2) k) ?_
      show own_Ends _ _ _ _ (T184.setTop (mkF m 133 #[.val (.int p0), .val (.int p1), .val (.int p2), .val (.int p3), .val (.int p4), .val (.int (3 : Int32)), .val (.ref b101), .val (.int (0 : Int32)), .val (.int (3 : Int32)), .val (.int (2 : Int32)), .unset, .unset] []))
      refine own_pre (fun t k => XS.iload X184.here hx rfl (hb hby at_133) rfl k) ?_
      show own_Ends _ _ _ _ (T184.setTop (mkF m 135 #[.val (.int p0), .val (.int p1), .val (.int p2), .val (.int p3), .val (.int p4), .val (.int (3 : Int32)), .val (.ref b101), .val (.int (0 : Int32)), .val (.int (3 : Int32)), .val (.int (2 : Int32)), .unset, .unset] [(.int (2 : Int32))]))
      refine own_pre (fun t k => XS.goto X184.here hx rfl (pc0 := 135) (pc' := 143) rfl (hb hby at_135) (by decide) (by decide) k) ?_
      show own_Ends _ _ _ _ (T184.setTop (mkF m 143 #[.val (.int p0), .val (.int p1), .val (.int p2), .val (.int p3), .val (.int p4), .val (.int (3 : Int32)), .val (.ref b101), .val (.int (0 : Int32)), .val (.int (3 : Int32)), .val (.int (2 : Int32)), .unset, .unset] [(.int (2 : Int32))]))
      refine own_pre (fun t k => XS.istore X184.here hx rfl (hb hby at_143) rfl (l' := #[.val (.int p0), .val (.int p1), .val (.int p2), .val (.int p3), .val (.int p4), .val (.int (3 : Int32)), .val (.ref b101), .val (.int (0 : Int32)), .val (.int (3 : Int32)), .val (.int (2 : Int32)), .val (.int (2 : Int32)), .unset]) rfl k) ?_
      show own_Ends _ _ _ _ (T184.setTop (mkF m 145 #[.val (.int p0), .val (.int p1), .val (.int p2), .val (.int p3), .val (.int p4), .val (.int (3 : Int32)), .val (.ref b101), .val (.int (0 : Int32)), .val (.int (3 : Int32)), .val (.int (2 : Int32)), .val (.int (2 : Int32)), .unset] []))
      refine own_pre (fun t k => XS.iload X184.here hx rfl (hb hby at_145) rfl k) ?_
      show own_Ends _ _ _ _ (T184.setTop (mkF m 147 #[.val (.int p0), .val (.int p1), .val (.int p2), .val (.int p3), .val (.int p4), .val (.int (3 : Int32)), .val (.ref b101), .val (.int (0 : Int32)), .val (.int (3 : Int32)), .val (.int (2 : Int32)), .val (.int (2 : Int32)), .unset] [(.int (2 : Int32))]))
      refine own_pre (fun t k => XS.ifYes X184.here hx rfl (pc0 := 147) (pc' := 156) rfl (hb hby at_147) rfl ((if0 _ _).trans (feq ((by decide) : ¬ ((2 : Int32) = (0 : Int32)))).2) (by decide) (by decide) k) ?_
      show own_Ends _ _ _ _ (T184.setTop (mkF m 156 #[.val (.int p0), .val (.int p1), .val (.int p2), .val (.int p3), .val (.int p4), .val (.int (3 : Int32)), .val (.ref b101), .val (.int (0 : Int32)), .val (.int (3 : Int32)), .val (.int (2 : Int32)), .val (.int (2 : Int32)), .unset] []))
      refine own_pre (fun t k => XS.iload X184.here hx rfl (hb hby at_156) rfl k) ?_
      show own_Ends _ _ _ _ (T184.setTop (mkF m 158 #[.val (.int p0), .val (.int p1), .val (.int p2), .val (.int p3), .val (.int p4), .val (.int (3 : Int32)), .val (.ref b101), .val (.int (0 : Int32)), .val (.int (3 : Int32)), .val (.int (2 : Int32)), .val (.int (2 : Int32)), .unset] [(.int (2 : Int32))]))
      refine own_pre (fun t k => XS.iconst X184.here hx rfl (hb hby at_158) k) ?_
      show own_Ends _ _ _ _ (T184.setTop (mkF m 159 #[.val (.int p0), .val (.int p1), .val (.int p2), .val (.int p3), .val (.int p4), .val (.int (3 : Int32)), .val (.ref b101), .val (.int (0 : Int32)), .val (.int (3 : Int32)), .val (.int (2 : Int32)), .val (.int (2 : Int32)), .unset] [(.int (1 : Int32)), (.int (2 : Int32))]))
      refine own_pre (fun t k => XS.icmpYes X184.here hx rfl (pc0 := 159) (pc' := 168) rfl (hb hby at_159) rfl (feq ((by decide) : ¬ ((2 : Int32) = (1 : Int32)))).2 (by decide) (by decide) k) ?_
      show own_Ends _ _ _ _ (T184.setTop (mkF m 168 #[.val (.int p0), .val (.int p1), .val (.int p2), .val (.int p3), .val (.int p4), .val (.int (3 : Int32)), .val (.ref b101), .val (.int (0 : Int32)), .val (.int (3 : Int32)), .val (.int (2 : Int32)), .val (.int (2 : Int32)), .unset] []))
      refine own_pre (fun t k => XS.iloadN X184.here hx rfl (hb hby at_168) rfl k) ?_
      show own_Ends _ _ _ _ (T184.setTop (mkF m 169 #[.val (.int p0), .val (.int p1), .val (.int p2), .val (.int p3), .val (.int p4), .val (.int (3 : Int32)), .val (.ref b101), .val (.int (0 : Int32)), .val (.int (3 : Int32)), .val (.int (2 : Int32)), .val (.int (2 : Int32)), .unset] [(.int p2)]))
      refine own_pre (fun t k => XS.istore X184.here hx rfl (hb hby at_169) rfl (l' := #[.val (.int p0), .val (.int p1), .val (.int p2), .val (.int p3), .val (.int p4), .val (.int (3 : Int32)), .val (.ref b101), .val (.int (0 : Int32)), .val (.int (3 : Int32)), .val (.int (2 : Int32)), .val (.int (2 : Int32)), .val (.int p2)]) rfl k) ?_
      show own_Ends _ _ _ _ (T184.setTop (mkF m 171 #[.val (.int p0), .val (.int p1), .val (.int p2), .val (.int p3), .val (.int p4), .val (.int (3 : Int32)), .val (.ref b101), .val (.int (0 : Int32)), .val (.int (3 : Int32)), .val (.int (2 : Int32)), .val (.int (2 : Int32)), .val (.int p2)] []))
      refine own_pre (fun t k => XS.aload X184.here hx rfl (hb hby at_171) rfl rfl k) ?_
      show own_Ends _ _ _ _ (T184.setTop (mkF m 173 #[.val (.int p0), .val (.int p1), .val (.int p2), .val (.int p3), .val (.int p4), .val (.int (3 : Int32)), .val (.ref b101), .val (.int (0 : Int32)), .val (.int (3 : Int32)), .val (.int (2 : Int32)), .val (.int (2 : Int32)), .val (.int p2)] [(.ref b101)]))
      refine own_pre (fun t k => XS.iload X184.here hx rfl (hb hby at_173) rfl k) ?_
      show own_Ends _ _ _ _ (T184.setTop (mkF m 175 #[.val (.int p0), .val (.int p1), .val (.int p2), .val (.int p3), .val (.int p4), .val (.int (3 : Int32)), .val (.ref b101), .val (.int (0 : Int32)), .val (.int (3 : Int32)), .val (.int (2 : Int32)), .val (.int (2 : Int32)), .val (.int p2)] [(.int (0 : Int32)), (.ref b101)]))
      refine own_pre (fun t k => XS.iload X184.here hx rfl (hb hby at_175) rfl k) ?_
      show own_Ends _ _ _ _ (T184.setTop (mkF m 177 #[.val (.int p0), .val (.int p1), .val (.int p2), .val (.int p3), .val (.int p4), .val (.int (3 : Int32)), .val (.ref b101), .val (.int (0 : Int32)), .val (.int (3 : Int32)), .val (.int (2 : Int32)), .val (.int (2 : Int32)), .val (.int p2)] [(.int (2 : Int32)), (.int (0 : Int32)), (.ref b101)]))
      obtain ⟨cq190, kq190, q190a, q190b, q190c⟩ := isOf hZ rfl f185
      obtain ⟨_, _, ⟨T190, L190, k190, n190⟩, -, X190, ⟨Lc190, hQ190, l190, y190, z190⟩, st190⟩ := X184.virtualBack hx (y := (⟨"com/example/mursyn/mursyn/synthesis/SuccessorLists", "get", "(II)I"⟩ : MethodName)) (z := (⟨"com/example/mursyn/mursyn/synthesis/SuccessorLists", "get", "(II)I"⟩ : MethodName)) hown (mvT hZ (hw _ (List.mem_of_getElem? (i := 28) rfl))) (mvT hZ (hw _ (List.mem_of_getElem? (i := 29) rfl))) (notFace_of_selects (args := #[]) (mvT hZ (hw _ (List.mem_of_getElem? (i := 31) rfl)))) (mvT hZ (hw _ (List.mem_of_getElem? (i := 31) rfl))) (mvT hZ (hw _ (List.mem_of_getElem? (i := 30) rfl))) (by decide) (backOf (W := 0) (rm4 l Z a0 hw [] b101 (0 : Int32) (2 : Int32) bf108 bt108 kf108 kt108 [(.int (0 : Int32)), (.int (3 : Int32)), (.int (3 : Int32)), (.int (0 : Int32)), (.int (0 : Int32)), (.int (0 : Int32)), (.int (0 : Int32)), (.int (0 : Int32)), (.int (0 : Int32)), (.int (0 : Int32)), (.int (0 : Int32)), (.int (0 : Int32)), (.int (0 : Int32)), (.int (0 : Int32)), (.int (0 : Int32)), (.int (0 : Int32)), (.int (0 : Int32))] [(.int p0), (.int p1), (.int p2), (.int (0 : Int32)), (.int (0 : Int32)), (.int (0 : Int32)), (.int (0 : Int32)), (.int (0 : Int32)), (.int (0 : Int32)), (.int (0 : Int32)), (.int (0 : Int32)), (.int (0 : Int32)), (.int (0 : Int32)), (.int (0 : Int32)), (.int (0 : Int32)), (.int (0 : Int32))] (0 : Int32) p2 T184.heap n0 Zn184 fa184 fb184 vv184 f186 ⟨by decide, by decide⟩ rfl ⟨by decide, by decide⟩ rfl) hZ (hw _ (List.mem_of_getElem? (i := 32) rfl)) (hw _ (List.mem_of_getElem? (i := 2) rfl)) (by decide) (by decide)) q190a q190c (g := (mkF m 177 #[.val (.int p0), .val (.int p1), .val (.int p2), .val (.int p3), .val (.int p4), .val (.int (3 : Int32)), .val (.ref b101), .val (.int (0 : Int32)), .val (.int (3 : Int32)), .val (.int (2 : Int32)), .val (.int (2 : Int32)), .val (.int p2)] [(.int (2 : Int32)), (.int (0 : Int32)), (.ref b101)])) rfl (by rw [hml]; rfl) (Steps.refl _) (argsL := [(.int (0 : Int32)), (.int (2 : Int32))]) (rest := []) (lenOf own_pd2 rfl) rfl (by show 2 * 0 + _ ≤ _; exact Nat.le_of_eq rfl) (hb hby at_177) (fun _ _ => ⟨rfl, rfl, (by decide : 3 + 0 ≤ _), (by decide : 37 + 0 ≤ _)⟩)
      dsimp only [Pt.U, Pt.locs, Pt.cells, Pt.slots] at X190 l190 y190 z190 st190 hQ190
      subst l190 y190 z190
      obtain ⟨rfl, Nq190, e190⟩ := hQ190
      have N190 := Fr.app N184 Nq190
      refine own_pre (fun t k => st190.trans k) ?_
      show own_Ends _ _ _ _ (T190.setTop (mkF m 180 #[.val (.int p0), .val (.int p1), .val (.int p2), .val (.int p3), .val (.int p4), .val (.int (3 : Int32)), .val (.ref b101), .val (.int (0 : Int32)), .val (.int (3 : Int32)), .val (.int (2 : Int32)), .val (.int (2 : Int32)), .val (.int p2)] [(.int p2)]))
      refine own_pre (fun t k => XS.iload X190.here hx rfl (hb hby at_180) rfl k) ?_
      show own_Ends _ _ _ _ (T190.setTop (mkF m 182 #[.val (.int p0), .val (.int p1), .val (.int p2), .val (.int p3), .val (.int p4), .val (.int (3 : Int32)), .val (.ref b101), .val (.int (0 : Int32)), .val (.int (3 : Int32)), .val (.int (2 : Int32)), .val (.int (2 : Int32)), .val (.int p2)] [(.int p2), (.int p2)]))
      refine own_pre (fun t k => XS.icmpNo X190.here hx rfl (hb hby at_182) rfl (teq (rfl : p2 = p2)).2 k) ?_
      show own_Ends _ _ _ _ (T190.setTop (mkF m 185 #[.val (.int p0), .val (.int p1), .val (.int p2), .val (.int p3), .val (.int p4), .val (.int (3 : Int32)), .val (.ref b101), .val (.int (0 : Int32)), .val (.int (3 : Int32)), .val (.int (2 : Int32)), .val (.int (2 : Int32)), .val (.int p2)] []))
      refine own_pre (fun t k => XS.iconst X190.here hx rfl (hb hby at_185) k) ?_
      show own_Ends _ _ _ _ (T190.setTop (mkF m 186 #[.val (.int p0), .val (.int p1), .val (.int p2), .val (.int p3), .val (.int p4), .val (.int (3 : Int32)), .val (.ref b101), .val (.int (0 : Int32)), .val (.int (3 : Int32)), .val (.int (2 : Int32)), .val (.int (2 : Int32)), .val (.int p2)] [(.int (1 : Int32))]))
      refine own_pre (fun t k => XS.goto X190.here hx rfl (pc0 := 186) (pc' := 190) rfl (hb hby at_186) (by decide) (by decide) k) ?_
      show own_Ends _ _ _ _ (T190.setTop (mkF m 190 #[.val (.int p0), .val (.int p1), .val (.int p2), .val (.int p3), .val (.int p4), .val (.int (3 : Int32)), .val (.ref b101), .val (.int (0 : Int32)), .val (.int (3 : Int32)), .val (.int (2 : Int32)), .val (.int (2 : Int32)), .val (.int p2)] [(.int (1 : Int32))]))
      exact own_retN X190 hx (t := .boolean) Bd.returns (by simp) (hb hby at_190) hlk rfl e190 ⟨rfl, N190⟩ (by decide) (by decide)
set_option maxRecDepth 65536 in
set_option maxHeartbeats 40000000 in
theorem own_comes {Post : Tables → Env → Array Value → State → Outcome → State → Prop} (hpost : ∀ tb e args s v u, (limb_1_1.after args s (.returned v) u = true ∧ limb_1_2.after args s (.returned v) u = true ∧ True) → FrameEnd s (.returned v) u (Jvm.fieldLocs frame_1_writes args s ++ Jvm.arrayLocs frame_1_arrays args s ++ Jvm.staticLocs frame_1_statics s) 16 192 → Post tb e args s (.returned v) u) :
    ArmFor flags0 classFile x code maxLocals ret World_1 tables_1 room_1 Calls_1 rest_1 Pre_1 Post := by
  intro l hfl _ _ p e ha hc hk s m args below hf hA hF happ hP
  obtain ⟨hcalls, hrest, hpre⟩ := hP
  obtain ⟨-, -, -, hnamed, -, -, -, hat⟩ := (Spec.applies_iff hf).mp happ
  obtain ⟨hg, hn⟩ := and_e (Cond.before_iff.mp (show (Jvm.Cond.and given_1 narrow_1).before args s = true from hpre))
  obtain ⟨hcount, g0⟩ := and_e hg
  obtain ⟨hk0, g1⟩ := and_e g0
  obtain ⟨hk1, g2⟩ := and_e g1
  obtain ⟨hk2, g3⟩ := and_e g2
  obtain ⟨hk3, g4⟩ := and_e g3
  obtain ⟨w0, w1, w2, w3, w4, rfl⟩ : ∃ w0 w1 w2 w3 w4 : Value, args = #[w0, w1, w2, w3, w4] := by
    have hs : args.size = 5 := by simpa [Cond.value, given_1] using hcount
    obtain ⟨L⟩ := args
    match L, hs with
    | [w0, w1, w2, w3, w4], _ => exact ⟨w0, w1, w2, w3, w4, rfl⟩
  have hw := fun d (hd : d ∈ tables_1) => atoms_spec (ws := Jvm.Cond.code x code maxLocals ret :: tables_1) hat d (List.mem_cons_of_mem _ hd)
  have hfit : Fit s := fun {y c} hc i hi => by
    obtain ⟨ha, rfl⟩ := Array.getElem?_eq_some_iff.mp hc
    have q := List.all_eq_true.mp ((Array.all_eq_true_iff_forall_mem.mp hF) _ (Array.getElem_mem ha)) i (List.mem_range.mpr hi)
    simpa [Array.getElem?_eq_getElem hi] using q
  obtain ⟨i0, ei0⟩ := is_v hk0
  obtain rfl : w0 = (.int i0) := Option.some.inj ei0
  obtain ⟨i1, ei1⟩ := is_v hk1
  obtain rfl : w1 = (.int i1) := Option.some.inj ei1
  obtain ⟨i2, ei2⟩ := is_v hk2
  obtain rfl : w2 = (.int i2) := Option.some.inj ei2
  obtain ⟨i3, ei3⟩ := is_v hk3
  obtain rfl : w3 = (.int i3) := Option.some.inj ei3
  obtain ⟨i4, ei4⟩ := is_v g4
  obtain rfl : w4 = (.int i4) := Option.some.inj ei4
  obtain ⟨n, o, h1, h2, h3, _, L, rfl, ⟨rfl, N⟩, hq⟩ := rm0 l s _ hw tables_1 i0 i1 i2 i3 i4 s.heap s.heap.size (Nat.le_refl _)  p e ha hc hk s m _ below hf ((Spec.applies_iff_loose hf).mp happ).1 ⟨rfl, State.Warmed39.refl s, rfl⟩ trivial
  refine ⟨n, _, h1, h2, h3, hpost _ _ _ _ _ _ ⟨Cond.after_iff.mpr rfl, Cond.after_iff.mpr (eq_i res_at (Term.int_eval (1)) rfl), trivial⟩ ⟨hq.1, hq.2.1, (hq.2.2.sift fun y hy => Or.inr (N y hy)).mono (by decide) (by decide)⟩⟩
theorem main_1_1 : Claimed_1_1 := own_comes fun _ _ _ _ _ _ h hF => ⟨h.1, hF⟩
theorem main_1_2 : Claimed_1_2 := own_comes fun _ _ _ _ _ _ h hF => ⟨h.2.1, hF⟩
end Jvm.Pilot.@@N@@
namespace Jvm.Pilot.@@N@@
open Jvm Jvm.ClassFile Sem Op Lib Jvm.Free Jvm.Stand Jvm.Pilot.@@N@@.Jvm.D
/-! MADE BY PROGRAM (witnessworld.py) out of the Statement's table words and the real class files: 9 classes; the members and pool entries that the words name. The judged class is class 1, her method 1. -/
namespace start1
open Jvm.ClassFile
def u (s : String) : CpInfo := .utf8 (stringToUtf16 s)
/-- a pool by its gaps: so many unusable entries, then the entry; so many at the end -/
def gap : Nat → List CpInfo → List CpInfo
  | 0, r => r
  | n + 1, r => .unusable :: gap n r
def poolList (es : List (Nat × CpInfo)) (last : Nat) : List CpInfo := es.foldr (fun e r => gap e.1 (e.2 :: r)) (gap last [])
def pool (es : List (Nat × CpInfo)) (last : Nat) : Array CpInfo := ⟨poolList es last⟩
def fileOf (pool : Array CpInfo) (this : Nat) (attrs : Array Attribute := #[]) (ms : Array MethodInfo := #[]) (fl : Nat := 33) (sup : Nat := 0) (ifs : Array Nat := #[]) (fds : Array FieldInfo := #[]) : ClassFile where
  minorVersion := 0
  majorVersion := 65
  constantPool := pool
  accessFlags := fl
  thisClass := this
  superClass := sup
  interfaces := ifs
  fields := fds
  methods := ms
  attributes := attrs
def plain (name : String) (sup : Option ClassId) : Class where
  name := name
  kind := .ordinary
  loader := none
  accessFlags := 33
  super := sup
  interfaces := #[]
  cf := none
  fields := #[]
  methods := #[]
  instanceTypes := #[]
  staticTypes := #[]
  resolved := #[]
  callSites := []
  init := .initialized
  statics := none
  mirror := none

def pool0 : Array CpInfo := pool [(5, u "<init>"), (0, u "()V"), (1, .class_ 10), (1, u "java/lang/Object")] 113

def k0c0 : Code := { maxStack := 0, maxLocals := 1, code := object_method_1_code, exceptionTable := #[], attributes := #[] }
def k0m0 : Method := { name := "<init>", desc := "()V", sig := { parameters := [], returnType := none }, accessFlags := 1, code := some k0c0 }
/-- java/lang/Object -/
def k0 : Class := { plain "java/lang/Object" none with
  accessFlags := 33
  interfaces := #[]
  cf := some (fileOf pool0 8 #[] #[{ accessFlags := 1, nameIndex := 5, descriptorIndex := 6, attributes := #[] }] 33 0 #[] #[])
  fields := #[]
  methods := #[k0m0]
  instanceTypes := #[]
  staticTypes := #[]
  resolved := Array.replicate 124 none
  statics := none }

def pool1 : Array CpInfo := pool [(2, .class_ 4), (0, .nameAndType 5 6), (0, u "java/lang/Object"), (0, u "<init>"), (0, u "()V"), (0, .class_ 8), (0, u "com/example/mursyn/mursyn/synthesis/SuccessorLists"), (0, .methodref 7 3), (0, .methodref 7 11), (0, .nameAndType 12 6), (0, u "close"), (0, .methodref 7 14), (0, .nameAndType 15 16), (0, u "add"), (0, u "(I)V"), (0, .methodref 7 18), (0, .nameAndType 19 20), (0, u "get"), (0, u "(II)I"), (0, .class_ 22), (0, u "com/example/mursyn/mursyn/synthesis/SuccessorListsGetPinLaw"), (2, u "law"), (0, u "(IIIII)Z")] 3

def k1m0 : Method := { name := "<init>", desc := "()V", sig := { parameters := [], returnType := none }, accessFlags := 1, code := none }
def k1c1 : Code := { maxStack := 3, maxLocals := 12, code := code, exceptionTable := #[], attributes := #[] }
def k1m1 : Method := { name := "law", desc := "(IIIII)Z", sig := { parameters := [.int, .int, .int, .int, .int], returnType := some .boolean }, accessFlags := 9, code := some k1c1 }
/-- com/example/mursyn/mursyn/synthesis/SuccessorListsGetPinLaw -/
def k1 : Class := { plain "com/example/mursyn/mursyn/synthesis/SuccessorListsGetPinLaw" (some 0) with
  accessFlags := 49
  interfaces := #[]
  cf := some (fileOf pool1 21 #[] #[{ accessFlags := 1, nameIndex := 5, descriptorIndex := 6, attributes := #[] }, { accessFlags := 9, nameIndex := 25, descriptorIndex := 26, attributes := #[] }] 49 2 #[] #[])
  fields := #[]
  methods := #[k1m0, k1m1]
  instanceTypes := #[]
  staticTypes := #[]
  resolved := Array.replicate 30 none
  statics := none }

def pool2 : Array CpInfo := pool [(1, .methodref 2 3), (0, .class_ 4), (0, .nameAndType 5 6), (0, u "java/lang/Object"), (0, u "<init>"), (0, u "()V"), (0, .fieldref 8 9), (0, .class_ 10), (0, .nameAndType 11 12), (0, u "com/example/mursyn/mursyn/synthesis/SuccessorLists"), (0, u "first"), (0, u "[I"), (0, .fieldref 8 14), (0, .nameAndType 15 12), (0, u "targets"), (0, .fieldref 8 17), (0, .nameAndType 18 19), (0, u "edgeCount"), (0, u "I"), (6, .fieldref 8 27), (0, .nameAndType 28 19), (0, u "listed"), (8, u "add"), (0, u "(I)V"), (1, u "close"), (2, u "get"), (0, u "(II)I")] 4

def k2c0 : Code := { maxStack := 2, maxLocals := 1, code := prog_58_method_1_code, exceptionTable := #[], attributes := #[] }
def k2m0 : Method := { name := "<init>", desc := "()V", sig := { parameters := [], returnType := none }, accessFlags := 0, code := some k2c0 }
def k2c1 : Code := { maxStack := 5, maxLocals := 2, code := prog_58_method_2_code, exceptionTable := #[], attributes := #[] }
def k2m1 : Method := { name := "add", desc := "(I)V", sig := { parameters := [.int], returnType := none }, accessFlags := 0, code := some k2c1 }
def k2c2 : Code := { maxStack := 4, maxLocals := 1, code := prog_58_method_3_code, exceptionTable := #[], attributes := #[] }
def k2m2 : Method := { name := "close", desc := "()V", sig := { parameters := [], returnType := none }, accessFlags := 0, code := some k2c2 }
def k2c3 : Code := { maxStack := 3, maxLocals := 3, code := prog_58_method_5_code, exceptionTable := #[], attributes := #[] }
def k2m3 : Method := { name := "get", desc := "(II)I", sig := { parameters := [.int, .int], returnType := some .int }, accessFlags := 0, code := some k2c3 }
/-- com/example/mursyn/mursyn/synthesis/SuccessorLists -/
def k2 : Class := { plain "com/example/mursyn/mursyn/synthesis/SuccessorLists" (some 0) with
  accessFlags := 32
  interfaces := #[]
  cf := some (fileOf pool2 8 #[] #[{ accessFlags := 0, nameIndex := 5, descriptorIndex := 6, attributes := #[] }, { accessFlags := 0, nameIndex := 37, descriptorIndex := 38, attributes := #[] }, { accessFlags := 0, nameIndex := 40, descriptorIndex := 6, attributes := #[] }, { accessFlags := 0, nameIndex := 43, descriptorIndex := 44, attributes := #[] }] 32 2 #[] #[{ accessFlags := 2, nameIndex := 11, descriptorIndex := 12, attributes := #[] }, { accessFlags := 2, nameIndex := 15, descriptorIndex := 12, attributes := #[] }, { accessFlags := 2, nameIndex := 28, descriptorIndex := 19, attributes := #[] }, { accessFlags := 2, nameIndex := 18, descriptorIndex := 19, attributes := #[] }])
  fields := #[{ name := "first", type := (.array .int), accessFlags := 2, slot := 0, constantValue := 0 }, { name := "targets", type := (.array .int), accessFlags := 2, slot := 1, constantValue := 0 }, { name := "listed", type := .int, accessFlags := 2, slot := 2, constantValue := 0 }, { name := "edgeCount", type := .int, accessFlags := 2, slot := 3, constantValue := 0 }]
  methods := #[k2m0, k2m1, k2m2, k2m3]
  instanceTypes := #[(.array .int), (.array .int), .int, .int]
  staticTypes := #[]
  resolved := Array.replicate 49 none
  statics := none }

def pool3 : Array CpInfo := pool [(1, u "java/lang/Cloneable"), (0, .class_ 1), (0, u "java/lang/Object"), (0, .class_ 3)] 3

/-- java/lang/Cloneable -/
def k3 : Class := { plain "java/lang/Cloneable" (some 0) with
  accessFlags := 1537
  interfaces := #[]
  cf := some (fileOf pool3 2 #[] #[] 1537 4 #[] #[])
  fields := #[]
  methods := #[]
  instanceTypes := #[]
  staticTypes := #[]
  resolved := Array.replicate 8 none
  statics := none }

def pool4 : Array CpInfo := pool [(1, u "java/io/Serializable"), (0, .class_ 1), (0, u "java/lang/Object"), (0, .class_ 3)] 3

/-- java/io/Serializable -/
def k4 : Class := { plain "java/io/Serializable" (some 0) with
  accessFlags := 1537
  interfaces := #[]
  cf := some (fileOf pool4 2 #[] #[] 1537 4 #[] #[])
  fields := #[]
  methods := #[]
  instanceTypes := #[]
  staticTypes := #[]
  resolved := Array.replicate 8 none
  statics := none }

/-- the primitive byte -/
def k5 : Class := { plain "byte" none with kind := .primitive 'B', accessFlags := 0x411 }
/-- [B -/
def k6 : Class := { plain "[B" (some 0) with kind := .array 5 .byte, interfaces := #[3, 4], accessFlags := 1041 }

/-- the primitive int -/
def k7 : Class := { plain "int" none with kind := .primitive 'I', accessFlags := 0x411 }
/-- [I -/
def k8 : Class := { plain "[I" (some 0) with kind := .array 7 .int, interfaces := #[3, 4], accessFlags := 1041 }

def heap : Heap := #[]
def classes : Array Class := #[k0, k1, k2, k3, k4, k5, k6, k7, k8]
def interned : List (Array UInt16 × Addr) := []
def slotsUsed : Nat := 0
def theMethod : MethodId := ⟨1, 1⟩
def args0 : Array Value := #[.int 1, .int 2, .int 3, .int 1, .int 2]
def aboutOver (below : List Frame) : State where
  vm := { classes := classes, interned := interned.toArray }
  heap := heap
  slotsUsed := slotsUsed
  threads := #[{ frames := .invoking theMethod args0 :: below }]
def below0 : List Frame := [.native { method := ⟨0, 0⟩, args := #[] }]
def about1 : State := aboutOver below0
def p0 : Program := .bare "" "" ""
def e0 : Env := launch0.env 0 0 0
theorem w_frames : about1.frames = Frame.invoking theMethod args0 :: below0 := rfl
set_option maxRecDepth 65536 in
theorem w_args : argsFit about1.vm theMethod args0 = true := by decide +kernel
set_option maxRecDepth 65536 in
theorem w_heap : heapFits about1 = true := by decide +kernel
set_option maxRecDepth 65536 in
theorem w_runnable : about1.curStatus? = some .runnable := by decide +kernel
set_option maxRecDepth 65536 in
theorem w_alone : about1.alone = true := by decide +kernel
set_option maxRecDepth 65536 in
theorem w_named : about1.methodNamed? x = some theMethod := by decide +kernel
set_option maxRecDepth 65536 in
theorem w_hears : about1.hears theMethod below0 = true := by decide +kernel
set_option maxRecDepth 65536 in
theorem w_ripe : about1.ripe theMethod args0 below0 = true := by decide +kernel
theorem w_running : about1.status = .running := rfl
set_option maxRecDepth 65536 in
theorem w_room : about1.hasRoom e0.platform room_1 = true :=
  launch0.hasRoom_least _ room_1 (by decide +kernel) (by decide +kernel) (by decide +kernel) (by decide +kernel) (by decide +kernel) (by decide +kernel)
theorem allAtoms_all (ts : List Jvm.Cond) (a : Array Jvm.Value) (st : Jvm.State) : (allAtoms ts).before a st = ts.all (fun c => c.before a st) := by
  induction ts with
  | nil => rfl
  | cons c t ih =>
    show (Jvm.Cond.and c (allAtoms t)).before a st = _
    rw [Jvm.Cond.before_and, ih, List.all_cons]
def words1 : List Jvm.Cond := Jvm.Cond.code x code maxLocals ret :: tables_1
/-- a 'code' word, met by the world's own term for the bytes: nothing is compared byte by byte -/
theorem code_word {y : MethodName} {bytes : ByteArray} {mx : Nat} {rt : Option FieldType} {a : Array Value} {s : State} {m : MethodId} {meth : Method} {c : Code} (h1 : s.methodNamed? y = some m) (h2 : s.vm.method? m = some meth) (h3 : meth.code = some c) (h4 : c.code = bytes)
    (h5 : (c.maxLocals == mx && c.exceptionTable.isEmpty && decide (c.maxStack ≤ mostOperands) && decide (meth.sig.returnType = rt) && !meth.locks && decide (parseMethodDescriptor y.desc = some meth.sig)) = true) : (Jvm.Cond.code y bytes mx rt).before a s = true := by
  simp only [Bool.and_eq_true, beq_iff_eq, Bool.not_eq_true', decide_eq_true_eq] at h5
  obtain ⟨⟨⟨⟨⟨g1, g2⟩, g3⟩, g4⟩, g5⟩, g6⟩ := h5
  simp [Cond.before, Cond.holds, Cond.value, h1, h2, h3, h4, g1, g2, g3, g4, g5, g6]
def isCode : Jvm.Cond → Bool
  | .code _ _ _ _ => true
  | _ => false
theorem all_split {L : List Jvm.Cond} {P : Jvm.Cond → Bool} (h1 : L.all (fun c => isCode c || P c) = true) (h2 : ∀ c ∈ L.filter isCode, P c = true) : L.all P = true := by
  refine List.all_eq_true.mpr fun c hc => ?_
  have h := List.all_eq_true.mp h1 c hc
  rcases Bool.eq_false_or_eq_true (isCode c) with hi | hi
  · exact h2 c (List.mem_filter.mpr ⟨hc, hi⟩)
  · simpa [hi] using h
set_option maxRecDepth 65536 in
theorem w_c0 : (Jvm.Cond.code x code maxLocals ret).before args0 about1 = true := code_word (m := ⟨1, 1⟩) (meth := k1m1) (c := k1c1) (by decide +kernel) rfl rfl rfl (by decide +kernel)
set_option maxRecDepth 65536 in
theorem w_c1 : (Jvm.Cond.code ({ cls := "com/example/mursyn/mursyn/synthesis/SuccessorLists", name := "<init>", desc := "()V" } : Jvm.MethodName) prog_58_method_1_code (1 : Nat) (Option.none : Option Jvm.ClassFile.FieldType)).before args0 about1 = true := code_word (m := ⟨2, 0⟩) (meth := k2m0) (c := k2c0) (by decide +kernel) rfl rfl rfl (by decide +kernel)
set_option maxRecDepth 65536 in
theorem w_c2 : (Jvm.Cond.code ({ cls := "java/lang/Object", name := "<init>", desc := "()V" } : Jvm.MethodName) object_method_1_code (1 : Nat) (Option.none : Option Jvm.ClassFile.FieldType)).before args0 about1 = true := code_word (m := ⟨0, 0⟩) (meth := k0m0) (c := k0c0) (by decide +kernel) rfl rfl rfl (by decide +kernel)
set_option maxRecDepth 65536 in
theorem w_c3 : (Jvm.Cond.code ({ cls := "com/example/mursyn/mursyn/synthesis/SuccessorLists", name := "add", desc := "(I)V" } : Jvm.MethodName) prog_58_method_2_code (2 : Nat) (Option.none : Option Jvm.ClassFile.FieldType)).before args0 about1 = true := code_word (m := ⟨2, 1⟩) (meth := k2m1) (c := k2c1) (by decide +kernel) rfl rfl rfl (by decide +kernel)
set_option maxRecDepth 65536 in
theorem w_c4 : (Jvm.Cond.code ({ cls := "com/example/mursyn/mursyn/synthesis/SuccessorLists", name := "close", desc := "()V" } : Jvm.MethodName) prog_58_method_3_code (1 : Nat) (Option.none : Option Jvm.ClassFile.FieldType)).before args0 about1 = true := code_word (m := ⟨2, 2⟩) (meth := k2m2) (c := k2c2) (by decide +kernel) rfl rfl rfl (by decide +kernel)
set_option maxRecDepth 65536 in
theorem w_c5 : (Jvm.Cond.code ({ cls := "com/example/mursyn/mursyn/synthesis/SuccessorLists", name := "get", desc := "(II)I" } : Jvm.MethodName) prog_58_method_5_code (3 : Nat) (Option.some Jvm.ClassFile.FieldType.int)).before args0 about1 = true := code_word (m := ⟨2, 3⟩) (meth := k2m3) (c := k2c3) (by decide +kernel) rfl rfl rfl (by decide +kernel)
def codes1 : List Jvm.Cond := [Jvm.Cond.code x code maxLocals ret, Jvm.Cond.code ({ cls := "com/example/mursyn/mursyn/synthesis/SuccessorLists", name := "<init>", desc := "()V" } : Jvm.MethodName) prog_58_method_1_code (1 : Nat) (Option.none : Option Jvm.ClassFile.FieldType), Jvm.Cond.code ({ cls := "java/lang/Object", name := "<init>", desc := "()V" } : Jvm.MethodName) object_method_1_code (1 : Nat) (Option.none : Option Jvm.ClassFile.FieldType), Jvm.Cond.code ({ cls := "com/example/mursyn/mursyn/synthesis/SuccessorLists", name := "add", desc := "(I)V" } : Jvm.MethodName) prog_58_method_2_code (2 : Nat) (Option.none : Option Jvm.ClassFile.FieldType), Jvm.Cond.code ({ cls := "com/example/mursyn/mursyn/synthesis/SuccessorLists", name := "close", desc := "()V" } : Jvm.MethodName) prog_58_method_3_code (1 : Nat) (Option.none : Option Jvm.ClassFile.FieldType), Jvm.Cond.code ({ cls := "com/example/mursyn/mursyn/synthesis/SuccessorLists", name := "get", desc := "(II)I" } : Jvm.MethodName) prog_58_method_5_code (3 : Nat) (Option.some Jvm.ClassFile.FieldType.int)]
set_option maxRecDepth 65536 in
theorem codes_eq : words1.filter isCode = codes1 := rfl
theorem w_codes : ∀ c ∈ words1.filter isCode, c.before args0 about1 = true := by
  rw [codes_eq]
  intro c hc
  simp only [codes1, List.mem_cons, List.not_mem_nil, or_false] at hc
  rcases hc with rfl | rfl | rfl | rfl | rfl | rfl
  · exact w_c0
  · exact w_c1
  · exact w_c2
  · exact w_c3
  · exact w_c4
  · exact w_c5
set_option maxRecDepth 65536 in
theorem w_t1 : (words1.take 24).all (fun c => isCode c || c.before args0 about1) = true := by decide +kernel
set_option maxRecDepth 65536 in
theorem w_t2 : (words1.drop 24).all (fun c => isCode c || c.before args0 about1) = true := by decide +kernel
theorem w_tables : (allAtoms (Jvm.Cond.code x code maxLocals ret :: tables_1)).before args0 about1 = true := by
  rw [allAtoms_all]
  show words1.all (fun c => c.before args0 about1) = true
  refine all_split ?_ w_codes
  rw [← List.take_append_drop 24 words1, List.all_append, w_t1, w_t2]
  rfl
set_option maxRecDepth 65536 in
theorem w_case : (Jvm.Cond.and given_1 narrow_1).before args0 about1 = true := by decide +kernel
theorem w_applies : (headSpec (Jvm.Cond.code x code maxLocals ret :: tables_1) room_1).applies x e0.platform about1 = true :=
  (Spec.applies_iff w_frames).mpr ⟨w_running, w_runnable, w_alone, w_named, w_hears, w_ripe, w_room, w_tables⟩
theorem atStart : AtStart classFile x code maxLocals ret World_1 tables_1 room_1 Calls_1 rest_1 Pre_1 launch0 p0 e0 about1 theMethod args0 below0 :=
  ⟨lists_1, trivial, launch0.admits_env _ _ _, launch0.least_env, fairChoices_fair.cas, fairChoices_fair.clock, w_frames, w_args, w_heap, w_applies, trivial, trivial, w_case⟩
end start1
theorem witness_1 : WitnessClaimed_1 := ⟨start1.p0, start1.e0, start1.about1, start1.theMethod, start1.args0, start1.below0, start1.atStart⟩
end Jvm.Pilot.@@N@@

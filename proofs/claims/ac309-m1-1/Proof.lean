import JvmDerived
import JvmDerived.Pilot.@@N@@Statement
import JvmDerived.Pilot.@@N@@Code
set_option linter.unusedVariables false
set_option linter.unusedSimpArgs false
@@BLOCK:NumsL.lean.txt@@
namespace Jvm.Pilot.@@N@@
open Jvm Jvm.ClassFile Sem Op Lib Jvm.Free Jvm.Stand Jvm.LawKit Jvm.RoadKit Bundle Jvm.Pilot.@@N@@.Jvm.D
section Own
variable {p : Program} {l : Launch} {e : Env} {R : Room} {s : State} {m : MethodId} {args : Array Value} {below : List Frame} {meth : Method} {c : Code} {T : State} {locs : List Loc} {cells slots : Nat}
/-- from t the invocation comes to its end, and F holds there -/
def own_Ends (p : Program) (e : Env) (below : List Frame) (F : State → Outcome → Prop) (t : State) : Prop := ∃ s₂ o, Steps p.tables e below t s₂ ∧ s₂.status = .running ∧ Ended s₂ below o ∧ F s₂ o
theorem own_pre {F : State → Outcome → Prop} {t t' : State} (k : ∀ u, Steps p.tables e below t' u → Steps p.tables e below t u) (h : own_Ends p e below F t') : own_Ends p e below F t := by
  obtain ⟨s₂, o, h1, h2⟩ := h
  exact ⟨s₂, o, k _ h1, h2⟩
/-- what is asked of the end: G of the value, the heap and the places written; the frame -/
def own_Fin (s : State) (G : Option Value → Heap → List Loc → Prop) (C S : Nat) (s₂ : State) (o : Outcome) : Prop := ∃ v L, o = .returned v ∧ G v s₂.heap L ∧ FrameEnd s o s₂ L C S
theorem own_out (X : Stand p l e R s m args below meth c T locs cells slots) {v : Option Value} (hv : meth.sig.returnType = none → v = none) (hlk : meth.locks = false) {g : JFrame} {G : Option Value → Heap → List Loc → Prop} {C S : Nat} {h : Heap} (eT : T.heap = h) (hG : G v h locs) (hC : cells ≤ C) (hS : slots ≤ S)
    (st : ∀ fs, (∀ (f : JFrame) (acts : List Action), f.method = m → f.locked = none → f.entered = [] → (doReturn e (T.setTop f) acts v).1 = T.setFrames fs) → Steps p.tables e below (T.setTop g) (T.setFrames fs)) : own_Ends p e below (own_Fin s G C S) (T.setTop g) := by
  obtain ⟨fs, hr, hrun, hended, hW, hsame⟩ := X.leave (v := v) hv hlk
  subst eT
  exact ⟨_, _, st fs hr, hrun, hended, v, locs, rfl, hG, ⟨_, rfl⟩, hW, hsame.mono hC hS⟩
theorem own_retN (X : Stand p l e R s m args below meth c T locs cells slots) (hx : p.tables.exec = Jvm.exec) {pc : Nat} {Ls : Array Slot} {z z' : Int32} {t : FieldType} {rest : List Value} (hret : meth.sig.returnType = some t) (ht : t = .boolean ∨ t = .byte ∨ t = .char ∨ t = .short) (hd : decode c.code pc = .ok (.ireturn, 1)) (hlk : meth.locks = false) (hz : nar t z = z')
    {G : Option Value → Heap → List Loc → Prop} {C S : Nat} {h : Heap} (eT : T.heap = h) (hG : G (some (.int z')) h locs) (hC : cells ≤ C) (hS : slots ≤ S) : own_Ends p e below (own_Fin s G C S) (T.setTop (mkF m pc Ls (.int z :: rest))) := by
  subst hz
  exact own_out X (fun h => by rw [hret] at h; cases h) hlk eT hG hC hS (fun fs hr => retN X hx hret ht hd hr)
theorem own_retI (X : Stand p l e R s m args below meth c T locs cells slots) (hx : p.tables.exec = Jvm.exec) {pc : Nat} {Ls : Array Slot} {z : Int32} {rest : List Value} (hret : meth.sig.returnType = some .int) (hd : decode c.code pc = .ok (.ireturn, 1)) (hlk : meth.locks = false)
    {G : Option Value → Heap → List Loc → Prop} {C S : Nat} {h : Heap} (eT : T.heap = h) (hG : G (some (.int z)) h locs) (hC : cells ≤ C) (hS : slots ≤ S) : own_Ends p e below (own_Fin s G C S) (T.setTop (mkF m pc Ls (.int z :: rest))) :=
  own_out X (fun h => by rw [hret] at h; cases h) hlk eT hG hC hS (fun fs hr => retOut X hx hret rfl (Or.inl ⟨rfl, Or.inl rfl, _, rfl⟩) hd hr)
theorem own_retJ (X : Stand p l e R s m args below meth c T locs cells slots) (hx : p.tables.exec = Jvm.exec) {pc : Nat} {Ls : Array Slot} {z : Int64} {rest : List Value} (hret : meth.sig.returnType = some .long) (hd : decode c.code pc = .ok (.lreturn, 1)) (hlk : meth.locks = false)
    {G : Option Value → Heap → List Loc → Prop} {C S : Nat} {h : Heap} (eT : T.heap = h) (hG : G (some (.long z)) h locs) (hC : cells ≤ C) (hS : slots ≤ S) : own_Ends p e below (own_Fin s G C S) (T.setTop (mkF m pc Ls (.long z :: rest))) :=
  own_out X (fun h => by rw [hret] at h; cases h) hlk eT hG hC hS (fun fs hr => retOut X hx hret rfl (Or.inr (Or.inl ⟨rfl, rfl, _, rfl⟩)) hd hr)
theorem own_retR (X : Stand p l e R s m args below meth c T locs cells slots) (hx : p.tables.exec = Jvm.exec) {pc : Nat} {Ls : Array Slot} {a : Addr} {t : FieldType} {rest : List Value} (hret : meth.sig.returnType = some t) (ht : t.isReference = true) (hd : decode c.code pc = .ok (.areturn, 1)) (hlk : meth.locks = false)
    {G : Option Value → Heap → List Loc → Prop} {C S : Nat} {h : Heap} (eT : T.heap = h) (hG : G (some (.ref a)) h locs) (hC : cells ≤ C) (hS : slots ≤ S) : own_Ends p e below (own_Fin s G C S) (T.setTop (mkF m pc Ls (.ref a :: rest))) :=
  own_out X (fun h => by rw [hret] at h; cases h) hlk eT hG hC hS (fun fs hr => retOut X hx hret (by cases t <;> first | rfl | (simp [FieldType.isReference] at ht)) (Or.inr (Or.inr (Or.inr (Or.inr ⟨rfl, ht, rfl⟩)))) hd hr)
theorem own_retV (X : Stand p l e R s m args below meth c T locs cells slots) (hx : p.tables.exec = Jvm.exec) {pc : Nat} {Ls : Array Slot} (hret : meth.sig.returnType = none) (hd : decode c.code pc = .ok (.return_, 1)) (hlk : meth.locks = false)
    {G : Option Value → Heap → List Loc → Prop} {C S : Nat} {h : Heap} (eT : T.heap = h) (hG : G none h locs) (hC : cells ≤ C) (hS : slots ≤ S) : own_Ends p e below (own_Fin s G C S) (T.setTop (mkF m pc Ls [])) :=
  own_out X (fun _ => rfl) hlk eT hG hC hS (fun fs hr => X.returnOut hx hret hd hr)
theorem own_len (X : Stand p l e R s m args below meth c T locs cells slots) (hx : p.tables.exec = Jvm.exec) {h : Heap} (eT : T.heap = h) {Z : State} (hZ : Z.Warmed39 s.vm) {a : Addr} {cl : Cell} {ty : FieldType} {z : Int32} (A : Arr Z h a cl ty) (S : cl.slots.size = z.toNatClampNeg) (M : ¬ z < 0)
    {g : JFrame} (hg : g.method = m) {rest : List Value} (hs : g.stack = .ref a :: rest) (hd : decode c.code g.pc = .ok (.arraylength, 1)) {target : State} (k : Steps p.tables e below (T.setTop { g with pc := g.pc + 1, stack := .int z :: rest }) target) : Steps p.tables e below (T.setTop g) target := by
  refine X.arraylength hx (by rw [eT]; exact A.1) (State.isArrayOf_alike hZ.alike A.2.1) hg hs hd _ ?_
  rw [len_of S M]
  exact k
theorem own_setAny {Z : State} {h h' : Heap} {a : Addr} {cl : Cell} {k : ClassId} {ty : FieldType} {z : Int32} {vs : List Value} {dv v : Value} {j : Nat} (A : Arr Z h a cl ty) (q1 : cl.cls = k) (S : cl.slots.size = z.toNatClampNeg) (q3 : ¬ z < 0) (H : Has cl vs dv) (G : ∀ i, i < cl.slots.size → fits ty (vs.getD i dv) = true) (hv : fits ty v = true) (W : Wr h h' a j v) : ∃ vs', Arv Z h' a k ty z vs' dv := by
  have E : ∀ x, x < (cl.setSlot j v).slots.size → (cl.setSlot j v).slots[x]? = some ((cl.setSlot j v).slots.toList.getD x dv) := fun x hx => by
    rw [List.getD_eq_getElem?_getD, Array.getElem?_toList, Array.getElem?_eq_getElem hx]; rfl
  refine ⟨(cl.setSlot j v).slots.toList, _, A.same W, q1, by rw [sz_set]; exact S, q3, E, fun x hx => ?_⟩
  have hx' := hx
  rw [sz_set] at hx'
  have e1 := E x hx
  by_cases u : j = x
  · subst u
    have : (cl.setSlot j v).slots[j]? = some v := by simp [Cell.setSlot, hx']
    rw [this] at e1
    rw [← Option.some.inj e1]; exact hv
  · have : (cl.setSlot j v).slots[x]? = cl.slots[x]? := by simp [Cell.setSlot, Array.getElem?_setIfInBounds_ne u]
    rw [this, H x hx'] at e1
    rw [← Option.some.inj e1]; exact G x hx'
theorem own_staK {Z : State} {h h' : Heap} {a : Addr} {C n d D : String} {v : Value} (F : Sta Z h C n d v) (K : Keep h h' [a]) (E : Exa Z h a D) : Sta Z h' C n d v := by
  obtain ⟨cf, i, k, f, st, cell, h1, h2, h3, h4, h5, h6, h7⟩ := F
  obtain ⟨cl, kc, g1, -, -, g4, -⟩ := E
  have ne : st ≠ a := fun q => by subst q; cases h5.symm.trans g1; rw [h6] at g4; cases g4
  exact ⟨cf, i, k, f, st, cell, h1, h2, h3, h4, K.2.1 st cell h5 (ninS ne nin0), h6, h7⟩
theorem own_staK0 {Z : State} {h h' : Heap} {C n d : String} {v : Value} (F : Sta Z h C n d v) (K : Keep h h' []) : Sta Z h' C n d v := by
  obtain ⟨cf, i, k, f, st, cell, h1, h2, h3, h4, h5, h6, h7⟩ := F
  exact ⟨cf, i, k, f, st, cell, h1, h2, h3, h4, K.2.1 st cell h5 nin0, h6, h7⟩
theorem own_selP {Z : State} {a0 : Array Value} {y : MethodName} {kk : Nat} (hZ : Z.Warmed39 s.vm) (wi : (Cond.instantiable y.cls kk).before a0 Z = true) (wp : (Cond.privateMethod y).before a0 Z = true) (wm : (Cond.instanceMethod y).before a0 Z = true) (hy : y.cls ≠ "java/lang/invoke/MethodHandle" ∧ y.cls ≠ "java/lang/invoke/VarHandle") : (Cond.selects y.cls y y).before args s = true := by
  have wi' : (Cond.instantiable y.cls kk).before args s = true := mvT hZ wi
  obtain ⟨c', k', h1, h2, -, h4, -⟩ := Cond.instantiable_spec wi'
  have h5 : k'.isInterface = false := by
    cases q : k'.isInterface with
    | false => rfl
    | true => rw [q] at h4; simp at h4
  exact selects_self_of_private h1 h2 h5 (Cond.privateMethod_at (mvP hZ wp (args := args))) (mvT hZ wm) hy
/-- what lcmp pushes; the unsigned shifts -/
def own_cmpL (x y : Int64) : Int32 := if x > y then 1 else if x = y then 0 else -1
def own_ushr (x y : Int32) : Int32 := (x.toUInt32 >>> (y &&& 31).toUInt32).toInt32
def own_ushrL (x : Int64) (y : Int32) : Int64 := (x.toUInt64 >>> (y &&& 0x3f).toInt64.toUInt64).toInt64
theorem own_clt (x y : Int64) : own_cmpL x y < 0 ↔ x < y := lw_lt x y
theorem own_cgt (x y : Int64) : 0 < own_cmpL x y ↔ y < x := lw_gt x y
theorem own_ceq (x y : Int64) : own_cmpL x y = 0 ↔ x = y := lw_eq x y
end Own
theorem own_d1_0 : decode prog_27_method_2_code 0 = .ok (.lload_n 0, 1) := by decide +kernel
theorem own_d1_1 : decode prog_27_method_2_code 1 = .ok (.lconst 0, 1) := by decide +kernel
theorem own_d1_2 : decode prog_27_method_2_code 2 = .ok (.lcmp, 1) := by decide +kernel
theorem own_d1_3 : decode prog_27_method_2_code 3 = .ok (.ifCond .lt 11, 3) := by decide +kernel
theorem own_d1_6 : decode prog_27_method_2_code 6 = .ok (.lload_n 0, 1) := by decide +kernel
theorem own_d1_7 : decode prog_27_method_2_code 7 = .ok (.ldc2_w 9, 3) := by decide +kernel
theorem own_d1_10 : decode prog_27_method_2_code 10 = .ok (.lcmp, 1) := by decide +kernel
theorem own_d1_11 : decode prog_27_method_2_code 11 = .ok (.ifCond .le 17, 3) := by decide +kernel
theorem own_d1_28 : decode prog_27_method_2_code 28 = .ok (.aload_n 2, 1) := by decide +kernel
theorem own_d1_29 : decode prog_27_method_2_code 29 = .ok (.arraylength, 1) := by decide +kernel
theorem own_d1_30 : decode prog_27_method_2_code 30 = .ok (.bipush 15, 2) := by decide +kernel
theorem own_d1_32 : decode prog_27_method_2_code 32 = .ok (.if_icmp .le 18, 3) := by decide +kernel
theorem own_d1_50 : decode prog_27_method_2_code 50 = .ok (.return_, 1) := by decide +kernel
theorem own_pn0 : plainName "com/example/many_dashes/manydashes/form/SidLimits" = true := by first | (simp [plainName, overriddenIn]; done) | decide +kernel
theorem own_ef_rm1 (m : MethodId) (x0 : Int64) (x1 : Addr) : entryFrame m #[(.long x0), (.ref x1)] 3 = mkF m 0 #[.val (.long x0), .second, .val (.ref x1)] [] := by first | (simp [entryFrame, mkF, argsToLocals, Value.category]; done) | rfl
def own_Q_rm1 (Z : State) (q0 : Int64) (a2 : Addr) (k2 : ClassId) (z2 : Int32) (vs2 : List Value) (d2 : Value) (h0 : Heap) (n0 : Nat) (v : Option Value) (h : Heap) (L : List Loc) : Prop := v = none ∧ Fr n0 L ∧ h = h0
set_option maxRecDepth 65536 in
set_option maxHeartbeats 40000000 in
theorem rm1 (l : Launch) (Z : State) (a0 : Array Value) (hw : ∀ d ∈ tables_1, d.before a0 Z = true) (ws : List Jvm.Cond) (q0 : Int64) (a2 : Addr) (k2 : ClassId) (z2 : Int32) (vs2 : List Value) (d2 : Value) (h0 : Heap) (n0 : Nat) (Z0 : n0 ≤ h0.size) (V2 : Arv Z h0 a2 k2 .int z2 vs2 d2) (hc3 : ¬ own_cmpL q0 (0 : Int64) < (0 : Int32)) (hc11 : ¬ (0 : Int32) < own_cmpL q0 (281474976710655 : Int64)) (hc32 : ¬ (15 : Int32) < z2) :
    MetFree l (⟨"com/example/many_dashes/manydashes/form/SidLimits", "checkParts", "(J[I)V"⟩ : MethodName) (head1 (Jvm.Cond.code (⟨"com/example/many_dashes/manydashes/form/SidLimits", "checkParts", "(J[I)V"⟩ : MethodName) prog_27_method_2_code 3 none :: ws) ({ frames := 0, cells := 0, slots := 0, locals := 0 } : Room)) (fun a U => a = #[(.long q0), (.ref a2)] ∧ Z.Warmed39 U.vm ∧ U.heap = h0) (fun _ _ _ _ _ => True) (fun _ U o U' => ∃ v L, o = .returned v ∧ (own_Q_rm1 Z q0 a2 k2 z2 vs2 d2 h0 n0) v U'.heap L ∧ FrameEnd U o U' L ({ frames := 0, cells := 0, slots := 0, locals := 0 } : Room).cells ({ frames := 0, cells := 0, slots := 0, locals := 0 } : Room).slots) := by
  refine MetFree.of_bodySF (plainFor_of_name own_pn0) hisR ?_
  intro p e s m args below meth c s₁ Bd hml0 hP hK
  obtain ⟨rfl, hZ, hh⟩ := hP
  have hx := Bd.exec
  have hby := Bd.bytes
  have hml : c.maxLocals = 3 := hml0
  have hown : s.vm.findClass "com/example/many_dashes/manydashes/form/SidLimits" = some m.cls := findClass_of_methodNamed Bd.named
  have hnm := (name_of_methodNamed Bd.named Bd.method).1
  have hlk : meth.locks = false := BodyLoose.notSynchronized Bd
  have X0 : Stand p l e ({ frames := 0, cells := 0, slots := 0, locals := 0 } : Room) s m #[(.long q0), (.ref a2)] below meth c s₁ [] 0 0 := Stand.of_body Bd
  have e0 : s₁.heap = h0 := by rw [← hh, Bd.state]; rfl
  have N0 := Fr.nil n0
  show own_Ends p e below (own_Fin s (own_Q_rm1 Z q0 a2 k2 z2 vs2 d2 h0 n0) ({ frames := 0, cells := 0, slots := 0, locals := 0 } : Room).cells ({ frames := 0, cells := 0, slots := 0, locals := 0 } : Room).slots) _
  refine own_pre (fun t k => castTop (own_ef_rm1 m q0 a2) k) ?_
  show own_Ends _ _ _ _ (s₁.setTop (mkF m 0 #[.val (.long q0), .second, .val (.ref a2)] []))
  refine own_pre (fun t k => XS.lloadN X0.here hx rfl (hb hby own_d1_0) rfl k) ?_
  show own_Ends _ _ _ _ (s₁.setTop (mkF m 1 #[.val (.long q0), .second, .val (.ref a2)] [(.long q0)]))
  refine own_pre (fun t k => XS.lconst X0.here hx rfl (hb hby own_d1_1) k) ?_
  show own_Ends _ _ _ _ (s₁.setTop (mkF m 2 #[.val (.long q0), .second, .val (.ref a2)] [(.long (0 : Int64)), (.long q0)]))
  refine own_pre (fun t k => XS.lcmp X0.here hx rfl (hb hby own_d1_2) rfl k) ?_
  show own_Ends _ _ _ _ (s₁.setTop (mkF m 3 #[.val (.long q0), .second, .val (.ref a2)] [(.int (own_cmpL q0 (0 : Int64)))]))
  refine own_pre (fun t k => XS.ifNo X0.here hx rfl (hb hby own_d1_3) rfl ((if0 _ _).trans (flt (hc3 : ¬ ((own_cmpL q0 (0 : Int64)) < (0 : Int32)))).1) k) ?_
  show own_Ends _ _ _ _ (s₁.setTop (mkF m 6 #[.val (.long q0), .second, .val (.ref a2)] []))
  refine own_pre (fun t k => XS.lloadN X0.here hx rfl (hb hby own_d1_6) rfl k) ?_
  show own_Ends _ _ _ _ (s₁.setTop (mkF m 7 #[.val (.long q0), .second, .val (.ref a2)] [(.long q0)]))
  refine own_pre (fun t k => X0.ldc2Long hx hown (mvT hZ (hw _ (List.mem_of_getElem? (i := 7) rfl))) (g := (mkF m 7 #[.val (.long q0), .second, .val (.ref a2)] [(.long q0)])) rfl (hb hby own_d1_7) _ k) ?_
  show own_Ends _ _ _ _ (s₁.setTop (mkF m 10 #[.val (.long q0), .second, .val (.ref a2)] [(.long (281474976710655 : Int64)), (.long q0)]))
  refine own_pre (fun t k => XS.lcmp X0.here hx rfl (hb hby own_d1_10) rfl k) ?_
  show own_Ends _ _ _ _ (s₁.setTop (mkF m 11 #[.val (.long q0), .second, .val (.ref a2)] [(.int (own_cmpL q0 (281474976710655 : Int64)))]))
  refine own_pre (fun t k => XS.ifYes X0.here hx rfl (pc0 := 11) (pc' := 28) rfl (hb hby own_d1_11) rfl ((if0 _ _).trans (flt (hc11 : ¬ ((0 : Int32) < (own_cmpL q0 (281474976710655 : Int64))))).2.2.2) (by decide) (by decide) k) ?_
  show own_Ends _ _ _ _ (s₁.setTop (mkF m 28 #[.val (.long q0), .second, .val (.ref a2)] []))
  refine own_pre (fun t k => XS.aloadN X0.here hx rfl (hb hby own_d1_28) rfl rfl k) ?_
  show own_Ends _ _ _ _ (s₁.setTop (mkF m 29 #[.val (.long q0), .second, .val (.ref a2)] [(.ref a2)]))
  obtain ⟨cl1, Ar1, -, S1, M1, -, -⟩ := V2
  refine own_pre (fun t k => own_len X0 hx e0 hZ Ar1 S1 M1 (g := (mkF m 29 #[.val (.long q0), .second, .val (.ref a2)] [(.ref a2)])) rfl rfl (hb hby own_d1_29) k) ?_
  show own_Ends _ _ _ _ (s₁.setTop (mkF m 30 #[.val (.long q0), .second, .val (.ref a2)] [(.int z2)]))
  refine own_pre (fun t k => XS.bipush X0.here hx rfl (hb hby own_d1_30) k) ?_
  show own_Ends _ _ _ _ (s₁.setTop (mkF m 32 #[.val (.long q0), .second, .val (.ref a2)] [(.int (15 : Int32)), (.int z2)]))
  refine own_pre (fun t k => XS.icmpYes X0.here hx rfl (pc0 := 32) (pc' := 50) rfl (hb hby own_d1_32) rfl (flt (hc32 : ¬ ((15 : Int32) < z2))).2.2.2 (by decide) (by decide) k) ?_
  show own_Ends _ _ _ _ (s₁.setTop (mkF m 50 #[.val (.long q0), .second, .val (.ref a2)] []))
  exact own_retV X0 hx Bd.returns (hb hby own_d1_50) hlk e0 ⟨rfl, N0, rfl⟩ (by decide) (by decide)
theorem own_auth (a : Int64) : ¬ own_cmpL (a &&& 281474976710655) 0 < 0 ∧ ¬ 0 < own_cmpL (a &&& 281474976710655) 281474976710655 := by
  have e1 : (a &&& 281474976710655).toInt = a.toInt % 2 ^ 48 := Jvm.Kit.i64_mask a 281474976710655 (by decide) (by decide)
  have e2 : (281474976710655 : Int64).toInt = 281474976710655 := rfl
  have e3 : (0 : Int64).toInt = 0 := rfl
  rw [own_clt, own_cgt, Int64.lt_iff_toInt_lt, Int64.lt_iff_toInt_lt, e1, e2, e3]
  omega
theorem own_cnt (n : Int32) : ¬ (n &&& 2147483647) % 16 < 0 ∧ ((n &&& 2147483647) % 16).toNatClampNeg ≤ 15 ∧ ¬ 15 < (n &&& 2147483647) % 16 := by
  have e1 : (n &&& 2147483647).toInt = n.toInt % 2 ^ 31 := Jvm.Kit.i32_mask n 2147483647 (by decide) (by decide)
  have e2 : ((n &&& 2147483647) % 16).toInt = (n &&& 2147483647).toInt % (16 : Int32).toInt := Jvm.Kit.i32_rem_nonneg (by rw [e1]; omega)
  have e3 : (16 : Int32).toInt = 16 := rfl
  have e4 : (0 : Int32).toInt = 0 := rfl
  have e5 : (15 : Int32).toInt = 15 := rfl
  simp only [Int32.lt_iff_toInt_lt, Int32.toNatClampNeg]
  rw [e2, e3, e4, e5]
  omega
theorem own_in0 {x : Int32} (h : 0 < x) : ¬ (0 : Int32) < 0 ∧ (0 : Int32) < x := ⟨by decide, h⟩
theorem own_in1 {x : Int32} (h : 0 < x) : ¬ x - 1 < 0 ∧ x - 1 < x := by
  have e0 : (0 : Int32).toInt = 0 := rfl
  have e1 : (1 : Int32).toInt = 1 := rfl
  have a := x.toInt_lt
  rw [Int32.lt_iff_toInt_lt, e0] at h
  have e2 : (x - 1).toInt = x.toInt - (1 : Int32).toInt := Jvm.Kit.i32_sub (by omega) (by omega)
  rw [Int32.lt_iff_toInt_lt, Int32.lt_iff_toInt_lt, e0, e2, e1]
  omega
theorem own_pd0 : parseMethodDescriptor "(J[I)V" = some ⟨[.long, (.array .int)], none⟩ := by decide +kernel
theorem own_pn1 : plainName "com/example/many_dashes/manydashes/form/SidLimitsCheckPartsPinLaw" = true := by first | (simp [plainName, overriddenIn]; done) | decide +kernel
theorem own_ef_rm0 (m : MethodId) (x0 : Int64) (x1 : Int32) (x2 : Int32) (x3 : Int32) : entryFrame m #[(.long x0), (.int x1), (.int x2), (.int x3)] maxLocals = mkF m 0 #[.val (.long x0), .second, .val (.int x1), .val (.int x2), .val (.int x3), .unset, .unset, .unset, .unset] [] := by first | (simp [entryFrame, mkF, argsToLocals, Value.category, maxLocals]; done) | rfl
def own_Q_rm0 (Z : State) (p0 : Int64) (p1 : Int32) (p2 : Int32) (p3 : Int32) (h0 : Heap) (n0 : Nat) (v : Option Value) (h : Heap) (L : List Loc) : Prop := v = some (.int 1) ∧ Fr n0 L
set_option maxRecDepth 65536 in
set_option maxHeartbeats 40000000 in
theorem rm0 (l : Launch) (Z : State) (a0 : Array Value) (hw : ∀ d ∈ tables_1, d.before a0 Z = true) (ws : List Jvm.Cond) (p0 : Int64) (p1 : Int32) (p2 : Int32) (p3 : Int32) (h0 : Heap) (n0 : Nat) (Z0 : n0 ≤ h0.size) :
    MetFree l x (head1 (Jvm.Cond.code x code maxLocals ret :: ws) room_1) (fun a U => a = #[(.long p0), (.int p1), (.int p2), (.int p3)] ∧ Z.Warmed39 U.vm ∧ U.heap = h0) (fun _ _ _ _ _ => True) (fun _ U o U' => ∃ v L, o = .returned v ∧ (own_Q_rm0 Z p0 p1 p2 p3 h0 n0) v U'.heap L ∧ FrameEnd U o U' L 16 128) := by
  refine MetFree.of_bodySF (plainFor_of_name own_pn1) hisR ?_
  intro p e s m args below meth c s₁ Bd hml0 hP hK
  obtain ⟨rfl, hZ, hh⟩ := hP
  have hx := Bd.exec
  have hby := Bd.bytes
  have hml : c.maxLocals = 9 := hml0
  have hown : s.vm.findClass "com/example/many_dashes/manydashes/form/SidLimitsCheckPartsPinLaw" = some m.cls := findClass_of_methodNamed Bd.named
  have hnm := (name_of_methodNamed Bd.named Bd.method).1
  have hlk : meth.locks = false := BodyLoose.notSynchronized Bd
  have X0 : Stand p l e room_1 s m #[(.long p0), (.int p1), (.int p2), (.int p3)] below meth c s₁ [] 0 0 := Stand.of_body Bd
  have e0 : s₁.heap = h0 := by rw [← hh, Bd.state]; rfl
  have N0 := Fr.nil n0
  show own_Ends p e below (own_Fin s (own_Q_rm0 Z p0 p1 p2 p3 h0 n0) 16 128) _
  refine own_pre (fun t k => castTop (own_ef_rm0 m p0 p1 p2 p3) k) ?_
  show own_Ends _ _ _ _ (s₁.setTop (mkF m 0 #[.val (.long p0), .second, .val (.int p1), .val (.int p2), .val (.int p3), .unset, .unset, .unset, .unset] []))
  refine own_pre (fun t k => XS.lloadN X0.here hx rfl (hb hby at_0) rfl k) ?_
  show own_Ends _ _ _ _ (s₁.setTop (mkF m 1 #[.val (.long p0), .second, .val (.int p1), .val (.int p2), .val (.int p3), .unset, .unset, .unset, .unset] [(.long p0)]))
  refine own_pre (fun t k => X0.ldc2Long hx hown (mvT hZ (hw _ (List.mem_of_getElem? (i := 0) rfl))) (g := (mkF m 1 #[.val (.long p0), .second, .val (.int p1), .val (.int p2), .val (.int p3), .unset, .unset, .unset, .unset] [(.long p0)])) rfl (hb hby at_1) _ k) ?_
  show own_Ends _ _ _ _ (s₁.setTop (mkF m 4 #[.val (.long p0), .second, .val (.int p1), .val (.int p2), .val (.int p3), .unset, .unset, .unset, .unset] [(.long (281474976710655 : Int64)), (.long p0)]))
  refine own_pre (fun t k => XS.land X0.here hx rfl (hb hby at_4) rfl k) ?_
  show own_Ends _ _ _ _ (s₁.setTop (mkF m 5 #[.val (.long p0), .second, .val (.int p1), .val (.int p2), .val (.int p3), .unset, .unset, .unset, .unset] [(.long (p0 &&& (281474976710655 : Int64)))]))
  refine own_pre (fun t k => XS.lstore X0.here hx rfl (hb hby at_5) rfl (l' := #[.val (.long p0), .second, .val (.int p1), .val (.int p2), .val (.int p3), .val (.long (p0 &&& (281474976710655 : Int64))), .second, .unset, .unset]) rfl k) ?_
  show own_Ends _ _ _ _ (s₁.setTop (mkF m 7 #[.val (.long p0), .second, .val (.int p1), .val (.int p2), .val (.int p3), .val (.long (p0 &&& (281474976710655 : Int64))), .second, .unset, .unset] []))
  generalize hq5 : (p0 &&& (281474976710655 : Int64)) = q5
  show own_Ends _ _ _ _ (s₁.setTop (mkF m 7 #[.val (.long p0), .second, .val (.int p1), .val (.int p2), .val (.int p3), .val (.long q5), .second, .unset, .unset] []))
  refine own_pre (fun t k => XS.iloadN X0.here hx rfl (hb hby at_7) rfl k) ?_
  show own_Ends _ _ _ _ (s₁.setTop (mkF m 8 #[.val (.long p0), .second, .val (.int p1), .val (.int p2), .val (.int p3), .val (.long q5), .second, .unset, .unset] [(.int p1)]))
  refine own_pre (fun t k => X0.ldcInt hx hown (mvT hZ (hw _ (List.mem_of_getElem? (i := 1) rfl))) (g := (mkF m 8 #[.val (.long p0), .second, .val (.int p1), .val (.int p2), .val (.int p3), .val (.long q5), .second, .unset, .unset] [(.int p1)])) rfl (hb hby at_8) _ k) ?_
  show own_Ends _ _ _ _ (s₁.setTop (mkF m 10 #[.val (.long p0), .second, .val (.int p1), .val (.int p2), .val (.int p3), .val (.long q5), .second, .unset, .unset] [(.int (2147483647 : Int32)), (.int p1)]))
  refine own_pre (fun t k => XS.iand X0.here hx rfl (hb hby at_10) rfl k) ?_
  show own_Ends _ _ _ _ (s₁.setTop (mkF m 11 #[.val (.long p0), .second, .val (.int p1), .val (.int p2), .val (.int p3), .val (.long q5), .second, .unset, .unset] [(.int (p1 &&& (2147483647 : Int32)))]))
  refine own_pre (fun t k => XS.bipush X0.here hx rfl (hb hby at_11) k) ?_
  show own_Ends _ _ _ _ (s₁.setTop (mkF m 13 #[.val (.long p0), .second, .val (.int p1), .val (.int p2), .val (.int p3), .val (.long q5), .second, .unset, .unset] [(.int (16 : Int32)), (.int (p1 &&& (2147483647 : Int32)))]))
  refine own_pre (fun t k => iremM X0 hx rfl (hb hby at_13) rfl (by decide) k) ?_
  show own_Ends _ _ _ _ (s₁.setTop (mkF m 14 #[.val (.long p0), .second, .val (.int p1), .val (.int p2), .val (.int p3), .val (.long q5), .second, .unset, .unset] [(.int ((p1 &&& (2147483647 : Int32)) % (16 : Int32)))]))
  refine own_pre (fun t k => XS.istore X0.here hx rfl (hb hby at_14) rfl (l' := #[.val (.long p0), .second, .val (.int p1), .val (.int p2), .val (.int p3), .val (.long q5), .second, .val (.int ((p1 &&& (2147483647 : Int32)) % (16 : Int32))), .unset]) rfl k) ?_
  show own_Ends _ _ _ _ (s₁.setTop (mkF m 16 #[.val (.long p0), .second, .val (.int p1), .val (.int p2), .val (.int p3), .val (.long q5), .second, .val (.int ((p1 &&& (2147483647 : Int32)) % (16 : Int32))), .unset] []))
  generalize hx7 : ((p1 &&& (2147483647 : Int32)) % (16 : Int32)) = x7
  show own_Ends _ _ _ _ (s₁.setTop (mkF m 16 #[.val (.long p0), .second, .val (.int p1), .val (.int p2), .val (.int p3), .val (.long q5), .second, .val (.int x7), .unset] []))
  refine own_pre (fun t k => XS.iload X0.here hx rfl (hb hby at_16) rfl k) ?_
  show own_Ends _ _ _ _ (s₁.setTop (mkF m 18 #[.val (.long p0), .second, .val (.int p1), .val (.int p2), .val (.int p3), .val (.long q5), .second, .val (.int x7), .unset] [(.int x7)]))
  obtain ⟨T2, h2, k2, X2, e2, E2, A2, st2⟩ := newP X0 hx hZ (hw _ (List.mem_of_getElem? (i := 2) rfl)) e0 (g := (mkF m 18 #[.val (.long p0), .second, .val (.int p1), .val (.int p2), .val (.int p3), .val (.long q5), .second, .val (.int x7), .unset] [(.int x7)])) rfl (hb hby at_18) rfl (hx7 ▸ own_cnt p1).1 (cap := 15) (hx7 ▸ own_cnt p1).2.1 (by decide) (by decide) (by decide)
  obtain ⟨b2, g2⟩ : ∃ z, z = h0.size := ⟨_, rfl⟩
  rw [← g2] at A2 st2
  refine own_pre st2 ?_
  have L3 : n0 ≤ b2 := Nat.le_trans Z0 (Nat.le_of_eq g2.symm)
  have Zn4 : n0 ≤ h2.size := Nat.le_trans Z0 E2.1
  have f5 : Arv Z h2 b2 k2 .int x7 [] (.int (0 : Int32)) := Arv.new A2 (hx7 ▸ own_cnt p1).1
  show own_Ends _ _ _ _ (T2.setTop (mkF m 20 #[.val (.long p0), .second, .val (.int p1), .val (.int p2), .val (.int p3), .val (.long q5), .second, .val (.int x7), .unset] [(.ref b2)]))
  refine own_pre (fun t k => XS.astore X2.here hx rfl (hb hby at_20) rfl rfl (l' := #[.val (.long p0), .second, .val (.int p1), .val (.int p2), .val (.int p3), .val (.long q5), .second, .val (.int x7), .val (.ref b2)]) rfl k) ?_
  show own_Ends _ _ _ _ (T2.setTop (mkF m 22 #[.val (.long p0), .second, .val (.int p1), .val (.int p2), .val (.int p3), .val (.long q5), .second, .val (.int x7), .val (.ref b2)] []))
  refine own_pre (fun t k => XS.iload X2.here hx rfl (hb hby at_22) rfl k) ?_
  show own_Ends _ _ _ _ (T2.setTop (mkF m 24 #[.val (.long p0), .second, .val (.int p1), .val (.int p2), .val (.int p3), .val (.long q5), .second, .val (.int x7), .val (.ref b2)] [(.int x7)]))
  by_cases hc6 : (0 : Int32) < x7
  · skip
    refine own_pre (fun t k => XS.ifNo X2.here hx rfl (hb hby at_24) rfl ((if0 _ _).trans (tlt hc6).2.2.2) k) ?_
    show own_Ends _ _ _ _ (T2.setTop (mkF m 27 #[.val (.long p0), .second, .val (.int p1), .val (.int p2), .val (.int p3), .val (.long q5), .second, .val (.int x7), .val (.ref b2)] []))
    refine own_pre (fun t k => XS.aload X2.here hx rfl (hb hby at_27) rfl rfl k) ?_
    show own_Ends _ _ _ _ (T2.setTop (mkF m 29 #[.val (.long p0), .second, .val (.int p1), .val (.int p2), .val (.int p3), .val (.long q5), .second, .val (.int x7), .val (.ref b2)] [(.ref b2)]))
    refine own_pre (fun t k => XS.iconst X2.here hx rfl (hb hby at_29) k) ?_
    show own_Ends _ _ _ _ (T2.setTop (mkF m 30 #[.val (.long p0), .second, .val (.int p1), .val (.int p2), .val (.int p3), .val (.long q5), .second, .val (.int x7), .val (.ref b2)] [(.int (0 : Int32)), (.ref b2)]))
    refine own_pre (fun t k => XS.iloadN X2.here hx rfl (hb hby at_30) rfl k) ?_
    show own_Ends _ _ _ _ (T2.setTop (mkF m 31 #[.val (.long p0), .second, .val (.int p1), .val (.int p2), .val (.int p3), .val (.long q5), .second, .val (.int x7), .val (.ref b2)] [(.int p2), (.int (0 : Int32)), (.ref b2)]))
    obtain ⟨cl7, Ar7, q7, S7, M7, H7, G7⟩ := f5
    have hin7 : ¬ ((0 : Int32) < 0 ∨ cl7.slots.size ≤ ((0 : Int32)).toNatClampNeg) := inb_of S7 (own_in0 hc6)
    obtain ⟨T7, h7, X7, e7, W7, st7⟩ := stI X2 hx hZ e2 Ar7 (j := (0 : Int32)) hin7 (g := (mkF m 31 #[.val (.long p0), .second, .val (.int p1), .val (.int p2), .val (.int p3), .val (.long q5), .second, .val (.int x7), .val (.ref b2)] [(.int p2), (.int (0 : Int32)), (.ref b2)])) rfl rfl (hb hby at_31)
    refine own_pre st7 ?_
    obtain ⟨vs7, f8⟩ := own_setAny Ar7 q7 S7 M7 H7 G7 (show fits .int (.int p2) = true from rfl) W7
    have N9 := Fr.snoc X7 N0 L3
    have Zn10 : n0 ≤ h7.size := by rw [W7.size]; exact Zn4
    show own_Ends _ _ _ _ (T7.setTop (mkF m 32 #[.val (.long p0), .second, .val (.int p1), .val (.int p2), .val (.int p3), .val (.long q5), .second, .val (.int x7), .val (.ref b2)] []))
    refine own_pre (fun t k => XS.aload X7.here hx rfl (hb hby at_32) rfl rfl k) ?_
    show own_Ends _ _ _ _ (T7.setTop (mkF m 34 #[.val (.long p0), .second, .val (.int p1), .val (.int p2), .val (.int p3), .val (.long q5), .second, .val (.int x7), .val (.ref b2)] [(.ref b2)]))
    refine own_pre (fun t k => XS.iload X7.here hx rfl (hb hby at_34) rfl k) ?_
    show own_Ends _ _ _ _ (T7.setTop (mkF m 36 #[.val (.long p0), .second, .val (.int p1), .val (.int p2), .val (.int p3), .val (.long q5), .second, .val (.int x7), .val (.ref b2)] [(.int x7), (.ref b2)]))
    refine own_pre (fun t k => XS.iconst X7.here hx rfl (hb hby at_36) k) ?_
    show own_Ends _ _ _ _ (T7.setTop (mkF m 37 #[.val (.long p0), .second, .val (.int p1), .val (.int p2), .val (.int p3), .val (.long q5), .second, .val (.int x7), .val (.ref b2)] [(.int (1 : Int32)), (.int x7), (.ref b2)]))
    refine own_pre (fun t k => XS.isub X7.here hx rfl (hb hby at_37) rfl k) ?_
    show own_Ends _ _ _ _ (T7.setTop (mkF m 38 #[.val (.long p0), .second, .val (.int p1), .val (.int p2), .val (.int p3), .val (.long q5), .second, .val (.int x7), .val (.ref b2)] [(.int (x7 - (1 : Int32))), (.ref b2)]))
    refine own_pre (fun t k => XS.iload X7.here hx rfl (hb hby at_38) rfl k) ?_
    show own_Ends _ _ _ _ (T7.setTop (mkF m 40 #[.val (.long p0), .second, .val (.int p1), .val (.int p2), .val (.int p3), .val (.long q5), .second, .val (.int x7), .val (.ref b2)] [(.int p3), (.int (x7 - (1 : Int32))), (.ref b2)]))
    obtain ⟨cl11, Ar11, q11, S11, M11, H11, G11⟩ := f8
    have hin11 : ¬ ((x7 - (1 : Int32)) < 0 ∨ cl11.slots.size ≤ ((x7 - (1 : Int32))).toNatClampNeg) := inb_of S11 (own_in1 hc6)
    obtain ⟨T11, h11, X11, e11, W11, st11⟩ := stI X7 hx hZ e7 Ar11 (j := (x7 - (1 : Int32))) hin11 (g := (mkF m 40 #[.val (.long p0), .second, .val (.int p1), .val (.int p2), .val (.int p3), .val (.long q5), .second, .val (.int x7), .val (.ref b2)] [(.int p3), (.int (x7 - (1 : Int32))), (.ref b2)])) rfl rfl (hb hby at_40)
    refine own_pre st11 ?_
    obtain ⟨vs11, f12⟩ := own_setAny Ar11 q11 S11 M11 H11 G11 (show fits .int (.int p3) = true from rfl) W11
    have N13 := Fr.snoc X11 N9 L3
    have Zn14 : n0 ≤ h11.size := by rw [W11.size]; exact Zn10
    show own_Ends _ _ _ _ (T11.setTop (mkF m 41 #[.val (.long p0), .second, .val (.int p1), .val (.int p2), .val (.int p3), .val (.long q5), .second, .val (.int x7), .val (.ref b2)] []))
    refine own_pre (fun t k => XS.lload X11.here hx rfl (hb hby at_41) rfl k) ?_
    show own_Ends _ _ _ _ (T11.setTop (mkF m 43 #[.val (.long p0), .second, .val (.int p1), .val (.int p2), .val (.int p3), .val (.long q5), .second, .val (.int x7), .val (.ref b2)] [(.long q5)]))
    refine own_pre (fun t k => XS.aload X11.here hx rfl (hb hby at_43) rfl rfl k) ?_
    show own_Ends _ _ _ _ (T11.setTop (mkF m 45 #[.val (.long p0), .second, .val (.int p1), .val (.int p2), .val (.int p3), .val (.long q5), .second, .val (.int x7), .val (.ref b2)] [(.ref b2), (.long q5)]))
    obtain ⟨_, _, ⟨T15, L15, k15, n15⟩, -, X15, ⟨Lc15, hQ15, l15, y15, z15⟩, st15⟩ := Jvm.LawKit.callS X11 hx (y := (⟨"com/example/many_dashes/manydashes/form/SidLimits", "checkParts", "(J[I)V"⟩ : MethodName)) hown (mvT hZ (hw _ (List.mem_of_getElem? (i := 3) rfl))) (mvT hZ (hw _ (List.mem_of_getElem? (i := 4) rfl))) (mvT hZ (hw _ (List.mem_of_getElem? (i := 5) rfl))) (mvT hZ (hw _ (List.mem_of_getElem? (i := 6) rfl))) (by decide) (backOf (W := 0) (rm1 l Z a0 hw [] q5 b2 k2 x7 vs11 (.int (0 : Int32)) h11 n0 Zn14 f12 (hq5 ▸ own_auth p0).1 (hq5 ▸ own_auth p0).2 (hx7 ▸ own_cnt p1).2.2) hZ (hw _ (List.mem_of_getElem? (i := 6) rfl)) (hw _ (List.mem_of_getElem? (i := 5) rfl)) (by decide) (by decide)) (g := (mkF m 45 #[.val (.long p0), .second, .val (.int p1), .val (.int p2), .val (.int p3), .val (.long q5), .second, .val (.int x7), .val (.ref b2)] [(.ref b2), (.long q5)])) rfl (by rw [hml]; rfl) (argsL := [(.long q5), (.ref b2)]) (rest := []) (lenOf own_pd0 rfl) rfl (by show 2 * 0 + _ ≤ _; exact Nat.le_of_eq rfl) (hb hby at_45) (fun _ _ => ⟨rfl, e11, (by decide : 1 + 0 ≤ _), (by decide : 15 + 0 ≤ _)⟩)
    dsimp only [Pt.U, Pt.locs, Pt.cells, Pt.slots] at X15 l15 y15 z15 st15 hQ15
    subst l15 y15 z15
    obtain ⟨rfl, Nq15, e15⟩ := hQ15
    have N15 := Fr.app N13 Nq15
    refine own_pre st15 ?_
    show own_Ends _ _ _ _ (T15.setTop (mkF m 48 #[.val (.long p0), .second, .val (.int p1), .val (.int p2), .val (.int p3), .val (.long q5), .second, .val (.int x7), .val (.ref b2)] []))
    refine own_pre (fun t k => XS.iconst X15.here hx rfl (hb hby at_48) k) ?_
    show own_Ends _ _ _ _ (T15.setTop (mkF m 49 #[.val (.long p0), .second, .val (.int p1), .val (.int p2), .val (.int p3), .val (.long q5), .second, .val (.int x7), .val (.ref b2)] [(.int (1 : Int32))]))
    exact own_retN X15 hx (t := .boolean) Bd.returns (by simp) (hb hby at_49) hlk rfl e15 ⟨rfl, N15⟩ (by decide) (by decide)
  · skip
    refine own_pre (fun t k => XS.ifYes X2.here hx rfl (pc0 := 24) (pc' := 41) rfl (hb hby at_24) rfl ((if0 _ _).trans (flt hc6).2.2.2) (by decide) (by decide) k) ?_
    show own_Ends _ _ _ _ (T2.setTop (mkF m 41 #[.val (.long p0), .second, .val (.int p1), .val (.int p2), .val (.int p3), .val (.long q5), .second, .val (.int x7), .val (.ref b2)] []))
    refine own_pre (fun t k => XS.lload X2.here hx rfl (hb hby at_41) rfl k) ?_
    show own_Ends _ _ _ _ (T2.setTop (mkF m 43 #[.val (.long p0), .second, .val (.int p1), .val (.int p2), .val (.int p3), .val (.long q5), .second, .val (.int x7), .val (.ref b2)] [(.long q5)]))
    refine own_pre (fun t k => XS.aload X2.here hx rfl (hb hby at_43) rfl rfl k) ?_
    show own_Ends _ _ _ _ (T2.setTop (mkF m 45 #[.val (.long p0), .second, .val (.int p1), .val (.int p2), .val (.int p3), .val (.long q5), .second, .val (.int x7), .val (.ref b2)] [(.ref b2), (.long q5)]))
    obtain ⟨_, _, ⟨T16, L16, k16, n16⟩, -, X16, ⟨Lc16, hQ16, l16, y16, z16⟩, st16⟩ := Jvm.LawKit.callS X2 hx (y := (⟨"com/example/many_dashes/manydashes/form/SidLimits", "checkParts", "(J[I)V"⟩ : MethodName)) hown (mvT hZ (hw _ (List.mem_of_getElem? (i := 3) rfl))) (mvT hZ (hw _ (List.mem_of_getElem? (i := 4) rfl))) (mvT hZ (hw _ (List.mem_of_getElem? (i := 5) rfl))) (mvT hZ (hw _ (List.mem_of_getElem? (i := 6) rfl))) (by decide) (backOf (W := 0) (rm1 l Z a0 hw [] q5 b2 k2 x7 [] (.int (0 : Int32)) h2 n0 Zn4 f5 (hq5 ▸ own_auth p0).1 (hq5 ▸ own_auth p0).2 (hx7 ▸ own_cnt p1).2.2) hZ (hw _ (List.mem_of_getElem? (i := 6) rfl)) (hw _ (List.mem_of_getElem? (i := 5) rfl)) (by decide) (by decide)) (g := (mkF m 45 #[.val (.long p0), .second, .val (.int p1), .val (.int p2), .val (.int p3), .val (.long q5), .second, .val (.int x7), .val (.ref b2)] [(.ref b2), (.long q5)])) rfl (by rw [hml]; rfl) (argsL := [(.long q5), (.ref b2)]) (rest := []) (lenOf own_pd0 rfl) rfl (by show 2 * 0 + _ ≤ _; exact Nat.le_of_eq rfl) (hb hby at_45) (fun _ _ => ⟨rfl, e2, (by decide : 1 + 0 ≤ _), (by decide : 15 + 0 ≤ _)⟩)
    dsimp only [Pt.U, Pt.locs, Pt.cells, Pt.slots] at X16 l16 y16 z16 st16 hQ16
    subst l16 y16 z16
    obtain ⟨rfl, Nq16, e16⟩ := hQ16
    have N16 := Fr.app N0 Nq16
    refine own_pre st16 ?_
    show own_Ends _ _ _ _ (T16.setTop (mkF m 48 #[.val (.long p0), .second, .val (.int p1), .val (.int p2), .val (.int p3), .val (.long q5), .second, .val (.int x7), .val (.ref b2)] []))
    refine own_pre (fun t k => XS.iconst X16.here hx rfl (hb hby at_48) k) ?_
    show own_Ends _ _ _ _ (T16.setTop (mkF m 49 #[.val (.long p0), .second, .val (.int p1), .val (.int p2), .val (.int p3), .val (.long q5), .second, .val (.int x7), .val (.ref b2)] [(.int (1 : Int32))]))
    exact own_retN X16 hx (t := .boolean) Bd.returns (by simp) (hb hby at_49) hlk rfl e16 ⟨rfl, N16⟩ (by decide) (by decide)
set_option maxRecDepth 65536 in
set_option maxHeartbeats 40000000 in
theorem own_comes {Post : Tables → Env → Array Value → State → Outcome → State → Prop} (hpost : ∀ tb e args s v u, (limb_1_1.after args s (.returned v) u = true ∧ limb_1_2.after args s (.returned v) u = true ∧ True) → FrameEnd s (.returned v) u (Jvm.fieldLocs frame_1_writes args s ++ Jvm.arrayLocs frame_1_arrays args s ++ Jvm.staticLocs frame_1_statics s) 16 128 → Post tb e args s (.returned v) u) :
    ArmFor flags0 classFile x code maxLocals ret World_1 tables_1 room_1 Calls_1 rest_1 Pre_1 Post := by
  intro l hfl _ _ p e ha hc hk s m args below hf hA hF happ hP
  obtain ⟨hcalls, hrest, hpre⟩ := hP
  obtain ⟨-, -, -, hnamed, -, -, -, hat⟩ := (Spec.applies_iff hf).mp happ
  obtain ⟨hg, hn⟩ := and_e (Cond.before_iff.mp (show (Jvm.Cond.and given_1 narrow_1).before args s = true from hpre))
  obtain ⟨hcount, g0⟩ := and_e hg
  obtain ⟨hk0, g1⟩ := and_e g0
  obtain ⟨hk1, g2⟩ := and_e g1
  obtain ⟨hk2, g3⟩ := and_e g2
  obtain ⟨w0, w1, w2, w3, rfl⟩ : ∃ w0 w1 w2 w3 : Value, args = #[w0, w1, w2, w3] := by
    have hs : args.size = 4 := by simpa [Cond.value, given_1] using hcount
    obtain ⟨L⟩ := args
    match L, hs with
    | [w0, w1, w2, w3], _ => exact ⟨w0, w1, w2, w3, rfl⟩
  have hw := fun d (hd : d ∈ tables_1) => atoms_spec (ws := Jvm.Cond.code x code maxLocals ret :: tables_1) hat d (List.mem_cons_of_mem _ hd)
  have hfit : Fit s := fun {y c} hc i hi => by
    obtain ⟨ha, rfl⟩ := Array.getElem?_eq_some_iff.mp hc
    have q := List.all_eq_true.mp ((Array.all_eq_true_iff_forall_mem.mp hF) _ (Array.getElem_mem ha)) i (List.mem_range.mpr hi)
    simpa [Array.getElem?_eq_getElem hi] using q
  obtain ⟨i0, ei0⟩ := isL_v hk0
  obtain rfl : w0 = (.long i0) := Option.some.inj ei0
  obtain ⟨i1, ei1⟩ := is_v hk1
  obtain rfl : w1 = (.int i1) := Option.some.inj ei1
  obtain ⟨i2, ei2⟩ := is_v hk2
  obtain rfl : w2 = (.int i2) := Option.some.inj ei2
  obtain ⟨i3, ei3⟩ := is_v g3
  obtain rfl : w3 = (.int i3) := Option.some.inj ei3
  obtain ⟨n, o, h1, h2, h3, _, L, rfl, ⟨rfl, N⟩, hq⟩ := rm0 l s _ hw tables_1 i0 i1 i2 i3 s.heap s.heap.size (Nat.le_refl _)  p e ha hc hk s m _ below hf ((Spec.applies_iff_loose hf).mp happ).1 ⟨rfl, State.Warmed39.refl s, rfl⟩ trivial
  refine ⟨n, _, h1, h2, h3, hpost _ _ _ _ _ _ ⟨Cond.after_iff.mpr rfl, Cond.after_iff.mpr (eq_i res_at (Term.int_eval (1)) rfl), trivial⟩ ⟨hq.1, hq.2.1, (hq.2.2.sift fun y hy => Or.inr (N y hy)).mono (by decide) (by decide)⟩⟩
theorem main_1_1 : Claimed_1_1 := own_comes fun _ _ _ _ _ _ h hF => ⟨h.1, hF⟩
theorem main_1_2 : Claimed_1_2 := own_comes fun _ _ _ _ _ _ h hF => ⟨h.2.1, hF⟩
end Jvm.Pilot.@@N@@
namespace Jvm.Pilot.@@N@@
open Jvm Jvm.ClassFile Sem Op Lib Jvm.Free Jvm.Stand Jvm.Pilot.@@N@@.Jvm.D
/-! MADE BY PROGRAM (witnessworld.py) out of the Statement's table words and the real class files: 9 classes; the members and pool entries that the words name. The judged class is class 1, her method 1. -/
namespace start1
open Jvm.ClassFile
def u (s : String) : CpInfo := .utf8 (stringToUtf16 s)
/-- a pool by its gaps: so many unusable entries, then the entry; so many at the end -/
def gap : Nat → List CpInfo → List CpInfo
  | 0, r => r
  | n + 1, r => .unusable :: gap n r
def poolList (es : List (Nat × CpInfo)) (last : Nat) : List CpInfo := es.foldr (fun e r => gap e.1 (e.2 :: r)) (gap last [])
def pool (es : List (Nat × CpInfo)) (last : Nat) : Array CpInfo := ⟨poolList es last⟩
def fileOf (pool : Array CpInfo) (this : Nat) (attrs : Array Attribute := #[]) (ms : Array MethodInfo := #[]) (fl : Nat := 33) (sup : Nat := 0) (ifs : Array Nat := #[]) (fds : Array FieldInfo := #[]) : ClassFile where
  minorVersion := 0
  majorVersion := 65
  constantPool := pool
  accessFlags := fl
  thisClass := this
  superClass := sup
  interfaces := ifs
  fields := fds
  methods := ms
  attributes := attrs
def plain (name : String) (sup : Option ClassId) : Class where
  name := name
  kind := .ordinary
  loader := none
  accessFlags := 33
  super := sup
  interfaces := #[]
  cf := none
  fields := #[]
  methods := #[]
  instanceTypes := #[]
  staticTypes := #[]
  resolved := #[]
  callSites := []
  init := .initialized
  statics := none
  mirror := none

def pool0 : Array CpInfo := pool [(5, u "<init>"), (0, u "()V"), (1, .class_ 10), (1, u "java/lang/Object")] 113

def k0m0 : Method := { name := "<init>", desc := "()V", sig := { parameters := [], returnType := none }, accessFlags := 1, code := none }
/-- java/lang/Object -/
def k0 : Class := { plain "java/lang/Object" none with
  accessFlags := 33
  interfaces := #[]
  cf := some (fileOf pool0 8 #[] #[{ accessFlags := 1, nameIndex := 5, descriptorIndex := 6, attributes := #[] }] 33 0 #[] #[])
  fields := #[]
  methods := #[k0m0]
  instanceTypes := #[]
  staticTypes := #[]
  resolved := Array.replicate 124 none
  statics := none }

def pool1 : Array CpInfo := pool [(2, .class_ 4), (1, u "java/lang/Object"), (0, u "<init>"), (0, u "()V"), (0, .long 281474976710655), (1, .integer 2147483647), (0, .methodref 11 12), (0, .class_ 13), (0, .nameAndType 14 15), (0, u "com/example/many_dashes/manydashes/form/SidLimits"), (0, u "checkParts"), (0, u "(J[I)V"), (0, .class_ 17), (0, u "com/example/many_dashes/manydashes/form/SidLimitsCheckPartsPinLaw"), (2, u "law"), (0, u "(JIII)Z")] 5

def k1m0 : Method := { name := "<init>", desc := "()V", sig := { parameters := [], returnType := none }, accessFlags := 2, code := none }
def k1c1 : Code := { maxStack := 4, maxLocals := 9, code := code, exceptionTable := #[], attributes := #[] }
def k1m1 : Method := { name := "law", desc := "(JIII)Z", sig := { parameters := [.long, .int, .int, .int], returnType := some .boolean }, accessFlags := 9, code := some k1c1 }
/-- com/example/many_dashes/manydashes/form/SidLimitsCheckPartsPinLaw -/
def k1 : Class := { plain "com/example/many_dashes/manydashes/form/SidLimitsCheckPartsPinLaw" (some 0) with
  accessFlags := 49
  interfaces := #[]
  cf := some (fileOf pool1 16 #[] #[{ accessFlags := 2, nameIndex := 5, descriptorIndex := 6, attributes := #[] }, { accessFlags := 9, nameIndex := 20, descriptorIndex := 21, attributes := #[] }] 49 2 #[] #[])
  fields := #[]
  methods := #[k1m0, k1m1]
  instanceTypes := #[]
  staticTypes := #[]
  resolved := Array.replicate 27 none
  statics := none }

def pool2 : Array CpInfo := pool [(2, .class_ 4), (1, u "java/lang/Object"), (0, u "<init>"), (0, u "()V"), (0, .class_ 8), (0, u "com/example/many_dashes/manydashes/form/SidLimits"), (0, .long 281474976710655), (28, u "MAX_AUTHORITY"), (0, u "J"), (1, u "MAX_SUB_AUTHORITY"), (0, u "MAX_SUB_AUTHORITIES"), (0, u "I"), (3, u "checkParts"), (0, u "(J[I)V")] 26

def k2m0 : Method := { name := "<init>", desc := "()V", sig := { parameters := [], returnType := none }, accessFlags := 2, code := none }
def k2c1 : Code := { maxStack := 4, maxLocals := 3, code := prog_27_method_2_code, exceptionTable := #[], attributes := #[] }
def k2m1 : Method := { name := "checkParts", desc := "(J[I)V", sig := { parameters := [.long, (.array .int)], returnType := none }, accessFlags := 8, code := some k2c1 }
/-- com/example/many_dashes/manydashes/form/SidLimits -/
def k2 : Class := { plain "com/example/many_dashes/manydashes/form/SidLimits" (some 0) with
  accessFlags := 49
  interfaces := #[]
  cf := some (fileOf pool2 7 #[] #[{ accessFlags := 2, nameIndex := 5, descriptorIndex := 6, attributes := #[] }, { accessFlags := 8, nameIndex := 47, descriptorIndex := 48, attributes := #[] }] 49 2 #[] #[{ accessFlags := 24, nameIndex := 38, descriptorIndex := 39, attributes := #[] }, { accessFlags := 24, nameIndex := 41, descriptorIndex := 39, attributes := #[] }, { accessFlags := 24, nameIndex := 42, descriptorIndex := 43, attributes := #[] }])
  fields := #[{ name := "MAX_AUTHORITY", type := .long, accessFlags := 24, slot := 0, constantValue := 0 }, { name := "MAX_SUB_AUTHORITY", type := .long, accessFlags := 24, slot := 1, constantValue := 0 }, { name := "MAX_SUB_AUTHORITIES", type := .int, accessFlags := 24, slot := 2, constantValue := 0 }]
  methods := #[k2m0, k2m1]
  instanceTypes := #[]
  staticTypes := #[.long, .long, .int]
  resolved := Array.replicate 75 none
  statics := none }

def pool3 : Array CpInfo := pool [(1, u "java/lang/Cloneable"), (0, .class_ 1), (0, u "java/lang/Object"), (0, .class_ 3)] 3

/-- java/lang/Cloneable -/
def k3 : Class := { plain "java/lang/Cloneable" (some 0) with
  accessFlags := 1537
  interfaces := #[]
  cf := some (fileOf pool3 2 #[] #[] 1537 4 #[] #[])
  fields := #[]
  methods := #[]
  instanceTypes := #[]
  staticTypes := #[]
  resolved := Array.replicate 8 none
  statics := none }

def pool4 : Array CpInfo := pool [(1, u "java/io/Serializable"), (0, .class_ 1), (0, u "java/lang/Object"), (0, .class_ 3)] 3

/-- java/io/Serializable -/
def k4 : Class := { plain "java/io/Serializable" (some 0) with
  accessFlags := 1537
  interfaces := #[]
  cf := some (fileOf pool4 2 #[] #[] 1537 4 #[] #[])
  fields := #[]
  methods := #[]
  instanceTypes := #[]
  staticTypes := #[]
  resolved := Array.replicate 8 none
  statics := none }

/-- the primitive byte -/
def k5 : Class := { plain "byte" none with kind := .primitive 'B', accessFlags := 0x411 }
/-- [B -/
def k6 : Class := { plain "[B" (some 0) with kind := .array 5 .byte, interfaces := #[3, 4], accessFlags := 1041 }

/-- the primitive int -/
def k7 : Class := { plain "int" none with kind := .primitive 'I', accessFlags := 0x411 }
/-- [I -/
def k8 : Class := { plain "[I" (some 0) with kind := .array 7 .int, interfaces := #[3, 4], accessFlags := 1041 }

def heap : Heap := #[]
def classes : Array Class := #[k0, k1, k2, k3, k4, k5, k6, k7, k8]
def interned : List (Array UInt16 × Addr) := []
def slotsUsed : Nat := 0
def theMethod : MethodId := ⟨1, 1⟩
def args0 : Array Value := #[.long 5, .int 3, .int 7, .int 9]
def aboutOver (below : List Frame) : State where
  vm := { classes := classes, interned := interned.toArray }
  heap := heap
  slotsUsed := slotsUsed
  threads := #[{ frames := .invoking theMethod args0 :: below }]
def below0 : List Frame := [.native { method := ⟨0, 0⟩, args := #[] }]
def about1 : State := aboutOver below0
def p0 : Program := .bare "" "" ""
def e0 : Env := launch0.env 0 0 0
theorem w_frames : about1.frames = Frame.invoking theMethod args0 :: below0 := rfl
set_option maxRecDepth 65536 in
theorem w_args : argsFit about1.vm theMethod args0 = true := by decide +kernel
set_option maxRecDepth 65536 in
theorem w_heap : heapFits about1 = true := by decide +kernel
set_option maxRecDepth 65536 in
theorem w_runnable : about1.curStatus? = some .runnable := by decide +kernel
set_option maxRecDepth 65536 in
theorem w_alone : about1.alone = true := by decide +kernel
set_option maxRecDepth 65536 in
theorem w_named : about1.methodNamed? x = some theMethod := by decide +kernel
set_option maxRecDepth 65536 in
theorem w_hears : about1.hears theMethod below0 = true := by decide +kernel
set_option maxRecDepth 65536 in
theorem w_ripe : about1.ripe theMethod args0 below0 = true := by decide +kernel
theorem w_running : about1.status = .running := rfl
set_option maxRecDepth 65536 in
theorem w_room : about1.hasRoom e0.platform room_1 = true :=
  launch0.hasRoom_least _ room_1 (by decide +kernel) (by decide +kernel) (by decide +kernel) (by decide +kernel) (by decide +kernel) (by decide +kernel)
theorem allAtoms_all (ts : List Jvm.Cond) (a : Array Jvm.Value) (st : Jvm.State) : (allAtoms ts).before a st = ts.all (fun c => c.before a st) := by
  induction ts with
  | nil => rfl
  | cons c t ih =>
    show (Jvm.Cond.and c (allAtoms t)).before a st = _
    rw [Jvm.Cond.before_and, ih, List.all_cons]
def words1 : List Jvm.Cond := Jvm.Cond.code x code maxLocals ret :: tables_1
/-- a 'code' word, met by the world's own term for the bytes: nothing is compared byte by byte -/
theorem code_word {y : MethodName} {bytes : ByteArray} {mx : Nat} {rt : Option FieldType} {a : Array Value} {s : State} {m : MethodId} {meth : Method} {c : Code} (h1 : s.methodNamed? y = some m) (h2 : s.vm.method? m = some meth) (h3 : meth.code = some c) (h4 : c.code = bytes)
    (h5 : (c.maxLocals == mx && c.exceptionTable.isEmpty && decide (c.maxStack ≤ mostOperands) && decide (meth.sig.returnType = rt) && !meth.locks && decide (parseMethodDescriptor y.desc = some meth.sig)) = true) : (Jvm.Cond.code y bytes mx rt).before a s = true := by
  simp only [Bool.and_eq_true, beq_iff_eq, Bool.not_eq_true', decide_eq_true_eq] at h5
  obtain ⟨⟨⟨⟨⟨g1, g2⟩, g3⟩, g4⟩, g5⟩, g6⟩ := h5
  simp [Cond.before, Cond.holds, Cond.value, h1, h2, h3, h4, g1, g2, g3, g4, g5, g6]
def isCode : Jvm.Cond → Bool
  | .code _ _ _ _ => true
  | _ => false
theorem all_split {L : List Jvm.Cond} {P : Jvm.Cond → Bool} (h1 : L.all (fun c => isCode c || P c) = true) (h2 : ∀ c ∈ L.filter isCode, P c = true) : L.all P = true := by
  refine List.all_eq_true.mpr fun c hc => ?_
  have h := List.all_eq_true.mp h1 c hc
  rcases Bool.eq_false_or_eq_true (isCode c) with hi | hi
  · exact h2 c (List.mem_filter.mpr ⟨hc, hi⟩)
  · simpa [hi] using h
set_option maxRecDepth 65536 in
theorem w_c0 : (Jvm.Cond.code x code maxLocals ret).before args0 about1 = true := code_word (m := ⟨1, 1⟩) (meth := k1m1) (c := k1c1) (by decide +kernel) rfl rfl rfl (by decide +kernel)
set_option maxRecDepth 65536 in
theorem w_c1 : (Jvm.Cond.code ({ cls := "com/example/many_dashes/manydashes/form/SidLimits", name := "checkParts", desc := "(J[I)V" } : Jvm.MethodName) prog_27_method_2_code (3 : Nat) (Option.none : Option Jvm.ClassFile.FieldType)).before args0 about1 = true := code_word (m := ⟨2, 1⟩) (meth := k2m1) (c := k2c1) (by decide +kernel) rfl rfl rfl (by decide +kernel)
def codes1 : List Jvm.Cond := [Jvm.Cond.code x code maxLocals ret, Jvm.Cond.code ({ cls := "com/example/many_dashes/manydashes/form/SidLimits", name := "checkParts", desc := "(J[I)V" } : Jvm.MethodName) prog_27_method_2_code (3 : Nat) (Option.none : Option Jvm.ClassFile.FieldType)]
set_option maxRecDepth 65536 in
theorem codes_eq : words1.filter isCode = codes1 := rfl
theorem w_codes : ∀ c ∈ words1.filter isCode, c.before args0 about1 = true := by
  rw [codes_eq]
  intro c hc
  simp only [codes1, List.mem_cons, List.not_mem_nil, or_false] at hc
  rcases hc with rfl | rfl
  · exact w_c0
  · exact w_c1
set_option maxRecDepth 65536 in
theorem w_t1 : words1.all (fun c => isCode c || c.before args0 about1) = true := by decide +kernel
theorem w_tables : (allAtoms (Jvm.Cond.code x code maxLocals ret :: tables_1)).before args0 about1 = true := by
  rw [allAtoms_all]
  show words1.all (fun c => c.before args0 about1) = true
  refine all_split ?_ w_codes
  rw [w_t1]
set_option maxRecDepth 65536 in
theorem w_case : (Jvm.Cond.and given_1 narrow_1).before args0 about1 = true := by decide +kernel
theorem w_applies : (headSpec (Jvm.Cond.code x code maxLocals ret :: tables_1) room_1).applies x e0.platform about1 = true :=
  (Spec.applies_iff w_frames).mpr ⟨w_running, w_runnable, w_alone, w_named, w_hears, w_ripe, w_room, w_tables⟩
theorem atStart : AtStart classFile x code maxLocals ret World_1 tables_1 room_1 Calls_1 rest_1 Pre_1 launch0 p0 e0 about1 theMethod args0 below0 :=
  ⟨lists_1, trivial, launch0.admits_env _ _ _, launch0.least_env, fairChoices_fair.cas, fairChoices_fair.clock, w_frames, w_args, w_heap, w_applies, trivial, trivial, w_case⟩
end start1
theorem witness_1 : WitnessClaimed_1 := ⟨start1.p0, start1.e0, start1.about1, start1.theMethod, start1.args0, start1.below0, start1.atStart⟩
end Jvm.Pilot.@@N@@

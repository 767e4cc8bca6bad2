import JvmDerived
import JvmDerived.Pilot.@@N@@Statement
import JvmDerived.Pilot.@@N@@Code
set_option linter.unusedVariables false
set_option linter.unusedSimpArgs false
@@BLOCK:NumsL.lean.txt@@
namespace Jvm.Pilot.@@N@@
open Jvm Jvm.ClassFile Sem Op Lib Jvm.Free Jvm.Stand Jvm.LawKit Jvm.RoadKit Bundle Jvm.Pilot.@@N@@.Jvm.D
section Own
variable {p : Program} {l : Launch} {e : Env} {R : Room} {s : State} {m : MethodId} {args : Array Value} {below : List Frame} {meth : Method} {c : Code} {T : State} {locs : List Loc} {cells slots : Nat}
/-- from t the invocation comes to its end, and F holds there -/
def own_Ends (p : Program) (e : Env) (below : List Frame) (F : State → Outcome → Prop) (t : State) : Prop := ∃ s₂ o, Steps p.tables e below t s₂ ∧ s₂.status = .running ∧ Ended s₂ below o ∧ F s₂ o
theorem own_pre {F : State → Outcome → Prop} {t t' : State} (k : ∀ u, Steps p.tables e below t' u → Steps p.tables e below t u) (h : own_Ends p e below F t') : own_Ends p e below F t := by
  obtain ⟨s₂, o, h1, h2⟩ := h
  exact ⟨s₂, o, k _ h1, h2⟩
/-- what is asked of the end: G of the value, the heap and the places written; the frame -/
def own_Fin (s : State) (G : Option Value → Heap → List Loc → Prop) (C S : Nat) (s₂ : State) (o : Outcome) : Prop := ∃ v L, o = .returned v ∧ G v s₂.heap L ∧ FrameEnd s o s₂ L C S
theorem own_out (X : Stand p l e R s m args below meth c T locs cells slots) {v : Option Value} (hv : meth.sig.returnType = none → v = none) (hlk : meth.locks = false) {g : JFrame} {G : Option Value → Heap → List Loc → Prop} {C S : Nat} {h : Heap} (eT : T.heap = h) (hG : G v h locs) (hC : cells ≤ C) (hS : slots ≤ S)
    (st : ∀ fs, (∀ (f : JFrame) (acts : List Action), f.method = m → f.locked = none → f.entered = [] → (doReturn e (T.setTop f) acts v).1 = T.setFrames fs) → Steps p.tables e below (T.setTop g) (T.setFrames fs)) : own_Ends p e below (own_Fin s G C S) (T.setTop g) := by
  obtain ⟨fs, hr, hrun, hended, hW, hsame⟩ := X.leave (v := v) hv hlk
  subst eT
  exact ⟨_, _, st fs hr, hrun, hended, v, locs, rfl, hG, ⟨_, rfl⟩, hW, hsame.mono hC hS⟩
theorem own_retN (X : Stand p l e R s m args below meth c T locs cells slots) (hx : p.tables.exec = Jvm.exec) {pc : Nat} {Ls : Array Slot} {z z' : Int32} {t : FieldType} {rest : List Value} (hret : meth.sig.returnType = some t) (ht : t = .boolean ∨ t = .byte ∨ t = .char ∨ t = .short) (hd : decode c.code pc = .ok (.ireturn, 1)) (hlk : meth.locks = false) (hz : nar t z = z')
    {G : Option Value → Heap → List Loc → Prop} {C S : Nat} {h : Heap} (eT : T.heap = h) (hG : G (some (.int z')) h locs) (hC : cells ≤ C) (hS : slots ≤ S) : own_Ends p e below (own_Fin s G C S) (T.setTop (mkF m pc Ls (.int z :: rest))) := by
  subst hz
  exact own_out X (fun h => by rw [hret] at h; cases h) hlk eT hG hC hS (fun fs hr => retN X hx hret ht hd hr)
theorem own_retI (X : Stand p l e R s m args below meth c T locs cells slots) (hx : p.tables.exec = Jvm.exec) {pc : Nat} {Ls : Array Slot} {z : Int32} {rest : List Value} (hret : meth.sig.returnType = some .int) (hd : decode c.code pc = .ok (.ireturn, 1)) (hlk : meth.locks = false)
    {G : Option Value → Heap → List Loc → Prop} {C S : Nat} {h : Heap} (eT : T.heap = h) (hG : G (some (.int z)) h locs) (hC : cells ≤ C) (hS : slots ≤ S) : own_Ends p e below (own_Fin s G C S) (T.setTop (mkF m pc Ls (.int z :: rest))) :=
  own_out X (fun h => by rw [hret] at h; cases h) hlk eT hG hC hS (fun fs hr => retOut X hx hret rfl (Or.inl ⟨rfl, Or.inl rfl, _, rfl⟩) hd hr)
theorem own_retJ (X : Stand p l e R s m args below meth c T locs cells slots) (hx : p.tables.exec = Jvm.exec) {pc : Nat} {Ls : Array Slot} {z : Int64} {rest : List Value} (hret : meth.sig.returnType = some .long) (hd : decode c.code pc = .ok (.lreturn, 1)) (hlk : meth.locks = false)
    {G : Option Value → Heap → List Loc → Prop} {C S : Nat} {h : Heap} (eT : T.heap = h) (hG : G (some (.long z)) h locs) (hC : cells ≤ C) (hS : slots ≤ S) : own_Ends p e below (own_Fin s G C S) (T.setTop (mkF m pc Ls (.long z :: rest))) :=
  own_out X (fun h => by rw [hret] at h; cases h) hlk eT hG hC hS (fun fs hr => retOut X hx hret rfl (Or.inr (Or.inl ⟨rfl, rfl, _, rfl⟩)) hd hr)
theorem own_retR (X : Stand p l e R s m args below meth c T locs cells slots) (hx : p.tables.exec = Jvm.exec) {pc : Nat} {Ls : Array Slot} {a : Addr} {t : FieldType} {rest : List Value} (hret : meth.sig.returnType = some t) (ht : t.isReference = true) (hd : decode c.code pc = .ok (.areturn, 1)) (hlk : meth.locks = false)
    {G : Option Value → Heap → List Loc → Prop} {C S : Nat} {h : Heap} (eT : T.heap = h) (hG : G (some (.ref a)) h locs) (hC : cells ≤ C) (hS : slots ≤ S) : own_Ends p e below (own_Fin s G C S) (T.setTop (mkF m pc Ls (.ref a :: rest))) :=
  own_out X (fun h => by rw [hret] at h; cases h) hlk eT hG hC hS (fun fs hr => retOut X hx hret (by cases t <;> first | rfl | (simp [FieldType.isReference] at ht)) (Or.inr (Or.inr (Or.inr (Or.inr ⟨rfl, ht, rfl⟩)))) hd hr)
theorem own_retV (X : Stand p l e R s m args below meth c T locs cells slots) (hx : p.tables.exec = Jvm.exec) {pc : Nat} {Ls : Array Slot} (hret : meth.sig.returnType = none) (hd : decode c.code pc = .ok (.return_, 1)) (hlk : meth.locks = false)
    {G : Option Value → Heap → List Loc → Prop} {C S : Nat} {h : Heap} (eT : T.heap = h) (hG : G none h locs) (hC : cells ≤ C) (hS : slots ≤ S) : own_Ends p e below (own_Fin s G C S) (T.setTop (mkF m pc Ls [])) :=
  own_out X (fun _ => rfl) hlk eT hG hC hS (fun fs hr => X.returnOut hx hret hd hr)
theorem own_len (X : Stand p l e R s m args below meth c T locs cells slots) (hx : p.tables.exec = Jvm.exec) {h : Heap} (eT : T.heap = h) {Z : State} (hZ : Z.Warmed39 s.vm) {a : Addr} {cl : Cell} {ty : FieldType} {z : Int32} (A : Arr Z h a cl ty) (S : cl.slots.size = z.toNatClampNeg) (M : ¬ z < 0)
    {g : JFrame} (hg : g.method = m) {rest : List Value} (hs : g.stack = .ref a :: rest) (hd : decode c.code g.pc = .ok (.arraylength, 1)) {target : State} (k : Steps p.tables e below (T.setTop { g with pc := g.pc + 1, stack := .int z :: rest }) target) : Steps p.tables e below (T.setTop g) target := by
  refine X.arraylength hx (by rw [eT]; exact A.1) (State.isArrayOf_alike hZ.alike A.2.1) hg hs hd _ ?_
  rw [len_of S M]
  exact k
theorem own_setAny {Z : State} {h h' : Heap} {a : Addr} {cl : Cell} {k : ClassId} {ty : FieldType} {z : Int32} {vs : List Value} {dv v : Value} {j : Nat} (A : Arr Z h a cl ty) (q1 : cl.cls = k) (S : cl.slots.size = z.toNatClampNeg) (q3 : ¬ z < 0) (H : Has cl vs dv) (G : ∀ i, i < cl.slots.size → fits ty (vs.getD i dv) = true) (hv : fits ty v = true) (W : Wr h h' a j v) : ∃ vs', Arv Z h' a k ty z vs' dv := by
  have E : ∀ x, x < (cl.setSlot j v).slots.size → (cl.setSlot j v).slots[x]? = some ((cl.setSlot j v).slots.toList.getD x dv) := fun x hx => by
    rw [List.getD_eq_getElem?_getD, Array.getElem?_toList, Array.getElem?_eq_getElem hx]; rfl
  refine ⟨(cl.setSlot j v).slots.toList, _, A.same W, q1, by rw [sz_set]; exact S, q3, E, fun x hx => ?_⟩
  have hx' := hx
  rw [sz_set] at hx'
  have e1 := E x hx
  by_cases u : j = x
  · subst u
    have : (cl.setSlot j v).slots[j]? = some v := by simp [Cell.setSlot, hx']
    rw [this] at e1
    rw [← Option.some.inj e1]; exact hv
  · have : (cl.setSlot j v).slots[x]? = cl.slots[x]? := by simp [Cell.setSlot, Array.getElem?_setIfInBounds_ne u]
    rw [this, H x hx'] at e1
    rw [← Option.some.inj e1]; exact G x hx'
theorem own_staK {Z : State} {h h' : Heap} {a : Addr} {C n d D : String} {v : Value} (F : Sta Z h C n d v) (K : Keep h h' [a]) (E : Exa Z h a D) : Sta Z h' C n d v := by
  obtain ⟨cf, i, k, f, st, cell, h1, h2, h3, h4, h5, h6, h7⟩ := F
  obtain ⟨cl, kc, g1, -, -, g4, -⟩ := E
  have ne : st ≠ a := fun q => by subst q; cases h5.symm.trans g1; rw [h6] at g4; cases g4
  exact ⟨cf, i, k, f, st, cell, h1, h2, h3, h4, K.2.1 st cell h5 (ninS ne nin0), h6, h7⟩
theorem own_staK0 {Z : State} {h h' : Heap} {C n d : String} {v : Value} (F : Sta Z h C n d v) (K : Keep h h' []) : Sta Z h' C n d v := by
  obtain ⟨cf, i, k, f, st, cell, h1, h2, h3, h4, h5, h6, h7⟩ := F
  exact ⟨cf, i, k, f, st, cell, h1, h2, h3, h4, K.2.1 st cell h5 nin0, h6, h7⟩
theorem own_selP {Z : State} {a0 : Array Value} {y : MethodName} {kk : Nat} (hZ : Z.Warmed39 s.vm) (wi : (Cond.instantiable y.cls kk).before a0 Z = true) (wp : (Cond.privateMethod y).before a0 Z = true) (wm : (Cond.instanceMethod y).before a0 Z = true) (hy : y.cls ≠ "java/lang/invoke/MethodHandle" ∧ y.cls ≠ "java/lang/invoke/VarHandle") : (Cond.selects y.cls y y).before args s = true := by
  have wi' : (Cond.instantiable y.cls kk).before args s = true := mvT hZ wi
  obtain ⟨c', k', h1, h2, -, h4, -⟩ := Cond.instantiable_spec wi'
  have h5 : k'.isInterface = false := by
    cases q : k'.isInterface with
    | false => rfl
    | true => rw [q] at h4; simp at h4
  exact selects_self_of_private h1 h2 h5 (Cond.privateMethod_at (mvP hZ wp (args := args))) (mvT hZ wm) hy
/-- what lcmp pushes; the unsigned shifts -/
def own_cmpL (x y : Int64) : Int32 := if x > y then 1 else if x = y then 0 else -1
def own_ushr (x y : Int32) : Int32 := (x.toUInt32 >>> (y &&& 31).toUInt32).toInt32
def own_ushrL (x : Int64) (y : Int32) : Int64 := (x.toUInt64 >>> (y &&& 0x3f).toInt64.toUInt64).toInt64
theorem own_clt (x y : Int64) : own_cmpL x y < 0 ↔ x < y := lw_lt x y
theorem own_cgt (x y : Int64) : 0 < own_cmpL x y ↔ y < x := lw_gt x y
theorem own_ceq (x y : Int64) : own_cmpL x y = 0 ↔ x = y := lw_eq x y
end Own
theorem own_d1_0 : decode prog_106_method_3_code 0 = .ok (.iload_n 0, 1) := by decide +kernel
theorem own_d1_1 : decode prog_106_method_3_code 1 = .ok (.bipush 97, 2) := by decide +kernel
theorem own_d1_3 : decode prog_106_method_3_code 3 = .ok (.if_icmp .lt 9, 3) := by decide +kernel
theorem own_d1_6 : decode prog_106_method_3_code 6 = .ok (.iload_n 0, 1) := by decide +kernel
theorem own_d1_7 : decode prog_106_method_3_code 7 = .ok (.bipush 122, 2) := by decide +kernel
theorem own_d1_9 : decode prog_106_method_3_code 9 = .ok (.if_icmp .le 33, 3) := by decide +kernel
theorem own_d1_12 : decode prog_106_method_3_code 12 = .ok (.iload_n 0, 1) := by decide +kernel
theorem own_d1_13 : decode prog_106_method_3_code 13 = .ok (.bipush 65, 2) := by decide +kernel
theorem own_d1_15 : decode prog_106_method_3_code 15 = .ok (.if_icmp .lt 9, 3) := by decide +kernel
theorem own_d1_18 : decode prog_106_method_3_code 18 = .ok (.iload_n 0, 1) := by decide +kernel
theorem own_d1_19 : decode prog_106_method_3_code 19 = .ok (.bipush 90, 2) := by decide +kernel
theorem own_d1_21 : decode prog_106_method_3_code 21 = .ok (.if_icmp .le 21, 3) := by decide +kernel
theorem own_d1_24 : decode prog_106_method_3_code 24 = .ok (.iload_n 0, 1) := by decide +kernel
theorem own_d1_25 : decode prog_106_method_3_code 25 = .ok (.bipush 48, 2) := by decide +kernel
theorem own_d1_27 : decode prog_106_method_3_code 27 = .ok (.if_icmp .lt 9, 3) := by decide +kernel
theorem own_d1_30 : decode prog_106_method_3_code 30 = .ok (.iload_n 0, 1) := by decide +kernel
theorem own_d1_31 : decode prog_106_method_3_code 31 = .ok (.bipush 57, 2) := by decide +kernel
theorem own_d1_33 : decode prog_106_method_3_code 33 = .ok (.if_icmp .le 9, 3) := by decide +kernel
theorem own_d1_36 : decode prog_106_method_3_code 36 = .ok (.iload_n 0, 1) := by decide +kernel
theorem own_d1_37 : decode prog_106_method_3_code 37 = .ok (.bipush 95, 2) := by decide +kernel
theorem own_d1_39 : decode prog_106_method_3_code 39 = .ok (.if_icmp .ne 7, 3) := by decide +kernel
theorem own_d1_42 : decode prog_106_method_3_code 42 = .ok (.iconst 1, 1) := by decide +kernel
theorem own_d1_43 : decode prog_106_method_3_code 43 = .ok (.goto 4, 3) := by decide +kernel
theorem own_d1_46 : decode prog_106_method_3_code 46 = .ok (.iconst 0, 1) := by decide +kernel
theorem own_d1_47 : decode prog_106_method_3_code 47 = .ok (.ireturn, 1) := by decide +kernel
def own_isF_36 (u0 : Int32) : Int32 := if u0 = (95 : Int32) then (1 : Int32) else (0 : Int32)
def own_isF_24 (u0 : Int32) : Int32 := if u0 < (48 : Int32) then (own_isF_36 u0) else (if (57 : Int32) < u0 then (own_isF_36 u0) else (1 : Int32))
def own_isF_12 (u0 : Int32) : Int32 := if u0 < (65 : Int32) then (own_isF_24 u0) else (if (90 : Int32) < u0 then (own_isF_24 u0) else (1 : Int32))
def own_isF (p0 : Int32) : Int32 := if p0 < (97 : Int32) then (own_isF_12 p0) else (if (122 : Int32) < p0 then (own_isF_12 p0) else (1 : Int32))
theorem own_pn0 : plainName "com/example/sedge/sedge/index/Schema" = true := by first | (simp [plainName, overriddenIn]; done) | decide +kernel
theorem own_ef_rm1 (m : MethodId) (x0 : Int32) : entryFrame m #[(.int x0)] 1 = mkF m 0 #[.val (.int x0)] [] := by first | (simp [entryFrame, mkF, argsToLocals, Value.category]; done) | rfl
def own_Q_rm1 (Z : State) (p0 : Int32) (h0 : Heap) (n0 : Nat) (v : Option Value) (h : Heap) (L : List Loc) : Prop := v = some (.int (own_isF p0)) ∧ Fr n0 L ∧ h = h0
set_option maxRecDepth 65536 in
set_option maxHeartbeats 40000000 in
theorem rm1 (l : Launch) (Z : State) (a0 : Array Value) (hw : ∀ d ∈ tables_1, d.before a0 Z = true) (ws : List Jvm.Cond) (p0 : Int32) (h0 : Heap) (n0 : Nat) (Z0 : n0 ≤ h0.size) :
    MetFree l (⟨"com/example/sedge/sedge/index/Schema", "isFieldNameChar", "(C)Z"⟩ : MethodName) (head1 (Jvm.Cond.code (⟨"com/example/sedge/sedge/index/Schema", "isFieldNameChar", "(C)Z"⟩ : MethodName) prog_106_method_3_code 1 (some .boolean) :: ws) ({ frames := 0, cells := 0, slots := 0, locals := 0 } : Room)) (fun a U => a = #[(.int p0)] ∧ Z.Warmed39 U.vm ∧ U.heap = h0) (fun _ _ _ _ _ => True) (fun _ U o U' => ∃ v L, o = .returned v ∧ (own_Q_rm1 Z p0 h0 n0) v U'.heap L ∧ FrameEnd U o U' L ({ frames := 0, cells := 0, slots := 0, locals := 0 } : Room).cells ({ frames := 0, cells := 0, slots := 0, locals := 0 } : Room).slots) := by
  refine MetFree.of_bodySF (plainFor_of_name own_pn0) hisR ?_
  intro p e s m args below meth c s₁ Bd hml0 hP hK
  obtain ⟨rfl, hZ, hh⟩ := hP
  have hx := Bd.exec
  have hby := Bd.bytes
  have hml : c.maxLocals = 1 := hml0
  have hown : s.vm.findClass "com/example/sedge/sedge/index/Schema" = some m.cls := findClass_of_methodNamed Bd.named
  have hnm := (name_of_methodNamed Bd.named Bd.method).1
  have hlk : meth.locks = false := BodyLoose.notSynchronized Bd
  have X0 : Stand p l e ({ frames := 0, cells := 0, slots := 0, locals := 0 } : Room) s m #[(.int p0)] below meth c s₁ [] 0 0 := Stand.of_body Bd
  have e0 : s₁.heap = h0 := by rw [← hh, Bd.state]; rfl
  have N0 := Fr.nil n0
  show own_Ends p e below (own_Fin s (own_Q_rm1 Z p0 h0 n0) ({ frames := 0, cells := 0, slots := 0, locals := 0 } : Room).cells ({ frames := 0, cells := 0, slots := 0, locals := 0 } : Room).slots) _
  refine own_pre (fun t k => castTop (own_ef_rm1 m p0) k) ?_
  have J36 : ∀ (TT : State) (LL : List Loc) (XX : Stand p l e ({ frames := 0, cells := 0, slots := 0, locals := 0 } : Room) s m #[(.int p0)] below meth c TT LL 0 0) (eT : TT.heap = h0) (NN : Fr n0 LL) (u0 : Int32) (G : Option Value → Heap → List Loc → Prop) (hG : ∀ L, Fr n0 L → G (some (.int (own_isF_36 u0))) h0 L), own_Ends p e below (own_Fin s G ({ frames := 0, cells := 0, slots := 0, locals := 0 } : Room).cells ({ frames := 0, cells := 0, slots := 0, locals := 0 } : Room).slots) (TT.setTop (mkF m 36 #[.val (.int u0)] [])) := by
    intro TT LL XX eT NN u0 G hG
    have hG : ∀ L, Fr n0 L → G (some (.int (if u0 = (95 : Int32) then (1 : Int32) else (0 : Int32)))) h0 L := hG
    show own_Ends _ _ _ _ (TT.setTop (mkF m 36 #[.val (.int u0)] []))
    refine own_pre (fun t k => XS.iloadN XX.here hx rfl (hb hby own_d1_36) rfl k) ?_
    show own_Ends _ _ _ _ (TT.setTop (mkF m 37 #[.val (.int u0)] [(.int u0)]))
    refine own_pre (fun t k => XS.bipush XX.here hx rfl (hb hby own_d1_37) k) ?_
    show own_Ends _ _ _ _ (TT.setTop (mkF m 39 #[.val (.int u0)] [(.int (95 : Int32)), (.int u0)]))
    by_cases hc1 : u0 = (95 : Int32)
    · skip
      rw [if_pos hc1] at hG
      refine own_pre (fun t k => XS.icmpNo XX.here hx rfl (hb hby own_d1_39) rfl (teq hc1).2 k) ?_
      show own_Ends _ _ _ _ (TT.setTop (mkF m 42 #[.val (.int u0)] []))
      refine own_pre (fun t k => XS.iconst XX.here hx rfl (hb hby own_d1_42) k) ?_
      show own_Ends _ _ _ _ (TT.setTop (mkF m 43 #[.val (.int u0)] [(.int (1 : Int32))]))
      refine own_pre (fun t k => XS.goto XX.here hx rfl (pc0 := 43) (pc' := 47) rfl (hb hby own_d1_43) (by decide) (by decide) k) ?_
      show own_Ends _ _ _ _ (TT.setTop (mkF m 47 #[.val (.int u0)] [(.int (1 : Int32))]))
      exact own_retN XX hx (t := .boolean) Bd.returns (by simp) (hb hby own_d1_47) hlk rfl eT (hG _ NN) (by decide) (by decide)
    · skip
      rw [if_neg hc1] at hG
      refine own_pre (fun t k => XS.icmpYes XX.here hx rfl (pc0 := 39) (pc' := 46) rfl (hb hby own_d1_39) rfl (feq hc1).2 (by decide) (by decide) k) ?_
      show own_Ends _ _ _ _ (TT.setTop (mkF m 46 #[.val (.int u0)] []))
      refine own_pre (fun t k => XS.iconst XX.here hx rfl (hb hby own_d1_46) k) ?_
      show own_Ends _ _ _ _ (TT.setTop (mkF m 47 #[.val (.int u0)] [(.int (0 : Int32))]))
      exact own_retN XX hx (t := .boolean) Bd.returns (by simp) (hb hby own_d1_47) hlk rfl eT (hG _ NN) (by decide) (by decide)
  have J24 : ∀ (TT : State) (LL : List Loc) (XX : Stand p l e ({ frames := 0, cells := 0, slots := 0, locals := 0 } : Room) s m #[(.int p0)] below meth c TT LL 0 0) (eT : TT.heap = h0) (NN : Fr n0 LL) (u0 : Int32) (G : Option Value → Heap → List Loc → Prop) (hG : ∀ L, Fr n0 L → G (some (.int (own_isF_24 u0))) h0 L), own_Ends p e below (own_Fin s G ({ frames := 0, cells := 0, slots := 0, locals := 0 } : Room).cells ({ frames := 0, cells := 0, slots := 0, locals := 0 } : Room).slots) (TT.setTop (mkF m 24 #[.val (.int u0)] [])) := by
    intro TT LL XX eT NN u0 G hG
    have hG : ∀ L, Fr n0 L → G (some (.int (if u0 < (48 : Int32) then (own_isF_36 u0) else (if (57 : Int32) < u0 then (own_isF_36 u0) else (1 : Int32))))) h0 L := hG
    show own_Ends _ _ _ _ (TT.setTop (mkF m 24 #[.val (.int u0)] []))
    refine own_pre (fun t k => XS.iloadN XX.here hx rfl (hb hby own_d1_24) rfl k) ?_
    show own_Ends _ _ _ _ (TT.setTop (mkF m 25 #[.val (.int u0)] [(.int u0)]))
    refine own_pre (fun t k => XS.bipush XX.here hx rfl (hb hby own_d1_25) k) ?_
    show own_Ends _ _ _ _ (TT.setTop (mkF m 27 #[.val (.int u0)] [(.int (48 : Int32)), (.int u0)]))
    by_cases hc2 : u0 < (48 : Int32)
    · skip
      rw [if_pos hc2] at hG
      refine own_pre (fun t k => XS.icmpYes XX.here hx rfl (pc0 := 27) (pc' := 36) rfl (hb hby own_d1_27) rfl (tlt hc2).1 (by decide) (by decide) k) ?_
      show own_Ends _ _ _ _ (TT.setTop (mkF m 36 #[.val (.int u0)] []))
      exact J36 _ _ XX eT NN u0 _ hG
    · skip
      rw [if_neg hc2] at hG
      refine own_pre (fun t k => XS.icmpNo XX.here hx rfl (hb hby own_d1_27) rfl (flt hc2).1 k) ?_
      show own_Ends _ _ _ _ (TT.setTop (mkF m 30 #[.val (.int u0)] []))
      refine own_pre (fun t k => XS.iloadN XX.here hx rfl (hb hby own_d1_30) rfl k) ?_
      show own_Ends _ _ _ _ (TT.setTop (mkF m 31 #[.val (.int u0)] [(.int u0)]))
      refine own_pre (fun t k => XS.bipush XX.here hx rfl (hb hby own_d1_31) k) ?_
      show own_Ends _ _ _ _ (TT.setTop (mkF m 33 #[.val (.int u0)] [(.int (57 : Int32)), (.int u0)]))
      by_cases hc3 : (57 : Int32) < u0
      · skip
        rw [if_pos hc3] at hG
        refine own_pre (fun t k => XS.icmpNo XX.here hx rfl (hb hby own_d1_33) rfl (tlt hc3).2.2.2 k) ?_
        show own_Ends _ _ _ _ (TT.setTop (mkF m 36 #[.val (.int u0)] []))
        exact J36 _ _ XX eT NN u0 _ hG
      · skip
        rw [if_neg hc3] at hG
        refine own_pre (fun t k => XS.icmpYes XX.here hx rfl (pc0 := 33) (pc' := 42) rfl (hb hby own_d1_33) rfl (flt hc3).2.2.2 (by decide) (by decide) k) ?_
        show own_Ends _ _ _ _ (TT.setTop (mkF m 42 #[.val (.int u0)] []))
        refine own_pre (fun t k => XS.iconst XX.here hx rfl (hb hby own_d1_42) k) ?_
        show own_Ends _ _ _ _ (TT.setTop (mkF m 43 #[.val (.int u0)] [(.int (1 : Int32))]))
        refine own_pre (fun t k => XS.goto XX.here hx rfl (pc0 := 43) (pc' := 47) rfl (hb hby own_d1_43) (by decide) (by decide) k) ?_
        show own_Ends _ _ _ _ (TT.setTop (mkF m 47 #[.val (.int u0)] [(.int (1 : Int32))]))
        exact own_retN XX hx (t := .boolean) Bd.returns (by simp) (hb hby own_d1_47) hlk rfl eT (hG _ NN) (by decide) (by decide)
  have J12 : ∀ (TT : State) (LL : List Loc) (XX : Stand p l e ({ frames := 0, cells := 0, slots := 0, locals := 0 } : Room) s m #[(.int p0)] below meth c TT LL 0 0) (eT : TT.heap = h0) (NN : Fr n0 LL) (u0 : Int32) (G : Option Value → Heap → List Loc → Prop) (hG : ∀ L, Fr n0 L → G (some (.int (own_isF_12 u0))) h0 L), own_Ends p e below (own_Fin s G ({ frames := 0, cells := 0, slots := 0, locals := 0 } : Room).cells ({ frames := 0, cells := 0, slots := 0, locals := 0 } : Room).slots) (TT.setTop (mkF m 12 #[.val (.int u0)] [])) := by
    intro TT LL XX eT NN u0 G hG
    have hG : ∀ L, Fr n0 L → G (some (.int (if u0 < (65 : Int32) then (own_isF_24 u0) else (if (90 : Int32) < u0 then (own_isF_24 u0) else (1 : Int32))))) h0 L := hG
    show own_Ends _ _ _ _ (TT.setTop (mkF m 12 #[.val (.int u0)] []))
    refine own_pre (fun t k => XS.iloadN XX.here hx rfl (hb hby own_d1_12) rfl k) ?_
    show own_Ends _ _ _ _ (TT.setTop (mkF m 13 #[.val (.int u0)] [(.int u0)]))
    refine own_pre (fun t k => XS.bipush XX.here hx rfl (hb hby own_d1_13) k) ?_
    show own_Ends _ _ _ _ (TT.setTop (mkF m 15 #[.val (.int u0)] [(.int (65 : Int32)), (.int u0)]))
    by_cases hc4 : u0 < (65 : Int32)
    · skip
      rw [if_pos hc4] at hG
      refine own_pre (fun t k => XS.icmpYes XX.here hx rfl (pc0 := 15) (pc' := 24) rfl (hb hby own_d1_15) rfl (tlt hc4).1 (by decide) (by decide) k) ?_
      show own_Ends _ _ _ _ (TT.setTop (mkF m 24 #[.val (.int u0)] []))
      exact J24 _ _ XX eT NN u0 _ hG
    · skip
      rw [if_neg hc4] at hG
      refine own_pre (fun t k => XS.icmpNo XX.here hx rfl (hb hby own_d1_15) rfl (flt hc4).1 k) ?_
      show own_Ends _ _ _ _ (TT.setTop (mkF m 18 #[.val (.int u0)] []))
      refine own_pre (fun t k => XS.iloadN XX.here hx rfl (hb hby own_d1_18) rfl k) ?_
      show own_Ends _ _ _ _ (TT.setTop (mkF m 19 #[.val (.int u0)] [(.int u0)]))
      refine own_pre (fun t k => XS.bipush XX.here hx rfl (hb hby own_d1_19) k) ?_
      show own_Ends _ _ _ _ (TT.setTop (mkF m 21 #[.val (.int u0)] [(.int (90 : Int32)), (.int u0)]))
      by_cases hc5 : (90 : Int32) < u0
      · skip
        rw [if_pos hc5] at hG
        refine own_pre (fun t k => XS.icmpNo XX.here hx rfl (hb hby own_d1_21) rfl (tlt hc5).2.2.2 k) ?_
        show own_Ends _ _ _ _ (TT.setTop (mkF m 24 #[.val (.int u0)] []))
        exact J24 _ _ XX eT NN u0 _ hG
      · skip
        rw [if_neg hc5] at hG
        refine own_pre (fun t k => XS.icmpYes XX.here hx rfl (pc0 := 21) (pc' := 42) rfl (hb hby own_d1_21) rfl (flt hc5).2.2.2 (by decide) (by decide) k) ?_
        show own_Ends _ _ _ _ (TT.setTop (mkF m 42 #[.val (.int u0)] []))
        refine own_pre (fun t k => XS.iconst XX.here hx rfl (hb hby own_d1_42) k) ?_
        show own_Ends _ _ _ _ (TT.setTop (mkF m 43 #[.val (.int u0)] [(.int (1 : Int32))]))
        refine own_pre (fun t k => XS.goto XX.here hx rfl (pc0 := 43) (pc' := 47) rfl (hb hby own_d1_43) (by decide) (by decide) k) ?_
        show own_Ends _ _ _ _ (TT.setTop (mkF m 47 #[.val (.int u0)] [(.int (1 : Int32))]))
        exact own_retN XX hx (t := .boolean) Bd.returns (by simp) (hb hby own_d1_47) hlk rfl eT (hG _ NN) (by decide) (by decide)
  have J0 : ∀ (G : Option Value → Heap → List Loc → Prop) (hG : ∀ L, Fr n0 L → G (some (.int (if p0 < (97 : Int32) then (own_isF_12 p0) else (if (122 : Int32) < p0 then (own_isF_12 p0) else (1 : Int32))))) h0 L), own_Ends p e below (own_Fin s G ({ frames := 0, cells := 0, slots := 0, locals := 0 } : Room).cells ({ frames := 0, cells := 0, slots := 0, locals := 0 } : Room).slots) (s₁.setTop (mkF m 0 #[.val (.int p0)] [])) := by
    intro G hG
    show own_Ends _ _ _ _ (s₁.setTop (mkF m 0 #[.val (.int p0)] []))
    refine own_pre (fun t k => XS.iloadN X0.here hx rfl (hb hby own_d1_0) rfl k) ?_
    show own_Ends _ _ _ _ (s₁.setTop (mkF m 1 #[.val (.int p0)] [(.int p0)]))
    refine own_pre (fun t k => XS.bipush X0.here hx rfl (hb hby own_d1_1) k) ?_
    show own_Ends _ _ _ _ (s₁.setTop (mkF m 3 #[.val (.int p0)] [(.int (97 : Int32)), (.int p0)]))
    by_cases hc6 : p0 < (97 : Int32)
    · skip
      rw [if_pos hc6] at hG
      refine own_pre (fun t k => XS.icmpYes X0.here hx rfl (pc0 := 3) (pc' := 12) rfl (hb hby own_d1_3) rfl (tlt hc6).1 (by decide) (by decide) k) ?_
      show own_Ends _ _ _ _ (s₁.setTop (mkF m 12 #[.val (.int p0)] []))
      exact J12 _ _ X0 e0 N0 p0 _ hG
    · skip
      rw [if_neg hc6] at hG
      refine own_pre (fun t k => XS.icmpNo X0.here hx rfl (hb hby own_d1_3) rfl (flt hc6).1 k) ?_
      show own_Ends _ _ _ _ (s₁.setTop (mkF m 6 #[.val (.int p0)] []))
      refine own_pre (fun t k => XS.iloadN X0.here hx rfl (hb hby own_d1_6) rfl k) ?_
      show own_Ends _ _ _ _ (s₁.setTop (mkF m 7 #[.val (.int p0)] [(.int p0)]))
      refine own_pre (fun t k => XS.bipush X0.here hx rfl (hb hby own_d1_7) k) ?_
      show own_Ends _ _ _ _ (s₁.setTop (mkF m 9 #[.val (.int p0)] [(.int (122 : Int32)), (.int p0)]))
      by_cases hc7 : (122 : Int32) < p0
      · skip
        rw [if_pos hc7] at hG
        refine own_pre (fun t k => XS.icmpNo X0.here hx rfl (hb hby own_d1_9) rfl (tlt hc7).2.2.2 k) ?_
        show own_Ends _ _ _ _ (s₁.setTop (mkF m 12 #[.val (.int p0)] []))
        exact J12 _ _ X0 e0 N0 p0 _ hG
      · skip
        rw [if_neg hc7] at hG
        refine own_pre (fun t k => XS.icmpYes X0.here hx rfl (pc0 := 9) (pc' := 42) rfl (hb hby own_d1_9) rfl (flt hc7).2.2.2 (by decide) (by decide) k) ?_
        show own_Ends _ _ _ _ (s₁.setTop (mkF m 42 #[.val (.int p0)] []))
        refine own_pre (fun t k => XS.iconst X0.here hx rfl (hb hby own_d1_42) k) ?_
        show own_Ends _ _ _ _ (s₁.setTop (mkF m 43 #[.val (.int p0)] [(.int (1 : Int32))]))
        refine own_pre (fun t k => XS.goto X0.here hx rfl (pc0 := 43) (pc' := 47) rfl (hb hby own_d1_43) (by decide) (by decide) k) ?_
        show own_Ends _ _ _ _ (s₁.setTop (mkF m 47 #[.val (.int p0)] [(.int (1 : Int32))]))
        exact own_retN X0 hx (t := .boolean) Bd.returns (by simp) (hb hby own_d1_47) hlk rfl e0 (hG _ N0) (by decide) (by decide)
  exact J0 _ fun L q => ⟨rfl, q, rfl⟩
theorem own_d2_0 : decode method_2_code 0 = .ok (.iload_n 0, 1) := by decide +kernel
theorem own_d2_1 : decode method_2_code 1 = .ok (.bipush 64, 2) := by decide +kernel
theorem own_d2_3 : decode method_2_code 3 = .ok (.if_icmp .ge 21, 3) := by decide +kernel
theorem own_d2_6 : decode method_2_code 6 = .ok (.ldc2_w 7, 3) := by decide +kernel
theorem own_d2_9 : decode method_2_code 9 = .ok (.iload_n 0, 1) := by decide +kernel
theorem own_d2_10 : decode method_2_code 10 = .ok (.lushr, 1) := by decide +kernel
theorem own_d2_11 : decode method_2_code 11 = .ok (.lconst 1, 1) := by decide +kernel
theorem own_d2_12 : decode method_2_code 12 = .ok (.land, 1) := by decide +kernel
theorem own_d2_13 : decode method_2_code 13 = .ok (.lconst 0, 1) := by decide +kernel
theorem own_d2_14 : decode method_2_code 14 = .ok (.lcmp, 1) := by decide +kernel
theorem own_d2_15 : decode method_2_code 15 = .ok (.ifCond .eq 7, 3) := by decide +kernel
theorem own_d2_18 : decode method_2_code 18 = .ok (.iconst 1, 1) := by decide +kernel
theorem own_d2_19 : decode method_2_code 19 = .ok (.goto 4, 3) := by decide +kernel
theorem own_d2_22 : decode method_2_code 22 = .ok (.iconst 0, 1) := by decide +kernel
theorem own_d2_23 : decode method_2_code 23 = .ok (.ireturn, 1) := by decide +kernel
theorem own_d2_24 : decode method_2_code 24 = .ok (.iload_n 0, 1) := by decide +kernel
theorem own_d2_25 : decode method_2_code 25 = .ok (.sipush 128, 3) := by decide +kernel
theorem own_d2_28 : decode method_2_code 28 = .ok (.if_icmp .ge 24, 3) := by decide +kernel
theorem own_d2_31 : decode method_2_code 31 = .ok (.ldc2_w 9, 3) := by decide +kernel
theorem own_d2_34 : decode method_2_code 34 = .ok (.iload_n 0, 1) := by decide +kernel
theorem own_d2_35 : decode method_2_code 35 = .ok (.bipush 64, 2) := by decide +kernel
theorem own_d2_37 : decode method_2_code 37 = .ok (.isub, 1) := by decide +kernel
theorem own_d2_38 : decode method_2_code 38 = .ok (.lushr, 1) := by decide +kernel
theorem own_d2_39 : decode method_2_code 39 = .ok (.lconst 1, 1) := by decide +kernel
theorem own_d2_40 : decode method_2_code 40 = .ok (.land, 1) := by decide +kernel
theorem own_d2_41 : decode method_2_code 41 = .ok (.lconst 0, 1) := by decide +kernel
theorem own_d2_42 : decode method_2_code 42 = .ok (.lcmp, 1) := by decide +kernel
theorem own_d2_43 : decode method_2_code 43 = .ok (.ifCond .eq 7, 3) := by decide +kernel
theorem own_d2_46 : decode method_2_code 46 = .ok (.iconst 1, 1) := by decide +kernel
theorem own_d2_47 : decode method_2_code 47 = .ok (.goto 4, 3) := by decide +kernel
theorem own_d2_50 : decode method_2_code 50 = .ok (.iconst 0, 1) := by decide +kernel
theorem own_d2_51 : decode method_2_code 51 = .ok (.ireturn, 1) := by decide +kernel
theorem own_d2_52 : decode method_2_code 52 = .ok (.iconst 0, 1) := by decide +kernel
theorem own_d2_53 : decode method_2_code 53 = .ok (.ireturn, 1) := by decide +kernel
def own_exp (p0 : Int32) : Int32 := if p0 < (64 : Int32) then (if (own_cmpL ((own_ushrL (287948901175001088 : Int64) p0) &&& (1 : Int64)) (0 : Int64)) = (0 : Int32) then (0 : Int32) else (1 : Int32)) else (if p0 < (128 : Int32) then (if (own_cmpL ((own_ushrL (576460745995190270 : Int64) (p0 - (64 : Int32))) &&& (1 : Int64)) (0 : Int64)) = (0 : Int32) then (0 : Int32) else (1 : Int32)) else (0 : Int32))
theorem own_pn1 : plainName "com/example/sedge/sedge/index/SchemaIsFieldNameCharPinLaw" = true := by first | (simp [plainName, overriddenIn]; done) | decide +kernel
theorem own_ef_rm2 (m : MethodId) (x0 : Int32) : entryFrame m #[(.int x0)] 1 = mkF m 0 #[.val (.int x0)] [] := by first | (simp [entryFrame, mkF, argsToLocals, Value.category]; done) | rfl
def own_Q_rm2 (Z : State) (p0 : Int32) (h0 : Heap) (n0 : Nat) (v : Option Value) (h : Heap) (L : List Loc) : Prop := v = some (.int (own_exp p0)) ∧ Fr n0 L ∧ h = h0
set_option maxRecDepth 65536 in
set_option maxHeartbeats 40000000 in
theorem rm2 (l : Launch) (Z : State) (a0 : Array Value) (hw : ∀ d ∈ tables_1, d.before a0 Z = true) (ws : List Jvm.Cond) (p0 : Int32) (h0 : Heap) (n0 : Nat) (Z0 : n0 ≤ h0.size) :
    MetFree l (⟨"com/example/sedge/sedge/index/SchemaIsFieldNameCharPinLaw", "expected", "(C)Z"⟩ : MethodName) (head1 (Jvm.Cond.code (⟨"com/example/sedge/sedge/index/SchemaIsFieldNameCharPinLaw", "expected", "(C)Z"⟩ : MethodName) method_2_code 1 (some .boolean) :: ws) ({ frames := 0, cells := 0, slots := 0, locals := 0 } : Room)) (fun a U => a = #[(.int p0)] ∧ Z.Warmed39 U.vm ∧ U.heap = h0) (fun _ _ _ _ _ => True) (fun _ U o U' => ∃ v L, o = .returned v ∧ (own_Q_rm2 Z p0 h0 n0) v U'.heap L ∧ FrameEnd U o U' L ({ frames := 0, cells := 0, slots := 0, locals := 0 } : Room).cells ({ frames := 0, cells := 0, slots := 0, locals := 0 } : Room).slots) := by
  refine MetFree.of_bodySF (plainFor_of_name own_pn1) hisR ?_
  intro p e s m args below meth c s₁ Bd hml0 hP hK
  obtain ⟨rfl, hZ, hh⟩ := hP
  have hx := Bd.exec
  have hby := Bd.bytes
  have hml : c.maxLocals = 1 := hml0
  have hown : s.vm.findClass "com/example/sedge/sedge/index/SchemaIsFieldNameCharPinLaw" = some m.cls := findClass_of_methodNamed Bd.named
  have hnm := (name_of_methodNamed Bd.named Bd.method).1
  have hlk : meth.locks = false := BodyLoose.notSynchronized Bd
  have X0 : Stand p l e ({ frames := 0, cells := 0, slots := 0, locals := 0 } : Room) s m #[(.int p0)] below meth c s₁ [] 0 0 := Stand.of_body Bd
  have e0 : s₁.heap = h0 := by rw [← hh, Bd.state]; rfl
  have N0 := Fr.nil n0
  show own_Ends p e below (own_Fin s (own_Q_rm2 Z p0 h0 n0) ({ frames := 0, cells := 0, slots := 0, locals := 0 } : Room).cells ({ frames := 0, cells := 0, slots := 0, locals := 0 } : Room).slots) _
  refine own_pre (fun t k => castTop (own_ef_rm2 m p0) k) ?_
  have J0 : ∀ (G : Option Value → Heap → List Loc → Prop) (hG : ∀ L, Fr n0 L → G (some (.int (if p0 < (64 : Int32) then (if (own_cmpL ((own_ushrL (287948901175001088 : Int64) p0) &&& (1 : Int64)) (0 : Int64)) = (0 : Int32) then (0 : Int32) else (1 : Int32)) else (if p0 < (128 : Int32) then (if (own_cmpL ((own_ushrL (576460745995190270 : Int64) (p0 - (64 : Int32))) &&& (1 : Int64)) (0 : Int64)) = (0 : Int32) then (0 : Int32) else (1 : Int32)) else (0 : Int32))))) h0 L), own_Ends p e below (own_Fin s G ({ frames := 0, cells := 0, slots := 0, locals := 0 } : Room).cells ({ frames := 0, cells := 0, slots := 0, locals := 0 } : Room).slots) (s₁.setTop (mkF m 0 #[.val (.int p0)] [])) := by
    intro G hG
    show own_Ends _ _ _ _ (s₁.setTop (mkF m 0 #[.val (.int p0)] []))
    refine own_pre (fun t k => XS.iloadN X0.here hx rfl (hb hby own_d2_0) rfl k) ?_
    show own_Ends _ _ _ _ (s₁.setTop (mkF m 1 #[.val (.int p0)] [(.int p0)]))
    refine own_pre (fun t k => XS.bipush X0.here hx rfl (hb hby own_d2_1) k) ?_
    show own_Ends _ _ _ _ (s₁.setTop (mkF m 3 #[.val (.int p0)] [(.int (64 : Int32)), (.int p0)]))
    by_cases hc8 : p0 < (64 : Int32)
    · skip
      rw [if_pos hc8] at hG
      refine own_pre (fun t k => XS.icmpNo X0.here hx rfl (hb hby own_d2_3) rfl (tlt hc8).2.1 k) ?_
      show own_Ends _ _ _ _ (s₁.setTop (mkF m 6 #[.val (.int p0)] []))
      refine own_pre (fun t k => X0.ldc2Long hx hown (mvT hZ (hw _ (List.mem_of_getElem? (i := 8) rfl))) (g := (mkF m 6 #[.val (.int p0)] [])) rfl (hb hby own_d2_6) _ k) ?_
      show own_Ends _ _ _ _ (s₁.setTop (mkF m 9 #[.val (.int p0)] [(.long (287948901175001088 : Int64))]))
      refine own_pre (fun t k => XS.iloadN X0.here hx rfl (hb hby own_d2_9) rfl k) ?_
      show own_Ends _ _ _ _ (s₁.setTop (mkF m 10 #[.val (.int p0)] [(.int p0), (.long (287948901175001088 : Int64))]))
      refine own_pre (fun t k => XS.lushr X0.here hx rfl (hb hby own_d2_10) rfl k) ?_
      show own_Ends _ _ _ _ (s₁.setTop (mkF m 11 #[.val (.int p0)] [(.long (own_ushrL (287948901175001088 : Int64) p0))]))
      refine own_pre (fun t k => XS.lconst X0.here hx rfl (hb hby own_d2_11) k) ?_
      show own_Ends _ _ _ _ (s₁.setTop (mkF m 12 #[.val (.int p0)] [(.long (1 : Int64)), (.long (own_ushrL (287948901175001088 : Int64) p0))]))
      refine own_pre (fun t k => XS.land X0.here hx rfl (hb hby own_d2_12) rfl k) ?_
      show own_Ends _ _ _ _ (s₁.setTop (mkF m 13 #[.val (.int p0)] [(.long ((own_ushrL (287948901175001088 : Int64) p0) &&& (1 : Int64)))]))
      refine own_pre (fun t k => XS.lconst X0.here hx rfl (hb hby own_d2_13) k) ?_
      show own_Ends _ _ _ _ (s₁.setTop (mkF m 14 #[.val (.int p0)] [(.long (0 : Int64)), (.long ((own_ushrL (287948901175001088 : Int64) p0) &&& (1 : Int64)))]))
      refine own_pre (fun t k => XS.lcmp X0.here hx rfl (hb hby own_d2_14) rfl k) ?_
      show own_Ends _ _ _ _ (s₁.setTop (mkF m 15 #[.val (.int p0)] [(.int (own_cmpL ((own_ushrL (287948901175001088 : Int64) p0) &&& (1 : Int64)) (0 : Int64)))]))
      by_cases hc9 : (own_cmpL ((own_ushrL (287948901175001088 : Int64) p0) &&& (1 : Int64)) (0 : Int64)) = (0 : Int32)
      · skip
        rw [if_pos hc9] at hG
        refine own_pre (fun t k => XS.ifYes X0.here hx rfl (pc0 := 15) (pc' := 22) rfl (hb hby own_d2_15) rfl ((if0 _ _).trans (teq hc9).1) (by decide) (by decide) k) ?_
        show own_Ends _ _ _ _ (s₁.setTop (mkF m 22 #[.val (.int p0)] []))
        refine own_pre (fun t k => XS.iconst X0.here hx rfl (hb hby own_d2_22) k) ?_
        show own_Ends _ _ _ _ (s₁.setTop (mkF m 23 #[.val (.int p0)] [(.int (0 : Int32))]))
        exact own_retN X0 hx (t := .boolean) Bd.returns (by simp) (hb hby own_d2_23) hlk rfl e0 (hG _ N0) (by decide) (by decide)
      · skip
        rw [if_neg hc9] at hG
        refine own_pre (fun t k => XS.ifNo X0.here hx rfl (hb hby own_d2_15) rfl ((if0 _ _).trans (feq hc9).1) k) ?_
        show own_Ends _ _ _ _ (s₁.setTop (mkF m 18 #[.val (.int p0)] []))
        refine own_pre (fun t k => XS.iconst X0.here hx rfl (hb hby own_d2_18) k) ?_
        show own_Ends _ _ _ _ (s₁.setTop (mkF m 19 #[.val (.int p0)] [(.int (1 : Int32))]))
        refine own_pre (fun t k => XS.goto X0.here hx rfl (pc0 := 19) (pc' := 23) rfl (hb hby own_d2_19) (by decide) (by decide) k) ?_
        show own_Ends _ _ _ _ (s₁.setTop (mkF m 23 #[.val (.int p0)] [(.int (1 : Int32))]))
        exact own_retN X0 hx (t := .boolean) Bd.returns (by simp) (hb hby own_d2_23) hlk rfl e0 (hG _ N0) (by decide) (by decide)
    · skip
      rw [if_neg hc8] at hG
      refine own_pre (fun t k => XS.icmpYes X0.here hx rfl (pc0 := 3) (pc' := 24) rfl (hb hby own_d2_3) rfl (flt hc8).2.1 (by decide) (by decide) k) ?_
      show own_Ends _ _ _ _ (s₁.setTop (mkF m 24 #[.val (.int p0)] []))
      refine own_pre (fun t k => XS.iloadN X0.here hx rfl (hb hby own_d2_24) rfl k) ?_
      show own_Ends _ _ _ _ (s₁.setTop (mkF m 25 #[.val (.int p0)] [(.int p0)]))
      refine own_pre (fun t k => XS.sipush X0.here hx rfl (hb hby own_d2_25) k) ?_
      show own_Ends _ _ _ _ (s₁.setTop (mkF m 28 #[.val (.int p0)] [(.int (128 : Int32)), (.int p0)]))
      by_cases hc10 : p0 < (128 : Int32)
      · skip
        rw [if_pos hc10] at hG
        refine own_pre (fun t k => XS.icmpNo X0.here hx rfl (hb hby own_d2_28) rfl (tlt hc10).2.1 k) ?_
        show own_Ends _ _ _ _ (s₁.setTop (mkF m 31 #[.val (.int p0)] []))
        refine own_pre (fun t k => X0.ldc2Long hx hown (mvT hZ (hw _ (List.mem_of_getElem? (i := 9) rfl))) (g := (mkF m 31 #[.val (.int p0)] [])) rfl (hb hby own_d2_31) _ k) ?_
        show own_Ends _ _ _ _ (s₁.setTop (mkF m 34 #[.val (.int p0)] [(.long (576460745995190270 : Int64))]))
        refine own_pre (fun t k => XS.iloadN X0.here hx rfl (hb hby own_d2_34) rfl k) ?_
        show own_Ends _ _ _ _ (s₁.setTop (mkF m 35 #[.val (.int p0)] [(.int p0), (.long (576460745995190270 : Int64))]))
        refine own_pre (fun t k => XS.bipush X0.here hx rfl (hb hby own_d2_35) k) ?_
        show own_Ends _ _ _ _ (s₁.setTop (mkF m 37 #[.val (.int p0)] [(.int (64 : Int32)), (.int p0), (.long (576460745995190270 : Int64))]))
        refine own_pre (fun t k => XS.isub X0.here hx rfl (hb hby own_d2_37) rfl k) ?_
        show own_Ends _ _ _ _ (s₁.setTop (mkF m 38 #[.val (.int p0)] [(.int (p0 - (64 : Int32))), (.long (576460745995190270 : Int64))]))
        refine own_pre (fun t k => XS.lushr X0.here hx rfl (hb hby own_d2_38) rfl k) ?_
        show own_Ends _ _ _ _ (s₁.setTop (mkF m 39 #[.val (.int p0)] [(.long (own_ushrL (576460745995190270 : Int64) (p0 - (64 : Int32))))]))
        refine own_pre (fun t k => XS.lconst X0.here hx rfl (hb hby own_d2_39) k) ?_
        show own_Ends _ _ _ _ (s₁.setTop (mkF m 40 #[.val (.int p0)] [(.long (1 : Int64)), (.long (own_ushrL (576460745995190270 : Int64) (p0 - (64 : Int32))))]))
        refine own_pre (fun t k => XS.land X0.here hx rfl (hb hby own_d2_40) rfl k) ?_
        show own_Ends _ _ _ _ (s₁.setTop (mkF m 41 #[.val (.int p0)] [(.long ((own_ushrL (576460745995190270 : Int64) (p0 - (64 : Int32))) &&& (1 : Int64)))]))
        refine own_pre (fun t k => XS.lconst X0.here hx rfl (hb hby own_d2_41) k) ?_
        show own_Ends _ _ _ _ (s₁.setTop (mkF m 42 #[.val (.int p0)] [(.long (0 : Int64)), (.long ((own_ushrL (576460745995190270 : Int64) (p0 - (64 : Int32))) &&& (1 : Int64)))]))
        refine own_pre (fun t k => XS.lcmp X0.here hx rfl (hb hby own_d2_42) rfl k) ?_
        show own_Ends _ _ _ _ (s₁.setTop (mkF m 43 #[.val (.int p0)] [(.int (own_cmpL ((own_ushrL (576460745995190270 : Int64) (p0 - (64 : Int32))) &&& (1 : Int64)) (0 : Int64)))]))
        by_cases hc11 : (own_cmpL ((own_ushrL (576460745995190270 : Int64) (p0 - (64 : Int32))) &&& (1 : Int64)) (0 : Int64)) = (0 : Int32)
        · skip
          rw [if_pos hc11] at hG
          refine own_pre (fun t k => XS.ifYes X0.here hx rfl (pc0 := 43) (pc' := 50) rfl (hb hby own_d2_43) rfl ((if0 _ _).trans (teq hc11).1) (by decide) (by decide) k) ?_
          show own_Ends _ _ _ _ (s₁.setTop (mkF m 50 #[.val (.int p0)] []))
          refine own_pre (fun t k => XS.iconst X0.here hx rfl (hb hby own_d2_50) k) ?_
          show own_Ends _ _ _ _ (s₁.setTop (mkF m 51 #[.val (.int p0)] [(.int (0 : Int32))]))
          exact own_retN X0 hx (t := .boolean) Bd.returns (by simp) (hb hby own_d2_51) hlk rfl e0 (hG _ N0) (by decide) (by decide)
        · skip
          rw [if_neg hc11] at hG
          refine own_pre (fun t k => XS.ifNo X0.here hx rfl (hb hby own_d2_43) rfl ((if0 _ _).trans (feq hc11).1) k) ?_
          show own_Ends _ _ _ _ (s₁.setTop (mkF m 46 #[.val (.int p0)] []))
          refine own_pre (fun t k => XS.iconst X0.here hx rfl (hb hby own_d2_46) k) ?_
          show own_Ends _ _ _ _ (s₁.setTop (mkF m 47 #[.val (.int p0)] [(.int (1 : Int32))]))
          refine own_pre (fun t k => XS.goto X0.here hx rfl (pc0 := 47) (pc' := 51) rfl (hb hby own_d2_47) (by decide) (by decide) k) ?_
          show own_Ends _ _ _ _ (s₁.setTop (mkF m 51 #[.val (.int p0)] [(.int (1 : Int32))]))
          exact own_retN X0 hx (t := .boolean) Bd.returns (by simp) (hb hby own_d2_51) hlk rfl e0 (hG _ N0) (by decide) (by decide)
      · skip
        rw [if_neg hc10] at hG
        refine own_pre (fun t k => XS.icmpYes X0.here hx rfl (pc0 := 28) (pc' := 52) rfl (hb hby own_d2_28) rfl (flt hc10).2.1 (by decide) (by decide) k) ?_
        show own_Ends _ _ _ _ (s₁.setTop (mkF m 52 #[.val (.int p0)] []))
        refine own_pre (fun t k => XS.iconst X0.here hx rfl (hb hby own_d2_52) k) ?_
        show own_Ends _ _ _ _ (s₁.setTop (mkF m 53 #[.val (.int p0)] [(.int (0 : Int32))]))
        exact own_retN X0 hx (t := .boolean) Bd.returns (by simp) (hb hby own_d2_53) hlk rfl e0 (hG _ N0) (by decide) (by decide)
  exact J0 _ fun L q => ⟨rfl, q, rfl⟩
theorem own_pd0 : parseMethodDescriptor "(C)Z" = some ⟨[.char], some .boolean⟩ := by decide +kernel
def own_law (p0 : Int32) : Int32 := if (own_isF (p0.toUInt32.toUInt16.toUInt32.toInt32)) = (own_exp (p0.toUInt32.toUInt16.toUInt32.toInt32)) then (1 : Int32) else (0 : Int32)
theorem own_ef_rm0 (m : MethodId) (x0 : Int32) : entryFrame m #[(.int x0)] maxLocals = mkF m 0 #[.val (.int x0), .unset] [] := by first | (simp [entryFrame, mkF, argsToLocals, Value.category, maxLocals]; done) | rfl
def own_Q_rm0 (Z : State) (p0 : Int32) (h0 : Heap) (n0 : Nat) (v : Option Value) (h : Heap) (L : List Loc) : Prop := v = some (.int (own_law p0)) ∧ Fr n0 L ∧ h = h0
set_option maxRecDepth 65536 in
set_option maxHeartbeats 40000000 in
theorem rm0 (l : Launch) (Z : State) (a0 : Array Value) (hw : ∀ d ∈ tables_1, d.before a0 Z = true) (ws : List Jvm.Cond) (p0 : Int32) (h0 : Heap) (n0 : Nat) (Z0 : n0 ≤ h0.size) :
    MetFree l x (head1 (Jvm.Cond.code x code maxLocals ret :: ws) room_1) (fun a U => a = #[(.int p0)] ∧ Z.Warmed39 U.vm ∧ U.heap = h0) (fun _ _ _ _ _ => True) (fun _ U o U' => ∃ v L, o = .returned v ∧ (own_Q_rm0 Z p0 h0 n0) v U'.heap L ∧ FrameEnd U o U' L 0 0) := by
  refine MetFree.of_bodySF (plainFor_of_name own_pn1) hisR ?_
  intro p e s m args below meth c s₁ Bd hml0 hP hK
  obtain ⟨rfl, hZ, hh⟩ := hP
  have hx := Bd.exec
  have hby := Bd.bytes
  have hml : c.maxLocals = 2 := hml0
  have hown : s.vm.findClass "com/example/sedge/sedge/index/SchemaIsFieldNameCharPinLaw" = some m.cls := findClass_of_methodNamed Bd.named
  have hnm := (name_of_methodNamed Bd.named Bd.method).1
  have hlk : meth.locks = false := BodyLoose.notSynchronized Bd
  have X0 : Stand p l e room_1 s m #[(.int p0)] below meth c s₁ [] 0 0 := Stand.of_body Bd
  have e0 : s₁.heap = h0 := by rw [← hh, Bd.state]; rfl
  have N0 := Fr.nil n0
  show own_Ends p e below (own_Fin s (own_Q_rm0 Z p0 h0 n0) 0 0) _
  refine own_pre (fun t k => castTop (own_ef_rm0 m p0) k) ?_
  have J0 : ∀ (G : Option Value → Heap → List Loc → Prop) (hG : ∀ L, Fr n0 L → G (some (.int (if (own_isF (p0.toUInt32.toUInt16.toUInt32.toInt32)) = (own_exp (p0.toUInt32.toUInt16.toUInt32.toInt32)) then (1 : Int32) else (0 : Int32)))) h0 L), own_Ends p e below (own_Fin s G 0 0) (s₁.setTop (mkF m 0 #[.val (.int p0), .unset] [])) := by
    intro G hG
    show own_Ends _ _ _ _ (s₁.setTop (mkF m 0 #[.val (.int p0), .unset] []))
    refine own_pre (fun t k => XS.iloadN X0.here hx rfl (hb hby at_0) rfl k) ?_
    show own_Ends _ _ _ _ (s₁.setTop (mkF m 1 #[.val (.int p0), .unset] [(.int p0)]))
    refine own_pre (fun t k => XS.i2c X0.here hx rfl (hb hby at_1) rfl k) ?_
    show own_Ends _ _ _ _ (s₁.setTop (mkF m 2 #[.val (.int p0), .unset] [(.int (p0.toUInt32.toUInt16.toUInt32.toInt32))]))
    refine own_pre (fun t k => XS.istoreN X0.here hx rfl (hb hby at_2) rfl (l' := #[.val (.int p0), .val (.int (p0.toUInt32.toUInt16.toUInt32.toInt32))]) rfl k) ?_
    show own_Ends _ _ _ _ (s₁.setTop (mkF m 3 #[.val (.int p0), .val (.int (p0.toUInt32.toUInt16.toUInt32.toInt32))] []))
    refine own_pre (fun t k => XS.iloadN X0.here hx rfl (hb hby at_3) rfl k) ?_
    show own_Ends _ _ _ _ (s₁.setTop (mkF m 4 #[.val (.int p0), .val (.int (p0.toUInt32.toUInt16.toUInt32.toInt32))] [(.int (p0.toUInt32.toUInt16.toUInt32.toInt32))]))
    obtain ⟨_, _, ⟨T12, L12, k12, n12⟩, -, X12, ⟨Lc12, hQ12, l12, y12, z12⟩, st12⟩ := Jvm.LawKit.callS X0 hx (y := (⟨"com/example/sedge/sedge/index/Schema", "isFieldNameChar", "(C)Z"⟩ : MethodName)) hown (mvT hZ (hw _ (List.mem_of_getElem? (i := 0) rfl))) (mvT hZ (hw _ (List.mem_of_getElem? (i := 1) rfl))) (mvT hZ (hw _ (List.mem_of_getElem? (i := 2) rfl))) (mvT hZ (hw _ (List.mem_of_getElem? (i := 3) rfl))) (by decide) (backOf (W := 0) (rm1 l Z a0 hw [] (p0.toUInt32.toUInt16.toUInt32.toInt32) h0 n0 Z0) hZ (hw _ (List.mem_of_getElem? (i := 3) rfl)) (hw _ (List.mem_of_getElem? (i := 2) rfl)) (by decide) (by decide)) (g := (mkF m 4 #[.val (.int p0), .val (.int (p0.toUInt32.toUInt16.toUInt32.toInt32))] [(.int (p0.toUInt32.toUInt16.toUInt32.toInt32))])) rfl (by rw [hml]; rfl) (argsL := [(.int (p0.toUInt32.toUInt16.toUInt32.toInt32))]) (rest := []) (lenOf own_pd0 rfl) rfl (by show 2 * 0 + _ ≤ _; exact Nat.le_of_eq rfl) (hb hby at_4) (fun _ _ => ⟨rfl, e0, (by decide : 0 + 0 ≤ _), (by decide : 0 + 0 ≤ _)⟩)
    dsimp only [Pt.U, Pt.locs, Pt.cells, Pt.slots] at X12 l12 y12 z12 st12 hQ12
    subst l12 y12 z12
    obtain ⟨rfl, Nq12, e12⟩ := hQ12
    have N12 := Fr.app N0 Nq12
    refine own_pre st12 ?_
    show own_Ends _ _ _ _ (T12.setTop (mkF m 7 #[.val (.int p0), .val (.int (p0.toUInt32.toUInt16.toUInt32.toInt32))] [(.int (own_isF (p0.toUInt32.toUInt16.toUInt32.toInt32)))]))
    refine own_pre (fun t k => XS.iloadN X12.here hx rfl (hb hby at_7) rfl k) ?_
    show own_Ends _ _ _ _ (T12.setTop (mkF m 8 #[.val (.int p0), .val (.int (p0.toUInt32.toUInt16.toUInt32.toInt32))] [(.int (p0.toUInt32.toUInt16.toUInt32.toInt32)), (.int (own_isF (p0.toUInt32.toUInt16.toUInt32.toInt32)))]))
    obtain ⟨_, _, ⟨T13, L13, k13, n13⟩, -, X13, ⟨Lc13, hQ13, l13, y13, z13⟩, st13⟩ := Jvm.LawKit.callS X12 hx (y := (⟨"com/example/sedge/sedge/index/SchemaIsFieldNameCharPinLaw", "expected", "(C)Z"⟩ : MethodName)) hown (mvT hZ (hw _ (List.mem_of_getElem? (i := 4) rfl))) (mvT hZ (hw _ (List.mem_of_getElem? (i := 5) rfl))) (mvT hZ (hw _ (List.mem_of_getElem? (i := 6) rfl))) (mvT hZ (hw _ (List.mem_of_getElem? (i := 7) rfl))) (by decide) (backOf (W := 1) (rm2 l Z a0 hw [] (p0.toUInt32.toUInt16.toUInt32.toInt32) h0 n0 Z0) hZ (hw _ (List.mem_of_getElem? (i := 7) rfl)) (hw _ (List.mem_of_getElem? (i := 6) rfl)) (by decide) (by decide)) (g := (mkF m 8 #[.val (.int p0), .val (.int (p0.toUInt32.toUInt16.toUInt32.toInt32))] [(.int (p0.toUInt32.toUInt16.toUInt32.toInt32)), (.int (own_isF (p0.toUInt32.toUInt16.toUInt32.toInt32)))])) rfl (by rw [hml]; rfl) (argsL := [(.int (p0.toUInt32.toUInt16.toUInt32.toInt32))]) (rest := [(.int (own_isF (p0.toUInt32.toUInt16.toUInt32.toInt32)))]) (lenOf own_pd0 rfl) rfl (by show 2 * 0 + _ ≤ _; exact Nat.le_of_eq rfl) (hb hby at_8) (fun _ _ => ⟨rfl, e12, (by decide : 0 + 0 ≤ _), (by decide : 0 + 0 ≤ _)⟩)
    dsimp only [Pt.U, Pt.locs, Pt.cells, Pt.slots] at X13 l13 y13 z13 st13 hQ13
    subst l13 y13 z13
    obtain ⟨rfl, Nq13, e13⟩ := hQ13
    have N13 := Fr.app N12 Nq13
    refine own_pre st13 ?_
    show own_Ends _ _ _ _ (T13.setTop (mkF m 11 #[.val (.int p0), .val (.int (p0.toUInt32.toUInt16.toUInt32.toInt32))] [(.int (own_exp (p0.toUInt32.toUInt16.toUInt32.toInt32))), (.int (own_isF (p0.toUInt32.toUInt16.toUInt32.toInt32)))]))
    by_cases hc14 : (own_isF (p0.toUInt32.toUInt16.toUInt32.toInt32)) = (own_exp (p0.toUInt32.toUInt16.toUInt32.toInt32))
    · skip
      rw [if_pos hc14] at hG
      refine own_pre (fun t k => XS.icmpNo X13.here hx rfl (hb hby at_11) rfl (teq hc14).2 k) ?_
      show own_Ends _ _ _ _ (T13.setTop (mkF m 14 #[.val (.int p0), .val (.int (p0.toUInt32.toUInt16.toUInt32.toInt32))] []))
      refine own_pre (fun t k => XS.iconst X13.here hx rfl (hb hby at_14) k) ?_
      show own_Ends _ _ _ _ (T13.setTop (mkF m 15 #[.val (.int p0), .val (.int (p0.toUInt32.toUInt16.toUInt32.toInt32))] [(.int (1 : Int32))]))
      refine own_pre (fun t k => XS.goto X13.here hx rfl (pc0 := 15) (pc' := 19) rfl (hb hby at_15) (by decide) (by decide) k) ?_
      show own_Ends _ _ _ _ (T13.setTop (mkF m 19 #[.val (.int p0), .val (.int (p0.toUInt32.toUInt16.toUInt32.toInt32))] [(.int (1 : Int32))]))
      exact own_retN X13 hx (t := .boolean) Bd.returns (by simp) (hb hby at_19) hlk rfl e13 (hG _ N13) (by decide) (by decide)
    · skip
      rw [if_neg hc14] at hG
      refine own_pre (fun t k => XS.icmpYes X13.here hx rfl (pc0 := 11) (pc' := 18) rfl (hb hby at_11) rfl (feq hc14).2 (by decide) (by decide) k) ?_
      show own_Ends _ _ _ _ (T13.setTop (mkF m 18 #[.val (.int p0), .val (.int (p0.toUInt32.toUInt16.toUInt32.toInt32))] []))
      refine own_pre (fun t k => XS.iconst X13.here hx rfl (hb hby at_18) k) ?_
      show own_Ends _ _ _ _ (T13.setTop (mkF m 19 #[.val (.int p0), .val (.int (p0.toUInt32.toUInt16.toUInt32.toInt32))] [(.int (0 : Int32))]))
      exact own_retN X13 hx (t := .boolean) Bd.returns (by simp) (hb hby at_19) hlk rfl e13 (hG _ N13) (by decide) (by decide)
  exact J0 _ fun L q => ⟨rfl, q, rfl⟩
theorem own_small : ∀ n : Fin 128, own_isF (Int32.ofNat n.val) = own_exp (Int32.ofNat n.val) := by decide +kernel
theorem own_big (c : Int32) (h : ¬ c < 128) : own_isF c = own_exp c := by
  have h' : 128 ≤ c.toInt := by rw [Int32.lt_iff_toInt_lt] at h; have : (128 : Int32).toInt = 128 := rfl; omega
  have q (k : Int32) (hk : k.toInt < 128) : ¬ c < k := by rw [Int32.lt_iff_toInt_lt]; omega
  have r (k : Int32) (hk : k.toInt < 128) : k < c := by rw [Int32.lt_iff_toInt_lt]; omega
  have e : ¬ c = 95 := fun z => by subst z; exact absurd h' (by decide)
  simp only [own_isF, own_isF_12, own_isF_24, own_isF_36, own_exp, if_neg (q 97 (by decide)), if_neg (q 65 (by decide)), if_neg (q 48 (by decide)), if_neg (q 64 (by decide)), if_neg h, if_neg e, if_pos (r 122 (by decide)), if_pos (r 90 (by decide)), if_pos (r 57 (by decide))]
theorem own_char (x : Int32) : ∃ n : Nat, n < 65536 ∧ x.toUInt32.toUInt16.toUInt32.toInt32 = Int32.ofNat n := ⟨x.toUInt32.toUInt16.toNat, x.toUInt32.toUInt16.toNat_lt, by
  apply Int32.toBitVec_inj.mp
  apply BitVec.eq_of_toNat_eq
  have e : x.toUInt32.toNat = x.toBitVec.toNat := rfl
  simp
  omega⟩
theorem own_eq (x : Int32) : own_isF (x.toUInt32.toUInt16.toUInt32.toInt32) = own_exp (x.toUInt32.toUInt16.toUInt32.toInt32) := by
  by_cases h : x.toUInt32.toUInt16.toUInt32.toInt32 < 128
  · obtain ⟨n, hn16, hn⟩ := own_char x
    rw [hn] at h ⊢
    have h' : n < 128 := by
      rw [Int32.lt_iff_toInt_lt, Int32.toInt_ofNat_of_lt (by omega)] at h
      have e : (128 : Int32).toInt = 128 := rfl
      omega
    exact own_small ⟨n, h'⟩
  · exact own_big _ h
theorem own_ok (x : Int32) : own_law x = 1 := by
  simp only [own_law, own_eq, if_pos]
set_option maxRecDepth 65536 in
set_option maxHeartbeats 40000000 in
theorem own_comes {Post : Tables → Env → Array Value → State → Outcome → State → Prop} (hpost : ∀ tb e args s v u, (limb_1_1.after args s (.returned v) u = true ∧ limb_1_2.after args s (.returned v) u = true ∧ True) → FrameEnd s (.returned v) u (Jvm.fieldLocs frame_1_writes args s ++ Jvm.arrayLocs frame_1_arrays args s ++ Jvm.staticLocs frame_1_statics s) 0 0 → Post tb e args s (.returned v) u) :
    ArmFor flags0 classFile x code maxLocals ret World_1 tables_1 room_1 Calls_1 rest_1 Pre_1 Post := by
  intro l hfl _ _ p e ha hc hk s m args below hf hA hF happ hP
  obtain ⟨hcalls, hrest, hpre⟩ := hP
  obtain ⟨-, -, -, hnamed, -, -, -, hat⟩ := (Spec.applies_iff hf).mp happ
  obtain ⟨hg, hn⟩ := and_e (Cond.before_iff.mp (show (Jvm.Cond.and given_1 narrow_1).before args s = true from hpre))
  obtain ⟨hcount, g0⟩ := and_e hg
  obtain ⟨w0, rfl⟩ : ∃ w0 : Value, args = #[w0] := by
    have hs : args.size = 1 := by simpa [Cond.value, given_1] using hcount
    obtain ⟨L⟩ := args
    match L, hs with
    | [w0], _ => exact ⟨w0, rfl⟩
  have hw := fun d (hd : d ∈ tables_1) => atoms_spec (ws := Jvm.Cond.code x code maxLocals ret :: tables_1) hat d (List.mem_cons_of_mem _ hd)
  have hfit : Fit s := fun {y c} hc i hi => by
    obtain ⟨ha, rfl⟩ := Array.getElem?_eq_some_iff.mp hc
    have q := List.all_eq_true.mp ((Array.all_eq_true_iff_forall_mem.mp hF) _ (Array.getElem_mem ha)) i (List.mem_range.mpr hi)
    simpa [Array.getElem?_eq_getElem hi] using q
  obtain ⟨i0, ei0⟩ := is_v g0
  obtain rfl : w0 = (.int i0) := Option.some.inj ei0
  obtain ⟨n, o, h1, h2, h3, _, L, rfl, ⟨hv, N, -⟩, hq⟩ := rm0 l s _ hw tables_1 i0 s.heap s.heap.size (Nat.le_refl _)  p e ha hc hk s m _ below hf ((Spec.applies_iff_loose hf).mp happ).1 ⟨rfl, State.Warmed39.refl s, rfl⟩ trivial
  rw [own_ok] at hv
  subst hv
  refine ⟨n, _, h1, h2, h3, hpost _ _ _ _ _ _ ⟨Cond.after_iff.mpr rfl, Cond.after_iff.mpr (eq_i res_at (Term.int_eval (1)) rfl), trivial⟩ ⟨hq.1, hq.2.1, (hq.2.2.sift fun y hy => Or.inr (N y hy)).mono (by decide) (by decide)⟩⟩
theorem main_1_1 : Claimed_1_1 := own_comes fun _ _ _ _ _ _ h hF => ⟨h.1, hF⟩
theorem main_1_2 : Claimed_1_2 := own_comes fun _ _ _ _ _ _ h hF => ⟨h.2.1, hF⟩
end Jvm.Pilot.@@N@@
namespace Jvm.Pilot.@@N@@
open Jvm Jvm.ClassFile Sem Op Lib Jvm.Free Jvm.Stand Jvm.Pilot.@@N@@.Jvm.D
/-! MADE BY PROGRAM (witnessworld.py) out of the Statement's table words and the real class files: 9 classes; the members and pool entries that the words name. The judged class is class 1, her method 2. -/
namespace start1
open Jvm.ClassFile
def u (s : String) : CpInfo := .utf8 (stringToUtf16 s)
/-- a pool by its gaps: so many unusable entries, then the entry; so many at the end -/
def gap : Nat → List CpInfo → List CpInfo
  | 0, r => r
  | n + 1, r => .unusable :: gap n r
def poolList (es : List (Nat × CpInfo)) (last : Nat) : List CpInfo := es.foldr (fun e r => gap e.1 (e.2 :: r)) (gap last [])
def pool (es : List (Nat × CpInfo)) (last : Nat) : Array CpInfo := ⟨poolList es last⟩
def fileOf (pool : Array CpInfo) (this : Nat) (attrs : Array Attribute := #[]) (ms : Array MethodInfo := #[]) (fl : Nat := 33) (sup : Nat := 0) (ifs : Array Nat := #[]) (fds : Array FieldInfo := #[]) : ClassFile where
  minorVersion := 0
  majorVersion := 65
  constantPool := pool
  accessFlags := fl
  thisClass := this
  superClass := sup
  interfaces := ifs
  fields := fds
  methods := ms
  attributes := attrs
def plain (name : String) (sup : Option ClassId) : Class where
  name := name
  kind := .ordinary
  loader := none
  accessFlags := 33
  super := sup
  interfaces := #[]
  cf := none
  fields := #[]
  methods := #[]
  instanceTypes := #[]
  staticTypes := #[]
  resolved := #[]
  callSites := []
  init := .initialized
  statics := none
  mirror := none

def pool0 : Array CpInfo := pool [(5, u "<init>"), (0, u "()V"), (1, .class_ 10), (1, u "java/lang/Object")] 113

def k0m0 : Method := { name := "<init>", desc := "()V", sig := { parameters := [], returnType := none }, accessFlags := 1, code := none }
/-- java/lang/Object -/
def k0 : Class := { plain "java/lang/Object" none with
  accessFlags := 33
  interfaces := #[]
  cf := some (fileOf pool0 8 #[] #[{ accessFlags := 1, nameIndex := 5, descriptorIndex := 6, attributes := #[] }] 33 0 #[] #[])
  fields := #[]
  methods := #[k0m0]
  instanceTypes := #[]
  staticTypes := #[]
  resolved := Array.replicate 124 none
  statics := none }

def pool1 : Array CpInfo := pool [(2, .class_ 4), (1, u "java/lang/Object"), (0, u "<init>"), (0, u "()V"), (0, .long 287948901175001088), (1, .long 576460745995190270), (1, .methodref 12 13), (0, .class_ 14), (0, .nameAndType 15 16), (0, u "com/example/sedge/sedge/index/Schema"), (0, u "isFieldNameChar"), (0, u "(C)Z"), (0, .methodref 18 19), (0, .class_ 20), (0, .nameAndType 21 16), (0, u "com/example/sedge/sedge/index/SchemaIsFieldNameCharPinLaw"), (0, u "expected"), (3, u "law"), (0, u "(I)Z")] 2

def k1m0 : Method := { name := "<init>", desc := "()V", sig := { parameters := [], returnType := none }, accessFlags := 2, code := none }
def k1c1 : Code := { maxStack := 4, maxLocals := 1, code := method_2_code, exceptionTable := #[], attributes := #[] }
def k1m1 : Method := { name := "expected", desc := "(C)Z", sig := { parameters := [.char], returnType := some .boolean }, accessFlags := 10, code := some k1c1 }
def k1c2 : Code := { maxStack := 2, maxLocals := 2, code := code, exceptionTable := #[], attributes := #[] }
def k1m2 : Method := { name := "law", desc := "(I)Z", sig := { parameters := [.int], returnType := some .boolean }, accessFlags := 9, code := some k1c2 }
/-- com/example/sedge/sedge/index/SchemaIsFieldNameCharPinLaw -/
def k1 : Class := { plain "com/example/sedge/sedge/index/SchemaIsFieldNameCharPinLaw" (some 0) with
  accessFlags := 49
  interfaces := #[]
  cf := some (fileOf pool1 18 #[] #[{ accessFlags := 2, nameIndex := 5, descriptorIndex := 6, attributes := #[] }, { accessFlags := 10, nameIndex := 21, descriptorIndex := 16, attributes := #[] }, { accessFlags := 9, nameIndex := 25, descriptorIndex := 26, attributes := #[] }] 49 2 #[] #[])
  fields := #[]
  methods := #[k1m0, k1m1, k1m2]
  instanceTypes := #[]
  staticTypes := #[]
  resolved := Array.replicate 29 none
  statics := none }

def pool2 : Array CpInfo := pool [(2, .class_ 4), (1, u "java/lang/Object"), (3, .class_ 10), (1, u "com/example/sedge/sedge/index/Schema"), (0, u "key"), (0, u "Lcom/example/sedge/sedge/index/Schema$Field;"), (2, u "defaultField"), (2, u "fields"), (0, u "Ljava/util/Map;"), (14, u "numbered"), (0, u "Ljava/util/List;"), (115, .class_ 152), (0, u "com/example/sedge/sedge/index/Schema$Field"), (63, u "isFieldNameChar"), (0, u "(C)Z")] 186

def k2c0 : Code := { maxStack := 2, maxLocals := 1, code := prog_106_method_3_code, exceptionTable := #[], attributes := #[] }
def k2m0 : Method := { name := "isFieldNameChar", desc := "(C)Z", sig := { parameters := [.char], returnType := some .boolean }, accessFlags := 9, code := some k2c0 }
/-- com/example/sedge/sedge/index/Schema -/
def k2 : Class := { plain "com/example/sedge/sedge/index/Schema" (some 0) with
  accessFlags := 49
  interfaces := #[]
  cf := some (fileOf pool2 8 #[.nestMembers #[151]] #[{ accessFlags := 9, nameIndex := 216, descriptorIndex := 217, attributes := #[] }] 49 2 #[] #[{ accessFlags := 18, nameIndex := 11, descriptorIndex := 12, attributes := #[] }, { accessFlags := 18, nameIndex := 15, descriptorIndex := 12, attributes := #[] }, { accessFlags := 18, nameIndex := 18, descriptorIndex := 19, attributes := #[] }, { accessFlags := 18, nameIndex := 34, descriptorIndex := 35, attributes := #[] }])
  fields := #[{ name := "key", type := (.object "com/example/sedge/sedge/index/Schema$Field"), accessFlags := 18, slot := 0, constantValue := 0 }, { name := "defaultField", type := (.object "com/example/sedge/sedge/index/Schema$Field"), accessFlags := 18, slot := 1, constantValue := 0 }, { name := "fields", type := (.object "java/util/Map"), accessFlags := 18, slot := 2, constantValue := 0 }, { name := "numbered", type := (.object "java/util/List"), accessFlags := 18, slot := 3, constantValue := 0 }]
  methods := #[k2m0]
  instanceTypes := #[(.object "com/example/sedge/sedge/index/Schema$Field"), (.object "com/example/sedge/sedge/index/Schema$Field"), (.object "java/util/Map"), (.object "java/util/List")]
  staticTypes := #[]
  resolved := Array.replicate 404 none
  statics := none }

def pool3 : Array CpInfo := pool [(1, u "java/lang/Cloneable"), (0, .class_ 1), (0, u "java/lang/Object"), (0, .class_ 3)] 3

/-- java/lang/Cloneable -/
def k3 : Class := { plain "java/lang/Cloneable" (some 0) with
  accessFlags := 1537
  interfaces := #[]
  cf := some (fileOf pool3 2 #[] #[] 1537 4 #[] #[])
  fields := #[]
  methods := #[]
  instanceTypes := #[]
  staticTypes := #[]
  resolved := Array.replicate 8 none
  statics := none }

def pool4 : Array CpInfo := pool [(1, u "java/io/Serializable"), (0, .class_ 1), (0, u "java/lang/Object"), (0, .class_ 3)] 3

/-- java/io/Serializable -/
def k4 : Class := { plain "java/io/Serializable" (some 0) with
  accessFlags := 1537
  interfaces := #[]
  cf := some (fileOf pool4 2 #[] #[] 1537 4 #[] #[])
  fields := #[]
  methods := #[]
  instanceTypes := #[]
  staticTypes := #[]
  resolved := Array.replicate 8 none
  statics := none }

/-- the primitive byte -/
def k5 : Class := { plain "byte" none with kind := .primitive 'B', accessFlags := 0x411 }
/-- [B -/
def k6 : Class := { plain "[B" (some 0) with kind := .array 5 .byte, interfaces := #[3, 4], accessFlags := 1041 }

/-- the primitive int -/
def k7 : Class := { plain "int" none with kind := .primitive 'I', accessFlags := 0x411 }
/-- [I -/
def k8 : Class := { plain "[I" (some 0) with kind := .array 7 .int, interfaces := #[3, 4], accessFlags := 1041 }

def heap : Heap := #[]
def classes : Array Class := #[k0, k1, k2, k3, k4, k5, k6, k7, k8]
def interned : List (Array UInt16 × Addr) := []
def slotsUsed : Nat := 0
def theMethod : MethodId := ⟨1, 2⟩
def args0 : Array Value := #[.int 97]
def aboutOver (below : List Frame) : State where
  vm := { classes := classes, interned := interned.toArray }
  heap := heap
  slotsUsed := slotsUsed
  threads := #[{ frames := .invoking theMethod args0 :: below }]
def below0 : List Frame := [.native { method := ⟨0, 0⟩, args := #[] }]
def about1 : State := aboutOver below0
def p0 : Program := .bare "" "" ""
def e0 : Env := launch0.env 0 0 0
theorem w_frames : about1.frames = Frame.invoking theMethod args0 :: below0 := rfl
set_option maxRecDepth 65536 in
theorem w_args : argsFit about1.vm theMethod args0 = true := by decide +kernel
set_option maxRecDepth 65536 in
theorem w_heap : heapFits about1 = true := by decide +kernel
set_option maxRecDepth 65536 in
theorem w_runnable : about1.curStatus? = some .runnable := by decide +kernel
set_option maxRecDepth 65536 in
theorem w_alone : about1.alone = true := by decide +kernel
set_option maxRecDepth 65536 in
theorem w_named : about1.methodNamed? x = some theMethod := by decide +kernel
set_option maxRecDepth 65536 in
theorem w_hears : about1.hears theMethod below0 = true := by decide +kernel
set_option maxRecDepth 65536 in
theorem w_ripe : about1.ripe theMethod args0 below0 = true := by decide +kernel
theorem w_running : about1.status = .running := rfl
set_option maxRecDepth 65536 in
theorem w_room : about1.hasRoom e0.platform room_1 = true :=
  launch0.hasRoom_least _ room_1 (by decide +kernel) (by decide +kernel) (by decide +kernel) (by decide +kernel) (by decide +kernel) (by decide +kernel)
theorem allAtoms_all (ts : List Jvm.Cond) (a : Array Jvm.Value) (st : Jvm.State) : (allAtoms ts).before a st = ts.all (fun c => c.before a st) := by
  induction ts with
  | nil => rfl
  | cons c t ih =>
    show (Jvm.Cond.and c (allAtoms t)).before a st = _
    rw [Jvm.Cond.before_and, ih, List.all_cons]
def words1 : List Jvm.Cond := Jvm.Cond.code x code maxLocals ret :: tables_1
/-- a 'code' word, met by the world's own term for the bytes: nothing is compared byte by byte -/
theorem code_word {y : MethodName} {bytes : ByteArray} {mx : Nat} {rt : Option FieldType} {a : Array Value} {s : State} {m : MethodId} {meth : Method} {c : Code} (h1 : s.methodNamed? y = some m) (h2 : s.vm.method? m = some meth) (h3 : meth.code = some c) (h4 : c.code = bytes)
    (h5 : (c.maxLocals == mx && c.exceptionTable.isEmpty && decide (c.maxStack ≤ mostOperands) && decide (meth.sig.returnType = rt) && !meth.locks && decide (parseMethodDescriptor y.desc = some meth.sig)) = true) : (Jvm.Cond.code y bytes mx rt).before a s = true := by
  simp only [Bool.and_eq_true, beq_iff_eq, Bool.not_eq_true', decide_eq_true_eq] at h5
  obtain ⟨⟨⟨⟨⟨g1, g2⟩, g3⟩, g4⟩, g5⟩, g6⟩ := h5
  simp [Cond.before, Cond.holds, Cond.value, h1, h2, h3, h4, g1, g2, g3, g4, g5, g6]
def isCode : Jvm.Cond → Bool
  | .code _ _ _ _ => true
  | _ => false
theorem all_split {L : List Jvm.Cond} {P : Jvm.Cond → Bool} (h1 : L.all (fun c => isCode c || P c) = true) (h2 : ∀ c ∈ L.filter isCode, P c = true) : L.all P = true := by
  refine List.all_eq_true.mpr fun c hc => ?_
  have h := List.all_eq_true.mp h1 c hc
  rcases Bool.eq_false_or_eq_true (isCode c) with hi | hi
  · exact h2 c (List.mem_filter.mpr ⟨hc, hi⟩)
  · simpa [hi] using h
set_option maxRecDepth 65536 in
theorem w_c0 : (Jvm.Cond.code x code maxLocals ret).before args0 about1 = true := code_word (m := ⟨1, 2⟩) (meth := k1m2) (c := k1c2) (by decide +kernel) rfl rfl rfl (by decide +kernel)
set_option maxRecDepth 65536 in
theorem w_c1 : (Jvm.Cond.code ({ cls := "com/example/sedge/sedge/index/Schema", name := "isFieldNameChar", desc := "(C)Z" } : Jvm.MethodName) prog_106_method_3_code (1 : Nat) (Option.some Jvm.ClassFile.FieldType.boolean)).before args0 about1 = true := code_word (m := ⟨2, 0⟩) (meth := k2m0) (c := k2c0) (by decide +kernel) rfl rfl rfl (by decide +kernel)
set_option maxRecDepth 65536 in
theorem w_c2 : (Jvm.Cond.code ({ cls := "com/example/sedge/sedge/index/SchemaIsFieldNameCharPinLaw", name := "expected", desc := "(C)Z" } : Jvm.MethodName) method_2_code (1 : Nat) (Option.some Jvm.ClassFile.FieldType.boolean)).before args0 about1 = true := code_word (m := ⟨1, 1⟩) (meth := k1m1) (c := k1c1) (by decide +kernel) rfl rfl rfl (by decide +kernel)
def codes1 : List Jvm.Cond := [Jvm.Cond.code x code maxLocals ret, Jvm.Cond.code ({ cls := "com/example/sedge/sedge/index/Schema", name := "isFieldNameChar", desc := "(C)Z" } : Jvm.MethodName) prog_106_method_3_code (1 : Nat) (Option.some Jvm.ClassFile.FieldType.boolean), Jvm.Cond.code ({ cls := "com/example/sedge/sedge/index/SchemaIsFieldNameCharPinLaw", name := "expected", desc := "(C)Z" } : Jvm.MethodName) method_2_code (1 : Nat) (Option.some Jvm.ClassFile.FieldType.boolean)]
set_option maxRecDepth 65536 in
theorem codes_eq : words1.filter isCode = codes1 := rfl
theorem w_codes : ∀ c ∈ words1.filter isCode, c.before args0 about1 = true := by
  rw [codes_eq]
  intro c hc
  simp only [codes1, List.mem_cons, List.not_mem_nil, or_false] at hc
  rcases hc with rfl | rfl | rfl
  · exact w_c0
  · exact w_c1
  · exact w_c2
set_option maxRecDepth 65536 in
theorem w_t1 : words1.all (fun c => isCode c || c.before args0 about1) = true := by decide +kernel
theorem w_tables : (allAtoms (Jvm.Cond.code x code maxLocals ret :: tables_1)).before args0 about1 = true := by
  rw [allAtoms_all]
  show words1.all (fun c => c.before args0 about1) = true
  refine all_split ?_ w_codes
  rw [w_t1]
set_option maxRecDepth 65536 in
theorem w_case : (Jvm.Cond.and given_1 narrow_1).before args0 about1 = true := by decide +kernel
theorem w_applies : (headSpec (Jvm.Cond.code x code maxLocals ret :: tables_1) room_1).applies x e0.platform about1 = true :=
  (Spec.applies_iff w_frames).mpr ⟨w_running, w_runnable, w_alone, w_named, w_hears, w_ripe, w_room, w_tables⟩
theorem atStart : AtStart classFile x code maxLocals ret World_1 tables_1 room_1 Calls_1 rest_1 Pre_1 launch0 p0 e0 about1 theMethod args0 below0 :=
  ⟨lists_1, trivial, launch0.admits_env _ _ _, launch0.least_env, fairChoices_fair.cas, fairChoices_fair.clock, w_frames, w_args, w_heap, w_applies, trivial, trivial, w_case⟩
end start1
theorem witness_1 : WitnessClaimed_1 := ⟨start1.p0, start1.e0, start1.about1, start1.theMethod, start1.args0, start1.below0, start1.atStart⟩
end Jvm.Pilot.@@N@@

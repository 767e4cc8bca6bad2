import JvmDerived
import JvmDerived.Pilot.@@N@@Statement
import JvmDerived.Pilot.@@N@@Code
set_option linter.unusedVariables false
set_option linter.unusedSimpArgs false
@@BLOCK:NumsL.lean.txt@@
namespace Jvm.Pilot.@@N@@
open Jvm Jvm.ClassFile Sem Op Lib Jvm.Free Jvm.Stand Jvm.LawKit Jvm.RoadKit Bundle Jvm.Pilot.@@N@@.Jvm.D
section Own
variable {p : Program} {l : Launch} {e : Env} {R : Room} {s : State} {m : MethodId} {args : Array Value} {below : List Frame} {meth : Method} {c : Code} {T : State} {locs : List Loc} {cells slots : Nat}
/-- from t the invocation comes to its end, and F holds there -/
def own_Ends (p : Program) (e : Env) (below : List Frame) (F : State → Outcome → Prop) (t : State) : Prop := ∃ s₂ o, Steps p.tables e below t s₂ ∧ s₂.status = .running ∧ Ended s₂ below o ∧ F s₂ o
theorem own_pre {F : State → Outcome → Prop} {t t' : State} (k : ∀ u, Steps p.tables e below t' u → Steps p.tables e below t u) (h : own_Ends p e below F t') : own_Ends p e below F t := by
  obtain ⟨s₂, o, h1, h2⟩ := h
  exact ⟨s₂, o, k _ h1, h2⟩
/-- what is asked of the end: G of the value, the heap and the places written; the frame -/
def own_Fin (s : State) (G : Option Value → Heap → List Loc → Prop) (C S : Nat) (s₂ : State) (o : Outcome) : Prop := ∃ v L, o = .returned v ∧ G v s₂.heap L ∧ FrameEnd s o s₂ L C S
theorem own_out (X : Stand p l e R s m args below meth c T locs cells slots) {v : Option Value} (hv : meth.sig.returnType = none → v = none) (hlk : meth.locks = false) {g : JFrame} {G : Option Value → Heap → List Loc → Prop} {C S : Nat} {h : Heap} (eT : T.heap = h) (hG : G v h locs) (hC : cells ≤ C) (hS : slots ≤ S)
    (st : ∀ fs, (∀ (f : JFrame) (acts : List Action), f.method = m → f.locked = none → f.entered = [] → (doReturn e (T.setTop f) acts v).1 = T.setFrames fs) → Steps p.tables e below (T.setTop g) (T.setFrames fs)) : own_Ends p e below (own_Fin s G C S) (T.setTop g) := by
  obtain ⟨fs, hr, hrun, hended, hW, hsame⟩ := X.leave (v := v) hv hlk
  subst eT
  exact ⟨_, _, st fs hr, hrun, hended, v, locs, rfl, hG, ⟨_, rfl⟩, hW, hsame.mono hC hS⟩
theorem own_retN (X : Stand p l e R s m args below meth c T locs cells slots) (hx : p.tables.exec = Jvm.exec) {pc : Nat} {Ls : Array Slot} {z z' : Int32} {t : FieldType} {rest : List Value} (hret : meth.sig.returnType = some t) (ht : t = .boolean ∨ t = .byte ∨ t = .char ∨ t = .short) (hd : decode c.code pc = .ok (.ireturn, 1)) (hlk : meth.locks = false) (hz : nar t z = z')
    {G : Option Value → Heap → List Loc → Prop} {C S : Nat} {h : Heap} (eT : T.heap = h) (hG : G (some (.int z')) h locs) (hC : cells ≤ C) (hS : slots ≤ S) : own_Ends p e below (own_Fin s G C S) (T.setTop (mkF m pc Ls (.int z :: rest))) := by
  subst hz
  exact own_out X (fun h => by rw [hret] at h; cases h) hlk eT hG hC hS (fun fs hr => retN X hx hret ht hd hr)
theorem own_retI (X : Stand p l e R s m args below meth c T locs cells slots) (hx : p.tables.exec = Jvm.exec) {pc : Nat} {Ls : Array Slot} {z : Int32} {rest : List Value} (hret : meth.sig.returnType = some .int) (hd : decode c.code pc = .ok (.ireturn, 1)) (hlk : meth.locks = false)
    {G : Option Value → Heap → List Loc → Prop} {C S : Nat} {h : Heap} (eT : T.heap = h) (hG : G (some (.int z)) h locs) (hC : cells ≤ C) (hS : slots ≤ S) : own_Ends p e below (own_Fin s G C S) (T.setTop (mkF m pc Ls (.int z :: rest))) :=
  own_out X (fun h => by rw [hret] at h; cases h) hlk eT hG hC hS (fun fs hr => retOut X hx hret rfl (Or.inl ⟨rfl, Or.inl rfl, _, rfl⟩) hd hr)
theorem own_retJ (X : Stand p l e R s m args below meth c T locs cells slots) (hx : p.tables.exec = Jvm.exec) {pc : Nat} {Ls : Array Slot} {z : Int64} {rest : List Value} (hret : meth.sig.returnType = some .long) (hd : decode c.code pc = .ok (.lreturn, 1)) (hlk : meth.locks = false)
    {G : Option Value → Heap → List Loc → Prop} {C S : Nat} {h : Heap} (eT : T.heap = h) (hG : G (some (.long z)) h locs) (hC : cells ≤ C) (hS : slots ≤ S) : own_Ends p e below (own_Fin s G C S) (T.setTop (mkF m pc Ls (.long z :: rest))) :=
  own_out X (fun h => by rw [hret] at h; cases h) hlk eT hG hC hS (fun fs hr => retOut X hx hret rfl (Or.inr (Or.inl ⟨rfl, rfl, _, rfl⟩)) hd hr)
theorem own_retR (X : Stand p l e R s m args below meth c T locs cells slots) (hx : p.tables.exec = Jvm.exec) {pc : Nat} {Ls : Array Slot} {a : Addr} {t : FieldType} {rest : List Value} (hret : meth.sig.returnType = some t) (ht : t.isReference = true) (hd : decode c.code pc = .ok (.areturn, 1)) (hlk : meth.locks = false)
    {G : Option Value → Heap → List Loc → Prop} {C S : Nat} {h : Heap} (eT : T.heap = h) (hG : G (some (.ref a)) h locs) (hC : cells ≤ C) (hS : slots ≤ S) : own_Ends p e below (own_Fin s G C S) (T.setTop (mkF m pc Ls (.ref a :: rest))) :=
  own_out X (fun h => by rw [hret] at h; cases h) hlk eT hG hC hS (fun fs hr => retOut X hx hret (by cases t <;> first | rfl | (simp [FieldType.isReference] at ht)) (Or.inr (Or.inr (Or.inr (Or.inr ⟨rfl, ht, rfl⟩)))) hd hr)
theorem own_retV (X : Stand p l e R s m args below meth c T locs cells slots) (hx : p.tables.exec = Jvm.exec) {pc : Nat} {Ls : Array Slot} (hret : meth.sig.returnType = none) (hd : decode c.code pc = .ok (.return_, 1)) (hlk : meth.locks = false)
    {G : Option Value → Heap → List Loc → Prop} {C S : Nat} {h : Heap} (eT : T.heap = h) (hG : G none h locs) (hC : cells ≤ C) (hS : slots ≤ S) : own_Ends p e below (own_Fin s G C S) (T.setTop (mkF m pc Ls [])) :=
  own_out X (fun _ => rfl) hlk eT hG hC hS (fun fs hr => X.returnOut hx hret hd hr)
theorem own_len (X : Stand p l e R s m args below meth c T locs cells slots) (hx : p.tables.exec = Jvm.exec) {h : Heap} (eT : T.heap = h) {Z : State} (hZ : Z.Warmed39 s.vm) {a : Addr} {cl : Cell} {ty : FieldType} {z : Int32} (A : Arr Z h a cl ty) (S : cl.slots.size = z.toNatClampNeg) (M : ¬ z < 0)
    {g : JFrame} (hg : g.method = m) {rest : List Value} (hs : g.stack = .ref a :: rest) (hd : decode c.code g.pc = .ok (.arraylength, 1)) {target : State} (k : Steps p.tables e below (T.setTop { g with pc := g.pc + 1, stack := .int z :: rest }) target) : Steps p.tables e below (T.setTop g) target := by
  refine X.arraylength hx (by rw [eT]; exact A.1) (State.isArrayOf_alike hZ.alike A.2.1) hg hs hd _ ?_
  rw [len_of S M]
  exact k
theorem own_setAny {Z : State} {h h' : Heap} {a : Addr} {cl : Cell} {k : ClassId} {ty : FieldType} {z : Int32} {vs : List Value} {dv v : Value} {j : Nat} (A : Arr Z h a cl ty) (q1 : cl.cls = k) (S : cl.slots.size = z.toNatClampNeg) (q3 : ¬ z < 0) (H : Has cl vs dv) (G : ∀ i, i < cl.slots.size → fits ty (vs.getD i dv) = true) (hv : fits ty v = true) (W : Wr h h' a j v) : ∃ vs', Arv Z h' a k ty z vs' dv := by
  have E : ∀ x, x < (cl.setSlot j v).slots.size → (cl.setSlot j v).slots[x]? = some ((cl.setSlot j v).slots.toList.getD x dv) := fun x hx => by
    rw [List.getD_eq_getElem?_getD, Array.getElem?_toList, Array.getElem?_eq_getElem hx]; rfl
  refine ⟨(cl.setSlot j v).slots.toList, _, A.same W, q1, by rw [sz_set]; exact S, q3, E, fun x hx => ?_⟩
  have hx' := hx
  rw [sz_set] at hx'
  have e1 := E x hx
  by_cases u : j = x
  · subst u
    have : (cl.setSlot j v).slots[j]? = some v := by simp [Cell.setSlot, hx']
    rw [this] at e1
    rw [← Option.some.inj e1]; exact hv
  · have : (cl.setSlot j v).slots[x]? = cl.slots[x]? := by simp [Cell.setSlot, Array.getElem?_setIfInBounds_ne u]
    rw [this, H x hx'] at e1
    rw [← Option.some.inj e1]; exact G x hx'
theorem own_staK {Z : State} {h h' : Heap} {a : Addr} {C n d D : String} {v : Value} (F : Sta Z h C n d v) (K : Keep h h' [a]) (E : Exa Z h a D) : Sta Z h' C n d v := by
  obtain ⟨cf, i, k, f, st, cell, h1, h2, h3, h4, h5, h6, h7⟩ := F
  obtain ⟨cl, kc, g1, -, -, g4, -⟩ := E
  have ne : st ≠ a := fun q => by subst q; cases h5.symm.trans g1; rw [h6] at g4; cases g4
  exact ⟨cf, i, k, f, st, cell, h1, h2, h3, h4, K.2.1 st cell h5 (ninS ne nin0), h6, h7⟩
theorem own_staK0 {Z : State} {h h' : Heap} {C n d : String} {v : Value} (F : Sta Z h C n d v) (K : Keep h h' []) : Sta Z h' C n d v := by
  obtain ⟨cf, i, k, f, st, cell, h1, h2, h3, h4, h5, h6, h7⟩ := F
  exact ⟨cf, i, k, f, st, cell, h1, h2, h3, h4, K.2.1 st cell h5 nin0, h6, h7⟩
theorem own_selP {Z : State} {a0 : Array Value} {y : MethodName} {kk : Nat} (hZ : Z.Warmed39 s.vm) (wi : (Cond.instantiable y.cls kk).before a0 Z = true) (wp : (Cond.privateMethod y).before a0 Z = true) (wm : (Cond.instanceMethod y).before a0 Z = true) (hy : y.cls ≠ "java/lang/invoke/MethodHandle" ∧ y.cls ≠ "java/lang/invoke/VarHandle") : (Cond.selects y.cls y y).before args s = true := by
  have wi' : (Cond.instantiable y.cls kk).before args s = true := mvT hZ wi
  obtain ⟨c', k', h1, h2, -, h4, -⟩ := Cond.instantiable_spec wi'
  have h5 : k'.isInterface = false := by
    cases q : k'.isInterface with
    | false => rfl
    | true => rw [q] at h4; simp at h4
  exact selects_self_of_private h1 h2 h5 (Cond.privateMethod_at (mvP hZ wp (args := args))) (mvT hZ wm) hy
/-- what lcmp pushes; the unsigned shifts -/
def own_cmpL (x y : Int64) : Int32 := if x > y then 1 else if x = y then 0 else -1
def own_ushr (x y : Int32) : Int32 := (x.toUInt32 >>> (y &&& 31).toUInt32).toInt32
def own_ushrL (x : Int64) (y : Int32) : Int64 := (x.toUInt64 >>> (y &&& 0x3f).toInt64.toUInt64).toInt64
theorem own_clt (x y : Int64) : own_cmpL x y < 0 ↔ x < y := lw_lt x y
theorem own_cgt (x y : Int64) : 0 < own_cmpL x y ↔ y < x := lw_gt x y
theorem own_ceq (x y : Int64) : own_cmpL x y = 0 ↔ x = y := lw_eq x y
end Own
theorem own_d4_0 : decode jdk_33_method_47_code 0 = .ok (.iload_n 0, 1) := by decide +kernel
theorem own_d4_1 : decode jdk_33_method_47_code 1 = .ok (.ifCond .gt 14, 3) := by decide +kernel
theorem own_d4_4 : decode jdk_33_method_47_code 4 = .ok (.iload_n 0, 1) := by decide +kernel
theorem own_d4_5 : decode jdk_33_method_47_code 5 = .ok (.ifCond .ne 8, 3) := by decide +kernel
theorem own_d4_8 : decode jdk_33_method_47_code 8 = .ok (.bipush 32, 2) := by decide +kernel
theorem own_d4_10 : decode jdk_33_method_47_code 10 = .ok (.goto 4, 3) := by decide +kernel
theorem own_d4_13 : decode jdk_33_method_47_code 13 = .ok (.iconst 0, 1) := by decide +kernel
theorem own_d4_14 : decode jdk_33_method_47_code 14 = .ok (.ireturn, 1) := by decide +kernel
theorem own_d4_15 : decode jdk_33_method_47_code 15 = .ok (.bipush 31, 2) := by decide +kernel
theorem own_d4_17 : decode jdk_33_method_47_code 17 = .ok (.istore_n 1, 1) := by decide +kernel
theorem own_d4_18 : decode jdk_33_method_47_code 18 = .ok (.iload_n 0, 1) := by decide +kernel
theorem own_d4_19 : decode jdk_33_method_47_code 19 = .ok (.ldc_w 264, 3) := by decide +kernel
theorem own_d4_22 : decode jdk_33_method_47_code 22 = .ok (.if_icmp .lt 11, 3) := by decide +kernel
theorem own_d4_25 : decode jdk_33_method_47_code 25 = .ok (.iinc 1 (-16), 3) := by decide +kernel
theorem own_d4_28 : decode jdk_33_method_47_code 28 = .ok (.iload_n 0, 1) := by decide +kernel
theorem own_d4_29 : decode jdk_33_method_47_code 29 = .ok (.bipush 16, 2) := by decide +kernel
theorem own_d4_31 : decode jdk_33_method_47_code 31 = .ok (.iushr, 1) := by decide +kernel
theorem own_d4_32 : decode jdk_33_method_47_code 32 = .ok (.istore_n 0, 1) := by decide +kernel
theorem own_d4_33 : decode jdk_33_method_47_code 33 = .ok (.iload_n 0, 1) := by decide +kernel
theorem own_d4_34 : decode jdk_33_method_47_code 34 = .ok (.sipush 256, 3) := by decide +kernel
theorem own_d4_37 : decode jdk_33_method_47_code 37 = .ok (.if_icmp .lt 11, 3) := by decide +kernel
theorem own_d4_40 : decode jdk_33_method_47_code 40 = .ok (.iinc 1 (-8), 3) := by decide +kernel
theorem own_d4_43 : decode jdk_33_method_47_code 43 = .ok (.iload_n 0, 1) := by decide +kernel
theorem own_d4_44 : decode jdk_33_method_47_code 44 = .ok (.bipush 8, 2) := by decide +kernel
theorem own_d4_46 : decode jdk_33_method_47_code 46 = .ok (.iushr, 1) := by decide +kernel
theorem own_d4_47 : decode jdk_33_method_47_code 47 = .ok (.istore_n 0, 1) := by decide +kernel
theorem own_d4_48 : decode jdk_33_method_47_code 48 = .ok (.iload_n 0, 1) := by decide +kernel
theorem own_d4_49 : decode jdk_33_method_47_code 49 = .ok (.bipush 16, 2) := by decide +kernel
theorem own_d4_51 : decode jdk_33_method_47_code 51 = .ok (.if_icmp .lt 10, 3) := by decide +kernel
theorem own_d4_54 : decode jdk_33_method_47_code 54 = .ok (.iinc 1 (-4), 3) := by decide +kernel
theorem own_d4_57 : decode jdk_33_method_47_code 57 = .ok (.iload_n 0, 1) := by decide +kernel
theorem own_d4_58 : decode jdk_33_method_47_code 58 = .ok (.iconst 4, 1) := by decide +kernel
theorem own_d4_59 : decode jdk_33_method_47_code 59 = .ok (.iushr, 1) := by decide +kernel
theorem own_d4_60 : decode jdk_33_method_47_code 60 = .ok (.istore_n 0, 1) := by decide +kernel
theorem own_d4_61 : decode jdk_33_method_47_code 61 = .ok (.iload_n 0, 1) := by decide +kernel
theorem own_d4_62 : decode jdk_33_method_47_code 62 = .ok (.iconst 4, 1) := by decide +kernel
theorem own_d4_63 : decode jdk_33_method_47_code 63 = .ok (.if_icmp .lt 10, 3) := by decide +kernel
theorem own_d4_66 : decode jdk_33_method_47_code 66 = .ok (.iinc 1 (-2), 3) := by decide +kernel
theorem own_d4_69 : decode jdk_33_method_47_code 69 = .ok (.iload_n 0, 1) := by decide +kernel
theorem own_d4_70 : decode jdk_33_method_47_code 70 = .ok (.iconst 2, 1) := by decide +kernel
theorem own_d4_71 : decode jdk_33_method_47_code 71 = .ok (.iushr, 1) := by decide +kernel
theorem own_d4_72 : decode jdk_33_method_47_code 72 = .ok (.istore_n 0, 1) := by decide +kernel
theorem own_d4_73 : decode jdk_33_method_47_code 73 = .ok (.iload_n 1, 1) := by decide +kernel
theorem own_d4_74 : decode jdk_33_method_47_code 74 = .ok (.iload_n 0, 1) := by decide +kernel
theorem own_d4_75 : decode jdk_33_method_47_code 75 = .ok (.iconst 1, 1) := by decide +kernel
theorem own_d4_76 : decode jdk_33_method_47_code 76 = .ok (.iushr, 1) := by decide +kernel
theorem own_d4_77 : decode jdk_33_method_47_code 77 = .ok (.isub, 1) := by decide +kernel
theorem own_d4_78 : decode jdk_33_method_47_code 78 = .ok (.ireturn, 1) := by decide +kernel
def own_nlz_61 (u0 : Int32) (u1 : Int32) : Int32 := if u0 < (4 : Int32) then (u1 - (own_ushr u0 (1 : Int32))) else ((u1 + (-2 : Int32)) - (own_ushr (own_ushr u0 (2 : Int32)) (1 : Int32)))
def own_nlz_48 (u0 : Int32) (u1 : Int32) : Int32 := if u0 < (16 : Int32) then (own_nlz_61 u0 u1) else (own_nlz_61 (own_ushr u0 (4 : Int32)) (u1 + (-4 : Int32)))
def own_nlz_33 (u0 : Int32) (u1 : Int32) : Int32 := if u0 < (256 : Int32) then (own_nlz_48 u0 u1) else (own_nlz_48 (own_ushr u0 (8 : Int32)) (u1 + (-8 : Int32)))
def own_nlz (p0 : Int32) : Int32 := if (0 : Int32) < p0 then (if p0 < (65536 : Int32) then (own_nlz_33 p0 (31 : Int32)) else (own_nlz_33 (own_ushr p0 (16 : Int32)) ((31 : Int32) + (-16 : Int32)))) else (if p0 = (0 : Int32) then (32 : Int32) else (0 : Int32))
theorem own_pn0 : plainName "java/lang/Integer" = true := by first | (simp [plainName, overriddenIn]; done) | decide +kernel
theorem own_ef_rm1 (m : MethodId) (x0 : Int32) : entryFrame m #[(.int x0)] 2 = mkF m 0 #[.val (.int x0), .unset] [] := by first | (simp [entryFrame, mkF, argsToLocals, Value.category]; done) | rfl
def own_Q_rm1 (Z : State) (p0 : Int32) (h0 : Heap) (n0 : Nat) (v : Option Value) (h : Heap) (L : List Loc) : Prop := v = some (.int (own_nlz p0)) ∧ Fr n0 L ∧ h = h0
set_option maxRecDepth 65536 in
set_option maxHeartbeats 40000000 in
theorem rm1 (l : Launch) (Z : State) (a0 : Array Value) (hw : ∀ d ∈ tables_1, d.before a0 Z = true) (ws : List Jvm.Cond) (p0 : Int32) (h0 : Heap) (n0 : Nat) (Z0 : n0 ≤ h0.size) :
    MetFree l (⟨"java/lang/Integer", "numberOfLeadingZeros", "(I)I"⟩ : MethodName) (head1 (Jvm.Cond.code (⟨"java/lang/Integer", "numberOfLeadingZeros", "(I)I"⟩ : MethodName) jdk_33_method_47_code 2 (some .int) :: ws) ({ frames := 0, cells := 0, slots := 0, locals := 0 } : Room)) (fun a U => a = #[(.int p0)] ∧ Z.Warmed39 U.vm ∧ U.heap = h0) (fun _ _ _ _ _ => True) (fun _ U o U' => ∃ v L, o = .returned v ∧ (own_Q_rm1 Z p0 h0 n0) v U'.heap L ∧ FrameEnd U o U' L ({ frames := 0, cells := 0, slots := 0, locals := 0 } : Room).cells ({ frames := 0, cells := 0, slots := 0, locals := 0 } : Room).slots) := by
  refine MetFree.of_bodySF (plainFor_of_name own_pn0) hisR ?_
  intro p e s m args below meth c s₁ Bd hml0 hP hK
  obtain ⟨rfl, hZ, hh⟩ := hP
  have hx := Bd.exec
  have hby := Bd.bytes
  have hml : c.maxLocals = 2 := hml0
  have hown : s.vm.findClass "java/lang/Integer" = some m.cls := findClass_of_methodNamed Bd.named
  have hnm := (name_of_methodNamed Bd.named Bd.method).1
  have hlk : meth.locks = false := BodyLoose.notSynchronized Bd
  have X0 : Stand p l e ({ frames := 0, cells := 0, slots := 0, locals := 0 } : Room) s m #[(.int p0)] below meth c s₁ [] 0 0 := Stand.of_body Bd
  have e0 : s₁.heap = h0 := by rw [← hh, Bd.state]; rfl
  have N0 := Fr.nil n0
  show own_Ends p e below (own_Fin s (own_Q_rm1 Z p0 h0 n0) ({ frames := 0, cells := 0, slots := 0, locals := 0 } : Room).cells ({ frames := 0, cells := 0, slots := 0, locals := 0 } : Room).slots) _
  refine own_pre (fun t k => castTop (own_ef_rm1 m p0) k) ?_
  have J61 : ∀ (TT : State) (LL : List Loc) (XX : Stand p l e ({ frames := 0, cells := 0, slots := 0, locals := 0 } : Room) s m #[(.int p0)] below meth c TT LL 0 0) (eT : TT.heap = h0) (NN : Fr n0 LL) (u0 : Int32) (u1 : Int32) (G : Option Value → Heap → List Loc → Prop) (hG : ∀ L, Fr n0 L → G (some (.int (own_nlz_61 u0 u1))) h0 L), own_Ends p e below (own_Fin s G ({ frames := 0, cells := 0, slots := 0, locals := 0 } : Room).cells ({ frames := 0, cells := 0, slots := 0, locals := 0 } : Room).slots) (TT.setTop (mkF m 61 #[.val (.int u0), .val (.int u1)] [])) := by
    intro TT LL XX eT NN u0 u1 G hG
    have hG : ∀ L, Fr n0 L → G (some (.int (if u0 < (4 : Int32) then (u1 - (own_ushr u0 (1 : Int32))) else ((u1 + (-2 : Int32)) - (own_ushr (own_ushr u0 (2 : Int32)) (1 : Int32)))))) h0 L := hG
    show own_Ends _ _ _ _ (TT.setTop (mkF m 61 #[.val (.int u0), .val (.int u1)] []))
    refine own_pre (fun t k => XS.iloadN XX.here hx rfl (hb hby own_d4_61) rfl k) ?_
    show own_Ends _ _ _ _ (TT.setTop (mkF m 62 #[.val (.int u0), .val (.int u1)] [(.int u0)]))
    refine own_pre (fun t k => XS.iconst XX.here hx rfl (hb hby own_d4_62) k) ?_
    show own_Ends _ _ _ _ (TT.setTop (mkF m 63 #[.val (.int u0), .val (.int u1)] [(.int (4 : Int32)), (.int u0)]))
    by_cases hc1 : u0 < (4 : Int32)
    · skip
      rw [if_pos hc1] at hG
      refine own_pre (fun t k => XS.icmpYes XX.here hx rfl (pc0 := 63) (pc' := 73) rfl (hb hby own_d4_63) rfl (tlt hc1).1 (by decide) (by decide) k) ?_
      show own_Ends _ _ _ _ (TT.setTop (mkF m 73 #[.val (.int u0), .val (.int u1)] []))
      refine own_pre (fun t k => XS.iloadN XX.here hx rfl (hb hby own_d4_73) rfl k) ?_
      show own_Ends _ _ _ _ (TT.setTop (mkF m 74 #[.val (.int u0), .val (.int u1)] [(.int u1)]))
      refine own_pre (fun t k => XS.iloadN XX.here hx rfl (hb hby own_d4_74) rfl k) ?_
      show own_Ends _ _ _ _ (TT.setTop (mkF m 75 #[.val (.int u0), .val (.int u1)] [(.int u0), (.int u1)]))
      refine own_pre (fun t k => XS.iconst XX.here hx rfl (hb hby own_d4_75) k) ?_
      show own_Ends _ _ _ _ (TT.setTop (mkF m 76 #[.val (.int u0), .val (.int u1)] [(.int (1 : Int32)), (.int u0), (.int u1)]))
      refine own_pre (fun t k => XS.iushr XX.here hx rfl (hb hby own_d4_76) rfl k) ?_
      show own_Ends _ _ _ _ (TT.setTop (mkF m 77 #[.val (.int u0), .val (.int u1)] [(.int (own_ushr u0 (1 : Int32))), (.int u1)]))
      refine own_pre (fun t k => XS.isub XX.here hx rfl (hb hby own_d4_77) rfl k) ?_
      show own_Ends _ _ _ _ (TT.setTop (mkF m 78 #[.val (.int u0), .val (.int u1)] [(.int (u1 - (own_ushr u0 (1 : Int32))))]))
      exact own_retI XX hx Bd.returns (hb hby own_d4_78) hlk eT (hG _ NN) (by decide) (by decide)
    · skip
      rw [if_neg hc1] at hG
      refine own_pre (fun t k => XS.icmpNo XX.here hx rfl (hb hby own_d4_63) rfl (flt hc1).1 k) ?_
      show own_Ends _ _ _ _ (TT.setTop (mkF m 66 #[.val (.int u0), .val (.int u1)] []))
      refine own_pre (fun t k => XS.iinc XX.here hx rfl (hb hby own_d4_66) rfl (l' := #[.val (.int u0), .val (.int (u1 + (-2 : Int32)))]) rfl k) ?_
      show own_Ends _ _ _ _ (TT.setTop (mkF m 69 #[.val (.int u0), .val (.int (u1 + (-2 : Int32)))] []))
      refine own_pre (fun t k => XS.iloadN XX.here hx rfl (hb hby own_d4_69) rfl k) ?_
      show own_Ends _ _ _ _ (TT.setTop (mkF m 70 #[.val (.int u0), .val (.int (u1 + (-2 : Int32)))] [(.int u0)]))
      refine own_pre (fun t k => XS.iconst XX.here hx rfl (hb hby own_d4_70) k) ?_
      show own_Ends _ _ _ _ (TT.setTop (mkF m 71 #[.val (.int u0), .val (.int (u1 + (-2 : Int32)))] [(.int (2 : Int32)), (.int u0)]))
      refine own_pre (fun t k => XS.iushr XX.here hx rfl (hb hby own_d4_71) rfl k) ?_
      show own_Ends _ _ _ _ (TT.setTop (mkF m 72 #[.val (.int u0), .val (.int (u1 + (-2 : Int32)))] [(.int (own_ushr u0 (2 : Int32)))]))
      refine own_pre (fun t k => XS.istoreN XX.here hx rfl (hb hby own_d4_72) rfl (l' := #[.val (.int (own_ushr u0 (2 : Int32))), .val (.int (u1 + (-2 : Int32)))]) rfl k) ?_
      show own_Ends _ _ _ _ (TT.setTop (mkF m 73 #[.val (.int (own_ushr u0 (2 : Int32))), .val (.int (u1 + (-2 : Int32)))] []))
      refine own_pre (fun t k => XS.iloadN XX.here hx rfl (hb hby own_d4_73) rfl k) ?_
      show own_Ends _ _ _ _ (TT.setTop (mkF m 74 #[.val (.int (own_ushr u0 (2 : Int32))), .val (.int (u1 + (-2 : Int32)))] [(.int (u1 + (-2 : Int32)))]))
      refine own_pre (fun t k => XS.iloadN XX.here hx rfl (hb hby own_d4_74) rfl k) ?_
      show own_Ends _ _ _ _ (TT.setTop (mkF m 75 #[.val (.int (own_ushr u0 (2 : Int32))), .val (.int (u1 + (-2 : Int32)))] [(.int (own_ushr u0 (2 : Int32))), (.int (u1 + (-2 : Int32)))]))
      refine own_pre (fun t k => XS.iconst XX.here hx rfl (hb hby own_d4_75) k) ?_
      show own_Ends _ _ _ _ (TT.setTop (mkF m 76 #[.val (.int (own_ushr u0 (2 : Int32))), .val (.int (u1 + (-2 : Int32)))] [(.int (1 : Int32)), (.int (own_ushr u0 (2 : Int32))), (.int (u1 + (-2 : Int32)))]))
      refine own_pre (fun t k => XS.iushr XX.here hx rfl (hb hby own_d4_76) rfl k) ?_
      show own_Ends _ _ _ _ (TT.setTop (mkF m 77 #[.val (.int (own_ushr u0 (2 : Int32))), .val (.int (u1 + (-2 : Int32)))] [(.int (own_ushr (own_ushr u0 (2 : Int32)) (1 : Int32))), (.int (u1 + (-2 : Int32)))]))
      refine own_pre (fun t k => XS.isub XX.here hx rfl (hb hby own_d4_77) rfl k) ?_
      show own_Ends _ _ _ _ (TT.setTop (mkF m 78 #[.val (.int (own_ushr u0 (2 : Int32))), .val (.int (u1 + (-2 : Int32)))] [(.int ((u1 + (-2 : Int32)) - (own_ushr (own_ushr u0 (2 : Int32)) (1 : Int32))))]))
      exact own_retI XX hx Bd.returns (hb hby own_d4_78) hlk eT (hG _ NN) (by decide) (by decide)
  have J48 : ∀ (TT : State) (LL : List Loc) (XX : Stand p l e ({ frames := 0, cells := 0, slots := 0, locals := 0 } : Room) s m #[(.int p0)] below meth c TT LL 0 0) (eT : TT.heap = h0) (NN : Fr n0 LL) (u0 : Int32) (u1 : Int32) (G : Option Value → Heap → List Loc → Prop) (hG : ∀ L, Fr n0 L → G (some (.int (own_nlz_48 u0 u1))) h0 L), own_Ends p e below (own_Fin s G ({ frames := 0, cells := 0, slots := 0, locals := 0 } : Room).cells ({ frames := 0, cells := 0, slots := 0, locals := 0 } : Room).slots) (TT.setTop (mkF m 48 #[.val (.int u0), .val (.int u1)] [])) := by
    intro TT LL XX eT NN u0 u1 G hG
    have hG : ∀ L, Fr n0 L → G (some (.int (if u0 < (16 : Int32) then (own_nlz_61 u0 u1) else (own_nlz_61 (own_ushr u0 (4 : Int32)) (u1 + (-4 : Int32)))))) h0 L := hG
    show own_Ends _ _ _ _ (TT.setTop (mkF m 48 #[.val (.int u0), .val (.int u1)] []))
    refine own_pre (fun t k => XS.iloadN XX.here hx rfl (hb hby own_d4_48) rfl k) ?_
    show own_Ends _ _ _ _ (TT.setTop (mkF m 49 #[.val (.int u0), .val (.int u1)] [(.int u0)]))
    refine own_pre (fun t k => XS.bipush XX.here hx rfl (hb hby own_d4_49) k) ?_
    show own_Ends _ _ _ _ (TT.setTop (mkF m 51 #[.val (.int u0), .val (.int u1)] [(.int (16 : Int32)), (.int u0)]))
    by_cases hc2 : u0 < (16 : Int32)
    · skip
      rw [if_pos hc2] at hG
      refine own_pre (fun t k => XS.icmpYes XX.here hx rfl (pc0 := 51) (pc' := 61) rfl (hb hby own_d4_51) rfl (tlt hc2).1 (by decide) (by decide) k) ?_
      show own_Ends _ _ _ _ (TT.setTop (mkF m 61 #[.val (.int u0), .val (.int u1)] []))
      exact J61 _ _ XX eT NN u0 u1 _ hG
    · skip
      rw [if_neg hc2] at hG
      refine own_pre (fun t k => XS.icmpNo XX.here hx rfl (hb hby own_d4_51) rfl (flt hc2).1 k) ?_
      show own_Ends _ _ _ _ (TT.setTop (mkF m 54 #[.val (.int u0), .val (.int u1)] []))
      refine own_pre (fun t k => XS.iinc XX.here hx rfl (hb hby own_d4_54) rfl (l' := #[.val (.int u0), .val (.int (u1 + (-4 : Int32)))]) rfl k) ?_
      show own_Ends _ _ _ _ (TT.setTop (mkF m 57 #[.val (.int u0), .val (.int (u1 + (-4 : Int32)))] []))
      refine own_pre (fun t k => XS.iloadN XX.here hx rfl (hb hby own_d4_57) rfl k) ?_
      show own_Ends _ _ _ _ (TT.setTop (mkF m 58 #[.val (.int u0), .val (.int (u1 + (-4 : Int32)))] [(.int u0)]))
      refine own_pre (fun t k => XS.iconst XX.here hx rfl (hb hby own_d4_58) k) ?_
      show own_Ends _ _ _ _ (TT.setTop (mkF m 59 #[.val (.int u0), .val (.int (u1 + (-4 : Int32)))] [(.int (4 : Int32)), (.int u0)]))
      refine own_pre (fun t k => XS.iushr XX.here hx rfl (hb hby own_d4_59) rfl k) ?_
      show own_Ends _ _ _ _ (TT.setTop (mkF m 60 #[.val (.int u0), .val (.int (u1 + (-4 : Int32)))] [(.int (own_ushr u0 (4 : Int32)))]))
      refine own_pre (fun t k => XS.istoreN XX.here hx rfl (hb hby own_d4_60) rfl (l' := #[.val (.int (own_ushr u0 (4 : Int32))), .val (.int (u1 + (-4 : Int32)))]) rfl k) ?_
      show own_Ends _ _ _ _ (TT.setTop (mkF m 61 #[.val (.int (own_ushr u0 (4 : Int32))), .val (.int (u1 + (-4 : Int32)))] []))
      exact J61 _ _ XX eT NN (own_ushr u0 (4 : Int32)) (u1 + (-4 : Int32)) _ hG
  have J33 : ∀ (TT : State) (LL : List Loc) (XX : Stand p l e ({ frames := 0, cells := 0, slots := 0, locals := 0 } : Room) s m #[(.int p0)] below meth c TT LL 0 0) (eT : TT.heap = h0) (NN : Fr n0 LL) (u0 : Int32) (u1 : Int32) (G : Option Value → Heap → List Loc → Prop) (hG : ∀ L, Fr n0 L → G (some (.int (own_nlz_33 u0 u1))) h0 L), own_Ends p e below (own_Fin s G ({ frames := 0, cells := 0, slots := 0, locals := 0 } : Room).cells ({ frames := 0, cells := 0, slots := 0, locals := 0 } : Room).slots) (TT.setTop (mkF m 33 #[.val (.int u0), .val (.int u1)] [])) := by
    intro TT LL XX eT NN u0 u1 G hG
    have hG : ∀ L, Fr n0 L → G (some (.int (if u0 < (256 : Int32) then (own_nlz_48 u0 u1) else (own_nlz_48 (own_ushr u0 (8 : Int32)) (u1 + (-8 : Int32)))))) h0 L := hG
    show own_Ends _ _ _ _ (TT.setTop (mkF m 33 #[.val (.int u0), .val (.int u1)] []))
    refine own_pre (fun t k => XS.iloadN XX.here hx rfl (hb hby own_d4_33) rfl k) ?_
    show own_Ends _ _ _ _ (TT.setTop (mkF m 34 #[.val (.int u0), .val (.int u1)] [(.int u0)]))
    refine own_pre (fun t k => XS.sipush XX.here hx rfl (hb hby own_d4_34) k) ?_
    show own_Ends _ _ _ _ (TT.setTop (mkF m 37 #[.val (.int u0), .val (.int u1)] [(.int (256 : Int32)), (.int u0)]))
    by_cases hc3 : u0 < (256 : Int32)
    · skip
      rw [if_pos hc3] at hG
      refine own_pre (fun t k => XS.icmpYes XX.here hx rfl (pc0 := 37) (pc' := 48) rfl (hb hby own_d4_37) rfl (tlt hc3).1 (by decide) (by decide) k) ?_
      show own_Ends _ _ _ _ (TT.setTop (mkF m 48 #[.val (.int u0), .val (.int u1)] []))
      exact J48 _ _ XX eT NN u0 u1 _ hG
    · skip
      rw [if_neg hc3] at hG
      refine own_pre (fun t k => XS.icmpNo XX.here hx rfl (hb hby own_d4_37) rfl (flt hc3).1 k) ?_
      show own_Ends _ _ _ _ (TT.setTop (mkF m 40 #[.val (.int u0), .val (.int u1)] []))
      refine own_pre (fun t k => XS.iinc XX.here hx rfl (hb hby own_d4_40) rfl (l' := #[.val (.int u0), .val (.int (u1 + (-8 : Int32)))]) rfl k) ?_
      show own_Ends _ _ _ _ (TT.setTop (mkF m 43 #[.val (.int u0), .val (.int (u1 + (-8 : Int32)))] []))
      refine own_pre (fun t k => XS.iloadN XX.here hx rfl (hb hby own_d4_43) rfl k) ?_
      show own_Ends _ _ _ _ (TT.setTop (mkF m 44 #[.val (.int u0), .val (.int (u1 + (-8 : Int32)))] [(.int u0)]))
      refine own_pre (fun t k => XS.bipush XX.here hx rfl (hb hby own_d4_44) k) ?_
      show own_Ends _ _ _ _ (TT.setTop (mkF m 46 #[.val (.int u0), .val (.int (u1 + (-8 : Int32)))] [(.int (8 : Int32)), (.int u0)]))
      refine own_pre (fun t k => XS.iushr XX.here hx rfl (hb hby own_d4_46) rfl k) ?_
      show own_Ends _ _ _ _ (TT.setTop (mkF m 47 #[.val (.int u0), .val (.int (u1 + (-8 : Int32)))] [(.int (own_ushr u0 (8 : Int32)))]))
      refine own_pre (fun t k => XS.istoreN XX.here hx rfl (hb hby own_d4_47) rfl (l' := #[.val (.int (own_ushr u0 (8 : Int32))), .val (.int (u1 + (-8 : Int32)))]) rfl k) ?_
      show own_Ends _ _ _ _ (TT.setTop (mkF m 48 #[.val (.int (own_ushr u0 (8 : Int32))), .val (.int (u1 + (-8 : Int32)))] []))
      exact J48 _ _ XX eT NN (own_ushr u0 (8 : Int32)) (u1 + (-8 : Int32)) _ hG
  have J0 : ∀ (G : Option Value → Heap → List Loc → Prop) (hG : ∀ L, Fr n0 L → G (some (.int (if (0 : Int32) < p0 then (if p0 < (65536 : Int32) then (own_nlz_33 p0 (31 : Int32)) else (own_nlz_33 (own_ushr p0 (16 : Int32)) ((31 : Int32) + (-16 : Int32)))) else (if p0 = (0 : Int32) then (32 : Int32) else (0 : Int32))))) h0 L), own_Ends p e below (own_Fin s G ({ frames := 0, cells := 0, slots := 0, locals := 0 } : Room).cells ({ frames := 0, cells := 0, slots := 0, locals := 0 } : Room).slots) (s₁.setTop (mkF m 0 #[.val (.int p0), .unset] [])) := by
    intro G hG
    show own_Ends _ _ _ _ (s₁.setTop (mkF m 0 #[.val (.int p0), .unset] []))
    refine own_pre (fun t k => XS.iloadN X0.here hx rfl (hb hby own_d4_0) rfl k) ?_
    show own_Ends _ _ _ _ (s₁.setTop (mkF m 1 #[.val (.int p0), .unset] [(.int p0)]))
    by_cases hc4 : (0 : Int32) < p0
    · skip
      rw [if_pos hc4] at hG
      refine own_pre (fun t k => XS.ifYes X0.here hx rfl (pc0 := 1) (pc' := 15) rfl (hb hby own_d4_1) rfl ((if0 _ _).trans (tlt hc4).2.2.1) (by decide) (by decide) k) ?_
      show own_Ends _ _ _ _ (s₁.setTop (mkF m 15 #[.val (.int p0), .unset] []))
      refine own_pre (fun t k => XS.bipush X0.here hx rfl (hb hby own_d4_15) k) ?_
      show own_Ends _ _ _ _ (s₁.setTop (mkF m 17 #[.val (.int p0), .unset] [(.int (31 : Int32))]))
      refine own_pre (fun t k => XS.istoreN X0.here hx rfl (hb hby own_d4_17) rfl (l' := #[.val (.int p0), .val (.int (31 : Int32))]) rfl k) ?_
      show own_Ends _ _ _ _ (s₁.setTop (mkF m 18 #[.val (.int p0), .val (.int (31 : Int32))] []))
      refine own_pre (fun t k => XS.iloadN X0.here hx rfl (hb hby own_d4_18) rfl k) ?_
      show own_Ends _ _ _ _ (s₁.setTop (mkF m 19 #[.val (.int p0), .val (.int (31 : Int32))] [(.int p0)]))
      refine own_pre (fun t k => X0.ldcwInt hx hown (mvT hZ (hw _ (List.mem_of_getElem? (i := 27) rfl))) (g := (mkF m 19 #[.val (.int p0), .val (.int (31 : Int32))] [(.int p0)])) rfl (hb hby own_d4_19) _ k) ?_
      show own_Ends _ _ _ _ (s₁.setTop (mkF m 22 #[.val (.int p0), .val (.int (31 : Int32))] [(.int (65536 : Int32)), (.int p0)]))
      by_cases hc5 : p0 < (65536 : Int32)
      · skip
        rw [if_pos hc5] at hG
        refine own_pre (fun t k => XS.icmpYes X0.here hx rfl (pc0 := 22) (pc' := 33) rfl (hb hby own_d4_22) rfl (tlt hc5).1 (by decide) (by decide) k) ?_
        show own_Ends _ _ _ _ (s₁.setTop (mkF m 33 #[.val (.int p0), .val (.int (31 : Int32))] []))
        exact J33 _ _ X0 e0 N0 p0 (31 : Int32) _ hG
      · skip
        rw [if_neg hc5] at hG
        refine own_pre (fun t k => XS.icmpNo X0.here hx rfl (hb hby own_d4_22) rfl (flt hc5).1 k) ?_
        show own_Ends _ _ _ _ (s₁.setTop (mkF m 25 #[.val (.int p0), .val (.int (31 : Int32))] []))
        refine own_pre (fun t k => XS.iinc X0.here hx rfl (hb hby own_d4_25) rfl (l' := #[.val (.int p0), .val (.int ((31 : Int32) + (-16 : Int32)))]) rfl k) ?_
        show own_Ends _ _ _ _ (s₁.setTop (mkF m 28 #[.val (.int p0), .val (.int ((31 : Int32) + (-16 : Int32)))] []))
        refine own_pre (fun t k => XS.iloadN X0.here hx rfl (hb hby own_d4_28) rfl k) ?_
        show own_Ends _ _ _ _ (s₁.setTop (mkF m 29 #[.val (.int p0), .val (.int ((31 : Int32) + (-16 : Int32)))] [(.int p0)]))
        refine own_pre (fun t k => XS.bipush X0.here hx rfl (hb hby own_d4_29) k) ?_
        show own_Ends _ _ _ _ (s₁.setTop (mkF m 31 #[.val (.int p0), .val (.int ((31 : Int32) + (-16 : Int32)))] [(.int (16 : Int32)), (.int p0)]))
        refine own_pre (fun t k => XS.iushr X0.here hx rfl (hb hby own_d4_31) rfl k) ?_
        show own_Ends _ _ _ _ (s₁.setTop (mkF m 32 #[.val (.int p0), .val (.int ((31 : Int32) + (-16 : Int32)))] [(.int (own_ushr p0 (16 : Int32)))]))
        refine own_pre (fun t k => XS.istoreN X0.here hx rfl (hb hby own_d4_32) rfl (l' := #[.val (.int (own_ushr p0 (16 : Int32))), .val (.int ((31 : Int32) + (-16 : Int32)))]) rfl k) ?_
        show own_Ends _ _ _ _ (s₁.setTop (mkF m 33 #[.val (.int (own_ushr p0 (16 : Int32))), .val (.int ((31 : Int32) + (-16 : Int32)))] []))
        exact J33 _ _ X0 e0 N0 (own_ushr p0 (16 : Int32)) ((31 : Int32) + (-16 : Int32)) _ hG
    · skip
      rw [if_neg hc4] at hG
      refine own_pre (fun t k => XS.ifNo X0.here hx rfl (hb hby own_d4_1) rfl ((if0 _ _).trans (flt hc4).2.2.1) k) ?_
      show own_Ends _ _ _ _ (s₁.setTop (mkF m 4 #[.val (.int p0), .unset] []))
      refine own_pre (fun t k => XS.iloadN X0.here hx rfl (hb hby own_d4_4) rfl k) ?_
      show own_Ends _ _ _ _ (s₁.setTop (mkF m 5 #[.val (.int p0), .unset] [(.int p0)]))
      by_cases hc6 : p0 = (0 : Int32)
      · skip
        rw [if_pos hc6] at hG
        refine own_pre (fun t k => XS.ifNo X0.here hx rfl (hb hby own_d4_5) rfl ((if0 _ _).trans (teq hc6).2) k) ?_
        show own_Ends _ _ _ _ (s₁.setTop (mkF m 8 #[.val (.int p0), .unset] []))
        refine own_pre (fun t k => XS.bipush X0.here hx rfl (hb hby own_d4_8) k) ?_
        show own_Ends _ _ _ _ (s₁.setTop (mkF m 10 #[.val (.int p0), .unset] [(.int (32 : Int32))]))
        refine own_pre (fun t k => XS.goto X0.here hx rfl (pc0 := 10) (pc' := 14) rfl (hb hby own_d4_10) (by decide) (by decide) k) ?_
        show own_Ends _ _ _ _ (s₁.setTop (mkF m 14 #[.val (.int p0), .unset] [(.int (32 : Int32))]))
        exact own_retI X0 hx Bd.returns (hb hby own_d4_14) hlk e0 (hG _ N0) (by decide) (by decide)
      · skip
        rw [if_neg hc6] at hG
        refine own_pre (fun t k => XS.ifYes X0.here hx rfl (pc0 := 5) (pc' := 13) rfl (hb hby own_d4_5) rfl ((if0 _ _).trans (feq hc6).2) (by decide) (by decide) k) ?_
        show own_Ends _ _ _ _ (s₁.setTop (mkF m 13 #[.val (.int p0), .unset] []))
        refine own_pre (fun t k => XS.iconst X0.here hx rfl (hb hby own_d4_13) k) ?_
        show own_Ends _ _ _ _ (s₁.setTop (mkF m 14 #[.val (.int p0), .unset] [(.int (0 : Int32))]))
        exact own_retI X0 hx Bd.returns (hb hby own_d4_14) hlk e0 (hG _ N0) (by decide) (by decide)
  exact J0 _ fun L q => ⟨rfl, q, rfl⟩
theorem own_d3_0 : decode prog_15_method_15_code 0 = .ok (.bipush 32, 2) := by decide +kernel
theorem own_d3_2 : decode prog_15_method_15_code 2 = .ok (.iload_n 0, 1) := by decide +kernel
theorem own_d3_3 : decode prog_15_method_15_code 3 = .ok (.iconst 1, 1) := by decide +kernel
theorem own_d3_4 : decode prog_15_method_15_code 4 = .ok (.isub, 1) := by decide +kernel
theorem own_d3_5 : decode prog_15_method_15_code 5 = .ok (.invokestatic 103, 3) := by decide +kernel
theorem own_d3_8 : decode prog_15_method_15_code 8 = .ok (.isub, 1) := by decide +kernel
theorem own_d3_9 : decode prog_15_method_15_code 9 = .ok (.ireturn, 1) := by decide +kernel
theorem own_pd0 : parseMethodDescriptor "(I)I" = some ⟨[.int], some .int⟩ := by decide +kernel
def own_depth (p0 : Int32) : Int32 := (32 : Int32) - (own_nlz (p0 - (1 : Int32)))
theorem own_pn1 : plainName "com/example/cardea/cardea/scheme/BinaryTree" = true := by first | (simp [plainName, overriddenIn]; done) | decide +kernel
theorem own_ef_rm2 (m : MethodId) (x0 : Int32) : entryFrame m #[(.int x0)] 1 = mkF m 0 #[.val (.int x0)] [] := by first | (simp [entryFrame, mkF, argsToLocals, Value.category]; done) | rfl
def own_Q_rm2 (Z : State) (p0 : Int32) (h0 : Heap) (n0 : Nat) (v : Option Value) (h : Heap) (L : List Loc) : Prop := v = some (.int (own_depth p0)) ∧ Fr n0 L ∧ h = h0
set_option maxRecDepth 65536 in
set_option maxHeartbeats 40000000 in
theorem rm2 (l : Launch) (Z : State) (a0 : Array Value) (hw : ∀ d ∈ tables_1, d.before a0 Z = true) (ws : List Jvm.Cond) (p0 : Int32) (h0 : Heap) (n0 : Nat) (Z0 : n0 ≤ h0.size) :
    MetFree l (⟨"com/example/cardea/cardea/scheme/BinaryTree", "depth", "(I)I"⟩ : MethodName) (head1 (Jvm.Cond.code (⟨"com/example/cardea/cardea/scheme/BinaryTree", "depth", "(I)I"⟩ : MethodName) prog_15_method_15_code 1 (some .int) :: ws) ({ frames := 1, cells := 0, slots := 0, locals := 14 } : Room)) (fun a U => a = #[(.int p0)] ∧ Z.Warmed39 U.vm ∧ U.heap = h0) (fun _ _ _ _ _ => True) (fun _ U o U' => ∃ v L, o = .returned v ∧ (own_Q_rm2 Z p0 h0 n0) v U'.heap L ∧ FrameEnd U o U' L ({ frames := 1, cells := 0, slots := 0, locals := 14 } : Room).cells ({ frames := 1, cells := 0, slots := 0, locals := 14 } : Room).slots) := by
  refine MetFree.of_bodySF (plainFor_of_name own_pn1) hisR ?_
  intro p e s m args below meth c s₁ Bd hml0 hP hK
  obtain ⟨rfl, hZ, hh⟩ := hP
  have hx := Bd.exec
  have hby := Bd.bytes
  have hml : c.maxLocals = 1 := hml0
  have hown : s.vm.findClass "com/example/cardea/cardea/scheme/BinaryTree" = some m.cls := findClass_of_methodNamed Bd.named
  have hnm := (name_of_methodNamed Bd.named Bd.method).1
  have hlk : meth.locks = false := BodyLoose.notSynchronized Bd
  have X0 : Stand p l e ({ frames := 1, cells := 0, slots := 0, locals := 14 } : Room) s m #[(.int p0)] below meth c s₁ [] 0 0 := Stand.of_body Bd
  have e0 : s₁.heap = h0 := by rw [← hh, Bd.state]; rfl
  have N0 := Fr.nil n0
  show own_Ends p e below (own_Fin s (own_Q_rm2 Z p0 h0 n0) ({ frames := 1, cells := 0, slots := 0, locals := 14 } : Room).cells ({ frames := 1, cells := 0, slots := 0, locals := 14 } : Room).slots) _
  refine own_pre (fun t k => castTop (own_ef_rm2 m p0) k) ?_
  have J0 : ∀ (G : Option Value → Heap → List Loc → Prop) (hG : ∀ L, Fr n0 L → G (some (.int ((32 : Int32) - (own_nlz (p0 - (1 : Int32)))))) h0 L), own_Ends p e below (own_Fin s G ({ frames := 1, cells := 0, slots := 0, locals := 14 } : Room).cells ({ frames := 1, cells := 0, slots := 0, locals := 14 } : Room).slots) (s₁.setTop (mkF m 0 #[.val (.int p0)] [])) := by
    intro G hG
    show own_Ends _ _ _ _ (s₁.setTop (mkF m 0 #[.val (.int p0)] []))
    refine own_pre (fun t k => XS.bipush X0.here hx rfl (hb hby own_d3_0) k) ?_
    show own_Ends _ _ _ _ (s₁.setTop (mkF m 2 #[.val (.int p0)] [(.int (32 : Int32))]))
    refine own_pre (fun t k => XS.iloadN X0.here hx rfl (hb hby own_d3_2) rfl k) ?_
    show own_Ends _ _ _ _ (s₁.setTop (mkF m 3 #[.val (.int p0)] [(.int p0), (.int (32 : Int32))]))
    refine own_pre (fun t k => XS.iconst X0.here hx rfl (hb hby own_d3_3) k) ?_
    show own_Ends _ _ _ _ (s₁.setTop (mkF m 4 #[.val (.int p0)] [(.int (1 : Int32)), (.int p0), (.int (32 : Int32))]))
    refine own_pre (fun t k => XS.isub X0.here hx rfl (hb hby own_d3_4) rfl k) ?_
    show own_Ends _ _ _ _ (s₁.setTop (mkF m 5 #[.val (.int p0)] [(.int (p0 - (1 : Int32))), (.int (32 : Int32))]))
    obtain ⟨_, _, ⟨T7, L7, k7, n7⟩, -, X7, ⟨Lc7, hQ7, l7, y7, z7⟩, st7⟩ := Jvm.LawKit.callS X0 hx (y := (⟨"java/lang/Integer", "numberOfLeadingZeros", "(I)I"⟩ : MethodName)) hown (mvT hZ (hw _ (List.mem_of_getElem? (i := 14) rfl))) (mvT hZ (hw _ (List.mem_of_getElem? (i := 15) rfl))) (mvT hZ (hw _ (List.mem_of_getElem? (i := 16) rfl))) (mvT hZ (hw _ (List.mem_of_getElem? (i := 17) rfl))) (by decide) (backOf (W := 1) (rm1 l Z a0 hw [] (p0 - (1 : Int32)) h0 n0 Z0) hZ (hw _ (List.mem_of_getElem? (i := 17) rfl)) (hw _ (List.mem_of_getElem? (i := 16) rfl)) (by decide) (by decide)) (g := (mkF m 5 #[.val (.int p0)] [(.int (p0 - (1 : Int32))), (.int (32 : Int32))])) rfl (by rw [hml]; rfl) (argsL := [(.int (p0 - (1 : Int32)))]) (rest := [(.int (32 : Int32))]) (lenOf own_pd0 rfl) rfl (by show 2 * 0 + _ ≤ _; exact Nat.le_of_eq rfl) (hb hby own_d3_5) (fun _ _ => ⟨rfl, e0, (by decide : 0 + 0 ≤ _), (by decide : 0 + 0 ≤ _)⟩)
    dsimp only [Pt.U, Pt.locs, Pt.cells, Pt.slots] at X7 l7 y7 z7 st7 hQ7
    subst l7 y7 z7
    obtain ⟨rfl, Nq7, e7⟩ := hQ7
    have N7 := Fr.app N0 Nq7
    refine own_pre st7 ?_
    show own_Ends _ _ _ _ (T7.setTop (mkF m 8 #[.val (.int p0)] [(.int (own_nlz (p0 - (1 : Int32)))), (.int (32 : Int32))]))
    refine own_pre (fun t k => XS.isub X7.here hx rfl (hb hby own_d3_8) rfl k) ?_
    show own_Ends _ _ _ _ (T7.setTop (mkF m 9 #[.val (.int p0)] [(.int ((32 : Int32) - (own_nlz (p0 - (1 : Int32)))))]))
    exact own_retI X7 hx Bd.returns (hb hby own_d3_9) hlk e7 (hG _ N7) (by decide) (by decide)
  exact J0 _ fun L q => ⟨rfl, q, rfl⟩
theorem own_d1_0 : decode prog_15_method_1_code 0 = .ok (.aload_n 0, 1) := by decide +kernel
theorem own_d1_1 : decode prog_15_method_1_code 1 = .ok (.invokespecial 1, 3) := by decide +kernel
theorem own_d1_4 : decode prog_15_method_1_code 4 = .ok (.aload_n 0, 1) := by decide +kernel
theorem own_d1_5 : decode prog_15_method_1_code 5 = .ok (.iload_n 1, 1) := by decide +kernel
theorem own_d1_6 : decode prog_15_method_1_code 6 = .ok (.invokestatic 7, 3) := by decide +kernel
theorem own_d1_9 : decode prog_15_method_1_code 9 = .ok (.putfield 13, 3) := by decide +kernel
theorem own_d1_12 : decode prog_15_method_1_code 12 = .ok (.aload_n 0, 1) := by decide +kernel
theorem own_d1_13 : decode prog_15_method_1_code 13 = .ok (.iconst 2, 1) := by decide +kernel
theorem own_d1_14 : decode prog_15_method_1_code 14 = .ok (.iload_n 1, 1) := by decide +kernel
theorem own_d1_15 : decode prog_15_method_1_code 15 = .ok (.imul, 1) := by decide +kernel
theorem own_d1_16 : decode prog_15_method_1_code 16 = .ok (.iconst 1, 1) := by decide +kernel
theorem own_d1_17 : decode prog_15_method_1_code 17 = .ok (.aload_n 0, 1) := by decide +kernel
theorem own_d1_18 : decode prog_15_method_1_code 18 = .ok (.getfield 13, 3) := by decide +kernel
theorem own_d1_21 : decode prog_15_method_1_code 21 = .ok (.ishl, 1) := by decide +kernel
theorem own_d1_22 : decode prog_15_method_1_code 22 = .ok (.isub, 1) := by decide +kernel
theorem own_d1_23 : decode prog_15_method_1_code 23 = .ok (.putfield 16, 3) := by decide +kernel
theorem own_d1_26 : decode prog_15_method_1_code 26 = .ok (.return_, 1) := by decide +kernel
theorem own_ef_rm3 (m : MethodId) (x0 : Addr) (x1 : Int32) : entryFrame m #[(.ref x0), (.int x1)] 2 = mkF m 0 #[.val (.ref x0), .val (.int x1)] [] := by first | (simp [entryFrame, mkF, argsToLocals, Value.category]; done) | rfl
def own_Q_rm3 (Z : State) (a0r : Addr) (p1 : Int32) (h0 : Heap) (n0 : Nat) (v : Option Value) (h : Heap) (L : List Loc) : Prop := v = none ∧ Fr n0 L ∧ Keep h0 h [a0r] ∧ Fld Z h a0r "com/example/cardea/cardea/scheme/BinaryTree" "depth" "I" (.int (own_depth p1)) ∧ Fld Z h a0r "com/example/cardea/cardea/scheme/BinaryTree" "deep" "I" (.int (((2 : Int32) * p1) - ((1 : Int32) <<< ((own_depth p1) &&& 31))))
set_option maxRecDepth 65536 in
set_option maxHeartbeats 40000000 in
theorem rm3 (l : Launch) (Z : State) (a0 : Array Value) (hw : ∀ d ∈ tables_1, d.before a0 Z = true) (ws : List Jvm.Cond) (a0r : Addr) (p1 : Int32) (h0 : Heap) (n0 : Nat) (Z0 : n0 ≤ h0.size) (EX : Exa Z h0 a0r "com/example/cardea/cardea/scheme/BinaryTree") (g0r : n0 ≤ a0r) (F_depth : Fld Z h0 a0r "com/example/cardea/cardea/scheme/BinaryTree" "depth" "I" (.int (0 : Int32))) (F_deep : Fld Z h0 a0r "com/example/cardea/cardea/scheme/BinaryTree" "deep" "I" (.int (0 : Int32))) :
    MetFree l (⟨"com/example/cardea/cardea/scheme/BinaryTree", "<init>", "(I)V"⟩ : MethodName) (head1 (Jvm.Cond.code (⟨"com/example/cardea/cardea/scheme/BinaryTree", "<init>", "(I)V"⟩ : MethodName) prog_15_method_1_code 2 none :: ws) ({ frames := 2, cells := 0, slots := 0, locals := 27 } : Room)) (fun a U => a = #[(.ref a0r), (.int p1)] ∧ Z.Warmed39 U.vm ∧ U.heap = h0) (fun _ _ _ _ _ => True) (fun _ U o U' => ∃ v L, o = .returned v ∧ (own_Q_rm3 Z a0r p1 h0 n0) v U'.heap L ∧ FrameEnd U o U' L ({ frames := 2, cells := 0, slots := 0, locals := 27 } : Room).cells ({ frames := 2, cells := 0, slots := 0, locals := 27 } : Room).slots) := by
  refine MetFree.of_bodySF (plainFor_of_name own_pn1) hisR ?_
  intro p e s m args below meth c s₁ Bd hml0 hP hK
  obtain ⟨rfl, hZ, hh⟩ := hP
  have hx := Bd.exec
  have hby := Bd.bytes
  have hml : c.maxLocals = 2 := hml0
  have hown : s.vm.findClass "com/example/cardea/cardea/scheme/BinaryTree" = some m.cls := findClass_of_methodNamed Bd.named
  have hnm := (name_of_methodNamed Bd.named Bd.method).1
  have hlk : meth.locks = false := BodyLoose.notSynchronized Bd
  have X0 : Stand p l e ({ frames := 2, cells := 0, slots := 0, locals := 27 } : Room) s m #[(.ref a0r), (.int p1)] below meth c s₁ [] 0 0 := Stand.of_body Bd
  have e0 : s₁.heap = h0 := by rw [← hh, Bd.state]; rfl
  have N0 := Fr.nil n0
  show own_Ends p e below (own_Fin s (own_Q_rm3 Z a0r p1 h0 n0) ({ frames := 2, cells := 0, slots := 0, locals := 27 } : Room).cells ({ frames := 2, cells := 0, slots := 0, locals := 27 } : Room).slots) _
  refine own_pre (fun t k => castTop (own_ef_rm3 m a0r p1) k) ?_
  have KK0 : Keep h0 h0 [a0r] := Keep.refl _ _
  show own_Ends _ _ _ _ (s₁.setTop (mkF m 0 #[.val (.ref a0r), .val (.int p1)] []))
  refine own_pre (fun t k => XS.aloadN X0.here hx rfl (hb hby own_d1_0) rfl rfl k) ?_
  show own_Ends _ _ _ _ (s₁.setTop (mkF m 1 #[.val (.ref a0r), .val (.int p1)] [(.ref a0r)]))
  obtain ⟨T8, X8, e8, st8⟩ := initO X0 hx hZ hown (hw _ (List.mem_of_getElem? (i := 8) rfl)) (hw _ (List.mem_of_getElem? (i := 9) rfl)) (hw _ (List.mem_of_getElem? (i := 10) rfl)) e0 (g := (mkF m 1 #[.val (.ref a0r), .val (.int p1)] [(.ref a0r)])) rfl (by rw [hml]; rfl) rfl (hb hby own_d1_1) (by decide) (W := 0) (by show 2 * 0 + _ ≤ _; exact Nat.le_of_eq rfl) (by decide)
  refine own_pre st8 ?_
  show own_Ends _ _ _ _ (T8.setTop (mkF m 4 #[.val (.ref a0r), .val (.int p1)] []))
  refine own_pre (fun t k => XS.aloadN X8.here hx rfl (hb hby own_d1_4) rfl rfl k) ?_
  show own_Ends _ _ _ _ (T8.setTop (mkF m 5 #[.val (.ref a0r), .val (.int p1)] [(.ref a0r)]))
  refine own_pre (fun t k => XS.iloadN X8.here hx rfl (hb hby own_d1_5) rfl k) ?_
  show own_Ends _ _ _ _ (T8.setTop (mkF m 6 #[.val (.ref a0r), .val (.int p1)] [(.int p1), (.ref a0r)]))
  obtain ⟨_, _, ⟨T9, L9, k9, n9⟩, -, X9, ⟨Lc9, hQ9, l9, y9, z9⟩, st9⟩ := Jvm.LawKit.callS X8 hx (y := (⟨"com/example/cardea/cardea/scheme/BinaryTree", "depth", "(I)I"⟩ : MethodName)) hown (mvT hZ (hw _ (List.mem_of_getElem? (i := 11) rfl))) (mvT hZ (hw _ (List.mem_of_getElem? (i := 12) rfl))) (mvT hZ (hw _ (List.mem_of_getElem? (i := 4) rfl))) (mvT hZ (hw _ (List.mem_of_getElem? (i := 13) rfl))) (by decide) (backOf (W := 1) (rm2 l Z a0 hw [] p1 h0 n0 Z0) hZ (hw _ (List.mem_of_getElem? (i := 13) rfl)) (hw _ (List.mem_of_getElem? (i := 4) rfl)) (by decide) (by decide)) (g := (mkF m 6 #[.val (.ref a0r), .val (.int p1)] [(.int p1), (.ref a0r)])) rfl (by rw [hml]; rfl) (argsL := [(.int p1)]) (rest := [(.ref a0r)]) (lenOf own_pd0 rfl) rfl (by show 2 * 0 + _ ≤ _; exact Nat.le_of_eq rfl) (hb hby own_d1_6) (fun _ _ => ⟨rfl, e8, (by decide : 0 + 0 ≤ _), (by decide : 0 + 0 ≤ _)⟩)
  dsimp only [Pt.U, Pt.locs, Pt.cells, Pt.slots] at X9 l9 y9 z9 st9 hQ9
  subst l9 y9 z9
  obtain ⟨rfl, Nq9, e9⟩ := hQ9
  have N9 := Fr.app N0 Nq9
  refine own_pre st9 ?_
  show own_Ends _ _ _ _ (T9.setTop (mkF m 9 #[.val (.ref a0r), .val (.int p1)] [(.int (own_depth p1)), (.ref a0r)]))
  obtain ⟨T10, h10, X10, e10, W10, st10⟩ := putF X9 hx hZ hown (host := "") (Or.inl (hw _ (List.mem_of_getElem? (i := 18) rfl))) Via.refl e9 F_depth EX (Or.inr ⟨(hw _ (List.mem_of_getElem? (i := 19) rfl)), rfl, hnm⟩) (hw _ (List.mem_of_getElem? (i := 3) rfl)) (ty := .int) (by decide) rfl rfl (g := (mkF m 9 #[.val (.ref a0r), .val (.int p1)] [(.int (own_depth p1)), (.ref a0r)])) rfl rfl (hb hby own_d1_9)
  refine own_pre st10 ?_
  have fw10 := F_depth.same W10
  have f11 := EX.wr W10
  have f12 := F_deep.other W10 (Or.inr (slot_ne (Or.inr (hw _ (List.mem_of_getElem? (i := 21) rfl))) (Or.inr (hw _ (List.mem_of_getElem? (i := 19) rfl))) (by decide) (t := .int) (t' := .int) (by decide) (by decide)))
  have N13 := Fr.snoc X10 N9 g0r
  have Zn14 : n0 ≤ h10.size := by rw [W10.size]; exact Z0
  have K15 : Keep h0 h10 [a0r] := KK0.wr W10 (Or.inl (by simp))
  show own_Ends _ _ _ _ (T10.setTop (mkF m 12 #[.val (.ref a0r), .val (.int p1)] []))
  refine own_pre (fun t k => XS.aloadN X10.here hx rfl (hb hby own_d1_12) rfl rfl k) ?_
  show own_Ends _ _ _ _ (T10.setTop (mkF m 13 #[.val (.ref a0r), .val (.int p1)] [(.ref a0r)]))
  refine own_pre (fun t k => XS.iconst X10.here hx rfl (hb hby own_d1_13) k) ?_
  show own_Ends _ _ _ _ (T10.setTop (mkF m 14 #[.val (.ref a0r), .val (.int p1)] [(.int (2 : Int32)), (.ref a0r)]))
  refine own_pre (fun t k => XS.iloadN X10.here hx rfl (hb hby own_d1_14) rfl k) ?_
  show own_Ends _ _ _ _ (T10.setTop (mkF m 15 #[.val (.ref a0r), .val (.int p1)] [(.int p1), (.int (2 : Int32)), (.ref a0r)]))
  refine own_pre (fun t k => XS.imul X10.here hx rfl (hb hby own_d1_15) rfl k) ?_
  show own_Ends _ _ _ _ (T10.setTop (mkF m 16 #[.val (.ref a0r), .val (.int p1)] [(.int ((2 : Int32) * p1)), (.ref a0r)]))
  refine own_pre (fun t k => XS.iconst X10.here hx rfl (hb hby own_d1_16) k) ?_
  show own_Ends _ _ _ _ (T10.setTop (mkF m 17 #[.val (.ref a0r), .val (.int p1)] [(.int (1 : Int32)), (.int ((2 : Int32) * p1)), (.ref a0r)]))
  refine own_pre (fun t k => XS.aloadN X10.here hx rfl (hb hby own_d1_17) rfl rfl k) ?_
  show own_Ends _ _ _ _ (T10.setTop (mkF m 18 #[.val (.ref a0r), .val (.int p1)] [(.ref a0r), (.int (1 : Int32)), (.int ((2 : Int32) * p1)), (.ref a0r)]))
  obtain ⟨T16, X16, e16, st16⟩ := getF X10 hx hZ hown (host := "") (Or.inl (hw _ (List.mem_of_getElem? (i := 18) rfl))) Via.refl e10 fw10 (g := (mkF m 18 #[.val (.ref a0r), .val (.int p1)] [(.ref a0r), (.int (1 : Int32)), (.int ((2 : Int32) * p1)), (.ref a0r)])) rfl rfl (hb hby own_d1_18)
  refine own_pre st16 ?_
  show own_Ends _ _ _ _ (T16.setTop (mkF m 21 #[.val (.ref a0r), .val (.int p1)] [(.int (own_depth p1)), (.int (1 : Int32)), (.int ((2 : Int32) * p1)), (.ref a0r)]))
  refine own_pre (fun t k => XS.ishl X16.here hx rfl (hb hby own_d1_21) rfl k) ?_
  show own_Ends _ _ _ _ (T16.setTop (mkF m 22 #[.val (.ref a0r), .val (.int p1)] [(.int ((1 : Int32) <<< ((own_depth p1) &&& 31))), (.int ((2 : Int32) * p1)), (.ref a0r)]))
  refine own_pre (fun t k => XS.isub X16.here hx rfl (hb hby own_d1_22) rfl k) ?_
  show own_Ends _ _ _ _ (T16.setTop (mkF m 23 #[.val (.ref a0r), .val (.int p1)] [(.int (((2 : Int32) * p1) - ((1 : Int32) <<< ((own_depth p1) &&& 31)))), (.ref a0r)]))
  obtain ⟨T17, h17, X17, e17, W17, st17⟩ := putF X16 hx hZ hown (host := "") (Or.inl (hw _ (List.mem_of_getElem? (i := 20) rfl))) Via.refl e16 f12 f11 (Or.inr ⟨(hw _ (List.mem_of_getElem? (i := 21) rfl)), rfl, hnm⟩) (hw _ (List.mem_of_getElem? (i := 3) rfl)) (ty := .int) (by decide) rfl rfl (g := (mkF m 23 #[.val (.ref a0r), .val (.int p1)] [(.int (((2 : Int32) * p1) - ((1 : Int32) <<< ((own_depth p1) &&& 31)))), (.ref a0r)])) rfl rfl (hb hby own_d1_23)
  refine own_pre st17 ?_
  have fw17 := f12.same W17
  have f18 := f11.wr W17
  have f19 := fw10.other W17 (Or.inr (slot_ne (Or.inr (hw _ (List.mem_of_getElem? (i := 19) rfl))) (Or.inr (hw _ (List.mem_of_getElem? (i := 21) rfl))) (by decide) (t := .int) (t' := .int) (by decide) (by decide)))
  have N20 := Fr.snoc X17 N13 g0r
  have Zn21 : n0 ≤ h17.size := by rw [W17.size]; exact Zn14
  have K22 : Keep h0 h17 [a0r] := K15.wr W17 (Or.inl (by simp))
  show own_Ends _ _ _ _ (T17.setTop (mkF m 26 #[.val (.ref a0r), .val (.int p1)] []))
  exact own_retV X17 hx Bd.returns (hb hby own_d1_26) hlk e17 ⟨rfl, N20, K22, f19, fw17⟩ (by decide) (by decide)
theorem own_d5_0 : decode prog_15_method_5_code 0 = .ok (.iload_n 1, 1) := by decide +kernel
theorem own_d5_1 : decode prog_15_method_5_code 1 = .ok (.aload_n 0, 1) := by decide +kernel
theorem own_d5_2 : decode prog_15_method_5_code 2 = .ok (.getfield 16, 3) := by decide +kernel
theorem own_d5_5 : decode prog_15_method_5_code 5 = .ok (.if_icmp .ge 17, 3) := by decide +kernel
theorem own_d5_8 : decode prog_15_method_5_code 8 = .ok (.iconst 1, 1) := by decide +kernel
theorem own_d5_9 : decode prog_15_method_5_code 9 = .ok (.aload_n 0, 1) := by decide +kernel
theorem own_d5_10 : decode prog_15_method_5_code 10 = .ok (.getfield 13, 3) := by decide +kernel
theorem own_d5_13 : decode prog_15_method_5_code 13 = .ok (.ishl, 1) := by decide +kernel
theorem own_d5_14 : decode prog_15_method_5_code 14 = .ok (.iconst 1, 1) := by decide +kernel
theorem own_d5_15 : decode prog_15_method_5_code 15 = .ok (.isub, 1) := by decide +kernel
theorem own_d5_16 : decode prog_15_method_5_code 16 = .ok (.iload_n 1, 1) := by decide +kernel
theorem own_d5_17 : decode prog_15_method_5_code 17 = .ok (.iadd, 1) := by decide +kernel
theorem own_d5_18 : decode prog_15_method_5_code 18 = .ok (.istore_n 2, 1) := by decide +kernel
theorem own_d5_19 : decode prog_15_method_5_code 19 = .ok (.goto 23, 3) := by decide +kernel
theorem own_d5_22 : decode prog_15_method_5_code 22 = .ok (.iconst 1, 1) := by decide +kernel
theorem own_d5_23 : decode prog_15_method_5_code 23 = .ok (.aload_n 0, 1) := by decide +kernel
theorem own_d5_24 : decode prog_15_method_5_code 24 = .ok (.getfield 13, 3) := by decide +kernel
theorem own_d5_27 : decode prog_15_method_5_code 27 = .ok (.iconst 1, 1) := by decide +kernel
theorem own_d5_28 : decode prog_15_method_5_code 28 = .ok (.isub, 1) := by decide +kernel
theorem own_d5_29 : decode prog_15_method_5_code 29 = .ok (.ishl, 1) := by decide +kernel
theorem own_d5_30 : decode prog_15_method_5_code 30 = .ok (.iconst 1, 1) := by decide +kernel
theorem own_d5_31 : decode prog_15_method_5_code 31 = .ok (.isub, 1) := by decide +kernel
theorem own_d5_32 : decode prog_15_method_5_code 32 = .ok (.iload_n 1, 1) := by decide +kernel
theorem own_d5_33 : decode prog_15_method_5_code 33 = .ok (.iadd, 1) := by decide +kernel
theorem own_d5_34 : decode prog_15_method_5_code 34 = .ok (.aload_n 0, 1) := by decide +kernel
theorem own_d5_35 : decode prog_15_method_5_code 35 = .ok (.getfield 16, 3) := by decide +kernel
theorem own_d5_38 : decode prog_15_method_5_code 38 = .ok (.iconst 2, 1) := by decide +kernel
theorem own_d5_39 : decode prog_15_method_5_code 39 = .ok (.idiv, 1) := by decide +kernel
theorem own_d5_40 : decode prog_15_method_5_code 40 = .ok (.isub, 1) := by decide +kernel
theorem own_d5_41 : decode prog_15_method_5_code 41 = .ok (.istore_n 2, 1) := by decide +kernel
theorem own_d5_42 : decode prog_15_method_5_code 42 = .ok (.iload_n 2, 1) := by decide +kernel
theorem own_d5_43 : decode prog_15_method_5_code 43 = .ok (.ireturn, 1) := by decide +kernel
def own_leaf (fdep : Int32) (fdee : Int32) (p0 : Int32) : Int32 := if p0 < fdee then ((((1 : Int32) <<< (fdep &&& 31)) - (1 : Int32)) + p0) else (((((1 : Int32) <<< ((fdep - (1 : Int32)) &&& 31)) - (1 : Int32)) + p0) - (fdee / (2 : Int32)))
theorem own_ef_rm4 (m : MethodId) (x0 : Addr) (x1 : Int32) : entryFrame m #[(.ref x0), (.int x1)] 3 = mkF m 0 #[.val (.ref x0), .val (.int x1), .unset] [] := by first | (simp [entryFrame, mkF, argsToLocals, Value.category]; done) | rfl
def own_Q_rm4 (Z : State) (a0r : Addr) (p0 : Int32) (fdep : Int32) (fdee : Int32) (h0 : Heap) (n0 : Nat) (v : Option Value) (h : Heap) (L : List Loc) : Prop := v = some (.int (own_leaf fdep fdee p0)) ∧ Fr n0 L ∧ h = h0
set_option maxRecDepth 65536 in
set_option maxHeartbeats 40000000 in
theorem rm4 (l : Launch) (Z : State) (a0 : Array Value) (hw : ∀ d ∈ tables_1, d.before a0 Z = true) (ws : List Jvm.Cond) (a0r : Addr) (p0 : Int32) (fdep : Int32) (fdee : Int32) (h0 : Heap) (n0 : Nat) (Z0 : n0 ≤ h0.size) (F_depth : Fld Z h0 a0r "com/example/cardea/cardea/scheme/BinaryTree" "depth" "I" (.int fdep)) (F_deep : Fld Z h0 a0r "com/example/cardea/cardea/scheme/BinaryTree" "deep" "I" (.int fdee)) :
    MetFree l (⟨"com/example/cardea/cardea/scheme/BinaryTree", "leaf", "(I)I"⟩ : MethodName) (head1 (Jvm.Cond.code (⟨"com/example/cardea/cardea/scheme/BinaryTree", "leaf", "(I)I"⟩ : MethodName) prog_15_method_5_code 3 (some .int) :: ws) ({ frames := 0, cells := 0, slots := 0, locals := 0 } : Room)) (fun a U => a = #[(.ref a0r), (.int p0)] ∧ Z.Warmed39 U.vm ∧ U.heap = h0) (fun _ _ _ _ _ => True) (fun _ U o U' => ∃ v L, o = .returned v ∧ (own_Q_rm4 Z a0r p0 fdep fdee h0 n0) v U'.heap L ∧ FrameEnd U o U' L ({ frames := 0, cells := 0, slots := 0, locals := 0 } : Room).cells ({ frames := 0, cells := 0, slots := 0, locals := 0 } : Room).slots) := by
  refine MetFree.of_bodySF (plainFor_of_name own_pn1) hisR ?_
  intro p e s m args below meth c s₁ Bd hml0 hP hK
  obtain ⟨rfl, hZ, hh⟩ := hP
  have hx := Bd.exec
  have hby := Bd.bytes
  have hml : c.maxLocals = 3 := hml0
  have hown : s.vm.findClass "com/example/cardea/cardea/scheme/BinaryTree" = some m.cls := findClass_of_methodNamed Bd.named
  have hnm := (name_of_methodNamed Bd.named Bd.method).1
  have hlk : meth.locks = false := BodyLoose.notSynchronized Bd
  have X0 : Stand p l e ({ frames := 0, cells := 0, slots := 0, locals := 0 } : Room) s m #[(.ref a0r), (.int p0)] below meth c s₁ [] 0 0 := Stand.of_body Bd
  have e0 : s₁.heap = h0 := by rw [← hh, Bd.state]; rfl
  have N0 := Fr.nil n0
  show own_Ends p e below (own_Fin s (own_Q_rm4 Z a0r p0 fdep fdee h0 n0) ({ frames := 0, cells := 0, slots := 0, locals := 0 } : Room).cells ({ frames := 0, cells := 0, slots := 0, locals := 0 } : Room).slots) _
  refine own_pre (fun t k => castTop (own_ef_rm4 m a0r p0) k) ?_
  have J0 : ∀ (G : Option Value → Heap → List Loc → Prop) (hG : ∀ L, Fr n0 L → G (some (.int (if p0 < fdee then ((((1 : Int32) <<< (fdep &&& 31)) - (1 : Int32)) + p0) else (((((1 : Int32) <<< ((fdep - (1 : Int32)) &&& 31)) - (1 : Int32)) + p0) - (fdee / (2 : Int32)))))) h0 L), own_Ends p e below (own_Fin s G ({ frames := 0, cells := 0, slots := 0, locals := 0 } : Room).cells ({ frames := 0, cells := 0, slots := 0, locals := 0 } : Room).slots) (s₁.setTop (mkF m 0 #[.val (.ref a0r), .val (.int p0), .unset] [])) := by
    intro G hG
    show own_Ends _ _ _ _ (s₁.setTop (mkF m 0 #[.val (.ref a0r), .val (.int p0), .unset] []))
    refine own_pre (fun t k => XS.iloadN X0.here hx rfl (hb hby own_d5_0) rfl k) ?_
    show own_Ends _ _ _ _ (s₁.setTop (mkF m 1 #[.val (.ref a0r), .val (.int p0), .unset] [(.int p0)]))
    refine own_pre (fun t k => XS.aloadN X0.here hx rfl (hb hby own_d5_1) rfl rfl k) ?_
    show own_Ends _ _ _ _ (s₁.setTop (mkF m 2 #[.val (.ref a0r), .val (.int p0), .unset] [(.ref a0r), (.int p0)]))
    obtain ⟨T23, X23, e23, st23⟩ := getF X0 hx hZ hown (host := "") (Or.inl (hw _ (List.mem_of_getElem? (i := 20) rfl))) Via.refl e0 F_deep (g := (mkF m 2 #[.val (.ref a0r), .val (.int p0), .unset] [(.ref a0r), (.int p0)])) rfl rfl (hb hby own_d5_2)
    refine own_pre st23 ?_
    show own_Ends _ _ _ _ (T23.setTop (mkF m 5 #[.val (.ref a0r), .val (.int p0), .unset] [(.int fdee), (.int p0)]))
    by_cases hc24 : p0 < fdee
    · skip
      rw [if_pos hc24] at hG
      refine own_pre (fun t k => XS.icmpNo X23.here hx rfl (hb hby own_d5_5) rfl (tlt hc24).2.1 k) ?_
      show own_Ends _ _ _ _ (T23.setTop (mkF m 8 #[.val (.ref a0r), .val (.int p0), .unset] []))
      refine own_pre (fun t k => XS.iconst X23.here hx rfl (hb hby own_d5_8) k) ?_
      show own_Ends _ _ _ _ (T23.setTop (mkF m 9 #[.val (.ref a0r), .val (.int p0), .unset] [(.int (1 : Int32))]))
      refine own_pre (fun t k => XS.aloadN X23.here hx rfl (hb hby own_d5_9) rfl rfl k) ?_
      show own_Ends _ _ _ _ (T23.setTop (mkF m 10 #[.val (.ref a0r), .val (.int p0), .unset] [(.ref a0r), (.int (1 : Int32))]))
      obtain ⟨T25, X25, e25, st25⟩ := getF X23 hx hZ hown (host := "") (Or.inl (hw _ (List.mem_of_getElem? (i := 18) rfl))) Via.refl e23 F_depth (g := (mkF m 10 #[.val (.ref a0r), .val (.int p0), .unset] [(.ref a0r), (.int (1 : Int32))])) rfl rfl (hb hby own_d5_10)
      refine own_pre st25 ?_
      show own_Ends _ _ _ _ (T25.setTop (mkF m 13 #[.val (.ref a0r), .val (.int p0), .unset] [(.int fdep), (.int (1 : Int32))]))
      refine own_pre (fun t k => XS.ishl X25.here hx rfl (hb hby own_d5_13) rfl k) ?_
      show own_Ends _ _ _ _ (T25.setTop (mkF m 14 #[.val (.ref a0r), .val (.int p0), .unset] [(.int ((1 : Int32) <<< (fdep &&& 31)))]))
      refine own_pre (fun t k => XS.iconst X25.here hx rfl (hb hby own_d5_14) k) ?_
      show own_Ends _ _ _ _ (T25.setTop (mkF m 15 #[.val (.ref a0r), .val (.int p0), .unset] [(.int (1 : Int32)), (.int ((1 : Int32) <<< (fdep &&& 31)))]))
      refine own_pre (fun t k => XS.isub X25.here hx rfl (hb hby own_d5_15) rfl k) ?_
      show own_Ends _ _ _ _ (T25.setTop (mkF m 16 #[.val (.ref a0r), .val (.int p0), .unset] [(.int (((1 : Int32) <<< (fdep &&& 31)) - (1 : Int32)))]))
      refine own_pre (fun t k => XS.iloadN X25.here hx rfl (hb hby own_d5_16) rfl k) ?_
      show own_Ends _ _ _ _ (T25.setTop (mkF m 17 #[.val (.ref a0r), .val (.int p0), .unset] [(.int p0), (.int (((1 : Int32) <<< (fdep &&& 31)) - (1 : Int32)))]))
      refine own_pre (fun t k => XS.iadd X25.here hx rfl (hb hby own_d5_17) rfl k) ?_
      show own_Ends _ _ _ _ (T25.setTop (mkF m 18 #[.val (.ref a0r), .val (.int p0), .unset] [(.int ((((1 : Int32) <<< (fdep &&& 31)) - (1 : Int32)) + p0))]))
      refine own_pre (fun t k => XS.istoreN X25.here hx rfl (hb hby own_d5_18) rfl (l' := #[.val (.ref a0r), .val (.int p0), .val (.int ((((1 : Int32) <<< (fdep &&& 31)) - (1 : Int32)) + p0))]) rfl k) ?_
      show own_Ends _ _ _ _ (T25.setTop (mkF m 19 #[.val (.ref a0r), .val (.int p0), .val (.int ((((1 : Int32) <<< (fdep &&& 31)) - (1 : Int32)) + p0))] []))
      refine own_pre (fun t k => XS.goto X25.here hx rfl (pc0 := 19) (pc' := 42) rfl (hb hby own_d5_19) (by decide) (by decide) k) ?_
      show own_Ends _ _ _ _ (T25.setTop (mkF m 42 #[.val (.ref a0r), .val (.int p0), .val (.int ((((1 : Int32) <<< (fdep &&& 31)) - (1 : Int32)) + p0))] []))
      refine own_pre (fun t k => XS.iloadN X25.here hx rfl (hb hby own_d5_42) rfl k) ?_
      show own_Ends _ _ _ _ (T25.setTop (mkF m 43 #[.val (.ref a0r), .val (.int p0), .val (.int ((((1 : Int32) <<< (fdep &&& 31)) - (1 : Int32)) + p0))] [(.int ((((1 : Int32) <<< (fdep &&& 31)) - (1 : Int32)) + p0))]))
      exact own_retI X25 hx Bd.returns (hb hby own_d5_43) hlk e25 (hG _ N0) (by decide) (by decide)
    · skip
      rw [if_neg hc24] at hG
      refine own_pre (fun t k => XS.icmpYes X23.here hx rfl (pc0 := 5) (pc' := 22) rfl (hb hby own_d5_5) rfl (flt hc24).2.1 (by decide) (by decide) k) ?_
      show own_Ends _ _ _ _ (T23.setTop (mkF m 22 #[.val (.ref a0r), .val (.int p0), .unset] []))
      refine own_pre (fun t k => XS.iconst X23.here hx rfl (hb hby own_d5_22) k) ?_
      show own_Ends _ _ _ _ (T23.setTop (mkF m 23 #[.val (.ref a0r), .val (.int p0), .unset] [(.int (1 : Int32))]))
      refine own_pre (fun t k => XS.aloadN X23.here hx rfl (hb hby own_d5_23) rfl rfl k) ?_
      show own_Ends _ _ _ _ (T23.setTop (mkF m 24 #[.val (.ref a0r), .val (.int p0), .unset] [(.ref a0r), (.int (1 : Int32))]))
      obtain ⟨T26, X26, e26, st26⟩ := getF X23 hx hZ hown (host := "") (Or.inl (hw _ (List.mem_of_getElem? (i := 18) rfl))) Via.refl e23 F_depth (g := (mkF m 24 #[.val (.ref a0r), .val (.int p0), .unset] [(.ref a0r), (.int (1 : Int32))])) rfl rfl (hb hby own_d5_24)
      refine own_pre st26 ?_
      show own_Ends _ _ _ _ (T26.setTop (mkF m 27 #[.val (.ref a0r), .val (.int p0), .unset] [(.int fdep), (.int (1 : Int32))]))
      refine own_pre (fun t k => XS.iconst X26.here hx rfl (hb hby own_d5_27) k) ?_
      show own_Ends _ _ _ _ (T26.setTop (mkF m 28 #[.val (.ref a0r), .val (.int p0), .unset] [(.int (1 : Int32)), (.int fdep), (.int (1 : Int32))]))
      refine own_pre (fun t k => XS.isub X26.here hx rfl (hb hby own_d5_28) rfl k) ?_
      show own_Ends _ _ _ _ (T26.setTop (mkF m 29 #[.val (.ref a0r), .val (.int p0), .unset] [(.int (fdep - (1 : Int32))), (.int (1 : Int32))]))
      refine own_pre (fun t k => XS.ishl X26.here hx rfl (hb hby own_d5_29) rfl k) ?_
      show own_Ends _ _ _ _ (T26.setTop (mkF m 30 #[.val (.ref a0r), .val (.int p0), .unset] [(.int ((1 : Int32) <<< ((fdep - (1 : Int32)) &&& 31)))]))
      refine own_pre (fun t k => XS.iconst X26.here hx rfl (hb hby own_d5_30) k) ?_
      show own_Ends _ _ _ _ (T26.setTop (mkF m 31 #[.val (.ref a0r), .val (.int p0), .unset] [(.int (1 : Int32)), (.int ((1 : Int32) <<< ((fdep - (1 : Int32)) &&& 31)))]))
      refine own_pre (fun t k => XS.isub X26.here hx rfl (hb hby own_d5_31) rfl k) ?_
      show own_Ends _ _ _ _ (T26.setTop (mkF m 32 #[.val (.ref a0r), .val (.int p0), .unset] [(.int (((1 : Int32) <<< ((fdep - (1 : Int32)) &&& 31)) - (1 : Int32)))]))
      refine own_pre (fun t k => XS.iloadN X26.here hx rfl (hb hby own_d5_32) rfl k) ?_
      show own_Ends _ _ _ _ (T26.setTop (mkF m 33 #[.val (.ref a0r), .val (.int p0), .unset] [(.int p0), (.int (((1 : Int32) <<< ((fdep - (1 : Int32)) &&& 31)) - (1 : Int32)))]))
      refine own_pre (fun t k => XS.iadd X26.here hx rfl (hb hby own_d5_33) rfl k) ?_
      show own_Ends _ _ _ _ (T26.setTop (mkF m 34 #[.val (.ref a0r), .val (.int p0), .unset] [(.int ((((1 : Int32) <<< ((fdep - (1 : Int32)) &&& 31)) - (1 : Int32)) + p0))]))
      refine own_pre (fun t k => XS.aloadN X26.here hx rfl (hb hby own_d5_34) rfl rfl k) ?_
      show own_Ends _ _ _ _ (T26.setTop (mkF m 35 #[.val (.ref a0r), .val (.int p0), .unset] [(.ref a0r), (.int ((((1 : Int32) <<< ((fdep - (1 : Int32)) &&& 31)) - (1 : Int32)) + p0))]))
      obtain ⟨T27, X27, e27, st27⟩ := getF X26 hx hZ hown (host := "") (Or.inl (hw _ (List.mem_of_getElem? (i := 20) rfl))) Via.refl e26 F_deep (g := (mkF m 35 #[.val (.ref a0r), .val (.int p0), .unset] [(.ref a0r), (.int ((((1 : Int32) <<< ((fdep - (1 : Int32)) &&& 31)) - (1 : Int32)) + p0))])) rfl rfl (hb hby own_d5_35)
      refine own_pre st27 ?_
      show own_Ends _ _ _ _ (T27.setTop (mkF m 38 #[.val (.ref a0r), .val (.int p0), .unset] [(.int fdee), (.int ((((1 : Int32) <<< ((fdep - (1 : Int32)) &&& 31)) - (1 : Int32)) + p0))]))
      refine own_pre (fun t k => XS.iconst X27.here hx rfl (hb hby own_d5_38) k) ?_
      show own_Ends _ _ _ _ (T27.setTop (mkF m 39 #[.val (.ref a0r), .val (.int p0), .unset] [(.int (2 : Int32)), (.int fdee), (.int ((((1 : Int32) <<< ((fdep - (1 : Int32)) &&& 31)) - (1 : Int32)) + p0))]))
      refine own_pre (fun t k => XS.idiv X27.here hx rfl (hb hby own_d5_39) rfl (by decide) k) ?_
      show own_Ends _ _ _ _ (T27.setTop (mkF m 40 #[.val (.ref a0r), .val (.int p0), .unset] [(.int (fdee / (2 : Int32))), (.int ((((1 : Int32) <<< ((fdep - (1 : Int32)) &&& 31)) - (1 : Int32)) + p0))]))
      refine own_pre (fun t k => XS.isub X27.here hx rfl (hb hby own_d5_40) rfl k) ?_
      show own_Ends _ _ _ _ (T27.setTop (mkF m 41 #[.val (.ref a0r), .val (.int p0), .unset] [(.int (((((1 : Int32) <<< ((fdep - (1 : Int32)) &&& 31)) - (1 : Int32)) + p0) - (fdee / (2 : Int32))))]))
      refine own_pre (fun t k => XS.istoreN X27.here hx rfl (hb hby own_d5_41) rfl (l' := #[.val (.ref a0r), .val (.int p0), .val (.int (((((1 : Int32) <<< ((fdep - (1 : Int32)) &&& 31)) - (1 : Int32)) + p0) - (fdee / (2 : Int32))))]) rfl k) ?_
      show own_Ends _ _ _ _ (T27.setTop (mkF m 42 #[.val (.ref a0r), .val (.int p0), .val (.int (((((1 : Int32) <<< ((fdep - (1 : Int32)) &&& 31)) - (1 : Int32)) + p0) - (fdee / (2 : Int32))))] []))
      refine own_pre (fun t k => XS.iloadN X27.here hx rfl (hb hby own_d5_42) rfl k) ?_
      show own_Ends _ _ _ _ (T27.setTop (mkF m 43 #[.val (.ref a0r), .val (.int p0), .val (.int (((((1 : Int32) <<< ((fdep - (1 : Int32)) &&& 31)) - (1 : Int32)) + p0) - (fdee / (2 : Int32))))] [(.int (((((1 : Int32) <<< ((fdep - (1 : Int32)) &&& 31)) - (1 : Int32)) + p0) - (fdee / (2 : Int32))))]))
      exact own_retI X27 hx Bd.returns (hb hby own_d5_43) hlk e27 (hG _ N0) (by decide) (by decide)
  exact J0 _ fun L q => ⟨rfl, q, rfl⟩
theorem own_shl1 : ∀ k : Fin 31, ((1 : Int32) <<< (Int32.ofNat k.val &&& 31)).toInt = 2 ^ k.val := by decide +kernel
theorem own_sh : ∀ k : Fin 31, ((Int32.ofNat k.val &&& 31).toBitVec.smod 32).toNat = k.val := by decide +kernel
/-- an int from 0 to 30 is a small natural -/
theorem own_nat {x : Int32} {k : Nat} (h : x.toInt = k) (hk : k < 2 ^ 31) : x = Int32.ofNat k := by
  apply Int32.toInt_inj.mp
  rw [h, Int32.toInt_ofNat_of_lt hk]
theorem own_toN {k : Nat} (hk : k < 2 ^ 31) : (Int32.ofNat k).toInt.toNat = k := by
  rw [Int32.toInt_ofNat_of_lt hk]; omega
theorem own_one (x : Int32) {k : Nat} (h : x.toInt = k) (hk : k ≤ 30) : ((1 : Int32) <<< (x &&& 31)).toInt = 2 ^ k := by
  rw [own_nat h (by omega)]
  exact own_shl1 ⟨k, by omega⟩
theorem own_shl (y x : Int32) {k : Nat} (h : x.toInt = k) (hk : k ≤ 30) (h1 : -2 ^ 31 ≤ y.toInt * 2 ^ k) (h2 : y.toInt * 2 ^ k < 2 ^ 31) : (y <<< (x &&& 31)).toInt = y.toInt * 2 ^ k := by
  rw [own_nat h (by omega)]
  exact Jvm.Kit.i32_shl y _ (own_sh ⟨k, by omega⟩) h1 h2
theorem own_ush (x k : Int32) {j : Nat} (hx : 0 ≤ x.toInt) (hj : ((k &&& 31).toUInt32).toNat = j) (hk : j < 32) : (own_ushr x k).toInt = x.toInt / 2 ^ j :=
  Jvm.Kit.i32_iushr (Jvm.Kit.i32_nonneg.mpr hx) hj hk
theorem own_lit (k : Int32) : k.toInt = k.toInt := rfl
/-- where x stands between two powers of two -/
def own_Log (x : Int) (l : Nat) : Prop := 2 ^ l ≤ x ∧ x < 2 ^ (l + 1)
theorem own_log_step {x : Int} {l k : Nat} (h : own_Log (x / 2 ^ k) l) : own_Log x (l + k) := by
  have hp : (0 : Int) < 2 ^ k := Int.pow_pos (by decide)
  obtain ⟨h1, h2⟩ := h
  constructor
  · rw [Int.pow_add]
    have := (Int.le_ediv_iff_mul_le hp).mp h1
    exact this
  · rw [show l + k + 1 = (l + 1) + k by omega, Int.pow_add]
    exact (Int.ediv_lt_iff_lt_mul hp).mp h2
theorem own_log_unique {x : Int} {a b : Nat} (h : own_Log x a) (q : own_Log x b) : a = b := by
  have aux : ∀ {a b : Nat}, own_Log x a → own_Log x b → a ≤ b := fun {a b} h q => by
    refine Nat.le_of_not_lt fun z => ?_
    have e : (2 : Int) ^ (b + 1) ≤ 2 ^ a := by exact_mod_cast Nat.pow_le_pow_right (by decide : 0 < 2) z
    have := h.1; have := q.2
    omega
  exact Nat.le_antisymm (aux h q) (aux q h)
theorem own_Int {x : Int32} {k : Int} (h : x.toInt = k) : x.toInt = k := h
theorem own_nlz61 (x n : Int32) (h1 : 1 ≤ x.toInt) (h2 : x.toInt < 16) (hn : 3 ≤ n.toInt) (hn' : n.toInt ≤ 31) : ∃ l : Nat, l ≤ 3 ∧ own_Log x.toInt l ∧ (own_nlz_61 x n).toInt = n.toInt - l := by
  have l4 : (4 : Int32).toInt = 4 := rfl
  have lm2 : (-2 : Int32).toInt = -2 := rfl
  unfold own_nlz_61
  by_cases c : x < 4
  · rw [if_pos c]
    rw [Int32.lt_iff_toInt_lt, l4] at c
    have u1 : (own_ushr x 1).toInt = x.toInt / 2 ^ 1 := own_ush x 1 (by omega) (by decide) (by decide)
    have e : (n - own_ushr x 1).toInt = n.toInt - (own_ushr x 1).toInt := Jvm.Kit.i32_sub (by omega) (by omega)
    by_cases q : x.toInt = 1
    · exact ⟨0, by omega, ⟨by omega, by omega⟩, by omega⟩
    · exact ⟨1, by omega, ⟨by omega, by omega⟩, by omega⟩
  · rw [if_neg c]
    rw [Int32.lt_iff_toInt_lt, l4] at c
    have u1 : (own_ushr x 2).toInt = x.toInt / 2 ^ 2 := own_ush x 2 (by omega) (by decide) (by decide)
    have u2 : (own_ushr (own_ushr x 2) 1).toInt = (own_ushr x 2).toInt / 2 ^ 1 := own_ush _ 1 (by omega) (by decide) (by decide)
    have e1 : (n + -2).toInt = n.toInt + (-2 : Int32).toInt := Jvm.Kit.i32_add (by omega) (by omega)
    have e : (n + -2 - own_ushr (own_ushr x 2) 1).toInt = (n + -2).toInt - (own_ushr (own_ushr x 2) 1).toInt := Jvm.Kit.i32_sub (by omega) (by omega)
    by_cases q : x.toInt < 8
    · exact ⟨2, by omega, ⟨by omega, by omega⟩, by omega⟩
    · exact ⟨3, by omega, ⟨by omega, by omega⟩, by omega⟩
theorem own_nlz48 (x n : Int32) (h1 : 1 ≤ x.toInt) (h2 : x.toInt < 256) (hn : 7 ≤ n.toInt) (hn' : n.toInt ≤ 31) : ∃ l : Nat, l ≤ 7 ∧ own_Log x.toInt l ∧ (own_nlz_48 x n).toInt = n.toInt - l := by
  have l16 : (16 : Int32).toInt = 16 := rfl
  have lm : (-4 : Int32).toInt = -4 := rfl
  unfold own_nlz_48
  by_cases c : x < 16
  · rw [if_pos c]
    rw [Int32.lt_iff_toInt_lt, l16] at c
    obtain ⟨l, a1, a2, a3⟩ := own_nlz61 x n h1 c (by omega) hn'
    exact ⟨l, by omega, a2, a3⟩
  · rw [if_neg c]
    rw [Int32.lt_iff_toInt_lt, l16] at c
    have u1 : (own_ushr x 4).toInt = x.toInt / 2 ^ 4 := own_ush x 4 (by omega) (by decide) (by decide)
    have e1 : (n + -4).toInt = n.toInt + (-4 : Int32).toInt := Jvm.Kit.i32_add (by omega) (by omega)
    obtain ⟨l, a1, a2, a3⟩ := own_nlz61 (own_ushr x 4) (n + -4) (by omega) (by omega) (by omega) (by omega)
    rw [u1] at a2
    exact ⟨l + 4, by omega, own_log_step a2, by omega⟩
theorem own_nlz33 (x n : Int32) (h1 : 1 ≤ x.toInt) (h2 : x.toInt < 65536) (hn : 15 ≤ n.toInt) (hn' : n.toInt ≤ 31) : ∃ l : Nat, l ≤ 15 ∧ own_Log x.toInt l ∧ (own_nlz_33 x n).toInt = n.toInt - l := by
  have l16 : (256 : Int32).toInt = 256 := rfl
  have lm : (-8 : Int32).toInt = -8 := rfl
  unfold own_nlz_33
  by_cases c : x < 256
  · rw [if_pos c]
    rw [Int32.lt_iff_toInt_lt, l16] at c
    obtain ⟨l, a1, a2, a3⟩ := own_nlz48 x n h1 c (by omega) hn'
    exact ⟨l, by omega, a2, a3⟩
  · rw [if_neg c]
    rw [Int32.lt_iff_toInt_lt, l16] at c
    have u1 : (own_ushr x 8).toInt = x.toInt / 2 ^ 8 := own_ush x 8 (by omega) (by decide) (by decide)
    have e1 : (n + -8).toInt = n.toInt + (-8 : Int32).toInt := Jvm.Kit.i32_add (by omega) (by omega)
    obtain ⟨l, a1, a2, a3⟩ := own_nlz48 (own_ushr x 8) (n + -8) (by omega) (by omega) (by omega) (by omega)
    rw [u1] at a2
    exact ⟨l + 8, by omega, own_log_step a2, by omega⟩
theorem own_nlzP (x : Int32) (h1 : 1 ≤ x.toInt) : ∃ l : Nat, l ≤ 30 ∧ own_Log x.toInt l ∧ (own_nlz x).toInt = 31 - l := by
  have l0 : (0 : Int32).toInt = 0 := rfl
  have l16 : (65536 : Int32).toInt = 65536 := rfl
  have l31 : (31 : Int32).toInt = 31 := rfl
  have l15 : ((31 : Int32) + (-16 : Int32)).toInt = 15 := rfl
  have hx := x.toInt_lt
  unfold own_nlz
  rw [if_pos (by rw [Int32.lt_iff_toInt_lt]; omega)]
  by_cases c : x < 65536
  · rw [if_pos c]
    rw [Int32.lt_iff_toInt_lt, l16] at c
    obtain ⟨l, a1, a2, a3⟩ := own_nlz33 x 31 h1 c (by omega) (by omega)
    exact ⟨l, by omega, a2, by omega⟩
  · rw [if_neg c]
    rw [Int32.lt_iff_toInt_lt, l16] at c
    have u1 : (own_ushr x 16).toInt = x.toInt / 2 ^ 16 := own_ush x 16 (by omega) (by decide) (by decide)
    obtain ⟨l, a1, a2, a3⟩ := own_nlz33 (own_ushr x 16) ((31 : Int32) + (-16 : Int32)) (by omega) (by omega) (by omega) (by omega)
    rw [u1] at a2
    have hl := own_log_step a2
    refine ⟨l + 16, Nat.le_of_not_lt fun z => ?_, hl, by omega⟩
    have e : l = 15 := by omega
    subst e
    have hz : (2 : Int) ^ 31 ≤ x.toInt := hl.1
    omega
/-- a tree of N leaves has depth D -/
def own_Rng (D : Nat) (N : Int) : Prop := (D = 0 ∧ N = 1) ∨ (1 ≤ D ∧ 2 ^ (D - 1) < N ∧ N ≤ 2 ^ D)
theorem own_pow_le {D k : Nat} (h : D ≤ k) : (2 : Int) ^ D ≤ 2 ^ k := by exact_mod_cast Nat.pow_le_pow_right (by decide : 0 < 2) h
theorem own_pow_pos (D : Nat) : (0 : Int) < 2 ^ D := Int.pow_pos (by decide)
theorem own_pow_half {D : Nat} (h : 1 ≤ D) : (2 : Int) ^ D = 2 * 2 ^ (D - 1) := by
  obtain ⟨k, rfl⟩ : ∃ k, D = k + 1 := ⟨D - 1, by omega⟩
  rw [Int.pow_succ, Nat.add_sub_cancel, Int.mul_comm]
theorem own_depthEq {n : Int32} {D : Nat} (h : own_Rng D n.toInt) (hD : D ≤ 30) : (own_depth n).toInt = D := by
  rcases h with ⟨rfl, h⟩ | ⟨h1, h2, h3⟩
  · have : n = 1 := Int32.toInt_inj.mp (by rw [h]; rfl)
    subst this
    decide
  · have p1 := own_pow_pos (D - 1)
    have l1 : (1 : Int32).toInt = 1 := rfl
    have l32 : (32 : Int32).toInt = 32 := rfl
    have hx := n.toInt_lt
    have e1 : (n - 1).toInt = n.toInt - (1 : Int32).toInt := Jvm.Kit.i32_sub (by omega) (by omega)
    obtain ⟨l, a1, a2, a3⟩ := own_nlzP (n - 1) (by omega)
    have u : own_Log (n - 1).toInt (D - 1) := ⟨by omega, by rw [show D - 1 + 1 = D by omega]; omega⟩
    have := own_log_unique a2 u
    unfold own_depth
    have e2 : ((32 : Int32) - own_nlz (n - 1)).toInt = (32 : Int32).toInt - (own_nlz (n - 1)).toInt := Jvm.Kit.i32_sub (by omega) (by omega)
    omega
theorem own_deepEq {n : Int32} {D : Nat} (h : own_Rng D n.toInt) (hD : D ≤ 30) : (((2 : Int32) * n) - ((1 : Int32) <<< ((own_depth n) &&& 31))).toInt = 2 * n.toInt - 2 ^ D := by
  have e1 := own_one (own_depth n) (own_depthEq h hD) hD
  have l2 : (2 : Int32).toInt = 2 := rfl
  have p1 := own_pow_pos D
  have p2 : (2 : Int) ^ D ≤ 2 ^ 30 := own_pow_le hD
  rw [Int32.toInt_sub, Int32.toInt_mul, e1, l2, Int.bmod_sub_bmod]
  have hb : -2 ^ 31 ≤ 2 * n.toInt - 2 ^ D ∧ 2 * n.toInt - 2 ^ D < 2 ^ 31 := by
    rcases h with ⟨rfl, h⟩ | ⟨h1, h2, h3⟩
    · rw [h]; decide
    · have := own_pow_half h1
      omega
  exact Jvm.Kit.bmod32 hb.1 hb.2

theorem own_d30 {x y : Int32} (h : (y &&& 2147483647) % 31 = x) : 0 ≤ x.toInt ∧ x.toInt ≤ 30 := by
  have e1 : (y &&& 2147483647).toInt = y.toInt % 2 ^ 31 := Jvm.Kit.i32_mask y 2147483647 (by decide) (by decide)
  have e2 : ((y &&& 2147483647) % 31).toInt = (y &&& 2147483647).toInt % (31 : Int32).toInt := Jvm.Kit.i32_rem_nonneg (by rw [e1]; omega)
  have e3 : (31 : Int32).toInt = 31 := rfl
  rw [h, e3] at e2
  omega
theorem own_remB {x y n : Int32} (h : (y &&& 2147483647) % n = x) (hn : 1 ≤ n.toInt) : 0 ≤ x.toInt ∧ x.toInt < n.toInt := by
  have e1 : (y &&& 2147483647).toInt = y.toInt % 2 ^ 31 := Jvm.Kit.i32_mask y 2147483647 (by decide) (by decide)
  have e2 : ((y &&& 2147483647) % n).toInt = (y &&& 2147483647).toInt % n.toInt := Jvm.Kit.i32_rem_nonneg (by rw [e1]; omega)
  rw [h] at e2
  rw [e2]
  exact ⟨Int.emod_nonneg _ (by omega), Int.emod_lt_of_pos _ (by omega)⟩
theorem own_nz {x : Int32} (h : 1 ≤ x.toInt) : x ≠ 0 := fun q => by
  rw [q] at h
  exact absurd h (by decide)
/-- half, and n -/
theorem own_half {d h : Int32} (hd : 0 ≤ d.toInt ∧ d.toInt ≤ 30) (h0 : ¬ d = 0) (hh : (1 : Int32) <<< ((d - 1) &&& 31) = h) : h.toInt = 2 ^ (d.toInt.toNat - 1) ∧ 1 ≤ d.toInt := by
  have h1 : 1 ≤ d.toInt := by
    refine Int.not_lt.mp fun q => h0 (Int32.toInt_inj.mp ?_)
    have : (0 : Int32).toInt = 0 := rfl
    omega
  have l1 : (1 : Int32).toInt = 1 := rfl
  have e1 : (d - 1).toInt = d.toInt - (1 : Int32).toInt := Jvm.Kit.i32_sub (by omega) (by omega)
  subst hh
  exact ⟨own_one (d - 1) (k := d.toInt.toNat - 1) (by omega) (by omega), h1⟩
theorem own_rng {d h n y : Int32} (hd : 0 ≤ d.toInt ∧ d.toInt ≤ 30) (h0 : ¬ d = 0) (hh : (1 : Int32) <<< ((d - 1) &&& 31) = h) (hn : (h + 1) + ((y &&& 2147483647) % h) = n) : own_Rng d.toInt.toNat n.toInt := by
  obtain ⟨e1, h1⟩ := own_half hd h0 hh
  have p1 := own_pow_pos (d.toInt.toNat - 1)
  have p2 : (2 : Int) ^ (d.toInt.toNat - 1) ≤ 2 ^ 29 := own_pow_le (by omega)
  have p3 := own_pow_half (D := d.toInt.toNat) (by omega)
  obtain ⟨r1, r2⟩ := own_remB (x := (y &&& 2147483647) % h) rfl (by omega)
  have l1 : (1 : Int32).toInt = 1 := rfl
  have a1 : (h + 1).toInt = h.toInt + (1 : Int32).toInt := Jvm.Kit.i32_add (by omega) (by omega)
  have a2 : (h + 1 + (y &&& 2147483647) % h).toInt = (h + 1).toInt + ((y &&& 2147483647) % h).toInt := Jvm.Kit.i32_add (by omega) (by omega)
  rw [hn] at a2
  exact Or.inr ⟨by omega, by omega, by omega⟩
theorem own_rng0 {d : Int32} (h0 : d = 0) : own_Rng d.toInt.toNat (1 : Int32).toInt := by
  subst h0
  exact Or.inl ⟨rfl, rfl⟩
theorem own_rngPos {D : Nat} {N : Int} (h : own_Rng D N) : 1 ≤ N := by
  rcases h with ⟨-, h⟩ | ⟨-, h, -⟩
  · omega
  · have := own_pow_pos (D - 1)
    omega
theorem own_shlL1 : ∀ k : Fin 31, ((1 : Int64) <<< ((Int32.ofNat k.val) &&& 0x3f).toInt64).toInt = 2 ^ k.val := by decide +kernel
theorem own_full {d : Int32} (hd : 0 ≤ d.toInt ∧ d.toInt ≤ 30) : ((1 : Int64) <<< (d &&& 0x3f).toInt64).toInt = 2 ^ d.toInt.toNat := by
  have e : d = Int32.ofNat d.toInt.toNat := own_nat (by omega) (by omega)
  rw [e]
  have := own_shlL1 ⟨d.toInt.toNat, by omega⟩
  rw [own_toN (by omega)]
  exact this
theorem own_deepL {d n : Int32} {q8 : Int64} (hd : 0 ≤ d.toInt ∧ d.toInt ≤ 30) (hr : own_Rng d.toInt.toNat n.toInt) (h : ((2 : Int64) * n.toInt64) - ((1 : Int64) <<< (d &&& 0x3f).toInt64) = q8) : q8.toInt = 2 * n.toInt - 2 ^ d.toInt.toNat := by
  have f := own_full hd
  have a := n.toInt_lt; have b := n.le_toInt
  have p1 := own_pow_pos d.toInt.toNat
  have p2 : (2 : Int) ^ d.toInt.toNat ≤ 2 ^ 30 := own_pow_le (by omega)
  have l2 : (2 : Int64).toInt = 2 := rfl
  have e0 : n.toInt64.toInt = n.toInt := Jvm.Kit.i64_of_i32 n
  have e1 : ((2 : Int64) * n.toInt64).toInt = (2 : Int64).toInt * n.toInt64.toInt := Jvm.Kit.i64_mul (by rw [e0, l2]; omega) (by rw [e0, l2]; omega)
  have e2 : (((2 : Int64) * n.toInt64) - ((1 : Int64) <<< (d &&& 0x3f).toInt64)).toInt = ((2 : Int64) * n.toInt64).toInt - ((1 : Int64) <<< (d &&& 0x3f).toInt64).toInt := Jvm.Kit.i64_sub (by rw [e1, e0, l2, f]; omega) (by rw [e1, e0, l2, f]; omega)
  rw [h] at e2
  rw [e2, e1, e0, l2, f]
/-- the leaf's place as the program reckons it -/
theorem own_leafI {d n p : Int32} (hd : 0 ≤ d.toInt ∧ d.toInt ≤ 30) (hr : own_Rng d.toInt.toNat n.toInt) (hp : 0 ≤ p.toInt ∧ p.toInt < n.toInt) :
    (own_leaf (own_depth n) (((2 : Int32) * n) - ((1 : Int32) <<< ((own_depth n) &&& 31))) p).toInt = if p.toInt < 2 * n.toInt - 2 ^ d.toInt.toNat then 2 ^ d.toInt.toNat - 1 + p.toInt else 2 ^ d.toInt.toNat - 1 - n.toInt + p.toInt := by
  have ed := own_depthEq hr (by omega)
  have ee := own_deepEq hr (by omega)
  have es := own_one (own_depth n) ed (by omega)
  have p1 := own_pow_pos d.toInt.toNat
  have p2 : (2 : Int) ^ d.toInt.toNat ≤ 2 ^ 30 := own_pow_le (by omega)
  have l1 : (1 : Int32).toInt = 1 := rfl
  have l2 : (2 : Int32).toInt = 2 := rfl
  have a := n.toInt_lt
  have hN : n.toInt ≤ 2 ^ d.toInt.toNat := by
    rcases hr with ⟨h, h'⟩ | ⟨-, -, h⟩
    · rw [h, h']; decide
    · exact h
  unfold own_leaf
  generalize hdee : (((2 : Int32) * n) - ((1 : Int32) <<< ((own_depth n) &&& 31))) = dee at *
  by_cases c : p.toInt < 2 * n.toInt - 2 ^ d.toInt.toNat
  · rw [if_pos c, if_pos (by rw [Int32.lt_iff_toInt_lt]; omega)]
    have e1 : (((1 : Int32) <<< ((own_depth n) &&& 31)) - 1).toInt = ((1 : Int32) <<< ((own_depth n) &&& 31)).toInt - (1 : Int32).toInt := Jvm.Kit.i32_sub (by omega) (by omega)
    have e2 : (((1 : Int32) <<< ((own_depth n) &&& 31)) - 1 + p).toInt = (((1 : Int32) <<< ((own_depth n) &&& 31)) - 1).toInt + p.toInt := Jvm.Kit.i32_add (by omega) (by omega)
    omega
  · rw [if_neg c, if_neg (by rw [Int32.lt_iff_toInt_lt]; omega)]
    rcases hr with ⟨h, h'⟩ | ⟨h1, h2, h3⟩
    · rw [h, h'] at c
      exact absurd c (by rw [h'] at hp; simp; omega)
    · have p3 := own_pow_half h1
      have p4 := own_pow_pos (d.toInt.toNat - 1)
      have f1 : (own_depth n - 1).toInt = (own_depth n).toInt - (1 : Int32).toInt := Jvm.Kit.i32_sub (by omega) (by omega)
      have f2 := own_one (own_depth n - 1) (k := d.toInt.toNat - 1) (by omega) (by omega)
      have e0 : (dee / 2).toInt = dee.toInt / 2 := by
        rw [Jvm.Kit.i32_div (by rw [l2]; omega), l2, Int.tdiv_eq_ediv_of_nonneg (by omega)]
      have e1 : (((1 : Int32) <<< ((own_depth n - 1) &&& 31)) - 1).toInt = ((1 : Int32) <<< ((own_depth n - 1) &&& 31)).toInt - (1 : Int32).toInt := Jvm.Kit.i32_sub (by omega) (by omega)
      have e2 : (((1 : Int32) <<< ((own_depth n - 1) &&& 31)) - 1 + p).toInt = (((1 : Int32) <<< ((own_depth n - 1) &&& 31)) - 1).toInt + p.toInt := Jvm.Kit.i32_add (by omega) (by omega)
      have e3 : (((1 : Int32) <<< ((own_depth n - 1) &&& 31)) - 1 + p - dee / 2).toInt = (((1 : Int32) <<< ((own_depth n - 1) &&& 31)) - 1 + p).toInt - (dee / 2).toInt := Jvm.Kit.i32_sub (by omega) (by omega)
      omega
theorem own_finA {d n p : Int32} {q6 q8 q10 : Int64} (hd : 0 ≤ d.toInt ∧ d.toInt ≤ 30) (hr : own_Rng d.toInt.toNat n.toInt) (hp : 0 ≤ p.toInt ∧ p.toInt < n.toInt) (h6 : (1 : Int64) <<< (d &&& 0x3f).toInt64 = q6) (h8 : ((2 : Int64) * n.toInt64) - q6 = q8) (c : own_cmpL p.toInt64 q8 < 0) (h10 : (q6 - 1) + p.toInt64 = q10) :
    own_cmpL (own_leaf (own_depth n) (((2 : Int32) * n) - ((1 : Int32) <<< ((own_depth n) &&& 31))) p).toInt64 q10 = 0 := by
  have f := own_full hd
  have a := n.toInt_lt
  rw [← h6] at h8
  have e8 := own_deepL hd hr h8
  rw [h6] at f
  have p1 := own_pow_pos d.toInt.toNat
  have p2 : (2 : Int) ^ d.toInt.toNat ≤ 2 ^ 30 := own_pow_le (by omega)
  have l1 : (1 : Int64).toInt = 1 := rfl
  rw [own_clt, Int64.lt_iff_toInt_lt, Jvm.Kit.i64_of_i32, e8] at c
  rw [own_ceq]
  apply Int64.toInt_inj.mp
  have m1 : (q6 - 1).toInt = q6.toInt - (1 : Int64).toInt := Jvm.Kit.i64_sub (by omega) (by omega)
  have m2 : (q6 - 1 + p.toInt64).toInt = (q6 - 1).toInt + p.toInt64.toInt := Jvm.Kit.i64_add (by rw [Jvm.Kit.i64_of_i32]; omega) (by rw [Jvm.Kit.i64_of_i32]; omega)
  rw [h10, Jvm.Kit.i64_of_i32] at m2
  rw [Jvm.Kit.i64_of_i32, own_leafI hd hr hp, if_pos c]
  omega
theorem own_finB {d n p : Int32} {q6 q8 q10 : Int64} (hd : 0 ≤ d.toInt ∧ d.toInt ≤ 30) (hr : own_Rng d.toInt.toNat n.toInt) (hp : 0 ≤ p.toInt ∧ p.toInt < n.toInt) (h6 : (1 : Int64) <<< (d &&& 0x3f).toInt64 = q6) (h8 : ((2 : Int64) * n.toInt64) - q6 = q8) (c : ¬ own_cmpL p.toInt64 q8 < 0) (h10 : ((q6 - 1) - n.toInt64) + p.toInt64 = q10) :
    own_cmpL (own_leaf (own_depth n) (((2 : Int32) * n) - ((1 : Int32) <<< ((own_depth n) &&& 31))) p).toInt64 q10 = 0 := by
  have f := own_full hd
  have a := n.toInt_lt
  rw [← h6] at h8
  have e8 := own_deepL hd hr h8
  rw [h6] at f
  have p1 := own_pow_pos d.toInt.toNat
  have p2 : (2 : Int) ^ d.toInt.toNat ≤ 2 ^ 30 := own_pow_le (by omega)
  have l1 : (1 : Int64).toInt = 1 := rfl
  rw [own_clt, Int64.lt_iff_toInt_lt, Jvm.Kit.i64_of_i32, e8] at c
  rw [own_ceq]
  apply Int64.toInt_inj.mp
  have m1 : (q6 - 1).toInt = q6.toInt - (1 : Int64).toInt := Jvm.Kit.i64_sub (by omega) (by omega)
  have m2 : (q6 - 1 - n.toInt64).toInt = (q6 - 1).toInt - n.toInt64.toInt := Jvm.Kit.i64_sub (by rw [Jvm.Kit.i64_of_i32]; omega) (by rw [Jvm.Kit.i64_of_i32]; omega)
  rw [Jvm.Kit.i64_of_i32] at m2
  have m3 : (q6 - 1 - n.toInt64 + p.toInt64).toInt = (q6 - 1 - n.toInt64).toInt + p.toInt64.toInt := Jvm.Kit.i64_add (by rw [Jvm.Kit.i64_of_i32]; omega) (by rw [Jvm.Kit.i64_of_i32]; omega)
  rw [h10, Jvm.Kit.i64_of_i32] at m3
  rw [Jvm.Kit.i64_of_i32, own_leafI hd hr hp, if_neg c]
  omega
theorem own_pd1 : parseMethodDescriptor "(I)V" = some ⟨[.int], none⟩ := by decide +kernel
theorem own_pn2 : plainName "com/example/cardea/cardea/scheme/BinaryTreeLeafPinLaw" = true := by first | (simp [plainName, overriddenIn]; done) | decide +kernel
theorem own_ef_rm0 (m : MethodId) (x0 : Int32) (x1 : Int32) (x2 : Int32) : entryFrame m #[(.int x0), (.int x1), (.int x2)] maxLocals = mkF m 0 #[.val (.int x0), .val (.int x1), .val (.int x2), .unset, .unset, .unset, .unset, .unset, .unset, .unset, .unset, .unset, .unset] [] := by first | (simp [entryFrame, mkF, argsToLocals, Value.category, maxLocals]; done) | rfl
def own_Q_rm0 (Z : State) (p0 : Int32) (p1 : Int32) (p2 : Int32) (h0 : Heap) (n0 : Nat) (v : Option Value) (h : Heap) (L : List Loc) : Prop := v = some (.int 1) ∧ Fr n0 L
set_option maxRecDepth 65536 in
set_option maxHeartbeats 40000000 in
theorem rm0 (l : Launch) (Z : State) (a0 : Array Value) (hw : ∀ d ∈ tables_1, d.before a0 Z = true) (ws : List Jvm.Cond) (p0 : Int32) (p1 : Int32) (p2 : Int32) (h0 : Heap) (n0 : Nat) (Z0 : n0 ≤ h0.size) :
    MetFree l x (head1 (Jvm.Cond.code x code maxLocals ret :: ws) room_1) (fun a U => a = #[(.int p0), (.int p1), (.int p2)] ∧ Z.Warmed39 U.vm ∧ U.heap = h0) (fun _ _ _ _ _ => True) (fun _ U o U' => ∃ v L, o = .returned v ∧ (own_Q_rm0 Z p0 p1 p2 h0 n0) v U'.heap L ∧ FrameEnd U o U' L 16 128) := by
  refine MetFree.of_bodySF (plainFor_of_name own_pn2) hisR ?_
  intro p e s m args below meth c s₁ Bd hml0 hP hK
  obtain ⟨rfl, hZ, hh⟩ := hP
  have hx := Bd.exec
  have hby := Bd.bytes
  have hml : c.maxLocals = 13 := hml0
  have hown : s.vm.findClass "com/example/cardea/cardea/scheme/BinaryTreeLeafPinLaw" = some m.cls := findClass_of_methodNamed Bd.named
  have hnm := (name_of_methodNamed Bd.named Bd.method).1
  have hlk : meth.locks = false := BodyLoose.notSynchronized Bd
  have X0 : Stand p l e room_1 s m #[(.int p0), (.int p1), (.int p2)] below meth c s₁ [] 0 0 := Stand.of_body Bd
  have e0 : s₁.heap = h0 := by rw [← hh, Bd.state]; rfl
  have N0 := Fr.nil n0
  show own_Ends p e below (own_Fin s (own_Q_rm0 Z p0 p1 p2 h0 n0) 16 128) _
  refine own_pre (fun t k => castTop (own_ef_rm0 m p0 p1 p2) k) ?_
  show own_Ends _ _ _ _ (s₁.setTop (mkF m 0 #[.val (.int p0), .val (.int p1), .val (.int p2), .unset, .unset, .unset, .unset, .unset, .unset, .unset, .unset, .unset, .unset] []))
  refine own_pre (fun t k => XS.iloadN X0.here hx rfl (hb hby at_0) rfl k) ?_
  show own_Ends _ _ _ _ (s₁.setTop (mkF m 1 #[.val (.int p0), .val (.int p1), .val (.int p2), .unset, .unset, .unset, .unset, .unset, .unset, .unset, .unset, .unset, .unset] [(.int p0)]))
  refine own_pre (fun t k => X0.ldcInt hx hown (mvT hZ (hw _ (List.mem_of_getElem? (i := 0) rfl))) (g := (mkF m 1 #[.val (.int p0), .val (.int p1), .val (.int p2), .unset, .unset, .unset, .unset, .unset, .unset, .unset, .unset, .unset, .unset] [(.int p0)])) rfl (hb hby at_1) _ k) ?_
  show own_Ends _ _ _ _ (s₁.setTop (mkF m 3 #[.val (.int p0), .val (.int p1), .val (.int p2), .unset, .unset, .unset, .unset, .unset, .unset, .unset, .unset, .unset, .unset] [(.int (2147483647 : Int32)), (.int p0)]))
  refine own_pre (fun t k => XS.iand X0.here hx rfl (hb hby at_3) rfl k) ?_
  show own_Ends _ _ _ _ (s₁.setTop (mkF m 4 #[.val (.int p0), .val (.int p1), .val (.int p2), .unset, .unset, .unset, .unset, .unset, .unset, .unset, .unset, .unset, .unset] [(.int (p0 &&& (2147483647 : Int32)))]))
  refine own_pre (fun t k => XS.bipush X0.here hx rfl (hb hby at_4) k) ?_
  show own_Ends _ _ _ _ (s₁.setTop (mkF m 6 #[.val (.int p0), .val (.int p1), .val (.int p2), .unset, .unset, .unset, .unset, .unset, .unset, .unset, .unset, .unset, .unset] [(.int (31 : Int32)), (.int (p0 &&& (2147483647 : Int32)))]))
  refine own_pre (fun t k => iremM X0 hx rfl (hb hby at_6) rfl (by decide) k) ?_
  show own_Ends _ _ _ _ (s₁.setTop (mkF m 7 #[.val (.int p0), .val (.int p1), .val (.int p2), .unset, .unset, .unset, .unset, .unset, .unset, .unset, .unset, .unset, .unset] [(.int ((p0 &&& (2147483647 : Int32)) % (31 : Int32)))]))
  refine own_pre (fun t k => XS.istoreN X0.here hx rfl (hb hby at_7) rfl (l' := #[.val (.int p0), .val (.int p1), .val (.int p2), .val (.int ((p0 &&& (2147483647 : Int32)) % (31 : Int32))), .unset, .unset, .unset, .unset, .unset, .unset, .unset, .unset, .unset]) rfl k) ?_
  show own_Ends _ _ _ _ (s₁.setTop (mkF m 8 #[.val (.int p0), .val (.int p1), .val (.int p2), .val (.int ((p0 &&& (2147483647 : Int32)) % (31 : Int32))), .unset, .unset, .unset, .unset, .unset, .unset, .unset, .unset, .unset] []))
  generalize hx3 : ((p0 &&& (2147483647 : Int32)) % (31 : Int32)) = x3
  show own_Ends _ _ _ _ (s₁.setTop (mkF m 8 #[.val (.int p0), .val (.int p1), .val (.int p2), .val (.int x3), .unset, .unset, .unset, .unset, .unset, .unset, .unset, .unset, .unset] []))
  refine own_pre (fun t k => XS.iloadN X0.here hx rfl (hb hby at_8) rfl k) ?_
  show own_Ends _ _ _ _ (s₁.setTop (mkF m 9 #[.val (.int p0), .val (.int p1), .val (.int p2), .val (.int x3), .unset, .unset, .unset, .unset, .unset, .unset, .unset, .unset, .unset] [(.int x3)]))
  by_cases hc28 : x3 = (0 : Int32)
  · skip
    refine own_pre (fun t k => XS.ifNo X0.here hx rfl (hb hby at_9) rfl ((if0 _ _).trans (teq hc28).2) k) ?_
    show own_Ends _ _ _ _ (s₁.setTop (mkF m 12 #[.val (.int p0), .val (.int p1), .val (.int p2), .val (.int x3), .unset, .unset, .unset, .unset, .unset, .unset, .unset, .unset, .unset] []))
    refine own_pre (fun t k => XS.iconst X0.here hx rfl (hb hby at_12) k) ?_
    show own_Ends _ _ _ _ (s₁.setTop (mkF m 13 #[.val (.int p0), .val (.int p1), .val (.int p2), .val (.int x3), .unset, .unset, .unset, .unset, .unset, .unset, .unset, .unset, .unset] [(.int (1 : Int32))]))
    refine own_pre (fun t k => XS.istore X0.here hx rfl (hb hby at_13) rfl (l' := #[.val (.int p0), .val (.int p1), .val (.int p2), .val (.int x3), .val (.int (1 : Int32)), .unset, .unset, .unset, .unset, .unset, .unset, .unset, .unset]) rfl k) ?_
    show own_Ends _ _ _ _ (s₁.setTop (mkF m 15 #[.val (.int p0), .val (.int p1), .val (.int p2), .val (.int x3), .val (.int (1 : Int32)), .unset, .unset, .unset, .unset, .unset, .unset, .unset, .unset] []))
    refine own_pre (fun t k => XS.goto X0.here hx rfl (pc0 := 15) (pc' := 39) rfl (hb hby at_15) (by decide) (by decide) k) ?_
    show own_Ends _ _ _ _ (s₁.setTop (mkF m 39 #[.val (.int p0), .val (.int p1), .val (.int p2), .val (.int x3), .val (.int (1 : Int32)), .unset, .unset, .unset, .unset, .unset, .unset, .unset, .unset] []))
    refine own_pre (fun t k => XS.iloadN X0.here hx rfl (hb hby at_39) rfl k) ?_
    show own_Ends _ _ _ _ (s₁.setTop (mkF m 40 #[.val (.int p0), .val (.int p1), .val (.int p2), .val (.int x3), .val (.int (1 : Int32)), .unset, .unset, .unset, .unset, .unset, .unset, .unset, .unset] [(.int p2)]))
    refine own_pre (fun t k => X0.ldcInt hx hown (mvT hZ (hw _ (List.mem_of_getElem? (i := 0) rfl))) (g := (mkF m 40 #[.val (.int p0), .val (.int p1), .val (.int p2), .val (.int x3), .val (.int (1 : Int32)), .unset, .unset, .unset, .unset, .unset, .unset, .unset, .unset] [(.int p2)])) rfl (hb hby at_40) _ k) ?_
    show own_Ends _ _ _ _ (s₁.setTop (mkF m 42 #[.val (.int p0), .val (.int p1), .val (.int p2), .val (.int x3), .val (.int (1 : Int32)), .unset, .unset, .unset, .unset, .unset, .unset, .unset, .unset] [(.int (2147483647 : Int32)), (.int p2)]))
    refine own_pre (fun t k => XS.iand X0.here hx rfl (hb hby at_42) rfl k) ?_
    show own_Ends _ _ _ _ (s₁.setTop (mkF m 43 #[.val (.int p0), .val (.int p1), .val (.int p2), .val (.int x3), .val (.int (1 : Int32)), .unset, .unset, .unset, .unset, .unset, .unset, .unset, .unset] [(.int (p2 &&& (2147483647 : Int32)))]))
    refine own_pre (fun t k => XS.iload X0.here hx rfl (hb hby at_43) rfl k) ?_
    show own_Ends _ _ _ _ (s₁.setTop (mkF m 45 #[.val (.int p0), .val (.int p1), .val (.int p2), .val (.int x3), .val (.int (1 : Int32)), .unset, .unset, .unset, .unset, .unset, .unset, .unset, .unset] [(.int (1 : Int32)), (.int (p2 &&& (2147483647 : Int32)))]))
    refine own_pre (fun t k => iremM X0 hx rfl (hb hby at_45) rfl (by decide) k) ?_
    show own_Ends _ _ _ _ (s₁.setTop (mkF m 46 #[.val (.int p0), .val (.int p1), .val (.int p2), .val (.int x3), .val (.int (1 : Int32)), .unset, .unset, .unset, .unset, .unset, .unset, .unset, .unset] [(.int ((p2 &&& (2147483647 : Int32)) % (1 : Int32)))]))
    refine own_pre (fun t k => XS.istore X0.here hx rfl (hb hby at_46) rfl (l' := #[.val (.int p0), .val (.int p1), .val (.int p2), .val (.int x3), .val (.int (1 : Int32)), .val (.int ((p2 &&& (2147483647 : Int32)) % (1 : Int32))), .unset, .unset, .unset, .unset, .unset, .unset, .unset]) rfl k) ?_
    show own_Ends _ _ _ _ (s₁.setTop (mkF m 48 #[.val (.int p0), .val (.int p1), .val (.int p2), .val (.int x3), .val (.int (1 : Int32)), .val (.int ((p2 &&& (2147483647 : Int32)) % (1 : Int32))), .unset, .unset, .unset, .unset, .unset, .unset, .unset] []))
    generalize hy5 : ((p2 &&& (2147483647 : Int32)) % (1 : Int32)) = y5
    show own_Ends _ _ _ _ (s₁.setTop (mkF m 48 #[.val (.int p0), .val (.int p1), .val (.int p2), .val (.int x3), .val (.int (1 : Int32)), .val (.int y5), .unset, .unset, .unset, .unset, .unset, .unset, .unset] []))
    refine own_pre (fun t k => XS.lconst X0.here hx rfl (hb hby at_48) k) ?_
    show own_Ends _ _ _ _ (s₁.setTop (mkF m 49 #[.val (.int p0), .val (.int p1), .val (.int p2), .val (.int x3), .val (.int (1 : Int32)), .val (.int y5), .unset, .unset, .unset, .unset, .unset, .unset, .unset] [(.long (1 : Int64))]))
    refine own_pre (fun t k => XS.iloadN X0.here hx rfl (hb hby at_49) rfl k) ?_
    show own_Ends _ _ _ _ (s₁.setTop (mkF m 50 #[.val (.int p0), .val (.int p1), .val (.int p2), .val (.int x3), .val (.int (1 : Int32)), .val (.int y5), .unset, .unset, .unset, .unset, .unset, .unset, .unset] [(.int x3), (.long (1 : Int64))]))
    refine own_pre (fun t k => XS.lshl X0.here hx rfl (hb hby at_50) rfl k) ?_
    show own_Ends _ _ _ _ (s₁.setTop (mkF m 51 #[.val (.int p0), .val (.int p1), .val (.int p2), .val (.int x3), .val (.int (1 : Int32)), .val (.int y5), .unset, .unset, .unset, .unset, .unset, .unset, .unset] [(.long ((1 : Int64) <<< (x3 &&& 0x3f).toInt64))]))
    refine own_pre (fun t k => XS.lstore X0.here hx rfl (hb hby at_51) rfl (l' := #[.val (.int p0), .val (.int p1), .val (.int p2), .val (.int x3), .val (.int (1 : Int32)), .val (.int y5), .val (.long ((1 : Int64) <<< (x3 &&& 0x3f).toInt64)), .second, .unset, .unset, .unset, .unset, .unset]) rfl k) ?_
    show own_Ends _ _ _ _ (s₁.setTop (mkF m 53 #[.val (.int p0), .val (.int p1), .val (.int p2), .val (.int x3), .val (.int (1 : Int32)), .val (.int y5), .val (.long ((1 : Int64) <<< (x3 &&& 0x3f).toInt64)), .second, .unset, .unset, .unset, .unset, .unset] []))
    generalize hq6 : ((1 : Int64) <<< (x3 &&& 0x3f).toInt64) = q6
    show own_Ends _ _ _ _ (s₁.setTop (mkF m 53 #[.val (.int p0), .val (.int p1), .val (.int p2), .val (.int x3), .val (.int (1 : Int32)), .val (.int y5), .val (.long q6), .second, .unset, .unset, .unset, .unset, .unset] []))
    refine own_pre (fun t k => X0.ldc2Long hx hown (mvT hZ (hw _ (List.mem_of_getElem? (i := 1) rfl))) (g := (mkF m 53 #[.val (.int p0), .val (.int p1), .val (.int p2), .val (.int x3), .val (.int (1 : Int32)), .val (.int y5), .val (.long q6), .second, .unset, .unset, .unset, .unset, .unset] [])) rfl (hb hby at_53) _ k) ?_
    show own_Ends _ _ _ _ (s₁.setTop (mkF m 56 #[.val (.int p0), .val (.int p1), .val (.int p2), .val (.int x3), .val (.int (1 : Int32)), .val (.int y5), .val (.long q6), .second, .unset, .unset, .unset, .unset, .unset] [(.long (2 : Int64))]))
    refine own_pre (fun t k => XS.iload X0.here hx rfl (hb hby at_56) rfl k) ?_
    show own_Ends _ _ _ _ (s₁.setTop (mkF m 58 #[.val (.int p0), .val (.int p1), .val (.int p2), .val (.int x3), .val (.int (1 : Int32)), .val (.int y5), .val (.long q6), .second, .unset, .unset, .unset, .unset, .unset] [(.int (1 : Int32)), (.long (2 : Int64))]))
    refine own_pre (fun t k => XS.i2l X0.here hx rfl (hb hby at_58) rfl k) ?_
    show own_Ends _ _ _ _ (s₁.setTop (mkF m 59 #[.val (.int p0), .val (.int p1), .val (.int p2), .val (.int x3), .val (.int (1 : Int32)), .val (.int y5), .val (.long q6), .second, .unset, .unset, .unset, .unset, .unset] [(.long ((1 : Int32).toInt64)), (.long (2 : Int64))]))
    refine own_pre (fun t k => XS.lmul X0.here hx rfl (hb hby at_59) rfl k) ?_
    show own_Ends _ _ _ _ (s₁.setTop (mkF m 60 #[.val (.int p0), .val (.int p1), .val (.int p2), .val (.int x3), .val (.int (1 : Int32)), .val (.int y5), .val (.long q6), .second, .unset, .unset, .unset, .unset, .unset] [(.long ((2 : Int64) * ((1 : Int32).toInt64)))]))
    refine own_pre (fun t k => XS.lload X0.here hx rfl (hb hby at_60) rfl k) ?_
    show own_Ends _ _ _ _ (s₁.setTop (mkF m 62 #[.val (.int p0), .val (.int p1), .val (.int p2), .val (.int x3), .val (.int (1 : Int32)), .val (.int y5), .val (.long q6), .second, .unset, .unset, .unset, .unset, .unset] [(.long q6), (.long ((2 : Int64) * ((1 : Int32).toInt64)))]))
    refine own_pre (fun t k => XS.lsub X0.here hx rfl (hb hby at_62) rfl k) ?_
    show own_Ends _ _ _ _ (s₁.setTop (mkF m 63 #[.val (.int p0), .val (.int p1), .val (.int p2), .val (.int x3), .val (.int (1 : Int32)), .val (.int y5), .val (.long q6), .second, .unset, .unset, .unset, .unset, .unset] [(.long (((2 : Int64) * ((1 : Int32).toInt64)) - q6))]))
    refine own_pre (fun t k => XS.lstore X0.here hx rfl (hb hby at_63) rfl (l' := #[.val (.int p0), .val (.int p1), .val (.int p2), .val (.int x3), .val (.int (1 : Int32)), .val (.int y5), .val (.long q6), .second, .val (.long (((2 : Int64) * ((1 : Int32).toInt64)) - q6)), .second, .unset, .unset, .unset]) rfl k) ?_
    show own_Ends _ _ _ _ (s₁.setTop (mkF m 65 #[.val (.int p0), .val (.int p1), .val (.int p2), .val (.int x3), .val (.int (1 : Int32)), .val (.int y5), .val (.long q6), .second, .val (.long (((2 : Int64) * ((1 : Int32).toInt64)) - q6)), .second, .unset, .unset, .unset] []))
    generalize hq8 : (((2 : Int64) * ((1 : Int32).toInt64)) - q6) = q8
    show own_Ends _ _ _ _ (s₁.setTop (mkF m 65 #[.val (.int p0), .val (.int p1), .val (.int p2), .val (.int x3), .val (.int (1 : Int32)), .val (.int y5), .val (.long q6), .second, .val (.long q8), .second, .unset, .unset, .unset] []))
    refine own_pre (fun t k => XS.iload X0.here hx rfl (hb hby at_65) rfl k) ?_
    show own_Ends _ _ _ _ (s₁.setTop (mkF m 67 #[.val (.int p0), .val (.int p1), .val (.int p2), .val (.int x3), .val (.int (1 : Int32)), .val (.int y5), .val (.long q6), .second, .val (.long q8), .second, .unset, .unset, .unset] [(.int y5)]))
    refine own_pre (fun t k => XS.i2l X0.here hx rfl (hb hby at_67) rfl k) ?_
    show own_Ends _ _ _ _ (s₁.setTop (mkF m 68 #[.val (.int p0), .val (.int p1), .val (.int p2), .val (.int x3), .val (.int (1 : Int32)), .val (.int y5), .val (.long q6), .second, .val (.long q8), .second, .unset, .unset, .unset] [(.long (y5.toInt64))]))
    refine own_pre (fun t k => XS.lload X0.here hx rfl (hb hby at_68) rfl k) ?_
    show own_Ends _ _ _ _ (s₁.setTop (mkF m 70 #[.val (.int p0), .val (.int p1), .val (.int p2), .val (.int x3), .val (.int (1 : Int32)), .val (.int y5), .val (.long q6), .second, .val (.long q8), .second, .unset, .unset, .unset] [(.long q8), (.long (y5.toInt64))]))
    refine own_pre (fun t k => XS.lcmp X0.here hx rfl (hb hby at_70) rfl k) ?_
    show own_Ends _ _ _ _ (s₁.setTop (mkF m 71 #[.val (.int p0), .val (.int p1), .val (.int p2), .val (.int x3), .val (.int (1 : Int32)), .val (.int y5), .val (.long q6), .second, .val (.long q8), .second, .unset, .unset, .unset] [(.int (own_cmpL (y5.toInt64) q8))]))
    by_cases hc29 : (own_cmpL (y5.toInt64) q8) < (0 : Int32)
    · skip
      refine own_pre (fun t k => XS.ifNo X0.here hx rfl (hb hby at_71) rfl ((if0 _ _).trans (tlt hc29).2.1) k) ?_
      show own_Ends _ _ _ _ (s₁.setTop (mkF m 74 #[.val (.int p0), .val (.int p1), .val (.int p2), .val (.int x3), .val (.int (1 : Int32)), .val (.int y5), .val (.long q6), .second, .val (.long q8), .second, .unset, .unset, .unset] []))
      refine own_pre (fun t k => XS.lload X0.here hx rfl (hb hby at_74) rfl k) ?_
      show own_Ends _ _ _ _ (s₁.setTop (mkF m 76 #[.val (.int p0), .val (.int p1), .val (.int p2), .val (.int x3), .val (.int (1 : Int32)), .val (.int y5), .val (.long q6), .second, .val (.long q8), .second, .unset, .unset, .unset] [(.long q6)]))
      refine own_pre (fun t k => XS.lconst X0.here hx rfl (hb hby at_76) k) ?_
      show own_Ends _ _ _ _ (s₁.setTop (mkF m 77 #[.val (.int p0), .val (.int p1), .val (.int p2), .val (.int x3), .val (.int (1 : Int32)), .val (.int y5), .val (.long q6), .second, .val (.long q8), .second, .unset, .unset, .unset] [(.long (1 : Int64)), (.long q6)]))
      refine own_pre (fun t k => XS.lsub X0.here hx rfl (hb hby at_77) rfl k) ?_
      show own_Ends _ _ _ _ (s₁.setTop (mkF m 78 #[.val (.int p0), .val (.int p1), .val (.int p2), .val (.int x3), .val (.int (1 : Int32)), .val (.int y5), .val (.long q6), .second, .val (.long q8), .second, .unset, .unset, .unset] [(.long (q6 - (1 : Int64)))]))
      refine own_pre (fun t k => XS.iload X0.here hx rfl (hb hby at_78) rfl k) ?_
      show own_Ends _ _ _ _ (s₁.setTop (mkF m 80 #[.val (.int p0), .val (.int p1), .val (.int p2), .val (.int x3), .val (.int (1 : Int32)), .val (.int y5), .val (.long q6), .second, .val (.long q8), .second, .unset, .unset, .unset] [(.int y5), (.long (q6 - (1 : Int64)))]))
      refine own_pre (fun t k => XS.i2l X0.here hx rfl (hb hby at_80) rfl k) ?_
      show own_Ends _ _ _ _ (s₁.setTop (mkF m 81 #[.val (.int p0), .val (.int p1), .val (.int p2), .val (.int x3), .val (.int (1 : Int32)), .val (.int y5), .val (.long q6), .second, .val (.long q8), .second, .unset, .unset, .unset] [(.long (y5.toInt64)), (.long (q6 - (1 : Int64)))]))
      refine own_pre (fun t k => XS.ladd X0.here hx rfl (hb hby at_81) rfl k) ?_
      show own_Ends _ _ _ _ (s₁.setTop (mkF m 82 #[.val (.int p0), .val (.int p1), .val (.int p2), .val (.int x3), .val (.int (1 : Int32)), .val (.int y5), .val (.long q6), .second, .val (.long q8), .second, .unset, .unset, .unset] [(.long ((q6 - (1 : Int64)) + (y5.toInt64)))]))
      refine own_pre (fun t k => XS.lstore X0.here hx rfl (hb hby at_82) rfl (l' := #[.val (.int p0), .val (.int p1), .val (.int p2), .val (.int x3), .val (.int (1 : Int32)), .val (.int y5), .val (.long q6), .second, .val (.long q8), .second, .val (.long ((q6 - (1 : Int64)) + (y5.toInt64))), .second, .unset]) rfl k) ?_
      show own_Ends _ _ _ _ (s₁.setTop (mkF m 84 #[.val (.int p0), .val (.int p1), .val (.int p2), .val (.int x3), .val (.int (1 : Int32)), .val (.int y5), .val (.long q6), .second, .val (.long q8), .second, .val (.long ((q6 - (1 : Int64)) + (y5.toInt64))), .second, .unset] []))
      generalize hq10 : ((q6 - (1 : Int64)) + (y5.toInt64)) = q10
      show own_Ends _ _ _ _ (s₁.setTop (mkF m 84 #[.val (.int p0), .val (.int p1), .val (.int p2), .val (.int x3), .val (.int (1 : Int32)), .val (.int y5), .val (.long q6), .second, .val (.long q8), .second, .val (.long q10), .second, .unset] []))
      refine own_pre (fun t k => XS.goto X0.here hx rfl (pc0 := 84) (pc' := 101) rfl (hb hby at_84) (by decide) (by decide) k) ?_
      show own_Ends _ _ _ _ (s₁.setTop (mkF m 101 #[.val (.int p0), .val (.int p1), .val (.int p2), .val (.int x3), .val (.int (1 : Int32)), .val (.int y5), .val (.long q6), .second, .val (.long q8), .second, .val (.long q10), .second, .unset] []))
      obtain ⟨T30, h30, X30, e30, E30, A30, D30, -, st30⟩ := newO X0 hx hZ hown (hw _ (List.mem_of_getElem? (i := 2) rfl)) (hw _ (List.mem_of_getElem? (i := 3) rfl)) (hw _ (List.mem_of_getElem? (i := 4) rfl)) e0 (g := (mkF m 101 #[.val (.int p0), .val (.int p1), .val (.int p2), .val (.int x3), .val (.int (1 : Int32)), .val (.int y5), .val (.long q6), .second, .val (.long q8), .second, .val (.long q10), .second, .unset] [])) rfl (hb hby at_101) (by decide) (by decide)
      obtain ⟨b30, g30⟩ : ∃ z, z = h0.size := ⟨_, rfl⟩
      rw [← g30] at A30 D30 st30
      refine own_pre st30 ?_
      have L31 : n0 ≤ b30 := Nat.le_trans Z0 (Nat.le_of_eq g30.symm)
      have Zn32 : n0 ≤ h30.size := Nat.le_trans Z0 E30.1
      have f33 : Fld Z h30 b30 "com/example/cardea/cardea/scheme/BinaryTree" "depth" "I" (.int (0 : Int32)) := D30 (Or.inr (hw _ (List.mem_of_getElem? (i := 19) rfl))) (ty := .int) (by decide)
      have f34 : Fld Z h30 b30 "com/example/cardea/cardea/scheme/BinaryTree" "deep" "I" (.int (0 : Int32)) := D30 (Or.inr (hw _ (List.mem_of_getElem? (i := 21) rfl))) (ty := .int) (by decide)
      show own_Ends _ _ _ _ (T30.setTop (mkF m 104 #[.val (.int p0), .val (.int p1), .val (.int p2), .val (.int x3), .val (.int (1 : Int32)), .val (.int y5), .val (.long q6), .second, .val (.long q8), .second, .val (.long q10), .second, .unset] [(.ref b30)]))
      refine own_pre (fun t k => XS.dup X30.here hx rfl (hb hby at_104) rfl rfl k) ?_
      show own_Ends _ _ _ _ (T30.setTop (mkF m 105 #[.val (.int p0), .val (.int p1), .val (.int p2), .val (.int x3), .val (.int (1 : Int32)), .val (.int y5), .val (.long q6), .second, .val (.long q8), .second, .val (.long q10), .second, .unset] [(.ref b30), (.ref b30)]))
      refine own_pre (fun t k => XS.iload X30.here hx rfl (hb hby at_105) rfl k) ?_
      show own_Ends _ _ _ _ (T30.setTop (mkF m 107 #[.val (.int p0), .val (.int p1), .val (.int p2), .val (.int x3), .val (.int (1 : Int32)), .val (.int y5), .val (.long q6), .second, .val (.long q8), .second, .val (.long q10), .second, .unset] [(.int (1 : Int32)), (.ref b30), (.ref b30)]))
      obtain ⟨_, _, ⟨T35, L35, k35, n35⟩, -, X35, ⟨Lc35, hQ35, l35, y35, z35⟩, st35⟩ := X30.specialBack hx (y := (⟨"com/example/cardea/cardea/scheme/BinaryTree", "<init>", "(I)V"⟩ : MethodName)) rfl hown (mvT hZ (hw _ (List.mem_of_getElem? (i := 5) rfl))) (mvT hZ (hw _ (List.mem_of_getElem? (i := 6) rfl))) (mvT hZ (hw _ (List.mem_of_getElem? (i := 7) rfl))) (by decide) (backOf (W := 1) (rm3 l Z a0 hw [] b30 (1 : Int32) h30 n0 Zn32 A30 L31 f33 f34) hZ (hw _ (List.mem_of_getElem? (i := 7) rfl)) (hw _ (List.mem_of_getElem? (i := 4) rfl)) (by decide) (by decide)) (g := (mkF m 107 #[.val (.int p0), .val (.int p1), .val (.int p2), .val (.int x3), .val (.int (1 : Int32)), .val (.int y5), .val (.long q6), .second, .val (.long q8), .second, .val (.long q10), .second, .unset] [(.int (1 : Int32)), (.ref b30), (.ref b30)])) rfl (by rw [hml]; rfl) (Steps.refl _) (a := b30) (argsL := [(.int (1 : Int32))]) (rest := [(.ref b30)]) (lenOf own_pd1 rfl) rfl (by show 2 * 0 + _ ≤ _; exact Nat.le_of_eq rfl) (hb hby at_107) (fun _ _ => ⟨rfl, e30, (by decide : 1 + 0 ≤ _), (by decide : 2 + 0 ≤ _)⟩)
      dsimp only [Pt.U, Pt.locs, Pt.cells, Pt.slots] at X35 l35 y35 z35 st35 hQ35
      subst l35 y35 z35
      obtain ⟨rfl, Nq35, Kq35, f36, f37⟩ := hQ35
      have N35 := Fr.app N0 Nq35
      have f38 := A30.keep Kq35
      have Zn35 : n0 ≤ T35.heap.size := Nat.le_trans Zn32 Kq35.1
      refine own_pre (fun t k => st35.trans k) ?_
      show own_Ends _ _ _ _ (T35.setTop (mkF m 110 #[.val (.int p0), .val (.int p1), .val (.int p2), .val (.int x3), .val (.int (1 : Int32)), .val (.int y5), .val (.long q6), .second, .val (.long q8), .second, .val (.long q10), .second, .unset] [(.ref b30)]))
      refine own_pre (fun t k => XS.astore X35.here hx rfl (hb hby at_110) rfl rfl (l' := #[.val (.int p0), .val (.int p1), .val (.int p2), .val (.int x3), .val (.int (1 : Int32)), .val (.int y5), .val (.long q6), .second, .val (.long q8), .second, .val (.long q10), .second, .val (.ref b30)]) rfl k) ?_
      show own_Ends _ _ _ _ (T35.setTop (mkF m 112 #[.val (.int p0), .val (.int p1), .val (.int p2), .val (.int x3), .val (.int (1 : Int32)), .val (.int y5), .val (.long q6), .second, .val (.long q8), .second, .val (.long q10), .second, .val (.ref b30)] []))
      refine own_pre (fun t k => XS.aload X35.here hx rfl (hb hby at_112) rfl rfl k) ?_
      show own_Ends _ _ _ _ (T35.setTop (mkF m 114 #[.val (.int p0), .val (.int p1), .val (.int p2), .val (.int x3), .val (.int (1 : Int32)), .val (.int y5), .val (.long q6), .second, .val (.long q8), .second, .val (.long q10), .second, .val (.ref b30)] [(.ref b30)]))
      refine own_pre (fun t k => XS.iload X35.here hx rfl (hb hby at_114) rfl k) ?_
      show own_Ends _ _ _ _ (T35.setTop (mkF m 116 #[.val (.int p0), .val (.int p1), .val (.int p2), .val (.int x3), .val (.int (1 : Int32)), .val (.int y5), .val (.long q6), .second, .val (.long q8), .second, .val (.long q10), .second, .val (.ref b30)] [(.int y5), (.ref b30)]))
      obtain ⟨cq39, kq39, q39a, q39b, q39c⟩ := isOf hZ rfl f38
      obtain ⟨_, _, ⟨T39, L39, k39, n39⟩, -, X39, ⟨Lc39, hQ39, l39, y39, z39⟩, st39⟩ := X35.virtualBack hx (y := (⟨"com/example/cardea/cardea/scheme/BinaryTree", "leaf", "(I)I"⟩ : MethodName)) (z := (⟨"com/example/cardea/cardea/scheme/BinaryTree", "leaf", "(I)I"⟩ : MethodName)) hown (mvT hZ (hw _ (List.mem_of_getElem? (i := 22) rfl))) (mvT hZ (hw _ (List.mem_of_getElem? (i := 23) rfl))) (notFace_of_selects (args := #[]) (mvT hZ (hw _ (List.mem_of_getElem? (i := 25) rfl)))) (mvT hZ (hw _ (List.mem_of_getElem? (i := 25) rfl))) (mvT hZ (hw _ (List.mem_of_getElem? (i := 24) rfl))) (by decide) (backOf (W := 0) (rm4 l Z a0 hw [] b30 y5 (own_depth (1 : Int32)) (((2 : Int32) * (1 : Int32)) - ((1 : Int32) <<< ((own_depth (1 : Int32)) &&& 31))) T35.heap n0 Zn35 f36 f37) hZ (hw _ (List.mem_of_getElem? (i := 26) rfl)) (hw _ (List.mem_of_getElem? (i := 4) rfl)) (by decide) (by decide)) q39a q39c (g := (mkF m 116 #[.val (.int p0), .val (.int p1), .val (.int p2), .val (.int x3), .val (.int (1 : Int32)), .val (.int y5), .val (.long q6), .second, .val (.long q8), .second, .val (.long q10), .second, .val (.ref b30)] [(.int y5), (.ref b30)])) rfl (by rw [hml]; rfl) (Steps.refl _) (argsL := [(.int y5)]) (rest := []) (lenOf own_pd0 rfl) rfl (by show 2 * 0 + _ ≤ _; exact Nat.le_of_eq rfl) (hb hby at_116) (fun _ _ => ⟨rfl, rfl, (by decide : 1 + 0 ≤ _), (by decide : 2 + 0 ≤ _)⟩)
      dsimp only [Pt.U, Pt.locs, Pt.cells, Pt.slots] at X39 l39 y39 z39 st39 hQ39
      subst l39 y39 z39
      obtain ⟨rfl, Nq39, e39⟩ := hQ39
      have N39 := Fr.app N35 Nq39
      refine own_pre (fun t k => st39.trans k) ?_
      show own_Ends _ _ _ _ (T39.setTop (mkF m 119 #[.val (.int p0), .val (.int p1), .val (.int p2), .val (.int x3), .val (.int (1 : Int32)), .val (.int y5), .val (.long q6), .second, .val (.long q8), .second, .val (.long q10), .second, .val (.ref b30)] [(.int (own_leaf (own_depth (1 : Int32)) (((2 : Int32) * (1 : Int32)) - ((1 : Int32) <<< ((own_depth (1 : Int32)) &&& 31))) y5))]))
      refine own_pre (fun t k => XS.i2l X39.here hx rfl (hb hby at_119) rfl k) ?_
      show own_Ends _ _ _ _ (T39.setTop (mkF m 120 #[.val (.int p0), .val (.int p1), .val (.int p2), .val (.int x3), .val (.int (1 : Int32)), .val (.int y5), .val (.long q6), .second, .val (.long q8), .second, .val (.long q10), .second, .val (.ref b30)] [(.long ((own_leaf (own_depth (1 : Int32)) (((2 : Int32) * (1 : Int32)) - ((1 : Int32) <<< ((own_depth (1 : Int32)) &&& 31))) y5).toInt64))]))
      refine own_pre (fun t k => XS.lload X39.here hx rfl (hb hby at_120) rfl k) ?_
      show own_Ends _ _ _ _ (T39.setTop (mkF m 122 #[.val (.int p0), .val (.int p1), .val (.int p2), .val (.int x3), .val (.int (1 : Int32)), .val (.int y5), .val (.long q6), .second, .val (.long q8), .second, .val (.long q10), .second, .val (.ref b30)] [(.long q10), (.long ((own_leaf (own_depth (1 : Int32)) (((2 : Int32) * (1 : Int32)) - ((1 : Int32) <<< ((own_depth (1 : Int32)) &&& 31))) y5).toInt64))]))
      refine own_pre (fun t k => XS.lcmp X39.here hx rfl (hb hby at_122) rfl k) ?_
      show own_Ends _ _ _ _ (T39.setTop (mkF m 123 #[.val (.int p0), .val (.int p1), .val (.int p2), .val (.int x3), .val (.int (1 : Int32)), .val (.int y5), .val (.long q6), .second, .val (.long q8), .second, .val (.long q10), .second, .val (.ref b30)] [(.int (own_cmpL ((own_leaf (own_depth (1 : Int32)) (((2 : Int32) * (1 : Int32)) - ((1 : Int32) <<< ((own_depth (1 : Int32)) &&& 31))) y5).toInt64) q10))]))
      refine own_pre (fun t k => XS.ifNo X39.here hx rfl (hb hby at_123) rfl ((if0 _ _).trans (teq (own_finA (own_d30 hx3) (own_rng0 hc28) (own_remB hy5 (own_rngPos (own_rng0 hc28))) hq6 hq8 hc29 hq10 : (own_cmpL ((own_leaf (own_depth (1 : Int32)) (((2 : Int32) * (1 : Int32)) - ((1 : Int32) <<< ((own_depth (1 : Int32)) &&& 31))) y5).toInt64) q10) = (0 : Int32))).2) k) ?_
      show own_Ends _ _ _ _ (T39.setTop (mkF m 126 #[.val (.int p0), .val (.int p1), .val (.int p2), .val (.int x3), .val (.int (1 : Int32)), .val (.int y5), .val (.long q6), .second, .val (.long q8), .second, .val (.long q10), .second, .val (.ref b30)] []))
      refine own_pre (fun t k => XS.iconst X39.here hx rfl (hb hby at_126) k) ?_
      show own_Ends _ _ _ _ (T39.setTop (mkF m 127 #[.val (.int p0), .val (.int p1), .val (.int p2), .val (.int x3), .val (.int (1 : Int32)), .val (.int y5), .val (.long q6), .second, .val (.long q8), .second, .val (.long q10), .second, .val (.ref b30)] [(.int (1 : Int32))]))
      refine own_pre (fun t k => XS.goto X39.here hx rfl (pc0 := 127) (pc' := 131) rfl (hb hby at_127) (by decide) (by decide) k) ?_
      show own_Ends _ _ _ _ (T39.setTop (mkF m 131 #[.val (.int p0), .val (.int p1), .val (.int p2), .val (.int x3), .val (.int (1 : Int32)), .val (.int y5), .val (.long q6), .second, .val (.long q8), .second, .val (.long q10), .second, .val (.ref b30)] [(.int (1 : Int32))]))
      exact own_retN X39 hx (t := .boolean) Bd.returns (by simp) (hb hby at_131) hlk rfl e39 ⟨rfl, N39⟩ (by decide) (by decide)
    · skip
      refine own_pre (fun t k => XS.ifYes X0.here hx rfl (pc0 := 71) (pc' := 87) rfl (hb hby at_71) rfl ((if0 _ _).trans (flt hc29).2.1) (by decide) (by decide) k) ?_
      show own_Ends _ _ _ _ (s₁.setTop (mkF m 87 #[.val (.int p0), .val (.int p1), .val (.int p2), .val (.int x3), .val (.int (1 : Int32)), .val (.int y5), .val (.long q6), .second, .val (.long q8), .second, .unset, .unset, .unset] []))
      refine own_pre (fun t k => XS.lload X0.here hx rfl (hb hby at_87) rfl k) ?_
      show own_Ends _ _ _ _ (s₁.setTop (mkF m 89 #[.val (.int p0), .val (.int p1), .val (.int p2), .val (.int x3), .val (.int (1 : Int32)), .val (.int y5), .val (.long q6), .second, .val (.long q8), .second, .unset, .unset, .unset] [(.long q6)]))
      refine own_pre (fun t k => XS.lconst X0.here hx rfl (hb hby at_89) k) ?_
      show own_Ends _ _ _ _ (s₁.setTop (mkF m 90 #[.val (.int p0), .val (.int p1), .val (.int p2), .val (.int x3), .val (.int (1 : Int32)), .val (.int y5), .val (.long q6), .second, .val (.long q8), .second, .unset, .unset, .unset] [(.long (1 : Int64)), (.long q6)]))
      refine own_pre (fun t k => XS.lsub X0.here hx rfl (hb hby at_90) rfl k) ?_
      show own_Ends _ _ _ _ (s₁.setTop (mkF m 91 #[.val (.int p0), .val (.int p1), .val (.int p2), .val (.int x3), .val (.int (1 : Int32)), .val (.int y5), .val (.long q6), .second, .val (.long q8), .second, .unset, .unset, .unset] [(.long (q6 - (1 : Int64)))]))
      refine own_pre (fun t k => XS.iload X0.here hx rfl (hb hby at_91) rfl k) ?_
      show own_Ends _ _ _ _ (s₁.setTop (mkF m 93 #[.val (.int p0), .val (.int p1), .val (.int p2), .val (.int x3), .val (.int (1 : Int32)), .val (.int y5), .val (.long q6), .second, .val (.long q8), .second, .unset, .unset, .unset] [(.int (1 : Int32)), (.long (q6 - (1 : Int64)))]))
      refine own_pre (fun t k => XS.i2l X0.here hx rfl (hb hby at_93) rfl k) ?_
      show own_Ends _ _ _ _ (s₁.setTop (mkF m 94 #[.val (.int p0), .val (.int p1), .val (.int p2), .val (.int x3), .val (.int (1 : Int32)), .val (.int y5), .val (.long q6), .second, .val (.long q8), .second, .unset, .unset, .unset] [(.long ((1 : Int32).toInt64)), (.long (q6 - (1 : Int64)))]))
      refine own_pre (fun t k => XS.lsub X0.here hx rfl (hb hby at_94) rfl k) ?_
      show own_Ends _ _ _ _ (s₁.setTop (mkF m 95 #[.val (.int p0), .val (.int p1), .val (.int p2), .val (.int x3), .val (.int (1 : Int32)), .val (.int y5), .val (.long q6), .second, .val (.long q8), .second, .unset, .unset, .unset] [(.long ((q6 - (1 : Int64)) - ((1 : Int32).toInt64)))]))
      refine own_pre (fun t k => XS.iload X0.here hx rfl (hb hby at_95) rfl k) ?_
      show own_Ends _ _ _ _ (s₁.setTop (mkF m 97 #[.val (.int p0), .val (.int p1), .val (.int p2), .val (.int x3), .val (.int (1 : Int32)), .val (.int y5), .val (.long q6), .second, .val (.long q8), .second, .unset, .unset, .unset] [(.int y5), (.long ((q6 - (1 : Int64)) - ((1 : Int32).toInt64)))]))
      refine own_pre (fun t k => XS.i2l X0.here hx rfl (hb hby at_97) rfl k) ?_
      show own_Ends _ _ _ _ (s₁.setTop (mkF m 98 #[.val (.int p0), .val (.int p1), .val (.int p2), .val (.int x3), .val (.int (1 : Int32)), .val (.int y5), .val (.long q6), .second, .val (.long q8), .second, .unset, .unset, .unset] [(.long (y5.toInt64)), (.long ((q6 - (1 : Int64)) - ((1 : Int32).toInt64)))]))
      refine own_pre (fun t k => XS.ladd X0.here hx rfl (hb hby at_98) rfl k) ?_
      show own_Ends _ _ _ _ (s₁.setTop (mkF m 99 #[.val (.int p0), .val (.int p1), .val (.int p2), .val (.int x3), .val (.int (1 : Int32)), .val (.int y5), .val (.long q6), .second, .val (.long q8), .second, .unset, .unset, .unset] [(.long (((q6 - (1 : Int64)) - ((1 : Int32).toInt64)) + (y5.toInt64)))]))
      refine own_pre (fun t k => XS.lstore X0.here hx rfl (hb hby at_99) rfl (l' := #[.val (.int p0), .val (.int p1), .val (.int p2), .val (.int x3), .val (.int (1 : Int32)), .val (.int y5), .val (.long q6), .second, .val (.long q8), .second, .val (.long (((q6 - (1 : Int64)) - ((1 : Int32).toInt64)) + (y5.toInt64))), .second, .unset]) rfl k) ?_
      show own_Ends _ _ _ _ (s₁.setTop (mkF m 101 #[.val (.int p0), .val (.int p1), .val (.int p2), .val (.int x3), .val (.int (1 : Int32)), .val (.int y5), .val (.long q6), .second, .val (.long q8), .second, .val (.long (((q6 - (1 : Int64)) - ((1 : Int32).toInt64)) + (y5.toInt64))), .second, .unset] []))
      generalize hq10 : (((q6 - (1 : Int64)) - ((1 : Int32).toInt64)) + (y5.toInt64)) = q10
      show own_Ends _ _ _ _ (s₁.setTop (mkF m 101 #[.val (.int p0), .val (.int p1), .val (.int p2), .val (.int x3), .val (.int (1 : Int32)), .val (.int y5), .val (.long q6), .second, .val (.long q8), .second, .val (.long q10), .second, .unset] []))
      obtain ⟨T40, h40, X40, e40, E40, A40, D40, -, st40⟩ := newO X0 hx hZ hown (hw _ (List.mem_of_getElem? (i := 2) rfl)) (hw _ (List.mem_of_getElem? (i := 3) rfl)) (hw _ (List.mem_of_getElem? (i := 4) rfl)) e0 (g := (mkF m 101 #[.val (.int p0), .val (.int p1), .val (.int p2), .val (.int x3), .val (.int (1 : Int32)), .val (.int y5), .val (.long q6), .second, .val (.long q8), .second, .val (.long q10), .second, .unset] [])) rfl (hb hby at_101) (by decide) (by decide)
      obtain ⟨b40, g40⟩ : ∃ z, z = h0.size := ⟨_, rfl⟩
      rw [← g40] at A40 D40 st40
      refine own_pre st40 ?_
      have L41 : n0 ≤ b40 := Nat.le_trans Z0 (Nat.le_of_eq g40.symm)
      have Zn42 : n0 ≤ h40.size := Nat.le_trans Z0 E40.1
      have f43 : Fld Z h40 b40 "com/example/cardea/cardea/scheme/BinaryTree" "depth" "I" (.int (0 : Int32)) := D40 (Or.inr (hw _ (List.mem_of_getElem? (i := 19) rfl))) (ty := .int) (by decide)
      have f44 : Fld Z h40 b40 "com/example/cardea/cardea/scheme/BinaryTree" "deep" "I" (.int (0 : Int32)) := D40 (Or.inr (hw _ (List.mem_of_getElem? (i := 21) rfl))) (ty := .int) (by decide)
      show own_Ends _ _ _ _ (T40.setTop (mkF m 104 #[.val (.int p0), .val (.int p1), .val (.int p2), .val (.int x3), .val (.int (1 : Int32)), .val (.int y5), .val (.long q6), .second, .val (.long q8), .second, .val (.long q10), .second, .unset] [(.ref b40)]))
      refine own_pre (fun t k => XS.dup X40.here hx rfl (hb hby at_104) rfl rfl k) ?_
      show own_Ends _ _ _ _ (T40.setTop (mkF m 105 #[.val (.int p0), .val (.int p1), .val (.int p2), .val (.int x3), .val (.int (1 : Int32)), .val (.int y5), .val (.long q6), .second, .val (.long q8), .second, .val (.long q10), .second, .unset] [(.ref b40), (.ref b40)]))
      refine own_pre (fun t k => XS.iload X40.here hx rfl (hb hby at_105) rfl k) ?_
      show own_Ends _ _ _ _ (T40.setTop (mkF m 107 #[.val (.int p0), .val (.int p1), .val (.int p2), .val (.int x3), .val (.int (1 : Int32)), .val (.int y5), .val (.long q6), .second, .val (.long q8), .second, .val (.long q10), .second, .unset] [(.int (1 : Int32)), (.ref b40), (.ref b40)]))
      obtain ⟨_, _, ⟨T45, L45, k45, n45⟩, -, X45, ⟨Lc45, hQ45, l45, y45, z45⟩, st45⟩ := X40.specialBack hx (y := (⟨"com/example/cardea/cardea/scheme/BinaryTree", "<init>", "(I)V"⟩ : MethodName)) rfl hown (mvT hZ (hw _ (List.mem_of_getElem? (i := 5) rfl))) (mvT hZ (hw _ (List.mem_of_getElem? (i := 6) rfl))) (mvT hZ (hw _ (List.mem_of_getElem? (i := 7) rfl))) (by decide) (backOf (W := 1) (rm3 l Z a0 hw [] b40 (1 : Int32) h40 n0 Zn42 A40 L41 f43 f44) hZ (hw _ (List.mem_of_getElem? (i := 7) rfl)) (hw _ (List.mem_of_getElem? (i := 4) rfl)) (by decide) (by decide)) (g := (mkF m 107 #[.val (.int p0), .val (.int p1), .val (.int p2), .val (.int x3), .val (.int (1 : Int32)), .val (.int y5), .val (.long q6), .second, .val (.long q8), .second, .val (.long q10), .second, .unset] [(.int (1 : Int32)), (.ref b40), (.ref b40)])) rfl (by rw [hml]; rfl) (Steps.refl _) (a := b40) (argsL := [(.int (1 : Int32))]) (rest := [(.ref b40)]) (lenOf own_pd1 rfl) rfl (by show 2 * 0 + _ ≤ _; exact Nat.le_of_eq rfl) (hb hby at_107) (fun _ _ => ⟨rfl, e40, (by decide : 1 + 0 ≤ _), (by decide : 2 + 0 ≤ _)⟩)
      dsimp only [Pt.U, Pt.locs, Pt.cells, Pt.slots] at X45 l45 y45 z45 st45 hQ45
      subst l45 y45 z45
      obtain ⟨rfl, Nq45, Kq45, f46, f47⟩ := hQ45
      have N45 := Fr.app N0 Nq45
      have f48 := A40.keep Kq45
      have Zn45 : n0 ≤ T45.heap.size := Nat.le_trans Zn42 Kq45.1
      refine own_pre (fun t k => st45.trans k) ?_
      show own_Ends _ _ _ _ (T45.setTop (mkF m 110 #[.val (.int p0), .val (.int p1), .val (.int p2), .val (.int x3), .val (.int (1 : Int32)), .val (.int y5), .val (.long q6), .second, .val (.long q8), .second, .val (.long q10), .second, .unset] [(.ref b40)]))
      refine own_pre (fun t k => XS.astore X45.here hx rfl (hb hby at_110) rfl rfl (l' := #[.val (.int p0), .val (.int p1), .val (.int p2), .val (.int x3), .val (.int (1 : Int32)), .val (.int y5), .val (.long q6), .second, .val (.long q8), .second, .val (.long q10), .second, .val (.ref b40)]) rfl k) ?_
      show own_Ends _ _ _ _ (T45.setTop (mkF m 112 #[.val (.int p0), .val (.int p1), .val (.int p2), .val (.int x3), .val (.int (1 : Int32)), .val (.int y5), .val (.long q6), .second, .val (.long q8), .second, .val (.long q10), .second, .val (.ref b40)] []))
      refine own_pre (fun t k => XS.aload X45.here hx rfl (hb hby at_112) rfl rfl k) ?_
      show own_Ends _ _ _ _ (T45.setTop (mkF m 114 #[.val (.int p0), .val (.int p1), .val (.int p2), .val (.int x3), .val (.int (1 : Int32)), .val (.int y5), .val (.long q6), .second, .val (.long q8), .second, .val (.long q10), .second, .val (.ref b40)] [(.ref b40)]))
      refine own_pre (fun t k => XS.iload X45.here hx rfl (hb hby at_114) rfl k) ?_
      show own_Ends _ _ _ _ (T45.setTop (mkF m 116 #[.val (.int p0), .val (.int p1), .val (.int p2), .val (.int x3), .val (.int (1 : Int32)), .val (.int y5), .val (.long q6), .second, .val (.long q8), .second, .val (.long q10), .second, .val (.ref b40)] [(.int y5), (.ref b40)]))
      obtain ⟨cq49, kq49, q49a, q49b, q49c⟩ := isOf hZ rfl f48
      obtain ⟨_, _, ⟨T49, L49, k49, n49⟩, -, X49, ⟨Lc49, hQ49, l49, y49, z49⟩, st49⟩ := X45.virtualBack hx (y := (⟨"com/example/cardea/cardea/scheme/BinaryTree", "leaf", "(I)I"⟩ : MethodName)) (z := (⟨"com/example/cardea/cardea/scheme/BinaryTree", "leaf", "(I)I"⟩ : MethodName)) hown (mvT hZ (hw _ (List.mem_of_getElem? (i := 22) rfl))) (mvT hZ (hw _ (List.mem_of_getElem? (i := 23) rfl))) (notFace_of_selects (args := #[]) (mvT hZ (hw _ (List.mem_of_getElem? (i := 25) rfl)))) (mvT hZ (hw _ (List.mem_of_getElem? (i := 25) rfl))) (mvT hZ (hw _ (List.mem_of_getElem? (i := 24) rfl))) (by decide) (backOf (W := 0) (rm4 l Z a0 hw [] b40 y5 (own_depth (1 : Int32)) (((2 : Int32) * (1 : Int32)) - ((1 : Int32) <<< ((own_depth (1 : Int32)) &&& 31))) T45.heap n0 Zn45 f46 f47) hZ (hw _ (List.mem_of_getElem? (i := 26) rfl)) (hw _ (List.mem_of_getElem? (i := 4) rfl)) (by decide) (by decide)) q49a q49c (g := (mkF m 116 #[.val (.int p0), .val (.int p1), .val (.int p2), .val (.int x3), .val (.int (1 : Int32)), .val (.int y5), .val (.long q6), .second, .val (.long q8), .second, .val (.long q10), .second, .val (.ref b40)] [(.int y5), (.ref b40)])) rfl (by rw [hml]; rfl) (Steps.refl _) (argsL := [(.int y5)]) (rest := []) (lenOf own_pd0 rfl) rfl (by show 2 * 0 + _ ≤ _; exact Nat.le_of_eq rfl) (hb hby at_116) (fun _ _ => ⟨rfl, rfl, (by decide : 1 + 0 ≤ _), (by decide : 2 + 0 ≤ _)⟩)
      dsimp only [Pt.U, Pt.locs, Pt.cells, Pt.slots] at X49 l49 y49 z49 st49 hQ49
      subst l49 y49 z49
      obtain ⟨rfl, Nq49, e49⟩ := hQ49
      have N49 := Fr.app N45 Nq49
      refine own_pre (fun t k => st49.trans k) ?_
      show own_Ends _ _ _ _ (T49.setTop (mkF m 119 #[.val (.int p0), .val (.int p1), .val (.int p2), .val (.int x3), .val (.int (1 : Int32)), .val (.int y5), .val (.long q6), .second, .val (.long q8), .second, .val (.long q10), .second, .val (.ref b40)] [(.int (own_leaf (own_depth (1 : Int32)) (((2 : Int32) * (1 : Int32)) - ((1 : Int32) <<< ((own_depth (1 : Int32)) &&& 31))) y5))]))
      refine own_pre (fun t k => XS.i2l X49.here hx rfl (hb hby at_119) rfl k) ?_
      show own_Ends _ _ _ _ (T49.setTop (mkF m 120 #[.val (.int p0), .val (.int p1), .val (.int p2), .val (.int x3), .val (.int (1 : Int32)), .val (.int y5), .val (.long q6), .second, .val (.long q8), .second, .val (.long q10), .second, .val (.ref b40)] [(.long ((own_leaf (own_depth (1 : Int32)) (((2 : Int32) * (1 : Int32)) - ((1 : Int32) <<< ((own_depth (1 : Int32)) &&& 31))) y5).toInt64))]))
      refine own_pre (fun t k => XS.lload X49.here hx rfl (hb hby at_120) rfl k) ?_
      show own_Ends _ _ _ _ (T49.setTop (mkF m 122 #[.val (.int p0), .val (.int p1), .val (.int p2), .val (.int x3), .val (.int (1 : Int32)), .val (.int y5), .val (.long q6), .second, .val (.long q8), .second, .val (.long q10), .second, .val (.ref b40)] [(.long q10), (.long ((own_leaf (own_depth (1 : Int32)) (((2 : Int32) * (1 : Int32)) - ((1 : Int32) <<< ((own_depth (1 : Int32)) &&& 31))) y5).toInt64))]))
      refine own_pre (fun t k => XS.lcmp X49.here hx rfl (hb hby at_122) rfl k) ?_
      show own_Ends _ _ _ _ (T49.setTop (mkF m 123 #[.val (.int p0), .val (.int p1), .val (.int p2), .val (.int x3), .val (.int (1 : Int32)), .val (.int y5), .val (.long q6), .second, .val (.long q8), .second, .val (.long q10), .second, .val (.ref b40)] [(.int (own_cmpL ((own_leaf (own_depth (1 : Int32)) (((2 : Int32) * (1 : Int32)) - ((1 : Int32) <<< ((own_depth (1 : Int32)) &&& 31))) y5).toInt64) q10))]))
      refine own_pre (fun t k => XS.ifNo X49.here hx rfl (hb hby at_123) rfl ((if0 _ _).trans (teq (own_finB (own_d30 hx3) (own_rng0 hc28) (own_remB hy5 (own_rngPos (own_rng0 hc28))) hq6 hq8 hc29 hq10 : (own_cmpL ((own_leaf (own_depth (1 : Int32)) (((2 : Int32) * (1 : Int32)) - ((1 : Int32) <<< ((own_depth (1 : Int32)) &&& 31))) y5).toInt64) q10) = (0 : Int32))).2) k) ?_
      show own_Ends _ _ _ _ (T49.setTop (mkF m 126 #[.val (.int p0), .val (.int p1), .val (.int p2), .val (.int x3), .val (.int (1 : Int32)), .val (.int y5), .val (.long q6), .second, .val (.long q8), .second, .val (.long q10), .second, .val (.ref b40)] []))
      refine own_pre (fun t k => XS.iconst X49.here hx rfl (hb hby at_126) k) ?_
      show own_Ends _ _ _ _ (T49.setTop (mkF m 127 #[.val (.int p0), .val (.int p1), .val (.int p2), .val (.int x3), .val (.int (1 : Int32)), .val (.int y5), .val (.long q6), .second, .val (.long q8), .second, .val (.long q10), .second, .val (.ref b40)] [(.int (1 : Int32))]))
      refine own_pre (fun t k => XS.goto X49.here hx rfl (pc0 := 127) (pc' := 131) rfl (hb hby at_127) (by decide) (by decide) k) ?_
      show own_Ends _ _ _ _ (T49.setTop (mkF m 131 #[.val (.int p0), .val (.int p1), .val (.int p2), .val (.int x3), .val (.int (1 : Int32)), .val (.int y5), .val (.long q6), .second, .val (.long q8), .second, .val (.long q10), .second, .val (.ref b40)] [(.int (1 : Int32))]))
      exact own_retN X49 hx (t := .boolean) Bd.returns (by simp) (hb hby at_131) hlk rfl e49 ⟨rfl, N49⟩ (by decide) (by decide)
  · skip
    refine own_pre (fun t k => XS.ifYes X0.here hx rfl (pc0 := 9) (pc' := 18) rfl (hb hby at_9) rfl ((if0 _ _).trans (feq hc28).2) (by decide) (by decide) k) ?_
    show own_Ends _ _ _ _ (s₁.setTop (mkF m 18 #[.val (.int p0), .val (.int p1), .val (.int p2), .val (.int x3), .unset, .unset, .unset, .unset, .unset, .unset, .unset, .unset, .unset] []))
    refine own_pre (fun t k => XS.iconst X0.here hx rfl (hb hby at_18) k) ?_
    show own_Ends _ _ _ _ (s₁.setTop (mkF m 19 #[.val (.int p0), .val (.int p1), .val (.int p2), .val (.int x3), .unset, .unset, .unset, .unset, .unset, .unset, .unset, .unset, .unset] [(.int (1 : Int32))]))
    refine own_pre (fun t k => XS.iloadN X0.here hx rfl (hb hby at_19) rfl k) ?_
    show own_Ends _ _ _ _ (s₁.setTop (mkF m 20 #[.val (.int p0), .val (.int p1), .val (.int p2), .val (.int x3), .unset, .unset, .unset, .unset, .unset, .unset, .unset, .unset, .unset] [(.int x3), (.int (1 : Int32))]))
    refine own_pre (fun t k => XS.iconst X0.here hx rfl (hb hby at_20) k) ?_
    show own_Ends _ _ _ _ (s₁.setTop (mkF m 21 #[.val (.int p0), .val (.int p1), .val (.int p2), .val (.int x3), .unset, .unset, .unset, .unset, .unset, .unset, .unset, .unset, .unset] [(.int (1 : Int32)), (.int x3), (.int (1 : Int32))]))
    refine own_pre (fun t k => XS.isub X0.here hx rfl (hb hby at_21) rfl k) ?_
    show own_Ends _ _ _ _ (s₁.setTop (mkF m 22 #[.val (.int p0), .val (.int p1), .val (.int p2), .val (.int x3), .unset, .unset, .unset, .unset, .unset, .unset, .unset, .unset, .unset] [(.int (x3 - (1 : Int32))), (.int (1 : Int32))]))
    refine own_pre (fun t k => XS.ishl X0.here hx rfl (hb hby at_22) rfl k) ?_
    show own_Ends _ _ _ _ (s₁.setTop (mkF m 23 #[.val (.int p0), .val (.int p1), .val (.int p2), .val (.int x3), .unset, .unset, .unset, .unset, .unset, .unset, .unset, .unset, .unset] [(.int ((1 : Int32) <<< ((x3 - (1 : Int32)) &&& 31)))]))
    refine own_pre (fun t k => XS.istore X0.here hx rfl (hb hby at_23) rfl (l' := #[.val (.int p0), .val (.int p1), .val (.int p2), .val (.int x3), .unset, .val (.int ((1 : Int32) <<< ((x3 - (1 : Int32)) &&& 31))), .unset, .unset, .unset, .unset, .unset, .unset, .unset]) rfl k) ?_
    show own_Ends _ _ _ _ (s₁.setTop (mkF m 25 #[.val (.int p0), .val (.int p1), .val (.int p2), .val (.int x3), .unset, .val (.int ((1 : Int32) <<< ((x3 - (1 : Int32)) &&& 31))), .unset, .unset, .unset, .unset, .unset, .unset, .unset] []))
    generalize hx5 : ((1 : Int32) <<< ((x3 - (1 : Int32)) &&& 31)) = x5
    show own_Ends _ _ _ _ (s₁.setTop (mkF m 25 #[.val (.int p0), .val (.int p1), .val (.int p2), .val (.int x3), .unset, .val (.int x5), .unset, .unset, .unset, .unset, .unset, .unset, .unset] []))
    refine own_pre (fun t k => XS.iload X0.here hx rfl (hb hby at_25) rfl k) ?_
    show own_Ends _ _ _ _ (s₁.setTop (mkF m 27 #[.val (.int p0), .val (.int p1), .val (.int p2), .val (.int x3), .unset, .val (.int x5), .unset, .unset, .unset, .unset, .unset, .unset, .unset] [(.int x5)]))
    refine own_pre (fun t k => XS.iconst X0.here hx rfl (hb hby at_27) k) ?_
    show own_Ends _ _ _ _ (s₁.setTop (mkF m 28 #[.val (.int p0), .val (.int p1), .val (.int p2), .val (.int x3), .unset, .val (.int x5), .unset, .unset, .unset, .unset, .unset, .unset, .unset] [(.int (1 : Int32)), (.int x5)]))
    refine own_pre (fun t k => XS.iadd X0.here hx rfl (hb hby at_28) rfl k) ?_
    show own_Ends _ _ _ _ (s₁.setTop (mkF m 29 #[.val (.int p0), .val (.int p1), .val (.int p2), .val (.int x3), .unset, .val (.int x5), .unset, .unset, .unset, .unset, .unset, .unset, .unset] [(.int (x5 + (1 : Int32)))]))
    refine own_pre (fun t k => XS.iloadN X0.here hx rfl (hb hby at_29) rfl k) ?_
    show own_Ends _ _ _ _ (s₁.setTop (mkF m 30 #[.val (.int p0), .val (.int p1), .val (.int p2), .val (.int x3), .unset, .val (.int x5), .unset, .unset, .unset, .unset, .unset, .unset, .unset] [(.int p1), (.int (x5 + (1 : Int32)))]))
    refine own_pre (fun t k => X0.ldcInt hx hown (mvT hZ (hw _ (List.mem_of_getElem? (i := 0) rfl))) (g := (mkF m 30 #[.val (.int p0), .val (.int p1), .val (.int p2), .val (.int x3), .unset, .val (.int x5), .unset, .unset, .unset, .unset, .unset, .unset, .unset] [(.int p1), (.int (x5 + (1 : Int32)))])) rfl (hb hby at_30) _ k) ?_
    show own_Ends _ _ _ _ (s₁.setTop (mkF m 32 #[.val (.int p0), .val (.int p1), .val (.int p2), .val (.int x3), .unset, .val (.int x5), .unset, .unset, .unset, .unset, .unset, .unset, .unset] [(.int (2147483647 : Int32)), (.int p1), (.int (x5 + (1 : Int32)))]))
    refine own_pre (fun t k => XS.iand X0.here hx rfl (hb hby at_32) rfl k) ?_
    show own_Ends _ _ _ _ (s₁.setTop (mkF m 33 #[.val (.int p0), .val (.int p1), .val (.int p2), .val (.int x3), .unset, .val (.int x5), .unset, .unset, .unset, .unset, .unset, .unset, .unset] [(.int (p1 &&& (2147483647 : Int32))), (.int (x5 + (1 : Int32)))]))
    refine own_pre (fun t k => XS.iload X0.here hx rfl (hb hby at_33) rfl k) ?_
    show own_Ends _ _ _ _ (s₁.setTop (mkF m 35 #[.val (.int p0), .val (.int p1), .val (.int p2), .val (.int x3), .unset, .val (.int x5), .unset, .unset, .unset, .unset, .unset, .unset, .unset] [(.int x5), (.int (p1 &&& (2147483647 : Int32))), (.int (x5 + (1 : Int32)))]))
    refine own_pre (fun t k => iremM X0 hx rfl (hb hby at_35) rfl (own_nz (by have q := own_half (own_d30 hx3) hc28 hx5; have := own_pow_pos (x3.toInt.toNat - 1); omega)) k) ?_
    show own_Ends _ _ _ _ (s₁.setTop (mkF m 36 #[.val (.int p0), .val (.int p1), .val (.int p2), .val (.int x3), .unset, .val (.int x5), .unset, .unset, .unset, .unset, .unset, .unset, .unset] [(.int ((p1 &&& (2147483647 : Int32)) % x5)), (.int (x5 + (1 : Int32)))]))
    refine own_pre (fun t k => XS.iadd X0.here hx rfl (hb hby at_36) rfl k) ?_
    show own_Ends _ _ _ _ (s₁.setTop (mkF m 37 #[.val (.int p0), .val (.int p1), .val (.int p2), .val (.int x3), .unset, .val (.int x5), .unset, .unset, .unset, .unset, .unset, .unset, .unset] [(.int ((x5 + (1 : Int32)) + ((p1 &&& (2147483647 : Int32)) % x5)))]))
    refine own_pre (fun t k => XS.istore X0.here hx rfl (hb hby at_37) rfl (l' := #[.val (.int p0), .val (.int p1), .val (.int p2), .val (.int x3), .val (.int ((x5 + (1 : Int32)) + ((p1 &&& (2147483647 : Int32)) % x5))), .val (.int x5), .unset, .unset, .unset, .unset, .unset, .unset, .unset]) rfl k) ?_
    show own_Ends _ _ _ _ (s₁.setTop (mkF m 39 #[.val (.int p0), .val (.int p1), .val (.int p2), .val (.int x3), .val (.int ((x5 + (1 : Int32)) + ((p1 &&& (2147483647 : Int32)) % x5))), .val (.int x5), .unset, .unset, .unset, .unset, .unset, .unset, .unset] []))
    generalize hx4 : ((x5 + (1 : Int32)) + ((p1 &&& (2147483647 : Int32)) % x5)) = x4
    show own_Ends _ _ _ _ (s₁.setTop (mkF m 39 #[.val (.int p0), .val (.int p1), .val (.int p2), .val (.int x3), .val (.int x4), .val (.int x5), .unset, .unset, .unset, .unset, .unset, .unset, .unset] []))
    refine own_pre (fun t k => XS.iloadN X0.here hx rfl (hb hby at_39) rfl k) ?_
    show own_Ends _ _ _ _ (s₁.setTop (mkF m 40 #[.val (.int p0), .val (.int p1), .val (.int p2), .val (.int x3), .val (.int x4), .val (.int x5), .unset, .unset, .unset, .unset, .unset, .unset, .unset] [(.int p2)]))
    refine own_pre (fun t k => X0.ldcInt hx hown (mvT hZ (hw _ (List.mem_of_getElem? (i := 0) rfl))) (g := (mkF m 40 #[.val (.int p0), .val (.int p1), .val (.int p2), .val (.int x3), .val (.int x4), .val (.int x5), .unset, .unset, .unset, .unset, .unset, .unset, .unset] [(.int p2)])) rfl (hb hby at_40) _ k) ?_
    show own_Ends _ _ _ _ (s₁.setTop (mkF m 42 #[.val (.int p0), .val (.int p1), .val (.int p2), .val (.int x3), .val (.int x4), .val (.int x5), .unset, .unset, .unset, .unset, .unset, .unset, .unset] [(.int (2147483647 : Int32)), (.int p2)]))
    refine own_pre (fun t k => XS.iand X0.here hx rfl (hb hby at_42) rfl k) ?_
    show own_Ends _ _ _ _ (s₁.setTop (mkF m 43 #[.val (.int p0), .val (.int p1), .val (.int p2), .val (.int x3), .val (.int x4), .val (.int x5), .unset, .unset, .unset, .unset, .unset, .unset, .unset] [(.int (p2 &&& (2147483647 : Int32)))]))
    refine own_pre (fun t k => XS.iload X0.here hx rfl (hb hby at_43) rfl k) ?_
    show own_Ends _ _ _ _ (s₁.setTop (mkF m 45 #[.val (.int p0), .val (.int p1), .val (.int p2), .val (.int x3), .val (.int x4), .val (.int x5), .unset, .unset, .unset, .unset, .unset, .unset, .unset] [(.int x4), (.int (p2 &&& (2147483647 : Int32)))]))
    refine own_pre (fun t k => iremM X0 hx rfl (hb hby at_45) rfl (own_nz (own_rngPos (own_rng (own_d30 hx3) hc28 hx5 hx4))) k) ?_
    show own_Ends _ _ _ _ (s₁.setTop (mkF m 46 #[.val (.int p0), .val (.int p1), .val (.int p2), .val (.int x3), .val (.int x4), .val (.int x5), .unset, .unset, .unset, .unset, .unset, .unset, .unset] [(.int ((p2 &&& (2147483647 : Int32)) % x4))]))
    refine own_pre (fun t k => XS.istore X0.here hx rfl (hb hby at_46) rfl (l' := #[.val (.int p0), .val (.int p1), .val (.int p2), .val (.int x3), .val (.int x4), .val (.int ((p2 &&& (2147483647 : Int32)) % x4)), .unset, .unset, .unset, .unset, .unset, .unset, .unset]) rfl k) ?_
    show own_Ends _ _ _ _ (s₁.setTop (mkF m 48 #[.val (.int p0), .val (.int p1), .val (.int p2), .val (.int x3), .val (.int x4), .val (.int ((p2 &&& (2147483647 : Int32)) % x4)), .unset, .unset, .unset, .unset, .unset, .unset, .unset] []))
    generalize hy5 : ((p2 &&& (2147483647 : Int32)) % x4) = y5
    show own_Ends _ _ _ _ (s₁.setTop (mkF m 48 #[.val (.int p0), .val (.int p1), .val (.int p2), .val (.int x3), .val (.int x4), .val (.int y5), .unset, .unset, .unset, .unset, .unset, .unset, .unset] []))
    refine own_pre (fun t k => XS.lconst X0.here hx rfl (hb hby at_48) k) ?_
    show own_Ends _ _ _ _ (s₁.setTop (mkF m 49 #[.val (.int p0), .val (.int p1), .val (.int p2), .val (.int x3), .val (.int x4), .val (.int y5), .unset, .unset, .unset, .unset, .unset, .unset, .unset] [(.long (1 : Int64))]))
    refine own_pre (fun t k => XS.iloadN X0.here hx rfl (hb hby at_49) rfl k) ?_
    show own_Ends _ _ _ _ (s₁.setTop (mkF m 50 #[.val (.int p0), .val (.int p1), .val (.int p2), .val (.int x3), .val (.int x4), .val (.int y5), .unset, .unset, .unset, .unset, .unset, .unset, .unset] [(.int x3), (.long (1 : Int64))]))
    refine own_pre (fun t k => XS.lshl X0.here hx rfl (hb hby at_50) rfl k) ?_
    show own_Ends _ _ _ _ (s₁.setTop (mkF m 51 #[.val (.int p0), .val (.int p1), .val (.int p2), .val (.int x3), .val (.int x4), .val (.int y5), .unset, .unset, .unset, .unset, .unset, .unset, .unset] [(.long ((1 : Int64) <<< (x3 &&& 0x3f).toInt64))]))
    refine own_pre (fun t k => XS.lstore X0.here hx rfl (hb hby at_51) rfl (l' := #[.val (.int p0), .val (.int p1), .val (.int p2), .val (.int x3), .val (.int x4), .val (.int y5), .val (.long ((1 : Int64) <<< (x3 &&& 0x3f).toInt64)), .second, .unset, .unset, .unset, .unset, .unset]) rfl k) ?_
    show own_Ends _ _ _ _ (s₁.setTop (mkF m 53 #[.val (.int p0), .val (.int p1), .val (.int p2), .val (.int x3), .val (.int x4), .val (.int y5), .val (.long ((1 : Int64) <<< (x3 &&& 0x3f).toInt64)), .second, .unset, .unset, .unset, .unset, .unset] []))
    generalize hq6 : ((1 : Int64) <<< (x3 &&& 0x3f).toInt64) = q6
    show own_Ends _ _ _ _ (s₁.setTop (mkF m 53 #[.val (.int p0), .val (.int p1), .val (.int p2), .val (.int x3), .val (.int x4), .val (.int y5), .val (.long q6), .second, .unset, .unset, .unset, .unset, .unset] []))
    refine own_pre (fun t k => X0.ldc2Long hx hown (mvT hZ (hw _ (List.mem_of_getElem? (i := 1) rfl))) (g := (mkF m 53 #[.val (.int p0), .val (.int p1), .val (.int p2), .val (.int x3), .val (.int x4), .val (.int y5), .val (.long q6), .second, .unset, .unset, .unset, .unset, .unset] [])) rfl (hb hby at_53) _ k) ?_
    show own_Ends _ _ _ _ (s₁.setTop (mkF m 56 #[.val (.int p0), .val (.int p1), .val (.int p2), .val (.int x3), .val (.int x4), .val (.int y5), .val (.long q6), .second, .unset, .unset, .unset, .unset, .unset] [(.long (2 : Int64))]))
    refine own_pre (fun t k => XS.iload X0.here hx rfl (hb hby at_56) rfl k) ?_
    show own_Ends _ _ _ _ (s₁.setTop (mkF m 58 #[.val (.int p0), .val (.int p1), .val (.int p2), .val (.int x3), .val (.int x4), .val (.int y5), .val (.long q6), .second, .unset, .unset, .unset, .unset, .unset] [(.int x4), (.long (2 : Int64))]))
    refine own_pre (fun t k => XS.i2l X0.here hx rfl (hb hby at_58) rfl k) ?_
    show own_Ends _ _ _ _ (s₁.setTop (mkF m 59 #[.val (.int p0), .val (.int p1), .val (.int p2), .val (.int x3), .val (.int x4), .val (.int y5), .val (.long q6), .second, .unset, .unset, .unset, .unset, .unset] [(.long (x4.toInt64)), (.long (2 : Int64))]))
    refine own_pre (fun t k => XS.lmul X0.here hx rfl (hb hby at_59) rfl k) ?_
    show own_Ends _ _ _ _ (s₁.setTop (mkF m 60 #[.val (.int p0), .val (.int p1), .val (.int p2), .val (.int x3), .val (.int x4), .val (.int y5), .val (.long q6), .second, .unset, .unset, .unset, .unset, .unset] [(.long ((2 : Int64) * (x4.toInt64)))]))
    refine own_pre (fun t k => XS.lload X0.here hx rfl (hb hby at_60) rfl k) ?_
    show own_Ends _ _ _ _ (s₁.setTop (mkF m 62 #[.val (.int p0), .val (.int p1), .val (.int p2), .val (.int x3), .val (.int x4), .val (.int y5), .val (.long q6), .second, .unset, .unset, .unset, .unset, .unset] [(.long q6), (.long ((2 : Int64) * (x4.toInt64)))]))
    refine own_pre (fun t k => XS.lsub X0.here hx rfl (hb hby at_62) rfl k) ?_
    show own_Ends _ _ _ _ (s₁.setTop (mkF m 63 #[.val (.int p0), .val (.int p1), .val (.int p2), .val (.int x3), .val (.int x4), .val (.int y5), .val (.long q6), .second, .unset, .unset, .unset, .unset, .unset] [(.long (((2 : Int64) * (x4.toInt64)) - q6))]))
    refine own_pre (fun t k => XS.lstore X0.here hx rfl (hb hby at_63) rfl (l' := #[.val (.int p0), .val (.int p1), .val (.int p2), .val (.int x3), .val (.int x4), .val (.int y5), .val (.long q6), .second, .val (.long (((2 : Int64) * (x4.toInt64)) - q6)), .second, .unset, .unset, .unset]) rfl k) ?_
    show own_Ends _ _ _ _ (s₁.setTop (mkF m 65 #[.val (.int p0), .val (.int p1), .val (.int p2), .val (.int x3), .val (.int x4), .val (.int y5), .val (.long q6), .second, .val (.long (((2 : Int64) * (x4.toInt64)) - q6)), .second, .unset, .unset, .unset] []))
    generalize hq8 : (((2 : Int64) * (x4.toInt64)) - q6) = q8
    show own_Ends _ _ _ _ (s₁.setTop (mkF m 65 #[.val (.int p0), .val (.int p1), .val (.int p2), .val (.int x3), .val (.int x4), .val (.int y5), .val (.long q6), .second, .val (.long q8), .second, .unset, .unset, .unset] []))
    refine own_pre (fun t k => XS.iload X0.here hx rfl (hb hby at_65) rfl k) ?_
    show own_Ends _ _ _ _ (s₁.setTop (mkF m 67 #[.val (.int p0), .val (.int p1), .val (.int p2), .val (.int x3), .val (.int x4), .val (.int y5), .val (.long q6), .second, .val (.long q8), .second, .unset, .unset, .unset] [(.int y5)]))
    refine own_pre (fun t k => XS.i2l X0.here hx rfl (hb hby at_67) rfl k) ?_
    show own_Ends _ _ _ _ (s₁.setTop (mkF m 68 #[.val (.int p0), .val (.int p1), .val (.int p2), .val (.int x3), .val (.int x4), .val (.int y5), .val (.long q6), .second, .val (.long q8), .second, .unset, .unset, .unset] [(.long (y5.toInt64))]))
    refine own_pre (fun t k => XS.lload X0.here hx rfl (hb hby at_68) rfl k) ?_
    show own_Ends _ _ _ _ (s₁.setTop (mkF m 70 #[.val (.int p0), .val (.int p1), .val (.int p2), .val (.int x3), .val (.int x4), .val (.int y5), .val (.long q6), .second, .val (.long q8), .second, .unset, .unset, .unset] [(.long q8), (.long (y5.toInt64))]))
    refine own_pre (fun t k => XS.lcmp X0.here hx rfl (hb hby at_70) rfl k) ?_
    show own_Ends _ _ _ _ (s₁.setTop (mkF m 71 #[.val (.int p0), .val (.int p1), .val (.int p2), .val (.int x3), .val (.int x4), .val (.int y5), .val (.long q6), .second, .val (.long q8), .second, .unset, .unset, .unset] [(.int (own_cmpL (y5.toInt64) q8))]))
    by_cases hc50 : (own_cmpL (y5.toInt64) q8) < (0 : Int32)
    · skip
      refine own_pre (fun t k => XS.ifNo X0.here hx rfl (hb hby at_71) rfl ((if0 _ _).trans (tlt hc50).2.1) k) ?_
      show own_Ends _ _ _ _ (s₁.setTop (mkF m 74 #[.val (.int p0), .val (.int p1), .val (.int p2), .val (.int x3), .val (.int x4), .val (.int y5), .val (.long q6), .second, .val (.long q8), .second, .unset, .unset, .unset] []))
      refine own_pre (fun t k => XS.lload X0.here hx rfl (hb hby at_74) rfl k) ?_
      show own_Ends _ _ _ _ (s₁.setTop (mkF m 76 #[.val (.int p0), .val (.int p1), .val (.int p2), .val (.int x3), .val (.int x4), .val (.int y5), .val (.long q6), .second, .val (.long q8), .second, .unset, .unset, .unset] [(.long q6)]))
      refine own_pre (fun t k => XS.lconst X0.here hx rfl (hb hby at_76) k) ?_
      show own_Ends _ _ _ _ (s₁.setTop (mkF m 77 #[.val (.int p0), .val (.int p1), .val (.int p2), .val (.int x3), .val (.int x4), .val (.int y5), .val (.long q6), .second, .val (.long q8), .second, .unset, .unset, .unset] [(.long (1 : Int64)), (.long q6)]))
      refine own_pre (fun t k => XS.lsub X0.here hx rfl (hb hby at_77) rfl k) ?_
      show own_Ends _ _ _ _ (s₁.setTop (mkF m 78 #[.val (.int p0), .val (.int p1), .val (.int p2), .val (.int x3), .val (.int x4), .val (.int y5), .val (.long q6), .second, .val (.long q8), .second, .unset, .unset, .unset] [(.long (q6 - (1 : Int64)))]))
      refine own_pre (fun t k => XS.iload X0.here hx rfl (hb hby at_78) rfl k) ?_
      show own_Ends _ _ _ _ (s₁.setTop (mkF m 80 #[.val (.int p0), .val (.int p1), .val (.int p2), .val (.int x3), .val (.int x4), .val (.int y5), .val (.long q6), .second, .val (.long q8), .second, .unset, .unset, .unset] [(.int y5), (.long (q6 - (1 : Int64)))]))
      refine own_pre (fun t k => XS.i2l X0.here hx rfl (hb hby at_80) rfl k) ?_
      show own_Ends _ _ _ _ (s₁.setTop (mkF m 81 #[.val (.int p0), .val (.int p1), .val (.int p2), .val (.int x3), .val (.int x4), .val (.int y5), .val (.long q6), .second, .val (.long q8), .second, .unset, .unset, .unset] [(.long (y5.toInt64)), (.long (q6 - (1 : Int64)))]))
      refine own_pre (fun t k => XS.ladd X0.here hx rfl (hb hby at_81) rfl k) ?_
      show own_Ends _ _ _ _ (s₁.setTop (mkF m 82 #[.val (.int p0), .val (.int p1), .val (.int p2), .val (.int x3), .val (.int x4), .val (.int y5), .val (.long q6), .second, .val (.long q8), .second, .unset, .unset, .unset] [(.long ((q6 - (1 : Int64)) + (y5.toInt64)))]))
      refine own_pre (fun t k => XS.lstore X0.here hx rfl (hb hby at_82) rfl (l' := #[.val (.int p0), .val (.int p1), .val (.int p2), .val (.int x3), .val (.int x4), .val (.int y5), .val (.long q6), .second, .val (.long q8), .second, .val (.long ((q6 - (1 : Int64)) + (y5.toInt64))), .second, .unset]) rfl k) ?_
      show own_Ends _ _ _ _ (s₁.setTop (mkF m 84 #[.val (.int p0), .val (.int p1), .val (.int p2), .val (.int x3), .val (.int x4), .val (.int y5), .val (.long q6), .second, .val (.long q8), .second, .val (.long ((q6 - (1 : Int64)) + (y5.toInt64))), .second, .unset] []))
      generalize hq10 : ((q6 - (1 : Int64)) + (y5.toInt64)) = q10
      show own_Ends _ _ _ _ (s₁.setTop (mkF m 84 #[.val (.int p0), .val (.int p1), .val (.int p2), .val (.int x3), .val (.int x4), .val (.int y5), .val (.long q6), .second, .val (.long q8), .second, .val (.long q10), .second, .unset] []))
      refine own_pre (fun t k => XS.goto X0.here hx rfl (pc0 := 84) (pc' := 101) rfl (hb hby at_84) (by decide) (by decide) k) ?_
      show own_Ends _ _ _ _ (s₁.setTop (mkF m 101 #[.val (.int p0), .val (.int p1), .val (.int p2), .val (.int x3), .val (.int x4), .val (.int y5), .val (.long q6), .second, .val (.long q8), .second, .val (.long q10), .second, .unset] []))
      obtain ⟨T51, h51, X51, e51, E51, A51, D51, -, st51⟩ := newO X0 hx hZ hown (hw _ (List.mem_of_getElem? (i := 2) rfl)) (hw _ (List.mem_of_getElem? (i := 3) rfl)) (hw _ (List.mem_of_getElem? (i := 4) rfl)) e0 (g := (mkF m 101 #[.val (.int p0), .val (.int p1), .val (.int p2), .val (.int x3), .val (.int x4), .val (.int y5), .val (.long q6), .second, .val (.long q8), .second, .val (.long q10), .second, .unset] [])) rfl (hb hby at_101) (by decide) (by decide)
      obtain ⟨b51, g51⟩ : ∃ z, z = h0.size := ⟨_, rfl⟩
      rw [← g51] at A51 D51 st51
      refine own_pre st51 ?_
      have L52 : n0 ≤ b51 := Nat.le_trans Z0 (Nat.le_of_eq g51.symm)
      have Zn53 : n0 ≤ h51.size := Nat.le_trans Z0 E51.1
      have f54 : Fld Z h51 b51 "com/example/cardea/cardea/scheme/BinaryTree" "depth" "I" (.int (0 : Int32)) := D51 (Or.inr (hw _ (List.mem_of_getElem? (i := 19) rfl))) (ty := .int) (by decide)
      have f55 : Fld Z h51 b51 "com/example/cardea/cardea/scheme/BinaryTree" "deep" "I" (.int (0 : Int32)) := D51 (Or.inr (hw _ (List.mem_of_getElem? (i := 21) rfl))) (ty := .int) (by decide)
      show own_Ends _ _ _ _ (T51.setTop (mkF m 104 #[.val (.int p0), .val (.int p1), .val (.int p2), .val (.int x3), .val (.int x4), .val (.int y5), .val (.long q6), .second, .val (.long q8), .second, .val (.long q10), .second, .unset] [(.ref b51)]))
      refine own_pre (fun t k => XS.dup X51.here hx rfl (hb hby at_104) rfl rfl k) ?_
      show own_Ends _ _ _ _ (T51.setTop (mkF m 105 #[.val (.int p0), .val (.int p1), .val (.int p2), .val (.int x3), .val (.int x4), .val (.int y5), .val (.long q6), .second, .val (.long q8), .second, .val (.long q10), .second, .unset] [(.ref b51), (.ref b51)]))
      refine own_pre (fun t k => XS.iload X51.here hx rfl (hb hby at_105) rfl k) ?_
      show own_Ends _ _ _ _ (T51.setTop (mkF m 107 #[.val (.int p0), .val (.int p1), .val (.int p2), .val (.int x3), .val (.int x4), .val (.int y5), .val (.long q6), .second, .val (.long q8), .second, .val (.long q10), .second, .unset] [(.int x4), (.ref b51), (.ref b51)]))
      obtain ⟨_, _, ⟨T56, L56, k56, n56⟩, -, X56, ⟨Lc56, hQ56, l56, y56, z56⟩, st56⟩ := X51.specialBack hx (y := (⟨"com/example/cardea/cardea/scheme/BinaryTree", "<init>", "(I)V"⟩ : MethodName)) rfl hown (mvT hZ (hw _ (List.mem_of_getElem? (i := 5) rfl))) (mvT hZ (hw _ (List.mem_of_getElem? (i := 6) rfl))) (mvT hZ (hw _ (List.mem_of_getElem? (i := 7) rfl))) (by decide) (backOf (W := 1) (rm3 l Z a0 hw [] b51 x4 h51 n0 Zn53 A51 L52 f54 f55) hZ (hw _ (List.mem_of_getElem? (i := 7) rfl)) (hw _ (List.mem_of_getElem? (i := 4) rfl)) (by decide) (by decide)) (g := (mkF m 107 #[.val (.int p0), .val (.int p1), .val (.int p2), .val (.int x3), .val (.int x4), .val (.int y5), .val (.long q6), .second, .val (.long q8), .second, .val (.long q10), .second, .unset] [(.int x4), (.ref b51), (.ref b51)])) rfl (by rw [hml]; rfl) (Steps.refl _) (a := b51) (argsL := [(.int x4)]) (rest := [(.ref b51)]) (lenOf own_pd1 rfl) rfl (by show 2 * 0 + _ ≤ _; exact Nat.le_of_eq rfl) (hb hby at_107) (fun _ _ => ⟨rfl, e51, (by decide : 1 + 0 ≤ _), (by decide : 2 + 0 ≤ _)⟩)
      dsimp only [Pt.U, Pt.locs, Pt.cells, Pt.slots] at X56 l56 y56 z56 st56 hQ56
      subst l56 y56 z56
      obtain ⟨rfl, Nq56, Kq56, f57, f58⟩ := hQ56
      have N56 := Fr.app N0 Nq56
      have f59 := A51.keep Kq56
      have Zn56 : n0 ≤ T56.heap.size := Nat.le_trans Zn53 Kq56.1
      refine own_pre (fun t k => st56.trans k) ?_
      show own_Ends _ _ _ _ (T56.setTop (mkF m 110 #[.val (.int p0), .val (.int p1), .val (.int p2), .val (.int x3), .val (.int x4), .val (.int y5), .val (.long q6), .second, .val (.long q8), .second, .val (.long q10), .second, .unset] [(.ref b51)]))
      refine own_pre (fun t k => XS.astore X56.here hx rfl (hb hby at_110) rfl rfl (l' := #[.val (.int p0), .val (.int p1), .val (.int p2), .val (.int x3), .val (.int x4), .val (.int y5), .val (.long q6), .second, .val (.long q8), .second, .val (.long q10), .second, .val (.ref b51)]) rfl k) ?_
      show own_Ends _ _ _ _ (T56.setTop (mkF m 112 #[.val (.int p0), .val (.int p1), .val (.int p2), .val (.int x3), .val (.int x4), .val (.int y5), .val (.long q6), .second, .val (.long q8), .second, .val (.long q10), .second, .val (.ref b51)] []))
      refine own_pre (fun t k => XS.aload X56.here hx rfl (hb hby at_112) rfl rfl k) ?_
      show own_Ends _ _ _ _ (T56.setTop (mkF m 114 #[.val (.int p0), .val (.int p1), .val (.int p2), .val (.int x3), .val (.int x4), .val (.int y5), .val (.long q6), .second, .val (.long q8), .second, .val (.long q10), .second, .val (.ref b51)] [(.ref b51)]))
      refine own_pre (fun t k => XS.iload X56.here hx rfl (hb hby at_114) rfl k) ?_
      show own_Ends _ _ _ _ (T56.setTop (mkF m 116 #[.val (.int p0), .val (.int p1), .val (.int p2), .val (.int x3), .val (.int x4), .val (.int y5), .val (.long q6), .second, .val (.long q8), .second, .val (.long q10), .second, .val (.ref b51)] [(.int y5), (.ref b51)]))
      obtain ⟨cq60, kq60, q60a, q60b, q60c⟩ := isOf hZ rfl f59
      obtain ⟨_, _, ⟨T60, L60, k60, n60⟩, -, X60, ⟨Lc60, hQ60, l60, y60, z60⟩, st60⟩ := X56.virtualBack hx (y := (⟨"com/example/cardea/cardea/scheme/BinaryTree", "leaf", "(I)I"⟩ : MethodName)) (z := (⟨"com/example/cardea/cardea/scheme/BinaryTree", "leaf", "(I)I"⟩ : MethodName)) hown (mvT hZ (hw _ (List.mem_of_getElem? (i := 22) rfl))) (mvT hZ (hw _ (List.mem_of_getElem? (i := 23) rfl))) (notFace_of_selects (args := #[]) (mvT hZ (hw _ (List.mem_of_getElem? (i := 25) rfl)))) (mvT hZ (hw _ (List.mem_of_getElem? (i := 25) rfl))) (mvT hZ (hw _ (List.mem_of_getElem? (i := 24) rfl))) (by decide) (backOf (W := 0) (rm4 l Z a0 hw [] b51 y5 (own_depth x4) (((2 : Int32) * x4) - ((1 : Int32) <<< ((own_depth x4) &&& 31))) T56.heap n0 Zn56 f57 f58) hZ (hw _ (List.mem_of_getElem? (i := 26) rfl)) (hw _ (List.mem_of_getElem? (i := 4) rfl)) (by decide) (by decide)) q60a q60c (g := (mkF m 116 #[.val (.int p0), .val (.int p1), .val (.int p2), .val (.int x3), .val (.int x4), .val (.int y5), .val (.long q6), .second, .val (.long q8), .second, .val (.long q10), .second, .val (.ref b51)] [(.int y5), (.ref b51)])) rfl (by rw [hml]; rfl) (Steps.refl _) (argsL := [(.int y5)]) (rest := []) (lenOf own_pd0 rfl) rfl (by show 2 * 0 + _ ≤ _; exact Nat.le_of_eq rfl) (hb hby at_116) (fun _ _ => ⟨rfl, rfl, (by decide : 1 + 0 ≤ _), (by decide : 2 + 0 ≤ _)⟩)
      dsimp only [Pt.U, Pt.locs, Pt.cells, Pt.slots] at X60 l60 y60 z60 st60 hQ60
      subst l60 y60 z60
      obtain ⟨rfl, Nq60, e60⟩ := hQ60
      have N60 := Fr.app N56 Nq60
      refine own_pre (fun t k => st60.trans k) ?_
      show own_Ends _ _ _ _ (T60.setTop (mkF m 119 #[.val (.int p0), .val (.int p1), .val (.int p2), .val (.int x3), .val (.int x4), .val (.int y5), .val (.long q6), .second, .val (.long q8), .second, .val (.long q10), .second, .val (.ref b51)] [(.int (own_leaf (own_depth x4) (((2 : Int32) * x4) - ((1 : Int32) <<< ((own_depth x4) &&& 31))) y5))]))
      refine own_pre (fun t k => XS.i2l X60.here hx rfl (hb hby at_119) rfl k) ?_
      show own_Ends _ _ _ _ (T60.setTop (mkF m 120 #[.val (.int p0), .val (.int p1), .val (.int p2), .val (.int x3), .val (.int x4), .val (.int y5), .val (.long q6), .second, .val (.long q8), .second, .val (.long q10), .second, .val (.ref b51)] [(.long ((own_leaf (own_depth x4) (((2 : Int32) * x4) - ((1 : Int32) <<< ((own_depth x4) &&& 31))) y5).toInt64))]))
      refine own_pre (fun t k => XS.lload X60.here hx rfl (hb hby at_120) rfl k) ?_
      show own_Ends _ _ _ _ (T60.setTop (mkF m 122 #[.val (.int p0), .val (.int p1), .val (.int p2), .val (.int x3), .val (.int x4), .val (.int y5), .val (.long q6), .second, .val (.long q8), .second, .val (.long q10), .second, .val (.ref b51)] [(.long q10), (.long ((own_leaf (own_depth x4) (((2 : Int32) * x4) - ((1 : Int32) <<< ((own_depth x4) &&& 31))) y5).toInt64))]))
      refine own_pre (fun t k => XS.lcmp X60.here hx rfl (hb hby at_122) rfl k) ?_
      show own_Ends _ _ _ _ (T60.setTop (mkF m 123 #[.val (.int p0), .val (.int p1), .val (.int p2), .val (.int x3), .val (.int x4), .val (.int y5), .val (.long q6), .second, .val (.long q8), .second, .val (.long q10), .second, .val (.ref b51)] [(.int (own_cmpL ((own_leaf (own_depth x4) (((2 : Int32) * x4) - ((1 : Int32) <<< ((own_depth x4) &&& 31))) y5).toInt64) q10))]))
      refine own_pre (fun t k => XS.ifNo X60.here hx rfl (hb hby at_123) rfl ((if0 _ _).trans (teq (own_finA (own_d30 hx3) (own_rng (own_d30 hx3) hc28 hx5 hx4) (own_remB hy5 (own_rngPos (own_rng (own_d30 hx3) hc28 hx5 hx4))) hq6 hq8 hc50 hq10 : (own_cmpL ((own_leaf (own_depth x4) (((2 : Int32) * x4) - ((1 : Int32) <<< ((own_depth x4) &&& 31))) y5).toInt64) q10) = (0 : Int32))).2) k) ?_
      show own_Ends _ _ _ _ (T60.setTop (mkF m 126 #[.val (.int p0), .val (.int p1), .val (.int p2), .val (.int x3), .val (.int x4), .val (.int y5), .val (.long q6), .second, .val (.long q8), .second, .val (.long q10), .second, .val (.ref b51)] []))
      refine own_pre (fun t k => XS.iconst X60.here hx rfl (hb hby at_126) k) ?_
      show own_Ends _ _ _ _ (T60.setTop (mkF m 127 #[.val (.int p0), .val (.int p1), .val (.int p2), .val (.int x3), .val (.int x4), .val (.int y5), .val (.long q6), .second, .val (.long q8), .second, .val (.long q10), .second, .val (.ref b51)] [(.int (1 : Int32))]))
      refine own_pre (fun t k => XS.goto X60.here hx rfl (pc0 := 127) (pc' := 131) rfl (hb hby at_127) (by decide) (by decide) k) ?_
      show own_Ends _ _ _ _ (T60.setTop (mkF m 131 #[.val (.int p0), .val (.int p1), .val (.int p2), .val (.int x3), .val (.int x4), .val (.int y5), .val (.long q6), .second, .val (.long q8), .second, .val (.long q10), .second, .val (.ref b51)] [(.int (1 : Int32))]))
      exact own_retN X60 hx (t := .boolean) Bd.returns (by simp) (hb hby at_131) hlk rfl e60 ⟨rfl, N60⟩ (by decide) (by decide)
    · skip
      refine own_pre (fun t k => XS.ifYes X0.here hx rfl (pc0 := 71) (pc' := 87) rfl (hb hby at_71) rfl ((if0 _ _).trans (flt hc50).2.1) (by decide) (by decide) k) ?_
      show own_Ends _ _ _ _ (s₁.setTop (mkF m 87 #[.val (.int p0), .val (.int p1), .val (.int p2), .val (.int x3), .val (.int x4), .val (.int y5), .val (.long q6), .second, .val (.long q8), .second, .unset, .unset, .unset] []))
      refine own_pre (fun t k => XS.lload X0.here hx rfl (hb hby at_87) rfl k) ?_
      show own_Ends _ _ _ _ (s₁.setTop (mkF m 89 #[.val (.int p0), .val (.int p1), .val (.int p2), .val (.int x3), .val (.int x4), .val (.int y5), .val (.long q6), .second, .val (.long q8), .second, .unset, .unset, .unset] [(.long q6)]))
      refine own_pre (fun t k => XS.lconst X0.here hx rfl (hb hby at_89) k) ?_
      show own_Ends _ _ _ _ (s₁.setTop (mkF m 90 #[.val (.int p0), .val (.int p1), .val (.int p2), .val (.int x3), .val (.int x4), .val (.int y5), .val (.long q6), .second, .val (.long q8), .second, .unset, .unset, .unset] [(.long (1 : Int64)), (.long q6)]))
      refine own_pre (fun t k => XS.lsub X0.here hx rfl (hb hby at_90) rfl k) ?_
      show own_Ends _ _ _ _ (s₁.setTop (mkF m 91 #[.val (.int p0), .val (.int p1), .val (.int p2), .val (.int x3), .val (.int x4), .val (.int y5), .val (.long q6), .second, .val (.long q8), .second, .unset, .unset, .unset] [(.long (q6 - (1 : Int64)))]))
      refine own_pre (fun t k => XS.iload X0.here hx rfl (hb hby at_91) rfl k) ?_
      show own_Ends _ _ _ _ (s₁.setTop (mkF m 93 #[.val (.int p0), .val (.int p1), .val (.int p2), .val (.int x3), .val (.int x4), .val (.int y5), .val (.long q6), .second, .val (.long q8), .second, .unset, .unset, .unset] [(.int x4), (.long (q6 - (1 : Int64)))]))
      refine own_pre (fun t k => XS.i2l X0.here hx rfl (hb hby at_93) rfl k) ?_
      show own_Ends _ _ _ _ (s₁.setTop (mkF m 94 #[.val (.int p0), .val (.int p1), .val (.int p2), .val (.int x3), .val (.int x4), .val (.int y5), .val (.long q6), .second, .val (.long q8), .second, .unset, .unset, .unset] [(.long (x4.toInt64)), (.long (q6 - (1 : Int64)))]))
      refine own_pre (fun t k => XS.lsub X0.here hx rfl (hb hby at_94) rfl k) ?_
      show own_Ends _ _ _ _ (s₁.setTop (mkF m 95 #[.val (.int p0), .val (.int p1), .val (.int p2), .val (.int x3), .val (.int x4), .val (.int y5), .val (.long q6), .second, .val (.long q8), .second, .unset, .unset, .unset] [(.long ((q6 - (1 : Int64)) - (x4.toInt64)))]))
      refine own_pre (fun t k => XS.iload X0.here hx rfl (hb hby at_95) rfl k) ?_
      show own_Ends _ _ _ _ (s₁.setTop (mkF m 97 #[.val (.int p0), .val (.int p1), .val (.int p2), .val (.int x3), .val (.int x4), .val (.int y5), .val (.long q6), .second, .val (.long q8), .second, .unset, .unset, .unset] [(.int y5), (.long ((q6 - (1 : Int64)) - (x4.toInt64)))]))
      refine own_pre (fun t k => XS.i2l X0.here hx rfl (hb hby at_97) rfl k) ?_
      show own_Ends _ _ _ _ (s₁.setTop (mkF m 98 #[.val (.int p0), .val (.int p1), .val (.int p2), .val (.int x3), .val (.int x4), .val (.int y5), .val (.long q6), .second, .val (.long q8), .second, .unset, .unset, .unset] [(.long (y5.toInt64)), (.long ((q6 - (1 : Int64)) - (x4.toInt64)))]))
      refine own_pre (fun t k => XS.ladd X0.here hx rfl (hb hby at_98) rfl k) ?_
      show own_Ends _ _ _ _ (s₁.setTop (mkF m 99 #[.val (.int p0), .val (.int p1), .val (.int p2), .val (.int x3), .val (.int x4), .val (.int y5), .val (.long q6), .second, .val (.long q8), .second, .unset, .unset, .unset] [(.long (((q6 - (1 : Int64)) - (x4.toInt64)) + (y5.toInt64)))]))
      refine own_pre (fun t k => XS.lstore X0.here hx rfl (hb hby at_99) rfl (l' := #[.val (.int p0), .val (.int p1), .val (.int p2), .val (.int x3), .val (.int x4), .val (.int y5), .val (.long q6), .second, .val (.long q8), .second, .val (.long (((q6 - (1 : Int64)) - (x4.toInt64)) + (y5.toInt64))), .second, .unset]) rfl k) ?_
      show own_Ends _ _ _ _ (s₁.setTop (mkF m 101 #[.val (.int p0), .val (.int p1), .val (.int p2), .val (.int x3), .val (.int x4), .val (.int y5), .val (.long q6), .second, .val (.long q8), .second, .val (.long (((q6 - (1 : Int64)) - (x4.toInt64)) + (y5.toInt64))), .second, .unset] []))
      generalize hq10 : (((q6 - (1 : Int64)) - (x4.toInt64)) + (y5.toInt64)) = q10
      show own_Ends _ _ _ _ (s₁.setTop (mkF m 101 #[.val (.int p0), .val (.int p1), .val (.int p2), .val (.int x3), .val (.int x4), .val (.int y5), .val (.long q6), .second, .val (.long q8), .second, .val (.long q10), .second, .unset] []))
      obtain ⟨T61, h61, X61, e61, E61, A61, D61, -, st61⟩ := newO X0 hx hZ hown (hw _ (List.mem_of_getElem? (i := 2) rfl)) (hw _ (List.mem_of_getElem? (i := 3) rfl)) (hw _ (List.mem_of_getElem? (i := 4) rfl)) e0 (g := (mkF m 101 #[.val (.int p0), .val (.int p1), .val (.int p2), .val (.int x3), .val (.int x4), .val (.int y5), .val (.long q6), .second, .val (.long q8), .second, .val (.long q10), .second, .unset] [])) rfl (hb hby at_101) (by decide) (by decide)
      obtain ⟨b61, g61⟩ : ∃ z, z = h0.size := ⟨_, rfl⟩
      rw [← g61] at A61 D61 st61
      refine own_pre st61 ?_
      have L62 : n0 ≤ b61 := Nat.le_trans Z0 (Nat.le_of_eq g61.symm)
      have Zn63 : n0 ≤ h61.size := Nat.le_trans Z0 E61.1
      have f64 : Fld Z h61 b61 "com/example/cardea/cardea/scheme/BinaryTree" "depth" "I" (.int (0 : Int32)) := D61 (Or.inr (hw _ (List.mem_of_getElem? (i := 19) rfl))) (ty := .int) (by decide)
      have f65 : Fld Z h61 b61 "com/example/cardea/cardea/scheme/BinaryTree" "deep" "I" (.int (0 : Int32)) := D61 (Or.inr (hw _ (List.mem_of_getElem? (i := 21) rfl))) (ty := .int) (by decide)
      show own_Ends _ _ _ _ (T61.setTop (mkF m 104 #[.val (.int p0), .val (.int p1), .val (.int p2), .val (.int x3), .val (.int x4), .val (.int y5), .val (.long q6), .second, .val (.long q8), .second, .val (.long q10), .second, .unset] [(.ref b61)]))
      refine own_pre (fun t k => XS.dup X61.here hx rfl (hb hby at_104) rfl rfl k) ?_
      show own_Ends _ _ _ _ (T61.setTop (mkF m 105 #[.val (.int p0), .val (.int p1), .val (.int p2), .val (.int x3), .val (.int x4), .val (.int y5), .val (.long q6), .second, .val (.long q8), .second, .val (.long q10), .second, .unset] [(.ref b61), (.ref b61)]))
      refine own_pre (fun t k => XS.iload X61.here hx rfl (hb hby at_105) rfl k) ?_
      show own_Ends _ _ _ _ (T61.setTop (mkF m 107 #[.val (.int p0), .val (.int p1), .val (.int p2), .val (.int x3), .val (.int x4), .val (.int y5), .val (.long q6), .second, .val (.long q8), .second, .val (.long q10), .second, .unset] [(.int x4), (.ref b61), (.ref b61)]))
      obtain ⟨_, _, ⟨T66, L66, k66, n66⟩, -, X66, ⟨Lc66, hQ66, l66, y66, z66⟩, st66⟩ := X61.specialBack hx (y := (⟨"com/example/cardea/cardea/scheme/BinaryTree", "<init>", "(I)V"⟩ : MethodName)) rfl hown (mvT hZ (hw _ (List.mem_of_getElem? (i := 5) rfl))) (mvT hZ (hw _ (List.mem_of_getElem? (i := 6) rfl))) (mvT hZ (hw _ (List.mem_of_getElem? (i := 7) rfl))) (by decide) (backOf (W := 1) (rm3 l Z a0 hw [] b61 x4 h61 n0 Zn63 A61 L62 f64 f65) hZ (hw _ (List.mem_of_getElem? (i := 7) rfl)) (hw _ (List.mem_of_getElem? (i := 4) rfl)) (by decide) (by decide)) (g := (mkF m 107 #[.val (.int p0), .val (.int p1), .val (.int p2), .val (.int x3), .val (.int x4), .val (.int y5), .val (.long q6), .second, .val (.long q8), .second, .val (.long q10), .second, .unset] [(.int x4), (.ref b61), (.ref b61)])) rfl (by rw [hml]; rfl) (Steps.refl _) (a := b61) (argsL := [(.int x4)]) (rest := [(.ref b61)]) (lenOf own_pd1 rfl) rfl (by show 2 * 0 + _ ≤ _; exact Nat.le_of_eq rfl) (hb hby at_107) (fun _ _ => ⟨rfl, e61, (by decide : 1 + 0 ≤ _), (by decide : 2 + 0 ≤ _)⟩)
      dsimp only [Pt.U, Pt.locs, Pt.cells, Pt.slots] at X66 l66 y66 z66 st66 hQ66
      subst l66 y66 z66
      obtain ⟨rfl, Nq66, Kq66, f67, f68⟩ := hQ66
      have N66 := Fr.app N0 Nq66
      have f69 := A61.keep Kq66
      have Zn66 : n0 ≤ T66.heap.size := Nat.le_trans Zn63 Kq66.1
      refine own_pre (fun t k => st66.trans k) ?_
      show own_Ends _ _ _ _ (T66.setTop (mkF m 110 #[.val (.int p0), .val (.int p1), .val (.int p2), .val (.int x3), .val (.int x4), .val (.int y5), .val (.long q6), .second, .val (.long q8), .second, .val (.long q10), .second, .unset] [(.ref b61)]))
      refine own_pre (fun t k => XS.astore X66.here hx rfl (hb hby at_110) rfl rfl (l' := #[.val (.int p0), .val (.int p1), .val (.int p2), .val (.int x3), .val (.int x4), .val (.int y5), .val (.long q6), .second, .val (.long q8), .second, .val (.long q10), .second, .val (.ref b61)]) rfl k) ?_
      show own_Ends _ _ _ _ (T66.setTop (mkF m 112 #[.val (.int p0), .val (.int p1), .val (.int p2), .val (.int x3), .val (.int x4), .val (.int y5), .val (.long q6), .second, .val (.long q8), .second, .val (.long q10), .second, .val (.ref b61)] []))
      refine own_pre (fun t k => XS.aload X66.here hx rfl (hb hby at_112) rfl rfl k) ?_
      show own_Ends _ _ _ _ (T66.setTop (mkF m 114 #[.val (.int p0), .val (.int p1), .val (.int p2), .val (.int x3), .val (.int x4), .val (.int y5), .val (.long q6), .second, .val (.long q8), .second, .val (.long q10), .second, .val (.ref b61)] [(.ref b61)]))
      refine own_pre (fun t k => XS.iload X66.here hx rfl (hb hby at_114) rfl k) ?_
      show own_Ends _ _ _ _ (T66.setTop (mkF m 116 #[.val (.int p0), .val (.int p1), .val (.int p2), .val (.int x3), .val (.int x4), .val (.int y5), .val (.long q6), .second, .val (.long q8), .second, .val (.long q10), .second, .val (.ref b61)] [(.int y5), (.ref b61)]))
      obtain ⟨cq70, kq70, q70a, q70b, q70c⟩ := isOf hZ rfl f69
      obtain ⟨_, _, ⟨T70, L70, k70, n70⟩, -, X70, ⟨Lc70, hQ70, l70, y70, z70⟩, st70⟩ := X66.virtualBack hx (y := (⟨"com/example/cardea/cardea/scheme/BinaryTree", "leaf", "(I)I"⟩ : MethodName)) (z := (⟨"com/example/cardea/cardea/scheme/BinaryTree", "leaf", "(I)I"⟩ : MethodName)) hown (mvT hZ (hw _ (List.mem_of_getElem? (i := 22) rfl))) (mvT hZ (hw _ (List.mem_of_getElem? (i := 23) rfl))) (notFace_of_selects (args := #[]) (mvT hZ (hw _ (List.mem_of_getElem? (i := 25) rfl)))) (mvT hZ (hw _ (List.mem_of_getElem? (i := 25) rfl))) (mvT hZ (hw _ (List.mem_of_getElem? (i := 24) rfl))) (by decide) (backOf (W := 0) (rm4 l Z a0 hw [] b61 y5 (own_depth x4) (((2 : Int32) * x4) - ((1 : Int32) <<< ((own_depth x4) &&& 31))) T66.heap n0 Zn66 f67 f68) hZ (hw _ (List.mem_of_getElem? (i := 26) rfl)) (hw _ (List.mem_of_getElem? (i := 4) rfl)) (by decide) (by decide)) q70a q70c (g := (mkF m 116 #[.val (.int p0), .val (.int p1), .val (.int p2), .val (.int x3), .val (.int x4), .val (.int y5), .val (.long q6), .second, .val (.long q8), .second, .val (.long q10), .second, .val (.ref b61)] [(.int y5), (.ref b61)])) rfl (by rw [hml]; rfl) (Steps.refl _) (argsL := [(.int y5)]) (rest := []) (lenOf own_pd0 rfl) rfl (by show 2 * 0 + _ ≤ _; exact Nat.le_of_eq rfl) (hb hby at_116) (fun _ _ => ⟨rfl, rfl, (by decide : 1 + 0 ≤ _), (by decide : 2 + 0 ≤ _)⟩)
      dsimp only [Pt.U, Pt.locs, Pt.cells, Pt.slots] at X70 l70 y70 z70 st70 hQ70
      subst l70 y70 z70
      obtain ⟨rfl, Nq70, e70⟩ := hQ70
      have N70 := Fr.app N66 Nq70
      refine own_pre (fun t k => st70.trans k) ?_
      show own_Ends _ _ _ _ (T70.setTop (mkF m 119 #[.val (.int p0), .val (.int p1), .val (.int p2), .val (.int x3), .val (.int x4), .val (.int y5), .val (.long q6), .second, .val (.long q8), .second, .val (.long q10), .second, .val (.ref b61)] [(.int (own_leaf (own_depth x4) (((2 : Int32) * x4) - ((1 : Int32) <<< ((own_depth x4) &&& 31))) y5))]))
      refine own_pre (fun t k => XS.i2l X70.here hx rfl (hb hby at_119) rfl k) ?_
      show own_Ends _ _ _ _ (T70.setTop (mkF m 120 #[.val (.int p0), .val (.int p1), .val (.int p2), .val (.int x3), .val (.int x4), .val (.int y5), .val (.long q6), .second, .val (.long q8), .second, .val (.long q10), .second, .val (.ref b61)] [(.long ((own_leaf (own_depth x4) (((2 : Int32) * x4) - ((1 : Int32) <<< ((own_depth x4) &&& 31))) y5).toInt64))]))
      refine own_pre (fun t k => XS.lload X70.here hx rfl (hb hby at_120) rfl k) ?_
      show own_Ends _ _ _ _ (T70.setTop (mkF m 122 #[.val (.int p0), .val (.int p1), .val (.int p2), .val (.int x3), .val (.int x4), .val (.int y5), .val (.long q6), .second, .val (.long q8), .second, .val (.long q10), .second, .val (.ref b61)] [(.long q10), (.long ((own_leaf (own_depth x4) (((2 : Int32) * x4) - ((1 : Int32) <<< ((own_depth x4) &&& 31))) y5).toInt64))]))
      refine own_pre (fun t k => XS.lcmp X70.here hx rfl (hb hby at_122) rfl k) ?_
      show own_Ends _ _ _ _ (T70.setTop (mkF m 123 #[.val (.int p0), .val (.int p1), .val (.int p2), .val (.int x3), .val (.int x4), .val (.int y5), .val (.long q6), .second, .val (.long q8), .second, .val (.long q10), .second, .val (.ref b61)] [(.int (own_cmpL ((own_leaf (own_depth x4) (((2 : Int32) * x4) - ((1 : Int32) <<< ((own_depth x4) &&& 31))) y5).toInt64) q10))]))
      refine own_pre (fun t k => XS.ifNo X70.here hx rfl (hb hby at_123) rfl ((if0 _ _).trans (teq (own_finB (own_d30 hx3) (own_rng (own_d30 hx3) hc28 hx5 hx4) (own_remB hy5 (own_rngPos (own_rng (own_d30 hx3) hc28 hx5 hx4))) hq6 hq8 hc50 hq10 : (own_cmpL ((own_leaf (own_depth x4) (((2 : Int32) * x4) - ((1 : Int32) <<< ((own_depth x4) &&& 31))) y5).toInt64) q10) = (0 : Int32))).2) k) ?_
      show own_Ends _ _ _ _ (T70.setTop (mkF m 126 #[.val (.int p0), .val (.int p1), .val (.int p2), .val (.int x3), .val (.int x4), .val (.int y5), .val (.long q6), .second, .val (.long q8), .second, .val (.long q10), .second, .val (.ref b61)] []))
      refine own_pre (fun t k => XS.iconst X70.here hx rfl (hb hby at_126) k) ?_
      show own_Ends _ _ _ _ (T70.setTop (mkF m 127 #[.val (.int p0), .val (.int p1), .val (.int p2), .val (.int x3), .val (.int x4), .val (.int y5), .val (.long q6), .second, .val (.long q8), .second, .val (.long q10), .second, .val (.ref b61)] [(.int (1 : Int32))]))
      refine own_pre (fun t k => XS.goto X70.here hx rfl (pc0 := 127) (pc' := 131) rfl (hb hby at_127) (by decide) (by decide) k) ?_
      show own_Ends _ _ _ _ (T70.setTop (mkF m 131 #[.val (.int p0), .val (.int p1), .val (.int p2), .val (.int x3), .val (.int x4), .val (.int y5), .val (.long q6), .second, .val (.long q8), .second, .val (.long q10), .second, .val (.ref b61)] [(.int (1 : Int32))]))
      exact own_retN X70 hx (t := .boolean) Bd.returns (by simp) (hb hby at_131) hlk rfl e70 ⟨rfl, N70⟩ (by decide) (by decide)
set_option maxRecDepth 65536 in
set_option maxHeartbeats 40000000 in
theorem own_comes {Post : Tables → Env → Array Value → State → Outcome → State → Prop} (hpost : ∀ tb e args s v u, (limb_1_1.after args s (.returned v) u = true ∧ limb_1_2.after args s (.returned v) u = true ∧ True) → FrameEnd s (.returned v) u (Jvm.fieldLocs frame_1_writes args s ++ Jvm.arrayLocs frame_1_arrays args s ++ Jvm.staticLocs frame_1_statics s) 16 128 → Post tb e args s (.returned v) u) :
    ArmFor flags0 classFile x code maxLocals ret World_1 tables_1 room_1 Calls_1 rest_1 Pre_1 Post := by
  intro l hfl _ _ p e ha hc hk s m args below hf hA hF happ hP
  obtain ⟨hcalls, hrest, hpre⟩ := hP
  obtain ⟨-, -, -, hnamed, -, -, -, hat⟩ := (Spec.applies_iff hf).mp happ
  obtain ⟨hg, hn⟩ := and_e (Cond.before_iff.mp (show (Jvm.Cond.and given_1 narrow_1).before args s = true from hpre))
  obtain ⟨hcount, g0⟩ := and_e hg
  obtain ⟨hk0, g1⟩ := and_e g0
  obtain ⟨hk1, g2⟩ := and_e g1
  obtain ⟨w0, w1, w2, rfl⟩ : ∃ w0 w1 w2 : Value, args = #[w0, w1, w2] := by
    have hs : args.size = 3 := by simpa [Cond.value, given_1] using hcount
    obtain ⟨L⟩ := args
    match L, hs with
    | [w0, w1, w2], _ => exact ⟨w0, w1, w2, rfl⟩
  have hw := fun d (hd : d ∈ tables_1) => atoms_spec (ws := Jvm.Cond.code x code maxLocals ret :: tables_1) hat d (List.mem_cons_of_mem _ hd)
  have hfit : Fit s := fun {y c} hc i hi => by
    obtain ⟨ha, rfl⟩ := Array.getElem?_eq_some_iff.mp hc
    have q := List.all_eq_true.mp ((Array.all_eq_true_iff_forall_mem.mp hF) _ (Array.getElem_mem ha)) i (List.mem_range.mpr hi)
    simpa [Array.getElem?_eq_getElem hi] using q
  obtain ⟨i0, ei0⟩ := is_v hk0
  obtain rfl : w0 = (.int i0) := Option.some.inj ei0
  obtain ⟨i1, ei1⟩ := is_v hk1
  obtain rfl : w1 = (.int i1) := Option.some.inj ei1
  obtain ⟨i2, ei2⟩ := is_v g2
  obtain rfl : w2 = (.int i2) := Option.some.inj ei2
  obtain ⟨n, o, h1, h2, h3, _, L, rfl, ⟨rfl, N⟩, hq⟩ := rm0 l s _ hw tables_1 i0 i1 i2 s.heap s.heap.size (Nat.le_refl _)  p e ha hc hk s m _ below hf ((Spec.applies_iff_loose hf).mp happ).1 ⟨rfl, State.Warmed39.refl s, rfl⟩ trivial
  refine ⟨n, _, h1, h2, h3, hpost _ _ _ _ _ _ ⟨Cond.after_iff.mpr rfl, Cond.after_iff.mpr (eq_i res_at (Term.int_eval (1)) rfl), trivial⟩ ⟨hq.1, hq.2.1, (hq.2.2.sift fun y hy => Or.inr (N y hy)).mono (by decide) (by decide)⟩⟩
theorem main_1_1 : Claimed_1_1 := own_comes fun _ _ _ _ _ _ h hF => ⟨h.1, hF⟩
theorem main_1_2 : Claimed_1_2 := own_comes fun _ _ _ _ _ _ h hF => ⟨h.2.1, hF⟩
end Jvm.Pilot.@@N@@
namespace Jvm.Pilot.@@N@@
open Jvm Jvm.ClassFile Sem Op Lib Jvm.Free Jvm.Stand Jvm.Pilot.@@N@@.Jvm.D
/-! MADE BY PROGRAM (witnessworld.py) out of the Statement's table words and the real class files: 14 classes; the members and pool entries that the words name. The judged class is class 1, her method 1. -/
namespace start1
open Jvm.ClassFile
def u (s : String) : CpInfo := .utf8 (stringToUtf16 s)
/-- a pool by its gaps: so many unusable entries, then the entry; so many at the end -/
def gap : Nat → List CpInfo → List CpInfo
  | 0, r => r
  | n + 1, r => .unusable :: gap n r
def poolList (es : List (Nat × CpInfo)) (last : Nat) : List CpInfo := es.foldr (fun e r => gap e.1 (e.2 :: r)) (gap last [])
def pool (es : List (Nat × CpInfo)) (last : Nat) : Array CpInfo := ⟨poolList es last⟩
def fileOf (pool : Array CpInfo) (this : Nat) (attrs : Array Attribute := #[]) (ms : Array MethodInfo := #[]) (fl : Nat := 33) (sup : Nat := 0) (ifs : Array Nat := #[]) (fds : Array FieldInfo := #[]) : ClassFile where
  minorVersion := 0
  majorVersion := 65
  constantPool := pool
  accessFlags := fl
  thisClass := this
  superClass := sup
  interfaces := ifs
  fields := fds
  methods := ms
  attributes := attrs
def plain (name : String) (sup : Option ClassId) : Class where
  name := name
  kind := .ordinary
  loader := none
  accessFlags := 33
  super := sup
  interfaces := #[]
  cf := none
  fields := #[]
  methods := #[]
  instanceTypes := #[]
  staticTypes := #[]
  resolved := #[]
  callSites := []
  init := .initialized
  statics := none
  mirror := none

def pool0 : Array CpInfo := pool [(5, u "<init>"), (0, u "()V"), (1, .class_ 10), (1, u "java/lang/Object")] 113

def k0c0 : Code := { maxStack := 0, maxLocals := 1, code := object_method_1_code, exceptionTable := #[], attributes := #[] }
def k0m0 : Method := { name := "<init>", desc := "()V", sig := { parameters := [], returnType := none }, accessFlags := 1, code := some k0c0 }
/-- java/lang/Object -/
def k0 : Class := { plain "java/lang/Object" none with
  accessFlags := 33
  interfaces := #[]
  cf := some (fileOf pool0 8 #[] #[{ accessFlags := 1, nameIndex := 5, descriptorIndex := 6, attributes := #[] }] 33 0 #[] #[])
  fields := #[]
  methods := #[k0m0]
  instanceTypes := #[]
  staticTypes := #[]
  resolved := Array.replicate 124 none
  statics := none }

def pool1 : Array CpInfo := pool [(2, .class_ 4), (1, u "java/lang/Object"), (0, u "<init>"), (0, u "()V"), (0, .integer 2147483647), (0, .long 2), (1, .class_ 11), (0, u "com/example/cardea/cardea/scheme/BinaryTree"), (0, .methodref 10 13), (0, .nameAndType 5 14), (0, u "(I)V"), (0, .methodref 10 16), (0, .nameAndType 17 18), (0, u "leaf"), (0, u "(I)I"), (0, .class_ 20), (0, u "com/example/cardea/cardea/scheme/BinaryTreeLeafPinLaw"), (2, u "law"), (0, u "(III)Z")] 3

def k1m0 : Method := { name := "<init>", desc := "()V", sig := { parameters := [], returnType := none }, accessFlags := 1, code := none }
def k1c1 : Code := { maxStack := 4, maxLocals := 13, code := code, exceptionTable := #[], attributes := #[] }
def k1m1 : Method := { name := "law", desc := "(III)Z", sig := { parameters := [.int, .int, .int], returnType := some .boolean }, accessFlags := 9, code := some k1c1 }
/-- com/example/cardea/cardea/scheme/BinaryTreeLeafPinLaw -/
def k1 : Class := { plain "com/example/cardea/cardea/scheme/BinaryTreeLeafPinLaw" (some 0) with
  accessFlags := 49
  interfaces := #[]
  cf := some (fileOf pool1 19 #[] #[{ accessFlags := 1, nameIndex := 5, descriptorIndex := 6, attributes := #[] }, { accessFlags := 9, nameIndex := 23, descriptorIndex := 24, attributes := #[] }] 49 2 #[] #[])
  fields := #[]
  methods := #[k1m0, k1m1]
  instanceTypes := #[]
  staticTypes := #[]
  resolved := Array.replicate 28 none
  statics := none }

def pool2 : Array CpInfo := pool [(1, .methodref 2 3), (0, .class_ 4), (0, .nameAndType 5 6), (0, u "java/lang/Object"), (0, u "<init>"), (0, u "()V"), (0, .methodref 8 9), (0, .class_ 10), (0, .nameAndType 11 12), (0, u "com/example/cardea/cardea/scheme/BinaryTree"), (0, u "depth"), (0, u "(I)I"), (0, .fieldref 8 14), (0, .nameAndType 11 15), (0, u "I"), (0, .fieldref 8 17), (0, .nameAndType 18 15), (0, u "deep"), (2, u "NAME"), (0, u "Ljava/util/regex/Pattern;"), (31, .class_ 56), (1, u "java/lang/Integer"), (46, .methodref 54 104), (0, .nameAndType 105 12), (0, u "numberOfLeadingZeros"), (12, u "MAX_DEPTH"), (6, u "(I)V"), (10, u "leaf")] 27

def k2c0 : Code := { maxStack := 4, maxLocals := 2, code := prog_15_method_1_code, exceptionTable := #[], attributes := #[] }
def k2m0 : Method := { name := "<init>", desc := "(I)V", sig := { parameters := [.int], returnType := none }, accessFlags := 0, code := some k2c0 }
def k2c1 : Code := { maxStack := 3, maxLocals := 3, code := prog_15_method_5_code, exceptionTable := #[], attributes := #[] }
def k2m1 : Method := { name := "leaf", desc := "(I)I", sig := { parameters := [.int], returnType := some .int }, accessFlags := 0, code := some k2c1 }
def k2c2 : Code := { maxStack := 3, maxLocals := 1, code := prog_15_method_15_code, exceptionTable := #[], attributes := #[] }
def k2m2 : Method := { name := "depth", desc := "(I)I", sig := { parameters := [.int], returnType := some .int }, accessFlags := 10, code := some k2c2 }
/-- com/example/cardea/cardea/scheme/BinaryTree -/
def k2 : Class := { plain "com/example/cardea/cardea/scheme/BinaryTree" (some 0) with
  accessFlags := 32
  interfaces := #[]
  cf := some (fileOf pool2 8 #[] #[{ accessFlags := 0, nameIndex := 5, descriptorIndex := 125, attributes := #[] }, { accessFlags := 0, nameIndex := 136, descriptorIndex := 12, attributes := #[] }, { accessFlags := 10, nameIndex := 11, descriptorIndex := 12, attributes := #[] }] 32 2 #[] #[{ accessFlags := 24, nameIndex := 118, descriptorIndex := 15, attributes := #[] }, { accessFlags := 26, nameIndex := 21, descriptorIndex := 22, attributes := #[] }, { accessFlags := 18, nameIndex := 11, descriptorIndex := 15, attributes := #[] }, { accessFlags := 18, nameIndex := 18, descriptorIndex := 15, attributes := #[] }])
  fields := #[{ name := "MAX_DEPTH", type := .int, accessFlags := 24, slot := 0, constantValue := 0 }, { name := "NAME", type := (.object "java/util/regex/Pattern"), accessFlags := 26, slot := 1, constantValue := 0 }, { name := "depth", type := .int, accessFlags := 18, slot := 0, constantValue := 0 }, { name := "deep", type := .int, accessFlags := 18, slot := 1, constantValue := 0 }]
  methods := #[k2m0, k2m1, k2m2]
  instanceTypes := #[.int, .int]
  staticTypes := #[.int, (.object "java/util/regex/Pattern")]
  resolved := Array.replicate 164 none
  statics := none }

def pool3 : Array CpInfo := pool [(1, .class_ 2), (0, u "java/io/Serializable"), (0, .class_ 4), (0, u "java/lang/Object")] 2

/-- java/io/Serializable -/
def k3 : Class := { plain "java/io/Serializable" (some 0) with
  accessFlags := 1537
  interfaces := #[]
  cf := some (fileOf pool3 1 #[] #[] 1537 3 #[] #[])
  fields := #[]
  methods := #[]
  instanceTypes := #[]
  staticTypes := #[]
  resolved := Array.replicate 7 none
  statics := none }

def pool4 : Array CpInfo := pool [(2, .class_ 4), (1, u "java/lang/Object"), (0, u "<init>"), (0, u "()V"), (1, .class_ 10), (1, u "java/lang/Number"), (2, .class_ 14), (0, u "java/io/Serializable"), (0, u "serialVersionUID"), (0, u "J")] 20

def k4m0 : Method := { name := "<init>", desc := "()V", sig := { parameters := [], returnType := none }, accessFlags := 1, code := none }
/-- java/lang/Number -/
def k4 : Class := { plain "java/lang/Number" (some 0) with
  accessFlags := 1057
  interfaces := #[3]
  cf := some (fileOf pool4 8 #[] #[{ accessFlags := 1, nameIndex := 5, descriptorIndex := 6, attributes := #[] }] 1057 2 #[13] #[{ accessFlags := 26, nameIndex := 15, descriptorIndex := 16, attributes := #[] }])
  fields := #[{ name := "serialVersionUID", type := .long, accessFlags := 26, slot := 0, constantValue := 0 }]
  methods := #[k4m0]
  instanceTypes := #[]
  staticTypes := #[.long]
  resolved := Array.replicate 37 none
  statics := none }

def pool5 : Array CpInfo := pool [(1, .class_ 2), (0, u "java/lang/Comparable"), (0, .class_ 4), (0, u "java/lang/Object")] 7

/-- java/lang/Comparable -/
def k5 : Class := { plain "java/lang/Comparable" (some 0) with
  accessFlags := 1537
  interfaces := #[]
  cf := some (fileOf pool5 1 #[] #[] 1537 3 #[] #[])
  fields := #[]
  methods := #[]
  instanceTypes := #[]
  staticTypes := #[]
  resolved := Array.replicate 12 none
  statics := none }

def pool6 : Array CpInfo := pool [(1, .class_ 2), (0, u "java/lang/constant/Constable"), (0, .class_ 4), (0, u "java/lang/Object")] 6

/-- java/lang/constant/Constable -/
def k6 : Class := { plain "java/lang/constant/Constable" (some 0) with
  accessFlags := 1537
  interfaces := #[]
  cf := some (fileOf pool6 1 #[] #[] 1537 3 #[] #[])
  fields := #[]
  methods := #[]
  instanceTypes := #[]
  staticTypes := #[]
  resolved := Array.replicate 11 none
  statics := none }

def pool7 : Array CpInfo := pool [(1, .class_ 2), (0, u "java/lang/constant/ConstantDesc"), (0, .class_ 4), (0, u "java/lang/Object")] 32

/-- java/lang/constant/ConstantDesc -/
def k7 : Class := { plain "java/lang/constant/ConstantDesc" (some 0) with
  accessFlags := 1537
  interfaces := #[]
  cf := some (fileOf pool7 1 #[] #[] 1537 3 #[] #[])
  fields := #[]
  methods := #[]
  instanceTypes := #[]
  staticTypes := #[]
  resolved := Array.replicate 37 none
  statics := none }

def pool8 : Array CpInfo := pool [(1, .class_ 2), (0, u "java/lang/Integer"), (16, u "digits"), (0, u "[C"), (32, u "numberOfLeadingZeros"), (0, u "(I)I"), (30, u "DigitOnes"), (0, u "[B"), (2, u "DigitTens"), (99, .class_ 190), (0, u "java/lang/Integer$IntegerCache"), (3, u "I"), (8, .class_ 204), (0, u "java/lang/Number"), (2, u "value"), (56, .integer 65536), (37, u "TYPE"), (0, u "Ljava/lang/Class;"), (0, .class_ 305), (0, u "java/lang/Comparable"), (0, .class_ 307), (0, u "java/lang/constant/Constable"), (0, .class_ 309), (0, u "java/lang/constant/ConstantDesc"), (0, u "MIN_VALUE"), (1, u "MAX_VALUE"), (3, u "SIZE"), (1, u "BYTES"), (1, u "serialVersionUID"), (0, u "J")] 131

def k8c0 : Code := { maxStack := 3, maxLocals := 2, code := jdk_33_method_47_code, exceptionTable := #[], attributes := #[] }
def k8m0 : Method := { name := "numberOfLeadingZeros", desc := "(I)I", sig := { parameters := [.int], returnType := some .int }, accessFlags := 9, code := some k8c0 }
/-- java/lang/Integer -/
def k8 : Class := { plain "java/lang/Integer" (some 4) with
  accessFlags := 49
  interfaces := #[5, 6, 7]
  cf := some (fileOf pool8 1 #[.nestMembers #[189]] #[{ accessFlags := 9, nameIndex := 53, descriptorIndex := 54, attributes := #[] }] 49 203 #[304, 306, 308] #[{ accessFlags := 25, nameIndex := 310, descriptorIndex := 194, attributes := #[] }, { accessFlags := 25, nameIndex := 312, descriptorIndex := 194, attributes := #[] }, { accessFlags := 25, nameIndex := 302, descriptorIndex := 303, attributes := #[] }, { accessFlags := 24, nameIndex := 19, descriptorIndex := 20, attributes := #[] }, { accessFlags := 24, nameIndex := 89, descriptorIndex := 86, attributes := #[] }, { accessFlags := 24, nameIndex := 85, descriptorIndex := 86, attributes := #[] }, { accessFlags := 18, nameIndex := 207, descriptorIndex := 194, attributes := #[] }, { accessFlags := 25, nameIndex := 316, descriptorIndex := 194, attributes := #[] }, { accessFlags := 25, nameIndex := 318, descriptorIndex := 194, attributes := #[] }, { accessFlags := 26, nameIndex := 320, descriptorIndex := 321, attributes := #[] }])
  fields := #[{ name := "MIN_VALUE", type := .int, accessFlags := 25, slot := 0, constantValue := 0 }, { name := "MAX_VALUE", type := .int, accessFlags := 25, slot := 1, constantValue := 0 }, { name := "TYPE", type := (.object "java/lang/Class"), accessFlags := 25, slot := 2, constantValue := 0 }, { name := "digits", type := (.array .char), accessFlags := 24, slot := 3, constantValue := 0 }, { name := "DigitTens", type := (.array .byte), accessFlags := 24, slot := 4, constantValue := 0 }, { name := "DigitOnes", type := (.array .byte), accessFlags := 24, slot := 5, constantValue := 0 }, { name := "value", type := .int, accessFlags := 18, slot := 0, constantValue := 0 }, { name := "SIZE", type := .int, accessFlags := 25, slot := 6, constantValue := 0 }, { name := "BYTES", type := .int, accessFlags := 25, slot := 7, constantValue := 0 }, { name := "serialVersionUID", type := .long, accessFlags := 26, slot := 8, constantValue := 0 }]
  methods := #[k8m0]
  instanceTypes := #[.int]
  staticTypes := #[.int, .int, (.object "java/lang/Class"), (.array .char), (.array .byte), (.array .byte), .int, .int, .long]
  resolved := Array.replicate 453 none
  statics := none }

def pool9 : Array CpInfo := pool [(1, u "java/lang/Cloneable"), (0, .class_ 1), (0, u "java/lang/Object"), (0, .class_ 3)] 3

/-- java/lang/Cloneable -/
def k9 : Class := { plain "java/lang/Cloneable" (some 0) with
  accessFlags := 1537
  interfaces := #[]
  cf := some (fileOf pool9 2 #[] #[] 1537 4 #[] #[])
  fields := #[]
  methods := #[]
  instanceTypes := #[]
  staticTypes := #[]
  resolved := Array.replicate 8 none
  statics := none }

/-- the primitive byte -/
def k10 : Class := { plain "byte" none with kind := .primitive 'B', accessFlags := 0x411 }
/-- [B -/
def k11 : Class := { plain "[B" (some 0) with kind := .array 10 .byte, interfaces := #[9, 3], accessFlags := 1041 }

/-- the primitive int -/
def k12 : Class := { plain "int" none with kind := .primitive 'I', accessFlags := 0x411 }
/-- [I -/
def k13 : Class := { plain "[I" (some 0) with kind := .array 12 .int, interfaces := #[9, 3], accessFlags := 1041 }

def heap : Heap := #[]
def classes : Array Class := #[k0, k1, k2, k3, k4, k5, k6, k7, k8, k9, k10, k11, k12, k13]
def interned : List (Array UInt16 × Addr) := []
def slotsUsed : Nat := 0
def theMethod : MethodId := ⟨1, 1⟩
def args0 : Array Value := #[.int 1, .int 2, .int 3]
def aboutOver (below : List Frame) : State where
  vm := { classes := classes, interned := interned.toArray }
  heap := heap
  slotsUsed := slotsUsed
  threads := #[{ frames := .invoking theMethod args0 :: below }]
def below0 : List Frame := [.native { method := ⟨0, 0⟩, args := #[] }]
def about1 : State := aboutOver below0
def p0 : Program := .bare "" "" ""
def e0 : Env := launch0.env 0 0 0
theorem w_frames : about1.frames = Frame.invoking theMethod args0 :: below0 := rfl
set_option maxRecDepth 65536 in
theorem w_args : argsFit about1.vm theMethod args0 = true := by decide +kernel
set_option maxRecDepth 65536 in
theorem w_heap : heapFits about1 = true := by decide +kernel
set_option maxRecDepth 65536 in
theorem w_runnable : about1.curStatus? = some .runnable := by decide +kernel
set_option maxRecDepth 65536 in
theorem w_alone : about1.alone = true := by decide +kernel
set_option maxRecDepth 65536 in
theorem w_named : about1.methodNamed? x = some theMethod := by decide +kernel
set_option maxRecDepth 65536 in
theorem w_hears : about1.hears theMethod below0 = true := by decide +kernel
set_option maxRecDepth 65536 in
theorem w_ripe : about1.ripe theMethod args0 below0 = true := by decide +kernel
theorem w_running : about1.status = .running := rfl
set_option maxRecDepth 65536 in
theorem w_room : about1.hasRoom e0.platform room_1 = true :=
  launch0.hasRoom_least _ room_1 (by decide +kernel) (by decide +kernel) (by decide +kernel) (by decide +kernel) (by decide +kernel) (by decide +kernel)
theorem allAtoms_all (ts : List Jvm.Cond) (a : Array Jvm.Value) (st : Jvm.State) : (allAtoms ts).before a st = ts.all (fun c => c.before a st) := by
  induction ts with
  | nil => rfl
  | cons c t ih =>
    show (Jvm.Cond.and c (allAtoms t)).before a st = _
    rw [Jvm.Cond.before_and, ih, List.all_cons]
def words1 : List Jvm.Cond := Jvm.Cond.code x code maxLocals ret :: tables_1
/-- a 'code' word, met by the world's own term for the bytes: nothing is compared byte by byte -/
theorem code_word {y : MethodName} {bytes : ByteArray} {mx : Nat} {rt : Option FieldType} {a : Array Value} {s : State} {m : MethodId} {meth : Method} {c : Code} (h1 : s.methodNamed? y = some m) (h2 : s.vm.method? m = some meth) (h3 : meth.code = some c) (h4 : c.code = bytes)
    (h5 : (c.maxLocals == mx && c.exceptionTable.isEmpty && decide (c.maxStack ≤ mostOperands) && decide (meth.sig.returnType = rt) && !meth.locks && decide (parseMethodDescriptor y.desc = some meth.sig)) = true) : (Jvm.Cond.code y bytes mx rt).before a s = true := by
  simp only [Bool.and_eq_true, beq_iff_eq, Bool.not_eq_true', decide_eq_true_eq] at h5
  obtain ⟨⟨⟨⟨⟨g1, g2⟩, g3⟩, g4⟩, g5⟩, g6⟩ := h5
  simp [Cond.before, Cond.holds, Cond.value, h1, h2, h3, h4, g1, g2, g3, g4, g5, g6]
def isCode : Jvm.Cond → Bool
  | .code _ _ _ _ => true
  | _ => false
theorem all_split {L : List Jvm.Cond} {P : Jvm.Cond → Bool} (h1 : L.all (fun c => isCode c || P c) = true) (h2 : ∀ c ∈ L.filter isCode, P c = true) : L.all P = true := by
  refine List.all_eq_true.mpr fun c hc => ?_
  have h := List.all_eq_true.mp h1 c hc
  rcases Bool.eq_false_or_eq_true (isCode c) with hi | hi
  · exact h2 c (List.mem_filter.mpr ⟨hc, hi⟩)
  · simpa [hi] using h
set_option maxRecDepth 65536 in
theorem w_c0 : (Jvm.Cond.code x code maxLocals ret).before args0 about1 = true := code_word (m := ⟨1, 1⟩) (meth := k1m1) (c := k1c1) (by decide +kernel) rfl rfl rfl (by decide +kernel)
set_option maxRecDepth 65536 in
theorem w_c1 : (Jvm.Cond.code ({ cls := "com/example/cardea/cardea/scheme/BinaryTree", name := "<init>", desc := "(I)V" } : Jvm.MethodName) prog_15_method_1_code (2 : Nat) (Option.none : Option Jvm.ClassFile.FieldType)).before args0 about1 = true := code_word (m := ⟨2, 0⟩) (meth := k2m0) (c := k2c0) (by decide +kernel) rfl rfl rfl (by decide +kernel)
set_option maxRecDepth 65536 in
theorem w_c2 : (Jvm.Cond.code ({ cls := "java/lang/Object", name := "<init>", desc := "()V" } : Jvm.MethodName) object_method_1_code (1 : Nat) (Option.none : Option Jvm.ClassFile.FieldType)).before args0 about1 = true := code_word (m := ⟨0, 0⟩) (meth := k0m0) (c := k0c0) (by decide +kernel) rfl rfl rfl (by decide +kernel)
set_option maxRecDepth 65536 in
theorem w_c3 : (Jvm.Cond.code ({ cls := "com/example/cardea/cardea/scheme/BinaryTree", name := "depth", desc := "(I)I" } : Jvm.MethodName) prog_15_method_15_code (1 : Nat) (Option.some Jvm.ClassFile.FieldType.int)).before args0 about1 = true := code_word (m := ⟨2, 2⟩) (meth := k2m2) (c := k2c2) (by decide +kernel) rfl rfl rfl (by decide +kernel)
set_option maxRecDepth 65536 in
theorem w_c4 : (Jvm.Cond.code ({ cls := "java/lang/Integer", name := "numberOfLeadingZeros", desc := "(I)I" } : Jvm.MethodName) jdk_33_method_47_code (2 : Nat) (Option.some Jvm.ClassFile.FieldType.int)).before args0 about1 = true := code_word (m := ⟨8, 0⟩) (meth := k8m0) (c := k8c0) (by decide +kernel) rfl rfl rfl (by decide +kernel)
set_option maxRecDepth 65536 in
theorem w_c5 : (Jvm.Cond.code ({ cls := "com/example/cardea/cardea/scheme/BinaryTree", name := "leaf", desc := "(I)I" } : Jvm.MethodName) prog_15_method_5_code (3 : Nat) (Option.some Jvm.ClassFile.FieldType.int)).before args0 about1 = true := code_word (m := ⟨2, 1⟩) (meth := k2m1) (c := k2c1) (by decide +kernel) rfl rfl rfl (by decide +kernel)
def codes1 : List Jvm.Cond := [Jvm.Cond.code x code maxLocals ret, Jvm.Cond.code ({ cls := "com/example/cardea/cardea/scheme/BinaryTree", name := "<init>", desc := "(I)V" } : Jvm.MethodName) prog_15_method_1_code (2 : Nat) (Option.none : Option Jvm.ClassFile.FieldType), Jvm.Cond.code ({ cls := "java/lang/Object", name := "<init>", desc := "()V" } : Jvm.MethodName) object_method_1_code (1 : Nat) (Option.none : Option Jvm.ClassFile.FieldType), Jvm.Cond.code ({ cls := "com/example/cardea/cardea/scheme/BinaryTree", name := "depth", desc := "(I)I" } : Jvm.MethodName) prog_15_method_15_code (1 : Nat) (Option.some Jvm.ClassFile.FieldType.int), Jvm.Cond.code ({ cls := "java/lang/Integer", name := "numberOfLeadingZeros", desc := "(I)I" } : Jvm.MethodName) jdk_33_method_47_code (2 : Nat) (Option.some Jvm.ClassFile.FieldType.int), Jvm.Cond.code ({ cls := "com/example/cardea/cardea/scheme/BinaryTree", name := "leaf", desc := "(I)I" } : Jvm.MethodName) prog_15_method_5_code (3 : Nat) (Option.some Jvm.ClassFile.FieldType.int)]
set_option maxRecDepth 65536 in
theorem codes_eq : words1.filter isCode = codes1 := rfl
theorem w_codes : ∀ c ∈ words1.filter isCode, c.before args0 about1 = true := by
  rw [codes_eq]
  intro c hc
  simp only [codes1, List.mem_cons, List.not_mem_nil, or_false] at hc
  rcases hc with rfl | rfl | rfl | rfl | rfl | rfl
  · exact w_c0
  · exact w_c1
  · exact w_c2
  · exact w_c3
  · exact w_c4
  · exact w_c5
set_option maxRecDepth 65536 in
theorem w_t1 : (words1.take 24).all (fun c => isCode c || c.before args0 about1) = true := by decide +kernel
set_option maxRecDepth 65536 in
theorem w_t2 : (words1.drop 24).all (fun c => isCode c || c.before args0 about1) = true := by decide +kernel
theorem w_tables : (allAtoms (Jvm.Cond.code x code maxLocals ret :: tables_1)).before args0 about1 = true := by
  rw [allAtoms_all]
  show words1.all (fun c => c.before args0 about1) = true
  refine all_split ?_ w_codes
  rw [← List.take_append_drop 24 words1, List.all_append, w_t1, w_t2]
  rfl
set_option maxRecDepth 65536 in
theorem w_case : (Jvm.Cond.and given_1 narrow_1).before args0 about1 = true := by decide +kernel
theorem w_applies : (headSpec (Jvm.Cond.code x code maxLocals ret :: tables_1) room_1).applies x e0.platform about1 = true :=
  (Spec.applies_iff w_frames).mpr ⟨w_running, w_runnable, w_alone, w_named, w_hears, w_ripe, w_room, w_tables⟩
theorem atStart : AtStart classFile x code maxLocals ret World_1 tables_1 room_1 Calls_1 rest_1 Pre_1 launch0 p0 e0 about1 theMethod args0 below0 :=
  ⟨lists_1, trivial, launch0.admits_env _ _ _, launch0.least_env, fairChoices_fair.cas, fairChoices_fair.clock, w_frames, w_args, w_heap, w_applies, trivial, trivial, w_case⟩
end start1
theorem witness_1 : WitnessClaimed_1 := ⟨start1.p0, start1.e0, start1.about1, start1.theMethod, start1.args0, start1.below0, start1.atStart⟩
end Jvm.Pilot.@@N@@

import JvmDerived
import JvmDerived.Pilot.@@N@@Statement
import JvmDerived.Pilot.@@N@@Code
set_option linter.unusedVariables false
set_option linter.unusedSimpArgs false
@@BLOCK:NumsL.lean.txt@@
namespace Jvm.Pilot.@@N@@
open Jvm Jvm.ClassFile Sem Op Lib Jvm.Free Jvm.Stand Jvm.LawKit Jvm.RoadKit Bundle Jvm.Pilot.@@N@@.Jvm.D
section Own
variable {p : Program} {l : Launch} {e : Env} {R : Room} {s : State} {m : MethodId} {args : Array Value} {below : List Frame} {meth : Method} {c : Code} {T : State} {locs : List Loc} {cells slots : Nat}
/-- from t the invocation comes to its end, and F holds there -/
def own_Ends (p : Program) (e : Env) (below : List Frame) (F : State → Outcome → Prop) (t : State) : Prop := ∃ s₂ o, Steps p.tables e below t s₂ ∧ s₂.status = .running ∧ Ended s₂ below o ∧ F s₂ o
theorem own_pre {F : State → Outcome → Prop} {t t' : State} (k : ∀ u, Steps p.tables e below t' u → Steps p.tables e below t u) (h : own_Ends p e below F t') : own_Ends p e below F t := by
  obtain ⟨s₂, o, h1, h2⟩ := h
  exact ⟨s₂, o, k _ h1, h2⟩
/-- what is asked of the end: G of the value, the heap and the places written; the frame -/
def own_Fin (s : State) (G : Option Value → Heap → List Loc → Prop) (C S : Nat) (s₂ : State) (o : Outcome) : Prop := ∃ v L, o = .returned v ∧ G v s₂.heap L ∧ FrameEnd s o s₂ L C S
theorem own_out (X : Stand p l e R s m args below meth c T locs cells slots) {v : Option Value} (hv : meth.sig.returnType = none → v = none) (hlk : meth.locks = false) {g : JFrame} {G : Option Value → Heap → List Loc → Prop} {C S : Nat} {h : Heap} (eT : T.heap = h) (hG : G v h locs) (hC : cells ≤ C) (hS : slots ≤ S)
    (st : ∀ fs, (∀ (f : JFrame) (acts : List Action), f.method = m → f.locked = none → f.entered = [] → (doReturn e (T.setTop f) acts v).1 = T.setFrames fs) → Steps p.tables e below (T.setTop g) (T.setFrames fs)) : own_Ends p e below (own_Fin s G C S) (T.setTop g) := by
  obtain ⟨fs, hr, hrun, hended, hW, hsame⟩ := X.leave (v := v) hv hlk
  subst eT
  exact ⟨_, _, st fs hr, hrun, hended, v, locs, rfl, hG, ⟨_, rfl⟩, hW, hsame.mono hC hS⟩
theorem own_retN (X : Stand p l e R s m args below meth c T locs cells slots) (hx : p.tables.exec = Jvm.exec) {pc : Nat} {Ls : Array Slot} {z z' : Int32} {t : FieldType} {rest : List Value} (hret : meth.sig.returnType = some t) (ht : t = .boolean ∨ t = .byte ∨ t = .char ∨ t = .short) (hd : decode c.code pc = .ok (.ireturn, 1)) (hlk : meth.locks = false) (hz : nar t z = z')
    {G : Option Value → Heap → List Loc → Prop} {C S : Nat} {h : Heap} (eT : T.heap = h) (hG : G (some (.int z')) h locs) (hC : cells ≤ C) (hS : slots ≤ S) : own_Ends p e below (own_Fin s G C S) (T.setTop (mkF m pc Ls (.int z :: rest))) := by
  subst hz
  exact own_out X (fun h => by rw [hret] at h; cases h) hlk eT hG hC hS (fun fs hr => retN X hx hret ht hd hr)
theorem own_retI (X : Stand p l e R s m args below meth c T locs cells slots) (hx : p.tables.exec = Jvm.exec) {pc : Nat} {Ls : Array Slot} {z : Int32} {rest : List Value} (hret : meth.sig.returnType = some .int) (hd : decode c.code pc = .ok (.ireturn, 1)) (hlk : meth.locks = false)
    {G : Option Value → Heap → List Loc → Prop} {C S : Nat} {h : Heap} (eT : T.heap = h) (hG : G (some (.int z)) h locs) (hC : cells ≤ C) (hS : slots ≤ S) : own_Ends p e below (own_Fin s G C S) (T.setTop (mkF m pc Ls (.int z :: rest))) :=
  own_out X (fun h => by rw [hret] at h; cases h) hlk eT hG hC hS (fun fs hr => retOut X hx hret rfl (Or.inl ⟨rfl, Or.inl rfl, _, rfl⟩) hd hr)
theorem own_retJ (X : Stand p l e R s m args below meth c T locs cells slots) (hx : p.tables.exec = Jvm.exec) {pc : Nat} {Ls : Array Slot} {z : Int64} {rest : List Value} (hret : meth.sig.returnType = some .long) (hd : decode c.code pc = .ok (.lreturn, 1)) (hlk : meth.locks = false)
    {G : Option Value → Heap → List Loc → Prop} {C S : Nat} {h : Heap} (eT : T.heap = h) (hG : G (some (.long z)) h locs) (hC : cells ≤ C) (hS : slots ≤ S) : own_Ends p e below (own_Fin s G C S) (T.setTop (mkF m pc Ls (.long z :: rest))) :=
  own_out X (fun h => by rw [hret] at h; cases h) hlk eT hG hC hS (fun fs hr => retOut X hx hret rfl (Or.inr (Or.inl ⟨rfl, rfl, _, rfl⟩)) hd hr)
theorem own_retR (X : Stand p l e R s m args below meth c T locs cells slots) (hx : p.tables.exec = Jvm.exec) {pc : Nat} {Ls : Array Slot} {a : Addr} {t : FieldType} {rest : List Value} (hret : meth.sig.returnType = some t) (ht : t.isReference = true) (hd : decode c.code pc = .ok (.areturn, 1)) (hlk : meth.locks = false)
    {G : Option Value → Heap → List Loc → Prop} {C S : Nat} {h : Heap} (eT : T.heap = h) (hG : G (some (.ref a)) h locs) (hC : cells ≤ C) (hS : slots ≤ S) : own_Ends p e below (own_Fin s G C S) (T.setTop (mkF m pc Ls (.ref a :: rest))) :=
  own_out X (fun h => by rw [hret] at h; cases h) hlk eT hG hC hS (fun fs hr => retOut X hx hret (by cases t <;> first | rfl | (simp [FieldType.isReference] at ht)) (Or.inr (Or.inr (Or.inr (Or.inr ⟨rfl, ht, rfl⟩)))) hd hr)
theorem own_retV (X : Stand p l e R s m args below meth c T locs cells slots) (hx : p.tables.exec = Jvm.exec) {pc : Nat} {Ls : Array Slot} (hret : meth.sig.returnType = none) (hd : decode c.code pc = .ok (.return_, 1)) (hlk : meth.locks = false)
    {G : Option Value → Heap → List Loc → Prop} {C S : Nat} {h : Heap} (eT : T.heap = h) (hG : G none h locs) (hC : cells ≤ C) (hS : slots ≤ S) : own_Ends p e below (own_Fin s G C S) (T.setTop (mkF m pc Ls [])) :=
  own_out X (fun _ => rfl) hlk eT hG hC hS (fun fs hr => X.returnOut hx hret hd hr)
theorem own_len (X : Stand p l e R s m args below meth c T locs cells slots) (hx : p.tables.exec = Jvm.exec) {h : Heap} (eT : T.heap = h) {Z : State} (hZ : Z.Warmed39 s.vm) {a : Addr} {cl : Cell} {ty : FieldType} {z : Int32} (A : Arr Z h a cl ty) (S : cl.slots.size = z.toNatClampNeg) (M : ¬ z < 0)
    {g : JFrame} (hg : g.method = m) {rest : List Value} (hs : g.stack = .ref a :: rest) (hd : decode c.code g.pc = .ok (.arraylength, 1)) {target : State} (k : Steps p.tables e below (T.setTop { g with pc := g.pc + 1, stack := .int z :: rest }) target) : Steps p.tables e below (T.setTop g) target := by
  refine X.arraylength hx (by rw [eT]; exact A.1) (State.isArrayOf_alike hZ.alike A.2.1) hg hs hd _ ?_
  rw [len_of S M]
  exact k
theorem own_setAny {Z : State} {h h' : Heap} {a : Addr} {cl : Cell} {k : ClassId} {ty : FieldType} {z : Int32} {vs : List Value} {dv v : Value} {j : Nat} (A : Arr Z h a cl ty) (q1 : cl.cls = k) (S : cl.slots.size = z.toNatClampNeg) (q3 : ¬ z < 0) (H : Has cl vs dv) (G : ∀ i, i < cl.slots.size → fits ty (vs.getD i dv) = true) (hv : fits ty v = true) (W : Wr h h' a j v) : ∃ vs', Arv Z h' a k ty z vs' dv := by
  have E : ∀ x, x < (cl.setSlot j v).slots.size → (cl.setSlot j v).slots[x]? = some ((cl.setSlot j v).slots.toList.getD x dv) := fun x hx => by
    rw [List.getD_eq_getElem?_getD, Array.getElem?_toList, Array.getElem?_eq_getElem hx]; rfl
  refine ⟨(cl.setSlot j v).slots.toList, _, A.same W, q1, by rw [sz_set]; exact S, q3, E, fun x hx => ?_⟩
  have hx' := hx
  rw [sz_set] at hx'
  have e1 := E x hx
  by_cases u : j = x
  · subst u
    have : (cl.setSlot j v).slots[j]? = some v := by simp [Cell.setSlot, hx']
    rw [this] at e1
    rw [← Option.some.inj e1]; exact hv
  · have : (cl.setSlot j v).slots[x]? = cl.slots[x]? := by simp [Cell.setSlot, Array.getElem?_setIfInBounds_ne u]
    rw [this, H x hx'] at e1
    rw [← Option.some.inj e1]; exact G x hx'
theorem own_staK {Z : State} {h h' : Heap} {a : Addr} {C n d D : String} {v : Value} (F : Sta Z h C n d v) (K : Keep h h' [a]) (E : Exa Z h a D) : Sta Z h' C n d v := by
  obtain ⟨cf, i, k, f, st, cell, h1, h2, h3, h4, h5, h6, h7⟩ := F
  obtain ⟨cl, kc, g1, -, -, g4, -⟩ := E
  have ne : st ≠ a := fun q => by subst q; cases h5.symm.trans g1; rw [h6] at g4; cases g4
  exact ⟨cf, i, k, f, st, cell, h1, h2, h3, h4, K.2.1 st cell h5 (ninS ne nin0), h6, h7⟩
theorem own_staK0 {Z : State} {h h' : Heap} {C n d : String} {v : Value} (F : Sta Z h C n d v) (K : Keep h h' []) : Sta Z h' C n d v := by
  obtain ⟨cf, i, k, f, st, cell, h1, h2, h3, h4, h5, h6, h7⟩ := F
  exact ⟨cf, i, k, f, st, cell, h1, h2, h3, h4, K.2.1 st cell h5 nin0, h6, h7⟩
theorem own_selP {Z : State} {a0 : Array Value} {y : MethodName} {kk : Nat} (hZ : Z.Warmed39 s.vm) (wi : (Cond.instantiable y.cls kk).before a0 Z = true) (wp : (Cond.privateMethod y).before a0 Z = true) (wm : (Cond.instanceMethod y).before a0 Z = true) (hy : y.cls ≠ "java/lang/invoke/MethodHandle" ∧ y.cls ≠ "java/lang/invoke/VarHandle") : (Cond.selects y.cls y y).before args s = true := by
  have wi' : (Cond.instantiable y.cls kk).before args s = true := mvT hZ wi
  obtain ⟨c', k', h1, h2, -, h4, -⟩ := Cond.instantiable_spec wi'
  have h5 : k'.isInterface = false := by
    cases q : k'.isInterface with
    | false => rfl
    | true => rw [q] at h4; simp at h4
  exact selects_self_of_private h1 h2 h5 (Cond.privateMethod_at (mvP hZ wp (args := args))) (mvT hZ wm) hy
/-- what lcmp pushes; the unsigned shifts -/
def own_cmpL (x y : Int64) : Int32 := if x > y then 1 else if x = y then 0 else -1
def own_ushr (x y : Int32) : Int32 := (x.toUInt32 >>> (y &&& 31).toUInt32).toInt32
def own_ushrL (x : Int64) (y : Int32) : Int64 := (x.toUInt64 >>> (y &&& 0x3f).toInt64.toUInt64).toInt64
theorem own_clt (x y : Int64) : own_cmpL x y < 0 ↔ x < y := lw_lt x y
theorem own_cgt (x y : Int64) : 0 < own_cmpL x y ↔ y < x := lw_gt x y
theorem own_ceq (x y : Int64) : own_cmpL x y = 0 ↔ x = y := lw_eq x y
end Own
theorem own_d4_0 : decode jdk_33_method_47_code 0 = .ok (.iload_n 0, 1) := by decide +kernel
theorem own_d4_1 : decode jdk_33_method_47_code 1 = .ok (.ifCond .gt 14, 3) := by decide +kernel
theorem own_d4_4 : decode jdk_33_method_47_code 4 = .ok (.iload_n 0, 1) := by decide +kernel
theorem own_d4_5 : decode jdk_33_method_47_code 5 = .ok (.ifCond .ne 8, 3) := by decide +kernel
theorem own_d4_8 : decode jdk_33_method_47_code 8 = .ok (.bipush 32, 2) := by decide +kernel
theorem own_d4_10 : decode jdk_33_method_47_code 10 = .ok (.goto 4, 3) := by decide +kernel
theorem own_d4_13 : decode jdk_33_method_47_code 13 = .ok (.iconst 0, 1) := by decide +kernel
theorem own_d4_14 : decode jdk_33_method_47_code 14 = .ok (.ireturn, 1) := by decide +kernel
theorem own_d4_15 : decode jdk_33_method_47_code 15 = .ok (.bipush 31, 2) := by decide +kernel
theorem own_d4_17 : decode jdk_33_method_47_code 17 = .ok (.istore_n 1, 1) := by decide +kernel
theorem own_d4_18 : decode jdk_33_method_47_code 18 = .ok (.iload_n 0, 1) := by decide +kernel
theorem own_d4_19 : decode jdk_33_method_47_code 19 = .ok (.ldc_w 264, 3) := by decide +kernel
theorem own_d4_22 : decode jdk_33_method_47_code 22 = .ok (.if_icmp .lt 11, 3) := by decide +kernel
theorem own_d4_25 : decode jdk_33_method_47_code 25 = .ok (.iinc 1 (-16), 3) := by decide +kernel
theorem own_d4_28 : decode jdk_33_method_47_code 28 = .ok (.iload_n 0, 1) := by decide +kernel
theorem own_d4_29 : decode jdk_33_method_47_code 29 = .ok (.bipush 16, 2) := by decide +kernel
theorem own_d4_31 : decode jdk_33_method_47_code 31 = .ok (.iushr, 1) := by decide +kernel
theorem own_d4_32 : decode jdk_33_method_47_code 32 = .ok (.istore_n 0, 1) := by decide +kernel
theorem own_d4_33 : decode jdk_33_method_47_code 33 = .ok (.iload_n 0, 1) := by decide +kernel
theorem own_d4_34 : decode jdk_33_method_47_code 34 = .ok (.sipush 256, 3) := by decide +kernel
theorem own_d4_37 : decode jdk_33_method_47_code 37 = .ok (.if_icmp .lt 11, 3) := by decide +kernel
theorem own_d4_40 : decode jdk_33_method_47_code 40 = .ok (.iinc 1 (-8), 3) := by decide +kernel
theorem own_d4_43 : decode jdk_33_method_47_code 43 = .ok (.iload_n 0, 1) := by decide +kernel
theorem own_d4_44 : decode jdk_33_method_47_code 44 = .ok (.bipush 8, 2) := by decide +kernel
theorem own_d4_46 : decode jdk_33_method_47_code 46 = .ok (.iushr, 1) := by decide +kernel
theorem own_d4_47 : decode jdk_33_method_47_code 47 = .ok (.istore_n 0, 1) := by decide +kernel
theorem own_d4_48 : decode jdk_33_method_47_code 48 = .ok (.iload_n 0, 1) := by decide +kernel
theorem own_d4_49 : decode jdk_33_method_47_code 49 = .ok (.bipush 16, 2) := by decide +kernel
theorem own_d4_51 : decode jdk_33_method_47_code 51 = .ok (.if_icmp .lt 10, 3) := by decide +kernel
theorem own_d4_54 : decode jdk_33_method_47_code 54 = .ok (.iinc 1 (-4), 3) := by decide +kernel
theorem own_d4_57 : decode jdk_33_method_47_code 57 = .ok (.iload_n 0, 1) := by decide +kernel
theorem own_d4_58 : decode jdk_33_method_47_code 58 = .ok (.iconst 4, 1) := by decide +kernel
theorem own_d4_59 : decode jdk_33_method_47_code 59 = .ok (.iushr, 1) := by decide +kernel
theorem own_d4_60 : decode jdk_33_method_47_code 60 = .ok (.istore_n 0, 1) := by decide +kernel
theorem own_d4_61 : decode jdk_33_method_47_code 61 = .ok (.iload_n 0, 1) := by decide +kernel
theorem own_d4_62 : decode jdk_33_method_47_code 62 = .ok (.iconst 4, 1) := by decide +kernel
theorem own_d4_63 : decode jdk_33_method_47_code 63 = .ok (.if_icmp .lt 10, 3) := by decide +kernel
theorem own_d4_66 : decode jdk_33_method_47_code 66 = .ok (.iinc 1 (-2), 3) := by decide +kernel
theorem own_d4_69 : decode jdk_33_method_47_code 69 = .ok (.iload_n 0, 1) := by decide +kernel
theorem own_d4_70 : decode jdk_33_method_47_code 70 = .ok (.iconst 2, 1) := by decide +kernel
theorem own_d4_71 : decode jdk_33_method_47_code 71 = .ok (.iushr, 1) := by decide +kernel
theorem own_d4_72 : decode jdk_33_method_47_code 72 = .ok (.istore_n 0, 1) := by decide +kernel
theorem own_d4_73 : decode jdk_33_method_47_code 73 = .ok (.iload_n 1, 1) := by decide +kernel
theorem own_d4_74 : decode jdk_33_method_47_code 74 = .ok (.iload_n 0, 1) := by decide +kernel
theorem own_d4_75 : decode jdk_33_method_47_code 75 = .ok (.iconst 1, 1) := by decide +kernel
theorem own_d4_76 : decode jdk_33_method_47_code 76 = .ok (.iushr, 1) := by decide +kernel
theorem own_d4_77 : decode jdk_33_method_47_code 77 = .ok (.isub, 1) := by decide +kernel
theorem own_d4_78 : decode jdk_33_method_47_code 78 = .ok (.ireturn, 1) := by decide +kernel
def own_nlz_61 (u0 : Int32) (u1 : Int32) : Int32 := if u0 < (4 : Int32) then (u1 - (own_ushr u0 (1 : Int32))) else ((u1 + (-2 : Int32)) - (own_ushr (own_ushr u0 (2 : Int32)) (1 : Int32)))
def own_nlz_48 (u0 : Int32) (u1 : Int32) : Int32 := if u0 < (16 : Int32) then (own_nlz_61 u0 u1) else (own_nlz_61 (own_ushr u0 (4 : Int32)) (u1 + (-4 : Int32)))
def own_nlz_33 (u0 : Int32) (u1 : Int32) : Int32 := if u0 < (256 : Int32) then (own_nlz_48 u0 u1) else (own_nlz_48 (own_ushr u0 (8 : Int32)) (u1 + (-8 : Int32)))
def own_nlz (p0 : Int32) : Int32 := if (0 : Int32) < p0 then (if p0 < (65536 : Int32) then (own_nlz_33 p0 (31 : Int32)) else (own_nlz_33 (own_ushr p0 (16 : Int32)) ((31 : Int32) + (-16 : Int32)))) else (if p0 = (0 : Int32) then (32 : Int32) else (0 : Int32))
theorem own_pn0 : plainName "java/lang/Integer" = true := by first | (simp [plainName, overriddenIn]; done) | decide +kernel
theorem own_ef_rm1 (m : MethodId) (x0 : Int32) : entryFrame m #[(.int x0)] 2 = mkF m 0 #[.val (.int x0), .unset] [] := by first | (simp [entryFrame, mkF, argsToLocals, Value.category]; done) | rfl
def own_Q_rm1 (Z : State) (p0 : Int32) (h0 : Heap) (n0 : Nat) (v : Option Value) (h : Heap) (L : List Loc) : Prop := v = some (.int (own_nlz p0)) ∧ Fr n0 L ∧ h = h0
set_option maxRecDepth 65536 in
set_option maxHeartbeats 40000000 in
theorem rm1 (l : Launch) (Z : State) (a0 : Array Value) (hw : ∀ d ∈ tables_1, d.before a0 Z = true) (ws : List Jvm.Cond) (p0 : Int32) (h0 : Heap) (n0 : Nat) (Z0 : n0 ≤ h0.size) :
    MetFree l (⟨"java/lang/Integer", "numberOfLeadingZeros", "(I)I"⟩ : MethodName) (head1 (Jvm.Cond.code (⟨"java/lang/Integer", "numberOfLeadingZeros", "(I)I"⟩ : MethodName) jdk_33_method_47_code 2 (some .int) :: ws) ({ frames := 0, cells := 0, slots := 0, locals := 0 } : Room)) (fun a U => a = #[(.int p0)] ∧ Z.Warmed39 U.vm ∧ U.heap = h0) (fun _ _ _ _ _ => True) (fun _ U o U' => ∃ v L, o = .returned v ∧ (own_Q_rm1 Z p0 h0 n0) v U'.heap L ∧ FrameEnd U o U' L ({ frames := 0, cells := 0, slots := 0, locals := 0 } : Room).cells ({ frames := 0, cells := 0, slots := 0, locals := 0 } : Room).slots) := by
  refine MetFree.of_bodySF (plainFor_of_name own_pn0) hisR ?_
  intro p e s m args below meth c s₁ Bd hml0 hP hK
  obtain ⟨rfl, hZ, hh⟩ := hP
  have hx := Bd.exec
  have hby := Bd.bytes
  have hml : c.maxLocals = 2 := hml0
  have hown : s.vm.findClass "java/lang/Integer" = some m.cls := findClass_of_methodNamed Bd.named
  have hnm := (name_of_methodNamed Bd.named Bd.method).1
  have hlk : meth.locks = false := BodyLoose.notSynchronized Bd
  have X0 : Stand p l e ({ frames := 0, cells := 0, slots := 0, locals := 0 } : Room) s m #[(.int p0)] below meth c s₁ [] 0 0 := Stand.of_body Bd
  have e0 : s₁.heap = h0 := by rw [← hh, Bd.state]; rfl
  have N0 := Fr.nil n0
  show own_Ends p e below (own_Fin s (own_Q_rm1 Z p0 h0 n0) ({ frames := 0, cells := 0, slots := 0, locals := 0 } : Room).cells ({ frames := 0, cells := 0, slots := 0, locals := 0 } : Room).slots) _
  refine own_pre (fun t k => castTop (own_ef_rm1 m p0) k) ?_
  have J61 : ∀ (TT : State) (LL : List Loc) (XX : Stand p l e ({ frames := 0, cells := 0, slots := 0, locals := 0 } : Room) s m #[(.int p0)] below meth c TT LL 0 0) (eT : TT.heap = h0) (NN : Fr n0 LL) (u0 : Int32) (u1 : Int32) (G : Option Value → Heap → List Loc → Prop) (hG : ∀ L, Fr n0 L → G (some (.int (own_nlz_61 u0 u1))) h0 L), own_Ends p e below (own_Fin s G ({ frames := 0, cells := 0, slots := 0, locals := 0 } : Room).cells ({ frames := 0, cells := 0, slots := 0, locals := 0 } : Room).slots) (TT.setTop (mkF m 61 #[.val (.int u0), .val (.int u1)] [])) := by
    intro TT LL XX eT NN u0 u1 G hG
    have hG : ∀ L, Fr n0 L → G (some (.int (if u0 < (4 : Int32) then (u1 - (own_ushr u0 (1 : Int32))) else ((u1 + (-2 : Int32)) - (own_ushr (own_ushr u0 (2 : Int32)) (1 : Int32)))))) h0 L := hG
    show own_Ends _ _ _ _ (TT.setTop (mkF m 61 #[.val (.int u0), .val (.int u1)] []))
    refine own_pre (fun t k => XS.iloadN XX.here hx rfl (hb hby own_d4_61) rfl k) ?_
    show own_Ends _ _ _ _ (TT.setTop (mkF m 62 #[.val (.int u0), .val (.int u1)] [(.int u0)]))
    refine own_pre (fun t k => XS.iconst XX.here hx rfl (hb hby own_d4_62) k) ?_
    show own_Ends _ _ _ _ (TT.setTop (mkF m 63 #[.val (.int u0), .val (.int u1)] [(.int (4 : Int32)), (.int u0)]))
    by_cases hc1 : u0 < (4 : Int32)
    · skip
      rw [if_pos hc1] at hG
      refine own_pre (fun t k => XS.icmpYes XX.here hx rfl (pc0 := 63) (pc' := 73) rfl (hb hby own_d4_63) rfl (tlt hc1).1 (by decide) (by decide) k) ?_
      show own_Ends _ _ _ _ (TT.setTop (mkF m 73 #[.val (.int u0), .val (.int u1)] []))
      refine own_pre (fun t k => XS.iloadN XX.here hx rfl (hb hby own_d4_73) rfl k) ?_
      show own_Ends _ _ _ _ (TT.setTop (mkF m 74 #[.val (.int u0), .val (.int u1)] [(.int u1)]))
      refine own_pre (fun t k => XS.iloadN XX.here hx rfl (hb hby own_d4_74) rfl k) ?_
      show own_Ends _ _ _ _ (TT.setTop (mkF m 75 #[.val (.int u0), .val (.int u1)] [(.int u0), (.int u1)]))
      refine own_pre (fun t k => XS.iconst XX.here hx rfl (hb hby own_d4_75) k) ?_
      show own_Ends _ _ _ _ (TT.setTop (mkF m 76 #[.val (.int u0), .val (.int u1)] [(.int (1 : Int32)), (.int u0), (.int u1)]))
      refine own_pre (fun t k => XS.iushr XX.here hx rfl (hb hby own_d4_76) rfl k) ?_
      show own_Ends _ _ _ _ (TT.setTop (mkF m 77 #[.val (.int u0), .val (.int u1)] [(.int (own_ushr u0 (1 : Int32))), (.int u1)]))
      refine own_pre (fun t k => XS.isub XX.here hx rfl (hb hby own_d4_77) rfl k) ?_
      show own_Ends _ _ _ _ (TT.setTop (mkF m 78 #[.val (.int u0), .val (.int u1)] [(.int (u1 - (own_ushr u0 (1 : Int32))))]))
      exact own_retI XX hx Bd.returns (hb hby own_d4_78) hlk eT (hG _ NN) (by decide) (by decide)
    · skip
      rw [if_neg hc1] at hG
      refine own_pre (fun t k => XS.icmpNo XX.here hx rfl (hb hby own_d4_63) rfl (flt hc1).1 k) ?_
      show own_Ends _ _ _ _ (TT.setTop (mkF m 66 #[.val (.int u0), .val (.int u1)] []))
      refine own_pre (fun t k => XS.iinc XX.here hx rfl (hb hby own_d4_66) rfl (l' := #[.val (.int u0), .val (.int (u1 + (-2 : Int32)))]) rfl k) ?_
      show own_Ends _ _ _ _ (TT.setTop (mkF m 69 #[.val (.int u0), .val (.int (u1 + (-2 : Int32)))] []))
      refine own_pre (fun t k => XS.iloadN XX.here hx rfl (hb hby own_d4_69) rfl k) ?_
      show own_Ends _ _ _ _ (TT.setTop (mkF m 70 #[.val (.int u0), .val (.int (u1 + (-2 : Int32)))] [(.int u0)]))
      refine own_pre (fun t k => XS.iconst XX.here hx rfl (hb hby own_d4_70) k) ?_
      show own_Ends _ _ _ _ (TT.setTop (mkF m 71 #[.val (.int u0), .val (.int (u1 + (-2 : Int32)))] [(.int (2 : Int32)), (.int u0)]))
      refine own_pre (fun t k => XS.iushr XX.here hx rfl (hb hby own_d4_71) rfl k) ?_
      show own_Ends _ _ _ _ (TT.setTop (mkF m 72 #[.val (.int u0), .val (.int (u1 + (-2 : Int32)))] [(.int (own_ushr u0 (2 : Int32)))]))
      refine own_pre (fun t k => XS.istoreN XX.here hx rfl (hb hby own_d4_72) rfl (l' := #[.val (.int (own_ushr u0 (2 : Int32))), .val (.int (u1 + (-2 : Int32)))]) rfl k) ?_
      show own_Ends _ _ _ _ (TT.setTop (mkF m 73 #[.val (.int (own_ushr u0 (2 : Int32))), .val (.int (u1 + (-2 : Int32)))] []))
      refine own_pre (fun t k => XS.iloadN XX.here hx rfl (hb hby own_d4_73) rfl k) ?_
      show own_Ends _ _ _ _ (TT.setTop (mkF m 74 #[.val (.int (own_ushr u0 (2 : Int32))), .val (.int (u1 + (-2 : Int32)))] [(.int (u1 + (-2 : Int32)))]))
      refine own_pre (fun t k => XS.iloadN XX.here hx rfl (hb hby own_d4_74) rfl k) ?_
      show own_Ends _ _ _ _ (TT.setTop (mkF m 75 #[.val (.int (own_ushr u0 (2 : Int32))), .val (.int (u1 + (-2 : Int32)))] [(.int (own_ushr u0 (2 : Int32))), (.int (u1 + (-2 : Int32)))]))
      refine own_pre (fun t k => XS.iconst XX.here hx rfl (hb hby own_d4_75) k) ?_
      show own_Ends _ _ _ _ (TT.setTop (mkF m 76 #[.val (.int (own_ushr u0 (2 : Int32))), .val (.int (u1 + (-2 : Int32)))] [(.int (1 : Int32)), (.int (own_ushr u0 (2 : Int32))), (.int (u1 + (-2 : Int32)))]))
      refine own_pre (fun t k => XS.iushr XX.here hx rfl (hb hby own_d4_76) rfl k) ?_
      show own_Ends _ _ _ _ (TT.setTop (mkF m 77 #[.val (.int (own_ushr u0 (2 : Int32))), .val (.int (u1 + (-2 : Int32)))] [(.int (own_ushr (own_ushr u0 (2 : Int32)) (1 : Int32))), (.int (u1 + (-2 : Int32)))]))
      refine own_pre (fun t k => XS.isub XX.here hx rfl (hb hby own_d4_77) rfl k) ?_
      show own_Ends _ _ _ _ (TT.setTop (mkF m 78 #[.val (.int (own_ushr u0 (2 : Int32))), .val (.int (u1 + (-2 : Int32)))] [(.int ((u1 + (-2 : Int32)) - (own_ushr (own_ushr u0 (2 : Int32)) (1 : Int32))))]))
      exact own_retI XX hx Bd.returns (hb hby own_d4_78) hlk eT (hG _ NN) (by decide) (by decide)
  have J48 : ∀ (TT : State) (LL : List Loc) (XX : Stand p l e ({ frames := 0, cells := 0, slots := 0, locals := 0 } : Room) s m #[(.int p0)] below meth c TT LL 0 0) (eT : TT.heap = h0) (NN : Fr n0 LL) (u0 : Int32) (u1 : Int32) (G : Option Value → Heap → List Loc → Prop) (hG : ∀ L, Fr n0 L → G (some (.int (own_nlz_48 u0 u1))) h0 L), own_Ends p e below (own_Fin s G ({ frames := 0, cells := 0, slots := 0, locals := 0 } : Room).cells ({ frames := 0, cells := 0, slots := 0, locals := 0 } : Room).slots) (TT.setTop (mkF m 48 #[.val (.int u0), .val (.int u1)] [])) := by
    intro TT LL XX eT NN u0 u1 G hG
    have hG : ∀ L, Fr n0 L → G (some (.int (if u0 < (16 : Int32) then (own_nlz_61 u0 u1) else (own_nlz_61 (own_ushr u0 (4 : Int32)) (u1 + (-4 : Int32)))))) h0 L := hG
    show own_Ends _ _ _ _ (TT.setTop (mkF m 48 #[.val (.int u0), .val (.int u1)] []))
    refine own_pre (fun t k => XS.iloadN XX.here hx rfl (hb hby own_d4_48) rfl k) ?_
    show own_Ends _ _ _ _ (TT.setTop (mkF m 49 #[.val (.int u0), .val (.int u1)] [(.int u0)]))
    refine own_pre (fun t k => XS.bipush XX.here hx rfl (hb hby own_d4_49) k) ?_
    show own_Ends _ _ _ _ (TT.setTop (mkF m 51 #[.val (.int u0), .val (.int u1)] [(.int (16 : Int32)), (.int u0)]))
    by_cases hc2 : u0 < (16 : Int32)
    · skip
      rw [if_pos hc2] at hG
      refine own_pre (fun t k => XS.icmpYes XX.here hx rfl (pc0 := 51) (pc' := 61) rfl (hb hby own_d4_51) rfl (tlt hc2).1 (by decide) (by decide) k) ?_
      show own_Ends _ _ _ _ (TT.setTop (mkF m 61 #[.val (.int u0), .val (.int u1)] []))
      exact J61 _ _ XX eT NN u0 u1 _ hG
    · skip
      rw [if_neg hc2] at hG
      refine own_pre (fun t k => XS.icmpNo XX.here hx rfl (hb hby own_d4_51) rfl (flt hc2).1 k) ?_
      show own_Ends _ _ _ _ (TT.setTop (mkF m 54 #[.val (.int u0), .val (.int u1)] []))
      refine own_pre (fun t k => XS.iinc XX.here hx rfl (hb hby own_d4_54) rfl (l' := #[.val (.int u0), .val (.int (u1 + (-4 : Int32)))]) rfl k) ?_
      show own_Ends _ _ _ _ (TT.setTop (mkF m 57 #[.val (.int u0), .val (.int (u1 + (-4 : Int32)))] []))
      refine own_pre (fun t k => XS.iloadN XX.here hx rfl (hb hby own_d4_57) rfl k) ?_
      show own_Ends _ _ _ _ (TT.setTop (mkF m 58 #[.val (.int u0), .val (.int (u1 + (-4 : Int32)))] [(.int u0)]))
      refine own_pre (fun t k => XS.iconst XX.here hx rfl (hb hby own_d4_58) k) ?_
      show own_Ends _ _ _ _ (TT.setTop (mkF m 59 #[.val (.int u0), .val (.int (u1 + (-4 : Int32)))] [(.int (4 : Int32)), (.int u0)]))
      refine own_pre (fun t k => XS.iushr XX.here hx rfl (hb hby own_d4_59) rfl k) ?_
      show own_Ends _ _ _ _ (TT.setTop (mkF m 60 #[.val (.int u0), .val (.int (u1 + (-4 : Int32)))] [(.int (own_ushr u0 (4 : Int32)))]))
      refine own_pre (fun t k => XS.istoreN XX.here hx rfl (hb hby own_d4_60) rfl (l' := #[.val (.int (own_ushr u0 (4 : Int32))), .val (.int (u1 + (-4 : Int32)))]) rfl k) ?_
      show own_Ends _ _ _ _ (TT.setTop (mkF m 61 #[.val (.int (own_ushr u0 (4 : Int32))), .val (.int (u1 + (-4 : Int32)))] []))
      exact J61 _ _ XX eT NN (own_ushr u0 (4 : Int32)) (u1 + (-4 : Int32)) _ hG
  have J33 : ∀ (TT : State) (LL : List Loc) (XX : Stand p l e ({ frames := 0, cells := 0, slots := 0, locals := 0 } : Room) s m #[(.int p0)] below meth c TT LL 0 0) (eT : TT.heap = h0) (NN : Fr n0 LL) (u0 : Int32) (u1 : Int32) (G : Option Value → Heap → List Loc → Prop) (hG : ∀ L, Fr n0 L → G (some (.int (own_nlz_33 u0 u1))) h0 L), own_Ends p e below (own_Fin s G ({ frames := 0, cells := 0, slots := 0, locals := 0 } : Room).cells ({ frames := 0, cells := 0, slots := 0, locals := 0 } : Room).slots) (TT.setTop (mkF m 33 #[.val (.int u0), .val (.int u1)] [])) := by
    intro TT LL XX eT NN u0 u1 G hG
    have hG : ∀ L, Fr n0 L → G (some (.int (if u0 < (256 : Int32) then (own_nlz_48 u0 u1) else (own_nlz_48 (own_ushr u0 (8 : Int32)) (u1 + (-8 : Int32)))))) h0 L := hG
    show own_Ends _ _ _ _ (TT.setTop (mkF m 33 #[.val (.int u0), .val (.int u1)] []))
    refine own_pre (fun t k => XS.iloadN XX.here hx rfl (hb hby own_d4_33) rfl k) ?_
    show own_Ends _ _ _ _ (TT.setTop (mkF m 34 #[.val (.int u0), .val (.int u1)] [(.int u0)]))
    refine own_pre (fun t k => XS.sipush XX.here hx rfl (hb hby own_d4_34) k) ?_
    show own_Ends _ _ _ _ (TT.setTop (mkF m 37 #[.val (.int u0), .val (.int u1)] [(.int (256 : Int32)), (.int u0)]))
    by_cases hc3 : u0 < (256 : Int32)
    · skip
      rw [if_pos hc3] at hG
      refine own_pre (fun t k => XS.icmpYes XX.here hx rfl (pc0 := 37) (pc' := 48) rfl (hb hby own_d4_37) rfl (tlt hc3).1 (by decide) (by decide) k) ?_
      show own_Ends _ _ _ _ (TT.setTop (mkF m 48 #[.val (.int u0), .val (.int u1)] []))
      exact J48 _ _ XX eT NN u0 u1 _ hG
    · skip
      rw [if_neg hc3] at hG
      refine own_pre (fun t k => XS.icmpNo XX.here hx rfl (hb hby own_d4_37) rfl (flt hc3).1 k) ?_
      show own_Ends _ _ _ _ (TT.setTop (mkF m 40 #[.val (.int u0), .val (.int u1)] []))
      refine own_pre (fun t k => XS.iinc XX.here hx rfl (hb hby own_d4_40) rfl (l' := #[.val (.int u0), .val (.int (u1 + (-8 : Int32)))]) rfl k) ?_
      show own_Ends _ _ _ _ (TT.setTop (mkF m 43 #[.val (.int u0), .val (.int (u1 + (-8 : Int32)))] []))
      refine own_pre (fun t k => XS.iloadN XX.here hx rfl (hb hby own_d4_43) rfl k) ?_
      show own_Ends _ _ _ _ (TT.setTop (mkF m 44 #[.val (.int u0), .val (.int (u1 + (-8 : Int32)))] [(.int u0)]))
      refine own_pre (fun t k => XS.bipush XX.here hx rfl (hb hby own_d4_44) k) ?_
      show own_Ends _ _ _ _ (TT.setTop (mkF m 46 #[.val (.int u0), .val (.int (u1 + (-8 : Int32)))] [(.int (8 : Int32)), (.int u0)]))
      refine own_pre (fun t k => XS.iushr XX.here hx rfl (hb hby own_d4_46) rfl k) ?_
      show own_Ends _ _ _ _ (TT.setTop (mkF m 47 #[.val (.int u0), .val (.int (u1 + (-8 : Int32)))] [(.int (own_ushr u0 (8 : Int32)))]))
      refine own_pre (fun t k => XS.istoreN XX.here hx rfl (hb hby own_d4_47) rfl (l' := #[.val (.int (own_ushr u0 (8 : Int32))), .val (.int (u1 + (-8 : Int32)))]) rfl k) ?_
      show own_Ends _ _ _ _ (TT.setTop (mkF m 48 #[.val (.int (own_ushr u0 (8 : Int32))), .val (.int (u1 + (-8 : Int32)))] []))
      exact J48 _ _ XX eT NN (own_ushr u0 (8 : Int32)) (u1 + (-8 : Int32)) _ hG
  have J0 : ∀ (G : Option Value → Heap → List Loc → Prop) (hG : ∀ L, Fr n0 L → G (some (.int (if (0 : Int32) < p0 then (if p0 < (65536 : Int32) then (own_nlz_33 p0 (31 : Int32)) else (own_nlz_33 (own_ushr p0 (16 : Int32)) ((31 : Int32) + (-16 : Int32)))) else (if p0 = (0 : Int32) then (32 : Int32) else (0 : Int32))))) h0 L), own_Ends p e below (own_Fin s G ({ frames := 0, cells := 0, slots := 0, locals := 0 } : Room).cells ({ frames := 0, cells := 0, slots := 0, locals := 0 } : Room).slots) (s₁.setTop (mkF m 0 #[.val (.int p0), .unset] [])) := by
    intro G hG
    show own_Ends _ _ _ _ (s₁.setTop (mkF m 0 #[.val (.int p0), .unset] []))
    refine own_pre (fun t k => XS.iloadN X0.here hx rfl (hb hby own_d4_0) rfl k) ?_
    show own_Ends _ _ _ _ (s₁.setTop (mkF m 1 #[.val (.int p0), .unset] [(.int p0)]))
    by_cases hc4 : (0 : Int32) < p0
    · skip
      rw [if_pos hc4] at hG
      refine own_pre (fun t k => XS.ifYes X0.here hx rfl (pc0 := 1) (pc' := 15) rfl (hb hby own_d4_1) rfl ((if0 _ _).trans (tlt hc4).2.2.1) (by decide) (by decide) k) ?_
      show own_Ends _ _ _ _ (s₁.setTop (mkF m 15 #[.val (.int p0), .unset] []))
      refine own_pre (fun t k => XS.bipush X0.here hx rfl (hb hby own_d4_15) k) ?_
      show own_Ends _ _ _ _ (s₁.setTop (mkF m 17 #[.val (.int p0), .unset] [(.int (31 : Int32))]))
      refine own_pre (fun t k => XS.istoreN X0.here hx rfl (hb hby own_d4_17) rfl (l' := #[.val (.int p0), .val (.int (31 : Int32))]) rfl k) ?_
      show own_Ends _ _ _ _ (s₁.setTop (mkF m 18 #[.val (.int p0), .val (.int (31 : Int32))] []))
      refine own_pre (fun t k => XS.iloadN X0.here hx rfl (hb hby own_d4_18) rfl k) ?_
      show own_Ends _ _ _ _ (s₁.setTop (mkF m 19 #[.val (.int p0), .val (.int (31 : Int32))] [(.int p0)]))
      refine own_pre (fun t k => X0.ldcwInt hx hown (mvT hZ (hw _ (List.mem_of_getElem? (i := 30) rfl))) (g := (mkF m 19 #[.val (.int p0), .val (.int (31 : Int32))] [(.int p0)])) rfl (hb hby own_d4_19) _ k) ?_
      show own_Ends _ _ _ _ (s₁.setTop (mkF m 22 #[.val (.int p0), .val (.int (31 : Int32))] [(.int (65536 : Int32)), (.int p0)]))
      by_cases hc5 : p0 < (65536 : Int32)
      · skip
        rw [if_pos hc5] at hG
        refine own_pre (fun t k => XS.icmpYes X0.here hx rfl (pc0 := 22) (pc' := 33) rfl (hb hby own_d4_22) rfl (tlt hc5).1 (by decide) (by decide) k) ?_
        show own_Ends _ _ _ _ (s₁.setTop (mkF m 33 #[.val (.int p0), .val (.int (31 : Int32))] []))
        exact J33 _ _ X0 e0 N0 p0 (31 : Int32) _ hG
      · skip
        rw [if_neg hc5] at hG
        refine own_pre (fun t k => XS.icmpNo X0.here hx rfl (hb hby own_d4_22) rfl (flt hc5).1 k) ?_
        show own_Ends _ _ _ _ (s₁.setTop (mkF m 25 #[.val (.int p0), .val (.int (31 : Int32))] []))
        refine own_pre (fun t k => XS.iinc X0.here hx rfl (hb hby own_d4_25) rfl (l' := #[.val (.int p0), .val (.int ((31 : Int32) + (-16 : Int32)))]) rfl k) ?_
        show own_Ends _ _ _ _ (s₁.setTop (mkF m 28 #[.val (.int p0), .val (.int ((31 : Int32) + (-16 : Int32)))] []))
        refine own_pre (fun t k => XS.iloadN X0.here hx rfl (hb hby own_d4_28) rfl k) ?_
        show own_Ends _ _ _ _ (s₁.setTop (mkF m 29 #[.val (.int p0), .val (.int ((31 : Int32) + (-16 : Int32)))] [(.int p0)]))
        refine own_pre (fun t k => XS.bipush X0.here hx rfl (hb hby own_d4_29) k) ?_
        show own_Ends _ _ _ _ (s₁.setTop (mkF m 31 #[.val (.int p0), .val (.int ((31 : Int32) + (-16 : Int32)))] [(.int (16 : Int32)), (.int p0)]))
        refine own_pre (fun t k => XS.iushr X0.here hx rfl (hb hby own_d4_31) rfl k) ?_
        show own_Ends _ _ _ _ (s₁.setTop (mkF m 32 #[.val (.int p0), .val (.int ((31 : Int32) + (-16 : Int32)))] [(.int (own_ushr p0 (16 : Int32)))]))
        refine own_pre (fun t k => XS.istoreN X0.here hx rfl (hb hby own_d4_32) rfl (l' := #[.val (.int (own_ushr p0 (16 : Int32))), .val (.int ((31 : Int32) + (-16 : Int32)))]) rfl k) ?_
        show own_Ends _ _ _ _ (s₁.setTop (mkF m 33 #[.val (.int (own_ushr p0 (16 : Int32))), .val (.int ((31 : Int32) + (-16 : Int32)))] []))
        exact J33 _ _ X0 e0 N0 (own_ushr p0 (16 : Int32)) ((31 : Int32) + (-16 : Int32)) _ hG
    · skip
      rw [if_neg hc4] at hG
      refine own_pre (fun t k => XS.ifNo X0.here hx rfl (hb hby own_d4_1) rfl ((if0 _ _).trans (flt hc4).2.2.1) k) ?_
      show own_Ends _ _ _ _ (s₁.setTop (mkF m 4 #[.val (.int p0), .unset] []))
      refine own_pre (fun t k => XS.iloadN X0.here hx rfl (hb hby own_d4_4) rfl k) ?_
      show own_Ends _ _ _ _ (s₁.setTop (mkF m 5 #[.val (.int p0), .unset] [(.int p0)]))
      by_cases hc6 : p0 = (0 : Int32)
      · skip
        rw [if_pos hc6] at hG
        refine own_pre (fun t k => XS.ifNo X0.here hx rfl (hb hby own_d4_5) rfl ((if0 _ _).trans (teq hc6).2) k) ?_
        show own_Ends _ _ _ _ (s₁.setTop (mkF m 8 #[.val (.int p0), .unset] []))
        refine own_pre (fun t k => XS.bipush X0.here hx rfl (hb hby own_d4_8) k) ?_
        show own_Ends _ _ _ _ (s₁.setTop (mkF m 10 #[.val (.int p0), .unset] [(.int (32 : Int32))]))
        refine own_pre (fun t k => XS.goto X0.here hx rfl (pc0 := 10) (pc' := 14) rfl (hb hby own_d4_10) (by decide) (by decide) k) ?_
        show own_Ends _ _ _ _ (s₁.setTop (mkF m 14 #[.val (.int p0), .unset] [(.int (32 : Int32))]))
        exact own_retI X0 hx Bd.returns (hb hby own_d4_14) hlk e0 (hG _ N0) (by decide) (by decide)
      · skip
        rw [if_neg hc6] at hG
        refine own_pre (fun t k => XS.ifYes X0.here hx rfl (pc0 := 5) (pc' := 13) rfl (hb hby own_d4_5) rfl ((if0 _ _).trans (feq hc6).2) (by decide) (by decide) k) ?_
        show own_Ends _ _ _ _ (s₁.setTop (mkF m 13 #[.val (.int p0), .unset] []))
        refine own_pre (fun t k => XS.iconst X0.here hx rfl (hb hby own_d4_13) k) ?_
        show own_Ends _ _ _ _ (s₁.setTop (mkF m 14 #[.val (.int p0), .unset] [(.int (0 : Int32))]))
        exact own_retI X0 hx Bd.returns (hb hby own_d4_14) hlk e0 (hG _ N0) (by decide) (by decide)
  exact J0 _ fun L q => ⟨rfl, q, rfl⟩
theorem own_d3_0 : decode prog_15_method_15_code 0 = .ok (.bipush 32, 2) := by decide +kernel
theorem own_d3_2 : decode prog_15_method_15_code 2 = .ok (.iload_n 0, 1) := by decide +kernel
theorem own_d3_3 : decode prog_15_method_15_code 3 = .ok (.iconst 1, 1) := by decide +kernel
theorem own_d3_4 : decode prog_15_method_15_code 4 = .ok (.isub, 1) := by decide +kernel
theorem own_d3_5 : decode prog_15_method_15_code 5 = .ok (.invokestatic 103, 3) := by decide +kernel
theorem own_d3_8 : decode prog_15_method_15_code 8 = .ok (.isub, 1) := by decide +kernel
theorem own_d3_9 : decode prog_15_method_15_code 9 = .ok (.ireturn, 1) := by decide +kernel
theorem own_pd0 : parseMethodDescriptor "(I)I" = some ⟨[.int], some .int⟩ := by decide +kernel
def own_depth (p0 : Int32) : Int32 := (32 : Int32) - (own_nlz (p0 - (1 : Int32)))
theorem own_pn1 : plainName "com/example/cardea/cardea/scheme/BinaryTree" = true := by first | (simp [plainName, overriddenIn]; done) | decide +kernel
theorem own_ef_rm2 (m : MethodId) (x0 : Int32) : entryFrame m #[(.int x0)] 1 = mkF m 0 #[.val (.int x0)] [] := by first | (simp [entryFrame, mkF, argsToLocals, Value.category]; done) | rfl
def own_Q_rm2 (Z : State) (p0 : Int32) (h0 : Heap) (n0 : Nat) (v : Option Value) (h : Heap) (L : List Loc) : Prop := v = some (.int (own_depth p0)) ∧ Fr n0 L ∧ h = h0
set_option maxRecDepth 65536 in
set_option maxHeartbeats 40000000 in
theorem rm2 (l : Launch) (Z : State) (a0 : Array Value) (hw : ∀ d ∈ tables_1, d.before a0 Z = true) (ws : List Jvm.Cond) (p0 : Int32) (h0 : Heap) (n0 : Nat) (Z0 : n0 ≤ h0.size) :
    MetFree l (⟨"com/example/cardea/cardea/scheme/BinaryTree", "depth", "(I)I"⟩ : MethodName) (head1 (Jvm.Cond.code (⟨"com/example/cardea/cardea/scheme/BinaryTree", "depth", "(I)I"⟩ : MethodName) prog_15_method_15_code 1 (some .int) :: ws) ({ frames := 1, cells := 0, slots := 0, locals := 14 } : Room)) (fun a U => a = #[(.int p0)] ∧ Z.Warmed39 U.vm ∧ U.heap = h0) (fun _ _ _ _ _ => True) (fun _ U o U' => ∃ v L, o = .returned v ∧ (own_Q_rm2 Z p0 h0 n0) v U'.heap L ∧ FrameEnd U o U' L ({ frames := 1, cells := 0, slots := 0, locals := 14 } : Room).cells ({ frames := 1, cells := 0, slots := 0, locals := 14 } : Room).slots) := by
  refine MetFree.of_bodySF (plainFor_of_name own_pn1) hisR ?_
  intro p e s m args below meth c s₁ Bd hml0 hP hK
  obtain ⟨rfl, hZ, hh⟩ := hP
  have hx := Bd.exec
  have hby := Bd.bytes
  have hml : c.maxLocals = 1 := hml0
  have hown : s.vm.findClass "com/example/cardea/cardea/scheme/BinaryTree" = some m.cls := findClass_of_methodNamed Bd.named
  have hnm := (name_of_methodNamed Bd.named Bd.method).1
  have hlk : meth.locks = false := BodyLoose.notSynchronized Bd
  have X0 : Stand p l e ({ frames := 1, cells := 0, slots := 0, locals := 14 } : Room) s m #[(.int p0)] below meth c s₁ [] 0 0 := Stand.of_body Bd
  have e0 : s₁.heap = h0 := by rw [← hh, Bd.state]; rfl
  have N0 := Fr.nil n0
  show own_Ends p e below (own_Fin s (own_Q_rm2 Z p0 h0 n0) ({ frames := 1, cells := 0, slots := 0, locals := 14 } : Room).cells ({ frames := 1, cells := 0, slots := 0, locals := 14 } : Room).slots) _
  refine own_pre (fun t k => castTop (own_ef_rm2 m p0) k) ?_
  have J0 : ∀ (G : Option Value → Heap → List Loc → Prop) (hG : ∀ L, Fr n0 L → G (some (.int ((32 : Int32) - (own_nlz (p0 - (1 : Int32)))))) h0 L), own_Ends p e below (own_Fin s G ({ frames := 1, cells := 0, slots := 0, locals := 14 } : Room).cells ({ frames := 1, cells := 0, slots := 0, locals := 14 } : Room).slots) (s₁.setTop (mkF m 0 #[.val (.int p0)] [])) := by
    intro G hG
    show own_Ends _ _ _ _ (s₁.setTop (mkF m 0 #[.val (.int p0)] []))
    refine own_pre (fun t k => XS.bipush X0.here hx rfl (hb hby own_d3_0) k) ?_
    show own_Ends _ _ _ _ (s₁.setTop (mkF m 2 #[.val (.int p0)] [(.int (32 : Int32))]))
    refine own_pre (fun t k => XS.iloadN X0.here hx rfl (hb hby own_d3_2) rfl k) ?_
    show own_Ends _ _ _ _ (s₁.setTop (mkF m 3 #[.val (.int p0)] [(.int p0), (.int (32 : Int32))]))
    refine own_pre (fun t k => XS.iconst X0.here hx rfl (hb hby own_d3_3) k) ?_
    show own_Ends _ _ _ _ (s₁.setTop (mkF m 4 #[.val (.int p0)] [(.int (1 : Int32)), (.int p0), (.int (32 : Int32))]))
    refine own_pre (fun t k => XS.isub X0.here hx rfl (hb hby own_d3_4) rfl k) ?_
    show own_Ends _ _ _ _ (s₁.setTop (mkF m 5 #[.val (.int p0)] [(.int (p0 - (1 : Int32))), (.int (32 : Int32))]))
    obtain ⟨_, _, ⟨T7, L7, k7, n7⟩, -, X7, ⟨Lc7, hQ7, l7, y7, z7⟩, st7⟩ := Jvm.LawKit.callS X0 hx (y := (⟨"java/lang/Integer", "numberOfLeadingZeros", "(I)I"⟩ : MethodName)) hown (mvT hZ (hw _ (List.mem_of_getElem? (i := 14) rfl))) (mvT hZ (hw _ (List.mem_of_getElem? (i := 15) rfl))) (mvT hZ (hw _ (List.mem_of_getElem? (i := 16) rfl))) (mvT hZ (hw _ (List.mem_of_getElem? (i := 17) rfl))) (by decide) (backOf (W := 1) (rm1 l Z a0 hw [] (p0 - (1 : Int32)) h0 n0 Z0) hZ (hw _ (List.mem_of_getElem? (i := 17) rfl)) (hw _ (List.mem_of_getElem? (i := 16) rfl)) (by decide) (by decide)) (g := (mkF m 5 #[.val (.int p0)] [(.int (p0 - (1 : Int32))), (.int (32 : Int32))])) rfl (by rw [hml]; rfl) (argsL := [(.int (p0 - (1 : Int32)))]) (rest := [(.int (32 : Int32))]) (lenOf own_pd0 rfl) rfl (by show 2 * 0 + _ ≤ _; exact Nat.le_of_eq rfl) (hb hby own_d3_5) (fun _ _ => ⟨rfl, e0, (by decide : 0 + 0 ≤ _), (by decide : 0 + 0 ≤ _)⟩)
    dsimp only [Pt.U, Pt.locs, Pt.cells, Pt.slots] at X7 l7 y7 z7 st7 hQ7
    subst l7 y7 z7
    obtain ⟨rfl, Nq7, e7⟩ := hQ7
    have N7 := Fr.app N0 Nq7
    refine own_pre st7 ?_
    show own_Ends _ _ _ _ (T7.setTop (mkF m 8 #[.val (.int p0)] [(.int (own_nlz (p0 - (1 : Int32)))), (.int (32 : Int32))]))
    refine own_pre (fun t k => XS.isub X7.here hx rfl (hb hby own_d3_8) rfl k) ?_
    show own_Ends _ _ _ _ (T7.setTop (mkF m 9 #[.val (.int p0)] [(.int ((32 : Int32) - (own_nlz (p0 - (1 : Int32)))))]))
    exact own_retI X7 hx Bd.returns (hb hby own_d3_9) hlk e7 (hG _ N7) (by decide) (by decide)
  exact J0 _ fun L q => ⟨rfl, q, rfl⟩
theorem own_d1_0 : decode prog_15_method_1_code 0 = .ok (.aload_n 0, 1) := by decide +kernel
theorem own_d1_1 : decode prog_15_method_1_code 1 = .ok (.invokespecial 1, 3) := by decide +kernel
theorem own_d1_4 : decode prog_15_method_1_code 4 = .ok (.aload_n 0, 1) := by decide +kernel
theorem own_d1_5 : decode prog_15_method_1_code 5 = .ok (.iload_n 1, 1) := by decide +kernel
theorem own_d1_6 : decode prog_15_method_1_code 6 = .ok (.invokestatic 7, 3) := by decide +kernel
theorem own_d1_9 : decode prog_15_method_1_code 9 = .ok (.putfield 13, 3) := by decide +kernel
theorem own_d1_12 : decode prog_15_method_1_code 12 = .ok (.aload_n 0, 1) := by decide +kernel
theorem own_d1_13 : decode prog_15_method_1_code 13 = .ok (.iconst 2, 1) := by decide +kernel
theorem own_d1_14 : decode prog_15_method_1_code 14 = .ok (.iload_n 1, 1) := by decide +kernel
theorem own_d1_15 : decode prog_15_method_1_code 15 = .ok (.imul, 1) := by decide +kernel
theorem own_d1_16 : decode prog_15_method_1_code 16 = .ok (.iconst 1, 1) := by decide +kernel
theorem own_d1_17 : decode prog_15_method_1_code 17 = .ok (.aload_n 0, 1) := by decide +kernel
theorem own_d1_18 : decode prog_15_method_1_code 18 = .ok (.getfield 13, 3) := by decide +kernel
theorem own_d1_21 : decode prog_15_method_1_code 21 = .ok (.ishl, 1) := by decide +kernel
theorem own_d1_22 : decode prog_15_method_1_code 22 = .ok (.isub, 1) := by decide +kernel
theorem own_d1_23 : decode prog_15_method_1_code 23 = .ok (.putfield 16, 3) := by decide +kernel
theorem own_d1_26 : decode prog_15_method_1_code 26 = .ok (.return_, 1) := by decide +kernel
theorem own_ef_rm3 (m : MethodId) (x0 : Addr) (x1 : Int32) : entryFrame m #[(.ref x0), (.int x1)] 2 = mkF m 0 #[.val (.ref x0), .val (.int x1)] [] := by first | (simp [entryFrame, mkF, argsToLocals, Value.category]; done) | rfl
def own_Q_rm3 (Z : State) (a0r : Addr) (p1 : Int32) (h0 : Heap) (n0 : Nat) (v : Option Value) (h : Heap) (L : List Loc) : Prop := v = none ∧ Fr n0 L ∧ Keep h0 h [a0r] ∧ Fld Z h a0r "com/example/cardea/cardea/scheme/BinaryTree" "depth" "I" (.int (own_depth p1)) ∧ Fld Z h a0r "com/example/cardea/cardea/scheme/BinaryTree" "deep" "I" (.int (((2 : Int32) * p1) - ((1 : Int32) <<< ((own_depth p1) &&& 31))))
set_option maxRecDepth 65536 in
set_option maxHeartbeats 40000000 in
theorem rm3 (l : Launch) (Z : State) (a0 : Array Value) (hw : ∀ d ∈ tables_1, d.before a0 Z = true) (ws : List Jvm.Cond) (a0r : Addr) (p1 : Int32) (h0 : Heap) (n0 : Nat) (Z0 : n0 ≤ h0.size) (EX : Exa Z h0 a0r "com/example/cardea/cardea/scheme/BinaryTree") (g0r : n0 ≤ a0r) (F_depth : Fld Z h0 a0r "com/example/cardea/cardea/scheme/BinaryTree" "depth" "I" (.int (0 : Int32))) (F_deep : Fld Z h0 a0r "com/example/cardea/cardea/scheme/BinaryTree" "deep" "I" (.int (0 : Int32))) :
    MetFree l (⟨"com/example/cardea/cardea/scheme/BinaryTree", "<init>", "(I)V"⟩ : MethodName) (head1 (Jvm.Cond.code (⟨"com/example/cardea/cardea/scheme/BinaryTree", "<init>", "(I)V"⟩ : MethodName) prog_15_method_1_code 2 none :: ws) ({ frames := 2, cells := 0, slots := 0, locals := 27 } : Room)) (fun a U => a = #[(.ref a0r), (.int p1)] ∧ Z.Warmed39 U.vm ∧ U.heap = h0) (fun _ _ _ _ _ => True) (fun _ U o U' => ∃ v L, o = .returned v ∧ (own_Q_rm3 Z a0r p1 h0 n0) v U'.heap L ∧ FrameEnd U o U' L ({ frames := 2, cells := 0, slots := 0, locals := 27 } : Room).cells ({ frames := 2, cells := 0, slots := 0, locals := 27 } : Room).slots) := by
  refine MetFree.of_bodySF (plainFor_of_name own_pn1) hisR ?_
  intro p e s m args below meth c s₁ Bd hml0 hP hK
  obtain ⟨rfl, hZ, hh⟩ := hP
  have hx := Bd.exec
  have hby := Bd.bytes
  have hml : c.maxLocals = 2 := hml0
  have hown : s.vm.findClass "com/example/cardea/cardea/scheme/BinaryTree" = some m.cls := findClass_of_methodNamed Bd.named
  have hnm := (name_of_methodNamed Bd.named Bd.method).1
  have hlk : meth.locks = false := BodyLoose.notSynchronized Bd
  have X0 : Stand p l e ({ frames := 2, cells := 0, slots := 0, locals := 27 } : Room) s m #[(.ref a0r), (.int p1)] below meth c s₁ [] 0 0 := Stand.of_body Bd
  have e0 : s₁.heap = h0 := by rw [← hh, Bd.state]; rfl
  have N0 := Fr.nil n0
  show own_Ends p e below (own_Fin s (own_Q_rm3 Z a0r p1 h0 n0) ({ frames := 2, cells := 0, slots := 0, locals := 27 } : Room).cells ({ frames := 2, cells := 0, slots := 0, locals := 27 } : Room).slots) _
  refine own_pre (fun t k => castTop (own_ef_rm3 m a0r p1) k) ?_
  have KK0 : Keep h0 h0 [a0r] := Keep.refl _ _
  show own_Ends _ _ _ _ (s₁.setTop (mkF m 0 #[.val (.ref a0r), .val (.int p1)] []))
  refine own_pre (fun t k => XS.aloadN X0.here hx rfl (hb hby own_d1_0) rfl rfl k) ?_
  show own_Ends _ _ _ _ (s₁.setTop (mkF m 1 #[.val (.ref a0r), .val (.int p1)] [(.ref a0r)]))
  obtain ⟨T8, X8, e8, st8⟩ := initO X0 hx hZ hown (hw _ (List.mem_of_getElem? (i := 8) rfl)) (hw _ (List.mem_of_getElem? (i := 9) rfl)) (hw _ (List.mem_of_getElem? (i := 10) rfl)) e0 (g := (mkF m 1 #[.val (.ref a0r), .val (.int p1)] [(.ref a0r)])) rfl (by rw [hml]; rfl) rfl (hb hby own_d1_1) (by decide) (W := 0) (by show 2 * 0 + _ ≤ _; exact Nat.le_of_eq rfl) (by decide)
  refine own_pre st8 ?_
  show own_Ends _ _ _ _ (T8.setTop (mkF m 4 #[.val (.ref a0r), .val (.int p1)] []))
  refine own_pre (fun t k => XS.aloadN X8.here hx rfl (hb hby own_d1_4) rfl rfl k) ?_
  show own_Ends _ _ _ _ (T8.setTop (mkF m 5 #[.val (.ref a0r), .val (.int p1)] [(.ref a0r)]))
  refine own_pre (fun t k => XS.iloadN X8.here hx rfl (hb hby own_d1_5) rfl k) ?_
  show own_Ends _ _ _ _ (T8.setTop (mkF m 6 #[.val (.ref a0r), .val (.int p1)] [(.int p1), (.ref a0r)]))
  obtain ⟨_, _, ⟨T9, L9, k9, n9⟩, -, X9, ⟨Lc9, hQ9, l9, y9, z9⟩, st9⟩ := Jvm.LawKit.callS X8 hx (y := (⟨"com/example/cardea/cardea/scheme/BinaryTree", "depth", "(I)I"⟩ : MethodName)) hown (mvT hZ (hw _ (List.mem_of_getElem? (i := 11) rfl))) (mvT hZ (hw _ (List.mem_of_getElem? (i := 12) rfl))) (mvT hZ (hw _ (List.mem_of_getElem? (i := 4) rfl))) (mvT hZ (hw _ (List.mem_of_getElem? (i := 13) rfl))) (by decide) (backOf (W := 1) (rm2 l Z a0 hw [] p1 h0 n0 Z0) hZ (hw _ (List.mem_of_getElem? (i := 13) rfl)) (hw _ (List.mem_of_getElem? (i := 4) rfl)) (by decide) (by decide)) (g := (mkF m 6 #[.val (.ref a0r), .val (.int p1)] [(.int p1), (.ref a0r)])) rfl (by rw [hml]; rfl) (argsL := [(.int p1)]) (rest := [(.ref a0r)]) (lenOf own_pd0 rfl) rfl (by show 2 * 0 + _ ≤ _; exact Nat.le_of_eq rfl) (hb hby own_d1_6) (fun _ _ => ⟨rfl, e8, (by decide : 0 + 0 ≤ _), (by decide : 0 + 0 ≤ _)⟩)
  dsimp only [Pt.U, Pt.locs, Pt.cells, Pt.slots] at X9 l9 y9 z9 st9 hQ9
  subst l9 y9 z9
  obtain ⟨rfl, Nq9, e9⟩ := hQ9
  have N9 := Fr.app N0 Nq9
  refine own_pre st9 ?_
  show own_Ends _ _ _ _ (T9.setTop (mkF m 9 #[.val (.ref a0r), .val (.int p1)] [(.int (own_depth p1)), (.ref a0r)]))
  obtain ⟨T10, h10, X10, e10, W10, st10⟩ := putF X9 hx hZ hown (host := "") (Or.inl (hw _ (List.mem_of_getElem? (i := 18) rfl))) Via.refl e9 F_depth EX (Or.inr ⟨(hw _ (List.mem_of_getElem? (i := 19) rfl)), rfl, hnm⟩) (hw _ (List.mem_of_getElem? (i := 3) rfl)) (ty := .int) (by decide) rfl rfl (g := (mkF m 9 #[.val (.ref a0r), .val (.int p1)] [(.int (own_depth p1)), (.ref a0r)])) rfl rfl (hb hby own_d1_9)
  refine own_pre st10 ?_
  have fw10 := F_depth.same W10
  have f11 := EX.wr W10
  have f12 := F_deep.other W10 (Or.inr (slot_ne (Or.inr (hw _ (List.mem_of_getElem? (i := 21) rfl))) (Or.inr (hw _ (List.mem_of_getElem? (i := 19) rfl))) (by decide) (t := .int) (t' := .int) (by decide) (by decide)))
  have N13 := Fr.snoc X10 N9 g0r
  have Zn14 : n0 ≤ h10.size := by rw [W10.size]; exact Z0
  have K15 : Keep h0 h10 [a0r] := KK0.wr W10 (Or.inl (by simp))
  show own_Ends _ _ _ _ (T10.setTop (mkF m 12 #[.val (.ref a0r), .val (.int p1)] []))
  refine own_pre (fun t k => XS.aloadN X10.here hx rfl (hb hby own_d1_12) rfl rfl k) ?_
  show own_Ends _ _ _ _ (T10.setTop (mkF m 13 #[.val (.ref a0r), .val (.int p1)] [(.ref a0r)]))
  refine own_pre (fun t k => XS.iconst X10.here hx rfl (hb hby own_d1_13) k) ?_
  show own_Ends _ _ _ _ (T10.setTop (mkF m 14 #[.val (.ref a0r), .val (.int p1)] [(.int (2 : Int32)), (.ref a0r)]))
  refine own_pre (fun t k => XS.iloadN X10.here hx rfl (hb hby own_d1_14) rfl k) ?_
  show own_Ends _ _ _ _ (T10.setTop (mkF m 15 #[.val (.ref a0r), .val (.int p1)] [(.int p1), (.int (2 : Int32)), (.ref a0r)]))
  refine own_pre (fun t k => XS.imul X10.here hx rfl (hb hby own_d1_15) rfl k) ?_
  show own_Ends _ _ _ _ (T10.setTop (mkF m 16 #[.val (.ref a0r), .val (.int p1)] [(.int ((2 : Int32) * p1)), (.ref a0r)]))
  refine own_pre (fun t k => XS.iconst X10.here hx rfl (hb hby own_d1_16) k) ?_
  show own_Ends _ _ _ _ (T10.setTop (mkF m 17 #[.val (.ref a0r), .val (.int p1)] [(.int (1 : Int32)), (.int ((2 : Int32) * p1)), (.ref a0r)]))
  refine own_pre (fun t k => XS.aloadN X10.here hx rfl (hb hby own_d1_17) rfl rfl k) ?_
  show own_Ends _ _ _ _ (T10.setTop (mkF m 18 #[.val (.ref a0r), .val (.int p1)] [(.ref a0r), (.int (1 : Int32)), (.int ((2 : Int32) * p1)), (.ref a0r)]))
  obtain ⟨T16, X16, e16, st16⟩ := getF X10 hx hZ hown (host := "") (Or.inl (hw _ (List.mem_of_getElem? (i := 18) rfl))) Via.refl e10 fw10 (g := (mkF m 18 #[.val (.ref a0r), .val (.int p1)] [(.ref a0r), (.int (1 : Int32)), (.int ((2 : Int32) * p1)), (.ref a0r)])) rfl rfl (hb hby own_d1_18)
  refine own_pre st16 ?_
  show own_Ends _ _ _ _ (T16.setTop (mkF m 21 #[.val (.ref a0r), .val (.int p1)] [(.int (own_depth p1)), (.int (1 : Int32)), (.int ((2 : Int32) * p1)), (.ref a0r)]))
  refine own_pre (fun t k => XS.ishl X16.here hx rfl (hb hby own_d1_21) rfl k) ?_
  show own_Ends _ _ _ _ (T16.setTop (mkF m 22 #[.val (.ref a0r), .val (.int p1)] [(.int ((1 : Int32) <<< ((own_depth p1) &&& 31))), (.int ((2 : Int32) * p1)), (.ref a0r)]))
  refine own_pre (fun t k => XS.isub X16.here hx rfl (hb hby own_d1_22) rfl k) ?_
  show own_Ends _ _ _ _ (T16.setTop (mkF m 23 #[.val (.ref a0r), .val (.int p1)] [(.int (((2 : Int32) * p1) - ((1 : Int32) <<< ((own_depth p1) &&& 31)))), (.ref a0r)]))
  obtain ⟨T17, h17, X17, e17, W17, st17⟩ := putF X16 hx hZ hown (host := "") (Or.inl (hw _ (List.mem_of_getElem? (i := 20) rfl))) Via.refl e16 f12 f11 (Or.inr ⟨(hw _ (List.mem_of_getElem? (i := 21) rfl)), rfl, hnm⟩) (hw _ (List.mem_of_getElem? (i := 3) rfl)) (ty := .int) (by decide) rfl rfl (g := (mkF m 23 #[.val (.ref a0r), .val (.int p1)] [(.int (((2 : Int32) * p1) - ((1 : Int32) <<< ((own_depth p1) &&& 31)))), (.ref a0r)])) rfl rfl (hb hby own_d1_23)
  refine own_pre st17 ?_
  have fw17 := f12.same W17
  have f18 := f11.wr W17
  have f19 := fw10.other W17 (Or.inr (slot_ne (Or.inr (hw _ (List.mem_of_getElem? (i := 19) rfl))) (Or.inr (hw _ (List.mem_of_getElem? (i := 21) rfl))) (by decide) (t := .int) (t' := .int) (by decide) (by decide)))
  have N20 := Fr.snoc X17 N13 g0r
  have Zn21 : n0 ≤ h17.size := by rw [W17.size]; exact Zn14
  have K22 : Keep h0 h17 [a0r] := K15.wr W17 (Or.inl (by simp))
  show own_Ends _ _ _ _ (T17.setTop (mkF m 26 #[.val (.ref a0r), .val (.int p1)] []))
  exact own_retV X17 hx Bd.returns (hb hby own_d1_26) hlk e17 ⟨rfl, N20, K22, f19, fw17⟩ (by decide) (by decide)
theorem own_d6_0 : decode prog_15_method_14_code 0 = .ok (.bipush 31, 2) := by decide +kernel
theorem own_d6_2 : decode prog_15_method_14_code 2 = .ok (.iload_n 0, 1) := by decide +kernel
theorem own_d6_3 : decode prog_15_method_14_code 3 = .ok (.iconst 1, 1) := by decide +kernel
theorem own_d6_4 : decode prog_15_method_14_code 4 = .ok (.iadd, 1) := by decide +kernel
theorem own_d6_5 : decode prog_15_method_14_code 5 = .ok (.invokestatic 103, 3) := by decide +kernel
theorem own_d6_8 : decode prog_15_method_14_code 8 = .ok (.isub, 1) := by decide +kernel
theorem own_d6_9 : decode prog_15_method_14_code 9 = .ok (.ireturn, 1) := by decide +kernel
def own_level (p0 : Int32) : Int32 := (31 : Int32) - (own_nlz (p0 + (1 : Int32)))
theorem own_ef_rm4 (m : MethodId) (x0 : Int32) : entryFrame m #[(.int x0)] 1 = mkF m 0 #[.val (.int x0)] [] := by first | (simp [entryFrame, mkF, argsToLocals, Value.category]; done) | rfl
def own_Q_rm4 (Z : State) (p0 : Int32) (h0 : Heap) (n0 : Nat) (v : Option Value) (h : Heap) (L : List Loc) : Prop := v = some (.int (own_level p0)) ∧ Fr n0 L ∧ h = h0
set_option maxRecDepth 65536 in
set_option maxHeartbeats 40000000 in
theorem rm4 (l : Launch) (Z : State) (a0 : Array Value) (hw : ∀ d ∈ tables_1, d.before a0 Z = true) (ws : List Jvm.Cond) (p0 : Int32) (h0 : Heap) (n0 : Nat) (Z0 : n0 ≤ h0.size) :
    MetFree l (⟨"com/example/cardea/cardea/scheme/BinaryTree", "level", "(I)I"⟩ : MethodName) (head1 (Jvm.Cond.code (⟨"com/example/cardea/cardea/scheme/BinaryTree", "level", "(I)I"⟩ : MethodName) prog_15_method_14_code 1 (some .int) :: ws) ({ frames := 1, cells := 0, slots := 0, locals := 14 } : Room)) (fun a U => a = #[(.int p0)] ∧ Z.Warmed39 U.vm ∧ U.heap = h0) (fun _ _ _ _ _ => True) (fun _ U o U' => ∃ v L, o = .returned v ∧ (own_Q_rm4 Z p0 h0 n0) v U'.heap L ∧ FrameEnd U o U' L ({ frames := 1, cells := 0, slots := 0, locals := 14 } : Room).cells ({ frames := 1, cells := 0, slots := 0, locals := 14 } : Room).slots) := by
  refine MetFree.of_bodySF (plainFor_of_name own_pn1) hisR ?_
  intro p e s m args below meth c s₁ Bd hml0 hP hK
  obtain ⟨rfl, hZ, hh⟩ := hP
  have hx := Bd.exec
  have hby := Bd.bytes
  have hml : c.maxLocals = 1 := hml0
  have hown : s.vm.findClass "com/example/cardea/cardea/scheme/BinaryTree" = some m.cls := findClass_of_methodNamed Bd.named
  have hnm := (name_of_methodNamed Bd.named Bd.method).1
  have hlk : meth.locks = false := BodyLoose.notSynchronized Bd
  have X0 : Stand p l e ({ frames := 1, cells := 0, slots := 0, locals := 14 } : Room) s m #[(.int p0)] below meth c s₁ [] 0 0 := Stand.of_body Bd
  have e0 : s₁.heap = h0 := by rw [← hh, Bd.state]; rfl
  have N0 := Fr.nil n0
  show own_Ends p e below (own_Fin s (own_Q_rm4 Z p0 h0 n0) ({ frames := 1, cells := 0, slots := 0, locals := 14 } : Room).cells ({ frames := 1, cells := 0, slots := 0, locals := 14 } : Room).slots) _
  refine own_pre (fun t k => castTop (own_ef_rm4 m p0) k) ?_
  have J0 : ∀ (G : Option Value → Heap → List Loc → Prop) (hG : ∀ L, Fr n0 L → G (some (.int ((31 : Int32) - (own_nlz (p0 + (1 : Int32)))))) h0 L), own_Ends p e below (own_Fin s G ({ frames := 1, cells := 0, slots := 0, locals := 14 } : Room).cells ({ frames := 1, cells := 0, slots := 0, locals := 14 } : Room).slots) (s₁.setTop (mkF m 0 #[.val (.int p0)] [])) := by
    intro G hG
    show own_Ends _ _ _ _ (s₁.setTop (mkF m 0 #[.val (.int p0)] []))
    refine own_pre (fun t k => XS.bipush X0.here hx rfl (hb hby own_d6_0) k) ?_
    show own_Ends _ _ _ _ (s₁.setTop (mkF m 2 #[.val (.int p0)] [(.int (31 : Int32))]))
    refine own_pre (fun t k => XS.iloadN X0.here hx rfl (hb hby own_d6_2) rfl k) ?_
    show own_Ends _ _ _ _ (s₁.setTop (mkF m 3 #[.val (.int p0)] [(.int p0), (.int (31 : Int32))]))
    refine own_pre (fun t k => XS.iconst X0.here hx rfl (hb hby own_d6_3) k) ?_
    show own_Ends _ _ _ _ (s₁.setTop (mkF m 4 #[.val (.int p0)] [(.int (1 : Int32)), (.int p0), (.int (31 : Int32))]))
    refine own_pre (fun t k => XS.iadd X0.here hx rfl (hb hby own_d6_4) rfl k) ?_
    show own_Ends _ _ _ _ (s₁.setTop (mkF m 5 #[.val (.int p0)] [(.int (p0 + (1 : Int32))), (.int (31 : Int32))]))
    obtain ⟨_, _, ⟨T23, L23, k23, n23⟩, -, X23, ⟨Lc23, hQ23, l23, y23, z23⟩, st23⟩ := Jvm.LawKit.callS X0 hx (y := (⟨"java/lang/Integer", "numberOfLeadingZeros", "(I)I"⟩ : MethodName)) hown (mvT hZ (hw _ (List.mem_of_getElem? (i := 14) rfl))) (mvT hZ (hw _ (List.mem_of_getElem? (i := 15) rfl))) (mvT hZ (hw _ (List.mem_of_getElem? (i := 16) rfl))) (mvT hZ (hw _ (List.mem_of_getElem? (i := 17) rfl))) (by decide) (backOf (W := 1) (rm1 l Z a0 hw [] (p0 + (1 : Int32)) h0 n0 Z0) hZ (hw _ (List.mem_of_getElem? (i := 17) rfl)) (hw _ (List.mem_of_getElem? (i := 16) rfl)) (by decide) (by decide)) (g := (mkF m 5 #[.val (.int p0)] [(.int (p0 + (1 : Int32))), (.int (31 : Int32))])) rfl (by rw [hml]; rfl) (argsL := [(.int (p0 + (1 : Int32)))]) (rest := [(.int (31 : Int32))]) (lenOf own_pd0 rfl) rfl (by show 2 * 0 + _ ≤ _; exact Nat.le_of_eq rfl) (hb hby own_d6_5) (fun _ _ => ⟨rfl, e0, (by decide : 0 + 0 ≤ _), (by decide : 0 + 0 ≤ _)⟩)
    dsimp only [Pt.U, Pt.locs, Pt.cells, Pt.slots] at X23 l23 y23 z23 st23 hQ23
    subst l23 y23 z23
    obtain ⟨rfl, Nq23, e23⟩ := hQ23
    have N23 := Fr.app N0 Nq23
    refine own_pre st23 ?_
    show own_Ends _ _ _ _ (T23.setTop (mkF m 8 #[.val (.int p0)] [(.int (own_nlz (p0 + (1 : Int32)))), (.int (31 : Int32))]))
    refine own_pre (fun t k => XS.isub X23.here hx rfl (hb hby own_d6_8) rfl k) ?_
    show own_Ends _ _ _ _ (T23.setTop (mkF m 9 #[.val (.int p0)] [(.int ((31 : Int32) - (own_nlz (p0 + (1 : Int32)))))]))
    exact own_retI X23 hx Bd.returns (hb hby own_d6_9) hlk e23 (hG _ N23) (by decide) (by decide)
  exact J0 _ fun L q => ⟨rfl, q, rfl⟩
theorem own_d7_0 : decode prog_15_method_12_code 0 = .ok (.iload_n 1, 1) := by decide +kernel
theorem own_d7_1 : decode prog_15_method_12_code 1 = .ok (.invokestatic 58, 3) := by decide +kernel
theorem own_d7_4 : decode prog_15_method_12_code 4 = .ok (.istore_n 2, 1) := by decide +kernel
theorem own_d7_5 : decode prog_15_method_12_code 5 = .ok (.iload_n 1, 1) := by decide +kernel
theorem own_d7_6 : decode prog_15_method_12_code 6 = .ok (.iconst 1, 1) := by decide +kernel
theorem own_d7_7 : decode prog_15_method_12_code 7 = .ok (.iadd, 1) := by decide +kernel
theorem own_d7_8 : decode prog_15_method_12_code 8 = .ok (.iconst 1, 1) := by decide +kernel
theorem own_d7_9 : decode prog_15_method_12_code 9 = .ok (.iload_n 2, 1) := by decide +kernel
theorem own_d7_10 : decode prog_15_method_12_code 10 = .ok (.ishl, 1) := by decide +kernel
theorem own_d7_11 : decode prog_15_method_12_code 11 = .ok (.isub, 1) := by decide +kernel
theorem own_d7_12 : decode prog_15_method_12_code 12 = .ok (.aload_n 0, 1) := by decide +kernel
theorem own_d7_13 : decode prog_15_method_12_code 13 = .ok (.getfield 13, 3) := by decide +kernel
theorem own_d7_16 : decode prog_15_method_12_code 16 = .ok (.iload_n 2, 1) := by decide +kernel
theorem own_d7_17 : decode prog_15_method_12_code 17 = .ok (.isub, 1) := by decide +kernel
theorem own_d7_18 : decode prog_15_method_12_code 18 = .ok (.ishl, 1) := by decide +kernel
theorem own_d7_19 : decode prog_15_method_12_code 19 = .ok (.ireturn, 1) := by decide +kernel
def own_slot (fdep : Int32) (p0 : Int32) : Int32 := ((p0 + (1 : Int32)) - ((1 : Int32) <<< ((own_level p0) &&& 31))) <<< ((fdep - (own_level p0)) &&& 31)
theorem own_ef_rm5 (m : MethodId) (x0 : Addr) (x1 : Int32) : entryFrame m #[(.ref x0), (.int x1)] 3 = mkF m 0 #[.val (.ref x0), .val (.int x1), .unset] [] := by first | (simp [entryFrame, mkF, argsToLocals, Value.category]; done) | rfl
def own_Q_rm5 (Z : State) (a0r : Addr) (p0 : Int32) (fdep : Int32) (h0 : Heap) (n0 : Nat) (v : Option Value) (h : Heap) (L : List Loc) : Prop := v = some (.int (own_slot fdep p0)) ∧ Fr n0 L ∧ h = h0
set_option maxRecDepth 65536 in
set_option maxHeartbeats 40000000 in
theorem rm5 (l : Launch) (Z : State) (a0 : Array Value) (hw : ∀ d ∈ tables_1, d.before a0 Z = true) (ws : List Jvm.Cond) (a0r : Addr) (p0 : Int32) (fdep : Int32) (h0 : Heap) (n0 : Nat) (Z0 : n0 ≤ h0.size) (F_depth : Fld Z h0 a0r "com/example/cardea/cardea/scheme/BinaryTree" "depth" "I" (.int fdep)) :
    MetFree l (⟨"com/example/cardea/cardea/scheme/BinaryTree", "slot", "(I)I"⟩ : MethodName) (head1 (Jvm.Cond.code (⟨"com/example/cardea/cardea/scheme/BinaryTree", "slot", "(I)I"⟩ : MethodName) prog_15_method_12_code 3 (some .int) :: ws) ({ frames := 2, cells := 0, slots := 0, locals := 26 } : Room)) (fun a U => a = #[(.ref a0r), (.int p0)] ∧ Z.Warmed39 U.vm ∧ U.heap = h0) (fun _ _ _ _ _ => True) (fun _ U o U' => ∃ v L, o = .returned v ∧ (own_Q_rm5 Z a0r p0 fdep h0 n0) v U'.heap L ∧ FrameEnd U o U' L ({ frames := 2, cells := 0, slots := 0, locals := 26 } : Room).cells ({ frames := 2, cells := 0, slots := 0, locals := 26 } : Room).slots) := by
  refine MetFree.of_bodySF (plainFor_of_name own_pn1) hisR ?_
  intro p e s m args below meth c s₁ Bd hml0 hP hK
  obtain ⟨rfl, hZ, hh⟩ := hP
  have hx := Bd.exec
  have hby := Bd.bytes
  have hml : c.maxLocals = 3 := hml0
  have hown : s.vm.findClass "com/example/cardea/cardea/scheme/BinaryTree" = some m.cls := findClass_of_methodNamed Bd.named
  have hnm := (name_of_methodNamed Bd.named Bd.method).1
  have hlk : meth.locks = false := BodyLoose.notSynchronized Bd
  have X0 : Stand p l e ({ frames := 2, cells := 0, slots := 0, locals := 26 } : Room) s m #[(.ref a0r), (.int p0)] below meth c s₁ [] 0 0 := Stand.of_body Bd
  have e0 : s₁.heap = h0 := by rw [← hh, Bd.state]; rfl
  have N0 := Fr.nil n0
  show own_Ends p e below (own_Fin s (own_Q_rm5 Z a0r p0 fdep h0 n0) ({ frames := 2, cells := 0, slots := 0, locals := 26 } : Room).cells ({ frames := 2, cells := 0, slots := 0, locals := 26 } : Room).slots) _
  refine own_pre (fun t k => castTop (own_ef_rm5 m a0r p0) k) ?_
  have J0 : ∀ (G : Option Value → Heap → List Loc → Prop) (hG : ∀ L, Fr n0 L → G (some (.int (((p0 + (1 : Int32)) - ((1 : Int32) <<< ((own_level p0) &&& 31))) <<< ((fdep - (own_level p0)) &&& 31)))) h0 L), own_Ends p e below (own_Fin s G ({ frames := 2, cells := 0, slots := 0, locals := 26 } : Room).cells ({ frames := 2, cells := 0, slots := 0, locals := 26 } : Room).slots) (s₁.setTop (mkF m 0 #[.val (.ref a0r), .val (.int p0), .unset] [])) := by
    intro G hG
    show own_Ends _ _ _ _ (s₁.setTop (mkF m 0 #[.val (.ref a0r), .val (.int p0), .unset] []))
    refine own_pre (fun t k => XS.iloadN X0.here hx rfl (hb hby own_d7_0) rfl k) ?_
    show own_Ends _ _ _ _ (s₁.setTop (mkF m 1 #[.val (.ref a0r), .val (.int p0), .unset] [(.int p0)]))
    obtain ⟨_, _, ⟨T24, L24, k24, n24⟩, -, X24, ⟨Lc24, hQ24, l24, y24, z24⟩, st24⟩ := Jvm.LawKit.callS X0 hx (y := (⟨"com/example/cardea/cardea/scheme/BinaryTree", "level", "(I)I"⟩ : MethodName)) hown (mvT hZ (hw _ (List.mem_of_getElem? (i := 27) rfl))) (mvT hZ (hw _ (List.mem_of_getElem? (i := 28) rfl))) (mvT hZ (hw _ (List.mem_of_getElem? (i := 4) rfl))) (mvT hZ (hw _ (List.mem_of_getElem? (i := 29) rfl))) (by decide) (backOf (W := 0) (rm4 l Z a0 hw [] p0 h0 n0 Z0) hZ (hw _ (List.mem_of_getElem? (i := 29) rfl)) (hw _ (List.mem_of_getElem? (i := 4) rfl)) (by decide) (by decide)) (g := (mkF m 1 #[.val (.ref a0r), .val (.int p0), .unset] [(.int p0)])) rfl (by rw [hml]; rfl) (argsL := [(.int p0)]) (rest := []) (lenOf own_pd0 rfl) rfl (by show 2 * 0 + _ ≤ _; exact Nat.le_of_eq rfl) (hb hby own_d7_1) (fun _ _ => ⟨rfl, e0, (by decide : 0 + 0 ≤ _), (by decide : 0 + 0 ≤ _)⟩)
    dsimp only [Pt.U, Pt.locs, Pt.cells, Pt.slots] at X24 l24 y24 z24 st24 hQ24
    subst l24 y24 z24
    obtain ⟨rfl, Nq24, e24⟩ := hQ24
    have N24 := Fr.app N0 Nq24
    refine own_pre st24 ?_
    show own_Ends _ _ _ _ (T24.setTop (mkF m 4 #[.val (.ref a0r), .val (.int p0), .unset] [(.int (own_level p0))]))
    refine own_pre (fun t k => XS.istoreN X24.here hx rfl (hb hby own_d7_4) rfl (l' := #[.val (.ref a0r), .val (.int p0), .val (.int (own_level p0))]) rfl k) ?_
    show own_Ends _ _ _ _ (T24.setTop (mkF m 5 #[.val (.ref a0r), .val (.int p0), .val (.int (own_level p0))] []))
    refine own_pre (fun t k => XS.iloadN X24.here hx rfl (hb hby own_d7_5) rfl k) ?_
    show own_Ends _ _ _ _ (T24.setTop (mkF m 6 #[.val (.ref a0r), .val (.int p0), .val (.int (own_level p0))] [(.int p0)]))
    refine own_pre (fun t k => XS.iconst X24.here hx rfl (hb hby own_d7_6) k) ?_
    show own_Ends _ _ _ _ (T24.setTop (mkF m 7 #[.val (.ref a0r), .val (.int p0), .val (.int (own_level p0))] [(.int (1 : Int32)), (.int p0)]))
    refine own_pre (fun t k => XS.iadd X24.here hx rfl (hb hby own_d7_7) rfl k) ?_
    show own_Ends _ _ _ _ (T24.setTop (mkF m 8 #[.val (.ref a0r), .val (.int p0), .val (.int (own_level p0))] [(.int (p0 + (1 : Int32)))]))
    refine own_pre (fun t k => XS.iconst X24.here hx rfl (hb hby own_d7_8) k) ?_
    show own_Ends _ _ _ _ (T24.setTop (mkF m 9 #[.val (.ref a0r), .val (.int p0), .val (.int (own_level p0))] [(.int (1 : Int32)), (.int (p0 + (1 : Int32)))]))
    refine own_pre (fun t k => XS.iloadN X24.here hx rfl (hb hby own_d7_9) rfl k) ?_
    show own_Ends _ _ _ _ (T24.setTop (mkF m 10 #[.val (.ref a0r), .val (.int p0), .val (.int (own_level p0))] [(.int (own_level p0)), (.int (1 : Int32)), (.int (p0 + (1 : Int32)))]))
    refine own_pre (fun t k => XS.ishl X24.here hx rfl (hb hby own_d7_10) rfl k) ?_
    show own_Ends _ _ _ _ (T24.setTop (mkF m 11 #[.val (.ref a0r), .val (.int p0), .val (.int (own_level p0))] [(.int ((1 : Int32) <<< ((own_level p0) &&& 31))), (.int (p0 + (1 : Int32)))]))
    refine own_pre (fun t k => XS.isub X24.here hx rfl (hb hby own_d7_11) rfl k) ?_
    show own_Ends _ _ _ _ (T24.setTop (mkF m 12 #[.val (.ref a0r), .val (.int p0), .val (.int (own_level p0))] [(.int ((p0 + (1 : Int32)) - ((1 : Int32) <<< ((own_level p0) &&& 31))))]))
    refine own_pre (fun t k => XS.aloadN X24.here hx rfl (hb hby own_d7_12) rfl rfl k) ?_
    show own_Ends _ _ _ _ (T24.setTop (mkF m 13 #[.val (.ref a0r), .val (.int p0), .val (.int (own_level p0))] [(.ref a0r), (.int ((p0 + (1 : Int32)) - ((1 : Int32) <<< ((own_level p0) &&& 31))))]))
    obtain ⟨T25, X25, e25, st25⟩ := getF X24 hx hZ hown (host := "") (Or.inl (hw _ (List.mem_of_getElem? (i := 18) rfl))) Via.refl e24 F_depth (g := (mkF m 13 #[.val (.ref a0r), .val (.int p0), .val (.int (own_level p0))] [(.ref a0r), (.int ((p0 + (1 : Int32)) - ((1 : Int32) <<< ((own_level p0) &&& 31))))])) rfl rfl (hb hby own_d7_13)
    refine own_pre st25 ?_
    show own_Ends _ _ _ _ (T25.setTop (mkF m 16 #[.val (.ref a0r), .val (.int p0), .val (.int (own_level p0))] [(.int fdep), (.int ((p0 + (1 : Int32)) - ((1 : Int32) <<< ((own_level p0) &&& 31))))]))
    refine own_pre (fun t k => XS.iloadN X25.here hx rfl (hb hby own_d7_16) rfl k) ?_
    show own_Ends _ _ _ _ (T25.setTop (mkF m 17 #[.val (.ref a0r), .val (.int p0), .val (.int (own_level p0))] [(.int (own_level p0)), (.int fdep), (.int ((p0 + (1 : Int32)) - ((1 : Int32) <<< ((own_level p0) &&& 31))))]))
    refine own_pre (fun t k => XS.isub X25.here hx rfl (hb hby own_d7_17) rfl k) ?_
    show own_Ends _ _ _ _ (T25.setTop (mkF m 18 #[.val (.ref a0r), .val (.int p0), .val (.int (own_level p0))] [(.int (fdep - (own_level p0))), (.int ((p0 + (1 : Int32)) - ((1 : Int32) <<< ((own_level p0) &&& 31))))]))
    refine own_pre (fun t k => XS.ishl X25.here hx rfl (hb hby own_d7_18) rfl k) ?_
    show own_Ends _ _ _ _ (T25.setTop (mkF m 19 #[.val (.ref a0r), .val (.int p0), .val (.int (own_level p0))] [(.int (((p0 + (1 : Int32)) - ((1 : Int32) <<< ((own_level p0) &&& 31))) <<< ((fdep - (own_level p0)) &&& 31)))]))
    exact own_retI X25 hx Bd.returns (hb hby own_d7_19) hlk e25 (hG _ N24) (by decide) (by decide)
  exact J0 _ fun L q => ⟨rfl, q, rfl⟩
theorem own_d5_0 : decode prog_15_method_6_code 0 = .ok (.aload_n 0, 1) := by decide +kernel
theorem own_d5_1 : decode prog_15_method_6_code 1 = .ok (.getfield 13, 3) := by decide +kernel
theorem own_d5_4 : decode prog_15_method_6_code 4 = .ok (.iload_n 1, 1) := by decide +kernel
theorem own_d5_5 : decode prog_15_method_6_code 5 = .ok (.invokestatic 58, 3) := by decide +kernel
theorem own_d5_8 : decode prog_15_method_6_code 8 = .ok (.isub, 1) := by decide +kernel
theorem own_d5_9 : decode prog_15_method_6_code 9 = .ok (.istore_n 2, 1) := by decide +kernel
theorem own_d5_10 : decode prog_15_method_6_code 10 = .ok (.aload_n 0, 1) := by decide +kernel
theorem own_d5_11 : decode prog_15_method_6_code 11 = .ok (.iload_n 1, 1) := by decide +kernel
theorem own_d5_12 : decode prog_15_method_6_code 12 = .ok (.invokevirtual 61, 3) := by decide +kernel
theorem own_d5_15 : decode prog_15_method_6_code 15 = .ok (.aload_n 0, 1) := by decide +kernel
theorem own_d5_16 : decode prog_15_method_6_code 16 = .ok (.getfield 16, 3) := by decide +kernel
theorem own_d5_19 : decode prog_15_method_6_code 19 = .ok (.if_icmp .ge 7, 3) := by decide +kernel
theorem own_d5_22 : decode prog_15_method_6_code 22 = .ok (.iload_n 2, 1) := by decide +kernel
theorem own_d5_23 : decode prog_15_method_6_code 23 = .ok (.goto 6, 3) := by decide +kernel
theorem own_d5_26 : decode prog_15_method_6_code 26 = .ok (.iload_n 2, 1) := by decide +kernel
theorem own_d5_27 : decode prog_15_method_6_code 27 = .ok (.iconst 1, 1) := by decide +kernel
theorem own_d5_28 : decode prog_15_method_6_code 28 = .ok (.isub, 1) := by decide +kernel
theorem own_d5_29 : decode prog_15_method_6_code 29 = .ok (.ireturn, 1) := by decide +kernel
def own_height (fdep : Int32) (fdee : Int32) (p0 : Int32) : Int32 := if (own_slot fdep p0) < fdee then (fdep - (own_level p0)) else ((fdep - (own_level p0)) - (1 : Int32))
theorem own_ef_rm6 (m : MethodId) (x0 : Addr) (x1 : Int32) : entryFrame m #[(.ref x0), (.int x1)] 3 = mkF m 0 #[.val (.ref x0), .val (.int x1), .unset] [] := by first | (simp [entryFrame, mkF, argsToLocals, Value.category]; done) | rfl
def own_Q_rm6 (Z : State) (a0r : Addr) (p0 : Int32) (fdep : Int32) (fdee : Int32) (h0 : Heap) (n0 : Nat) (v : Option Value) (h : Heap) (L : List Loc) : Prop := v = some (.int (own_height fdep fdee p0)) ∧ Fr n0 L ∧ h = h0
set_option maxRecDepth 65536 in
set_option maxHeartbeats 40000000 in
theorem rm6 (l : Launch) (Z : State) (a0 : Array Value) (hw : ∀ d ∈ tables_1, d.before a0 Z = true) (ws : List Jvm.Cond) (a0r : Addr) (p0 : Int32) (fdep : Int32) (fdee : Int32) (h0 : Heap) (n0 : Nat) (Z0 : n0 ≤ h0.size) (F_depth : Fld Z h0 a0r "com/example/cardea/cardea/scheme/BinaryTree" "depth" "I" (.int fdep)) (F_deep : Fld Z h0 a0r "com/example/cardea/cardea/scheme/BinaryTree" "deep" "I" (.int fdee)) (EX : Exa Z h0 a0r "com/example/cardea/cardea/scheme/BinaryTree") :
    MetFree l (⟨"com/example/cardea/cardea/scheme/BinaryTree", "height", "(I)I"⟩ : MethodName) (head1 (Jvm.Cond.code (⟨"com/example/cardea/cardea/scheme/BinaryTree", "height", "(I)I"⟩ : MethodName) prog_15_method_6_code 3 (some .int) :: ws) ({ frames := 3, cells := 0, slots := 0, locals := 40 } : Room)) (fun a U => a = #[(.ref a0r), (.int p0)] ∧ Z.Warmed39 U.vm ∧ U.heap = h0) (fun _ _ _ _ _ => True) (fun _ U o U' => ∃ v L, o = .returned v ∧ (own_Q_rm6 Z a0r p0 fdep fdee h0 n0) v U'.heap L ∧ FrameEnd U o U' L ({ frames := 3, cells := 0, slots := 0, locals := 40 } : Room).cells ({ frames := 3, cells := 0, slots := 0, locals := 40 } : Room).slots) := by
  refine MetFree.of_bodySF (plainFor_of_name own_pn1) hisR ?_
  intro p e s m args below meth c s₁ Bd hml0 hP hK
  obtain ⟨rfl, hZ, hh⟩ := hP
  have hx := Bd.exec
  have hby := Bd.bytes
  have hml : c.maxLocals = 3 := hml0
  have hown : s.vm.findClass "com/example/cardea/cardea/scheme/BinaryTree" = some m.cls := findClass_of_methodNamed Bd.named
  have hnm := (name_of_methodNamed Bd.named Bd.method).1
  have hlk : meth.locks = false := BodyLoose.notSynchronized Bd
  have X0 : Stand p l e ({ frames := 3, cells := 0, slots := 0, locals := 40 } : Room) s m #[(.ref a0r), (.int p0)] below meth c s₁ [] 0 0 := Stand.of_body Bd
  have e0 : s₁.heap = h0 := by rw [← hh, Bd.state]; rfl
  have N0 := Fr.nil n0
  show own_Ends p e below (own_Fin s (own_Q_rm6 Z a0r p0 fdep fdee h0 n0) ({ frames := 3, cells := 0, slots := 0, locals := 40 } : Room).cells ({ frames := 3, cells := 0, slots := 0, locals := 40 } : Room).slots) _
  refine own_pre (fun t k => castTop (own_ef_rm6 m a0r p0) k) ?_
  have J0 : ∀ (G : Option Value → Heap → List Loc → Prop) (hG : ∀ L, Fr n0 L → G (some (.int (if (own_slot fdep p0) < fdee then (fdep - (own_level p0)) else ((fdep - (own_level p0)) - (1 : Int32))))) h0 L), own_Ends p e below (own_Fin s G ({ frames := 3, cells := 0, slots := 0, locals := 40 } : Room).cells ({ frames := 3, cells := 0, slots := 0, locals := 40 } : Room).slots) (s₁.setTop (mkF m 0 #[.val (.ref a0r), .val (.int p0), .unset] [])) := by
    intro G hG
    show own_Ends _ _ _ _ (s₁.setTop (mkF m 0 #[.val (.ref a0r), .val (.int p0), .unset] []))
    refine own_pre (fun t k => XS.aloadN X0.here hx rfl (hb hby own_d5_0) rfl rfl k) ?_
    show own_Ends _ _ _ _ (s₁.setTop (mkF m 1 #[.val (.ref a0r), .val (.int p0), .unset] [(.ref a0r)]))
    obtain ⟨T26, X26, e26, st26⟩ := getF X0 hx hZ hown (host := "") (Or.inl (hw _ (List.mem_of_getElem? (i := 18) rfl))) Via.refl e0 F_depth (g := (mkF m 1 #[.val (.ref a0r), .val (.int p0), .unset] [(.ref a0r)])) rfl rfl (hb hby own_d5_1)
    refine own_pre st26 ?_
    show own_Ends _ _ _ _ (T26.setTop (mkF m 4 #[.val (.ref a0r), .val (.int p0), .unset] [(.int fdep)]))
    refine own_pre (fun t k => XS.iloadN X26.here hx rfl (hb hby own_d5_4) rfl k) ?_
    show own_Ends _ _ _ _ (T26.setTop (mkF m 5 #[.val (.ref a0r), .val (.int p0), .unset] [(.int p0), (.int fdep)]))
    obtain ⟨_, _, ⟨T27, L27, k27, n27⟩, -, X27, ⟨Lc27, hQ27, l27, y27, z27⟩, st27⟩ := Jvm.LawKit.callS X26 hx (y := (⟨"com/example/cardea/cardea/scheme/BinaryTree", "level", "(I)I"⟩ : MethodName)) hown (mvT hZ (hw _ (List.mem_of_getElem? (i := 27) rfl))) (mvT hZ (hw _ (List.mem_of_getElem? (i := 28) rfl))) (mvT hZ (hw _ (List.mem_of_getElem? (i := 4) rfl))) (mvT hZ (hw _ (List.mem_of_getElem? (i := 29) rfl))) (by decide) (backOf (W := 1) (rm4 l Z a0 hw [] p0 h0 n0 Z0) hZ (hw _ (List.mem_of_getElem? (i := 29) rfl)) (hw _ (List.mem_of_getElem? (i := 4) rfl)) (by decide) (by decide)) (g := (mkF m 5 #[.val (.ref a0r), .val (.int p0), .unset] [(.int p0), (.int fdep)])) rfl (by rw [hml]; rfl) (argsL := [(.int p0)]) (rest := [(.int fdep)]) (lenOf own_pd0 rfl) rfl (by show 2 * 0 + _ ≤ _; exact Nat.le_of_eq rfl) (hb hby own_d5_5) (fun _ _ => ⟨rfl, e26, (by decide : 0 + 0 ≤ _), (by decide : 0 + 0 ≤ _)⟩)
    dsimp only [Pt.U, Pt.locs, Pt.cells, Pt.slots] at X27 l27 y27 z27 st27 hQ27
    subst l27 y27 z27
    obtain ⟨rfl, Nq27, e27⟩ := hQ27
    have N27 := Fr.app N0 Nq27
    refine own_pre st27 ?_
    show own_Ends _ _ _ _ (T27.setTop (mkF m 8 #[.val (.ref a0r), .val (.int p0), .unset] [(.int (own_level p0)), (.int fdep)]))
    refine own_pre (fun t k => XS.isub X27.here hx rfl (hb hby own_d5_8) rfl k) ?_
    show own_Ends _ _ _ _ (T27.setTop (mkF m 9 #[.val (.ref a0r), .val (.int p0), .unset] [(.int (fdep - (own_level p0)))]))
    refine own_pre (fun t k => XS.istoreN X27.here hx rfl (hb hby own_d5_9) rfl (l' := #[.val (.ref a0r), .val (.int p0), .val (.int (fdep - (own_level p0)))]) rfl k) ?_
    show own_Ends _ _ _ _ (T27.setTop (mkF m 10 #[.val (.ref a0r), .val (.int p0), .val (.int (fdep - (own_level p0)))] []))
    refine own_pre (fun t k => XS.aloadN X27.here hx rfl (hb hby own_d5_10) rfl rfl k) ?_
    show own_Ends _ _ _ _ (T27.setTop (mkF m 11 #[.val (.ref a0r), .val (.int p0), .val (.int (fdep - (own_level p0)))] [(.ref a0r)]))
    refine own_pre (fun t k => XS.iloadN X27.here hx rfl (hb hby own_d5_11) rfl k) ?_
    show own_Ends _ _ _ _ (T27.setTop (mkF m 12 #[.val (.ref a0r), .val (.int p0), .val (.int (fdep - (own_level p0)))] [(.int p0), (.ref a0r)]))
    obtain ⟨cq28, q28, q28'⟩ := EX.cell
    obtain ⟨_, _, ⟨T28, L28, k28, n28⟩, -, X28, ⟨Lc28, hQ28, l28, y28, z28⟩, st28⟩ := X27.privateBack hx (y := (⟨"com/example/cardea/cardea/scheme/BinaryTree", "slot", "(I)I"⟩ : MethodName)) hown (mvT hZ (hw _ (List.mem_of_getElem? (i := 31) rfl))) (mvT hZ (hw _ (List.mem_of_getElem? (i := 32) rfl))) (own_selP hZ (hw _ (List.mem_of_getElem? (i := 3) rfl)) (hw _ (List.mem_of_getElem? (i := 33) rfl)) (hw _ (List.mem_of_getElem? (i := 32) rfl)) (by decide)) (Cond.privateMethod_at (mvP hZ (hw _ (List.mem_of_getElem? (i := 33) rfl)) (args := #[]))) (mvT hZ (hw _ (List.mem_of_getElem? (i := 34) rfl))) (by decide) (backOf (W := 0) (rm5 l Z a0 hw [] a0r p0 fdep h0 n0 Z0 F_depth) hZ (hw _ (List.mem_of_getElem? (i := 34) rfl)) (hw _ (List.mem_of_getElem? (i := 4) rfl)) (by decide) (by decide)) (g := (mkF m 12 #[.val (.ref a0r), .val (.int p0), .val (.int (fdep - (own_level p0)))] [(.int p0), (.ref a0r)])) rfl (by rw [hml]; rfl) (Steps.refl _) (a := a0r) (by rw [e27]; exact q28) q28' (argsL := [(.int p0)]) (rest := []) (lenOf own_pd0 rfl) rfl (by show 2 * 0 + _ ≤ _; exact Nat.le_of_eq rfl) (hb hby own_d5_12) (fun _ _ => ⟨rfl, e27, (by decide : 0 + 0 ≤ _), (by decide : 0 + 0 ≤ _)⟩)
    dsimp only [Pt.U, Pt.locs, Pt.cells, Pt.slots] at X28 l28 y28 z28 st28 hQ28
    subst l28 y28 z28
    obtain ⟨rfl, Nq28, e28⟩ := hQ28
    have N28 := Fr.app N27 Nq28
    refine own_pre (fun t k => st28.trans k) ?_
    show own_Ends _ _ _ _ (T28.setTop (mkF m 15 #[.val (.ref a0r), .val (.int p0), .val (.int (fdep - (own_level p0)))] [(.int (own_slot fdep p0))]))
    refine own_pre (fun t k => XS.aloadN X28.here hx rfl (hb hby own_d5_15) rfl rfl k) ?_
    show own_Ends _ _ _ _ (T28.setTop (mkF m 16 #[.val (.ref a0r), .val (.int p0), .val (.int (fdep - (own_level p0)))] [(.ref a0r), (.int (own_slot fdep p0))]))
    obtain ⟨T29, X29, e29, st29⟩ := getF X28 hx hZ hown (host := "") (Or.inl (hw _ (List.mem_of_getElem? (i := 20) rfl))) Via.refl e28 F_deep (g := (mkF m 16 #[.val (.ref a0r), .val (.int p0), .val (.int (fdep - (own_level p0)))] [(.ref a0r), (.int (own_slot fdep p0))])) rfl rfl (hb hby own_d5_16)
    refine own_pre st29 ?_
    show own_Ends _ _ _ _ (T29.setTop (mkF m 19 #[.val (.ref a0r), .val (.int p0), .val (.int (fdep - (own_level p0)))] [(.int fdee), (.int (own_slot fdep p0))]))
    by_cases hc30 : (own_slot fdep p0) < fdee
    · skip
      rw [if_pos hc30] at hG
      refine own_pre (fun t k => XS.icmpNo X29.here hx rfl (hb hby own_d5_19) rfl (tlt hc30).2.1 k) ?_
      show own_Ends _ _ _ _ (T29.setTop (mkF m 22 #[.val (.ref a0r), .val (.int p0), .val (.int (fdep - (own_level p0)))] []))
      refine own_pre (fun t k => XS.iloadN X29.here hx rfl (hb hby own_d5_22) rfl k) ?_
      show own_Ends _ _ _ _ (T29.setTop (mkF m 23 #[.val (.ref a0r), .val (.int p0), .val (.int (fdep - (own_level p0)))] [(.int (fdep - (own_level p0)))]))
      refine own_pre (fun t k => XS.goto X29.here hx rfl (pc0 := 23) (pc' := 29) rfl (hb hby own_d5_23) (by decide) (by decide) k) ?_
      show own_Ends _ _ _ _ (T29.setTop (mkF m 29 #[.val (.ref a0r), .val (.int p0), .val (.int (fdep - (own_level p0)))] [(.int (fdep - (own_level p0)))]))
      exact own_retI X29 hx Bd.returns (hb hby own_d5_29) hlk e29 (hG _ N28) (by decide) (by decide)
    · skip
      rw [if_neg hc30] at hG
      refine own_pre (fun t k => XS.icmpYes X29.here hx rfl (pc0 := 19) (pc' := 26) rfl (hb hby own_d5_19) rfl (flt hc30).2.1 (by decide) (by decide) k) ?_
      show own_Ends _ _ _ _ (T29.setTop (mkF m 26 #[.val (.ref a0r), .val (.int p0), .val (.int (fdep - (own_level p0)))] []))
      refine own_pre (fun t k => XS.iloadN X29.here hx rfl (hb hby own_d5_26) rfl k) ?_
      show own_Ends _ _ _ _ (T29.setTop (mkF m 27 #[.val (.ref a0r), .val (.int p0), .val (.int (fdep - (own_level p0)))] [(.int (fdep - (own_level p0)))]))
      refine own_pre (fun t k => XS.iconst X29.here hx rfl (hb hby own_d5_27) k) ?_
      show own_Ends _ _ _ _ (T29.setTop (mkF m 28 #[.val (.ref a0r), .val (.int p0), .val (.int (fdep - (own_level p0)))] [(.int (1 : Int32)), (.int (fdep - (own_level p0)))]))
      refine own_pre (fun t k => XS.isub X29.here hx rfl (hb hby own_d5_28) rfl k) ?_
      show own_Ends _ _ _ _ (T29.setTop (mkF m 29 #[.val (.ref a0r), .val (.int p0), .val (.int (fdep - (own_level p0)))] [(.int ((fdep - (own_level p0)) - (1 : Int32)))]))
      exact own_retI X29 hx Bd.returns (hb hby own_d5_29) hlk e29 (hG _ N28) (by decide) (by decide)
  exact J0 _ fun L q => ⟨rfl, q, rfl⟩
theorem own_d8_0 : decode method_3_code 0 = .ok (.iconst 0, 1) := by decide +kernel
theorem own_d8_1 : decode method_3_code 1 = .ok (.istore_n 1, 1) := by decide +kernel
theorem own_d8_2 : decode method_3_code 2 = .ok (.iload_n 0, 1) := by decide +kernel
theorem own_d8_3 : decode method_3_code 3 = .ok (.ldc 23, 2) := by decide +kernel
theorem own_d8_5 : decode method_3_code 5 = .ok (.if_icmp .lt 13, 3) := by decide +kernel
theorem own_d8_8 : decode method_3_code 8 = .ok (.iload_n 0, 1) := by decide +kernel
theorem own_d8_9 : decode method_3_code 9 = .ok (.bipush 16, 2) := by decide +kernel
theorem own_d8_11 : decode method_3_code 11 = .ok (.iushr, 1) := by decide +kernel
theorem own_d8_12 : decode method_3_code 12 = .ok (.istore_n 0, 1) := by decide +kernel
theorem own_d8_13 : decode method_3_code 13 = .ok (.iload_n 1, 1) := by decide +kernel
theorem own_d8_14 : decode method_3_code 14 = .ok (.bipush 16, 2) := by decide +kernel
theorem own_d8_16 : decode method_3_code 16 = .ok (.iadd, 1) := by decide +kernel
theorem own_d8_17 : decode method_3_code 17 = .ok (.istore_n 1, 1) := by decide +kernel
theorem own_d8_18 : decode method_3_code 18 = .ok (.iload_n 0, 1) := by decide +kernel
theorem own_d8_19 : decode method_3_code 19 = .ok (.sipush 256, 3) := by decide +kernel
theorem own_d8_22 : decode method_3_code 22 = .ok (.if_icmp .lt 13, 3) := by decide +kernel
theorem own_d8_25 : decode method_3_code 25 = .ok (.iload_n 0, 1) := by decide +kernel
theorem own_d8_26 : decode method_3_code 26 = .ok (.bipush 8, 2) := by decide +kernel
theorem own_d8_28 : decode method_3_code 28 = .ok (.iushr, 1) := by decide +kernel
theorem own_d8_29 : decode method_3_code 29 = .ok (.istore_n 0, 1) := by decide +kernel
theorem own_d8_30 : decode method_3_code 30 = .ok (.iload_n 1, 1) := by decide +kernel
theorem own_d8_31 : decode method_3_code 31 = .ok (.bipush 8, 2) := by decide +kernel
theorem own_d8_33 : decode method_3_code 33 = .ok (.iadd, 1) := by decide +kernel
theorem own_d8_34 : decode method_3_code 34 = .ok (.istore_n 1, 1) := by decide +kernel
theorem own_d8_35 : decode method_3_code 35 = .ok (.iload_n 0, 1) := by decide +kernel
theorem own_d8_36 : decode method_3_code 36 = .ok (.bipush 16, 2) := by decide +kernel
theorem own_d8_38 : decode method_3_code 38 = .ok (.if_icmp .lt 11, 3) := by decide +kernel
theorem own_d8_41 : decode method_3_code 41 = .ok (.iload_n 0, 1) := by decide +kernel
theorem own_d8_42 : decode method_3_code 42 = .ok (.iconst 4, 1) := by decide +kernel
theorem own_d8_43 : decode method_3_code 43 = .ok (.iushr, 1) := by decide +kernel
theorem own_d8_44 : decode method_3_code 44 = .ok (.istore_n 0, 1) := by decide +kernel
theorem own_d8_45 : decode method_3_code 45 = .ok (.iload_n 1, 1) := by decide +kernel
theorem own_d8_46 : decode method_3_code 46 = .ok (.iconst 4, 1) := by decide +kernel
theorem own_d8_47 : decode method_3_code 47 = .ok (.iadd, 1) := by decide +kernel
theorem own_d8_48 : decode method_3_code 48 = .ok (.istore_n 1, 1) := by decide +kernel
theorem own_d8_49 : decode method_3_code 49 = .ok (.iload_n 0, 1) := by decide +kernel
theorem own_d8_50 : decode method_3_code 50 = .ok (.iconst 4, 1) := by decide +kernel
theorem own_d8_51 : decode method_3_code 51 = .ok (.if_icmp .lt 11, 3) := by decide +kernel
theorem own_d8_54 : decode method_3_code 54 = .ok (.iload_n 0, 1) := by decide +kernel
theorem own_d8_55 : decode method_3_code 55 = .ok (.iconst 2, 1) := by decide +kernel
theorem own_d8_56 : decode method_3_code 56 = .ok (.iushr, 1) := by decide +kernel
theorem own_d8_57 : decode method_3_code 57 = .ok (.istore_n 0, 1) := by decide +kernel
theorem own_d8_58 : decode method_3_code 58 = .ok (.iload_n 1, 1) := by decide +kernel
theorem own_d8_59 : decode method_3_code 59 = .ok (.iconst 2, 1) := by decide +kernel
theorem own_d8_60 : decode method_3_code 60 = .ok (.iadd, 1) := by decide +kernel
theorem own_d8_61 : decode method_3_code 61 = .ok (.istore_n 1, 1) := by decide +kernel
theorem own_d8_62 : decode method_3_code 62 = .ok (.iload_n 0, 1) := by decide +kernel
theorem own_d8_63 : decode method_3_code 63 = .ok (.iconst 2, 1) := by decide +kernel
theorem own_d8_64 : decode method_3_code 64 = .ok (.if_icmp .lt 7, 3) := by decide +kernel
theorem own_d8_67 : decode method_3_code 67 = .ok (.iload_n 1, 1) := by decide +kernel
theorem own_d8_68 : decode method_3_code 68 = .ok (.iconst 1, 1) := by decide +kernel
theorem own_d8_69 : decode method_3_code 69 = .ok (.iadd, 1) := by decide +kernel
theorem own_d8_70 : decode method_3_code 70 = .ok (.istore_n 1, 1) := by decide +kernel
theorem own_d8_71 : decode method_3_code 71 = .ok (.iload_n 1, 1) := by decide +kernel
theorem own_d8_72 : decode method_3_code 72 = .ok (.ireturn, 1) := by decide +kernel
def own_log2_62 (u0 : Int32) (u1 : Int32) : Int32 := if u0 < (2 : Int32) then u1 else (u1 + (1 : Int32))
def own_log2_49 (u0 : Int32) (u1 : Int32) : Int32 := if u0 < (4 : Int32) then (own_log2_62 u0 u1) else (own_log2_62 (own_ushr u0 (2 : Int32)) (u1 + (2 : Int32)))
def own_log2_35 (u0 : Int32) (u1 : Int32) : Int32 := if u0 < (16 : Int32) then (own_log2_49 u0 u1) else (own_log2_49 (own_ushr u0 (4 : Int32)) (u1 + (4 : Int32)))
def own_log2_18 (u0 : Int32) (u1 : Int32) : Int32 := if u0 < (256 : Int32) then (own_log2_35 u0 u1) else (own_log2_35 (own_ushr u0 (8 : Int32)) (u1 + (8 : Int32)))
def own_log2 (p0 : Int32) : Int32 := if p0 < (65536 : Int32) then (own_log2_18 p0 (0 : Int32)) else (own_log2_18 (own_ushr p0 (16 : Int32)) (16 : Int32))
theorem own_pn2 : plainName "com/example/cardea/cardea/scheme/BinaryTreeHeightPinLaw" = true := by first | (simp [plainName, overriddenIn]; done) | decide +kernel
theorem own_ef_rm7 (m : MethodId) (x0 : Int32) : entryFrame m #[(.int x0)] 2 = mkF m 0 #[.val (.int x0), .unset] [] := by first | (simp [entryFrame, mkF, argsToLocals, Value.category]; done) | rfl
def own_Q_rm7 (Z : State) (p0 : Int32) (h0 : Heap) (n0 : Nat) (v : Option Value) (h : Heap) (L : List Loc) : Prop := v = some (.int (own_log2 p0)) ∧ Fr n0 L ∧ h = h0
set_option maxRecDepth 65536 in
set_option maxHeartbeats 40000000 in
theorem rm7 (l : Launch) (Z : State) (a0 : Array Value) (hw : ∀ d ∈ tables_1, d.before a0 Z = true) (ws : List Jvm.Cond) (p0 : Int32) (h0 : Heap) (n0 : Nat) (Z0 : n0 ≤ h0.size) :
    MetFree l (⟨"com/example/cardea/cardea/scheme/BinaryTreeHeightPinLaw", "log2", "(I)I"⟩ : MethodName) (head1 (Jvm.Cond.code (⟨"com/example/cardea/cardea/scheme/BinaryTreeHeightPinLaw", "log2", "(I)I"⟩ : MethodName) method_3_code 2 (some .int) :: ws) ({ frames := 0, cells := 0, slots := 0, locals := 0 } : Room)) (fun a U => a = #[(.int p0)] ∧ Z.Warmed39 U.vm ∧ U.heap = h0) (fun _ _ _ _ _ => True) (fun _ U o U' => ∃ v L, o = .returned v ∧ (own_Q_rm7 Z p0 h0 n0) v U'.heap L ∧ FrameEnd U o U' L ({ frames := 0, cells := 0, slots := 0, locals := 0 } : Room).cells ({ frames := 0, cells := 0, slots := 0, locals := 0 } : Room).slots) := by
  refine MetFree.of_bodySF (plainFor_of_name own_pn2) hisR ?_
  intro p e s m args below meth c s₁ Bd hml0 hP hK
  obtain ⟨rfl, hZ, hh⟩ := hP
  have hx := Bd.exec
  have hby := Bd.bytes
  have hml : c.maxLocals = 2 := hml0
  have hown : s.vm.findClass "com/example/cardea/cardea/scheme/BinaryTreeHeightPinLaw" = some m.cls := findClass_of_methodNamed Bd.named
  have hnm := (name_of_methodNamed Bd.named Bd.method).1
  have hlk : meth.locks = false := BodyLoose.notSynchronized Bd
  have X0 : Stand p l e ({ frames := 0, cells := 0, slots := 0, locals := 0 } : Room) s m #[(.int p0)] below meth c s₁ [] 0 0 := Stand.of_body Bd
  have e0 : s₁.heap = h0 := by rw [← hh, Bd.state]; rfl
  have N0 := Fr.nil n0
  show own_Ends p e below (own_Fin s (own_Q_rm7 Z p0 h0 n0) ({ frames := 0, cells := 0, slots := 0, locals := 0 } : Room).cells ({ frames := 0, cells := 0, slots := 0, locals := 0 } : Room).slots) _
  refine own_pre (fun t k => castTop (own_ef_rm7 m p0) k) ?_
  have J62 : ∀ (TT : State) (LL : List Loc) (XX : Stand p l e ({ frames := 0, cells := 0, slots := 0, locals := 0 } : Room) s m #[(.int p0)] below meth c TT LL 0 0) (eT : TT.heap = h0) (NN : Fr n0 LL) (u0 : Int32) (u1 : Int32) (G : Option Value → Heap → List Loc → Prop) (hG : ∀ L, Fr n0 L → G (some (.int (own_log2_62 u0 u1))) h0 L), own_Ends p e below (own_Fin s G ({ frames := 0, cells := 0, slots := 0, locals := 0 } : Room).cells ({ frames := 0, cells := 0, slots := 0, locals := 0 } : Room).slots) (TT.setTop (mkF m 62 #[.val (.int u0), .val (.int u1)] [])) := by
    intro TT LL XX eT NN u0 u1 G hG
    have hG : ∀ L, Fr n0 L → G (some (.int (if u0 < (2 : Int32) then u1 else (u1 + (1 : Int32))))) h0 L := hG
    show own_Ends _ _ _ _ (TT.setTop (mkF m 62 #[.val (.int u0), .val (.int u1)] []))
    refine own_pre (fun t k => XS.iloadN XX.here hx rfl (hb hby own_d8_62) rfl k) ?_
    show own_Ends _ _ _ _ (TT.setTop (mkF m 63 #[.val (.int u0), .val (.int u1)] [(.int u0)]))
    refine own_pre (fun t k => XS.iconst XX.here hx rfl (hb hby own_d8_63) k) ?_
    show own_Ends _ _ _ _ (TT.setTop (mkF m 64 #[.val (.int u0), .val (.int u1)] [(.int (2 : Int32)), (.int u0)]))
    by_cases hc31 : u0 < (2 : Int32)
    · skip
      rw [if_pos hc31] at hG
      refine own_pre (fun t k => XS.icmpYes XX.here hx rfl (pc0 := 64) (pc' := 71) rfl (hb hby own_d8_64) rfl (tlt hc31).1 (by decide) (by decide) k) ?_
      show own_Ends _ _ _ _ (TT.setTop (mkF m 71 #[.val (.int u0), .val (.int u1)] []))
      refine own_pre (fun t k => XS.iloadN XX.here hx rfl (hb hby own_d8_71) rfl k) ?_
      show own_Ends _ _ _ _ (TT.setTop (mkF m 72 #[.val (.int u0), .val (.int u1)] [(.int u1)]))
      exact own_retI XX hx Bd.returns (hb hby own_d8_72) hlk eT (hG _ NN) (by decide) (by decide)
    · skip
      rw [if_neg hc31] at hG
      refine own_pre (fun t k => XS.icmpNo XX.here hx rfl (hb hby own_d8_64) rfl (flt hc31).1 k) ?_
      show own_Ends _ _ _ _ (TT.setTop (mkF m 67 #[.val (.int u0), .val (.int u1)] []))
      refine own_pre (fun t k => XS.iloadN XX.here hx rfl (hb hby own_d8_67) rfl k) ?_
      show own_Ends _ _ _ _ (TT.setTop (mkF m 68 #[.val (.int u0), .val (.int u1)] [(.int u1)]))
      refine own_pre (fun t k => XS.iconst XX.here hx rfl (hb hby own_d8_68) k) ?_
      show own_Ends _ _ _ _ (TT.setTop (mkF m 69 #[.val (.int u0), .val (.int u1)] [(.int (1 : Int32)), (.int u1)]))
      refine own_pre (fun t k => XS.iadd XX.here hx rfl (hb hby own_d8_69) rfl k) ?_
      show own_Ends _ _ _ _ (TT.setTop (mkF m 70 #[.val (.int u0), .val (.int u1)] [(.int (u1 + (1 : Int32)))]))
      refine own_pre (fun t k => XS.istoreN XX.here hx rfl (hb hby own_d8_70) rfl (l' := #[.val (.int u0), .val (.int (u1 + (1 : Int32)))]) rfl k) ?_
      show own_Ends _ _ _ _ (TT.setTop (mkF m 71 #[.val (.int u0), .val (.int (u1 + (1 : Int32)))] []))
      refine own_pre (fun t k => XS.iloadN XX.here hx rfl (hb hby own_d8_71) rfl k) ?_
      show own_Ends _ _ _ _ (TT.setTop (mkF m 72 #[.val (.int u0), .val (.int (u1 + (1 : Int32)))] [(.int (u1 + (1 : Int32)))]))
      exact own_retI XX hx Bd.returns (hb hby own_d8_72) hlk eT (hG _ NN) (by decide) (by decide)
  have J49 : ∀ (TT : State) (LL : List Loc) (XX : Stand p l e ({ frames := 0, cells := 0, slots := 0, locals := 0 } : Room) s m #[(.int p0)] below meth c TT LL 0 0) (eT : TT.heap = h0) (NN : Fr n0 LL) (u0 : Int32) (u1 : Int32) (G : Option Value → Heap → List Loc → Prop) (hG : ∀ L, Fr n0 L → G (some (.int (own_log2_49 u0 u1))) h0 L), own_Ends p e below (own_Fin s G ({ frames := 0, cells := 0, slots := 0, locals := 0 } : Room).cells ({ frames := 0, cells := 0, slots := 0, locals := 0 } : Room).slots) (TT.setTop (mkF m 49 #[.val (.int u0), .val (.int u1)] [])) := by
    intro TT LL XX eT NN u0 u1 G hG
    have hG : ∀ L, Fr n0 L → G (some (.int (if u0 < (4 : Int32) then (own_log2_62 u0 u1) else (own_log2_62 (own_ushr u0 (2 : Int32)) (u1 + (2 : Int32)))))) h0 L := hG
    show own_Ends _ _ _ _ (TT.setTop (mkF m 49 #[.val (.int u0), .val (.int u1)] []))
    refine own_pre (fun t k => XS.iloadN XX.here hx rfl (hb hby own_d8_49) rfl k) ?_
    show own_Ends _ _ _ _ (TT.setTop (mkF m 50 #[.val (.int u0), .val (.int u1)] [(.int u0)]))
    refine own_pre (fun t k => XS.iconst XX.here hx rfl (hb hby own_d8_50) k) ?_
    show own_Ends _ _ _ _ (TT.setTop (mkF m 51 #[.val (.int u0), .val (.int u1)] [(.int (4 : Int32)), (.int u0)]))
    by_cases hc32 : u0 < (4 : Int32)
    · skip
      rw [if_pos hc32] at hG
      refine own_pre (fun t k => XS.icmpYes XX.here hx rfl (pc0 := 51) (pc' := 62) rfl (hb hby own_d8_51) rfl (tlt hc32).1 (by decide) (by decide) k) ?_
      show own_Ends _ _ _ _ (TT.setTop (mkF m 62 #[.val (.int u0), .val (.int u1)] []))
      exact J62 _ _ XX eT NN u0 u1 _ hG
    · skip
      rw [if_neg hc32] at hG
      refine own_pre (fun t k => XS.icmpNo XX.here hx rfl (hb hby own_d8_51) rfl (flt hc32).1 k) ?_
      show own_Ends _ _ _ _ (TT.setTop (mkF m 54 #[.val (.int u0), .val (.int u1)] []))
      refine own_pre (fun t k => XS.iloadN XX.here hx rfl (hb hby own_d8_54) rfl k) ?_
      show own_Ends _ _ _ _ (TT.setTop (mkF m 55 #[.val (.int u0), .val (.int u1)] [(.int u0)]))
      refine own_pre (fun t k => XS.iconst XX.here hx rfl (hb hby own_d8_55) k) ?_
      show own_Ends _ _ _ _ (TT.setTop (mkF m 56 #[.val (.int u0), .val (.int u1)] [(.int (2 : Int32)), (.int u0)]))
      refine own_pre (fun t k => XS.iushr XX.here hx rfl (hb hby own_d8_56) rfl k) ?_
      show own_Ends _ _ _ _ (TT.setTop (mkF m 57 #[.val (.int u0), .val (.int u1)] [(.int (own_ushr u0 (2 : Int32)))]))
      refine own_pre (fun t k => XS.istoreN XX.here hx rfl (hb hby own_d8_57) rfl (l' := #[.val (.int (own_ushr u0 (2 : Int32))), .val (.int u1)]) rfl k) ?_
      show own_Ends _ _ _ _ (TT.setTop (mkF m 58 #[.val (.int (own_ushr u0 (2 : Int32))), .val (.int u1)] []))
      refine own_pre (fun t k => XS.iloadN XX.here hx rfl (hb hby own_d8_58) rfl k) ?_
      show own_Ends _ _ _ _ (TT.setTop (mkF m 59 #[.val (.int (own_ushr u0 (2 : Int32))), .val (.int u1)] [(.int u1)]))
      refine own_pre (fun t k => XS.iconst XX.here hx rfl (hb hby own_d8_59) k) ?_
      show own_Ends _ _ _ _ (TT.setTop (mkF m 60 #[.val (.int (own_ushr u0 (2 : Int32))), .val (.int u1)] [(.int (2 : Int32)), (.int u1)]))
      refine own_pre (fun t k => XS.iadd XX.here hx rfl (hb hby own_d8_60) rfl k) ?_
      show own_Ends _ _ _ _ (TT.setTop (mkF m 61 #[.val (.int (own_ushr u0 (2 : Int32))), .val (.int u1)] [(.int (u1 + (2 : Int32)))]))
      refine own_pre (fun t k => XS.istoreN XX.here hx rfl (hb hby own_d8_61) rfl (l' := #[.val (.int (own_ushr u0 (2 : Int32))), .val (.int (u1 + (2 : Int32)))]) rfl k) ?_
      show own_Ends _ _ _ _ (TT.setTop (mkF m 62 #[.val (.int (own_ushr u0 (2 : Int32))), .val (.int (u1 + (2 : Int32)))] []))
      exact J62 _ _ XX eT NN (own_ushr u0 (2 : Int32)) (u1 + (2 : Int32)) _ hG
  have J35 : ∀ (TT : State) (LL : List Loc) (XX : Stand p l e ({ frames := 0, cells := 0, slots := 0, locals := 0 } : Room) s m #[(.int p0)] below meth c TT LL 0 0) (eT : TT.heap = h0) (NN : Fr n0 LL) (u0 : Int32) (u1 : Int32) (G : Option Value → Heap → List Loc → Prop) (hG : ∀ L, Fr n0 L → G (some (.int (own_log2_35 u0 u1))) h0 L), own_Ends p e below (own_Fin s G ({ frames := 0, cells := 0, slots := 0, locals := 0 } : Room).cells ({ frames := 0, cells := 0, slots := 0, locals := 0 } : Room).slots) (TT.setTop (mkF m 35 #[.val (.int u0), .val (.int u1)] [])) := by
    intro TT LL XX eT NN u0 u1 G hG
    have hG : ∀ L, Fr n0 L → G (some (.int (if u0 < (16 : Int32) then (own_log2_49 u0 u1) else (own_log2_49 (own_ushr u0 (4 : Int32)) (u1 + (4 : Int32)))))) h0 L := hG
    show own_Ends _ _ _ _ (TT.setTop (mkF m 35 #[.val (.int u0), .val (.int u1)] []))
    refine own_pre (fun t k => XS.iloadN XX.here hx rfl (hb hby own_d8_35) rfl k) ?_
    show own_Ends _ _ _ _ (TT.setTop (mkF m 36 #[.val (.int u0), .val (.int u1)] [(.int u0)]))
    refine own_pre (fun t k => XS.bipush XX.here hx rfl (hb hby own_d8_36) k) ?_
    show own_Ends _ _ _ _ (TT.setTop (mkF m 38 #[.val (.int u0), .val (.int u1)] [(.int (16 : Int32)), (.int u0)]))
    by_cases hc33 : u0 < (16 : Int32)
    · skip
      rw [if_pos hc33] at hG
      refine own_pre (fun t k => XS.icmpYes XX.here hx rfl (pc0 := 38) (pc' := 49) rfl (hb hby own_d8_38) rfl (tlt hc33).1 (by decide) (by decide) k) ?_
      show own_Ends _ _ _ _ (TT.setTop (mkF m 49 #[.val (.int u0), .val (.int u1)] []))
      exact J49 _ _ XX eT NN u0 u1 _ hG
    · skip
      rw [if_neg hc33] at hG
      refine own_pre (fun t k => XS.icmpNo XX.here hx rfl (hb hby own_d8_38) rfl (flt hc33).1 k) ?_
      show own_Ends _ _ _ _ (TT.setTop (mkF m 41 #[.val (.int u0), .val (.int u1)] []))
      refine own_pre (fun t k => XS.iloadN XX.here hx rfl (hb hby own_d8_41) rfl k) ?_
      show own_Ends _ _ _ _ (TT.setTop (mkF m 42 #[.val (.int u0), .val (.int u1)] [(.int u0)]))
      refine own_pre (fun t k => XS.iconst XX.here hx rfl (hb hby own_d8_42) k) ?_
      show own_Ends _ _ _ _ (TT.setTop (mkF m 43 #[.val (.int u0), .val (.int u1)] [(.int (4 : Int32)), (.int u0)]))
      refine own_pre (fun t k => XS.iushr XX.here hx rfl (hb hby own_d8_43) rfl k) ?_
      show own_Ends _ _ _ _ (TT.setTop (mkF m 44 #[.val (.int u0), .val (.int u1)] [(.int (own_ushr u0 (4 : Int32)))]))
      refine own_pre (fun t k => XS.istoreN XX.here hx rfl (hb hby own_d8_44) rfl (l' := #[.val (.int (own_ushr u0 (4 : Int32))), .val (.int u1)]) rfl k) ?_
      show own_Ends _ _ _ _ (TT.setTop (mkF m 45 #[.val (.int (own_ushr u0 (4 : Int32))), .val (.int u1)] []))
      refine own_pre (fun t k => XS.iloadN XX.here hx rfl (hb hby own_d8_45) rfl k) ?_
      show own_Ends _ _ _ _ (TT.setTop (mkF m 46 #[.val (.int (own_ushr u0 (4 : Int32))), .val (.int u1)] [(.int u1)]))
      refine own_pre (fun t k => XS.iconst XX.here hx rfl (hb hby own_d8_46) k) ?_
      show own_Ends _ _ _ _ (TT.setTop (mkF m 47 #[.val (.int (own_ushr u0 (4 : Int32))), .val (.int u1)] [(.int (4 : Int32)), (.int u1)]))
      refine own_pre (fun t k => XS.iadd XX.here hx rfl (hb hby own_d8_47) rfl k) ?_
      show own_Ends _ _ _ _ (TT.setTop (mkF m 48 #[.val (.int (own_ushr u0 (4 : Int32))), .val (.int u1)] [(.int (u1 + (4 : Int32)))]))
      refine own_pre (fun t k => XS.istoreN XX.here hx rfl (hb hby own_d8_48) rfl (l' := #[.val (.int (own_ushr u0 (4 : Int32))), .val (.int (u1 + (4 : Int32)))]) rfl k) ?_
      show own_Ends _ _ _ _ (TT.setTop (mkF m 49 #[.val (.int (own_ushr u0 (4 : Int32))), .val (.int (u1 + (4 : Int32)))] []))
      exact J49 _ _ XX eT NN (own_ushr u0 (4 : Int32)) (u1 + (4 : Int32)) _ hG
  have J18 : ∀ (TT : State) (LL : List Loc) (XX : Stand p l e ({ frames := 0, cells := 0, slots := 0, locals := 0 } : Room) s m #[(.int p0)] below meth c TT LL 0 0) (eT : TT.heap = h0) (NN : Fr n0 LL) (u0 : Int32) (u1 : Int32) (G : Option Value → Heap → List Loc → Prop) (hG : ∀ L, Fr n0 L → G (some (.int (own_log2_18 u0 u1))) h0 L), own_Ends p e below (own_Fin s G ({ frames := 0, cells := 0, slots := 0, locals := 0 } : Room).cells ({ frames := 0, cells := 0, slots := 0, locals := 0 } : Room).slots) (TT.setTop (mkF m 18 #[.val (.int u0), .val (.int u1)] [])) := by
    intro TT LL XX eT NN u0 u1 G hG
    have hG : ∀ L, Fr n0 L → G (some (.int (if u0 < (256 : Int32) then (own_log2_35 u0 u1) else (own_log2_35 (own_ushr u0 (8 : Int32)) (u1 + (8 : Int32)))))) h0 L := hG
    show own_Ends _ _ _ _ (TT.setTop (mkF m 18 #[.val (.int u0), .val (.int u1)] []))
    refine own_pre (fun t k => XS.iloadN XX.here hx rfl (hb hby own_d8_18) rfl k) ?_
    show own_Ends _ _ _ _ (TT.setTop (mkF m 19 #[.val (.int u0), .val (.int u1)] [(.int u0)]))
    refine own_pre (fun t k => XS.sipush XX.here hx rfl (hb hby own_d8_19) k) ?_
    show own_Ends _ _ _ _ (TT.setTop (mkF m 22 #[.val (.int u0), .val (.int u1)] [(.int (256 : Int32)), (.int u0)]))
    by_cases hc34 : u0 < (256 : Int32)
    · skip
      rw [if_pos hc34] at hG
      refine own_pre (fun t k => XS.icmpYes XX.here hx rfl (pc0 := 22) (pc' := 35) rfl (hb hby own_d8_22) rfl (tlt hc34).1 (by decide) (by decide) k) ?_
      show own_Ends _ _ _ _ (TT.setTop (mkF m 35 #[.val (.int u0), .val (.int u1)] []))
      exact J35 _ _ XX eT NN u0 u1 _ hG
    · skip
      rw [if_neg hc34] at hG
      refine own_pre (fun t k => XS.icmpNo XX.here hx rfl (hb hby own_d8_22) rfl (flt hc34).1 k) ?_
      show own_Ends _ _ _ _ (TT.setTop (mkF m 25 #[.val (.int u0), .val (.int u1)] []))
      refine own_pre (fun t k => XS.iloadN XX.here hx rfl (hb hby own_d8_25) rfl k) ?_
      show own_Ends _ _ _ _ (TT.setTop (mkF m 26 #[.val (.int u0), .val (.int u1)] [(.int u0)]))
      refine own_pre (fun t k => XS.bipush XX.here hx rfl (hb hby own_d8_26) k) ?_
      show own_Ends _ _ _ _ (TT.setTop (mkF m 28 #[.val (.int u0), .val (.int u1)] [(.int (8 : Int32)), (.int u0)]))
      refine own_pre (fun t k => XS.iushr XX.here hx rfl (hb hby own_d8_28) rfl k) ?_
      show own_Ends _ _ _ _ (TT.setTop (mkF m 29 #[.val (.int u0), .val (.int u1)] [(.int (own_ushr u0 (8 : Int32)))]))
      refine own_pre (fun t k => XS.istoreN XX.here hx rfl (hb hby own_d8_29) rfl (l' := #[.val (.int (own_ushr u0 (8 : Int32))), .val (.int u1)]) rfl k) ?_
      show own_Ends _ _ _ _ (TT.setTop (mkF m 30 #[.val (.int (own_ushr u0 (8 : Int32))), .val (.int u1)] []))
      refine own_pre (fun t k => XS.iloadN XX.here hx rfl (hb hby own_d8_30) rfl k) ?_
      show own_Ends _ _ _ _ (TT.setTop (mkF m 31 #[.val (.int (own_ushr u0 (8 : Int32))), .val (.int u1)] [(.int u1)]))
      refine own_pre (fun t k => XS.bipush XX.here hx rfl (hb hby own_d8_31) k) ?_
      show own_Ends _ _ _ _ (TT.setTop (mkF m 33 #[.val (.int (own_ushr u0 (8 : Int32))), .val (.int u1)] [(.int (8 : Int32)), (.int u1)]))
      refine own_pre (fun t k => XS.iadd XX.here hx rfl (hb hby own_d8_33) rfl k) ?_
      show own_Ends _ _ _ _ (TT.setTop (mkF m 34 #[.val (.int (own_ushr u0 (8 : Int32))), .val (.int u1)] [(.int (u1 + (8 : Int32)))]))
      refine own_pre (fun t k => XS.istoreN XX.here hx rfl (hb hby own_d8_34) rfl (l' := #[.val (.int (own_ushr u0 (8 : Int32))), .val (.int (u1 + (8 : Int32)))]) rfl k) ?_
      show own_Ends _ _ _ _ (TT.setTop (mkF m 35 #[.val (.int (own_ushr u0 (8 : Int32))), .val (.int (u1 + (8 : Int32)))] []))
      exact J35 _ _ XX eT NN (own_ushr u0 (8 : Int32)) (u1 + (8 : Int32)) _ hG
  have J0 : ∀ (G : Option Value → Heap → List Loc → Prop) (hG : ∀ L, Fr n0 L → G (some (.int (if p0 < (65536 : Int32) then (own_log2_18 p0 (0 : Int32)) else (own_log2_18 (own_ushr p0 (16 : Int32)) (16 : Int32))))) h0 L), own_Ends p e below (own_Fin s G ({ frames := 0, cells := 0, slots := 0, locals := 0 } : Room).cells ({ frames := 0, cells := 0, slots := 0, locals := 0 } : Room).slots) (s₁.setTop (mkF m 0 #[.val (.int p0), .unset] [])) := by
    intro G hG
    show own_Ends _ _ _ _ (s₁.setTop (mkF m 0 #[.val (.int p0), .unset] []))
    refine own_pre (fun t k => XS.iconst X0.here hx rfl (hb hby own_d8_0) k) ?_
    show own_Ends _ _ _ _ (s₁.setTop (mkF m 1 #[.val (.int p0), .unset] [(.int (0 : Int32))]))
    refine own_pre (fun t k => XS.istoreN X0.here hx rfl (hb hby own_d8_1) rfl (l' := #[.val (.int p0), .val (.int (0 : Int32))]) rfl k) ?_
    show own_Ends _ _ _ _ (s₁.setTop (mkF m 2 #[.val (.int p0), .val (.int (0 : Int32))] []))
    refine own_pre (fun t k => XS.iloadN X0.here hx rfl (hb hby own_d8_2) rfl k) ?_
    show own_Ends _ _ _ _ (s₁.setTop (mkF m 3 #[.val (.int p0), .val (.int (0 : Int32))] [(.int p0)]))
    refine own_pre (fun t k => X0.ldcInt hx hown (mvT hZ (hw _ (List.mem_of_getElem? (i := 39) rfl))) (g := (mkF m 3 #[.val (.int p0), .val (.int (0 : Int32))] [(.int p0)])) rfl (hb hby own_d8_3) _ k) ?_
    show own_Ends _ _ _ _ (s₁.setTop (mkF m 5 #[.val (.int p0), .val (.int (0 : Int32))] [(.int (65536 : Int32)), (.int p0)]))
    by_cases hc35 : p0 < (65536 : Int32)
    · skip
      rw [if_pos hc35] at hG
      refine own_pre (fun t k => XS.icmpYes X0.here hx rfl (pc0 := 5) (pc' := 18) rfl (hb hby own_d8_5) rfl (tlt hc35).1 (by decide) (by decide) k) ?_
      show own_Ends _ _ _ _ (s₁.setTop (mkF m 18 #[.val (.int p0), .val (.int (0 : Int32))] []))
      exact J18 _ _ X0 e0 N0 p0 (0 : Int32) _ hG
    · skip
      rw [if_neg hc35] at hG
      refine own_pre (fun t k => XS.icmpNo X0.here hx rfl (hb hby own_d8_5) rfl (flt hc35).1 k) ?_
      show own_Ends _ _ _ _ (s₁.setTop (mkF m 8 #[.val (.int p0), .val (.int (0 : Int32))] []))
      refine own_pre (fun t k => XS.iloadN X0.here hx rfl (hb hby own_d8_8) rfl k) ?_
      show own_Ends _ _ _ _ (s₁.setTop (mkF m 9 #[.val (.int p0), .val (.int (0 : Int32))] [(.int p0)]))
      refine own_pre (fun t k => XS.bipush X0.here hx rfl (hb hby own_d8_9) k) ?_
      show own_Ends _ _ _ _ (s₁.setTop (mkF m 11 #[.val (.int p0), .val (.int (0 : Int32))] [(.int (16 : Int32)), (.int p0)]))
      refine own_pre (fun t k => XS.iushr X0.here hx rfl (hb hby own_d8_11) rfl k) ?_
      show own_Ends _ _ _ _ (s₁.setTop (mkF m 12 #[.val (.int p0), .val (.int (0 : Int32))] [(.int (own_ushr p0 (16 : Int32)))]))
      refine own_pre (fun t k => XS.istoreN X0.here hx rfl (hb hby own_d8_12) rfl (l' := #[.val (.int (own_ushr p0 (16 : Int32))), .val (.int (0 : Int32))]) rfl k) ?_
      show own_Ends _ _ _ _ (s₁.setTop (mkF m 13 #[.val (.int (own_ushr p0 (16 : Int32))), .val (.int (0 : Int32))] []))
      refine own_pre (fun t k => XS.iloadN X0.here hx rfl (hb hby own_d8_13) rfl k) ?_
      show own_Ends _ _ _ _ (s₁.setTop (mkF m 14 #[.val (.int (own_ushr p0 (16 : Int32))), .val (.int (0 : Int32))] [(.int (0 : Int32))]))
      refine own_pre (fun t k => XS.bipush X0.here hx rfl (hb hby own_d8_14) k) ?_
      show own_Ends _ _ _ _ (s₁.setTop (mkF m 16 #[.val (.int (own_ushr p0 (16 : Int32))), .val (.int (0 : Int32))] [(.int (16 : Int32)), (.int (0 : Int32))]))
      refine own_pre (fun t k => XS.iadd X0.here hx rfl (hb hby own_d8_16) rfl k) ?_
      show own_Ends _ _ _ _ (s₁.setTop (mkF m 17 #[.val (.int (own_ushr p0 (16 : Int32))), .val (.int (0 : Int32))] [(.int (16 : Int32))]))
      refine own_pre (fun t k => XS.istoreN X0.here hx rfl (hb hby own_d8_17) rfl (l' := #[.val (.int (own_ushr p0 (16 : Int32))), .val (.int (16 : Int32))]) rfl k) ?_
      show own_Ends _ _ _ _ (s₁.setTop (mkF m 18 #[.val (.int (own_ushr p0 (16 : Int32))), .val (.int (16 : Int32))] []))
      exact J18 _ _ X0 e0 N0 (own_ushr p0 (16 : Int32)) (16 : Int32) _ hG
  exact J0 _ fun L q => ⟨rfl, q, rfl⟩
theorem own_shl1 : ∀ k : Fin 31, ((1 : Int32) <<< (Int32.ofNat k.val &&& 31)).toInt = 2 ^ k.val := by decide +kernel
theorem own_sh : ∀ k : Fin 31, ((Int32.ofNat k.val &&& 31).toBitVec.smod 32).toNat = k.val := by decide +kernel
/-- an int from 0 to 30 is a small natural -/
theorem own_nat {x : Int32} {k : Nat} (h : x.toInt = k) (hk : k < 2 ^ 31) : x = Int32.ofNat k := by
  apply Int32.toInt_inj.mp
  rw [h, Int32.toInt_ofNat_of_lt hk]
theorem own_toN {k : Nat} (hk : k < 2 ^ 31) : (Int32.ofNat k).toInt.toNat = k := by
  rw [Int32.toInt_ofNat_of_lt hk]; omega
theorem own_one (x : Int32) {k : Nat} (h : x.toInt = k) (hk : k ≤ 30) : ((1 : Int32) <<< (x &&& 31)).toInt = 2 ^ k := by
  rw [own_nat h (by omega)]
  exact own_shl1 ⟨k, by omega⟩
theorem own_shl (y x : Int32) {k : Nat} (h : x.toInt = k) (hk : k ≤ 30) (h1 : -2 ^ 31 ≤ y.toInt * 2 ^ k) (h2 : y.toInt * 2 ^ k < 2 ^ 31) : (y <<< (x &&& 31)).toInt = y.toInt * 2 ^ k := by
  rw [own_nat h (by omega)]
  exact Jvm.Kit.i32_shl y _ (own_sh ⟨k, by omega⟩) h1 h2
theorem own_ush (x k : Int32) {j : Nat} (hx : 0 ≤ x.toInt) (hj : ((k &&& 31).toUInt32).toNat = j) (hk : j < 32) : (own_ushr x k).toInt = x.toInt / 2 ^ j :=
  Jvm.Kit.i32_iushr (Jvm.Kit.i32_nonneg.mpr hx) hj hk
theorem own_lit (k : Int32) : k.toInt = k.toInt := rfl
/-- where x stands between two powers of two -/
def own_Log (x : Int) (l : Nat) : Prop := 2 ^ l ≤ x ∧ x < 2 ^ (l + 1)
theorem own_log_step {x : Int} {l k : Nat} (h : own_Log (x / 2 ^ k) l) : own_Log x (l + k) := by
  have hp : (0 : Int) < 2 ^ k := Int.pow_pos (by decide)
  obtain ⟨h1, h2⟩ := h
  constructor
  · rw [Int.pow_add]
    have := (Int.le_ediv_iff_mul_le hp).mp h1
    exact this
  · rw [show l + k + 1 = (l + 1) + k by omega, Int.pow_add]
    exact (Int.ediv_lt_iff_lt_mul hp).mp h2
theorem own_log_unique {x : Int} {a b : Nat} (h : own_Log x a) (q : own_Log x b) : a = b := by
  have aux : ∀ {a b : Nat}, own_Log x a → own_Log x b → a ≤ b := fun {a b} h q => by
    refine Nat.le_of_not_lt fun z => ?_
    have e : (2 : Int) ^ (b + 1) ≤ 2 ^ a := by exact_mod_cast Nat.pow_le_pow_right (by decide : 0 < 2) z
    have := h.1; have := q.2
    omega
  exact Nat.le_antisymm (aux h q) (aux q h)
theorem own_Int {x : Int32} {k : Int} (h : x.toInt = k) : x.toInt = k := h
theorem own_nlz61 (x n : Int32) (h1 : 1 ≤ x.toInt) (h2 : x.toInt < 16) (hn : 3 ≤ n.toInt) (hn' : n.toInt ≤ 31) : ∃ l : Nat, l ≤ 3 ∧ own_Log x.toInt l ∧ (own_nlz_61 x n).toInt = n.toInt - l := by
  have l4 : (4 : Int32).toInt = 4 := rfl
  have lm2 : (-2 : Int32).toInt = -2 := rfl
  unfold own_nlz_61
  by_cases c : x < 4
  · rw [if_pos c]
    rw [Int32.lt_iff_toInt_lt, l4] at c
    have u1 : (own_ushr x 1).toInt = x.toInt / 2 ^ 1 := own_ush x 1 (by omega) (by decide) (by decide)
    have e : (n - own_ushr x 1).toInt = n.toInt - (own_ushr x 1).toInt := Jvm.Kit.i32_sub (by omega) (by omega)
    by_cases q : x.toInt = 1
    · exact ⟨0, by omega, ⟨by omega, by omega⟩, by omega⟩
    · exact ⟨1, by omega, ⟨by omega, by omega⟩, by omega⟩
  · rw [if_neg c]
    rw [Int32.lt_iff_toInt_lt, l4] at c
    have u1 : (own_ushr x 2).toInt = x.toInt / 2 ^ 2 := own_ush x 2 (by omega) (by decide) (by decide)
    have u2 : (own_ushr (own_ushr x 2) 1).toInt = (own_ushr x 2).toInt / 2 ^ 1 := own_ush _ 1 (by omega) (by decide) (by decide)
    have e1 : (n + -2).toInt = n.toInt + (-2 : Int32).toInt := Jvm.Kit.i32_add (by omega) (by omega)
    have e : (n + -2 - own_ushr (own_ushr x 2) 1).toInt = (n + -2).toInt - (own_ushr (own_ushr x 2) 1).toInt := Jvm.Kit.i32_sub (by omega) (by omega)
    by_cases q : x.toInt < 8
    · exact ⟨2, by omega, ⟨by omega, by omega⟩, by omega⟩
    · exact ⟨3, by omega, ⟨by omega, by omega⟩, by omega⟩
theorem own_nlz48 (x n : Int32) (h1 : 1 ≤ x.toInt) (h2 : x.toInt < 256) (hn : 7 ≤ n.toInt) (hn' : n.toInt ≤ 31) : ∃ l : Nat, l ≤ 7 ∧ own_Log x.toInt l ∧ (own_nlz_48 x n).toInt = n.toInt - l := by
  have l16 : (16 : Int32).toInt = 16 := rfl
  have lm : (-4 : Int32).toInt = -4 := rfl
  unfold own_nlz_48
  by_cases c : x < 16
  · rw [if_pos c]
    rw [Int32.lt_iff_toInt_lt, l16] at c
    obtain ⟨l, a1, a2, a3⟩ := own_nlz61 x n h1 c (by omega) hn'
    exact ⟨l, by omega, a2, a3⟩
  · rw [if_neg c]
    rw [Int32.lt_iff_toInt_lt, l16] at c
    have u1 : (own_ushr x 4).toInt = x.toInt / 2 ^ 4 := own_ush x 4 (by omega) (by decide) (by decide)
    have e1 : (n + -4).toInt = n.toInt + (-4 : Int32).toInt := Jvm.Kit.i32_add (by omega) (by omega)
    obtain ⟨l, a1, a2, a3⟩ := own_nlz61 (own_ushr x 4) (n + -4) (by omega) (by omega) (by omega) (by omega)
    rw [u1] at a2
    exact ⟨l + 4, by omega, own_log_step a2, by omega⟩
theorem own_nlz33 (x n : Int32) (h1 : 1 ≤ x.toInt) (h2 : x.toInt < 65536) (hn : 15 ≤ n.toInt) (hn' : n.toInt ≤ 31) : ∃ l : Nat, l ≤ 15 ∧ own_Log x.toInt l ∧ (own_nlz_33 x n).toInt = n.toInt - l := by
  have l16 : (256 : Int32).toInt = 256 := rfl
  have lm : (-8 : Int32).toInt = -8 := rfl
  unfold own_nlz_33
  by_cases c : x < 256
  · rw [if_pos c]
    rw [Int32.lt_iff_toInt_lt, l16] at c
    obtain ⟨l, a1, a2, a3⟩ := own_nlz48 x n h1 c (by omega) hn'
    exact ⟨l, by omega, a2, a3⟩
  · rw [if_neg c]
    rw [Int32.lt_iff_toInt_lt, l16] at c
    have u1 : (own_ushr x 8).toInt = x.toInt / 2 ^ 8 := own_ush x 8 (by omega) (by decide) (by decide)
    have e1 : (n + -8).toInt = n.toInt + (-8 : Int32).toInt := Jvm.Kit.i32_add (by omega) (by omega)
    obtain ⟨l, a1, a2, a3⟩ := own_nlz48 (own_ushr x 8) (n + -8) (by omega) (by omega) (by omega) (by omega)
    rw [u1] at a2
    exact ⟨l + 8, by omega, own_log_step a2, by omega⟩
theorem own_nlzP (x : Int32) (h1 : 1 ≤ x.toInt) : ∃ l : Nat, l ≤ 30 ∧ own_Log x.toInt l ∧ (own_nlz x).toInt = 31 - l := by
  have l0 : (0 : Int32).toInt = 0 := rfl
  have l16 : (65536 : Int32).toInt = 65536 := rfl
  have l31 : (31 : Int32).toInt = 31 := rfl
  have l15 : ((31 : Int32) + (-16 : Int32)).toInt = 15 := rfl
  have hx := x.toInt_lt
  unfold own_nlz
  rw [if_pos (by rw [Int32.lt_iff_toInt_lt]; omega)]
  by_cases c : x < 65536
  · rw [if_pos c]
    rw [Int32.lt_iff_toInt_lt, l16] at c
    obtain ⟨l, a1, a2, a3⟩ := own_nlz33 x 31 h1 c (by omega) (by omega)
    exact ⟨l, by omega, a2, by omega⟩
  · rw [if_neg c]
    rw [Int32.lt_iff_toInt_lt, l16] at c
    have u1 : (own_ushr x 16).toInt = x.toInt / 2 ^ 16 := own_ush x 16 (by omega) (by decide) (by decide)
    obtain ⟨l, a1, a2, a3⟩ := own_nlz33 (own_ushr x 16) ((31 : Int32) + (-16 : Int32)) (by omega) (by omega) (by omega) (by omega)
    rw [u1] at a2
    have hl := own_log_step a2
    refine ⟨l + 16, Nat.le_of_not_lt fun z => ?_, hl, by omega⟩
    have e : l = 15 := by omega
    subst e
    have hz : (2 : Int) ^ 31 ≤ x.toInt := hl.1
    omega
/-- a tree of N leaves has depth D -/
def own_Rng (D : Nat) (N : Int) : Prop := (D = 0 ∧ N = 1) ∨ (1 ≤ D ∧ 2 ^ (D - 1) < N ∧ N ≤ 2 ^ D)
theorem own_pow_le {D k : Nat} (h : D ≤ k) : (2 : Int) ^ D ≤ 2 ^ k := by exact_mod_cast Nat.pow_le_pow_right (by decide : 0 < 2) h
theorem own_pow_pos (D : Nat) : (0 : Int) < 2 ^ D := Int.pow_pos (by decide)
theorem own_pow_half {D : Nat} (h : 1 ≤ D) : (2 : Int) ^ D = 2 * 2 ^ (D - 1) := by
  obtain ⟨k, rfl⟩ : ∃ k, D = k + 1 := ⟨D - 1, by omega⟩
  rw [Int.pow_succ, Nat.add_sub_cancel, Int.mul_comm]
theorem own_depthEq {n : Int32} {D : Nat} (h : own_Rng D n.toInt) (hD : D ≤ 30) : (own_depth n).toInt = D := by
  rcases h with ⟨rfl, h⟩ | ⟨h1, h2, h3⟩
  · have : n = 1 := Int32.toInt_inj.mp (by rw [h]; rfl)
    subst this
    decide
  · have p1 := own_pow_pos (D - 1)
    have l1 : (1 : Int32).toInt = 1 := rfl
    have l32 : (32 : Int32).toInt = 32 := rfl
    have hx := n.toInt_lt
    have e1 : (n - 1).toInt = n.toInt - (1 : Int32).toInt := Jvm.Kit.i32_sub (by omega) (by omega)
    obtain ⟨l, a1, a2, a3⟩ := own_nlzP (n - 1) (by omega)
    have u : own_Log (n - 1).toInt (D - 1) := ⟨by omega, by rw [show D - 1 + 1 = D by omega]; omega⟩
    have := own_log_unique a2 u
    unfold own_depth
    have e2 : ((32 : Int32) - own_nlz (n - 1)).toInt = (32 : Int32).toInt - (own_nlz (n - 1)).toInt := Jvm.Kit.i32_sub (by omega) (by omega)
    omega
theorem own_deepEq {n : Int32} {D : Nat} (h : own_Rng D n.toInt) (hD : D ≤ 30) : (((2 : Int32) * n) - ((1 : Int32) <<< ((own_depth n) &&& 31))).toInt = 2 * n.toInt - 2 ^ D := by
  have e1 := own_one (own_depth n) (own_depthEq h hD) hD
  have l2 : (2 : Int32).toInt = 2 := rfl
  have p1 := own_pow_pos D
  have p2 : (2 : Int) ^ D ≤ 2 ^ 30 := own_pow_le hD
  rw [Int32.toInt_sub, Int32.toInt_mul, e1, l2, Int.bmod_sub_bmod]
  have hb : -2 ^ 31 ≤ 2 * n.toInt - 2 ^ D ∧ 2 * n.toInt - 2 ^ D < 2 ^ 31 := by
    rcases h with ⟨rfl, h⟩ | ⟨h1, h2, h3⟩
    · rw [h]; decide
    · have := own_pow_half h1
      omega
  exact Jvm.Kit.bmod32 hb.1 hb.2

theorem own_l62 (x n : Int32) (h1 : 1 ≤ x.toInt) (h2 : x.toInt < 4) (hn : 0 ≤ n.toInt) (hn' : n.toInt ≤ 1000) : ∃ l : Nat, l ≤ 1 ∧ own_Log x.toInt l ∧ (own_log2_62 x n).toInt = n.toInt + l := by
  have l2 : (2 : Int32).toInt = 2 := rfl
  have l1 : (1 : Int32).toInt = 1 := rfl
  unfold own_log2_62
  by_cases c : x < 2
  · rw [if_pos c]
    rw [Int32.lt_iff_toInt_lt, l2] at c
    exact ⟨0, by omega, ⟨by omega, by omega⟩, by omega⟩
  · rw [if_neg c]
    rw [Int32.lt_iff_toInt_lt, l2] at c
    have e1 : (n + 1).toInt = n.toInt + (1 : Int32).toInt := Jvm.Kit.i32_add (by omega) (by omega)
    exact ⟨1, by omega, ⟨by omega, by omega⟩, by omega⟩
theorem own_l49 (x n : Int32) (h1 : 1 ≤ x.toInt) (h2 : x.toInt < 16) (hn : 0 ≤ n.toInt) (hn' : n.toInt ≤ 900) : ∃ l : Nat, l ≤ 3 ∧ own_Log x.toInt l ∧ (own_log2_49 x n).toInt = n.toInt + l := by
  have l4 : (4 : Int32).toInt = 4 := rfl
  have l2 : (2 : Int32).toInt = 2 := rfl
  unfold own_log2_49
  by_cases c : x < 4
  · rw [if_pos c]
    rw [Int32.lt_iff_toInt_lt, l4] at c
    obtain ⟨l, a1, a2, a3⟩ := own_l62 x n h1 c hn (by omega)
    exact ⟨l, by omega, a2, a3⟩
  · rw [if_neg c]
    rw [Int32.lt_iff_toInt_lt, l4] at c
    have u1 : (own_ushr x 2).toInt = x.toInt / 2 ^ 2 := own_ush x 2 (by omega) (by decide) (by decide)
    have e1 : (n + 2).toInt = n.toInt + (2 : Int32).toInt := Jvm.Kit.i32_add (by omega) (by omega)
    obtain ⟨l, a1, a2, a3⟩ := own_l62 (own_ushr x 2) (n + 2) (by omega) (by omega) (by omega) (by omega)
    rw [u1] at a2
    exact ⟨l + 2, by omega, own_log_step a2, by omega⟩
theorem own_l35 (x n : Int32) (h1 : 1 ≤ x.toInt) (h2 : x.toInt < 256) (hn : 0 ≤ n.toInt) (hn' : n.toInt ≤ 24) : ∃ l : Nat, l ≤ 7 ∧ own_Log x.toInt l ∧ (own_log2_35 x n).toInt = n.toInt + l := by
  have l4 : (16 : Int32).toInt = 16 := rfl
  have l2 : (4 : Int32).toInt = 4 := rfl
  unfold own_log2_35
  by_cases c : x < 16
  · rw [if_pos c]
    rw [Int32.lt_iff_toInt_lt, l4] at c
    obtain ⟨l, a1, a2, a3⟩ := own_l49 x n h1 c hn (by omega)
    exact ⟨l, by omega, a2, a3⟩
  · rw [if_neg c]
    rw [Int32.lt_iff_toInt_lt, l4] at c
    have u1 : (own_ushr x 4).toInt = x.toInt / 2 ^ 4 := own_ush x 4 (by omega) (by decide) (by decide)
    have e1 : (n + 4).toInt = n.toInt + (4 : Int32).toInt := Jvm.Kit.i32_add (by omega) (by omega)
    obtain ⟨l, a1, a2, a3⟩ := own_l49 (own_ushr x 4) (n + 4) (by omega) (by omega) (by omega) (by omega)
    rw [u1] at a2
    exact ⟨l + 4, by omega, own_log_step a2, by omega⟩
theorem own_l18 (x n : Int32) (h1 : 1 ≤ x.toInt) (h2 : x.toInt < 65536) (hn : 0 ≤ n.toInt) (hn' : n.toInt ≤ 16) : ∃ l : Nat, l ≤ 15 ∧ own_Log x.toInt l ∧ (own_log2_18 x n).toInt = n.toInt + l := by
  have l4 : (256 : Int32).toInt = 256 := rfl
  have l2 : (8 : Int32).toInt = 8 := rfl
  unfold own_log2_18
  by_cases c : x < 256
  · rw [if_pos c]
    rw [Int32.lt_iff_toInt_lt, l4] at c
    obtain ⟨l, a1, a2, a3⟩ := own_l35 x n h1 c hn (by omega)
    exact ⟨l, by omega, a2, a3⟩
  · rw [if_neg c]
    rw [Int32.lt_iff_toInt_lt, l4] at c
    have u1 : (own_ushr x 8).toInt = x.toInt / 2 ^ 8 := own_ush x 8 (by omega) (by decide) (by decide)
    have e1 : (n + 8).toInt = n.toInt + (8 : Int32).toInt := Jvm.Kit.i32_add (by omega) (by omega)
    obtain ⟨l, a1, a2, a3⟩ := own_l35 (own_ushr x 8) (n + 8) (by omega) (by omega) (by omega) (by omega)
    rw [u1] at a2
    exact ⟨l + 8, by omega, own_log_step a2, by omega⟩
theorem own_log2P (x : Int32) (h1 : 1 ≤ x.toInt) : ∃ l : Nat, own_Log x.toInt l ∧ (own_log2 x).toInt = l := by
  have l16 : (65536 : Int32).toInt = 65536 := rfl
  have l0 : (0 : Int32).toInt = 0 := rfl
  have l15 : (16 : Int32).toInt = 16 := rfl
  have hx := x.toInt_lt
  unfold own_log2
  by_cases c : x < 65536
  · rw [if_pos c]
    rw [Int32.lt_iff_toInt_lt, l16] at c
    obtain ⟨l, a1, a2, a3⟩ := own_l18 x 0 h1 c (by omega) (by omega)
    exact ⟨l, a2, by omega⟩
  · rw [if_neg c]
    rw [Int32.lt_iff_toInt_lt, l16] at c
    have u1 : (own_ushr x 16).toInt = x.toInt / 2 ^ 16 := own_ush x 16 (by omega) (by decide) (by decide)
    obtain ⟨l, a1, a2, a3⟩ := own_l18 (own_ushr x 16) 16 (by omega) (by omega) (by omega) (by omega)
    rw [u1] at a2
    exact ⟨l + 16, own_log_step a2, by omega⟩
/-- every number from 1 to 2^29 of leaves has a depth -/
theorem own_rngEx {N : Int} (h1 : 1 ≤ N) (h2 : N ≤ 2 ^ 29) : ∃ D : Nat, D ≤ 29 ∧ own_Rng D N := by
  by_cases q : N = 1
  · exact ⟨0, by omega, Or.inl ⟨rfl, q⟩⟩
  · have m : (Int32.ofInt (N - 1)).toInt = N - 1 := Int32.toInt_ofInt_of_le (by omega) (by omega)
    obtain ⟨l, a1, ⟨a2, a3⟩, -⟩ := own_nlzP (Int32.ofInt (N - 1)) (by omega)
    rw [m] at a2 a3
    refine ⟨l + 1, ?_, Or.inr ⟨by omega, by rw [Nat.add_sub_cancel]; omega, by omega⟩⟩
    refine Nat.le_of_not_lt fun z => ?_
    have : (2 : Int) ^ 29 ≤ 2 ^ l := own_pow_le (by omega)
    omega
theorem own_n {x y : Int32} (h : (1 : Int32) + (y &&& 536870911) = x) : 1 ≤ x.toInt ∧ x.toInt ≤ 2 ^ 29 := by
  have e1 : (y &&& 536870911).toInt = y.toInt % 2 ^ 29 := Jvm.Kit.i32_mask y 536870911 (by decide) (by decide)
  have l1 : (1 : Int32).toInt = 1 := rfl
  have e2 : (1 + (y &&& 536870911)).toInt = (1 : Int32).toInt + (y &&& 536870911).toInt := Jvm.Kit.i32_add (by omega) (by omega)
  rw [h] at e2
  omega
theorem own_nodes {n x : Int32} (hn : 1 ≤ n.toInt ∧ n.toInt ≤ 2 ^ 29) (h : ((2 : Int32) * n) - (1 : Int32) = x) : x.toInt = 2 * n.toInt - 1 := by
  have l1 : (1 : Int32).toInt = 1 := rfl
  have l2 : (2 : Int32).toInt = 2 := rfl
  have e1 : ((2 : Int32) * n).toInt = (2 : Int32).toInt * n.toInt := Jvm.Kit.i32_mul (by rw [l2]; omega) (by rw [l2]; omega)
  rw [l2] at e1
  have e2 : ((2 : Int32) * n - 1).toInt = ((2 : Int32) * n).toInt - (1 : Int32).toInt := Jvm.Kit.i32_sub (by omega) (by omega)
  rw [h] at e2
  omega
theorem own_remB {x y n : Int32} (h : (y &&& 2147483647) % n = x) (hn : 1 ≤ n.toInt) : 0 ≤ x.toInt ∧ x.toInt < n.toInt := by
  have e1 : (y &&& 2147483647).toInt = y.toInt % 2 ^ 31 := Jvm.Kit.i32_mask y 2147483647 (by decide) (by decide)
  have e2 : ((y &&& 2147483647) % n).toInt = (y &&& 2147483647).toInt % n.toInt := Jvm.Kit.i32_rem_nonneg (by rw [e1]; omega)
  rw [h] at e2
  rw [e2]
  exact ⟨Int.emod_nonneg _ (by omega), Int.emod_lt_of_pos _ (by omega)⟩
theorem own_nz {x : Int32} (h : 1 ≤ x.toInt) : x ≠ 0 := fun q => by
  rw [q] at h
  exact absurd h (by decide)
theorem own_plus {h : Int32} {x : Int} (hh : 0 ≤ h.toInt ∧ h.toInt < x) (hx : x ≤ 2 ^ 30) : (h + 1).toInt = h.toInt + 1 := by
  have l1 : (1 : Int32).toInt = 1 := rfl
  have e : (h + 1).toInt = h.toInt + (1 : Int32).toInt := Jvm.Kit.i32_add (by omega) (by omega)
  omega
theorem own_main {n x h : Int32} (hn : 1 ≤ n.toInt ∧ n.toInt ≤ 2 ^ 29) (hx : x.toInt = 2 * n.toInt - 1) (hh : 0 ≤ h.toInt ∧ h.toInt < x.toInt) :
    own_height (own_depth n) (((2 : Int32) * n) - ((1 : Int32) <<< ((own_depth n) &&& 31))) h = own_log2 (x / (h + (1 : Int32))) := by
  obtain ⟨D, hD, hr⟩ := own_rngEx hn.1 hn.2
  have ed := own_depthEq hr (by omega)
  have ee := own_deepEq hr (by omega)
  have hA := own_plus hh (by omega)
  have p29 : (2 : Int) ^ D ≤ 2 ^ 29 := own_pow_le hD
  have pD := own_pow_pos D
  have hN : n.toInt ≤ 2 ^ D ∧ 2 ^ D ≤ 2 * n.toInt - 1 := by
    rcases hr with ⟨h, h'⟩ | ⟨g1, g2, g3⟩
    · rw [h, h']; decide
    · have := own_pow_half g1; omega
  -- the level
  obtain ⟨lv, v1, ⟨v2, v3⟩, v4⟩ := own_nlzP (h + 1) (by omega)
  have l31 : (31 : Int32).toInt = 31 := rfl
  have l1 : (1 : Int32).toInt = 1 := rfl
  have elv : (own_level h).toInt = lv := by
    unfold own_level
    have e : ((31 : Int32) - own_nlz (h + 1)).toInt = (31 : Int32).toInt - (own_nlz (h + 1)).toInt := Jvm.Kit.i32_sub (by omega) (by omega)
    omega
  have hlD : lv ≤ D := by
    refine Nat.le_of_not_lt fun z => ?_
    have : (2 : Int) ^ (D + 1) ≤ 2 ^ lv := own_pow_le z
    rw [Int.pow_succ] at this
    omega
  have plv := own_pow_pos lv
  have plv2 : (2 : Int) ^ lv ≤ 2 ^ D := own_pow_le hlD
  -- what is below
  obtain ⟨B, rfl⟩ : ∃ B, D = lv + B := ⟨D - lv, by omega⟩
  have pB := own_pow_pos B
  have eB : (own_depth n - own_level h).toInt = (B : Int) := by
    have e : (own_depth n - own_level h).toInt = (own_depth n).toInt - (own_level h).toInt := Jvm.Kit.i32_sub (by omega) (by omega)
    omega
  have epow : (2 : Int) ^ (lv + B) = 2 ^ lv * 2 ^ B := Int.pow_add ..
  have eone := own_one (own_level h) elv (by omega)
  have e1 : (h + 1 - ((1 : Int32) <<< ((own_level h) &&& 31))).toInt = (h + 1).toInt - ((1 : Int32) <<< ((own_level h) &&& 31)).toInt := Jvm.Kit.i32_sub (by omega) (by omega)
  rw [Int.pow_succ] at v3
  generalize hA' : (h + 1).toInt = A at *
  have m1 : A * 2 ^ B < 2 * 2 ^ (lv + B) := by
    rw [epow, ← Int.mul_assoc, Int.mul_comm 2]
    exact Int.mul_lt_mul_of_pos_right v3 pB
  have m2 : 2 ^ (lv + B) ≤ A * 2 ^ B := by
    rw [epow]
    exact Int.mul_le_mul_of_nonneg_right v2 (Int.le_of_lt pB)
  have eslot : (own_slot (own_depth n) h).toInt = A * 2 ^ B - 2 ^ (lv + B) := by
    unfold own_slot
    have s := own_shl (h + 1 - ((1 : Int32) <<< ((own_level h) &&& 31))) (own_depth n - own_level h) eB (by omega) (by rw [e1, eone, Int.sub_mul, ← epow]; omega) (by rw [e1, eone, Int.sub_mul, ← epow]; omega)
    rw [s, e1, eone, Int.sub_mul, ← epow]
  -- the other side
  have eq1 : (x / (h + 1)).toInt = x.toInt / A := by
    rw [Jvm.Kit.i32_div (by omega), hA', Int.tdiv_eq_ediv_of_nonneg (by omega)]
  have hApos : 0 < A := by omega
  have hq1 : 1 ≤ (x / (h + 1)).toInt := by
    rw [eq1]
    exact (Int.le_ediv_iff_mul_le hApos).mpr (by omega)
  obtain ⟨g, g1, g2⟩ := own_log2P (x / (h + 1)) hq1
  rw [eq1] at g1
  apply Int32.toInt_inj.mp
  rw [g2]
  unfold own_height
  generalize hdee : (((2 : Int32) * n) - ((1 : Int32) <<< ((own_depth n) &&& 31))) = dee at *
  by_cases c : A * 2 ^ B < 2 * n.toInt
  · rw [if_pos (by rw [Int32.lt_iff_toInt_lt, eslot, ee]; omega), eB]
    have u : own_Log (x.toInt / A) B := by
      constructor
      · exact (Int.le_ediv_iff_mul_le hApos).mpr (by rw [Int.mul_comm]; omega)
      · refine (Int.ediv_lt_iff_lt_mul hApos).mpr ?_
        rw [Int.pow_succ, Int.mul_comm (2 ^ B * 2), Int.mul_comm (2 ^ B) 2, Int.mul_left_comm]
        omega
    rw [own_log_unique g1 u]
  · rw [if_neg (by rw [Int32.lt_iff_toInt_lt, eslot, ee]; omega)]
    have hB : 1 ≤ B := by
      refine Nat.pos_of_ne_zero fun z => ?_
      subst z
      rw [Int.pow_zero, Int.mul_one] at c
      omega
    have e2 : (own_depth n - own_level h - 1).toInt = (own_depth n - own_level h).toInt - (1 : Int32).toInt := Jvm.Kit.i32_sub (by omega) (by omega)
    have ph := own_pow_half hB
    have u : own_Log (x.toInt / A) (B - 1) := by
      constructor
      · refine (Int.le_ediv_iff_mul_le hApos).mpr ?_
        rw [ph, Int.mul_left_comm] at m1
        rw [Int.mul_comm]
        omega
      · refine (Int.ediv_lt_iff_lt_mul hApos).mpr ?_
        rw [show B - 1 + 1 = B by omega, Int.mul_comm]
        omega
    rw [own_log_unique g1 u]
    omega
theorem own_pd1 : parseMethodDescriptor "(I)V" = some ⟨[.int], none⟩ := by decide +kernel
theorem own_ef_rm0 (m : MethodId) (x0 : Int32) (x1 : Int32) : entryFrame m #[(.int x0), (.int x1)] maxLocals = mkF m 0 #[.val (.int x0), .val (.int x1), .unset, .unset, .unset, .unset, .unset] [] := by first | (simp [entryFrame, mkF, argsToLocals, Value.category, maxLocals]; done) | rfl
def own_Q_rm0 (Z : State) (p0 : Int32) (p1 : Int32) (h0 : Heap) (n0 : Nat) (v : Option Value) (h : Heap) (L : List Loc) : Prop := v = some (.int 1) ∧ Fr n0 L
set_option maxRecDepth 65536 in
set_option maxHeartbeats 40000000 in
theorem rm0 (l : Launch) (Z : State) (a0 : Array Value) (hw : ∀ d ∈ tables_1, d.before a0 Z = true) (ws : List Jvm.Cond) (p0 : Int32) (p1 : Int32) (h0 : Heap) (n0 : Nat) (Z0 : n0 ≤ h0.size) :
    MetFree l x (head1 (Jvm.Cond.code x code maxLocals ret :: ws) room_1) (fun a U => a = #[(.int p0), (.int p1)] ∧ Z.Warmed39 U.vm ∧ U.heap = h0) (fun _ _ _ _ _ => True) (fun _ U o U' => ∃ v L, o = .returned v ∧ (own_Q_rm0 Z p0 p1 h0 n0) v U'.heap L ∧ FrameEnd U o U' L 16 128) := by
  refine MetFree.of_bodySF (plainFor_of_name own_pn2) hisR ?_
  intro p e s m args below meth c s₁ Bd hml0 hP hK
  obtain ⟨rfl, hZ, hh⟩ := hP
  have hx := Bd.exec
  have hby := Bd.bytes
  have hml : c.maxLocals = 7 := hml0
  have hown : s.vm.findClass "com/example/cardea/cardea/scheme/BinaryTreeHeightPinLaw" = some m.cls := findClass_of_methodNamed Bd.named
  have hnm := (name_of_methodNamed Bd.named Bd.method).1
  have hlk : meth.locks = false := BodyLoose.notSynchronized Bd
  have X0 : Stand p l e room_1 s m #[(.int p0), (.int p1)] below meth c s₁ [] 0 0 := Stand.of_body Bd
  have e0 : s₁.heap = h0 := by rw [← hh, Bd.state]; rfl
  have N0 := Fr.nil n0
  show own_Ends p e below (own_Fin s (own_Q_rm0 Z p0 p1 h0 n0) 16 128) _
  refine own_pre (fun t k => castTop (own_ef_rm0 m p0 p1) k) ?_
  show own_Ends _ _ _ _ (s₁.setTop (mkF m 0 #[.val (.int p0), .val (.int p1), .unset, .unset, .unset, .unset, .unset] []))
  refine own_pre (fun t k => XS.iconst X0.here hx rfl (hb hby at_0) k) ?_
  show own_Ends _ _ _ _ (s₁.setTop (mkF m 1 #[.val (.int p0), .val (.int p1), .unset, .unset, .unset, .unset, .unset] [(.int (1 : Int32))]))
  refine own_pre (fun t k => XS.iloadN X0.here hx rfl (hb hby at_1) rfl k) ?_
  show own_Ends _ _ _ _ (s₁.setTop (mkF m 2 #[.val (.int p0), .val (.int p1), .unset, .unset, .unset, .unset, .unset] [(.int p0), (.int (1 : Int32))]))
  refine own_pre (fun t k => X0.ldcInt hx hown (mvT hZ (hw _ (List.mem_of_getElem? (i := 0) rfl))) (g := (mkF m 2 #[.val (.int p0), .val (.int p1), .unset, .unset, .unset, .unset, .unset] [(.int p0), (.int (1 : Int32))])) rfl (hb hby at_2) _ k) ?_
  show own_Ends _ _ _ _ (s₁.setTop (mkF m 4 #[.val (.int p0), .val (.int p1), .unset, .unset, .unset, .unset, .unset] [(.int (536870911 : Int32)), (.int p0), (.int (1 : Int32))]))
  refine own_pre (fun t k => XS.iand X0.here hx rfl (hb hby at_4) rfl k) ?_
  show own_Ends _ _ _ _ (s₁.setTop (mkF m 5 #[.val (.int p0), .val (.int p1), .unset, .unset, .unset, .unset, .unset] [(.int (p0 &&& (536870911 : Int32))), (.int (1 : Int32))]))
  refine own_pre (fun t k => XS.iadd X0.here hx rfl (hb hby at_5) rfl k) ?_
  show own_Ends _ _ _ _ (s₁.setTop (mkF m 6 #[.val (.int p0), .val (.int p1), .unset, .unset, .unset, .unset, .unset] [(.int ((1 : Int32) + (p0 &&& (536870911 : Int32))))]))
  refine own_pre (fun t k => XS.istoreN X0.here hx rfl (hb hby at_6) rfl (l' := #[.val (.int p0), .val (.int p1), .val (.int ((1 : Int32) + (p0 &&& (536870911 : Int32)))), .unset, .unset, .unset, .unset]) rfl k) ?_
  show own_Ends _ _ _ _ (s₁.setTop (mkF m 7 #[.val (.int p0), .val (.int p1), .val (.int ((1 : Int32) + (p0 &&& (536870911 : Int32)))), .unset, .unset, .unset, .unset] []))
  generalize hx2 : ((1 : Int32) + (p0 &&& (536870911 : Int32))) = x2
  show own_Ends _ _ _ _ (s₁.setTop (mkF m 7 #[.val (.int p0), .val (.int p1), .val (.int x2), .unset, .unset, .unset, .unset] []))
  refine own_pre (fun t k => XS.iconst X0.here hx rfl (hb hby at_7) k) ?_
  show own_Ends _ _ _ _ (s₁.setTop (mkF m 8 #[.val (.int p0), .val (.int p1), .val (.int x2), .unset, .unset, .unset, .unset] [(.int (2 : Int32))]))
  refine own_pre (fun t k => XS.iloadN X0.here hx rfl (hb hby at_8) rfl k) ?_
  show own_Ends _ _ _ _ (s₁.setTop (mkF m 9 #[.val (.int p0), .val (.int p1), .val (.int x2), .unset, .unset, .unset, .unset] [(.int x2), (.int (2 : Int32))]))
  refine own_pre (fun t k => XS.imul X0.here hx rfl (hb hby at_9) rfl k) ?_
  show own_Ends _ _ _ _ (s₁.setTop (mkF m 10 #[.val (.int p0), .val (.int p1), .val (.int x2), .unset, .unset, .unset, .unset] [(.int ((2 : Int32) * x2))]))
  refine own_pre (fun t k => XS.iconst X0.here hx rfl (hb hby at_10) k) ?_
  show own_Ends _ _ _ _ (s₁.setTop (mkF m 11 #[.val (.int p0), .val (.int p1), .val (.int x2), .unset, .unset, .unset, .unset] [(.int (1 : Int32)), (.int ((2 : Int32) * x2))]))
  refine own_pre (fun t k => XS.isub X0.here hx rfl (hb hby at_11) rfl k) ?_
  show own_Ends _ _ _ _ (s₁.setTop (mkF m 12 #[.val (.int p0), .val (.int p1), .val (.int x2), .unset, .unset, .unset, .unset] [(.int (((2 : Int32) * x2) - (1 : Int32)))]))
  refine own_pre (fun t k => XS.istoreN X0.here hx rfl (hb hby at_12) rfl (l' := #[.val (.int p0), .val (.int p1), .val (.int x2), .val (.int (((2 : Int32) * x2) - (1 : Int32))), .unset, .unset, .unset]) rfl k) ?_
  show own_Ends _ _ _ _ (s₁.setTop (mkF m 13 #[.val (.int p0), .val (.int p1), .val (.int x2), .val (.int (((2 : Int32) * x2) - (1 : Int32))), .unset, .unset, .unset] []))
  generalize hx3 : (((2 : Int32) * x2) - (1 : Int32)) = x3
  show own_Ends _ _ _ _ (s₁.setTop (mkF m 13 #[.val (.int p0), .val (.int p1), .val (.int x2), .val (.int x3), .unset, .unset, .unset] []))
  refine own_pre (fun t k => XS.iloadN X0.here hx rfl (hb hby at_13) rfl k) ?_
  show own_Ends _ _ _ _ (s₁.setTop (mkF m 14 #[.val (.int p0), .val (.int p1), .val (.int x2), .val (.int x3), .unset, .unset, .unset] [(.int p1)]))
  refine own_pre (fun t k => X0.ldcInt hx hown (mvT hZ (hw _ (List.mem_of_getElem? (i := 1) rfl))) (g := (mkF m 14 #[.val (.int p0), .val (.int p1), .val (.int x2), .val (.int x3), .unset, .unset, .unset] [(.int p1)])) rfl (hb hby at_14) _ k) ?_
  show own_Ends _ _ _ _ (s₁.setTop (mkF m 16 #[.val (.int p0), .val (.int p1), .val (.int x2), .val (.int x3), .unset, .unset, .unset] [(.int (2147483647 : Int32)), (.int p1)]))
  refine own_pre (fun t k => XS.iand X0.here hx rfl (hb hby at_16) rfl k) ?_
  show own_Ends _ _ _ _ (s₁.setTop (mkF m 17 #[.val (.int p0), .val (.int p1), .val (.int x2), .val (.int x3), .unset, .unset, .unset] [(.int (p1 &&& (2147483647 : Int32)))]))
  refine own_pre (fun t k => XS.iloadN X0.here hx rfl (hb hby at_17) rfl k) ?_
  show own_Ends _ _ _ _ (s₁.setTop (mkF m 18 #[.val (.int p0), .val (.int p1), .val (.int x2), .val (.int x3), .unset, .unset, .unset] [(.int x3), (.int (p1 &&& (2147483647 : Int32)))]))
  refine own_pre (fun t k => iremM X0 hx rfl (hb hby at_18) rfl (own_nz (by have := own_n hx2; have := own_nodes (own_n hx2) hx3; omega)) k) ?_
  show own_Ends _ _ _ _ (s₁.setTop (mkF m 19 #[.val (.int p0), .val (.int p1), .val (.int x2), .val (.int x3), .unset, .unset, .unset] [(.int ((p1 &&& (2147483647 : Int32)) % x3))]))
  refine own_pre (fun t k => XS.istore X0.here hx rfl (hb hby at_19) rfl (l' := #[.val (.int p0), .val (.int p1), .val (.int x2), .val (.int x3), .val (.int ((p1 &&& (2147483647 : Int32)) % x3)), .unset, .unset]) rfl k) ?_
  show own_Ends _ _ _ _ (s₁.setTop (mkF m 21 #[.val (.int p0), .val (.int p1), .val (.int x2), .val (.int x3), .val (.int ((p1 &&& (2147483647 : Int32)) % x3)), .unset, .unset] []))
  generalize hx4 : ((p1 &&& (2147483647 : Int32)) % x3) = x4
  show own_Ends _ _ _ _ (s₁.setTop (mkF m 21 #[.val (.int p0), .val (.int p1), .val (.int x2), .val (.int x3), .val (.int x4), .unset, .unset] []))
  obtain ⟨T36, h36, X36, e36, E36, A36, D36, -, st36⟩ := newO X0 hx hZ hown (hw _ (List.mem_of_getElem? (i := 2) rfl)) (hw _ (List.mem_of_getElem? (i := 3) rfl)) (hw _ (List.mem_of_getElem? (i := 4) rfl)) e0 (g := (mkF m 21 #[.val (.int p0), .val (.int p1), .val (.int x2), .val (.int x3), .val (.int x4), .unset, .unset] [])) rfl (hb hby at_21) (by decide) (by decide)
  obtain ⟨b36, g36⟩ : ∃ z, z = h0.size := ⟨_, rfl⟩
  rw [← g36] at A36 D36 st36
  refine own_pre st36 ?_
  have L37 : n0 ≤ b36 := Nat.le_trans Z0 (Nat.le_of_eq g36.symm)
  have Zn38 : n0 ≤ h36.size := Nat.le_trans Z0 E36.1
  have f39 : Fld Z h36 b36 "com/example/cardea/cardea/scheme/BinaryTree" "depth" "I" (.int (0 : Int32)) := D36 (Or.inr (hw _ (List.mem_of_getElem? (i := 19) rfl))) (ty := .int) (by decide)
  have f40 : Fld Z h36 b36 "com/example/cardea/cardea/scheme/BinaryTree" "deep" "I" (.int (0 : Int32)) := D36 (Or.inr (hw _ (List.mem_of_getElem? (i := 21) rfl))) (ty := .int) (by decide)
  show own_Ends _ _ _ _ (T36.setTop (mkF m 24 #[.val (.int p0), .val (.int p1), .val (.int x2), .val (.int x3), .val (.int x4), .unset, .unset] [(.ref b36)]))
  refine own_pre (fun t k => XS.dup X36.here hx rfl (hb hby at_24) rfl rfl k) ?_
  show own_Ends _ _ _ _ (T36.setTop (mkF m 25 #[.val (.int p0), .val (.int p1), .val (.int x2), .val (.int x3), .val (.int x4), .unset, .unset] [(.ref b36), (.ref b36)]))
  refine own_pre (fun t k => XS.iloadN X36.here hx rfl (hb hby at_25) rfl k) ?_
  show own_Ends _ _ _ _ (T36.setTop (mkF m 26 #[.val (.int p0), .val (.int p1), .val (.int x2), .val (.int x3), .val (.int x4), .unset, .unset] [(.int x2), (.ref b36), (.ref b36)]))
  obtain ⟨_, _, ⟨T41, L41, k41, n41⟩, -, X41, ⟨Lc41, hQ41, l41, y41, z41⟩, st41⟩ := X36.specialBack hx (y := (⟨"com/example/cardea/cardea/scheme/BinaryTree", "<init>", "(I)V"⟩ : MethodName)) rfl hown (mvT hZ (hw _ (List.mem_of_getElem? (i := 5) rfl))) (mvT hZ (hw _ (List.mem_of_getElem? (i := 6) rfl))) (mvT hZ (hw _ (List.mem_of_getElem? (i := 7) rfl))) (by decide) (backOf (W := 1) (rm3 l Z a0 hw [] b36 x2 h36 n0 Zn38 A36 L37 f39 f40) hZ (hw _ (List.mem_of_getElem? (i := 7) rfl)) (hw _ (List.mem_of_getElem? (i := 4) rfl)) (by decide) (by decide)) (g := (mkF m 26 #[.val (.int p0), .val (.int p1), .val (.int x2), .val (.int x3), .val (.int x4), .unset, .unset] [(.int x2), (.ref b36), (.ref b36)])) rfl (by rw [hml]; rfl) (Steps.refl _) (a := b36) (argsL := [(.int x2)]) (rest := [(.ref b36)]) (lenOf own_pd1 rfl) rfl (by show 2 * 0 + _ ≤ _; exact Nat.le_of_eq rfl) (hb hby at_26) (fun _ _ => ⟨rfl, e36, (by decide : 1 + 0 ≤ _), (by decide : 2 + 0 ≤ _)⟩)
  dsimp only [Pt.U, Pt.locs, Pt.cells, Pt.slots] at X41 l41 y41 z41 st41 hQ41
  subst l41 y41 z41
  obtain ⟨rfl, Nq41, Kq41, f42, f43⟩ := hQ41
  have N41 := Fr.app N0 Nq41
  have f44 := A36.keep Kq41
  have Zn41 : n0 ≤ T41.heap.size := Nat.le_trans Zn38 Kq41.1
  refine own_pre (fun t k => st41.trans k) ?_
  show own_Ends _ _ _ _ (T41.setTop (mkF m 29 #[.val (.int p0), .val (.int p1), .val (.int x2), .val (.int x3), .val (.int x4), .unset, .unset] [(.ref b36)]))
  refine own_pre (fun t k => XS.astore X41.here hx rfl (hb hby at_29) rfl rfl (l' := #[.val (.int p0), .val (.int p1), .val (.int x2), .val (.int x3), .val (.int x4), .val (.ref b36), .unset]) rfl k) ?_
  show own_Ends _ _ _ _ (T41.setTop (mkF m 31 #[.val (.int p0), .val (.int p1), .val (.int x2), .val (.int x3), .val (.int x4), .val (.ref b36), .unset] []))
  refine own_pre (fun t k => XS.aload X41.here hx rfl (hb hby at_31) rfl rfl k) ?_
  show own_Ends _ _ _ _ (T41.setTop (mkF m 33 #[.val (.int p0), .val (.int p1), .val (.int x2), .val (.int x3), .val (.int x4), .val (.ref b36), .unset] [(.ref b36)]))
  refine own_pre (fun t k => XS.iload X41.here hx rfl (hb hby at_33) rfl k) ?_
  show own_Ends _ _ _ _ (T41.setTop (mkF m 35 #[.val (.int p0), .val (.int p1), .val (.int x2), .val (.int x3), .val (.int x4), .val (.ref b36), .unset] [(.int x4), (.ref b36)]))
  obtain ⟨cq45, kq45, q45a, q45b, q45c⟩ := isOf hZ rfl f44
  obtain ⟨_, _, ⟨T45, L45, k45, n45⟩, -, X45, ⟨Lc45, hQ45, l45, y45, z45⟩, st45⟩ := X41.virtualBack hx (y := (⟨"com/example/cardea/cardea/scheme/BinaryTree", "height", "(I)I"⟩ : MethodName)) (z := (⟨"com/example/cardea/cardea/scheme/BinaryTree", "height", "(I)I"⟩ : MethodName)) hown (mvT hZ (hw _ (List.mem_of_getElem? (i := 22) rfl))) (mvT hZ (hw _ (List.mem_of_getElem? (i := 23) rfl))) (notFace_of_selects (args := #[]) (mvT hZ (hw _ (List.mem_of_getElem? (i := 25) rfl)))) (mvT hZ (hw _ (List.mem_of_getElem? (i := 25) rfl))) (mvT hZ (hw _ (List.mem_of_getElem? (i := 24) rfl))) (by decide) (backOf (W := 0) (rm6 l Z a0 hw [] b36 x4 (own_depth x2) (((2 : Int32) * x2) - ((1 : Int32) <<< ((own_depth x2) &&& 31))) T41.heap n0 Zn41 f42 f43 f44) hZ (hw _ (List.mem_of_getElem? (i := 26) rfl)) (hw _ (List.mem_of_getElem? (i := 4) rfl)) (by decide) (by decide)) q45a q45c (g := (mkF m 35 #[.val (.int p0), .val (.int p1), .val (.int x2), .val (.int x3), .val (.int x4), .val (.ref b36), .unset] [(.int x4), (.ref b36)])) rfl (by rw [hml]; rfl) (Steps.refl _) (argsL := [(.int x4)]) (rest := []) (lenOf own_pd0 rfl) rfl (by show 2 * 0 + _ ≤ _; exact Nat.le_of_eq rfl) (hb hby at_35) (fun _ _ => ⟨rfl, rfl, (by decide : 1 + 0 ≤ _), (by decide : 2 + 0 ≤ _)⟩)
  dsimp only [Pt.U, Pt.locs, Pt.cells, Pt.slots] at X45 l45 y45 z45 st45 hQ45
  subst l45 y45 z45
  obtain ⟨rfl, Nq45, e45⟩ := hQ45
  have N45 := Fr.app N41 Nq45
  refine own_pre (fun t k => st45.trans k) ?_
  show own_Ends _ _ _ _ (T45.setTop (mkF m 38 #[.val (.int p0), .val (.int p1), .val (.int x2), .val (.int x3), .val (.int x4), .val (.ref b36), .unset] [(.int (own_height (own_depth x2) (((2 : Int32) * x2) - ((1 : Int32) <<< ((own_depth x2) &&& 31))) x4))]))
  refine own_pre (fun t k => XS.istore X45.here hx rfl (hb hby at_38) rfl (l' := #[.val (.int p0), .val (.int p1), .val (.int x2), .val (.int x3), .val (.int x4), .val (.ref b36), .val (.int (own_height (own_depth x2) (((2 : Int32) * x2) - ((1 : Int32) <<< ((own_depth x2) &&& 31))) x4))]) rfl k) ?_
  show own_Ends _ _ _ _ (T45.setTop (mkF m 40 #[.val (.int p0), .val (.int p1), .val (.int x2), .val (.int x3), .val (.int x4), .val (.ref b36), .val (.int (own_height (own_depth x2) (((2 : Int32) * x2) - ((1 : Int32) <<< ((own_depth x2) &&& 31))) x4))] []))
  refine own_pre (fun t k => XS.iload X45.here hx rfl (hb hby at_40) rfl k) ?_
  show own_Ends _ _ _ _ (T45.setTop (mkF m 42 #[.val (.int p0), .val (.int p1), .val (.int x2), .val (.int x3), .val (.int x4), .val (.ref b36), .val (.int (own_height (own_depth x2) (((2 : Int32) * x2) - ((1 : Int32) <<< ((own_depth x2) &&& 31))) x4))] [(.int (own_height (own_depth x2) (((2 : Int32) * x2) - ((1 : Int32) <<< ((own_depth x2) &&& 31))) x4))]))
  refine own_pre (fun t k => XS.iloadN X45.here hx rfl (hb hby at_42) rfl k) ?_
  show own_Ends _ _ _ _ (T45.setTop (mkF m 43 #[.val (.int p0), .val (.int p1), .val (.int x2), .val (.int x3), .val (.int x4), .val (.ref b36), .val (.int (own_height (own_depth x2) (((2 : Int32) * x2) - ((1 : Int32) <<< ((own_depth x2) &&& 31))) x4))] [(.int x3), (.int (own_height (own_depth x2) (((2 : Int32) * x2) - ((1 : Int32) <<< ((own_depth x2) &&& 31))) x4))]))
  refine own_pre (fun t k => XS.iload X45.here hx rfl (hb hby at_43) rfl k) ?_
  show own_Ends _ _ _ _ (T45.setTop (mkF m 45 #[.val (.int p0), .val (.int p1), .val (.int x2), .val (.int x3), .val (.int x4), .val (.ref b36), .val (.int (own_height (own_depth x2) (((2 : Int32) * x2) - ((1 : Int32) <<< ((own_depth x2) &&& 31))) x4))] [(.int x4), (.int x3), (.int (own_height (own_depth x2) (((2 : Int32) * x2) - ((1 : Int32) <<< ((own_depth x2) &&& 31))) x4))]))
  refine own_pre (fun t k => XS.iconst X45.here hx rfl (hb hby at_45) k) ?_
  show own_Ends _ _ _ _ (T45.setTop (mkF m 46 #[.val (.int p0), .val (.int p1), .val (.int x2), .val (.int x3), .val (.int x4), .val (.ref b36), .val (.int (own_height (own_depth x2) (((2 : Int32) * x2) - ((1 : Int32) <<< ((own_depth x2) &&& 31))) x4))] [(.int (1 : Int32)), (.int x4), (.int x3), (.int (own_height (own_depth x2) (((2 : Int32) * x2) - ((1 : Int32) <<< ((own_depth x2) &&& 31))) x4))]))
  refine own_pre (fun t k => XS.iadd X45.here hx rfl (hb hby at_46) rfl k) ?_
  show own_Ends _ _ _ _ (T45.setTop (mkF m 47 #[.val (.int p0), .val (.int p1), .val (.int x2), .val (.int x3), .val (.int x4), .val (.ref b36), .val (.int (own_height (own_depth x2) (((2 : Int32) * x2) - ((1 : Int32) <<< ((own_depth x2) &&& 31))) x4))] [(.int (x4 + (1 : Int32))), (.int x3), (.int (own_height (own_depth x2) (((2 : Int32) * x2) - ((1 : Int32) <<< ((own_depth x2) &&& 31))) x4))]))
  refine own_pre (fun t k => XS.idiv X45.here hx rfl (hb hby at_47) rfl (own_nz (by have a := own_nodes (own_n hx2) hx3; have b := own_n hx2; have c := own_remB hx4 (by omega); have d := own_plus c (by omega); omega)) k) ?_
  show own_Ends _ _ _ _ (T45.setTop (mkF m 48 #[.val (.int p0), .val (.int p1), .val (.int x2), .val (.int x3), .val (.int x4), .val (.ref b36), .val (.int (own_height (own_depth x2) (((2 : Int32) * x2) - ((1 : Int32) <<< ((own_depth x2) &&& 31))) x4))] [(.int (x3 / (x4 + (1 : Int32)))), (.int (own_height (own_depth x2) (((2 : Int32) * x2) - ((1 : Int32) <<< ((own_depth x2) &&& 31))) x4))]))
  obtain ⟨_, _, ⟨T46, L46, k46, n46⟩, -, X46, ⟨Lc46, hQ46, l46, y46, z46⟩, st46⟩ := Jvm.LawKit.callS X45 hx (y := (⟨"com/example/cardea/cardea/scheme/BinaryTreeHeightPinLaw", "log2", "(I)I"⟩ : MethodName)) hown (mvT hZ (hw _ (List.mem_of_getElem? (i := 35) rfl))) (mvT hZ (hw _ (List.mem_of_getElem? (i := 36) rfl))) (mvT hZ (hw _ (List.mem_of_getElem? (i := 37) rfl))) (mvT hZ (hw _ (List.mem_of_getElem? (i := 38) rfl))) (by decide) (backOf (W := 1) (rm7 l Z a0 hw [] (x3 / (x4 + (1 : Int32))) T41.heap n0 Zn41) hZ (hw _ (List.mem_of_getElem? (i := 38) rfl)) (hw _ (List.mem_of_getElem? (i := 37) rfl)) (by decide) (by decide)) (g := (mkF m 48 #[.val (.int p0), .val (.int p1), .val (.int x2), .val (.int x3), .val (.int x4), .val (.ref b36), .val (.int (own_height (own_depth x2) (((2 : Int32) * x2) - ((1 : Int32) <<< ((own_depth x2) &&& 31))) x4))] [(.int (x3 / (x4 + (1 : Int32)))), (.int (own_height (own_depth x2) (((2 : Int32) * x2) - ((1 : Int32) <<< ((own_depth x2) &&& 31))) x4))])) rfl (by rw [hml]; rfl) (argsL := [(.int (x3 / (x4 + (1 : Int32))))]) (rest := [(.int (own_height (own_depth x2) (((2 : Int32) * x2) - ((1 : Int32) <<< ((own_depth x2) &&& 31))) x4))]) (lenOf own_pd0 rfl) rfl (by show 2 * 0 + _ ≤ _; exact Nat.le_of_eq rfl) (hb hby at_48) (fun _ _ => ⟨rfl, e45, (by decide : 1 + 0 ≤ _), (by decide : 2 + 0 ≤ _)⟩)
  dsimp only [Pt.U, Pt.locs, Pt.cells, Pt.slots] at X46 l46 y46 z46 st46 hQ46
  subst l46 y46 z46
  obtain ⟨rfl, Nq46, e46⟩ := hQ46
  have N46 := Fr.app N45 Nq46
  refine own_pre st46 ?_
  show own_Ends _ _ _ _ (T46.setTop (mkF m 51 #[.val (.int p0), .val (.int p1), .val (.int x2), .val (.int x3), .val (.int x4), .val (.ref b36), .val (.int (own_height (own_depth x2) (((2 : Int32) * x2) - ((1 : Int32) <<< ((own_depth x2) &&& 31))) x4))] [(.int (own_log2 (x3 / (x4 + (1 : Int32))))), (.int (own_height (own_depth x2) (((2 : Int32) * x2) - ((1 : Int32) <<< ((own_depth x2) &&& 31))) x4))]))
  refine own_pre (fun t k => XS.icmpNo X46.here hx rfl (hb hby at_51) rfl (teq (own_main (own_n hx2) (own_nodes (own_n hx2) hx3) (own_remB hx4 (by have a := own_nodes (own_n hx2) hx3; have b := own_n hx2; omega)) : (own_height (own_depth x2) (((2 : Int32) * x2) - ((1 : Int32) <<< ((own_depth x2) &&& 31))) x4) = (own_log2 (x3 / (x4 + (1 : Int32)))))).2 k) ?_
  show own_Ends _ _ _ _ (T46.setTop (mkF m 54 #[.val (.int p0), .val (.int p1), .val (.int x2), .val (.int x3), .val (.int x4), .val (.ref b36), .val (.int (own_height (own_depth x2) (((2 : Int32) * x2) - ((1 : Int32) <<< ((own_depth x2) &&& 31))) x4))] []))
  refine own_pre (fun t k => XS.iconst X46.here hx rfl (hb hby at_54) k) ?_
  show own_Ends _ _ _ _ (T46.setTop (mkF m 55 #[.val (.int p0), .val (.int p1), .val (.int x2), .val (.int x3), .val (.int x4), .val (.ref b36), .val (.int (own_height (own_depth x2) (((2 : Int32) * x2) - ((1 : Int32) <<< ((own_depth x2) &&& 31))) x4))] [(.int (1 : Int32))]))
  refine own_pre (fun t k => XS.goto X46.here hx rfl (pc0 := 55) (pc' := 59) rfl (hb hby at_55) (by decide) (by decide) k) ?_
  show own_Ends _ _ _ _ (T46.setTop (mkF m 59 #[.val (.int p0), .val (.int p1), .val (.int x2), .val (.int x3), .val (.int x4), .val (.ref b36), .val (.int (own_height (own_depth x2) (((2 : Int32) * x2) - ((1 : Int32) <<< ((own_depth x2) &&& 31))) x4))] [(.int (1 : Int32))]))
  exact own_retN X46 hx (t := .boolean) Bd.returns (by simp) (hb hby at_59) hlk rfl e46 ⟨rfl, N46⟩ (by decide) (by decide)
set_option maxRecDepth 65536 in
set_option maxHeartbeats 40000000 in
theorem own_comes {Post : Tables → Env → Array Value → State → Outcome → State → Prop} (hpost : ∀ tb e args s v u, (limb_1_1.after args s (.returned v) u = true ∧ limb_1_2.after args s (.returned v) u = true ∧ True) → FrameEnd s (.returned v) u (Jvm.fieldLocs frame_1_writes args s ++ Jvm.arrayLocs frame_1_arrays args s ++ Jvm.staticLocs frame_1_statics s) 16 128 → Post tb e args s (.returned v) u) :
    ArmFor flags0 classFile x code maxLocals ret World_1 tables_1 room_1 Calls_1 rest_1 Pre_1 Post := by
  intro l hfl _ _ p e ha hc hk s m args below hf hA hF happ hP
  obtain ⟨hcalls, hrest, hpre⟩ := hP
  obtain ⟨-, -, -, hnamed, -, -, -, hat⟩ := (Spec.applies_iff hf).mp happ
  obtain ⟨hg, hn⟩ := and_e (Cond.before_iff.mp (show (Jvm.Cond.and given_1 narrow_1).before args s = true from hpre))
  obtain ⟨hcount, g0⟩ := and_e hg
  obtain ⟨hk0, g1⟩ := and_e g0
  obtain ⟨w0, w1, rfl⟩ : ∃ w0 w1 : Value, args = #[w0, w1] := by
    have hs : args.size = 2 := by simpa [Cond.value, given_1] using hcount
    obtain ⟨L⟩ := args
    match L, hs with
    | [w0, w1], _ => exact ⟨w0, w1, rfl⟩
  have hw := fun d (hd : d ∈ tables_1) => atoms_spec (ws := Jvm.Cond.code x code maxLocals ret :: tables_1) hat d (List.mem_cons_of_mem _ hd)
  have hfit : Fit s := fun {y c} hc i hi => by
    obtain ⟨ha, rfl⟩ := Array.getElem?_eq_some_iff.mp hc
    have q := List.all_eq_true.mp ((Array.all_eq_true_iff_forall_mem.mp hF) _ (Array.getElem_mem ha)) i (List.mem_range.mpr hi)
    simpa [Array.getElem?_eq_getElem hi] using q
  obtain ⟨i0, ei0⟩ := is_v hk0
  obtain rfl : w0 = (.int i0) := Option.some.inj ei0
  obtain ⟨i1, ei1⟩ := is_v g1
  obtain rfl : w1 = (.int i1) := Option.some.inj ei1
  obtain ⟨n, o, h1, h2, h3, _, L, rfl, ⟨rfl, N⟩, hq⟩ := rm0 l s _ hw tables_1 i0 i1 s.heap s.heap.size (Nat.le_refl _)  p e ha hc hk s m _ below hf ((Spec.applies_iff_loose hf).mp happ).1 ⟨rfl, State.Warmed39.refl s, rfl⟩ trivial
  refine ⟨n, _, h1, h2, h3, hpost _ _ _ _ _ _ ⟨Cond.after_iff.mpr rfl, Cond.after_iff.mpr (eq_i res_at (Term.int_eval (1)) rfl), trivial⟩ ⟨hq.1, hq.2.1, (hq.2.2.sift fun y hy => Or.inr (N y hy)).mono (by decide) (by decide)⟩⟩
theorem main_1_1 : Claimed_1_1 := own_comes fun _ _ _ _ _ _ h hF => ⟨h.1, hF⟩
theorem main_1_2 : Claimed_1_2 := own_comes fun _ _ _ _ _ _ h hF => ⟨h.2.1, hF⟩
end Jvm.Pilot.@@N@@
namespace Jvm.Pilot.@@N@@
open Jvm Jvm.ClassFile Sem Op Lib Jvm.Free Jvm.Stand Jvm.Pilot.@@N@@.Jvm.D
/-! MADE BY PROGRAM (witnessworld.py) out of the Statement's table words and the real class files: 14 classes; the members and pool entries that the words name. The judged class is class 1, her method 1. -/
namespace start1
open Jvm.ClassFile
def u (s : String) : CpInfo := .utf8 (stringToUtf16 s)
/-- a pool by its gaps: so many unusable entries, then the entry; so many at the end -/
def gap : Nat → List CpInfo → List CpInfo
  | 0, r => r
  | n + 1, r => .unusable :: gap n r
def poolList (es : List (Nat × CpInfo)) (last : Nat) : List CpInfo := es.foldr (fun e r => gap e.1 (e.2 :: r)) (gap last [])
def pool (es : List (Nat × CpInfo)) (last : Nat) : Array CpInfo := ⟨poolList es last⟩
def fileOf (pool : Array CpInfo) (this : Nat) (attrs : Array Attribute := #[]) (ms : Array MethodInfo := #[]) (fl : Nat := 33) (sup : Nat := 0) (ifs : Array Nat := #[]) (fds : Array FieldInfo := #[]) : ClassFile where
  minorVersion := 0
  majorVersion := 65
  constantPool := pool
  accessFlags := fl
  thisClass := this
  superClass := sup
  interfaces := ifs
  fields := fds
  methods := ms
  attributes := attrs
def plain (name : String) (sup : Option ClassId) : Class where
  name := name
  kind := .ordinary
  loader := none
  accessFlags := 33
  super := sup
  interfaces := #[]
  cf := none
  fields := #[]
  methods := #[]
  instanceTypes := #[]
  staticTypes := #[]
  resolved := #[]
  callSites := []
  init := .initialized
  statics := none
  mirror := none

def pool0 : Array CpInfo := pool [(5, u "<init>"), (0, u "()V"), (1, .class_ 10), (1, u "java/lang/Object")] 113

def k0c0 : Code := { maxStack := 0, maxLocals := 1, code := object_method_1_code, exceptionTable := #[], attributes := #[] }
def k0m0 : Method := { name := "<init>", desc := "()V", sig := { parameters := [], returnType := none }, accessFlags := 1, code := some k0c0 }
/-- java/lang/Object -/
def k0 : Class := { plain "java/lang/Object" none with
  accessFlags := 33
  interfaces := #[]
  cf := some (fileOf pool0 8 #[] #[{ accessFlags := 1, nameIndex := 5, descriptorIndex := 6, attributes := #[] }] 33 0 #[] #[])
  fields := #[]
  methods := #[k0m0]
  instanceTypes := #[]
  staticTypes := #[]
  resolved := Array.replicate 124 none
  statics := none }

def pool1 : Array CpInfo := pool [(2, .class_ 4), (1, u "java/lang/Object"), (0, u "<init>"), (0, u "()V"), (0, .integer 536870911), (0, .integer 2147483647), (0, .class_ 10), (0, u "com/example/cardea/cardea/scheme/BinaryTree"), (0, .methodref 9 12), (0, .nameAndType 5 13), (0, u "(I)V"), (0, .methodref 9 15), (0, .nameAndType 16 17), (0, u "height"), (0, u "(I)I"), (0, .methodref 19 20), (0, .class_ 21), (0, .nameAndType 22 17), (0, u "com/example/cardea/cardea/scheme/BinaryTreeHeightPinLaw"), (0, u "log2"), (0, .integer 65536), (2, u "law"), (0, u "(II)Z")] 3

def k1m0 : Method := { name := "<init>", desc := "()V", sig := { parameters := [], returnType := none }, accessFlags := 1, code := none }
def k1c1 : Code := { maxStack := 4, maxLocals := 7, code := code, exceptionTable := #[], attributes := #[] }
def k1m1 : Method := { name := "law", desc := "(II)Z", sig := { parameters := [.int, .int], returnType := some .boolean }, accessFlags := 9, code := some k1c1 }
def k1c2 : Code := { maxStack := 2, maxLocals := 2, code := method_3_code, exceptionTable := #[], attributes := #[] }
def k1m2 : Method := { name := "log2", desc := "(I)I", sig := { parameters := [.int], returnType := some .int }, accessFlags := 10, code := some k1c2 }
/-- com/example/cardea/cardea/scheme/BinaryTreeHeightPinLaw -/
def k1 : Class := { plain "com/example/cardea/cardea/scheme/BinaryTreeHeightPinLaw" (some 0) with
  accessFlags := 49
  interfaces := #[]
  cf := some (fileOf pool1 19 #[] #[{ accessFlags := 1, nameIndex := 5, descriptorIndex := 6, attributes := #[] }, { accessFlags := 9, nameIndex := 26, descriptorIndex := 27, attributes := #[] }, { accessFlags := 10, nameIndex := 22, descriptorIndex := 17, attributes := #[] }] 49 2 #[] #[])
  fields := #[]
  methods := #[k1m0, k1m1, k1m2]
  instanceTypes := #[]
  staticTypes := #[]
  resolved := Array.replicate 31 none
  statics := none }

def pool2 : Array CpInfo := pool [(1, .methodref 2 3), (0, .class_ 4), (0, .nameAndType 5 6), (0, u "java/lang/Object"), (0, u "<init>"), (0, u "()V"), (0, .methodref 8 9), (0, .class_ 10), (0, .nameAndType 11 12), (0, u "com/example/cardea/cardea/scheme/BinaryTree"), (0, u "depth"), (0, u "(I)I"), (0, .fieldref 8 14), (0, .nameAndType 11 15), (0, u "I"), (0, .fieldref 8 17), (0, .nameAndType 18 15), (0, u "deep"), (2, u "NAME"), (0, u "Ljava/util/regex/Pattern;"), (31, .class_ 56), (1, u "java/lang/Integer"), (1, .methodref 8 59), (0, .nameAndType 60 12), (0, u "level"), (0, .methodref 8 62), (0, .nameAndType 63 12), (0, u "slot"), (39, .methodref 54 104), (0, .nameAndType 105 12), (0, u "numberOfLeadingZeros"), (12, u "MAX_DEPTH"), (6, u "(I)V"), (11, u "height")] 26

def k2c0 : Code := { maxStack := 4, maxLocals := 2, code := prog_15_method_1_code, exceptionTable := #[], attributes := #[] }
def k2m0 : Method := { name := "<init>", desc := "(I)V", sig := { parameters := [.int], returnType := none }, accessFlags := 0, code := some k2c0 }
def k2c1 : Code := { maxStack := 2, maxLocals := 3, code := prog_15_method_6_code, exceptionTable := #[], attributes := #[] }
def k2m1 : Method := { name := "height", desc := "(I)I", sig := { parameters := [.int], returnType := some .int }, accessFlags := 0, code := some k2c1 }
def k2c2 : Code := { maxStack := 3, maxLocals := 3, code := prog_15_method_12_code, exceptionTable := #[], attributes := #[] }
def k2m2 : Method := { name := "slot", desc := "(I)I", sig := { parameters := [.int], returnType := some .int }, accessFlags := 2, code := some k2c2 }
def k2c3 : Code := { maxStack := 3, maxLocals := 1, code := prog_15_method_14_code, exceptionTable := #[], attributes := #[] }
def k2m3 : Method := { name := "level", desc := "(I)I", sig := { parameters := [.int], returnType := some .int }, accessFlags := 10, code := some k2c3 }
def k2c4 : Code := { maxStack := 3, maxLocals := 1, code := prog_15_method_15_code, exceptionTable := #[], attributes := #[] }
def k2m4 : Method := { name := "depth", desc := "(I)I", sig := { parameters := [.int], returnType := some .int }, accessFlags := 10, code := some k2c4 }
/-- com/example/cardea/cardea/scheme/BinaryTree -/
def k2 : Class := { plain "com/example/cardea/cardea/scheme/BinaryTree" (some 0) with
  accessFlags := 32
  interfaces := #[]
  cf := some (fileOf pool2 8 #[] #[{ accessFlags := 0, nameIndex := 5, descriptorIndex := 125, attributes := #[] }, { accessFlags := 0, nameIndex := 137, descriptorIndex := 12, attributes := #[] }, { accessFlags := 2, nameIndex := 63, descriptorIndex := 12, attributes := #[] }, { accessFlags := 10, nameIndex := 60, descriptorIndex := 12, attributes := #[] }, { accessFlags := 10, nameIndex := 11, descriptorIndex := 12, attributes := #[] }] 32 2 #[] #[{ accessFlags := 24, nameIndex := 118, descriptorIndex := 15, attributes := #[] }, { accessFlags := 26, nameIndex := 21, descriptorIndex := 22, attributes := #[] }, { accessFlags := 18, nameIndex := 11, descriptorIndex := 15, attributes := #[] }, { accessFlags := 18, nameIndex := 18, descriptorIndex := 15, attributes := #[] }])
  fields := #[{ name := "MAX_DEPTH", type := .int, accessFlags := 24, slot := 0, constantValue := 0 }, { name := "NAME", type := (.object "java/util/regex/Pattern"), accessFlags := 26, slot := 1, constantValue := 0 }, { name := "depth", type := .int, accessFlags := 18, slot := 0, constantValue := 0 }, { name := "deep", type := .int, accessFlags := 18, slot := 1, constantValue := 0 }]
  methods := #[k2m0, k2m1, k2m2, k2m3, k2m4]
  instanceTypes := #[.int, .int]
  staticTypes := #[.int, (.object "java/util/regex/Pattern")]
  resolved := Array.replicate 164 none
  statics := none }

def pool3 : Array CpInfo := pool [(1, .class_ 2), (0, u "java/io/Serializable"), (0, .class_ 4), (0, u "java/lang/Object")] 2

/-- java/io/Serializable -/
def k3 : Class := { plain "java/io/Serializable" (some 0) with
  accessFlags := 1537
  interfaces := #[]
  cf := some (fileOf pool3 1 #[] #[] 1537 3 #[] #[])
  fields := #[]
  methods := #[]
  instanceTypes := #[]
  staticTypes := #[]
  resolved := Array.replicate 7 none
  statics := none }

def pool4 : Array CpInfo := pool [(2, .class_ 4), (1, u "java/lang/Object"), (0, u "<init>"), (0, u "()V"), (1, .class_ 10), (1, u "java/lang/Number"), (2, .class_ 14), (0, u "java/io/Serializable"), (0, u "serialVersionUID"), (0, u "J")] 20

def k4m0 : Method := { name := "<init>", desc := "()V", sig := { parameters := [], returnType := none }, accessFlags := 1, code := none }
/-- java/lang/Number -/
def k4 : Class := { plain "java/lang/Number" (some 0) with
  accessFlags := 1057
  interfaces := #[3]
  cf := some (fileOf pool4 8 #[] #[{ accessFlags := 1, nameIndex := 5, descriptorIndex := 6, attributes := #[] }] 1057 2 #[13] #[{ accessFlags := 26, nameIndex := 15, descriptorIndex := 16, attributes := #[] }])
  fields := #[{ name := "serialVersionUID", type := .long, accessFlags := 26, slot := 0, constantValue := 0 }]
  methods := #[k4m0]
  instanceTypes := #[]
  staticTypes := #[.long]
  resolved := Array.replicate 37 none
  statics := none }

def pool5 : Array CpInfo := pool [(1, .class_ 2), (0, u "java/lang/Comparable"), (0, .class_ 4), (0, u "java/lang/Object")] 7

/-- java/lang/Comparable -/
def k5 : Class := { plain "java/lang/Comparable" (some 0) with
  accessFlags := 1537
  interfaces := #[]
  cf := some (fileOf pool5 1 #[] #[] 1537 3 #[] #[])
  fields := #[]
  methods := #[]
  instanceTypes := #[]
  staticTypes := #[]
  resolved := Array.replicate 12 none
  statics := none }

def pool6 : Array CpInfo := pool [(1, .class_ 2), (0, u "java/lang/constant/Constable"), (0, .class_ 4), (0, u "java/lang/Object")] 6

/-- java/lang/constant/Constable -/
def k6 : Class := { plain "java/lang/constant/Constable" (some 0) with
  accessFlags := 1537
  interfaces := #[]
  cf := some (fileOf pool6 1 #[] #[] 1537 3 #[] #[])
  fields := #[]
  methods := #[]
  instanceTypes := #[]
  staticTypes := #[]
  resolved := Array.replicate 11 none
  statics := none }

def pool7 : Array CpInfo := pool [(1, .class_ 2), (0, u "java/lang/constant/ConstantDesc"), (0, .class_ 4), (0, u "java/lang/Object")] 32

/-- java/lang/constant/ConstantDesc -/
def k7 : Class := { plain "java/lang/constant/ConstantDesc" (some 0) with
  accessFlags := 1537
  interfaces := #[]
  cf := some (fileOf pool7 1 #[] #[] 1537 3 #[] #[])
  fields := #[]
  methods := #[]
  instanceTypes := #[]
  staticTypes := #[]
  resolved := Array.replicate 37 none
  statics := none }

def pool8 : Array CpInfo := pool [(1, .class_ 2), (0, u "java/lang/Integer"), (16, u "digits"), (0, u "[C"), (32, u "numberOfLeadingZeros"), (0, u "(I)I"), (30, u "DigitOnes"), (0, u "[B"), (2, u "DigitTens"), (99, .class_ 190), (0, u "java/lang/Integer$IntegerCache"), (3, u "I"), (8, .class_ 204), (0, u "java/lang/Number"), (2, u "value"), (56, .integer 65536), (37, u "TYPE"), (0, u "Ljava/lang/Class;"), (0, .class_ 305), (0, u "java/lang/Comparable"), (0, .class_ 307), (0, u "java/lang/constant/Constable"), (0, .class_ 309), (0, u "java/lang/constant/ConstantDesc"), (0, u "MIN_VALUE"), (1, u "MAX_VALUE"), (3, u "SIZE"), (1, u "BYTES"), (1, u "serialVersionUID"), (0, u "J")] 131

def k8c0 : Code := { maxStack := 3, maxLocals := 2, code := jdk_33_method_47_code, exceptionTable := #[], attributes := #[] }
def k8m0 : Method := { name := "numberOfLeadingZeros", desc := "(I)I", sig := { parameters := [.int], returnType := some .int }, accessFlags := 9, code := some k8c0 }
/-- java/lang/Integer -/
def k8 : Class := { plain "java/lang/Integer" (some 4) with
  accessFlags := 49
  interfaces := #[5, 6, 7]
  cf := some (fileOf pool8 1 #[.nestMembers #[189]] #[{ accessFlags := 9, nameIndex := 53, descriptorIndex := 54, attributes := #[] }] 49 203 #[304, 306, 308] #[{ accessFlags := 25, nameIndex := 310, descriptorIndex := 194, attributes := #[] }, { accessFlags := 25, nameIndex := 312, descriptorIndex := 194, attributes := #[] }, { accessFlags := 25, nameIndex := 302, descriptorIndex := 303, attributes := #[] }, { accessFlags := 24, nameIndex := 19, descriptorIndex := 20, attributes := #[] }, { accessFlags := 24, nameIndex := 89, descriptorIndex := 86, attributes := #[] }, { accessFlags := 24, nameIndex := 85, descriptorIndex := 86, attributes := #[] }, { accessFlags := 18, nameIndex := 207, descriptorIndex := 194, attributes := #[] }, { accessFlags := 25, nameIndex := 316, descriptorIndex := 194, attributes := #[] }, { accessFlags := 25, nameIndex := 318, descriptorIndex := 194, attributes := #[] }, { accessFlags := 26, nameIndex := 320, descriptorIndex := 321, attributes := #[] }])
  fields := #[{ name := "MIN_VALUE", type := .int, accessFlags := 25, slot := 0, constantValue := 0 }, { name := "MAX_VALUE", type := .int, accessFlags := 25, slot := 1, constantValue := 0 }, { name := "TYPE", type := (.object "java/lang/Class"), accessFlags := 25, slot := 2, constantValue := 0 }, { name := "digits", type := (.array .char), accessFlags := 24, slot := 3, constantValue := 0 }, { name := "DigitTens", type := (.array .byte), accessFlags := 24, slot := 4, constantValue := 0 }, { name := "DigitOnes", type := (.array .byte), accessFlags := 24, slot := 5, constantValue := 0 }, { name := "value", type := .int, accessFlags := 18, slot := 0, constantValue := 0 }, { name := "SIZE", type := .int, accessFlags := 25, slot := 6, constantValue := 0 }, { name := "BYTES", type := .int, accessFlags := 25, slot := 7, constantValue := 0 }, { name := "serialVersionUID", type := .long, accessFlags := 26, slot := 8, constantValue := 0 }]
  methods := #[k8m0]
  instanceTypes := #[.int]
  staticTypes := #[.int, .int, (.object "java/lang/Class"), (.array .char), (.array .byte), (.array .byte), .int, .int, .long]
  resolved := Array.replicate 453 none
  statics := none }

def pool9 : Array CpInfo := pool [(1, u "java/lang/Cloneable"), (0, .class_ 1), (0, u "java/lang/Object"), (0, .class_ 3)] 3

/-- java/lang/Cloneable -/
def k9 : Class := { plain "java/lang/Cloneable" (some 0) with
  accessFlags := 1537
  interfaces := #[]
  cf := some (fileOf pool9 2 #[] #[] 1537 4 #[] #[])
  fields := #[]
  methods := #[]
  instanceTypes := #[]
  staticTypes := #[]
  resolved := Array.replicate 8 none
  statics := none }

/-- the primitive byte -/
def k10 : Class := { plain "byte" none with kind := .primitive 'B', accessFlags := 0x411 }
/-- [B -/
def k11 : Class := { plain "[B" (some 0) with kind := .array 10 .byte, interfaces := #[9, 3], accessFlags := 1041 }

/-- the primitive int -/
def k12 : Class := { plain "int" none with kind := .primitive 'I', accessFlags := 0x411 }
/-- [I -/
def k13 : Class := { plain "[I" (some 0) with kind := .array 12 .int, interfaces := #[9, 3], accessFlags := 1041 }

def heap : Heap := #[]
def classes : Array Class := #[k0, k1, k2, k3, k4, k5, k6, k7, k8, k9, k10, k11, k12, k13]
def interned : List (Array UInt16 × Addr) := []
def slotsUsed : Nat := 0
def theMethod : MethodId := ⟨1, 1⟩
def args0 : Array Value := #[.int 5, .int 3]
def aboutOver (below : List Frame) : State where
  vm := { classes := classes, interned := interned.toArray }
  heap := heap
  slotsUsed := slotsUsed
  threads := #[{ frames := .invoking theMethod args0 :: below }]
def below0 : List Frame := [.native { method := ⟨0, 0⟩, args := #[] }]
def about1 : State := aboutOver below0
def p0 : Program := .bare "" "" ""
def e0 : Env := launch0.env 0 0 0
theorem w_frames : about1.frames = Frame.invoking theMethod args0 :: below0 := rfl
set_option maxRecDepth 65536 in
theorem w_args : argsFit about1.vm theMethod args0 = true := by decide +kernel
set_option maxRecDepth 65536 in
theorem w_heap : heapFits about1 = true := by decide +kernel
set_option maxRecDepth 65536 in
theorem w_runnable : about1.curStatus? = some .runnable := by decide +kernel
set_option maxRecDepth 65536 in
theorem w_alone : about1.alone = true := by decide +kernel
set_option maxRecDepth 65536 in
theorem w_named : about1.methodNamed? x = some theMethod := by decide +kernel
set_option maxRecDepth 65536 in
theorem w_hears : about1.hears theMethod below0 = true := by decide +kernel
set_option maxRecDepth 65536 in
theorem w_ripe : about1.ripe theMethod args0 below0 = true := by decide +kernel
theorem w_running : about1.status = .running := rfl
set_option maxRecDepth 65536 in
theorem w_room : about1.hasRoom e0.platform room_1 = true :=
  launch0.hasRoom_least _ room_1 (by decide +kernel) (by decide +kernel) (by decide +kernel) (by decide +kernel) (by decide +kernel) (by decide +kernel)
theorem allAtoms_all (ts : List Jvm.Cond) (a : Array Jvm.Value) (st : Jvm.State) : (allAtoms ts).before a st = ts.all (fun c => c.before a st) := by
  induction ts with
  | nil => rfl
  | cons c t ih =>
    show (Jvm.Cond.and c (allAtoms t)).before a st = _
    rw [Jvm.Cond.before_and, ih, List.all_cons]
def words1 : List Jvm.Cond := Jvm.Cond.code x code maxLocals ret :: tables_1
/-- a 'code' word, met by the world's own term for the bytes: nothing is compared byte by byte -/
theorem code_word {y : MethodName} {bytes : ByteArray} {mx : Nat} {rt : Option FieldType} {a : Array Value} {s : State} {m : MethodId} {meth : Method} {c : Code} (h1 : s.methodNamed? y = some m) (h2 : s.vm.method? m = some meth) (h3 : meth.code = some c) (h4 : c.code = bytes)
    (h5 : (c.maxLocals == mx && c.exceptionTable.isEmpty && decide (c.maxStack ≤ mostOperands) && decide (meth.sig.returnType = rt) && !meth.locks && decide (parseMethodDescriptor y.desc = some meth.sig)) = true) : (Jvm.Cond.code y bytes mx rt).before a s = true := by
  simp only [Bool.and_eq_true, beq_iff_eq, Bool.not_eq_true', decide_eq_true_eq] at h5
  obtain ⟨⟨⟨⟨⟨g1, g2⟩, g3⟩, g4⟩, g5⟩, g6⟩ := h5
  simp [Cond.before, Cond.holds, Cond.value, h1, h2, h3, h4, g1, g2, g3, g4, g5, g6]
def isCode : Jvm.Cond → Bool
  | .code _ _ _ _ => true
  | _ => false
theorem all_split {L : List Jvm.Cond} {P : Jvm.Cond → Bool} (h1 : L.all (fun c => isCode c || P c) = true) (h2 : ∀ c ∈ L.filter isCode, P c = true) : L.all P = true := by
  refine List.all_eq_true.mpr fun c hc => ?_
  have h := List.all_eq_true.mp h1 c hc
  rcases Bool.eq_false_or_eq_true (isCode c) with hi | hi
  · exact h2 c (List.mem_filter.mpr ⟨hc, hi⟩)
  · simpa [hi] using h
set_option maxRecDepth 65536 in
theorem w_c0 : (Jvm.Cond.code x code maxLocals ret).before args0 about1 = true := code_word (m := ⟨1, 1⟩) (meth := k1m1) (c := k1c1) (by decide +kernel) rfl rfl rfl (by decide +kernel)
set_option maxRecDepth 65536 in
theorem w_c1 : (Jvm.Cond.code ({ cls := "com/example/cardea/cardea/scheme/BinaryTree", name := "<init>", desc := "(I)V" } : Jvm.MethodName) prog_15_method_1_code (2 : Nat) (Option.none : Option Jvm.ClassFile.FieldType)).before args0 about1 = true := code_word (m := ⟨2, 0⟩) (meth := k2m0) (c := k2c0) (by decide +kernel) rfl rfl rfl (by decide +kernel)
set_option maxRecDepth 65536 in
theorem w_c2 : (Jvm.Cond.code ({ cls := "java/lang/Object", name := "<init>", desc := "()V" } : Jvm.MethodName) object_method_1_code (1 : Nat) (Option.none : Option Jvm.ClassFile.FieldType)).before args0 about1 = true := code_word (m := ⟨0, 0⟩) (meth := k0m0) (c := k0c0) (by decide +kernel) rfl rfl rfl (by decide +kernel)
set_option maxRecDepth 65536 in
theorem w_c3 : (Jvm.Cond.code ({ cls := "com/example/cardea/cardea/scheme/BinaryTree", name := "depth", desc := "(I)I" } : Jvm.MethodName) prog_15_method_15_code (1 : Nat) (Option.some Jvm.ClassFile.FieldType.int)).before args0 about1 = true := code_word (m := ⟨2, 4⟩) (meth := k2m4) (c := k2c4) (by decide +kernel) rfl rfl rfl (by decide +kernel)
set_option maxRecDepth 65536 in
theorem w_c4 : (Jvm.Cond.code ({ cls := "java/lang/Integer", name := "numberOfLeadingZeros", desc := "(I)I" } : Jvm.MethodName) jdk_33_method_47_code (2 : Nat) (Option.some Jvm.ClassFile.FieldType.int)).before args0 about1 = true := code_word (m := ⟨8, 0⟩) (meth := k8m0) (c := k8c0) (by decide +kernel) rfl rfl rfl (by decide +kernel)
set_option maxRecDepth 65536 in
theorem w_c5 : (Jvm.Cond.code ({ cls := "com/example/cardea/cardea/scheme/BinaryTree", name := "height", desc := "(I)I" } : Jvm.MethodName) prog_15_method_6_code (3 : Nat) (Option.some Jvm.ClassFile.FieldType.int)).before args0 about1 = true := code_word (m := ⟨2, 1⟩) (meth := k2m1) (c := k2c1) (by decide +kernel) rfl rfl rfl (by decide +kernel)
set_option maxRecDepth 65536 in
theorem w_c6 : (Jvm.Cond.code ({ cls := "com/example/cardea/cardea/scheme/BinaryTree", name := "level", desc := "(I)I" } : Jvm.MethodName) prog_15_method_14_code (1 : Nat) (Option.some Jvm.ClassFile.FieldType.int)).before args0 about1 = true := code_word (m := ⟨2, 3⟩) (meth := k2m3) (c := k2c3) (by decide +kernel) rfl rfl rfl (by decide +kernel)
set_option maxRecDepth 65536 in
theorem w_c7 : (Jvm.Cond.code ({ cls := "com/example/cardea/cardea/scheme/BinaryTree", name := "slot", desc := "(I)I" } : Jvm.MethodName) prog_15_method_12_code (3 : Nat) (Option.some Jvm.ClassFile.FieldType.int)).before args0 about1 = true := code_word (m := ⟨2, 2⟩) (meth := k2m2) (c := k2c2) (by decide +kernel) rfl rfl rfl (by decide +kernel)
set_option maxRecDepth 65536 in
theorem w_c8 : (Jvm.Cond.code ({ cls := "com/example/cardea/cardea/scheme/BinaryTreeHeightPinLaw", name := "log2", desc := "(I)I" } : Jvm.MethodName) method_3_code (2 : Nat) (Option.some Jvm.ClassFile.FieldType.int)).before args0 about1 = true := code_word (m := ⟨1, 2⟩) (meth := k1m2) (c := k1c2) (by decide +kernel) rfl rfl rfl (by decide +kernel)
def codes1 : List Jvm.Cond := [Jvm.Cond.code x code maxLocals ret, Jvm.Cond.code ({ cls := "com/example/cardea/cardea/scheme/BinaryTree", name := "<init>", desc := "(I)V" } : Jvm.MethodName) prog_15_method_1_code (2 : Nat) (Option.none : Option Jvm.ClassFile.FieldType), Jvm.Cond.code ({ cls := "java/lang/Object", name := "<init>", desc := "()V" } : Jvm.MethodName) object_method_1_code (1 : Nat) (Option.none : Option Jvm.ClassFile.FieldType), Jvm.Cond.code ({ cls := "com/example/cardea/cardea/scheme/BinaryTree", name := "depth", desc := "(I)I" } : Jvm.MethodName) prog_15_method_15_code (1 : Nat) (Option.some Jvm.ClassFile.FieldType.int), Jvm.Cond.code ({ cls := "java/lang/Integer", name := "numberOfLeadingZeros", desc := "(I)I" } : Jvm.MethodName) jdk_33_method_47_code (2 : Nat) (Option.some Jvm.ClassFile.FieldType.int), Jvm.Cond.code ({ cls := "com/example/cardea/cardea/scheme/BinaryTree", name := "height", desc := "(I)I" } : Jvm.MethodName) prog_15_method_6_code (3 : Nat) (Option.some Jvm.ClassFile.FieldType.int), Jvm.Cond.code ({ cls := "com/example/cardea/cardea/scheme/BinaryTree", name := "level", desc := "(I)I" } : Jvm.MethodName) prog_15_method_14_code (1 : Nat) (Option.some Jvm.ClassFile.FieldType.int), Jvm.Cond.code ({ cls := "com/example/cardea/cardea/scheme/BinaryTree", name := "slot", desc := "(I)I" } : Jvm.MethodName) prog_15_method_12_code (3 : Nat) (Option.some Jvm.ClassFile.FieldType.int), Jvm.Cond.code ({ cls := "com/example/cardea/cardea/scheme/BinaryTreeHeightPinLaw", name := "log2", desc := "(I)I" } : Jvm.MethodName) method_3_code (2 : Nat) (Option.some Jvm.ClassFile.FieldType.int)]
set_option maxRecDepth 65536 in
theorem codes_eq : words1.filter isCode = codes1 := rfl
theorem w_codes : ∀ c ∈ words1.filter isCode, c.before args0 about1 = true := by
  rw [codes_eq]
  intro c hc
  simp only [codes1, List.mem_cons, List.not_mem_nil, or_false] at hc
  rcases hc with rfl | rfl | rfl | rfl | rfl | rfl | rfl | rfl | rfl
  · exact w_c0
  · exact w_c1
  · exact w_c2
  · exact w_c3
  · exact w_c4
  · exact w_c5
  · exact w_c6
  · exact w_c7
  · exact w_c8
set_option maxRecDepth 65536 in
theorem w_t1 : (words1.take 24).all (fun c => isCode c || c.before args0 about1) = true := by decide +kernel
set_option maxRecDepth 65536 in
theorem w_t2 : (words1.drop 24).all (fun c => isCode c || c.before args0 about1) = true := by decide +kernel
theorem w_tables : (allAtoms (Jvm.Cond.code x code maxLocals ret :: tables_1)).before args0 about1 = true := by
  rw [allAtoms_all]
  show words1.all (fun c => c.before args0 about1) = true
  refine all_split ?_ w_codes
  rw [← List.take_append_drop 24 words1, List.all_append, w_t1, w_t2]
  rfl
set_option maxRecDepth 65536 in
theorem w_case : (Jvm.Cond.and given_1 narrow_1).before args0 about1 = true := by decide +kernel
theorem w_applies : (headSpec (Jvm.Cond.code x code maxLocals ret :: tables_1) room_1).applies x e0.platform about1 = true :=
  (Spec.applies_iff w_frames).mpr ⟨w_running, w_runnable, w_alone, w_named, w_hears, w_ripe, w_room, w_tables⟩
theorem atStart : AtStart classFile x code maxLocals ret World_1 tables_1 room_1 Calls_1 rest_1 Pre_1 launch0 p0 e0 about1 theMethod args0 below0 :=
  ⟨lists_1, trivial, launch0.admits_env _ _ _, launch0.least_env, fairChoices_fair.cas, fairChoices_fair.clock, w_frames, w_args, w_heap, w_applies, trivial, trivial, w_case⟩
end start1
theorem witness_1 : WitnessClaimed_1 := ⟨start1.p0, start1.e0, start1.about1, start1.theMethod, start1.args0, start1.below0, start1.atStart⟩
end Jvm.Pilot.@@N@@

import JvmDerived
import JvmDerived.Pilot.@@N@@Statement
import JvmDerived.Pilot.@@N@@Code
set_option linter.unusedVariables false
set_option linter.unusedSimpArgs false
@@BLOCK:NumsL.lean.txt@@
namespace Jvm.Pilot.@@N@@
open Jvm Jvm.ClassFile Sem Op Lib Jvm.Free Jvm.Stand Jvm.LawKit Jvm.RoadKit Bundle Jvm.Pilot.@@N@@.Jvm.D
section Own
variable {p : Program} {l : Launch} {e : Env} {R : Room} {s : State} {m : MethodId} {args : Array Value} {below : List Frame} {meth : Method} {c : Code} {T : State} {locs : List Loc} {cells slots : Nat}
/-- from t the invocation comes to its end, and F holds there -/
def own_Ends (p : Program) (e : Env) (below : List Frame) (F : State → Outcome → Prop) (t : State) : Prop := ∃ s₂ o, Steps p.tables e below t s₂ ∧ s₂.status = .running ∧ Ended s₂ below o ∧ F s₂ o
theorem own_pre {F : State → Outcome → Prop} {t t' : State} (k : ∀ u, Steps p.tables e below t' u → Steps p.tables e below t u) (h : own_Ends p e below F t') : own_Ends p e below F t := by
  obtain ⟨s₂, o, h1, h2⟩ := h
  exact ⟨s₂, o, k _ h1, h2⟩
/-- what is asked of the end: G of the value, the heap and the places written; the frame -/
def own_Fin (s : State) (G : Option Value → Heap → List Loc → Prop) (C S : Nat) (s₂ : State) (o : Outcome) : Prop := ∃ v L, o = .returned v ∧ G v s₂.heap L ∧ FrameEnd s o s₂ L C S
theorem own_out (X : Stand p l e R s m args below meth c T locs cells slots) {v : Option Value} (hv : meth.sig.returnType = none → v = none) (hlk : meth.locks = false) {g : JFrame} {G : Option Value → Heap → List Loc → Prop} {C S : Nat} {h : Heap} (eT : T.heap = h) (hG : G v h locs) (hC : cells ≤ C) (hS : slots ≤ S)
    (st : ∀ fs, (∀ (f : JFrame) (acts : List Action), f.method = m → f.locked = none → f.entered = [] → (doReturn e (T.setTop f) acts v).1 = T.setFrames fs) → Steps p.tables e below (T.setTop g) (T.setFrames fs)) : own_Ends p e below (own_Fin s G C S) (T.setTop g) := by
  obtain ⟨fs, hr, hrun, hended, hW, hsame⟩ := X.leave (v := v) hv hlk
  subst eT
  exact ⟨_, _, st fs hr, hrun, hended, v, locs, rfl, hG, ⟨_, rfl⟩, hW, hsame.mono hC hS⟩
theorem own_retN (X : Stand p l e R s m args below meth c T locs cells slots) (hx : p.tables.exec = Jvm.exec) {pc : Nat} {Ls : Array Slot} {z z' : Int32} {t : FieldType} {rest : List Value} (hret : meth.sig.returnType = some t) (ht : t = .boolean ∨ t = .byte ∨ t = .char ∨ t = .short) (hd : decode c.code pc = .ok (.ireturn, 1)) (hlk : meth.locks = false) (hz : nar t z = z')
    {G : Option Value → Heap → List Loc → Prop} {C S : Nat} {h : Heap} (eT : T.heap = h) (hG : G (some (.int z')) h locs) (hC : cells ≤ C) (hS : slots ≤ S) : own_Ends p e below (own_Fin s G C S) (T.setTop (mkF m pc Ls (.int z :: rest))) := by
  subst hz
  exact own_out X (fun h => by rw [hret] at h; cases h) hlk eT hG hC hS (fun fs hr => retN X hx hret ht hd hr)
theorem own_retI (X : Stand p l e R s m args below meth c T locs cells slots) (hx : p.tables.exec = Jvm.exec) {pc : Nat} {Ls : Array Slot} {z : Int32} {rest : List Value} (hret : meth.sig.returnType = some .int) (hd : decode c.code pc = .ok (.ireturn, 1)) (hlk : meth.locks = false)
    {G : Option Value → Heap → List Loc → Prop} {C S : Nat} {h : Heap} (eT : T.heap = h) (hG : G (some (.int z)) h locs) (hC : cells ≤ C) (hS : slots ≤ S) : own_Ends p e below (own_Fin s G C S) (T.setTop (mkF m pc Ls (.int z :: rest))) :=
  own_out X (fun h => by rw [hret] at h; cases h) hlk eT hG hC hS (fun fs hr => retOut X hx hret rfl (Or.inl ⟨rfl, Or.inl rfl, _, rfl⟩) hd hr)
theorem own_retJ (X : Stand p l e R s m args below meth c T locs cells slots) (hx : p.tables.exec = Jvm.exec) {pc : Nat} {Ls : Array Slot} {z : Int64} {rest : List Value} (hret : meth.sig.returnType = some .long) (hd : decode c.code pc = .ok (.lreturn, 1)) (hlk : meth.locks = false)
    {G : Option Value → Heap → List Loc → Prop} {C S : Nat} {h : Heap} (eT : T.heap = h) (hG : G (some (.long z)) h locs) (hC : cells ≤ C) (hS : slots ≤ S) : own_Ends p e below (own_Fin s G C S) (T.setTop (mkF m pc Ls (.long z :: rest))) :=
  own_out X (fun h => by rw [hret] at h; cases h) hlk eT hG hC hS (fun fs hr => retOut X hx hret rfl (Or.inr (Or.inl ⟨rfl, rfl, _, rfl⟩)) hd hr)
theorem own_retR (X : Stand p l e R s m args below meth c T locs cells slots) (hx : p.tables.exec = Jvm.exec) {pc : Nat} {Ls : Array Slot} {a : Addr} {t : FieldType} {rest : List Value} (hret : meth.sig.returnType = some t) (ht : t.isReference = true) (hd : decode c.code pc = .ok (.areturn, 1)) (hlk : meth.locks = false)
    {G : Option Value → Heap → List Loc → Prop} {C S : Nat} {h : Heap} (eT : T.heap = h) (hG : G (some (.ref a)) h locs) (hC : cells ≤ C) (hS : slots ≤ S) : own_Ends p e below (own_Fin s G C S) (T.setTop (mkF m pc Ls (.ref a :: rest))) :=
  own_out X (fun h => by rw [hret] at h; cases h) hlk eT hG hC hS (fun fs hr => retOut X hx hret (by cases t <;> first | rfl | (simp [FieldType.isReference] at ht)) (Or.inr (Or.inr (Or.inr (Or.inr ⟨rfl, ht, rfl⟩)))) hd hr)
theorem own_retV (X : Stand p l e R s m args below meth c T locs cells slots) (hx : p.tables.exec = Jvm.exec) {pc : Nat} {Ls : Array Slot} (hret : meth.sig.returnType = none) (hd : decode c.code pc = .ok (.return_, 1)) (hlk : meth.locks = false)
    {G : Option Value → Heap → List Loc → Prop} {C S : Nat} {h : Heap} (eT : T.heap = h) (hG : G none h locs) (hC : cells ≤ C) (hS : slots ≤ S) : own_Ends p e below (own_Fin s G C S) (T.setTop (mkF m pc Ls [])) :=
  own_out X (fun _ => rfl) hlk eT hG hC hS (fun fs hr => X.returnOut hx hret hd hr)
theorem own_len (X : Stand p l e R s m args below meth c T locs cells slots) (hx : p.tables.exec = Jvm.exec) {h : Heap} (eT : T.heap = h) {Z : State} (hZ : Z.Warmed39 s.vm) {a : Addr} {cl : Cell} {ty : FieldType} {z : Int32} (A : Arr Z h a cl ty) (S : cl.slots.size = z.toNatClampNeg) (M : ¬ z < 0)
    {g : JFrame} (hg : g.method = m) {rest : List Value} (hs : g.stack = .ref a :: rest) (hd : decode c.code g.pc = .ok (.arraylength, 1)) {target : State} (k : Steps p.tables e below (T.setTop { g with pc := g.pc + 1, stack := .int z :: rest }) target) : Steps p.tables e below (T.setTop g) target := by
  refine X.arraylength hx (by rw [eT]; exact A.1) (State.isArrayOf_alike hZ.alike A.2.1) hg hs hd _ ?_
  rw [len_of S M]
  exact k
theorem own_setAny {Z : State} {h h' : Heap} {a : Addr} {cl : Cell} {k : ClassId} {ty : FieldType} {z : Int32} {vs : List Value} {dv v : Value} {j : Nat} (A : Arr Z h a cl ty) (q1 : cl.cls = k) (S : cl.slots.size = z.toNatClampNeg) (q3 : ¬ z < 0) (H : Has cl vs dv) (G : ∀ i, i < cl.slots.size → fits ty (vs.getD i dv) = true) (hv : fits ty v = true) (W : Wr h h' a j v) : ∃ vs', Arv Z h' a k ty z vs' dv := by
  have E : ∀ x, x < (cl.setSlot j v).slots.size → (cl.setSlot j v).slots[x]? = some ((cl.setSlot j v).slots.toList.getD x dv) := fun x hx => by
    rw [List.getD_eq_getElem?_getD, Array.getElem?_toList, Array.getElem?_eq_getElem hx]; rfl
  refine ⟨(cl.setSlot j v).slots.toList, _, A.same W, q1, by rw [sz_set]; exact S, q3, E, fun x hx => ?_⟩
  have hx' := hx
  rw [sz_set] at hx'
  have e1 := E x hx
  by_cases u : j = x
  · subst u
    have : (cl.setSlot j v).slots[j]? = some v := by simp [Cell.setSlot, hx']
    rw [this] at e1
    rw [← Option.some.inj e1]; exact hv
  · have : (cl.setSlot j v).slots[x]? = cl.slots[x]? := by simp [Cell.setSlot, Array.getElem?_setIfInBounds_ne u]
    rw [this, H x hx'] at e1
    rw [← Option.some.inj e1]; exact G x hx'
theorem own_staK {Z : State} {h h' : Heap} {a : Addr} {C n d D : String} {v : Value} (F : Sta Z h C n d v) (K : Keep h h' [a]) (E : Exa Z h a D) : Sta Z h' C n d v := by
  obtain ⟨cf, i, k, f, st, cell, h1, h2, h3, h4, h5, h6, h7⟩ := F
  obtain ⟨cl, kc, g1, -, -, g4, -⟩ := E
  have ne : st ≠ a := fun q => by subst q; cases h5.symm.trans g1; rw [h6] at g4; cases g4
  exact ⟨cf, i, k, f, st, cell, h1, h2, h3, h4, K.2.1 st cell h5 (ninS ne nin0), h6, h7⟩
theorem own_staK0 {Z : State} {h h' : Heap} {C n d : String} {v : Value} (F : Sta Z h C n d v) (K : Keep h h' []) : Sta Z h' C n d v := by
  obtain ⟨cf, i, k, f, st, cell, h1, h2, h3, h4, h5, h6, h7⟩ := F
  exact ⟨cf, i, k, f, st, cell, h1, h2, h3, h4, K.2.1 st cell h5 nin0, h6, h7⟩
theorem own_selP {Z : State} {a0 : Array Value} {y : MethodName} {kk : Nat} (hZ : Z.Warmed39 s.vm) (wi : (Cond.instantiable y.cls kk).before a0 Z = true) (wp : (Cond.privateMethod y).before a0 Z = true) (wm : (Cond.instanceMethod y).before a0 Z = true) (hy : y.cls ≠ "java/lang/invoke/MethodHandle" ∧ y.cls ≠ "java/lang/invoke/VarHandle") : (Cond.selects y.cls y y).before args s = true := by
  have wi' : (Cond.instantiable y.cls kk).before args s = true := mvT hZ wi
  obtain ⟨c', k', h1, h2, -, h4, -⟩ := Cond.instantiable_spec wi'
  have h5 : k'.isInterface = false := by
    cases q : k'.isInterface with
    | false => rfl
    | true => rw [q] at h4; simp at h4
  exact selects_self_of_private h1 h2 h5 (Cond.privateMethod_at (mvP hZ wp (args := args))) (mvT hZ wm) hy
/-- what lcmp pushes; the unsigned shifts -/
def own_cmpL (x y : Int64) : Int32 := if x > y then 1 else if x = y then 0 else -1
def own_ushr (x y : Int32) : Int32 := (x.toUInt32 >>> (y &&& 31).toUInt32).toInt32
def own_ushrL (x : Int64) (y : Int32) : Int64 := (x.toUInt64 >>> (y &&& 0x3f).toInt64.toUInt64).toInt64
theorem own_clt (x y : Int64) : own_cmpL x y < 0 ↔ x < y := lw_lt x y
theorem own_cgt (x y : Int64) : 0 < own_cmpL x y ↔ y < x := lw_gt x y
theorem own_ceq (x y : Int64) : own_cmpL x y = 0 ↔ x = y := lw_eq x y
end Own
theorem own_d1_0 : decode method_2_code 0 = .ok (.iload_n 2, 1) := by decide +kernel
theorem own_d1_1 : decode method_2_code 1 = .ok (.iconst 3, 1) := by decide +kernel
theorem own_d1_2 : decode method_2_code 2 = .ok (.iand, 1) := by decide +kernel
theorem own_d1_3 : decode method_2_code 3 = .ok (.istore_n 3, 1) := by decide +kernel
theorem own_d1_4 : decode method_2_code 4 = .ok (.iload_n 3, 1) := by decide +kernel
theorem own_d1_5 : decode method_2_code 5 = .ok (.ifCond .ne 15, 3) := by decide +kernel
theorem own_d1_8 : decode method_2_code 8 = .ok (.lconst 1, 1) := by decide +kernel
theorem own_d1_9 : decode method_2_code 9 = .ok (.lload_n 0, 1) := by decide +kernel
theorem own_d1_10 : decode method_2_code 10 = .ok (.ldc2_w 9, 3) := by decide +kernel
theorem own_d1_13 : decode method_2_code 13 = .ok (.land, 1) := by decide +kernel
theorem own_d1_14 : decode method_2_code 14 = .ok (.ldc2_w 11, 3) := by decide +kernel
theorem own_d1_17 : decode method_2_code 17 = .ok (.lrem, 1) := by decide +kernel
theorem own_d1_18 : decode method_2_code 18 = .ok (.ladd, 1) := by decide +kernel
theorem own_d1_19 : decode method_2_code 19 = .ok (.lreturn, 1) := by decide +kernel
theorem own_d1_20 : decode method_2_code 20 = .ok (.iload_n 3, 1) := by decide +kernel
theorem own_d1_21 : decode method_2_code 21 = .ok (.iconst 1, 1) := by decide +kernel
theorem own_d1_22 : decode method_2_code 22 = .ok (.if_icmp .ne 15, 3) := by decide +kernel
theorem own_d1_25 : decode method_2_code 25 = .ok (.lconst 1, 1) := by decide +kernel
theorem own_d1_26 : decode method_2_code 26 = .ok (.lload_n 0, 1) := by decide +kernel
theorem own_d1_27 : decode method_2_code 27 = .ok (.ldc2_w 13, 3) := by decide +kernel
theorem own_d1_30 : decode method_2_code 30 = .ok (.land, 1) := by decide +kernel
theorem own_d1_31 : decode method_2_code 31 = .ok (.ldc2_w 15, 3) := by decide +kernel
theorem own_d1_34 : decode method_2_code 34 = .ok (.lrem, 1) := by decide +kernel
theorem own_d1_35 : decode method_2_code 35 = .ok (.ladd, 1) := by decide +kernel
theorem own_d1_36 : decode method_2_code 36 = .ok (.lreturn, 1) := by decide +kernel
theorem own_d1_37 : decode method_2_code 37 = .ok (.iload_n 3, 1) := by decide +kernel
theorem own_d1_38 : decode method_2_code 38 = .ok (.iconst 2, 1) := by decide +kernel
theorem own_d1_39 : decode method_2_code 39 = .ok (.if_icmp .ne 13, 3) := by decide +kernel
theorem own_d1_42 : decode method_2_code 42 = .ok (.ldc2_w 11, 3) := by decide +kernel
theorem own_d1_45 : decode method_2_code 45 = .ok (.lload_n 0, 1) := by decide +kernel
theorem own_d1_46 : decode method_2_code 46 = .ok (.ldc2_w 17, 3) := by decide +kernel
theorem own_d1_49 : decode method_2_code 49 = .ok (.land, 1) := by decide +kernel
theorem own_d1_50 : decode method_2_code 50 = .ok (.lsub, 1) := by decide +kernel
theorem own_d1_51 : decode method_2_code 51 = .ok (.lreturn, 1) := by decide +kernel
theorem own_d1_52 : decode method_2_code 52 = .ok (.ldc2_w 19, 3) := by decide +kernel
theorem own_d1_55 : decode method_2_code 55 = .ok (.lconst 1, 1) := by decide +kernel
theorem own_d1_56 : decode method_2_code 56 = .ok (.lload_n 0, 1) := by decide +kernel
theorem own_d1_57 : decode method_2_code 57 = .ok (.ldc2_w 21, 3) := by decide +kernel
theorem own_d1_60 : decode method_2_code 60 = .ok (.land, 1) := by decide +kernel
theorem own_d1_61 : decode method_2_code 61 = .ok (.ladd, 1) := by decide +kernel
theorem own_d1_62 : decode method_2_code 62 = .ok (.lmul, 1) := by decide +kernel
theorem own_d1_63 : decode method_2_code 63 = .ok (.lconst 1, 1) := by decide +kernel
theorem own_d1_64 : decode method_2_code 64 = .ok (.lsub, 1) := by decide +kernel
theorem own_d1_65 : decode method_2_code 65 = .ok (.lload_n 0, 1) := by decide +kernel
theorem own_d1_66 : decode method_2_code 66 = .ok (.bipush 20, 2) := by decide +kernel
theorem own_d1_68 : decode method_2_code 68 = .ok (.lushr, 1) := by decide +kernel
theorem own_d1_69 : decode method_2_code 69 = .ok (.ldc2_w 23, 3) := by decide +kernel
theorem own_d1_72 : decode method_2_code 72 = .ok (.land, 1) := by decide +kernel
theorem own_d1_73 : decode method_2_code 73 = .ok (.ladd, 1) := by decide +kernel
theorem own_d1_74 : decode method_2_code 74 = .ok (.lreturn, 1) := by decide +kernel
def own_ent (p0 : Int64) (p1 : Int32) : Int64 := if (p1 &&& (3 : Int32)) = (0 : Int32) then ((1 : Int64) + ((p0 &&& (9223372036854775807 : Int64)) - ((p0 &&& (9223372036854775807 : Int64)) / (9223372036854775553 : Int64)) * (9223372036854775553 : Int64))) else (if (p1 &&& (3 : Int32)) = (1 : Int32) then ((1 : Int64) + ((p0 &&& (2147483647 : Int64)) - ((p0 &&& (2147483647 : Int64)) / (2000 : Int64)) * (2000 : Int64))) else (if (p1 &&& (3 : Int32)) = (2 : Int32) then ((9223372036854775553 : Int64) - (p0 &&& (1023 : Int64))) else ((((255 : Int64) * ((1 : Int64) + (p0 &&& (1048575 : Int64)))) - (1 : Int64)) + ((own_ushrL p0 (20 : Int32)) &&& (3 : Int64)))))
theorem own_pn0 : plainName "com/example/settlepath/settlepath/store/KeyIndexBlocksPinLaw" = true := by first | (simp [plainName, overriddenIn]; done) | decide +kernel
theorem own_ef_rm1 (m : MethodId) (x0 : Int64) (x1 : Int32) : entryFrame m #[(.long x0), (.int x1)] 4 = mkF m 0 #[.val (.long x0), .second, .val (.int x1), .unset] [] := by first | (simp [entryFrame, mkF, argsToLocals, Value.category]; done) | rfl
def own_Q_rm1 (Z : State) (p0 : Int64) (p1 : Int32) (h0 : Heap) (n0 : Nat) (v : Option Value) (h : Heap) (L : List Loc) : Prop := v = some (.long (own_ent p0 p1)) ∧ Fr n0 L ∧ h = h0
set_option maxRecDepth 65536 in
set_option maxHeartbeats 40000000 in
theorem rm1 (l : Launch) (Z : State) (a0 : Array Value) (hw : ∀ d ∈ tables_1, d.before a0 Z = true) (ws : List Jvm.Cond) (p0 : Int64) (p1 : Int32) (h0 : Heap) (n0 : Nat) (Z0 : n0 ≤ h0.size) :
    MetFree l (⟨"com/example/settlepath/settlepath/store/KeyIndexBlocksPinLaw", "entriesFor", "(JI)J"⟩ : MethodName) (head1 (Jvm.Cond.code (⟨"com/example/settlepath/settlepath/store/KeyIndexBlocksPinLaw", "entriesFor", "(JI)J"⟩ : MethodName) method_2_code 4 (some .long) :: ws) ({ frames := 0, cells := 0, slots := 0, locals := 0 } : Room)) (fun a U => a = #[(.long p0), (.int p1)] ∧ Z.Warmed39 U.vm ∧ U.heap = h0) (fun _ _ _ _ _ => True) (fun _ U o U' => ∃ v L, o = .returned v ∧ (own_Q_rm1 Z p0 p1 h0 n0) v U'.heap L ∧ FrameEnd U o U' L ({ frames := 0, cells := 0, slots := 0, locals := 0 } : Room).cells ({ frames := 0, cells := 0, slots := 0, locals := 0 } : Room).slots) := by
  refine MetFree.of_bodySF (plainFor_of_name own_pn0) hisR ?_
  intro p e s m args below meth c s₁ Bd hml0 hP hK
  obtain ⟨rfl, hZ, hh⟩ := hP
  have hx := Bd.exec
  have hby := Bd.bytes
  have hml : c.maxLocals = 4 := hml0
  have hown : s.vm.findClass "com/example/settlepath/settlepath/store/KeyIndexBlocksPinLaw" = some m.cls := findClass_of_methodNamed Bd.named
  have hnm := (name_of_methodNamed Bd.named Bd.method).1
  have hlk : meth.locks = false := BodyLoose.notSynchronized Bd
  have X0 : Stand p l e ({ frames := 0, cells := 0, slots := 0, locals := 0 } : Room) s m #[(.long p0), (.int p1)] below meth c s₁ [] 0 0 := Stand.of_body Bd
  have e0 : s₁.heap = h0 := by rw [← hh, Bd.state]; rfl
  have N0 := Fr.nil n0
  show own_Ends p e below (own_Fin s (own_Q_rm1 Z p0 p1 h0 n0) ({ frames := 0, cells := 0, slots := 0, locals := 0 } : Room).cells ({ frames := 0, cells := 0, slots := 0, locals := 0 } : Room).slots) _
  refine own_pre (fun t k => castTop (own_ef_rm1 m p0 p1) k) ?_
  have J0 : ∀ (G : Option Value → Heap → List Loc → Prop) (hG : ∀ L, Fr n0 L → G (some (.long (if (p1 &&& (3 : Int32)) = (0 : Int32) then ((1 : Int64) + ((p0 &&& (9223372036854775807 : Int64)) - ((p0 &&& (9223372036854775807 : Int64)) / (9223372036854775553 : Int64)) * (9223372036854775553 : Int64))) else (if (p1 &&& (3 : Int32)) = (1 : Int32) then ((1 : Int64) + ((p0 &&& (2147483647 : Int64)) - ((p0 &&& (2147483647 : Int64)) / (2000 : Int64)) * (2000 : Int64))) else (if (p1 &&& (3 : Int32)) = (2 : Int32) then ((9223372036854775553 : Int64) - (p0 &&& (1023 : Int64))) else ((((255 : Int64) * ((1 : Int64) + (p0 &&& (1048575 : Int64)))) - (1 : Int64)) + ((own_ushrL p0 (20 : Int32)) &&& (3 : Int64)))))))) h0 L), own_Ends p e below (own_Fin s G ({ frames := 0, cells := 0, slots := 0, locals := 0 } : Room).cells ({ frames := 0, cells := 0, slots := 0, locals := 0 } : Room).slots) (s₁.setTop (mkF m 0 #[.val (.long p0), .second, .val (.int p1), .unset] [])) := by
    intro G hG
    show own_Ends _ _ _ _ (s₁.setTop (mkF m 0 #[.val (.long p0), .second, .val (.int p1), .unset] []))
    refine own_pre (fun t k => XS.iloadN X0.here hx rfl (hb hby own_d1_0) rfl k) ?_
    show own_Ends _ _ _ _ (s₁.setTop (mkF m 1 #[.val (.long p0), .second, .val (.int p1), .unset] [(.int p1)]))
    refine own_pre (fun t k => XS.iconst X0.here hx rfl (hb hby own_d1_1) k) ?_
    show own_Ends _ _ _ _ (s₁.setTop (mkF m 2 #[.val (.long p0), .second, .val (.int p1), .unset] [(.int (3 : Int32)), (.int p1)]))
    refine own_pre (fun t k => XS.iand X0.here hx rfl (hb hby own_d1_2) rfl k) ?_
    show own_Ends _ _ _ _ (s₁.setTop (mkF m 3 #[.val (.long p0), .second, .val (.int p1), .unset] [(.int (p1 &&& (3 : Int32)))]))
    refine own_pre (fun t k => XS.istoreN X0.here hx rfl (hb hby own_d1_3) rfl (l' := #[.val (.long p0), .second, .val (.int p1), .val (.int (p1 &&& (3 : Int32)))]) rfl k) ?_
    show own_Ends _ _ _ _ (s₁.setTop (mkF m 4 #[.val (.long p0), .second, .val (.int p1), .val (.int (p1 &&& (3 : Int32)))] []))
    refine own_pre (fun t k => XS.iloadN X0.here hx rfl (hb hby own_d1_4) rfl k) ?_
    show own_Ends _ _ _ _ (s₁.setTop (mkF m 5 #[.val (.long p0), .second, .val (.int p1), .val (.int (p1 &&& (3 : Int32)))] [(.int (p1 &&& (3 : Int32)))]))
    by_cases hc1 : (p1 &&& (3 : Int32)) = (0 : Int32)
    · skip
      rw [if_pos hc1] at hG
      refine own_pre (fun t k => XS.ifNo X0.here hx rfl (hb hby own_d1_5) rfl ((if0 _ _).trans (teq hc1).2) k) ?_
      show own_Ends _ _ _ _ (s₁.setTop (mkF m 8 #[.val (.long p0), .second, .val (.int p1), .val (.int (p1 &&& (3 : Int32)))] []))
      refine own_pre (fun t k => XS.lconst X0.here hx rfl (hb hby own_d1_8) k) ?_
      show own_Ends _ _ _ _ (s₁.setTop (mkF m 9 #[.val (.long p0), .second, .val (.int p1), .val (.int (p1 &&& (3 : Int32)))] [(.long (1 : Int64))]))
      refine own_pre (fun t k => XS.lloadN X0.here hx rfl (hb hby own_d1_9) rfl k) ?_
      show own_Ends _ _ _ _ (s₁.setTop (mkF m 10 #[.val (.long p0), .second, .val (.int p1), .val (.int (p1 &&& (3 : Int32)))] [(.long p0), (.long (1 : Int64))]))
      refine own_pre (fun t k => X0.ldc2Long hx hown (mvT hZ (hw _ (List.mem_of_getElem? (i := 4) rfl))) (g := (mkF m 10 #[.val (.long p0), .second, .val (.int p1), .val (.int (p1 &&& (3 : Int32)))] [(.long p0), (.long (1 : Int64))])) rfl (hb hby own_d1_10) _ k) ?_
      show own_Ends _ _ _ _ (s₁.setTop (mkF m 13 #[.val (.long p0), .second, .val (.int p1), .val (.int (p1 &&& (3 : Int32)))] [(.long (9223372036854775807 : Int64)), (.long p0), (.long (1 : Int64))]))
      refine own_pre (fun t k => XS.land X0.here hx rfl (hb hby own_d1_13) rfl k) ?_
      show own_Ends _ _ _ _ (s₁.setTop (mkF m 14 #[.val (.long p0), .second, .val (.int p1), .val (.int (p1 &&& (3 : Int32)))] [(.long (p0 &&& (9223372036854775807 : Int64))), (.long (1 : Int64))]))
      refine own_pre (fun t k => X0.ldc2Long hx hown (mvT hZ (hw _ (List.mem_of_getElem? (i := 5) rfl))) (g := (mkF m 14 #[.val (.long p0), .second, .val (.int p1), .val (.int (p1 &&& (3 : Int32)))] [(.long (p0 &&& (9223372036854775807 : Int64))), (.long (1 : Int64))])) rfl (hb hby own_d1_14) _ k) ?_
      show own_Ends _ _ _ _ (s₁.setTop (mkF m 17 #[.val (.long p0), .second, .val (.int p1), .val (.int (p1 &&& (3 : Int32)))] [(.long (9223372036854775553 : Int64)), (.long (p0 &&& (9223372036854775807 : Int64))), (.long (1 : Int64))]))
      refine own_pre (fun t k => XS.lrem X0.here hx rfl (hb hby own_d1_17) rfl (by decide) k) ?_
      show own_Ends _ _ _ _ (s₁.setTop (mkF m 18 #[.val (.long p0), .second, .val (.int p1), .val (.int (p1 &&& (3 : Int32)))] [(.long ((p0 &&& (9223372036854775807 : Int64)) - ((p0 &&& (9223372036854775807 : Int64)) / (9223372036854775553 : Int64)) * (9223372036854775553 : Int64))), (.long (1 : Int64))]))
      refine own_pre (fun t k => XS.ladd X0.here hx rfl (hb hby own_d1_18) rfl k) ?_
      show own_Ends _ _ _ _ (s₁.setTop (mkF m 19 #[.val (.long p0), .second, .val (.int p1), .val (.int (p1 &&& (3 : Int32)))] [(.long ((1 : Int64) + ((p0 &&& (9223372036854775807 : Int64)) - ((p0 &&& (9223372036854775807 : Int64)) / (9223372036854775553 : Int64)) * (9223372036854775553 : Int64))))]))
      exact own_retJ X0 hx Bd.returns (hb hby own_d1_19) hlk e0 (hG _ N0) (by decide) (by decide)
    · skip
      rw [if_neg hc1] at hG
      refine own_pre (fun t k => XS.ifYes X0.here hx rfl (pc0 := 5) (pc' := 20) rfl (hb hby own_d1_5) rfl ((if0 _ _).trans (feq hc1).2) (by decide) (by decide) k) ?_
      show own_Ends _ _ _ _ (s₁.setTop (mkF m 20 #[.val (.long p0), .second, .val (.int p1), .val (.int (p1 &&& (3 : Int32)))] []))
      refine own_pre (fun t k => XS.iloadN X0.here hx rfl (hb hby own_d1_20) rfl k) ?_
      show own_Ends _ _ _ _ (s₁.setTop (mkF m 21 #[.val (.long p0), .second, .val (.int p1), .val (.int (p1 &&& (3 : Int32)))] [(.int (p1 &&& (3 : Int32)))]))
      refine own_pre (fun t k => XS.iconst X0.here hx rfl (hb hby own_d1_21) k) ?_
      show own_Ends _ _ _ _ (s₁.setTop (mkF m 22 #[.val (.long p0), .second, .val (.int p1), .val (.int (p1 &&& (3 : Int32)))] [(.int (1 : Int32)), (.int (p1 &&& (3 : Int32)))]))
      by_cases hc2 : (p1 &&& (3 : Int32)) = (1 : Int32)
      · skip
        rw [if_pos hc2] at hG
        refine own_pre (fun t k => XS.icmpNo X0.here hx rfl (hb hby own_d1_22) rfl (teq hc2).2 k) ?_
        show own_Ends _ _ _ _ (s₁.setTop (mkF m 25 #[.val (.long p0), .second, .val (.int p1), .val (.int (p1 &&& (3 : Int32)))] []))
        refine own_pre (fun t k => XS.lconst X0.here hx rfl (hb hby own_d1_25) k) ?_
        show own_Ends _ _ _ _ (s₁.setTop (mkF m 26 #[.val (.long p0), .second, .val (.int p1), .val (.int (p1 &&& (3 : Int32)))] [(.long (1 : Int64))]))
        refine own_pre (fun t k => XS.lloadN X0.here hx rfl (hb hby own_d1_26) rfl k) ?_
        show own_Ends _ _ _ _ (s₁.setTop (mkF m 27 #[.val (.long p0), .second, .val (.int p1), .val (.int (p1 &&& (3 : Int32)))] [(.long p0), (.long (1 : Int64))]))
        refine own_pre (fun t k => X0.ldc2Long hx hown (mvT hZ (hw _ (List.mem_of_getElem? (i := 43) rfl))) (g := (mkF m 27 #[.val (.long p0), .second, .val (.int p1), .val (.int (p1 &&& (3 : Int32)))] [(.long p0), (.long (1 : Int64))])) rfl (hb hby own_d1_27) _ k) ?_
        show own_Ends _ _ _ _ (s₁.setTop (mkF m 30 #[.val (.long p0), .second, .val (.int p1), .val (.int (p1 &&& (3 : Int32)))] [(.long (2147483647 : Int64)), (.long p0), (.long (1 : Int64))]))
        refine own_pre (fun t k => XS.land X0.here hx rfl (hb hby own_d1_30) rfl k) ?_
        show own_Ends _ _ _ _ (s₁.setTop (mkF m 31 #[.val (.long p0), .second, .val (.int p1), .val (.int (p1 &&& (3 : Int32)))] [(.long (p0 &&& (2147483647 : Int64))), (.long (1 : Int64))]))
        refine own_pre (fun t k => X0.ldc2Long hx hown (mvT hZ (hw _ (List.mem_of_getElem? (i := 44) rfl))) (g := (mkF m 31 #[.val (.long p0), .second, .val (.int p1), .val (.int (p1 &&& (3 : Int32)))] [(.long (p0 &&& (2147483647 : Int64))), (.long (1 : Int64))])) rfl (hb hby own_d1_31) _ k) ?_
        show own_Ends _ _ _ _ (s₁.setTop (mkF m 34 #[.val (.long p0), .second, .val (.int p1), .val (.int (p1 &&& (3 : Int32)))] [(.long (2000 : Int64)), (.long (p0 &&& (2147483647 : Int64))), (.long (1 : Int64))]))
        refine own_pre (fun t k => XS.lrem X0.here hx rfl (hb hby own_d1_34) rfl (by decide) k) ?_
        show own_Ends _ _ _ _ (s₁.setTop (mkF m 35 #[.val (.long p0), .second, .val (.int p1), .val (.int (p1 &&& (3 : Int32)))] [(.long ((p0 &&& (2147483647 : Int64)) - ((p0 &&& (2147483647 : Int64)) / (2000 : Int64)) * (2000 : Int64))), (.long (1 : Int64))]))
        refine own_pre (fun t k => XS.ladd X0.here hx rfl (hb hby own_d1_35) rfl k) ?_
        show own_Ends _ _ _ _ (s₁.setTop (mkF m 36 #[.val (.long p0), .second, .val (.int p1), .val (.int (p1 &&& (3 : Int32)))] [(.long ((1 : Int64) + ((p0 &&& (2147483647 : Int64)) - ((p0 &&& (2147483647 : Int64)) / (2000 : Int64)) * (2000 : Int64))))]))
        exact own_retJ X0 hx Bd.returns (hb hby own_d1_36) hlk e0 (hG _ N0) (by decide) (by decide)
      · skip
        rw [if_neg hc2] at hG
        refine own_pre (fun t k => XS.icmpYes X0.here hx rfl (pc0 := 22) (pc' := 37) rfl (hb hby own_d1_22) rfl (feq hc2).2 (by decide) (by decide) k) ?_
        show own_Ends _ _ _ _ (s₁.setTop (mkF m 37 #[.val (.long p0), .second, .val (.int p1), .val (.int (p1 &&& (3 : Int32)))] []))
        refine own_pre (fun t k => XS.iloadN X0.here hx rfl (hb hby own_d1_37) rfl k) ?_
        show own_Ends _ _ _ _ (s₁.setTop (mkF m 38 #[.val (.long p0), .second, .val (.int p1), .val (.int (p1 &&& (3 : Int32)))] [(.int (p1 &&& (3 : Int32)))]))
        refine own_pre (fun t k => XS.iconst X0.here hx rfl (hb hby own_d1_38) k) ?_
        show own_Ends _ _ _ _ (s₁.setTop (mkF m 39 #[.val (.long p0), .second, .val (.int p1), .val (.int (p1 &&& (3 : Int32)))] [(.int (2 : Int32)), (.int (p1 &&& (3 : Int32)))]))
        by_cases hc3 : (p1 &&& (3 : Int32)) = (2 : Int32)
        · skip
          rw [if_pos hc3] at hG
          refine own_pre (fun t k => XS.icmpNo X0.here hx rfl (hb hby own_d1_39) rfl (teq hc3).2 k) ?_
          show own_Ends _ _ _ _ (s₁.setTop (mkF m 42 #[.val (.long p0), .second, .val (.int p1), .val (.int (p1 &&& (3 : Int32)))] []))
          refine own_pre (fun t k => X0.ldc2Long hx hown (mvT hZ (hw _ (List.mem_of_getElem? (i := 5) rfl))) (g := (mkF m 42 #[.val (.long p0), .second, .val (.int p1), .val (.int (p1 &&& (3 : Int32)))] [])) rfl (hb hby own_d1_42) _ k) ?_
          show own_Ends _ _ _ _ (s₁.setTop (mkF m 45 #[.val (.long p0), .second, .val (.int p1), .val (.int (p1 &&& (3 : Int32)))] [(.long (9223372036854775553 : Int64))]))
          refine own_pre (fun t k => XS.lloadN X0.here hx rfl (hb hby own_d1_45) rfl k) ?_
          show own_Ends _ _ _ _ (s₁.setTop (mkF m 46 #[.val (.long p0), .second, .val (.int p1), .val (.int (p1 &&& (3 : Int32)))] [(.long p0), (.long (9223372036854775553 : Int64))]))
          refine own_pre (fun t k => X0.ldc2Long hx hown (mvT hZ (hw _ (List.mem_of_getElem? (i := 45) rfl))) (g := (mkF m 46 #[.val (.long p0), .second, .val (.int p1), .val (.int (p1 &&& (3 : Int32)))] [(.long p0), (.long (9223372036854775553 : Int64))])) rfl (hb hby own_d1_46) _ k) ?_
          show own_Ends _ _ _ _ (s₁.setTop (mkF m 49 #[.val (.long p0), .second, .val (.int p1), .val (.int (p1 &&& (3 : Int32)))] [(.long (1023 : Int64)), (.long p0), (.long (9223372036854775553 : Int64))]))
          refine own_pre (fun t k => XS.land X0.here hx rfl (hb hby own_d1_49) rfl k) ?_
          show own_Ends _ _ _ _ (s₁.setTop (mkF m 50 #[.val (.long p0), .second, .val (.int p1), .val (.int (p1 &&& (3 : Int32)))] [(.long (p0 &&& (1023 : Int64))), (.long (9223372036854775553 : Int64))]))
          refine own_pre (fun t k => XS.lsub X0.here hx rfl (hb hby own_d1_50) rfl k) ?_
          show own_Ends _ _ _ _ (s₁.setTop (mkF m 51 #[.val (.long p0), .second, .val (.int p1), .val (.int (p1 &&& (3 : Int32)))] [(.long ((9223372036854775553 : Int64) - (p0 &&& (1023 : Int64))))]))
          exact own_retJ X0 hx Bd.returns (hb hby own_d1_51) hlk e0 (hG _ N0) (by decide) (by decide)
        · skip
          rw [if_neg hc3] at hG
          refine own_pre (fun t k => XS.icmpYes X0.here hx rfl (pc0 := 39) (pc' := 52) rfl (hb hby own_d1_39) rfl (feq hc3).2 (by decide) (by decide) k) ?_
          show own_Ends _ _ _ _ (s₁.setTop (mkF m 52 #[.val (.long p0), .second, .val (.int p1), .val (.int (p1 &&& (3 : Int32)))] []))
          refine own_pre (fun t k => X0.ldc2Long hx hown (mvT hZ (hw _ (List.mem_of_getElem? (i := 30) rfl))) (g := (mkF m 52 #[.val (.long p0), .second, .val (.int p1), .val (.int (p1 &&& (3 : Int32)))] [])) rfl (hb hby own_d1_52) _ k) ?_
          show own_Ends _ _ _ _ (s₁.setTop (mkF m 55 #[.val (.long p0), .second, .val (.int p1), .val (.int (p1 &&& (3 : Int32)))] [(.long (255 : Int64))]))
          refine own_pre (fun t k => XS.lconst X0.here hx rfl (hb hby own_d1_55) k) ?_
          show own_Ends _ _ _ _ (s₁.setTop (mkF m 56 #[.val (.long p0), .second, .val (.int p1), .val (.int (p1 &&& (3 : Int32)))] [(.long (1 : Int64)), (.long (255 : Int64))]))
          refine own_pre (fun t k => XS.lloadN X0.here hx rfl (hb hby own_d1_56) rfl k) ?_
          show own_Ends _ _ _ _ (s₁.setTop (mkF m 57 #[.val (.long p0), .second, .val (.int p1), .val (.int (p1 &&& (3 : Int32)))] [(.long p0), (.long (1 : Int64)), (.long (255 : Int64))]))
          refine own_pre (fun t k => X0.ldc2Long hx hown (mvT hZ (hw _ (List.mem_of_getElem? (i := 41) rfl))) (g := (mkF m 57 #[.val (.long p0), .second, .val (.int p1), .val (.int (p1 &&& (3 : Int32)))] [(.long p0), (.long (1 : Int64)), (.long (255 : Int64))])) rfl (hb hby own_d1_57) _ k) ?_
          show own_Ends _ _ _ _ (s₁.setTop (mkF m 60 #[.val (.long p0), .second, .val (.int p1), .val (.int (p1 &&& (3 : Int32)))] [(.long (1048575 : Int64)), (.long p0), (.long (1 : Int64)), (.long (255 : Int64))]))
          refine own_pre (fun t k => XS.land X0.here hx rfl (hb hby own_d1_60) rfl k) ?_
          show own_Ends _ _ _ _ (s₁.setTop (mkF m 61 #[.val (.long p0), .second, .val (.int p1), .val (.int (p1 &&& (3 : Int32)))] [(.long (p0 &&& (1048575 : Int64))), (.long (1 : Int64)), (.long (255 : Int64))]))
          refine own_pre (fun t k => XS.ladd X0.here hx rfl (hb hby own_d1_61) rfl k) ?_
          show own_Ends _ _ _ _ (s₁.setTop (mkF m 62 #[.val (.long p0), .second, .val (.int p1), .val (.int (p1 &&& (3 : Int32)))] [(.long ((1 : Int64) + (p0 &&& (1048575 : Int64)))), (.long (255 : Int64))]))
          refine own_pre (fun t k => XS.lmul X0.here hx rfl (hb hby own_d1_62) rfl k) ?_
          show own_Ends _ _ _ _ (s₁.setTop (mkF m 63 #[.val (.long p0), .second, .val (.int p1), .val (.int (p1 &&& (3 : Int32)))] [(.long ((255 : Int64) * ((1 : Int64) + (p0 &&& (1048575 : Int64)))))]))
          refine own_pre (fun t k => XS.lconst X0.here hx rfl (hb hby own_d1_63) k) ?_
          show own_Ends _ _ _ _ (s₁.setTop (mkF m 64 #[.val (.long p0), .second, .val (.int p1), .val (.int (p1 &&& (3 : Int32)))] [(.long (1 : Int64)), (.long ((255 : Int64) * ((1 : Int64) + (p0 &&& (1048575 : Int64)))))]))
          refine own_pre (fun t k => XS.lsub X0.here hx rfl (hb hby own_d1_64) rfl k) ?_
          show own_Ends _ _ _ _ (s₁.setTop (mkF m 65 #[.val (.long p0), .second, .val (.int p1), .val (.int (p1 &&& (3 : Int32)))] [(.long (((255 : Int64) * ((1 : Int64) + (p0 &&& (1048575 : Int64)))) - (1 : Int64)))]))
          refine own_pre (fun t k => XS.lloadN X0.here hx rfl (hb hby own_d1_65) rfl k) ?_
          show own_Ends _ _ _ _ (s₁.setTop (mkF m 66 #[.val (.long p0), .second, .val (.int p1), .val (.int (p1 &&& (3 : Int32)))] [(.long p0), (.long (((255 : Int64) * ((1 : Int64) + (p0 &&& (1048575 : Int64)))) - (1 : Int64)))]))
          refine own_pre (fun t k => XS.bipush X0.here hx rfl (hb hby own_d1_66) k) ?_
          show own_Ends _ _ _ _ (s₁.setTop (mkF m 68 #[.val (.long p0), .second, .val (.int p1), .val (.int (p1 &&& (3 : Int32)))] [(.int (20 : Int32)), (.long p0), (.long (((255 : Int64) * ((1 : Int64) + (p0 &&& (1048575 : Int64)))) - (1 : Int64)))]))
          refine own_pre (fun t k => XS.lushr X0.here hx rfl (hb hby own_d1_68) rfl k) ?_
          show own_Ends _ _ _ _ (s₁.setTop (mkF m 69 #[.val (.long p0), .second, .val (.int p1), .val (.int (p1 &&& (3 : Int32)))] [(.long (own_ushrL p0 (20 : Int32))), (.long (((255 : Int64) * ((1 : Int64) + (p0 &&& (1048575 : Int64)))) - (1 : Int64)))]))
          refine own_pre (fun t k => X0.ldc2Long hx hown (mvT hZ (hw _ (List.mem_of_getElem? (i := 42) rfl))) (g := (mkF m 69 #[.val (.long p0), .second, .val (.int p1), .val (.int (p1 &&& (3 : Int32)))] [(.long (own_ushrL p0 (20 : Int32))), (.long (((255 : Int64) * ((1 : Int64) + (p0 &&& (1048575 : Int64)))) - (1 : Int64)))])) rfl (hb hby own_d1_69) _ k) ?_
          show own_Ends _ _ _ _ (s₁.setTop (mkF m 72 #[.val (.long p0), .second, .val (.int p1), .val (.int (p1 &&& (3 : Int32)))] [(.long (3 : Int64)), (.long (own_ushrL p0 (20 : Int32))), (.long (((255 : Int64) * ((1 : Int64) + (p0 &&& (1048575 : Int64)))) - (1 : Int64)))]))
          refine own_pre (fun t k => XS.land X0.here hx rfl (hb hby own_d1_72) rfl k) ?_
          show own_Ends _ _ _ _ (s₁.setTop (mkF m 73 #[.val (.long p0), .second, .val (.int p1), .val (.int (p1 &&& (3 : Int32)))] [(.long ((own_ushrL p0 (20 : Int32)) &&& (3 : Int64))), (.long (((255 : Int64) * ((1 : Int64) + (p0 &&& (1048575 : Int64)))) - (1 : Int64)))]))
          refine own_pre (fun t k => XS.ladd X0.here hx rfl (hb hby own_d1_73) rfl k) ?_
          show own_Ends _ _ _ _ (s₁.setTop (mkF m 74 #[.val (.long p0), .second, .val (.int p1), .val (.int (p1 &&& (3 : Int32)))] [(.long ((((255 : Int64) * ((1 : Int64) + (p0 &&& (1048575 : Int64)))) - (1 : Int64)) + ((own_ushrL p0 (20 : Int32)) &&& (3 : Int64))))]))
          exact own_retJ X0 hx Bd.returns (hb hby own_d1_74) hlk e0 (hG _ N0) (by decide) (by decide)
  exact J0 _ fun L q => ⟨rfl, q, rfl⟩
theorem own_d3_0 : decode jdk_30_method_1_code 0 = .ok (.aload_n 0, 1) := by decide +kernel
theorem own_d3_1 : decode jdk_30_method_1_code 1 = .ok (.invokespecial 1, 3) := by decide +kernel
theorem own_d3_4 : decode jdk_30_method_1_code 4 = .ok (.return_, 1) := by decide +kernel
theorem own_pn1 : plainName "java/lang/Record" = true := by first | (simp [plainName, overriddenIn]; done) | decide +kernel
theorem own_ef_rm2 (m : MethodId) (x0 : Addr) : entryFrame m #[(.ref x0)] 1 = mkF m 0 #[.val (.ref x0)] [] := by first | (simp [entryFrame, mkF, argsToLocals, Value.category]; done) | rfl
def own_Q_rm2 (Z : State) (a0r : Addr) (h0 : Heap) (n0 : Nat) (v : Option Value) (h : Heap) (L : List Loc) : Prop := v = none ∧ Fr n0 L ∧ h = h0
set_option maxRecDepth 65536 in
set_option maxHeartbeats 40000000 in
theorem rm2 (l : Launch) (Z : State) (a0 : Array Value) (hw : ∀ d ∈ tables_1, d.before a0 Z = true) (ws : List Jvm.Cond) (a0r : Addr) (h0 : Heap) (n0 : Nat) (Z0 : n0 ≤ h0.size) :
    MetFree l (⟨"java/lang/Record", "<init>", "()V"⟩ : MethodName) (head1 (Jvm.Cond.code (⟨"java/lang/Record", "<init>", "()V"⟩ : MethodName) jdk_30_method_1_code 1 none :: ws) ({ frames := 1, cells := 0, slots := 0, locals := 12 } : Room)) (fun a U => a = #[(.ref a0r)] ∧ Z.Warmed39 U.vm ∧ U.heap = h0) (fun _ _ _ _ _ => True) (fun _ U o U' => ∃ v L, o = .returned v ∧ (own_Q_rm2 Z a0r h0 n0) v U'.heap L ∧ FrameEnd U o U' L ({ frames := 1, cells := 0, slots := 0, locals := 12 } : Room).cells ({ frames := 1, cells := 0, slots := 0, locals := 12 } : Room).slots) := by
  refine MetFree.of_bodySF (plainFor_of_name own_pn1) hisR ?_
  intro p e s m args below meth c s₁ Bd hml0 hP hK
  obtain ⟨rfl, hZ, hh⟩ := hP
  have hx := Bd.exec
  have hby := Bd.bytes
  have hml : c.maxLocals = 1 := hml0
  have hown : s.vm.findClass "java/lang/Record" = some m.cls := findClass_of_methodNamed Bd.named
  have hnm := (name_of_methodNamed Bd.named Bd.method).1
  have hlk : meth.locks = false := BodyLoose.notSynchronized Bd
  have X0 : Stand p l e ({ frames := 1, cells := 0, slots := 0, locals := 12 } : Room) s m #[(.ref a0r)] below meth c s₁ [] 0 0 := Stand.of_body Bd
  have e0 : s₁.heap = h0 := by rw [← hh, Bd.state]; rfl
  have N0 := Fr.nil n0
  show own_Ends p e below (own_Fin s (own_Q_rm2 Z a0r h0 n0) ({ frames := 1, cells := 0, slots := 0, locals := 12 } : Room).cells ({ frames := 1, cells := 0, slots := 0, locals := 12 } : Room).slots) _
  refine own_pre (fun t k => castTop (own_ef_rm2 m a0r) k) ?_
  show own_Ends _ _ _ _ (s₁.setTop (mkF m 0 #[.val (.ref a0r)] []))
  refine own_pre (fun t k => XS.aloadN X0.here hx rfl (hb hby own_d3_0) rfl rfl k) ?_
  show own_Ends _ _ _ _ (s₁.setTop (mkF m 1 #[.val (.ref a0r)] [(.ref a0r)]))
  obtain ⟨T4, X4, e4, st4⟩ := initO X0 hx hZ hown (hw _ (List.mem_of_getElem? (i := 17) rfl)) (hw _ (List.mem_of_getElem? (i := 18) rfl)) (hw _ (List.mem_of_getElem? (i := 19) rfl)) e0 (g := (mkF m 1 #[.val (.ref a0r)] [(.ref a0r)])) rfl (by rw [hml]; rfl) rfl (hb hby own_d3_1) (by decide) (W := 0) (by show 2 * 0 + _ ≤ _; exact Nat.le_of_eq rfl) (by decide)
  refine own_pre st4 ?_
  show own_Ends _ _ _ _ (T4.setTop (mkF m 4 #[.val (.ref a0r)] []))
  exact own_retV X4 hx Bd.returns (hb hby own_d3_4) hlk e4 ⟨rfl, N0, rfl⟩ (by decide) (by decide)
theorem own_d2_0 : decode prog_140_method_1_code 0 = .ok (.aload_n 0, 1) := by decide +kernel
theorem own_pd0 : parseMethodDescriptor "()V" = some ⟨[], none⟩ := by decide +kernel
theorem own_d2_1 : decode prog_140_method_1_code 1 = .ok (.invokespecial 3, 3) := by decide +kernel
theorem own_d2_4 : decode prog_140_method_1_code 4 = .ok (.aload_n 0, 1) := by decide +kernel
theorem own_d2_5 : decode prog_140_method_1_code 5 = .ok (.lload_n 1, 1) := by decide +kernel
theorem own_d2_6 : decode prog_140_method_1_code 6 = .ok (.putfield 9, 3) := by decide +kernel
theorem own_d2_9 : decode prog_140_method_1_code 9 = .ok (.aload_n 0, 1) := by decide +kernel
theorem own_d2_10 : decode prog_140_method_1_code 10 = .ok (.lload_n 3, 1) := by decide +kernel
theorem own_d2_11 : decode prog_140_method_1_code 11 = .ok (.putfield 15, 3) := by decide +kernel
theorem own_d2_14 : decode prog_140_method_1_code 14 = .ok (.return_, 1) := by decide +kernel
theorem own_pn2 : plainName "com/example/settlepath/settlepath/store/KeyIndex$Run" = true := by first | (simp [plainName, overriddenIn]; done) | decide +kernel
theorem own_ef_rm3 (m : MethodId) (x0 : Addr) (x1 : Int64) (x2 : Int64) : entryFrame m #[(.ref x0), (.long x1), (.long x2)] 5 = mkF m 0 #[.val (.ref x0), .val (.long x1), .second, .val (.long x2), .second] [] := by first | (simp [entryFrame, mkF, argsToLocals, Value.category]; done) | rfl
def own_Q_rm3 (Z : State) (a0r : Addr) (q1 : Int64) (q2 : Int64) (h0 : Heap) (n0 : Nat) (v : Option Value) (h : Heap) (L : List Loc) : Prop := v = none ∧ Fr n0 L ∧ Keep h0 h [a0r] ∧ Fld Z h a0r "com/example/settlepath/settlepath/store/KeyIndex$Run" "number" "J" (.long q1) ∧ Fld Z h a0r "com/example/settlepath/settlepath/store/KeyIndex$Run" "entries" "J" (.long q2)
set_option maxRecDepth 65536 in
set_option maxHeartbeats 40000000 in
theorem rm3 (l : Launch) (Z : State) (a0 : Array Value) (hw : ∀ d ∈ tables_1, d.before a0 Z = true) (ws : List Jvm.Cond) (a0r : Addr) (q1 : Int64) (q2 : Int64) (h0 : Heap) (n0 : Nat) (Z0 : n0 ≤ h0.size) (EX : Exa Z h0 a0r "com/example/settlepath/settlepath/store/KeyIndex$Run") (g0r : n0 ≤ a0r) (F_number : Fld Z h0 a0r "com/example/settlepath/settlepath/store/KeyIndex$Run" "number" "J" (.long (0 : Int64))) (F_entries : Fld Z h0 a0r "com/example/settlepath/settlepath/store/KeyIndex$Run" "entries" "J" (.long (0 : Int64))) :
    MetFree l (⟨"com/example/settlepath/settlepath/store/KeyIndex$Run", "<init>", "(JJ)V"⟩ : MethodName) (head1 (Jvm.Cond.code (⟨"com/example/settlepath/settlepath/store/KeyIndex$Run", "<init>", "(JJ)V"⟩ : MethodName) prog_140_method_1_code 5 none :: ws) ({ frames := 2, cells := 0, slots := 0, locals := 24 } : Room)) (fun a U => a = #[(.ref a0r), (.long q1), (.long q2)] ∧ Z.Warmed39 U.vm ∧ U.heap = h0) (fun _ _ _ _ _ => True) (fun _ U o U' => ∃ v L, o = .returned v ∧ (own_Q_rm3 Z a0r q1 q2 h0 n0) v U'.heap L ∧ FrameEnd U o U' L ({ frames := 2, cells := 0, slots := 0, locals := 24 } : Room).cells ({ frames := 2, cells := 0, slots := 0, locals := 24 } : Room).slots) := by
  refine MetFree.of_bodySF (plainFor_of_name own_pn2) hisR ?_
  intro p e s m args below meth c s₁ Bd hml0 hP hK
  obtain ⟨rfl, hZ, hh⟩ := hP
  have hx := Bd.exec
  have hby := Bd.bytes
  have hml : c.maxLocals = 5 := hml0
  have hown : s.vm.findClass "com/example/settlepath/settlepath/store/KeyIndex$Run" = some m.cls := findClass_of_methodNamed Bd.named
  have hnm := (name_of_methodNamed Bd.named Bd.method).1
  have hlk : meth.locks = false := BodyLoose.notSynchronized Bd
  have X0 : Stand p l e ({ frames := 2, cells := 0, slots := 0, locals := 24 } : Room) s m #[(.ref a0r), (.long q1), (.long q2)] below meth c s₁ [] 0 0 := Stand.of_body Bd
  have e0 : s₁.heap = h0 := by rw [← hh, Bd.state]; rfl
  have N0 := Fr.nil n0
  show own_Ends p e below (own_Fin s (own_Q_rm3 Z a0r q1 q2 h0 n0) ({ frames := 2, cells := 0, slots := 0, locals := 24 } : Room).cells ({ frames := 2, cells := 0, slots := 0, locals := 24 } : Room).slots) _
  refine own_pre (fun t k => castTop (own_ef_rm3 m a0r q1 q2) k) ?_
  have KK0 : Keep h0 h0 [a0r] := Keep.refl _ _
  show own_Ends _ _ _ _ (s₁.setTop (mkF m 0 #[.val (.ref a0r), .val (.long q1), .second, .val (.long q2), .second] []))
  refine own_pre (fun t k => XS.aloadN X0.here hx rfl (hb hby own_d2_0) rfl rfl k) ?_
  show own_Ends _ _ _ _ (s₁.setTop (mkF m 1 #[.val (.ref a0r), .val (.long q1), .second, .val (.long q2), .second] [(.ref a0r)]))
  obtain ⟨_, _, ⟨T5, L5, k5, n5⟩, -, X5, ⟨Lc5, hQ5, l5, y5, z5⟩, st5⟩ := X0.specialBack hx (y := (⟨"java/lang/Record", "<init>", "()V"⟩ : MethodName)) rfl hown (mvT hZ (hw _ (List.mem_of_getElem? (i := 12) rfl))) (mvT hZ (hw _ (List.mem_of_getElem? (i := 13) rfl))) (mvT hZ (hw _ (List.mem_of_getElem? (i := 16) rfl))) (by decide) (backOf (W := 0) (rm2 l Z a0 hw [] a0r h0 n0 Z0) hZ (hw _ (List.mem_of_getElem? (i := 16) rfl)) (hw _ (List.mem_of_getElem? (i := 15) rfl)) (by decide) (by decide)) (g := (mkF m 1 #[.val (.ref a0r), .val (.long q1), .second, .val (.long q2), .second] [(.ref a0r)])) rfl (by rw [hml]; rfl) (Steps.refl _) (a := a0r) (argsL := []) (rest := []) (lenOf own_pd0 rfl) rfl (by show 2 * 0 + _ ≤ _; exact Nat.le_of_eq rfl) (hb hby own_d2_1) (fun _ _ => ⟨rfl, e0, (by decide : 0 + 0 ≤ _), (by decide : 0 + 0 ≤ _)⟩)
  dsimp only [Pt.U, Pt.locs, Pt.cells, Pt.slots] at X5 l5 y5 z5 st5 hQ5
  subst l5 y5 z5
  obtain ⟨rfl, Nq5, e5⟩ := hQ5
  have N5 := Fr.app N0 Nq5
  refine own_pre (fun t k => st5.trans k) ?_
  show own_Ends _ _ _ _ (T5.setTop (mkF m 4 #[.val (.ref a0r), .val (.long q1), .second, .val (.long q2), .second] []))
  refine own_pre (fun t k => XS.aloadN X5.here hx rfl (hb hby own_d2_4) rfl rfl k) ?_
  show own_Ends _ _ _ _ (T5.setTop (mkF m 5 #[.val (.ref a0r), .val (.long q1), .second, .val (.long q2), .second] [(.ref a0r)]))
  refine own_pre (fun t k => XS.lloadN X5.here hx rfl (hb hby own_d2_5) rfl k) ?_
  show own_Ends _ _ _ _ (T5.setTop (mkF m 6 #[.val (.ref a0r), .val (.long q1), .second, .val (.long q2), .second] [(.long q1), (.ref a0r)]))
  obtain ⟨T6, h6, X6, e6, W6, st6⟩ := putF X5 hx hZ hown (host := "") (Or.inl (hw _ (List.mem_of_getElem? (i := 20) rfl))) Via.refl e5 F_number EX (Or.inr ⟨(hw _ (List.mem_of_getElem? (i := 21) rfl)), rfl, hnm⟩) (hw _ (List.mem_of_getElem? (i := 7) rfl)) (ty := .long) (by decide) rfl rfl (g := (mkF m 6 #[.val (.ref a0r), .val (.long q1), .second, .val (.long q2), .second] [(.long q1), (.ref a0r)])) rfl rfl (hb hby own_d2_6)
  refine own_pre st6 ?_
  have fw6 := F_number.same W6
  have f7 := EX.wr W6
  have f8 := F_entries.other W6 (Or.inr (slot_ne (Or.inr (hw _ (List.mem_of_getElem? (i := 23) rfl))) (Or.inr (hw _ (List.mem_of_getElem? (i := 21) rfl))) (by decide) (t := .long) (t' := .long) (by decide) (by decide)))
  have N9 := Fr.snoc X6 N5 g0r
  have Zn10 : n0 ≤ h6.size := by rw [W6.size]; exact Z0
  have K11 : Keep h0 h6 [a0r] := KK0.wr W6 (Or.inl (by simp))
  show own_Ends _ _ _ _ (T6.setTop (mkF m 9 #[.val (.ref a0r), .val (.long q1), .second, .val (.long q2), .second] []))
  refine own_pre (fun t k => XS.aloadN X6.here hx rfl (hb hby own_d2_9) rfl rfl k) ?_
  show own_Ends _ _ _ _ (T6.setTop (mkF m 10 #[.val (.ref a0r), .val (.long q1), .second, .val (.long q2), .second] [(.ref a0r)]))
  refine own_pre (fun t k => XS.lloadN X6.here hx rfl (hb hby own_d2_10) rfl k) ?_
  show own_Ends _ _ _ _ (T6.setTop (mkF m 11 #[.val (.ref a0r), .val (.long q1), .second, .val (.long q2), .second] [(.long q2), (.ref a0r)]))
  obtain ⟨T12, h12, X12, e12, W12, st12⟩ := putF X6 hx hZ hown (host := "") (Or.inl (hw _ (List.mem_of_getElem? (i := 22) rfl))) Via.refl e6 f8 f7 (Or.inr ⟨(hw _ (List.mem_of_getElem? (i := 23) rfl)), rfl, hnm⟩) (hw _ (List.mem_of_getElem? (i := 7) rfl)) (ty := .long) (by decide) rfl rfl (g := (mkF m 11 #[.val (.ref a0r), .val (.long q1), .second, .val (.long q2), .second] [(.long q2), (.ref a0r)])) rfl rfl (hb hby own_d2_11)
  refine own_pre st12 ?_
  have fw12 := f8.same W12
  have f13 := f7.wr W12
  have f14 := fw6.other W12 (Or.inr (slot_ne (Or.inr (hw _ (List.mem_of_getElem? (i := 21) rfl))) (Or.inr (hw _ (List.mem_of_getElem? (i := 23) rfl))) (by decide) (t := .long) (t' := .long) (by decide) (by decide)))
  have N15 := Fr.snoc X12 N9 g0r
  have Zn16 : n0 ≤ h12.size := by rw [W12.size]; exact Zn10
  have K17 : Keep h0 h12 [a0r] := K11.wr W12 (Or.inl (by simp))
  show own_Ends _ _ _ _ (T12.setTop (mkF m 14 #[.val (.ref a0r), .val (.long q1), .second, .val (.long q2), .second] []))
  exact own_retV X12 hx Bd.returns (hb hby own_d2_14) hlk e12 ⟨rfl, N15, K17, f14, fw12⟩ (by decide) (by decide)
theorem own_d5_0 : decode prog_140_method_2_code 0 = .ok (.aload_n 0, 1) := by decide +kernel
theorem own_d5_1 : decode prog_140_method_2_code 1 = .ok (.getfield 15, 3) := by decide +kernel
theorem own_d5_4 : decode prog_140_method_2_code 4 = .ok (.ldc2_w 18, 3) := by decide +kernel
theorem own_d5_7 : decode prog_140_method_2_code 7 = .ok (.ladd, 1) := by decide +kernel
theorem own_d5_8 : decode prog_140_method_2_code 8 = .ok (.lconst 1, 1) := by decide +kernel
theorem own_d5_9 : decode prog_140_method_2_code 9 = .ok (.lsub, 1) := by decide +kernel
theorem own_d5_10 : decode prog_140_method_2_code 10 = .ok (.ldc2_w 18, 3) := by decide +kernel
theorem own_d5_13 : decode prog_140_method_2_code 13 = .ok (.ldiv, 1) := by decide +kernel
theorem own_d5_14 : decode prog_140_method_2_code 14 = .ok (.lreturn, 1) := by decide +kernel
def own_blocks (fe : Int64) : Int64 := ((fe + (255 : Int64)) - (1 : Int64)) / (255 : Int64)
theorem own_ef_rm4 (m : MethodId) (x0 : Addr) : entryFrame m #[(.ref x0)] 1 = mkF m 0 #[.val (.ref x0)] [] := by first | (simp [entryFrame, mkF, argsToLocals, Value.category]; done) | rfl
def own_Q_rm4 (Z : State) (a0r : Addr) (fe : Int64) (h0 : Heap) (n0 : Nat) (v : Option Value) (h : Heap) (L : List Loc) : Prop := v = some (.long (own_blocks fe)) ∧ Fr n0 L ∧ h = h0
set_option maxRecDepth 65536 in
set_option maxHeartbeats 40000000 in
theorem rm4 (l : Launch) (Z : State) (a0 : Array Value) (hw : ∀ d ∈ tables_1, d.before a0 Z = true) (ws : List Jvm.Cond) (a0r : Addr) (fe : Int64) (h0 : Heap) (n0 : Nat) (Z0 : n0 ≤ h0.size) (F_entries : Fld Z h0 a0r "com/example/settlepath/settlepath/store/KeyIndex$Run" "entries" "J" (.long fe)) :
    MetFree l (⟨"com/example/settlepath/settlepath/store/KeyIndex$Run", "blocks", "()J"⟩ : MethodName) (head1 (Jvm.Cond.code (⟨"com/example/settlepath/settlepath/store/KeyIndex$Run", "blocks", "()J"⟩ : MethodName) prog_140_method_2_code 1 (some .long) :: ws) ({ frames := 0, cells := 0, slots := 0, locals := 0 } : Room)) (fun a U => a = #[(.ref a0r)] ∧ Z.Warmed39 U.vm ∧ U.heap = h0) (fun _ _ _ _ _ => True) (fun _ U o U' => ∃ v L, o = .returned v ∧ (own_Q_rm4 Z a0r fe h0 n0) v U'.heap L ∧ FrameEnd U o U' L ({ frames := 0, cells := 0, slots := 0, locals := 0 } : Room).cells ({ frames := 0, cells := 0, slots := 0, locals := 0 } : Room).slots) := by
  refine MetFree.of_bodySF (plainFor_of_name own_pn2) hisR ?_
  intro p e s m args below meth c s₁ Bd hml0 hP hK
  obtain ⟨rfl, hZ, hh⟩ := hP
  have hx := Bd.exec
  have hby := Bd.bytes
  have hml : c.maxLocals = 1 := hml0
  have hown : s.vm.findClass "com/example/settlepath/settlepath/store/KeyIndex$Run" = some m.cls := findClass_of_methodNamed Bd.named
  have hnm := (name_of_methodNamed Bd.named Bd.method).1
  have hlk : meth.locks = false := BodyLoose.notSynchronized Bd
  have X0 : Stand p l e ({ frames := 0, cells := 0, slots := 0, locals := 0 } : Room) s m #[(.ref a0r)] below meth c s₁ [] 0 0 := Stand.of_body Bd
  have e0 : s₁.heap = h0 := by rw [← hh, Bd.state]; rfl
  have N0 := Fr.nil n0
  show own_Ends p e below (own_Fin s (own_Q_rm4 Z a0r fe h0 n0) ({ frames := 0, cells := 0, slots := 0, locals := 0 } : Room).cells ({ frames := 0, cells := 0, slots := 0, locals := 0 } : Room).slots) _
  refine own_pre (fun t k => castTop (own_ef_rm4 m a0r) k) ?_
  have J0 : ∀ (G : Option Value → Heap → List Loc → Prop) (hG : ∀ L, Fr n0 L → G (some (.long (((fe + (255 : Int64)) - (1 : Int64)) / (255 : Int64)))) h0 L), own_Ends p e below (own_Fin s G ({ frames := 0, cells := 0, slots := 0, locals := 0 } : Room).cells ({ frames := 0, cells := 0, slots := 0, locals := 0 } : Room).slots) (s₁.setTop (mkF m 0 #[.val (.ref a0r)] [])) := by
    intro G hG
    show own_Ends _ _ _ _ (s₁.setTop (mkF m 0 #[.val (.ref a0r)] []))
    refine own_pre (fun t k => XS.aloadN X0.here hx rfl (hb hby own_d5_0) rfl rfl k) ?_
    show own_Ends _ _ _ _ (s₁.setTop (mkF m 1 #[.val (.ref a0r)] [(.ref a0r)]))
    obtain ⟨T18, X18, e18, st18⟩ := getF X0 hx hZ hown (host := "") (Or.inl (hw _ (List.mem_of_getElem? (i := 22) rfl))) Via.refl e0 F_entries (g := (mkF m 1 #[.val (.ref a0r)] [(.ref a0r)])) rfl rfl (hb hby own_d5_1)
    refine own_pre st18 ?_
    show own_Ends _ _ _ _ (T18.setTop (mkF m 4 #[.val (.ref a0r)] [(.long fe)]))
    refine own_pre (fun t k => X18.ldc2Long hx hown (mvT hZ (hw _ (List.mem_of_getElem? (i := 29) rfl))) (g := (mkF m 4 #[.val (.ref a0r)] [(.long fe)])) rfl (hb hby own_d5_4) _ k) ?_
    show own_Ends _ _ _ _ (T18.setTop (mkF m 7 #[.val (.ref a0r)] [(.long (255 : Int64)), (.long fe)]))
    refine own_pre (fun t k => XS.ladd X18.here hx rfl (hb hby own_d5_7) rfl k) ?_
    show own_Ends _ _ _ _ (T18.setTop (mkF m 8 #[.val (.ref a0r)] [(.long (fe + (255 : Int64)))]))
    refine own_pre (fun t k => XS.lconst X18.here hx rfl (hb hby own_d5_8) k) ?_
    show own_Ends _ _ _ _ (T18.setTop (mkF m 9 #[.val (.ref a0r)] [(.long (1 : Int64)), (.long (fe + (255 : Int64)))]))
    refine own_pre (fun t k => XS.lsub X18.here hx rfl (hb hby own_d5_9) rfl k) ?_
    show own_Ends _ _ _ _ (T18.setTop (mkF m 10 #[.val (.ref a0r)] [(.long ((fe + (255 : Int64)) - (1 : Int64)))]))
    refine own_pre (fun t k => X18.ldc2Long hx hown (mvT hZ (hw _ (List.mem_of_getElem? (i := 29) rfl))) (g := (mkF m 10 #[.val (.ref a0r)] [(.long ((fe + (255 : Int64)) - (1 : Int64)))])) rfl (hb hby own_d5_10) _ k) ?_
    show own_Ends _ _ _ _ (T18.setTop (mkF m 13 #[.val (.ref a0r)] [(.long (255 : Int64)), (.long ((fe + (255 : Int64)) - (1 : Int64)))]))
    refine own_pre (fun t k => XS.ldiv X18.here hx rfl (hb hby own_d5_13) rfl (by decide) k) ?_
    show own_Ends _ _ _ _ (T18.setTop (mkF m 14 #[.val (.ref a0r)] [(.long (((fe + (255 : Int64)) - (1 : Int64)) / (255 : Int64)))]))
    exact own_retJ X18 hx Bd.returns (hb hby own_d5_14) hlk e18 (hG _ N0) (by decide) (by decide)
  exact J0 _ fun L q => ⟨rfl, q, rfl⟩
theorem own_d6_0 : decode prog_140_method_7_code 0 = .ok (.aload_n 0, 1) := by decide +kernel
theorem own_d6_1 : decode prog_140_method_7_code 1 = .ok (.getfield 15, 3) := by decide +kernel
theorem own_d6_4 : decode prog_140_method_7_code 4 = .ok (.lreturn, 1) := by decide +kernel
def own_entries (fe : Int64) : Int64 := fe
theorem own_ef_rm5 (m : MethodId) (x0 : Addr) : entryFrame m #[(.ref x0)] 1 = mkF m 0 #[.val (.ref x0)] [] := by first | (simp [entryFrame, mkF, argsToLocals, Value.category]; done) | rfl
def own_Q_rm5 (Z : State) (a0r : Addr) (fe : Int64) (h0 : Heap) (n0 : Nat) (v : Option Value) (h : Heap) (L : List Loc) : Prop := v = some (.long (own_entries fe)) ∧ Fr n0 L ∧ h = h0
set_option maxRecDepth 65536 in
set_option maxHeartbeats 40000000 in
theorem rm5 (l : Launch) (Z : State) (a0 : Array Value) (hw : ∀ d ∈ tables_1, d.before a0 Z = true) (ws : List Jvm.Cond) (a0r : Addr) (fe : Int64) (h0 : Heap) (n0 : Nat) (Z0 : n0 ≤ h0.size) (F_entries : Fld Z h0 a0r "com/example/settlepath/settlepath/store/KeyIndex$Run" "entries" "J" (.long fe)) :
    MetFree l (⟨"com/example/settlepath/settlepath/store/KeyIndex$Run", "entries", "()J"⟩ : MethodName) (head1 (Jvm.Cond.code (⟨"com/example/settlepath/settlepath/store/KeyIndex$Run", "entries", "()J"⟩ : MethodName) prog_140_method_7_code 1 (some .long) :: ws) ({ frames := 0, cells := 0, slots := 0, locals := 0 } : Room)) (fun a U => a = #[(.ref a0r)] ∧ Z.Warmed39 U.vm ∧ U.heap = h0) (fun _ _ _ _ _ => True) (fun _ U o U' => ∃ v L, o = .returned v ∧ (own_Q_rm5 Z a0r fe h0 n0) v U'.heap L ∧ FrameEnd U o U' L ({ frames := 0, cells := 0, slots := 0, locals := 0 } : Room).cells ({ frames := 0, cells := 0, slots := 0, locals := 0 } : Room).slots) := by
  refine MetFree.of_bodySF (plainFor_of_name own_pn2) hisR ?_
  intro p e s m args below meth c s₁ Bd hml0 hP hK
  obtain ⟨rfl, hZ, hh⟩ := hP
  have hx := Bd.exec
  have hby := Bd.bytes
  have hml : c.maxLocals = 1 := hml0
  have hown : s.vm.findClass "com/example/settlepath/settlepath/store/KeyIndex$Run" = some m.cls := findClass_of_methodNamed Bd.named
  have hnm := (name_of_methodNamed Bd.named Bd.method).1
  have hlk : meth.locks = false := BodyLoose.notSynchronized Bd
  have X0 : Stand p l e ({ frames := 0, cells := 0, slots := 0, locals := 0 } : Room) s m #[(.ref a0r)] below meth c s₁ [] 0 0 := Stand.of_body Bd
  have e0 : s₁.heap = h0 := by rw [← hh, Bd.state]; rfl
  have N0 := Fr.nil n0
  show own_Ends p e below (own_Fin s (own_Q_rm5 Z a0r fe h0 n0) ({ frames := 0, cells := 0, slots := 0, locals := 0 } : Room).cells ({ frames := 0, cells := 0, slots := 0, locals := 0 } : Room).slots) _
  refine own_pre (fun t k => castTop (own_ef_rm5 m a0r) k) ?_
  have J0 : ∀ (G : Option Value → Heap → List Loc → Prop) (hG : ∀ L, Fr n0 L → G (some (.long (fe))) h0 L), own_Ends p e below (own_Fin s G ({ frames := 0, cells := 0, slots := 0, locals := 0 } : Room).cells ({ frames := 0, cells := 0, slots := 0, locals := 0 } : Room).slots) (s₁.setTop (mkF m 0 #[.val (.ref a0r)] [])) := by
    intro G hG
    show own_Ends _ _ _ _ (s₁.setTop (mkF m 0 #[.val (.ref a0r)] []))
    refine own_pre (fun t k => XS.aloadN X0.here hx rfl (hb hby own_d6_0) rfl rfl k) ?_
    show own_Ends _ _ _ _ (s₁.setTop (mkF m 1 #[.val (.ref a0r)] [(.ref a0r)]))
    obtain ⟨T19, X19, e19, st19⟩ := getF X0 hx hZ hown (host := "") (Or.inl (hw _ (List.mem_of_getElem? (i := 22) rfl))) Via.refl e0 F_entries (g := (mkF m 1 #[.val (.ref a0r)] [(.ref a0r)])) rfl rfl (hb hby own_d6_1)
    refine own_pre st19 ?_
    show own_Ends _ _ _ _ (T19.setTop (mkF m 4 #[.val (.ref a0r)] [(.long fe)]))
    exact own_retJ X19 hx Bd.returns (hb hby own_d6_4) hlk e19 (hG _ N0) (by decide) (by decide)
  exact J0 _ fun L q => ⟨rfl, q, rfl⟩
theorem own_d7_0 : decode prog_140_method_6_code 0 = .ok (.aload_n 0, 1) := by decide +kernel
theorem own_d7_1 : decode prog_140_method_6_code 1 = .ok (.getfield 9, 3) := by decide +kernel
theorem own_d7_4 : decode prog_140_method_6_code 4 = .ok (.lreturn, 1) := by decide +kernel
def own_number (fn : Int64) : Int64 := fn
theorem own_ef_rm6 (m : MethodId) (x0 : Addr) : entryFrame m #[(.ref x0)] 1 = mkF m 0 #[.val (.ref x0)] [] := by first | (simp [entryFrame, mkF, argsToLocals, Value.category]; done) | rfl
def own_Q_rm6 (Z : State) (a0r : Addr) (fn : Int64) (h0 : Heap) (n0 : Nat) (v : Option Value) (h : Heap) (L : List Loc) : Prop := v = some (.long (own_number fn)) ∧ Fr n0 L ∧ h = h0
set_option maxRecDepth 65536 in
set_option maxHeartbeats 40000000 in
theorem rm6 (l : Launch) (Z : State) (a0 : Array Value) (hw : ∀ d ∈ tables_1, d.before a0 Z = true) (ws : List Jvm.Cond) (a0r : Addr) (fn : Int64) (h0 : Heap) (n0 : Nat) (Z0 : n0 ≤ h0.size) (F_number : Fld Z h0 a0r "com/example/settlepath/settlepath/store/KeyIndex$Run" "number" "J" (.long fn)) :
    MetFree l (⟨"com/example/settlepath/settlepath/store/KeyIndex$Run", "number", "()J"⟩ : MethodName) (head1 (Jvm.Cond.code (⟨"com/example/settlepath/settlepath/store/KeyIndex$Run", "number", "()J"⟩ : MethodName) prog_140_method_6_code 1 (some .long) :: ws) ({ frames := 0, cells := 0, slots := 0, locals := 0 } : Room)) (fun a U => a = #[(.ref a0r)] ∧ Z.Warmed39 U.vm ∧ U.heap = h0) (fun _ _ _ _ _ => True) (fun _ U o U' => ∃ v L, o = .returned v ∧ (own_Q_rm6 Z a0r fn h0 n0) v U'.heap L ∧ FrameEnd U o U' L ({ frames := 0, cells := 0, slots := 0, locals := 0 } : Room).cells ({ frames := 0, cells := 0, slots := 0, locals := 0 } : Room).slots) := by
  refine MetFree.of_bodySF (plainFor_of_name own_pn2) hisR ?_
  intro p e s m args below meth c s₁ Bd hml0 hP hK
  obtain ⟨rfl, hZ, hh⟩ := hP
  have hx := Bd.exec
  have hby := Bd.bytes
  have hml : c.maxLocals = 1 := hml0
  have hown : s.vm.findClass "com/example/settlepath/settlepath/store/KeyIndex$Run" = some m.cls := findClass_of_methodNamed Bd.named
  have hnm := (name_of_methodNamed Bd.named Bd.method).1
  have hlk : meth.locks = false := BodyLoose.notSynchronized Bd
  have X0 : Stand p l e ({ frames := 0, cells := 0, slots := 0, locals := 0 } : Room) s m #[(.ref a0r)] below meth c s₁ [] 0 0 := Stand.of_body Bd
  have e0 : s₁.heap = h0 := by rw [← hh, Bd.state]; rfl
  have N0 := Fr.nil n0
  show own_Ends p e below (own_Fin s (own_Q_rm6 Z a0r fn h0 n0) ({ frames := 0, cells := 0, slots := 0, locals := 0 } : Room).cells ({ frames := 0, cells := 0, slots := 0, locals := 0 } : Room).slots) _
  refine own_pre (fun t k => castTop (own_ef_rm6 m a0r) k) ?_
  have J0 : ∀ (G : Option Value → Heap → List Loc → Prop) (hG : ∀ L, Fr n0 L → G (some (.long (fn))) h0 L), own_Ends p e below (own_Fin s G ({ frames := 0, cells := 0, slots := 0, locals := 0 } : Room).cells ({ frames := 0, cells := 0, slots := 0, locals := 0 } : Room).slots) (s₁.setTop (mkF m 0 #[.val (.ref a0r)] [])) := by
    intro G hG
    show own_Ends _ _ _ _ (s₁.setTop (mkF m 0 #[.val (.ref a0r)] []))
    refine own_pre (fun t k => XS.aloadN X0.here hx rfl (hb hby own_d7_0) rfl rfl k) ?_
    show own_Ends _ _ _ _ (s₁.setTop (mkF m 1 #[.val (.ref a0r)] [(.ref a0r)]))
    obtain ⟨T20, X20, e20, st20⟩ := getF X0 hx hZ hown (host := "") (Or.inl (hw _ (List.mem_of_getElem? (i := 20) rfl))) Via.refl e0 F_number (g := (mkF m 1 #[.val (.ref a0r)] [(.ref a0r)])) rfl rfl (hb hby own_d7_1)
    refine own_pre st20 ?_
    show own_Ends _ _ _ _ (T20.setTop (mkF m 4 #[.val (.ref a0r)] [(.long fn)]))
    exact own_retJ X20 hx Bd.returns (hb hby own_d7_4) hlk e20 (hG _ N0) (by decide) (by decide)
  exact J0 _ fun L q => ⟨rfl, q, rfl⟩
theorem own_e64 (x : Int64) : x.toInt < 2 ^ 63 ∧ -2 ^ 63 ≤ x.toInt := ⟨x.toInt_lt, x.le_toInt⟩
/-- what entriesFor hands out -/
theorem own_range (x : Int64) (m : Int32) : 1 ≤ (own_ent x m).toInt ∧ (own_ent x m).toInt ≤ 9223372036854775553 := by
  have l255 : (255 : Int64).toInt = 255 := rfl
  have l1 : (1 : Int64).toInt = 1 := rfl
  have lM : (9223372036854775553 : Int64).toInt = 9223372036854775553 := rfl
  have l2 : (2000 : Int64).toInt = 2000 := rfl
  unfold own_ent
  by_cases h0 : (m &&& 3) = 0
  · rw [if_pos h0]
    have a1 : (x &&& 9223372036854775807).toInt = x.toInt % 2 ^ 63 := Jvm.Kit.i64_mask x _ (by decide) (by decide)
    generalize (x &&& 9223372036854775807) = y at *
    have a2 : (y - (y / 9223372036854775553) * 9223372036854775553).toInt = y.toInt % (9223372036854775553 : Int64).toInt := Jvm.Kit.i64_rem_nonneg (by omega)
    rw [lM] at a2
    generalize (y - (y / 9223372036854775553) * 9223372036854775553) = z at *
    have a3 : (1 + z).toInt = (1 : Int64).toInt + z.toInt := Jvm.Kit.i64_add (by omega) (by omega)
    omega
  · rw [if_neg h0]
    by_cases h1 : (m &&& 3) = 1
    · rw [if_pos h1]
      have a1 : (x &&& 2147483647).toInt = x.toInt % 2 ^ 31 := Jvm.Kit.i64_mask x _ (by decide) (by decide)
      generalize (x &&& 2147483647) = y at *
      have a2 : (y - (y / 2000) * 2000).toInt = y.toInt % (2000 : Int64).toInt := Jvm.Kit.i64_rem_nonneg (by omega)
      rw [l2] at a2
      generalize (y - (y / 2000) * 2000) = z at *
      have a3 : (1 + z).toInt = (1 : Int64).toInt + z.toInt := Jvm.Kit.i64_add (by omega) (by omega)
      omega
    · rw [if_neg h1]
      by_cases h2 : (m &&& 3) = 2
      · rw [if_pos h2]
        have a1 : (x &&& 1023).toInt = x.toInt % 2 ^ 10 := Jvm.Kit.i64_mask x _ (by decide) (by decide)
        generalize (x &&& 1023) = y at *
        have a3 : (9223372036854775553 - y).toInt = (9223372036854775553 : Int64).toInt - y.toInt := Jvm.Kit.i64_sub (by omega) (by omega)
        omega
      · rw [if_neg h2]
        have a1 : (x &&& 1048575).toInt = x.toInt % 2 ^ 20 := Jvm.Kit.i64_mask x _ (by decide) (by decide)
        have a2 : ((own_ushrL x 20) &&& 3).toInt = (own_ushrL x 20).toInt % 2 ^ 2 := Jvm.Kit.i64_mask _ _ (by decide) (by decide)
        generalize (x &&& 1048575) = y at *
        generalize ((own_ushrL x 20) &&& 3) = w at *
        have a3 : (1 + y).toInt = (1 : Int64).toInt + y.toInt := Jvm.Kit.i64_add (by omega) (by omega)
        generalize (1 + y) = y1 at *
        have a4 : (255 * y1).toInt = (255 : Int64).toInt * y1.toInt := Jvm.Kit.i64_mul (by rw [l255]; omega) (by rw [l255]; omega)
        rw [l255] at a4
        generalize (255 * y1) = y2 at *
        have a5 : (y2 - 1).toInt = y2.toInt - (1 : Int64).toInt := Jvm.Kit.i64_sub (by omega) (by omega)
        generalize (y2 - 1) = y3 at *
        have a6 : (y3 + w).toInt = y3.toInt + w.toInt := Jvm.Kit.i64_add (by omega) (by omega)
        omega
theorem own_div255 (e : Int64) (h : 0 ≤ e.toInt) : (e / 255).toInt = e.toInt / 255 := by
  have l255 : (255 : Int64).toInt = 255 := rfl
  rw [Jvm.Kit.i64_div (by rw [l255]; omega), l255, Int.tdiv_eq_ediv_of_nonneg h]
theorem own_rem255 (e : Int64) (h : 0 ≤ e.toInt) : (e - (e / 255) * 255).toInt = e.toInt % 255 := by
  have l255 : (255 : Int64).toInt = 255 := rfl
  rw [Jvm.Kit.i64_rem_nonneg h, l255]
theorem own_blk (e : Int64) (h : 1 ≤ e.toInt ∧ e.toInt ≤ 9223372036854775553) : (own_blocks e).toInt = (e.toInt + 254) / 255 := by
  have l255 : (255 : Int64).toInt = 255 := rfl
  have l1 : (1 : Int64).toInt = 1 := rfl
  have a1 : (e + 255).toInt = e.toInt + (255 : Int64).toInt ∨ True := Or.inr trivial
  unfold own_blocks
  have a2 : (e + 255 - 1 : Int64) = e + 254 := by rw [Int64.sub_eq_add_neg, Int64.add_assoc]; rfl
  rw [a2]
  have l254 : (254 : Int64).toInt = 254 := rfl
  have a3 : (e + 254).toInt = e.toInt + (254 : Int64).toInt := Jvm.Kit.i64_add (by omega) (by omega)
  rw [own_div255 _ (by omega), a3, l254]
theorem own_up (e : Int64) (h : 1 ≤ e.toInt ∧ e.toInt ≤ 9223372036854775553) (hr : ¬ own_cmpL (e - (e / 255) * 255) 0 = 0) : own_cmpL (own_blocks e) ((e / 255) + 1) = 0 := by
  have l1 : (1 : Int64).toInt = 1 := rfl
  rw [own_ceq] at hr ⊢
  have hr' : ¬ e.toInt % 255 = 0 := fun q => hr (Int64.toInt_inj.mp (by rw [own_rem255 _ (by omega), q]; rfl))
  have a1 := own_div255 e (by omega)
  have a2 : ((e / 255) + 1).toInt = (e / 255).toInt + (1 : Int64).toInt := Jvm.Kit.i64_add (by omega) (by omega)
  apply Int64.toInt_inj.mp
  rw [own_blk e h, a2, a1, l1]
  omega
theorem own_same (e : Int64) (h : 1 ≤ e.toInt ∧ e.toInt ≤ 9223372036854775553) (hr : own_cmpL (e - (e / 255) * 255) 0 = 0) : own_cmpL (own_blocks e) (e / 255) = 0 := by
  rw [own_ceq] at hr ⊢
  have hr' : e.toInt % 255 = 0 := by rw [← own_rem255 _ (by omega), hr]; rfl
  apply Int64.toInt_inj.mp
  rw [own_blk e h, own_div255 _ (by omega)]
  omega
theorem own_pd1 : parseMethodDescriptor "(JI)J" = some ⟨[.long, .int], some .long⟩ := by decide +kernel
theorem own_pd2 : parseMethodDescriptor "(JJ)V" = some ⟨[.long, .long], none⟩ := by decide +kernel
theorem own_pd3 : parseMethodDescriptor "()J" = some ⟨[], some .long⟩ := by decide +kernel
theorem own_ef_rm0 (m : MethodId) (x0 : Int64) (x1 : Int64) (x2 : Int32) : entryFrame m #[(.long x0), (.long x1), (.int x2)] maxLocals = mkF m 0 #[.val (.long x0), .second, .val (.long x1), .second, .val (.int x2), .unset, .unset, .unset, .unset, .unset, .unset, .unset, .unset, .unset, .unset, .unset] [] := by first | (simp [entryFrame, mkF, argsToLocals, Value.category, maxLocals]; done) | rfl
def own_Q_rm0 (Z : State) (p0 : Int64) (p1 : Int64) (p2 : Int32) (h0 : Heap) (n0 : Nat) (v : Option Value) (h : Heap) (L : List Loc) : Prop := v = some (.int 1) ∧ Fr n0 L
set_option maxRecDepth 65536 in
set_option maxHeartbeats 40000000 in
theorem rm0 (l : Launch) (Z : State) (a0 : Array Value) (hw : ∀ d ∈ tables_1, d.before a0 Z = true) (ws : List Jvm.Cond) (p0 : Int64) (p1 : Int64) (p2 : Int32) (h0 : Heap) (n0 : Nat) (Z0 : n0 ≤ h0.size) :
    MetFree l x (head1 (Jvm.Cond.code x code maxLocals ret :: ws) room_1) (fun a U => a = #[(.long p0), (.long p1), (.int p2)] ∧ Z.Warmed39 U.vm ∧ U.heap = h0) (fun _ _ _ _ _ => True) (fun _ U o U' => ∃ v L, o = .returned v ∧ (own_Q_rm0 Z p0 p1 p2 h0 n0) v U'.heap L ∧ FrameEnd U o U' L 16 128) := by
  refine MetFree.of_bodySF (plainFor_of_name own_pn0) hisR ?_
  intro p e s m args below meth c s₁ Bd hml0 hP hK
  obtain ⟨rfl, hZ, hh⟩ := hP
  have hx := Bd.exec
  have hby := Bd.bytes
  have hml : c.maxLocals = 16 := hml0
  have hown : s.vm.findClass "com/example/settlepath/settlepath/store/KeyIndexBlocksPinLaw" = some m.cls := findClass_of_methodNamed Bd.named
  have hnm := (name_of_methodNamed Bd.named Bd.method).1
  have hlk : meth.locks = false := BodyLoose.notSynchronized Bd
  have X0 : Stand p l e room_1 s m #[(.long p0), (.long p1), (.int p2)] below meth c s₁ [] 0 0 := Stand.of_body Bd
  have e0 : s₁.heap = h0 := by rw [← hh, Bd.state]; rfl
  have N0 := Fr.nil n0
  show own_Ends p e below (own_Fin s (own_Q_rm0 Z p0 p1 p2 h0 n0) 16 128) _
  refine own_pre (fun t k => castTop (own_ef_rm0 m p0 p1 p2) k) ?_
  show own_Ends _ _ _ _ (s₁.setTop (mkF m 0 #[.val (.long p0), .second, .val (.long p1), .second, .val (.int p2), .unset, .unset, .unset, .unset, .unset, .unset, .unset, .unset, .unset, .unset, .unset] []))
  refine own_pre (fun t k => XS.lloadN X0.here hx rfl (hb hby at_0) rfl k) ?_
  show own_Ends _ _ _ _ (s₁.setTop (mkF m 1 #[.val (.long p0), .second, .val (.long p1), .second, .val (.int p2), .unset, .unset, .unset, .unset, .unset, .unset, .unset, .unset, .unset, .unset, .unset] [(.long p1)]))
  refine own_pre (fun t k => XS.iload X0.here hx rfl (hb hby at_1) rfl k) ?_
  show own_Ends _ _ _ _ (s₁.setTop (mkF m 3 #[.val (.long p0), .second, .val (.long p1), .second, .val (.int p2), .unset, .unset, .unset, .unset, .unset, .unset, .unset, .unset, .unset, .unset, .unset] [(.int p2), (.long p1)]))
  obtain ⟨_, _, ⟨T21, L21, k21, n21⟩, -, X21, ⟨Lc21, hQ21, l21, y21, z21⟩, st21⟩ := Jvm.LawKit.callS X0 hx (y := (⟨"com/example/settlepath/settlepath/store/KeyIndexBlocksPinLaw", "entriesFor", "(JI)J"⟩ : MethodName)) hown (mvT hZ (hw _ (List.mem_of_getElem? (i := 0) rfl))) (mvT hZ (hw _ (List.mem_of_getElem? (i := 1) rfl))) (mvT hZ (hw _ (List.mem_of_getElem? (i := 2) rfl))) (mvT hZ (hw _ (List.mem_of_getElem? (i := 3) rfl))) (by decide) (backOf (W := 0) (rm1 l Z a0 hw [] p1 p2 h0 n0 Z0) hZ (hw _ (List.mem_of_getElem? (i := 3) rfl)) (hw _ (List.mem_of_getElem? (i := 2) rfl)) (by decide) (by decide)) (g := (mkF m 3 #[.val (.long p0), .second, .val (.long p1), .second, .val (.int p2), .unset, .unset, .unset, .unset, .unset, .unset, .unset, .unset, .unset, .unset, .unset] [(.int p2), (.long p1)])) rfl (by rw [hml]; rfl) (argsL := [(.long p1), (.int p2)]) (rest := []) (lenOf own_pd1 rfl) rfl (by show 2 * 0 + _ ≤ _; exact Nat.le_of_eq rfl) (hb hby at_3) (fun _ _ => ⟨rfl, e0, (by decide : 0 + 0 ≤ _), (by decide : 0 + 0 ≤ _)⟩)
  dsimp only [Pt.U, Pt.locs, Pt.cells, Pt.slots] at X21 l21 y21 z21 st21 hQ21
  subst l21 y21 z21
  obtain ⟨rfl, Nq21, e21⟩ := hQ21
  have N21 := Fr.app N0 Nq21
  refine own_pre st21 ?_
  show own_Ends _ _ _ _ (T21.setTop (mkF m 6 #[.val (.long p0), .second, .val (.long p1), .second, .val (.int p2), .unset, .unset, .unset, .unset, .unset, .unset, .unset, .unset, .unset, .unset, .unset] [(.long (own_ent p1 p2))]))
  refine own_pre (fun t k => XS.lstore X21.here hx rfl (hb hby at_6) rfl (l' := #[.val (.long p0), .second, .val (.long p1), .second, .val (.int p2), .val (.long (own_ent p1 p2)), .second, .unset, .unset, .unset, .unset, .unset, .unset, .unset, .unset, .unset]) rfl k) ?_
  show own_Ends _ _ _ _ (T21.setTop (mkF m 8 #[.val (.long p0), .second, .val (.long p1), .second, .val (.int p2), .val (.long (own_ent p1 p2)), .second, .unset, .unset, .unset, .unset, .unset, .unset, .unset, .unset, .unset] []))
  generalize he5 : (own_ent p1 p2) = e5
  show own_Ends _ _ _ _ (T21.setTop (mkF m 8 #[.val (.long p0), .second, .val (.long p1), .second, .val (.int p2), .val (.long e5), .second, .unset, .unset, .unset, .unset, .unset, .unset, .unset, .unset, .unset] []))
  obtain ⟨T22, h22, X22, e22, E22, A22, D22, -, st22⟩ := newO X21 hx hZ hown (hw _ (List.mem_of_getElem? (i := 6) rfl)) (hw _ (List.mem_of_getElem? (i := 7) rfl)) (hw _ (List.mem_of_getElem? (i := 8) rfl)) e21 (g := (mkF m 8 #[.val (.long p0), .second, .val (.long p1), .second, .val (.int p2), .val (.long e5), .second, .unset, .unset, .unset, .unset, .unset, .unset, .unset, .unset, .unset] [])) rfl (hb hby at_8) (by decide) (by decide)
  obtain ⟨b22, g22⟩ : ∃ z, z = h0.size := ⟨_, rfl⟩
  rw [← g22] at A22 D22 st22
  refine own_pre st22 ?_
  have L23 : n0 ≤ b22 := Nat.le_trans Z0 (Nat.le_of_eq g22.symm)
  have Zn24 : n0 ≤ h22.size := Nat.le_trans Z0 E22.1
  have f25 : Fld Z h22 b22 "com/example/settlepath/settlepath/store/KeyIndex$Run" "number" "J" (.long (0 : Int64)) := D22 (Or.inr (hw _ (List.mem_of_getElem? (i := 21) rfl))) (ty := .long) (by decide)
  have f26 : Fld Z h22 b22 "com/example/settlepath/settlepath/store/KeyIndex$Run" "entries" "J" (.long (0 : Int64)) := D22 (Or.inr (hw _ (List.mem_of_getElem? (i := 23) rfl))) (ty := .long) (by decide)
  show own_Ends _ _ _ _ (T22.setTop (mkF m 11 #[.val (.long p0), .second, .val (.long p1), .second, .val (.int p2), .val (.long e5), .second, .unset, .unset, .unset, .unset, .unset, .unset, .unset, .unset, .unset] [(.ref b22)]))
  refine own_pre (fun t k => XS.dup X22.here hx rfl (hb hby at_11) rfl rfl k) ?_
  show own_Ends _ _ _ _ (T22.setTop (mkF m 12 #[.val (.long p0), .second, .val (.long p1), .second, .val (.int p2), .val (.long e5), .second, .unset, .unset, .unset, .unset, .unset, .unset, .unset, .unset, .unset] [(.ref b22), (.ref b22)]))
  refine own_pre (fun t k => XS.lloadN X22.here hx rfl (hb hby at_12) rfl k) ?_
  show own_Ends _ _ _ _ (T22.setTop (mkF m 13 #[.val (.long p0), .second, .val (.long p1), .second, .val (.int p2), .val (.long e5), .second, .unset, .unset, .unset, .unset, .unset, .unset, .unset, .unset, .unset] [(.long p0), (.ref b22), (.ref b22)]))
  refine own_pre (fun t k => XS.lload X22.here hx rfl (hb hby at_13) rfl k) ?_
  show own_Ends _ _ _ _ (T22.setTop (mkF m 15 #[.val (.long p0), .second, .val (.long p1), .second, .val (.int p2), .val (.long e5), .second, .unset, .unset, .unset, .unset, .unset, .unset, .unset, .unset, .unset] [(.long e5), (.long p0), (.ref b22), (.ref b22)]))
  obtain ⟨_, _, ⟨T27, L27, k27, n27⟩, -, X27, ⟨Lc27, hQ27, l27, y27, z27⟩, st27⟩ := X22.specialBack hx (y := (⟨"com/example/settlepath/settlepath/store/KeyIndex$Run", "<init>", "(JJ)V"⟩ : MethodName)) rfl hown (mvT hZ (hw _ (List.mem_of_getElem? (i := 9) rfl))) (mvT hZ (hw _ (List.mem_of_getElem? (i := 10) rfl))) (mvT hZ (hw _ (List.mem_of_getElem? (i := 11) rfl))) (by decide) (backOf (W := 1) (rm3 l Z a0 hw [] b22 p0 e5 h22 n0 Zn24 A22 L23 f25 f26) hZ (hw _ (List.mem_of_getElem? (i := 11) rfl)) (hw _ (List.mem_of_getElem? (i := 8) rfl)) (by decide) (by decide)) (g := (mkF m 15 #[.val (.long p0), .second, .val (.long p1), .second, .val (.int p2), .val (.long e5), .second, .unset, .unset, .unset, .unset, .unset, .unset, .unset, .unset, .unset] [(.long e5), (.long p0), (.ref b22), (.ref b22)])) rfl (by rw [hml]; rfl) (Steps.refl _) (a := b22) (argsL := [(.long p0), (.long e5)]) (rest := [(.ref b22)]) (lenOf own_pd2 rfl) rfl (by show 2 * 0 + _ ≤ _; exact Nat.le_of_eq rfl) (hb hby at_15) (fun _ _ => ⟨rfl, e22, (by decide : 1 + 0 ≤ _), (by decide : 2 + 0 ≤ _)⟩)
  dsimp only [Pt.U, Pt.locs, Pt.cells, Pt.slots] at X27 l27 y27 z27 st27 hQ27
  subst l27 y27 z27
  obtain ⟨rfl, Nq27, Kq27, f28, f29⟩ := hQ27
  have N27 := Fr.app N21 Nq27
  have f30 := A22.keep Kq27
  have Zn27 : n0 ≤ T27.heap.size := Nat.le_trans Zn24 Kq27.1
  refine own_pre (fun t k => st27.trans k) ?_
  show own_Ends _ _ _ _ (T27.setTop (mkF m 18 #[.val (.long p0), .second, .val (.long p1), .second, .val (.int p2), .val (.long e5), .second, .unset, .unset, .unset, .unset, .unset, .unset, .unset, .unset, .unset] [(.ref b22)]))
  refine own_pre (fun t k => XS.astore X27.here hx rfl (hb hby at_18) rfl rfl (l' := #[.val (.long p0), .second, .val (.long p1), .second, .val (.int p2), .val (.long e5), .second, .val (.ref b22), .unset, .unset, .unset, .unset, .unset, .unset, .unset, .unset]) rfl k) ?_
  show own_Ends _ _ _ _ (T27.setTop (mkF m 20 #[.val (.long p0), .second, .val (.long p1), .second, .val (.int p2), .val (.long e5), .second, .val (.ref b22), .unset, .unset, .unset, .unset, .unset, .unset, .unset, .unset] []))
  refine own_pre (fun t k => XS.aload X27.here hx rfl (hb hby at_20) rfl rfl k) ?_
  show own_Ends _ _ _ _ (T27.setTop (mkF m 22 #[.val (.long p0), .second, .val (.long p1), .second, .val (.int p2), .val (.long e5), .second, .val (.ref b22), .unset, .unset, .unset, .unset, .unset, .unset, .unset, .unset] [(.ref b22)]))
  obtain ⟨cq31, kq31, q31a, q31b, q31c⟩ := isOf hZ rfl f30
  obtain ⟨_, _, ⟨T31, L31, k31, n31⟩, -, X31, ⟨Lc31, hQ31, l31, y31, z31⟩, st31⟩ := X27.virtualBack hx (y := (⟨"com/example/settlepath/settlepath/store/KeyIndex$Run", "blocks", "()J"⟩ : MethodName)) (z := (⟨"com/example/settlepath/settlepath/store/KeyIndex$Run", "blocks", "()J"⟩ : MethodName)) hown (mvT hZ (hw _ (List.mem_of_getElem? (i := 24) rfl))) (mvT hZ (hw _ (List.mem_of_getElem? (i := 25) rfl))) (notFace_of_selects (args := #[]) (mvT hZ (hw _ (List.mem_of_getElem? (i := 27) rfl)))) (mvT hZ (hw _ (List.mem_of_getElem? (i := 27) rfl))) (mvT hZ (hw _ (List.mem_of_getElem? (i := 26) rfl))) (by decide) (backOf (W := 0) (rm4 l Z a0 hw [] b22 e5 T27.heap n0 Zn27 f29) hZ (hw _ (List.mem_of_getElem? (i := 28) rfl)) (hw _ (List.mem_of_getElem? (i := 8) rfl)) (by decide) (by decide)) q31a q31c (g := (mkF m 22 #[.val (.long p0), .second, .val (.long p1), .second, .val (.int p2), .val (.long e5), .second, .val (.ref b22), .unset, .unset, .unset, .unset, .unset, .unset, .unset, .unset] [(.ref b22)])) rfl (by rw [hml]; rfl) (Steps.refl _) (argsL := []) (rest := []) (lenOf own_pd3 rfl) rfl (by show 2 * 0 + _ ≤ _; exact Nat.le_of_eq rfl) (hb hby at_22) (fun _ _ => ⟨rfl, rfl, (by decide : 1 + 0 ≤ _), (by decide : 2 + 0 ≤ _)⟩)
  dsimp only [Pt.U, Pt.locs, Pt.cells, Pt.slots] at X31 l31 y31 z31 st31 hQ31
  subst l31 y31 z31
  obtain ⟨rfl, Nq31, e31⟩ := hQ31
  have N31 := Fr.app N27 Nq31
  refine own_pre (fun t k => st31.trans k) ?_
  show own_Ends _ _ _ _ (T31.setTop (mkF m 25 #[.val (.long p0), .second, .val (.long p1), .second, .val (.int p2), .val (.long e5), .second, .val (.ref b22), .unset, .unset, .unset, .unset, .unset, .unset, .unset, .unset] [(.long (own_blocks e5))]))
  refine own_pre (fun t k => XS.lstore X31.here hx rfl (hb hby at_25) rfl (l' := #[.val (.long p0), .second, .val (.long p1), .second, .val (.int p2), .val (.long e5), .second, .val (.ref b22), .val (.long (own_blocks e5)), .second, .unset, .unset, .unset, .unset, .unset, .unset]) rfl k) ?_
  show own_Ends _ _ _ _ (T31.setTop (mkF m 27 #[.val (.long p0), .second, .val (.long p1), .second, .val (.int p2), .val (.long e5), .second, .val (.ref b22), .val (.long (own_blocks e5)), .second, .unset, .unset, .unset, .unset, .unset, .unset] []))
  refine own_pre (fun t k => XS.lload X31.here hx rfl (hb hby at_27) rfl k) ?_
  show own_Ends _ _ _ _ (T31.setTop (mkF m 29 #[.val (.long p0), .second, .val (.long p1), .second, .val (.int p2), .val (.long e5), .second, .val (.ref b22), .val (.long (own_blocks e5)), .second, .unset, .unset, .unset, .unset, .unset, .unset] [(.long e5)]))
  refine own_pre (fun t k => X31.ldc2Long hx hown (mvT hZ (hw _ (List.mem_of_getElem? (i := 30) rfl))) (g := (mkF m 29 #[.val (.long p0), .second, .val (.long p1), .second, .val (.int p2), .val (.long e5), .second, .val (.ref b22), .val (.long (own_blocks e5)), .second, .unset, .unset, .unset, .unset, .unset, .unset] [(.long e5)])) rfl (hb hby at_29) _ k) ?_
  show own_Ends _ _ _ _ (T31.setTop (mkF m 32 #[.val (.long p0), .second, .val (.long p1), .second, .val (.int p2), .val (.long e5), .second, .val (.ref b22), .val (.long (own_blocks e5)), .second, .unset, .unset, .unset, .unset, .unset, .unset] [(.long (255 : Int64)), (.long e5)]))
  refine own_pre (fun t k => XS.ldiv X31.here hx rfl (hb hby at_32) rfl (by decide) k) ?_
  show own_Ends _ _ _ _ (T31.setTop (mkF m 33 #[.val (.long p0), .second, .val (.long p1), .second, .val (.int p2), .val (.long e5), .second, .val (.ref b22), .val (.long (own_blocks e5)), .second, .unset, .unset, .unset, .unset, .unset, .unset] [(.long (e5 / (255 : Int64)))]))
  refine own_pre (fun t k => XS.lstore X31.here hx rfl (hb hby at_33) rfl (l' := #[.val (.long p0), .second, .val (.long p1), .second, .val (.int p2), .val (.long e5), .second, .val (.ref b22), .val (.long (own_blocks e5)), .second, .val (.long (e5 / (255 : Int64))), .second, .unset, .unset, .unset, .unset]) rfl k) ?_
  show own_Ends _ _ _ _ (T31.setTop (mkF m 35 #[.val (.long p0), .second, .val (.long p1), .second, .val (.int p2), .val (.long e5), .second, .val (.ref b22), .val (.long (own_blocks e5)), .second, .val (.long (e5 / (255 : Int64))), .second, .unset, .unset, .unset, .unset] []))
  refine own_pre (fun t k => XS.lload X31.here hx rfl (hb hby at_35) rfl k) ?_
  show own_Ends _ _ _ _ (T31.setTop (mkF m 37 #[.val (.long p0), .second, .val (.long p1), .second, .val (.int p2), .val (.long e5), .second, .val (.ref b22), .val (.long (own_blocks e5)), .second, .val (.long (e5 / (255 : Int64))), .second, .unset, .unset, .unset, .unset] [(.long e5)]))
  refine own_pre (fun t k => X31.ldc2Long hx hown (mvT hZ (hw _ (List.mem_of_getElem? (i := 30) rfl))) (g := (mkF m 37 #[.val (.long p0), .second, .val (.long p1), .second, .val (.int p2), .val (.long e5), .second, .val (.ref b22), .val (.long (own_blocks e5)), .second, .val (.long (e5 / (255 : Int64))), .second, .unset, .unset, .unset, .unset] [(.long e5)])) rfl (hb hby at_37) _ k) ?_
  show own_Ends _ _ _ _ (T31.setTop (mkF m 40 #[.val (.long p0), .second, .val (.long p1), .second, .val (.int p2), .val (.long e5), .second, .val (.ref b22), .val (.long (own_blocks e5)), .second, .val (.long (e5 / (255 : Int64))), .second, .unset, .unset, .unset, .unset] [(.long (255 : Int64)), (.long e5)]))
  refine own_pre (fun t k => XS.lrem X31.here hx rfl (hb hby at_40) rfl (by decide) k) ?_
  show own_Ends _ _ _ _ (T31.setTop (mkF m 41 #[.val (.long p0), .second, .val (.long p1), .second, .val (.int p2), .val (.long e5), .second, .val (.ref b22), .val (.long (own_blocks e5)), .second, .val (.long (e5 / (255 : Int64))), .second, .unset, .unset, .unset, .unset] [(.long (e5 - (e5 / (255 : Int64)) * (255 : Int64)))]))
  refine own_pre (fun t k => XS.lstore X31.here hx rfl (hb hby at_41) rfl (l' := #[.val (.long p0), .second, .val (.long p1), .second, .val (.int p2), .val (.long e5), .second, .val (.ref b22), .val (.long (own_blocks e5)), .second, .val (.long (e5 / (255 : Int64))), .second, .val (.long (e5 - (e5 / (255 : Int64)) * (255 : Int64))), .second, .unset, .unset]) rfl k) ?_
  show own_Ends _ _ _ _ (T31.setTop (mkF m 43 #[.val (.long p0), .second, .val (.long p1), .second, .val (.int p2), .val (.long e5), .second, .val (.ref b22), .val (.long (own_blocks e5)), .second, .val (.long (e5 / (255 : Int64))), .second, .val (.long (e5 - (e5 / (255 : Int64)) * (255 : Int64))), .second, .unset, .unset] []))
  refine own_pre (fun t k => XS.lload X31.here hx rfl (hb hby at_43) rfl k) ?_
  show own_Ends _ _ _ _ (T31.setTop (mkF m 45 #[.val (.long p0), .second, .val (.long p1), .second, .val (.int p2), .val (.long e5), .second, .val (.ref b22), .val (.long (own_blocks e5)), .second, .val (.long (e5 / (255 : Int64))), .second, .val (.long (e5 - (e5 / (255 : Int64)) * (255 : Int64))), .second, .unset, .unset] [(.long (e5 - (e5 / (255 : Int64)) * (255 : Int64)))]))
  refine own_pre (fun t k => XS.lconst X31.here hx rfl (hb hby at_45) k) ?_
  show own_Ends _ _ _ _ (T31.setTop (mkF m 46 #[.val (.long p0), .second, .val (.long p1), .second, .val (.int p2), .val (.long e5), .second, .val (.ref b22), .val (.long (own_blocks e5)), .second, .val (.long (e5 / (255 : Int64))), .second, .val (.long (e5 - (e5 / (255 : Int64)) * (255 : Int64))), .second, .unset, .unset] [(.long (0 : Int64)), (.long (e5 - (e5 / (255 : Int64)) * (255 : Int64)))]))
  refine own_pre (fun t k => XS.lcmp X31.here hx rfl (hb hby at_46) rfl k) ?_
  show own_Ends _ _ _ _ (T31.setTop (mkF m 47 #[.val (.long p0), .second, .val (.long p1), .second, .val (.int p2), .val (.long e5), .second, .val (.ref b22), .val (.long (own_blocks e5)), .second, .val (.long (e5 / (255 : Int64))), .second, .val (.long (e5 - (e5 / (255 : Int64)) * (255 : Int64))), .second, .unset, .unset] [(.int (own_cmpL (e5 - (e5 / (255 : Int64)) * (255 : Int64)) (0 : Int64)))]))
  by_cases hc32 : (own_cmpL (e5 - (e5 / (255 : Int64)) * (255 : Int64)) (0 : Int64)) = (0 : Int32)
  · skip
    refine own_pre (fun t k => XS.ifYes X31.here hx rfl (pc0 := 47) (pc' := 57) rfl (hb hby at_47) rfl ((if0 _ _).trans (teq hc32).1) (by decide) (by decide) k) ?_
    show own_Ends _ _ _ _ (T31.setTop (mkF m 57 #[.val (.long p0), .second, .val (.long p1), .second, .val (.int p2), .val (.long e5), .second, .val (.ref b22), .val (.long (own_blocks e5)), .second, .val (.long (e5 / (255 : Int64))), .second, .val (.long (e5 - (e5 / (255 : Int64)) * (255 : Int64))), .second, .unset, .unset] []))
    refine own_pre (fun t k => XS.lload X31.here hx rfl (hb hby at_57) rfl k) ?_
    show own_Ends _ _ _ _ (T31.setTop (mkF m 59 #[.val (.long p0), .second, .val (.long p1), .second, .val (.int p2), .val (.long e5), .second, .val (.ref b22), .val (.long (own_blocks e5)), .second, .val (.long (e5 / (255 : Int64))), .second, .val (.long (e5 - (e5 / (255 : Int64)) * (255 : Int64))), .second, .unset, .unset] [(.long (e5 / (255 : Int64)))]))
    refine own_pre (fun t k => XS.lstore X31.here hx rfl (hb hby at_59) rfl (l' := #[.val (.long p0), .second, .val (.long p1), .second, .val (.int p2), .val (.long e5), .second, .val (.ref b22), .val (.long (own_blocks e5)), .second, .val (.long (e5 / (255 : Int64))), .second, .val (.long (e5 - (e5 / (255 : Int64)) * (255 : Int64))), .second, .val (.long (e5 / (255 : Int64))), .second]) rfl k) ?_
    show own_Ends _ _ _ _ (T31.setTop (mkF m 61 #[.val (.long p0), .second, .val (.long p1), .second, .val (.int p2), .val (.long e5), .second, .val (.ref b22), .val (.long (own_blocks e5)), .second, .val (.long (e5 / (255 : Int64))), .second, .val (.long (e5 - (e5 / (255 : Int64)) * (255 : Int64))), .second, .val (.long (e5 / (255 : Int64))), .second] []))
    refine own_pre (fun t k => XS.lload X31.here hx rfl (hb hby at_61) rfl k) ?_
    show own_Ends _ _ _ _ (T31.setTop (mkF m 63 #[.val (.long p0), .second, .val (.long p1), .second, .val (.int p2), .val (.long e5), .second, .val (.ref b22), .val (.long (own_blocks e5)), .second, .val (.long (e5 / (255 : Int64))), .second, .val (.long (e5 - (e5 / (255 : Int64)) * (255 : Int64))), .second, .val (.long (e5 / (255 : Int64))), .second] [(.long (own_blocks e5))]))
    refine own_pre (fun t k => XS.lload X31.here hx rfl (hb hby at_63) rfl k) ?_
    show own_Ends _ _ _ _ (T31.setTop (mkF m 65 #[.val (.long p0), .second, .val (.long p1), .second, .val (.int p2), .val (.long e5), .second, .val (.ref b22), .val (.long (own_blocks e5)), .second, .val (.long (e5 / (255 : Int64))), .second, .val (.long (e5 - (e5 / (255 : Int64)) * (255 : Int64))), .second, .val (.long (e5 / (255 : Int64))), .second] [(.long (e5 / (255 : Int64))), (.long (own_blocks e5))]))
    refine own_pre (fun t k => XS.lcmp X31.here hx rfl (hb hby at_65) rfl k) ?_
    show own_Ends _ _ _ _ (T31.setTop (mkF m 66 #[.val (.long p0), .second, .val (.long p1), .second, .val (.int p2), .val (.long e5), .second, .val (.ref b22), .val (.long (own_blocks e5)), .second, .val (.long (e5 / (255 : Int64))), .second, .val (.long (e5 - (e5 / (255 : Int64)) * (255 : Int64))), .second, .val (.long (e5 / (255 : Int64))), .second] [(.int (own_cmpL (own_blocks e5) (e5 / (255 : Int64))))]))
    refine own_pre (fun t k => XS.ifNo X31.here hx rfl (hb hby at_66) rfl ((if0 _ _).trans (teq (own_same e5 (he5 ▸ own_range p1 p2) hc32 : (own_cmpL (own_blocks e5) (e5 / (255 : Int64))) = (0 : Int32))).2) k) ?_
    show own_Ends _ _ _ _ (T31.setTop (mkF m 69 #[.val (.long p0), .second, .val (.long p1), .second, .val (.int p2), .val (.long e5), .second, .val (.ref b22), .val (.long (own_blocks e5)), .second, .val (.long (e5 / (255 : Int64))), .second, .val (.long (e5 - (e5 / (255 : Int64)) * (255 : Int64))), .second, .val (.long (e5 / (255 : Int64))), .second] []))
    refine own_pre (fun t k => XS.aload X31.here hx rfl (hb hby at_69) rfl rfl k) ?_
    show own_Ends _ _ _ _ (T31.setTop (mkF m 71 #[.val (.long p0), .second, .val (.long p1), .second, .val (.int p2), .val (.long e5), .second, .val (.ref b22), .val (.long (own_blocks e5)), .second, .val (.long (e5 / (255 : Int64))), .second, .val (.long (e5 - (e5 / (255 : Int64)) * (255 : Int64))), .second, .val (.long (e5 / (255 : Int64))), .second] [(.ref b22)]))
    obtain ⟨cq33, kq33, q33a, q33b, q33c⟩ := isOf hZ e31 f30
    obtain ⟨_, _, ⟨T33, L33, k33, n33⟩, -, X33, ⟨Lc33, hQ33, l33, y33, z33⟩, st33⟩ := X31.virtualBack hx (y := (⟨"com/example/settlepath/settlepath/store/KeyIndex$Run", "entries", "()J"⟩ : MethodName)) (z := (⟨"com/example/settlepath/settlepath/store/KeyIndex$Run", "entries", "()J"⟩ : MethodName)) hown (mvT hZ (hw _ (List.mem_of_getElem? (i := 31) rfl))) (mvT hZ (hw _ (List.mem_of_getElem? (i := 32) rfl))) (notFace_of_selects (args := #[]) (mvT hZ (hw _ (List.mem_of_getElem? (i := 34) rfl)))) (mvT hZ (hw _ (List.mem_of_getElem? (i := 34) rfl))) (mvT hZ (hw _ (List.mem_of_getElem? (i := 33) rfl))) (by decide) (backOf (W := 0) (rm5 l Z a0 hw [] b22 e5 T27.heap n0 Zn27 f29) hZ (hw _ (List.mem_of_getElem? (i := 35) rfl)) (hw _ (List.mem_of_getElem? (i := 8) rfl)) (by decide) (by decide)) q33a q33c (g := (mkF m 71 #[.val (.long p0), .second, .val (.long p1), .second, .val (.int p2), .val (.long e5), .second, .val (.ref b22), .val (.long (own_blocks e5)), .second, .val (.long (e5 / (255 : Int64))), .second, .val (.long (e5 - (e5 / (255 : Int64)) * (255 : Int64))), .second, .val (.long (e5 / (255 : Int64))), .second] [(.ref b22)])) rfl (by rw [hml]; rfl) (Steps.refl _) (argsL := []) (rest := []) (lenOf own_pd3 rfl) rfl (by show 2 * 0 + _ ≤ _; exact Nat.le_of_eq rfl) (hb hby at_71) (fun _ _ => ⟨rfl, e31, (by decide : 1 + 0 ≤ _), (by decide : 2 + 0 ≤ _)⟩)
    dsimp only [Pt.U, Pt.locs, Pt.cells, Pt.slots] at X33 l33 y33 z33 st33 hQ33
    subst l33 y33 z33
    obtain ⟨rfl, Nq33, e33⟩ := hQ33
    have N33 := Fr.app N31 Nq33
    refine own_pre (fun t k => st33.trans k) ?_
    show own_Ends _ _ _ _ (T33.setTop (mkF m 74 #[.val (.long p0), .second, .val (.long p1), .second, .val (.int p2), .val (.long e5), .second, .val (.ref b22), .val (.long (own_blocks e5)), .second, .val (.long (e5 / (255 : Int64))), .second, .val (.long (e5 - (e5 / (255 : Int64)) * (255 : Int64))), .second, .val (.long (e5 / (255 : Int64))), .second] [(.long (own_entries e5))]))
    refine own_pre (fun t k => XS.lload X33.here hx rfl (hb hby at_74) rfl k) ?_
    show own_Ends _ _ _ _ (T33.setTop (mkF m 76 #[.val (.long p0), .second, .val (.long p1), .second, .val (.int p2), .val (.long e5), .second, .val (.ref b22), .val (.long (own_blocks e5)), .second, .val (.long (e5 / (255 : Int64))), .second, .val (.long (e5 - (e5 / (255 : Int64)) * (255 : Int64))), .second, .val (.long (e5 / (255 : Int64))), .second] [(.long e5), (.long (own_entries e5))]))
    refine own_pre (fun t k => XS.lcmp X33.here hx rfl (hb hby at_76) rfl k) ?_
    show own_Ends _ _ _ _ (T33.setTop (mkF m 77 #[.val (.long p0), .second, .val (.long p1), .second, .val (.int p2), .val (.long e5), .second, .val (.ref b22), .val (.long (own_blocks e5)), .second, .val (.long (e5 / (255 : Int64))), .second, .val (.long (e5 - (e5 / (255 : Int64)) * (255 : Int64))), .second, .val (.long (e5 / (255 : Int64))), .second] [(.int (own_cmpL (own_entries e5) e5))]))
    refine own_pre (fun t k => XS.ifNo X33.here hx rfl (hb hby at_77) rfl ((if0 _ _).trans (teq ((own_ceq _ _).mpr rfl : (own_cmpL (own_entries e5) e5) = (0 : Int32))).2) k) ?_
    show own_Ends _ _ _ _ (T33.setTop (mkF m 80 #[.val (.long p0), .second, .val (.long p1), .second, .val (.int p2), .val (.long e5), .second, .val (.ref b22), .val (.long (own_blocks e5)), .second, .val (.long (e5 / (255 : Int64))), .second, .val (.long (e5 - (e5 / (255 : Int64)) * (255 : Int64))), .second, .val (.long (e5 / (255 : Int64))), .second] []))
    refine own_pre (fun t k => XS.aload X33.here hx rfl (hb hby at_80) rfl rfl k) ?_
    show own_Ends _ _ _ _ (T33.setTop (mkF m 82 #[.val (.long p0), .second, .val (.long p1), .second, .val (.int p2), .val (.long e5), .second, .val (.ref b22), .val (.long (own_blocks e5)), .second, .val (.long (e5 / (255 : Int64))), .second, .val (.long (e5 - (e5 / (255 : Int64)) * (255 : Int64))), .second, .val (.long (e5 / (255 : Int64))), .second] [(.ref b22)]))
    obtain ⟨cq34, kq34, q34a, q34b, q34c⟩ := isOf hZ e33 f30
    obtain ⟨_, _, ⟨T34, L34, k34, n34⟩, -, X34, ⟨Lc34, hQ34, l34, y34, z34⟩, st34⟩ := X33.virtualBack hx (y := (⟨"com/example/settlepath/settlepath/store/KeyIndex$Run", "number", "()J"⟩ : MethodName)) (z := (⟨"com/example/settlepath/settlepath/store/KeyIndex$Run", "number", "()J"⟩ : MethodName)) hown (mvT hZ (hw _ (List.mem_of_getElem? (i := 36) rfl))) (mvT hZ (hw _ (List.mem_of_getElem? (i := 37) rfl))) (notFace_of_selects (args := #[]) (mvT hZ (hw _ (List.mem_of_getElem? (i := 39) rfl)))) (mvT hZ (hw _ (List.mem_of_getElem? (i := 39) rfl))) (mvT hZ (hw _ (List.mem_of_getElem? (i := 38) rfl))) (by decide) (backOf (W := 0) (rm6 l Z a0 hw [] b22 p0 T27.heap n0 Zn27 f28) hZ (hw _ (List.mem_of_getElem? (i := 40) rfl)) (hw _ (List.mem_of_getElem? (i := 8) rfl)) (by decide) (by decide)) q34a q34c (g := (mkF m 82 #[.val (.long p0), .second, .val (.long p1), .second, .val (.int p2), .val (.long e5), .second, .val (.ref b22), .val (.long (own_blocks e5)), .second, .val (.long (e5 / (255 : Int64))), .second, .val (.long (e5 - (e5 / (255 : Int64)) * (255 : Int64))), .second, .val (.long (e5 / (255 : Int64))), .second] [(.ref b22)])) rfl (by rw [hml]; rfl) (Steps.refl _) (argsL := []) (rest := []) (lenOf own_pd3 rfl) rfl (by show 2 * 0 + _ ≤ _; exact Nat.le_of_eq rfl) (hb hby at_82) (fun _ _ => ⟨rfl, e33, (by decide : 1 + 0 ≤ _), (by decide : 2 + 0 ≤ _)⟩)
    dsimp only [Pt.U, Pt.locs, Pt.cells, Pt.slots] at X34 l34 y34 z34 st34 hQ34
    subst l34 y34 z34
    obtain ⟨rfl, Nq34, e34⟩ := hQ34
    have N34 := Fr.app N33 Nq34
    refine own_pre (fun t k => st34.trans k) ?_
    show own_Ends _ _ _ _ (T34.setTop (mkF m 85 #[.val (.long p0), .second, .val (.long p1), .second, .val (.int p2), .val (.long e5), .second, .val (.ref b22), .val (.long (own_blocks e5)), .second, .val (.long (e5 / (255 : Int64))), .second, .val (.long (e5 - (e5 / (255 : Int64)) * (255 : Int64))), .second, .val (.long (e5 / (255 : Int64))), .second] [(.long (own_number p0))]))
    refine own_pre (fun t k => XS.lloadN X34.here hx rfl (hb hby at_85) rfl k) ?_
    show own_Ends _ _ _ _ (T34.setTop (mkF m 86 #[.val (.long p0), .second, .val (.long p1), .second, .val (.int p2), .val (.long e5), .second, .val (.ref b22), .val (.long (own_blocks e5)), .second, .val (.long (e5 / (255 : Int64))), .second, .val (.long (e5 - (e5 / (255 : Int64)) * (255 : Int64))), .second, .val (.long (e5 / (255 : Int64))), .second] [(.long p0), (.long (own_number p0))]))
    refine own_pre (fun t k => XS.lcmp X34.here hx rfl (hb hby at_86) rfl k) ?_
    show own_Ends _ _ _ _ (T34.setTop (mkF m 87 #[.val (.long p0), .second, .val (.long p1), .second, .val (.int p2), .val (.long e5), .second, .val (.ref b22), .val (.long (own_blocks e5)), .second, .val (.long (e5 / (255 : Int64))), .second, .val (.long (e5 - (e5 / (255 : Int64)) * (255 : Int64))), .second, .val (.long (e5 / (255 : Int64))), .second] [(.int (own_cmpL (own_number p0) p0))]))
    refine own_pre (fun t k => XS.ifNo X34.here hx rfl (hb hby at_87) rfl ((if0 _ _).trans (teq ((own_ceq _ _).mpr rfl : (own_cmpL (own_number p0) p0) = (0 : Int32))).2) k) ?_
    show own_Ends _ _ _ _ (T34.setTop (mkF m 90 #[.val (.long p0), .second, .val (.long p1), .second, .val (.int p2), .val (.long e5), .second, .val (.ref b22), .val (.long (own_blocks e5)), .second, .val (.long (e5 / (255 : Int64))), .second, .val (.long (e5 - (e5 / (255 : Int64)) * (255 : Int64))), .second, .val (.long (e5 / (255 : Int64))), .second] []))
    refine own_pre (fun t k => XS.iconst X34.here hx rfl (hb hby at_90) k) ?_
    show own_Ends _ _ _ _ (T34.setTop (mkF m 91 #[.val (.long p0), .second, .val (.long p1), .second, .val (.int p2), .val (.long e5), .second, .val (.ref b22), .val (.long (own_blocks e5)), .second, .val (.long (e5 / (255 : Int64))), .second, .val (.long (e5 - (e5 / (255 : Int64)) * (255 : Int64))), .second, .val (.long (e5 / (255 : Int64))), .second] [(.int (1 : Int32))]))
    refine own_pre (fun t k => XS.goto X34.here hx rfl (pc0 := 91) (pc' := 95) rfl (hb hby at_91) (by decide) (by decide) k) ?_
    show own_Ends _ _ _ _ (T34.setTop (mkF m 95 #[.val (.long p0), .second, .val (.long p1), .second, .val (.int p2), .val (.long e5), .second, .val (.ref b22), .val (.long (own_blocks e5)), .second, .val (.long (e5 / (255 : Int64))), .second, .val (.long (e5 - (e5 / (255 : Int64)) * (255 : Int64))), .second, .val (.long (e5 / (255 : Int64))), .second] [(.int (1 : Int32))]))
    exact own_retN X34 hx (t := .boolean) Bd.returns (by simp) (hb hby at_95) hlk rfl e34 ⟨rfl, N34⟩ (by decide) (by decide)
  · skip
    refine own_pre (fun t k => XS.ifNo X31.here hx rfl (hb hby at_47) rfl ((if0 _ _).trans (feq hc32).1) k) ?_
    show own_Ends _ _ _ _ (T31.setTop (mkF m 50 #[.val (.long p0), .second, .val (.long p1), .second, .val (.int p2), .val (.long e5), .second, .val (.ref b22), .val (.long (own_blocks e5)), .second, .val (.long (e5 / (255 : Int64))), .second, .val (.long (e5 - (e5 / (255 : Int64)) * (255 : Int64))), .second, .unset, .unset] []))
    refine own_pre (fun t k => XS.lload X31.here hx rfl (hb hby at_50) rfl k) ?_
    show own_Ends _ _ _ _ (T31.setTop (mkF m 52 #[.val (.long p0), .second, .val (.long p1), .second, .val (.int p2), .val (.long e5), .second, .val (.ref b22), .val (.long (own_blocks e5)), .second, .val (.long (e5 / (255 : Int64))), .second, .val (.long (e5 - (e5 / (255 : Int64)) * (255 : Int64))), .second, .unset, .unset] [(.long (e5 / (255 : Int64)))]))
    refine own_pre (fun t k => XS.lconst X31.here hx rfl (hb hby at_52) k) ?_
    show own_Ends _ _ _ _ (T31.setTop (mkF m 53 #[.val (.long p0), .second, .val (.long p1), .second, .val (.int p2), .val (.long e5), .second, .val (.ref b22), .val (.long (own_blocks e5)), .second, .val (.long (e5 / (255 : Int64))), .second, .val (.long (e5 - (e5 / (255 : Int64)) * (255 : Int64))), .second, .unset, .unset] [(.long (1 : Int64)), (.long (e5 / (255 : Int64)))]))
    refine own_pre (fun t k => XS.ladd X31.here hx rfl (hb hby at_53) rfl k) ?_
    show own_Ends _ _ _ _ (T31.setTop (mkF m 54 #[.val (.long p0), .second, .val (.long p1), .second, .val (.int p2), .val (.long e5), .second, .val (.ref b22), .val (.long (own_blocks e5)), .second, .val (.long (e5 / (255 : Int64))), .second, .val (.long (e5 - (e5 / (255 : Int64)) * (255 : Int64))), .second, .unset, .unset] [(.long ((e5 / (255 : Int64)) + (1 : Int64)))]))
    refine own_pre (fun t k => XS.goto X31.here hx rfl (pc0 := 54) (pc' := 59) rfl (hb hby at_54) (by decide) (by decide) k) ?_
    show own_Ends _ _ _ _ (T31.setTop (mkF m 59 #[.val (.long p0), .second, .val (.long p1), .second, .val (.int p2), .val (.long e5), .second, .val (.ref b22), .val (.long (own_blocks e5)), .second, .val (.long (e5 / (255 : Int64))), .second, .val (.long (e5 - (e5 / (255 : Int64)) * (255 : Int64))), .second, .unset, .unset] [(.long ((e5 / (255 : Int64)) + (1 : Int64)))]))
    refine own_pre (fun t k => XS.lstore X31.here hx rfl (hb hby at_59) rfl (l' := #[.val (.long p0), .second, .val (.long p1), .second, .val (.int p2), .val (.long e5), .second, .val (.ref b22), .val (.long (own_blocks e5)), .second, .val (.long (e5 / (255 : Int64))), .second, .val (.long (e5 - (e5 / (255 : Int64)) * (255 : Int64))), .second, .val (.long ((e5 / (255 : Int64)) + (1 : Int64))), .second]) rfl k) ?_
    show own_Ends _ _ _ _ (T31.setTop (mkF m 61 #[.val (.long p0), .second, .val (.long p1), .second, .val (.int p2), .val (.long e5), .second, .val (.ref b22), .val (.long (own_blocks e5)), .second, .val (.long (e5 / (255 : Int64))), .second, .val (.long (e5 - (e5 / (255 : Int64)) * (255 : Int64))), .second, .val (.long ((e5 / (255 : Int64)) + (1 : Int64))), .second] []))
    refine own_pre (fun t k => XS.lload X31.here hx rfl (hb hby at_61) rfl k) ?_
    show own_Ends _ _ _ _ (T31.setTop (mkF m 63 #[.val (.long p0), .second, .val (.long p1), .second, .val (.int p2), .val (.long e5), .second, .val (.ref b22), .val (.long (own_blocks e5)), .second, .val (.long (e5 / (255 : Int64))), .second, .val (.long (e5 - (e5 / (255 : Int64)) * (255 : Int64))), .second, .val (.long ((e5 / (255 : Int64)) + (1 : Int64))), .second] [(.long (own_blocks e5))]))
    refine own_pre (fun t k => XS.lload X31.here hx rfl (hb hby at_63) rfl k) ?_
    show own_Ends _ _ _ _ (T31.setTop (mkF m 65 #[.val (.long p0), .second, .val (.long p1), .second, .val (.int p2), .val (.long e5), .second, .val (.ref b22), .val (.long (own_blocks e5)), .second, .val (.long (e5 / (255 : Int64))), .second, .val (.long (e5 - (e5 / (255 : Int64)) * (255 : Int64))), .second, .val (.long ((e5 / (255 : Int64)) + (1 : Int64))), .second] [(.long ((e5 / (255 : Int64)) + (1 : Int64))), (.long (own_blocks e5))]))
    refine own_pre (fun t k => XS.lcmp X31.here hx rfl (hb hby at_65) rfl k) ?_
    show own_Ends _ _ _ _ (T31.setTop (mkF m 66 #[.val (.long p0), .second, .val (.long p1), .second, .val (.int p2), .val (.long e5), .second, .val (.ref b22), .val (.long (own_blocks e5)), .second, .val (.long (e5 / (255 : Int64))), .second, .val (.long (e5 - (e5 / (255 : Int64)) * (255 : Int64))), .second, .val (.long ((e5 / (255 : Int64)) + (1 : Int64))), .second] [(.int (own_cmpL (own_blocks e5) ((e5 / (255 : Int64)) + (1 : Int64))))]))
    refine own_pre (fun t k => XS.ifNo X31.here hx rfl (hb hby at_66) rfl ((if0 _ _).trans (teq (own_up e5 (he5 ▸ own_range p1 p2) hc32 : (own_cmpL (own_blocks e5) ((e5 / (255 : Int64)) + (1 : Int64))) = (0 : Int32))).2) k) ?_
    show own_Ends _ _ _ _ (T31.setTop (mkF m 69 #[.val (.long p0), .second, .val (.long p1), .second, .val (.int p2), .val (.long e5), .second, .val (.ref b22), .val (.long (own_blocks e5)), .second, .val (.long (e5 / (255 : Int64))), .second, .val (.long (e5 - (e5 / (255 : Int64)) * (255 : Int64))), .second, .val (.long ((e5 / (255 : Int64)) + (1 : Int64))), .second] []))
    refine own_pre (fun t k => XS.aload X31.here hx rfl (hb hby at_69) rfl rfl k) ?_
    show own_Ends _ _ _ _ (T31.setTop (mkF m 71 #[.val (.long p0), .second, .val (.long p1), .second, .val (.int p2), .val (.long e5), .second, .val (.ref b22), .val (.long (own_blocks e5)), .second, .val (.long (e5 / (255 : Int64))), .second, .val (.long (e5 - (e5 / (255 : Int64)) * (255 : Int64))), .second, .val (.long ((e5 / (255 : Int64)) + (1 : Int64))), .second] [(.ref b22)]))
    obtain ⟨cq35, kq35, q35a, q35b, q35c⟩ := isOf hZ e31 f30
    obtain ⟨_, _, ⟨T35, L35, k35, n35⟩, -, X35, ⟨Lc35, hQ35, l35, y35, z35⟩, st35⟩ := X31.virtualBack hx (y := (⟨"com/example/settlepath/settlepath/store/KeyIndex$Run", "entries", "()J"⟩ : MethodName)) (z := (⟨"com/example/settlepath/settlepath/store/KeyIndex$Run", "entries", "()J"⟩ : MethodName)) hown (mvT hZ (hw _ (List.mem_of_getElem? (i := 31) rfl))) (mvT hZ (hw _ (List.mem_of_getElem? (i := 32) rfl))) (notFace_of_selects (args := #[]) (mvT hZ (hw _ (List.mem_of_getElem? (i := 34) rfl)))) (mvT hZ (hw _ (List.mem_of_getElem? (i := 34) rfl))) (mvT hZ (hw _ (List.mem_of_getElem? (i := 33) rfl))) (by decide) (backOf (W := 0) (rm5 l Z a0 hw [] b22 e5 T27.heap n0 Zn27 f29) hZ (hw _ (List.mem_of_getElem? (i := 35) rfl)) (hw _ (List.mem_of_getElem? (i := 8) rfl)) (by decide) (by decide)) q35a q35c (g := (mkF m 71 #[.val (.long p0), .second, .val (.long p1), .second, .val (.int p2), .val (.long e5), .second, .val (.ref b22), .val (.long (own_blocks e5)), .second, .val (.long (e5 / (255 : Int64))), .second, .val (.long (e5 - (e5 / (255 : Int64)) * (255 : Int64))), .second, .val (.long ((e5 / (255 : Int64)) + (1 : Int64))), .second] [(.ref b22)])) rfl (by rw [hml]; rfl) (Steps.refl _) (argsL := []) (rest := []) (lenOf own_pd3 rfl) rfl (by show 2 * 0 + _ ≤ _; exact Nat.le_of_eq rfl) (hb hby at_71) (fun _ _ => ⟨rfl, e31, (by decide : 1 + 0 ≤ _), (by decide : 2 + 0 ≤ _)⟩)
    dsimp only [Pt.U, Pt.locs, Pt.cells, Pt.slots] at X35 l35 y35 z35 st35 hQ35
    subst l35 y35 z35
    obtain ⟨rfl, Nq35, e35⟩ := hQ35
    have N35 := Fr.app N31 Nq35
    refine own_pre (fun t k => st35.trans k) ?_
    show own_Ends _ _ _ _ (T35.setTop (mkF m 74 #[.val (.long p0), .second, .val (.long p1), .second, .val (.int p2), .val (.long e5), .second, .val (.ref b22), .val (.long (own_blocks e5)), .second, .val (.long (e5 / (255 : Int64))), .second, .val (.long (e5 - (e5 / (255 : Int64)) * (255 : Int64))), .second, .val (.long ((e5 / (255 : Int64)) + (1 : Int64))), .second] [(.long (own_entries e5))]))
    refine own_pre (fun t k => XS.lload X35.here hx rfl (hb hby at_74) rfl k) ?_
    show own_Ends _ _ _ _ (T35.setTop (mkF m 76 #[.val (.long p0), .second, .val (.long p1), .second, .val (.int p2), .val (.long e5), .second, .val (.ref b22), .val (.long (own_blocks e5)), .second, .val (.long (e5 / (255 : Int64))), .second, .val (.long (e5 - (e5 / (255 : Int64)) * (255 : Int64))), .second, .val (.long ((e5 / (255 : Int64)) + (1 : Int64))), .second] [(.long e5), (.long (own_entries e5))]))
    refine own_pre (fun t k => XS.lcmp X35.here hx rfl (hb hby at_76) rfl k) ?_
    show own_Ends _ _ _ _ (T35.setTop (mkF m 77 #[.val (.long p0), .second, .val (.long p1), .second, .val (.int p2), .val (.long e5), .second, .val (.ref b22), .val (.long (own_blocks e5)), .second, .val (.long (e5 / (255 : Int64))), .second, .val (.long (e5 - (e5 / (255 : Int64)) * (255 : Int64))), .second, .val (.long ((e5 / (255 : Int64)) + (1 : Int64))), .second] [(.int (own_cmpL (own_entries e5) e5))]))
    refine own_pre (fun t k => XS.ifNo X35.here hx rfl (hb hby at_77) rfl ((if0 _ _).trans (teq ((own_ceq _ _).mpr rfl : (own_cmpL (own_entries e5) e5) = (0 : Int32))).2) k) ?_
    show own_Ends _ _ _ _ (T35.setTop (mkF m 80 #[.val (.long p0), .second, .val (.long p1), .second, .val (.int p2), .val (.long e5), .second, .val (.ref b22), .val (.long (own_blocks e5)), .second, .val (.long (e5 / (255 : Int64))), .second, .val (.long (e5 - (e5 / (255 : Int64)) * (255 : Int64))), .second, .val (.long ((e5 / (255 : Int64)) + (1 : Int64))), .second] []))
    refine own_pre (fun t k => XS.aload X35.here hx rfl (hb hby at_80) rfl rfl k) ?_
    show own_Ends _ _ _ _ (T35.setTop (mkF m 82 #[.val (.long p0), .second, .val (.long p1), .second, .val (.int p2), .val (.long e5), .second, .val (.ref b22), .val (.long (own_blocks e5)), .second, .val (.long (e5 / (255 : Int64))), .second, .val (.long (e5 - (e5 / (255 : Int64)) * (255 : Int64))), .second, .val (.long ((e5 / (255 : Int64)) + (1 : Int64))), .second] [(.ref b22)]))
    obtain ⟨cq36, kq36, q36a, q36b, q36c⟩ := isOf hZ e35 f30
    obtain ⟨_, _, ⟨T36, L36, k36, n36⟩, -, X36, ⟨Lc36, hQ36, l36, y36, z36⟩, st36⟩ := X35.virtualBack hx (y := (⟨"com/example/settlepath/settlepath/store/KeyIndex$Run", "number", "()J"⟩ : MethodName)) (z := (⟨"com/example/settlepath/settlepath/store/KeyIndex$Run", "number", "()J"⟩ : MethodName)) hown (mvT hZ (hw _ (List.mem_of_getElem? (i := 36) rfl))) (mvT hZ (hw _ (List.mem_of_getElem? (i := 37) rfl))) (notFace_of_selects (args := #[]) (mvT hZ (hw _ (List.mem_of_getElem? (i := 39) rfl)))) (mvT hZ (hw _ (List.mem_of_getElem? (i := 39) rfl))) (mvT hZ (hw _ (List.mem_of_getElem? (i := 38) rfl))) (by decide) (backOf (W := 0) (rm6 l Z a0 hw [] b22 p0 T27.heap n0 Zn27 f28) hZ (hw _ (List.mem_of_getElem? (i := 40) rfl)) (hw _ (List.mem_of_getElem? (i := 8) rfl)) (by decide) (by decide)) q36a q36c (g := (mkF m 82 #[.val (.long p0), .second, .val (.long p1), .second, .val (.int p2), .val (.long e5), .second, .val (.ref b22), .val (.long (own_blocks e5)), .second, .val (.long (e5 / (255 : Int64))), .second, .val (.long (e5 - (e5 / (255 : Int64)) * (255 : Int64))), .second, .val (.long ((e5 / (255 : Int64)) + (1 : Int64))), .second] [(.ref b22)])) rfl (by rw [hml]; rfl) (Steps.refl _) (argsL := []) (rest := []) (lenOf own_pd3 rfl) rfl (by show 2 * 0 + _ ≤ _; exact Nat.le_of_eq rfl) (hb hby at_82) (fun _ _ => ⟨rfl, e35, (by decide : 1 + 0 ≤ _), (by decide : 2 + 0 ≤ _)⟩)
    dsimp only [Pt.U, Pt.locs, Pt.cells, Pt.slots] at X36 l36 y36 z36 st36 hQ36
    subst l36 y36 z36
    obtain ⟨rfl, Nq36, e36⟩ := hQ36
    have N36 := Fr.app N35 Nq36
    refine own_pre (fun t k => st36.trans k) ?_
    show own_Ends _ _ _ _ (T36.setTop (mkF m 85 #[.val (.long p0), .second, .val (.long p1), .second, .val (.int p2), .val (.long e5), .second, .val (.ref b22), .val (.long (own_blocks e5)), .second, .val (.long (e5 / (255 : Int64))), .second, .val (.long (e5 - (e5 / (255 : Int64)) * (255 : Int64))), .second, .val (.long ((e5 / (255 : Int64)) + (1 : Int64))), .second] [(.long (own_number p0))]))
    refine own_pre (fun t k => XS.lloadN X36.here hx rfl (hb hby at_85) rfl k) ?_
    show own_Ends _ _ _ _ (T36.setTop (mkF m 86 #[.val (.long p0), .second, .val (.long p1), .second, .val (.int p2), .val (.long e5), .second, .val (.ref b22), .val (.long (own_blocks e5)), .second, .val (.long (e5 / (255 : Int64))), .second, .val (.long (e5 - (e5 / (255 : Int64)) * (255 : Int64))), .second, .val (.long ((e5 / (255 : Int64)) + (1 : Int64))), .second] [(.long p0), (.long (own_number p0))]))
    refine own_pre (fun t k => XS.lcmp X36.here hx rfl (hb hby at_86) rfl k) ?_
    show own_Ends _ _ _ _ (T36.setTop (mkF m 87 #[.val (.long p0), .second, .val (.long p1), .second, .val (.int p2), .val (.long e5), .second, .val (.ref b22), .val (.long (own_blocks e5)), .second, .val (.long (e5 / (255 : Int64))), .second, .val (.long (e5 - (e5 / (255 : Int64)) * (255 : Int64))), .second, .val (.long ((e5 / (255 : Int64)) + (1 : Int64))), .second] [(.int (own_cmpL (own_number p0) p0))]))
    refine own_pre (fun t k => XS.ifNo X36.here hx rfl (hb hby at_87) rfl ((if0 _ _).trans (teq ((own_ceq _ _).mpr rfl : (own_cmpL (own_number p0) p0) = (0 : Int32))).2) k) ?_
    show own_Ends _ _ _ _ (T36.setTop (mkF m 90 #[.val (.long p0), .second, .val (.long p1), .second, .val (.int p2), .val (.long e5), .second, .val (.ref b22), .val (.long (own_blocks e5)), .second, .val (.long (e5 / (255 : Int64))), .second, .val (.long (e5 - (e5 / (255 : Int64)) * (255 : Int64))), .second, .val (.long ((e5 / (255 : Int64)) + (1 : Int64))), .second] []))
    refine own_pre (fun t k => XS.iconst X36.here hx rfl (hb hby at_90) k) ?_
    show own_Ends _ _ _ _ (T36.setTop (mkF m 91 #[.val (.long p0), .second, .val (.long p1), .second, .val (.int p2), .val (.long e5), .second, .val (.ref b22), .val (.long (own_blocks e5)), .second, .val (.long (e5 / (255 : Int64))), .second, .val (.long (e5 - (e5 / (255 : Int64)) * (255 : Int64))), .second, .val (.long ((e5 / (255 : Int64)) + (1 : Int64))), .second] [(.int (1 : Int32))]))
    refine own_pre (fun t k => XS.goto X36.here hx rfl (pc0 := 91) (pc' := 95) rfl (hb hby at_91) (by decide) (by decide) k) ?_
    show own_Ends _ _ _ _ (T36.setTop (mkF m 95 #[.val (.long p0), .second, .val (.long p1), .second, .val (.int p2), .val (.long e5), .second, .val (.ref b22), .val (.long (own_blocks e5)), .second, .val (.long (e5 / (255 : Int64))), .second, .val (.long (e5 - (e5 / (255 : Int64)) * (255 : Int64))), .second, .val (.long ((e5 / (255 : Int64)) + (1 : Int64))), .second] [(.int (1 : Int32))]))
    exact own_retN X36 hx (t := .boolean) Bd.returns (by simp) (hb hby at_95) hlk rfl e36 ⟨rfl, N36⟩ (by decide) (by decide)
set_option maxRecDepth 65536 in
set_option maxHeartbeats 40000000 in
theorem own_comes {Post : Tables → Env → Array Value → State → Outcome → State → Prop} (hpost : ∀ tb e args s v u, (limb_1_1.after args s (.returned v) u = true ∧ limb_1_2.after args s (.returned v) u = true ∧ True) → FrameEnd s (.returned v) u (Jvm.fieldLocs frame_1_writes args s ++ Jvm.arrayLocs frame_1_arrays args s ++ Jvm.staticLocs frame_1_statics s) 16 128 → Post tb e args s (.returned v) u) :
    ArmFor flags0 classFile x code maxLocals ret World_1 tables_1 room_1 Calls_1 rest_1 Pre_1 Post := by
  intro l hfl _ _ p e ha hc hk s m args below hf hA hF happ hP
  obtain ⟨hcalls, hrest, hpre⟩ := hP
  obtain ⟨-, -, -, hnamed, -, -, -, hat⟩ := (Spec.applies_iff hf).mp happ
  obtain ⟨hg, hn⟩ := and_e (Cond.before_iff.mp (show (Jvm.Cond.and given_1 narrow_1).before args s = true from hpre))
  obtain ⟨hcount, g0⟩ := and_e hg
  obtain ⟨hk0, g1⟩ := and_e g0
  obtain ⟨hk1, g2⟩ := and_e g1
  obtain ⟨w0, w1, w2, rfl⟩ : ∃ w0 w1 w2 : Value, args = #[w0, w1, w2] := by
    have hs : args.size = 3 := by simpa [Cond.value, given_1] using hcount
    obtain ⟨L⟩ := args
    match L, hs with
    | [w0, w1, w2], _ => exact ⟨w0, w1, w2, rfl⟩
  have hw := fun d (hd : d ∈ tables_1) => atoms_spec (ws := Jvm.Cond.code x code maxLocals ret :: tables_1) hat d (List.mem_cons_of_mem _ hd)
  have hfit : Fit s := fun {y c} hc i hi => by
    obtain ⟨ha, rfl⟩ := Array.getElem?_eq_some_iff.mp hc
    have q := List.all_eq_true.mp ((Array.all_eq_true_iff_forall_mem.mp hF) _ (Array.getElem_mem ha)) i (List.mem_range.mpr hi)
    simpa [Array.getElem?_eq_getElem hi] using q
  obtain ⟨i0, ei0⟩ := isL_v hk0
  obtain rfl : w0 = (.long i0) := Option.some.inj ei0
  obtain ⟨i1, ei1⟩ := isL_v hk1
  obtain rfl : w1 = (.long i1) := Option.some.inj ei1
  obtain ⟨i2, ei2⟩ := is_v g2
  obtain rfl : w2 = (.int i2) := Option.some.inj ei2
  obtain ⟨n, o, h1, h2, h3, _, L, rfl, ⟨rfl, N⟩, hq⟩ := rm0 l s _ hw tables_1 i0 i1 i2 s.heap s.heap.size (Nat.le_refl _)  p e ha hc hk s m _ below hf ((Spec.applies_iff_loose hf).mp happ).1 ⟨rfl, State.Warmed39.refl s, rfl⟩ trivial
  refine ⟨n, _, h1, h2, h3, hpost _ _ _ _ _ _ ⟨Cond.after_iff.mpr rfl, Cond.after_iff.mpr (eq_i res_at (Term.int_eval (1)) rfl), trivial⟩ ⟨hq.1, hq.2.1, (hq.2.2.sift fun y hy => Or.inr (N y hy)).mono (by decide) (by decide)⟩⟩
theorem main_1_1 : Claimed_1_1 := own_comes fun _ _ _ _ _ _ h hF => ⟨h.1, hF⟩
theorem main_1_2 : Claimed_1_2 := own_comes fun _ _ _ _ _ _ h hF => ⟨h.2.1, hF⟩
end Jvm.Pilot.@@N@@
namespace Jvm.Pilot.@@N@@
open Jvm Jvm.ClassFile Sem Op Lib Jvm.Free Jvm.Stand Jvm.Pilot.@@N@@.Jvm.D
/-! MADE BY PROGRAM (witnessworld.py) out of the Statement's table words and the real class files: 10 classes; the members and pool entries that the words name. The judged class is class 1, her method 2. -/
namespace start1
open Jvm.ClassFile
def u (s : String) : CpInfo := .utf8 (stringToUtf16 s)
/-- a pool by its gaps: so many unusable entries, then the entry; so many at the end -/
def gap : Nat → List CpInfo → List CpInfo
  | 0, r => r
  | n + 1, r => .unusable :: gap n r
def poolList (es : List (Nat × CpInfo)) (last : Nat) : List CpInfo := es.foldr (fun e r => gap e.1 (e.2 :: r)) (gap last [])
def pool (es : List (Nat × CpInfo)) (last : Nat) : Array CpInfo := ⟨poolList es last⟩
def fileOf (pool : Array CpInfo) (this : Nat) (attrs : Array Attribute := #[]) (ms : Array MethodInfo := #[]) (fl : Nat := 33) (sup : Nat := 0) (ifs : Array Nat := #[]) (fds : Array FieldInfo := #[]) : ClassFile where
  minorVersion := 0
  majorVersion := 65
  constantPool := pool
  accessFlags := fl
  thisClass := this
  superClass := sup
  interfaces := ifs
  fields := fds
  methods := ms
  attributes := attrs
def plain (name : String) (sup : Option ClassId) : Class where
  name := name
  kind := .ordinary
  loader := none
  accessFlags := 33
  super := sup
  interfaces := #[]
  cf := none
  fields := #[]
  methods := #[]
  instanceTypes := #[]
  staticTypes := #[]
  resolved := #[]
  callSites := []
  init := .initialized
  statics := none
  mirror := none

def pool0 : Array CpInfo := pool [(5, u "<init>"), (0, u "()V"), (1, .class_ 10), (1, u "java/lang/Object")] 113

def k0c0 : Code := { maxStack := 0, maxLocals := 1, code := object_method_1_code, exceptionTable := #[], attributes := #[] }
def k0m0 : Method := { name := "<init>", desc := "()V", sig := { parameters := [], returnType := none }, accessFlags := 1, code := some k0c0 }
/-- java/lang/Object -/
def k0 : Class := { plain "java/lang/Object" none with
  accessFlags := 33
  interfaces := #[]
  cf := some (fileOf pool0 8 #[] #[{ accessFlags := 1, nameIndex := 5, descriptorIndex := 6, attributes := #[] }] 33 0 #[] #[])
  fields := #[]
  methods := #[k0m0]
  instanceTypes := #[]
  staticTypes := #[]
  resolved := Array.replicate 124 none
  statics := none }

def pool1 : Array CpInfo := pool [(2, .class_ 4), (1, u "java/lang/Object"), (0, u "<init>"), (0, u "()V"), (2, .long 9223372036854775807), (1, .long 9223372036854775553), (1, .long 2147483647), (1, .long 2000), (1, .long 1023), (1, .long 255), (1, .long 1048575), (1, .long 3), (1, .methodref 26 27), (0, .class_ 28), (0, .nameAndType 29 30), (0, u "com/example/settlepath/settlepath/store/KeyIndexBlocksPinLaw"), (0, u "entriesFor"), (0, u "(JI)J"), (0, .class_ 32), (0, u "com/example/settlepath/settlepath/store/KeyIndex$Run"), (0, .methodref 31 34), (0, .nameAndType 5 35), (0, u "(JJ)V"), (0, .methodref 31 37), (0, .nameAndType 38 39), (0, u "blocks"), (0, u "()J"), (0, .methodref 31 41), (0, .nameAndType 42 39), (0, u "entries"), (0, .methodref 31 44), (0, .nameAndType 45 39), (0, u "number"), (3, u "law"), (0, u "(JJI)Z")] 6

def k1m0 : Method := { name := "<init>", desc := "()V", sig := { parameters := [], returnType := none }, accessFlags := 1, code := none }
def k1c1 : Code := { maxStack := 8, maxLocals := 4, code := method_2_code, exceptionTable := #[], attributes := #[] }
def k1m1 : Method := { name := "entriesFor", desc := "(JI)J", sig := { parameters := [.long, .int], returnType := some .long }, accessFlags := 10, code := some k1c1 }
def k1c2 : Code := { maxStack := 6, maxLocals := 16, code := code, exceptionTable := #[], attributes := #[] }
def k1m2 : Method := { name := "law", desc := "(JJI)Z", sig := { parameters := [.long, .long, .int], returnType := some .boolean }, accessFlags := 9, code := some k1c2 }
/-- com/example/settlepath/settlepath/store/KeyIndexBlocksPinLaw -/
def k1 : Class := { plain "com/example/settlepath/settlepath/store/KeyIndexBlocksPinLaw" (some 0) with
  accessFlags := 49
  interfaces := #[]
  cf := some (fileOf pool1 26 #[] #[{ accessFlags := 1, nameIndex := 5, descriptorIndex := 6, attributes := #[] }, { accessFlags := 10, nameIndex := 29, descriptorIndex := 30, attributes := #[] }, { accessFlags := 9, nameIndex := 49, descriptorIndex := 50, attributes := #[] }] 49 2 #[] #[])
  fields := #[]
  methods := #[k1m0, k1m1, k1m2]
  instanceTypes := #[]
  staticTypes := #[]
  resolved := Array.replicate 57 none
  statics := none }

def pool2 : Array CpInfo := pool [(1, .methodref 2 3), (0, .class_ 4), (0, .nameAndType 5 6), (0, u "java/lang/Object"), (0, u "<init>"), (0, u "()V"), (0, .class_ 8), (0, u "java/lang/Record")] 13

def k2c0 : Code := { maxStack := 1, maxLocals := 1, code := jdk_30_method_1_code, exceptionTable := #[], attributes := #[] }
def k2m0 : Method := { name := "<init>", desc := "()V", sig := { parameters := [], returnType := none }, accessFlags := 4, code := some k2c0 }
/-- java/lang/Record -/
def k2 : Class := { plain "java/lang/Record" (some 0) with
  accessFlags := 1057
  interfaces := #[]
  cf := some (fileOf pool2 7 #[] #[{ accessFlags := 4, nameIndex := 5, descriptorIndex := 6, attributes := #[] }] 1057 2 #[] #[])
  fields := #[]
  methods := #[k2m0]
  instanceTypes := #[]
  staticTypes := #[]
  resolved := Array.replicate 22 none
  statics := none }

def pool3 : Array CpInfo := pool [(1, .class_ 2), (0, u "com/example/settlepath/settlepath/store/KeyIndex"), (0, .methodref 4 5), (0, .class_ 6), (0, .nameAndType 7 8), (0, u "java/lang/Record"), (0, u "<init>"), (0, u "()V"), (0, .fieldref 10 11), (0, .class_ 12), (0, .nameAndType 13 14), (0, u "com/example/settlepath/settlepath/store/KeyIndex$Run"), (0, u "number"), (0, u "J"), (0, .fieldref 10 16), (0, .nameAndType 17 14), (0, u "entries"), (0, .long 255), (13, u "(JJ)V"), (3, u "blocks"), (0, u "()J")] 26

def k3c0 : Code := { maxStack := 3, maxLocals := 5, code := prog_140_method_1_code, exceptionTable := #[], attributes := #[] }
def k3m0 : Method := { name := "<init>", desc := "(JJ)V", sig := { parameters := [.long, .long], returnType := none }, accessFlags := 0, code := some k3c0 }
def k3c1 : Code := { maxStack := 4, maxLocals := 1, code := prog_140_method_2_code, exceptionTable := #[], attributes := #[] }
def k3m1 : Method := { name := "blocks", desc := "()J", sig := { parameters := [], returnType := some .long }, accessFlags := 0, code := some k3c1 }
def k3c2 : Code := { maxStack := 2, maxLocals := 1, code := prog_140_method_6_code, exceptionTable := #[], attributes := #[] }
def k3m2 : Method := { name := "number", desc := "()J", sig := { parameters := [], returnType := some .long }, accessFlags := 1, code := some k3c2 }
def k3c3 : Code := { maxStack := 2, maxLocals := 1, code := prog_140_method_7_code, exceptionTable := #[], attributes := #[] }
def k3m3 : Method := { name := "entries", desc := "()J", sig := { parameters := [], returnType := some .long }, accessFlags := 1, code := some k3c3 }
/-- com/example/settlepath/settlepath/store/KeyIndex$Run -/
def k3 : Class := { plain "com/example/settlepath/settlepath/store/KeyIndex$Run" (some 2) with
  accessFlags := 48
  interfaces := #[]
  cf := some (fileOf pool3 10 #[.nestHost 1] #[{ accessFlags := 0, nameIndex := 7, descriptorIndex := 32, attributes := #[] }, { accessFlags := 0, nameIndex := 36, descriptorIndex := 37, attributes := #[] }, { accessFlags := 1, nameIndex := 13, descriptorIndex := 37, attributes := #[] }, { accessFlags := 1, nameIndex := 17, descriptorIndex := 37, attributes := #[] }] 48 4 #[] #[{ accessFlags := 18, nameIndex := 13, descriptorIndex := 14, attributes := #[] }, { accessFlags := 18, nameIndex := 17, descriptorIndex := 14, attributes := #[] }])
  fields := #[{ name := "number", type := .long, accessFlags := 18, slot := 0, constantValue := 0 }, { name := "entries", type := .long, accessFlags := 18, slot := 1, constantValue := 0 }]
  methods := #[k3m0, k3m1, k3m2, k3m3]
  instanceTypes := #[.long, .long]
  staticTypes := #[]
  resolved := Array.replicate 64 none
  statics := none }

def pool4 : Array CpInfo := pool [(1, u "java/lang/Cloneable"), (0, .class_ 1), (0, u "java/lang/Object"), (0, .class_ 3)] 3

/-- java/lang/Cloneable -/
def k4 : Class := { plain "java/lang/Cloneable" (some 0) with
  accessFlags := 1537
  interfaces := #[]
  cf := some (fileOf pool4 2 #[] #[] 1537 4 #[] #[])
  fields := #[]
  methods := #[]
  instanceTypes := #[]
  staticTypes := #[]
  resolved := Array.replicate 8 none
  statics := none }

def pool5 : Array CpInfo := pool [(1, u "java/io/Serializable"), (0, .class_ 1), (0, u "java/lang/Object"), (0, .class_ 3)] 3

/-- java/io/Serializable -/
def k5 : Class := { plain "java/io/Serializable" (some 0) with
  accessFlags := 1537
  interfaces := #[]
  cf := some (fileOf pool5 2 #[] #[] 1537 4 #[] #[])
  fields := #[]
  methods := #[]
  instanceTypes := #[]
  staticTypes := #[]
  resolved := Array.replicate 8 none
  statics := none }

/-- the primitive byte -/
def k6 : Class := { plain "byte" none with kind := .primitive 'B', accessFlags := 0x411 }
/-- [B -/
def k7 : Class := { plain "[B" (some 0) with kind := .array 6 .byte, interfaces := #[4, 5], accessFlags := 1041 }

/-- the primitive int -/
def k8 : Class := { plain "int" none with kind := .primitive 'I', accessFlags := 0x411 }
/-- [I -/
def k9 : Class := { plain "[I" (some 0) with kind := .array 8 .int, interfaces := #[4, 5], accessFlags := 1041 }

def heap : Heap := #[]
def classes : Array Class := #[k0, k1, k2, k3, k4, k5, k6, k7, k8, k9]
def interned : List (Array UInt16 × Addr) := []
def slotsUsed : Nat := 0
def theMethod : MethodId := ⟨1, 2⟩
def args0 : Array Value := #[.long 5, .long 300, .int 1]
def aboutOver (below : List Frame) : State where
  vm := { classes := classes, interned := interned.toArray }
  heap := heap
  slotsUsed := slotsUsed
  threads := #[{ frames := .invoking theMethod args0 :: below }]
def below0 : List Frame := [.native { method := ⟨0, 0⟩, args := #[] }]
def about1 : State := aboutOver below0
def p0 : Program := .bare "" "" ""
def e0 : Env := launch0.env 0 0 0
theorem w_frames : about1.frames = Frame.invoking theMethod args0 :: below0 := rfl
set_option maxRecDepth 65536 in
theorem w_args : argsFit about1.vm theMethod args0 = true := by decide +kernel
set_option maxRecDepth 65536 in
theorem w_heap : heapFits about1 = true := by decide +kernel
set_option maxRecDepth 65536 in
theorem w_runnable : about1.curStatus? = some .runnable := by decide +kernel
set_option maxRecDepth 65536 in
theorem w_alone : about1.alone = true := by decide +kernel
set_option maxRecDepth 65536 in
theorem w_named : about1.methodNamed? x = some theMethod := by decide +kernel
set_option maxRecDepth 65536 in
theorem w_hears : about1.hears theMethod below0 = true := by decide +kernel
set_option maxRecDepth 65536 in
theorem w_ripe : about1.ripe theMethod args0 below0 = true := by decide +kernel
theorem w_running : about1.status = .running := rfl
set_option maxRecDepth 65536 in
theorem w_room : about1.hasRoom e0.platform room_1 = true :=
  launch0.hasRoom_least _ room_1 (by decide +kernel) (by decide +kernel) (by decide +kernel) (by decide +kernel) (by decide +kernel) (by decide +kernel)
theorem allAtoms_all (ts : List Jvm.Cond) (a : Array Jvm.Value) (st : Jvm.State) : (allAtoms ts).before a st = ts.all (fun c => c.before a st) := by
  induction ts with
  | nil => rfl
  | cons c t ih =>
    show (Jvm.Cond.and c (allAtoms t)).before a st = _
    rw [Jvm.Cond.before_and, ih, List.all_cons]
def words1 : List Jvm.Cond := Jvm.Cond.code x code maxLocals ret :: tables_1
/-- a 'code' word, met by the world's own term for the bytes: nothing is compared byte by byte -/
theorem code_word {y : MethodName} {bytes : ByteArray} {mx : Nat} {rt : Option FieldType} {a : Array Value} {s : State} {m : MethodId} {meth : Method} {c : Code} (h1 : s.methodNamed? y = some m) (h2 : s.vm.method? m = some meth) (h3 : meth.code = some c) (h4 : c.code = bytes)
    (h5 : (c.maxLocals == mx && c.exceptionTable.isEmpty && decide (c.maxStack ≤ mostOperands) && decide (meth.sig.returnType = rt) && !meth.locks && decide (parseMethodDescriptor y.desc = some meth.sig)) = true) : (Jvm.Cond.code y bytes mx rt).before a s = true := by
  simp only [Bool.and_eq_true, beq_iff_eq, Bool.not_eq_true', decide_eq_true_eq] at h5
  obtain ⟨⟨⟨⟨⟨g1, g2⟩, g3⟩, g4⟩, g5⟩, g6⟩ := h5
  simp [Cond.before, Cond.holds, Cond.value, h1, h2, h3, h4, g1, g2, g3, g4, g5, g6]
def isCode : Jvm.Cond → Bool
  | .code _ _ _ _ => true
  | _ => false
theorem all_split {L : List Jvm.Cond} {P : Jvm.Cond → Bool} (h1 : L.all (fun c => isCode c || P c) = true) (h2 : ∀ c ∈ L.filter isCode, P c = true) : L.all P = true := by
  refine List.all_eq_true.mpr fun c hc => ?_
  have h := List.all_eq_true.mp h1 c hc
  rcases Bool.eq_false_or_eq_true (isCode c) with hi | hi
  · exact h2 c (List.mem_filter.mpr ⟨hc, hi⟩)
  · simpa [hi] using h
set_option maxRecDepth 65536 in
theorem w_c0 : (Jvm.Cond.code x code maxLocals ret).before args0 about1 = true := code_word (m := ⟨1, 2⟩) (meth := k1m2) (c := k1c2) (by decide +kernel) rfl rfl rfl (by decide +kernel)
set_option maxRecDepth 65536 in
theorem w_c1 : (Jvm.Cond.code ({ cls := "com/example/settlepath/settlepath/store/KeyIndexBlocksPinLaw", name := "entriesFor", desc := "(JI)J" } : Jvm.MethodName) method_2_code (4 : Nat) (Option.some Jvm.ClassFile.FieldType.long)).before args0 about1 = true := code_word (m := ⟨1, 1⟩) (meth := k1m1) (c := k1c1) (by decide +kernel) rfl rfl rfl (by decide +kernel)
set_option maxRecDepth 65536 in
theorem w_c2 : (Jvm.Cond.code ({ cls := "com/example/settlepath/settlepath/store/KeyIndex$Run", name := "<init>", desc := "(JJ)V" } : Jvm.MethodName) prog_140_method_1_code (5 : Nat) (Option.none : Option Jvm.ClassFile.FieldType)).before args0 about1 = true := code_word (m := ⟨3, 0⟩) (meth := k3m0) (c := k3c0) (by decide +kernel) rfl rfl rfl (by decide +kernel)
set_option maxRecDepth 65536 in
theorem w_c3 : (Jvm.Cond.code ({ cls := "java/lang/Record", name := "<init>", desc := "()V" } : Jvm.MethodName) jdk_30_method_1_code (1 : Nat) (Option.none : Option Jvm.ClassFile.FieldType)).before args0 about1 = true := code_word (m := ⟨2, 0⟩) (meth := k2m0) (c := k2c0) (by decide +kernel) rfl rfl rfl (by decide +kernel)
set_option maxRecDepth 65536 in
theorem w_c4 : (Jvm.Cond.code ({ cls := "java/lang/Object", name := "<init>", desc := "()V" } : Jvm.MethodName) object_method_1_code (1 : Nat) (Option.none : Option Jvm.ClassFile.FieldType)).before args0 about1 = true := code_word (m := ⟨0, 0⟩) (meth := k0m0) (c := k0c0) (by decide +kernel) rfl rfl rfl (by decide +kernel)
set_option maxRecDepth 65536 in
theorem w_c5 : (Jvm.Cond.code ({ cls := "com/example/settlepath/settlepath/store/KeyIndex$Run", name := "blocks", desc := "()J" } : Jvm.MethodName) prog_140_method_2_code (1 : Nat) (Option.some Jvm.ClassFile.FieldType.long)).before args0 about1 = true := code_word (m := ⟨3, 1⟩) (meth := k3m1) (c := k3c1) (by decide +kernel) rfl rfl rfl (by decide +kernel)
set_option maxRecDepth 65536 in
theorem w_c6 : (Jvm.Cond.code ({ cls := "com/example/settlepath/settlepath/store/KeyIndex$Run", name := "entries", desc := "()J" } : Jvm.MethodName) prog_140_method_7_code (1 : Nat) (Option.some Jvm.ClassFile.FieldType.long)).before args0 about1 = true := code_word (m := ⟨3, 3⟩) (meth := k3m3) (c := k3c3) (by decide +kernel) rfl rfl rfl (by decide +kernel)
set_option maxRecDepth 65536 in
theorem w_c7 : (Jvm.Cond.code ({ cls := "com/example/settlepath/settlepath/store/KeyIndex$Run", name := "number", desc := "()J" } : Jvm.MethodName) prog_140_method_6_code (1 : Nat) (Option.some Jvm.ClassFile.FieldType.long)).before args0 about1 = true := code_word (m := ⟨3, 2⟩) (meth := k3m2) (c := k3c2) (by decide +kernel) rfl rfl rfl (by decide +kernel)
def codes1 : List Jvm.Cond := [Jvm.Cond.code x code maxLocals ret, Jvm.Cond.code ({ cls := "com/example/settlepath/settlepath/store/KeyIndexBlocksPinLaw", name := "entriesFor", desc := "(JI)J" } : Jvm.MethodName) method_2_code (4 : Nat) (Option.some Jvm.ClassFile.FieldType.long), Jvm.Cond.code ({ cls := "com/example/settlepath/settlepath/store/KeyIndex$Run", name := "<init>", desc := "(JJ)V" } : Jvm.MethodName) prog_140_method_1_code (5 : Nat) (Option.none : Option Jvm.ClassFile.FieldType), Jvm.Cond.code ({ cls := "java/lang/Record", name := "<init>", desc := "()V" } : Jvm.MethodName) jdk_30_method_1_code (1 : Nat) (Option.none : Option Jvm.ClassFile.FieldType), Jvm.Cond.code ({ cls := "java/lang/Object", name := "<init>", desc := "()V" } : Jvm.MethodName) object_method_1_code (1 : Nat) (Option.none : Option Jvm.ClassFile.FieldType), Jvm.Cond.code ({ cls := "com/example/settlepath/settlepath/store/KeyIndex$Run", name := "blocks", desc := "()J" } : Jvm.MethodName) prog_140_method_2_code (1 : Nat) (Option.some Jvm.ClassFile.FieldType.long), Jvm.Cond.code ({ cls := "com/example/settlepath/settlepath/store/KeyIndex$Run", name := "entries", desc := "()J" } : Jvm.MethodName) prog_140_method_7_code (1 : Nat) (Option.some Jvm.ClassFile.FieldType.long), Jvm.Cond.code ({ cls := "com/example/settlepath/settlepath/store/KeyIndex$Run", name := "number", desc := "()J" } : Jvm.MethodName) prog_140_method_6_code (1 : Nat) (Option.some Jvm.ClassFile.FieldType.long)]
set_option maxRecDepth 65536 in
theorem codes_eq : words1.filter isCode = codes1 := rfl
theorem w_codes : ∀ c ∈ words1.filter isCode, c.before args0 about1 = true := by
  rw [codes_eq]
  intro c hc
  simp only [codes1, List.mem_cons, List.not_mem_nil, or_false] at hc
  rcases hc with rfl | rfl | rfl | rfl | rfl | rfl | rfl | rfl
  · exact w_c0
  · exact w_c1
  · exact w_c2
  · exact w_c3
  · exact w_c4
  · exact w_c5
  · exact w_c6
  · exact w_c7
set_option maxRecDepth 65536 in
theorem w_t1 : (words1.take 24).all (fun c => isCode c || c.before args0 about1) = true := by decide +kernel
set_option maxRecDepth 65536 in
theorem w_t2 : (words1.drop 24).all (fun c => isCode c || c.before args0 about1) = true := by decide +kernel
theorem w_tables : (allAtoms (Jvm.Cond.code x code maxLocals ret :: tables_1)).before args0 about1 = true := by
  rw [allAtoms_all]
  show words1.all (fun c => c.before args0 about1) = true
  refine all_split ?_ w_codes
  rw [← List.take_append_drop 24 words1, List.all_append, w_t1, w_t2]
  rfl
set_option maxRecDepth 65536 in
theorem w_case : (Jvm.Cond.and given_1 narrow_1).before args0 about1 = true := by decide +kernel
theorem w_applies : (headSpec (Jvm.Cond.code x code maxLocals ret :: tables_1) room_1).applies x e0.platform about1 = true :=
  (Spec.applies_iff w_frames).mpr ⟨w_running, w_runnable, w_alone, w_named, w_hears, w_ripe, w_room, w_tables⟩
theorem atStart : AtStart classFile x code maxLocals ret World_1 tables_1 room_1 Calls_1 rest_1 Pre_1 launch0 p0 e0 about1 theMethod args0 below0 :=
  ⟨lists_1, trivial, launch0.admits_env _ _ _, launch0.least_env, fairChoices_fair.cas, fairChoices_fair.clock, w_frames, w_args, w_heap, w_applies, trivial, trivial, w_case⟩
end start1
theorem witness_1 : WitnessClaimed_1 := ⟨start1.p0, start1.e0, start1.about1, start1.theMethod, start1.args0, start1.below0, start1.atStart⟩
end Jvm.Pilot.@@N@@

import JvmDerived
import JvmDerived.Pilot.@@N@@Statement
import JvmDerived.Pilot.@@N@@Code
set_option linter.unusedVariables false
set_option linter.unusedSimpArgs false
@@BLOCK:NumsL.lean.txt@@
namespace Jvm.Pilot.@@N@@
open Jvm Jvm.ClassFile Sem Op Lib Jvm.Free Jvm.Stand Jvm.LawKit Jvm.RoadKit Bundle Jvm.Pilot.@@N@@.Jvm.D
section Own
variable {p : Program} {l : Launch} {e : Env} {R : Room} {s : State} {m : MethodId} {args : Array Value} {below : List Frame} {meth : Method} {c : Code} {T : State} {locs : List Loc} {cells slots : Nat}
/-- from t the invocation comes to its end, and F holds there -/
def own_Ends (p : Program) (e : Env) (below : List Frame) (F : State → Outcome → Prop) (t : State) : Prop := ∃ s₂ o, Steps p.tables e below t s₂ ∧ s₂.status = .running ∧ Ended s₂ below o ∧ F s₂ o
theorem own_pre {F : State → Outcome → Prop} {t t' : State} (k : ∀ u, Steps p.tables e below t' u → Steps p.tables e below t u) (h : own_Ends p e below F t') : own_Ends p e below F t := by
  obtain ⟨s₂, o, h1, h2⟩ := h
  exact ⟨s₂, o, k _ h1, h2⟩
/-- what is asked of the end: G of the value, the heap and the places written; the frame -/
def own_Fin (s : State) (G : Option Value → Heap → List Loc → Prop) (C S : Nat) (s₂ : State) (o : Outcome) : Prop := ∃ v L, o = .returned v ∧ G v s₂.heap L ∧ FrameEnd s o s₂ L C S
theorem own_out (X : Stand p l e R s m args below meth c T locs cells slots) {v : Option Value} (hv : meth.sig.returnType = none → v = none) (hlk : meth.locks = false) {g : JFrame} {G : Option Value → Heap → List Loc → Prop} {C S : Nat} {h : Heap} (eT : T.heap = h) (hG : G v h locs) (hC : cells ≤ C) (hS : slots ≤ S)
    (st : ∀ fs, (∀ (f : JFrame) (acts : List Action), f.method = m → f.locked = none → f.entered = [] → (doReturn e (T.setTop f) acts v).1 = T.setFrames fs) → Steps p.tables e below (T.setTop g) (T.setFrames fs)) : own_Ends p e below (own_Fin s G C S) (T.setTop g) := by
  obtain ⟨fs, hr, hrun, hended, hW, hsame⟩ := X.leave (v := v) hv hlk
  subst eT
  exact ⟨_, _, st fs hr, hrun, hended, v, locs, rfl, hG, ⟨_, rfl⟩, hW, hsame.mono hC hS⟩
theorem own_retN (X : Stand p l e R s m args below meth c T locs cells slots) (hx : p.tables.exec = Jvm.exec) {pc : Nat} {Ls : Array Slot} {z z' : Int32} {t : FieldType} {rest : List Value} (hret : meth.sig.returnType = some t) (ht : t = .boolean ∨ t = .byte ∨ t = .char ∨ t = .short) (hd : decode c.code pc = .ok (.ireturn, 1)) (hlk : meth.locks = false) (hz : nar t z = z')
    {G : Option Value → Heap → List Loc → Prop} {C S : Nat} {h : Heap} (eT : T.heap = h) (hG : G (some (.int z')) h locs) (hC : cells ≤ C) (hS : slots ≤ S) : own_Ends p e below (own_Fin s G C S) (T.setTop (mkF m pc Ls (.int z :: rest))) := by
  subst hz
  exact own_out X (fun h => by rw [hret] at h; cases h) hlk eT hG hC hS (fun fs hr => retN X hx hret ht hd hr)
theorem own_retI (X : Stand p l e R s m args below meth c T locs cells slots) (hx : p.tables.exec = Jvm.exec) {pc : Nat} {Ls : Array Slot} {z : Int32} {rest : List Value} (hret : meth.sig.returnType = some .int) (hd : decode c.code pc = .ok (.ireturn, 1)) (hlk : meth.locks = false)
    {G : Option Value → Heap → List Loc → Prop} {C S : Nat} {h : Heap} (eT : T.heap = h) (hG : G (some (.int z)) h locs) (hC : cells ≤ C) (hS : slots ≤ S) : own_Ends p e below (own_Fin s G C S) (T.setTop (mkF m pc Ls (.int z :: rest))) :=
  own_out X (fun h => by rw [hret] at h; cases h) hlk eT hG hC hS (fun fs hr => retOut X hx hret rfl (Or.inl ⟨rfl, Or.inl rfl, _, rfl⟩) hd hr)
theorem own_retJ (X : Stand p l e R s m args below meth c T locs cells slots) (hx : p.tables.exec = Jvm.exec) {pc : Nat} {Ls : Array Slot} {z : Int64} {rest : List Value} (hret : meth.sig.returnType = some .long) (hd : decode c.code pc = .ok (.lreturn, 1)) (hlk : meth.locks = false)
    {G : Option Value → Heap → List Loc → Prop} {C S : Nat} {h : Heap} (eT : T.heap = h) (hG : G (some (.long z)) h locs) (hC : cells ≤ C) (hS : slots ≤ S) : own_Ends p e below (own_Fin s G C S) (T.setTop (mkF m pc Ls (.long z :: rest))) :=
  own_out X (fun h => by rw [hret] at h; cases h) hlk eT hG hC hS (fun fs hr => retOut X hx hret rfl (Or.inr (Or.inl ⟨rfl, rfl, _, rfl⟩)) hd hr)
theorem own_retR (X : Stand p l e R s m args below meth c T locs cells slots) (hx : p.tables.exec = Jvm.exec) {pc : Nat} {Ls : Array Slot} {a : Addr} {t : FieldType} {rest : List Value} (hret : meth.sig.returnType = some t) (ht : t.isReference = true) (hd : decode c.code pc = .ok (.areturn, 1)) (hlk : meth.locks = false)
    {G : Option Value → Heap → List Loc → Prop} {C S : Nat} {h : Heap} (eT : T.heap = h) (hG : G (some (.ref a)) h locs) (hC : cells ≤ C) (hS : slots ≤ S) : own_Ends p e below (own_Fin s G C S) (T.setTop (mkF m pc Ls (.ref a :: rest))) :=
  own_out X (fun h => by rw [hret] at h; cases h) hlk eT hG hC hS (fun fs hr => retOut X hx hret (by cases t <;> first | rfl | (simp [FieldType.isReference] at ht)) (Or.inr (Or.inr (Or.inr (Or.inr ⟨rfl, ht, rfl⟩)))) hd hr)
theorem own_retV (X : Stand p l e R s m args below meth c T locs cells slots) (hx : p.tables.exec = Jvm.exec) {pc : Nat} {Ls : Array Slot} (hret : meth.sig.returnType = none) (hd : decode c.code pc = .ok (.return_, 1)) (hlk : meth.locks = false)
    {G : Option Value → Heap → List Loc → Prop} {C S : Nat} {h : Heap} (eT : T.heap = h) (hG : G none h locs) (hC : cells ≤ C) (hS : slots ≤ S) : own_Ends p e below (own_Fin s G C S) (T.setTop (mkF m pc Ls [])) :=
  own_out X (fun _ => rfl) hlk eT hG hC hS (fun fs hr => X.returnOut hx hret hd hr)
theorem own_len (X : Stand p l e R s m args below meth c T locs cells slots) (hx : p.tables.exec = Jvm.exec) {h : Heap} (eT : T.heap = h) {Z : State} (hZ : Z.Warmed39 s.vm) {a : Addr} {cl : Cell} {ty : FieldType} {z : Int32} (A : Arr Z h a cl ty) (S : cl.slots.size = z.toNatClampNeg) (M : ¬ z < 0)
    {g : JFrame} (hg : g.method = m) {rest : List Value} (hs : g.stack = .ref a :: rest) (hd : decode c.code g.pc = .ok (.arraylength, 1)) {target : State} (k : Steps p.tables e below (T.setTop { g with pc := g.pc + 1, stack := .int z :: rest }) target) : Steps p.tables e below (T.setTop g) target := by
  refine X.arraylength hx (by rw [eT]; exact A.1) (State.isArrayOf_alike hZ.alike A.2.1) hg hs hd _ ?_
  rw [len_of S M]
  exact k
theorem own_setAny {Z : State} {h h' : Heap} {a : Addr} {cl : Cell} {k : ClassId} {ty : FieldType} {z : Int32} {vs : List Value} {dv v : Value} {j : Nat} (A : Arr Z h a cl ty) (q1 : cl.cls = k) (S : cl.slots.size = z.toNatClampNeg) (q3 : ¬ z < 0) (H : Has cl vs dv) (G : ∀ i, i < cl.slots.size → fits ty (vs.getD i dv) = true) (hv : fits ty v = true) (W : Wr h h' a j v) : ∃ vs', Arv Z h' a k ty z vs' dv := by
  have E : ∀ x, x < (cl.setSlot j v).slots.size → (cl.setSlot j v).slots[x]? = some ((cl.setSlot j v).slots.toList.getD x dv) := fun x hx => by
    rw [List.getD_eq_getElem?_getD, Array.getElem?_toList, Array.getElem?_eq_getElem hx]; rfl
  refine ⟨(cl.setSlot j v).slots.toList, _, A.same W, q1, by rw [sz_set]; exact S, q3, E, fun x hx => ?_⟩
  have hx' := hx
  rw [sz_set] at hx'
  have e1 := E x hx
  by_cases u : j = x
  · subst u
    have : (cl.setSlot j v).slots[j]? = some v := by simp [Cell.setSlot, hx']
    rw [this] at e1
    rw [← Option.some.inj e1]; exact hv
  · have : (cl.setSlot j v).slots[x]? = cl.slots[x]? := by simp [Cell.setSlot, Array.getElem?_setIfInBounds_ne u]
    rw [this, H x hx'] at e1
    rw [← Option.some.inj e1]; exact G x hx'
theorem own_staK {Z : State} {h h' : Heap} {a : Addr} {C n d D : String} {v : Value} (F : Sta Z h C n d v) (K : Keep h h' [a]) (E : Exa Z h a D) : Sta Z h' C n d v := by
  obtain ⟨cf, i, k, f, st, cell, h1, h2, h3, h4, h5, h6, h7⟩ := F
  obtain ⟨cl, kc, g1, -, -, g4, -⟩ := E
  have ne : st ≠ a := fun q => by subst q; cases h5.symm.trans g1; rw [h6] at g4; cases g4
  exact ⟨cf, i, k, f, st, cell, h1, h2, h3, h4, K.2.1 st cell h5 (ninS ne nin0), h6, h7⟩
theorem own_staK0 {Z : State} {h h' : Heap} {C n d : String} {v : Value} (F : Sta Z h C n d v) (K : Keep h h' []) : Sta Z h' C n d v := by
  obtain ⟨cf, i, k, f, st, cell, h1, h2, h3, h4, h5, h6, h7⟩ := F
  exact ⟨cf, i, k, f, st, cell, h1, h2, h3, h4, K.2.1 st cell h5 nin0, h6, h7⟩
theorem own_selP {Z : State} {a0 : Array Value} {y : MethodName} {kk : Nat} (hZ : Z.Warmed39 s.vm) (wi : (Cond.instantiable y.cls kk).before a0 Z = true) (wp : (Cond.privateMethod y).before a0 Z = true) (wm : (Cond.instanceMethod y).before a0 Z = true) (hy : y.cls ≠ "java/lang/invoke/MethodHandle" ∧ y.cls ≠ "java/lang/invoke/VarHandle") : (Cond.selects y.cls y y).before args s = true := by
  have wi' : (Cond.instantiable y.cls kk).before args s = true := mvT hZ wi
  obtain ⟨c', k', h1, h2, -, h4, -⟩ := Cond.instantiable_spec wi'
  have h5 : k'.isInterface = false := by
    cases q : k'.isInterface with
    | false => rfl
    | true => rw [q] at h4; simp at h4
  exact selects_self_of_private h1 h2 h5 (Cond.privateMethod_at (mvP hZ wp (args := args))) (mvT hZ wm) hy
/-- what lcmp pushes; the unsigned shifts -/
def own_cmpL (x y : Int64) : Int32 := if x > y then 1 else if x = y then 0 else -1
def own_ushr (x y : Int32) : Int32 := (x.toUInt32 >>> (y &&& 31).toUInt32).toInt32
def own_ushrL (x : Int64) (y : Int32) : Int64 := (x.toUInt64 >>> (y &&& 0x3f).toInt64.toUInt64).toInt64
theorem own_clt (x y : Int64) : own_cmpL x y < 0 ↔ x < y := lw_lt x y
theorem own_cgt (x y : Int64) : 0 < own_cmpL x y ↔ y < x := lw_gt x y
theorem own_ceq (x y : Int64) : own_cmpL x y = 0 ↔ x = y := lw_eq x y
end Own
theorem own_d3_0 : decode jdk_29_method_69_code 0 = .ok (.iload_n 0, 1) := by decide +kernel
theorem own_lt1 (z : Int32) (h : z < 15) : z < z + 1 := by
  have e1 : (1 : Int32).toInt = 1 := rfl
  have e2 : (15 : Int32).toInt = 15 := rfl
  have a := z.le_toInt
  rw [Int32.lt_iff_toInt_lt, e2] at h
  have e3 : (z + 1).toInt = z.toInt + (1 : Int32).toInt := Jvm.Kit.i32_add (by omega) (by omega)
  rw [Int32.lt_iff_toInt_lt, e3, e1]
  omega
theorem own_val (v : Int64) : ¬ own_cmpL (v &&& 4294967295) 0 < 0 ∧ ¬ 0 < own_cmpL (v &&& 4294967295) 4294967295 := by
  have e1 : (v &&& 4294967295).toInt = v.toInt % 2 ^ 32 := Jvm.Kit.i64_mask v 4294967295 (by decide) (by decide)
  have e2 : (4294967295 : Int64).toInt = 4294967295 := rfl
  have e3 : (0 : Int64).toInt = 0 := rfl
  rw [own_clt, own_cgt, Int64.lt_iff_toInt_lt, Int64.lt_iff_toInt_lt, e1, e2, e3]
  omega
theorem own_low (v : Int64) : own_cmpL ((v &&& 4294967295).toInt32.toInt64 &&& 4294967295) (v &&& 4294967295) = 0 := by
  rw [own_ceq]
  apply Int64.toInt_inj.mp
  have e1 : (v &&& 4294967295).toInt = v.toInt % 2 ^ 32 := Jvm.Kit.i64_mask v 4294967295 (by decide) (by decide)
  generalize v &&& 4294967295 = x at *
  rw [Jvm.Kit.i64_mask x.toInt32.toInt64 4294967295 (k := 32) (by decide) (by decide), Jvm.Kit.i64_of_i32, Int64.toInt_toInt32]
  have e2 : x.toInt.bmod (2 ^ 32) % ((2 ^ 32 : Nat) : Int) = x.toInt % ((2 ^ 32 : Nat) : Int) := Int.bmod_emod
  have e3 : (((2 ^ 32 : Nat) : Int)) = 2 ^ 32 := rfl
  rw [e3] at e2
  rw [e2]
  omega
theorem own_five (f : Int32) {x : Int32} (h : (f &&& 2147483647) % 5 = x) : x = 0 ∨ x = 1 ∨ x = 2 ∨ x = 3 ∨ x = 4 := by
  have e1 : (f &&& 2147483647).toInt = f.toInt % 2 ^ 31 := Jvm.Kit.i32_mask f 2147483647 (by decide) (by decide)
  have e2 : ((f &&& 2147483647) % 5).toInt = (f &&& 2147483647).toInt % (5 : Int32).toInt := Jvm.Kit.i32_rem_nonneg (by rw [e1]; omega)
  have e3 : (5 : Int32).toInt = 5 := rfl
  have k0 : (0 : Int32).toInt = 0 := rfl
  have k1 : (1 : Int32).toInt = 1 := rfl
  have k2 : (2 : Int32).toInt = 2 := rfl
  have k3 : (3 : Int32).toInt = 3 := rfl
  have k4 : (4 : Int32).toInt = 4 := rfl
  subst h
  simp only [← Int32.toInt_inj, k0, k1, k2, k3, k4]
  rw [e2, e3]
  omega
theorem own_d3_1 : decode jdk_29_method_69_code 1 = .ok (.iload_n 1, 1) := by decide +kernel
theorem own_d3_2 : decode jdk_29_method_69_code 2 = .ok (.if_icmp .gt 7, 3) := by decide +kernel
theorem own_d3_5 : decode jdk_29_method_69_code 5 = .ok (.iload_n 0, 1) := by decide +kernel
theorem own_d3_6 : decode jdk_29_method_69_code 6 = .ok (.goto 4, 3) := by decide +kernel
theorem own_d3_9 : decode jdk_29_method_69_code 9 = .ok (.iload_n 1, 1) := by decide +kernel
theorem own_d3_10 : decode jdk_29_method_69_code 10 = .ok (.ireturn, 1) := by decide +kernel
def own_min (p0 : Int32) (p1 : Int32) : Int32 := if p1 < p0 then p1 else p0
theorem own_ef_rm1 (m : MethodId) (x0 : Int32) (x1 : Int32) : entryFrame m #[(.int x0), (.int x1)] 2 = mkF m 0 #[.val (.int x0), .val (.int x1)] [] := by first | (simp [entryFrame, mkF, argsToLocals, Value.category]; done) | rfl
def own_Q_rm1 (Z : State) (p0 : Int32) (p1 : Int32) (h0 : Heap) (n0 : Nat) (v : Option Value) (h : Heap) (L : List Loc) : Prop := v = some (.int (own_min p0 p1)) ∧ Fr n0 L ∧ h = h0
set_option maxRecDepth 65536 in
set_option maxHeartbeats 40000000 in
theorem rm1 (l : Launch) (Z : State) (a0 : Array Value) (hw : ∀ d ∈ tables_1, d.before a0 Z = true) (ws : List Jvm.Cond) (p0 : Int32) (p1 : Int32) (h0 : Heap) (n0 : Nat) (Z0 : n0 ≤ h0.size) :
    MetFree l (⟨"java/lang/Math", "min", "(II)I"⟩ : MethodName) (head1 (Jvm.Cond.code (⟨"java/lang/Math", "min", "(II)I"⟩ : MethodName) jdk_29_method_69_code 2 (some .int) :: ws) ({ frames := 0, cells := 0, slots := 0, locals := 0 } : Room)) (fun a U => a = #[(.int p0), (.int p1)] ∧ Z.Warmed39 U.vm ∧ U.heap = h0) (fun _ _ _ _ _ => True) (fun _ U o U' => ∃ v L, o = .returned v ∧ (own_Q_rm1 Z p0 p1 h0 n0) v U'.heap L ∧ FrameEnd U o U' L ({ frames := 0, cells := 0, slots := 0, locals := 0 } : Room).cells ({ frames := 0, cells := 0, slots := 0, locals := 0 } : Room).slots) := by
  refine MetFree.of_bodySF (Jvm.Free.JP.mathPlain rfl (by decide +kernel)) hisR ?_
  intro p e s m args below meth c s₁ Bd hml0 hP hK
  obtain ⟨rfl, hZ, hh⟩ := hP
  have hx := Bd.exec
  have hby := Bd.bytes
  have hml : c.maxLocals = 2 := hml0
  have hown : s.vm.findClass "java/lang/Math" = some m.cls := findClass_of_methodNamed Bd.named
  have hnm := (name_of_methodNamed Bd.named Bd.method).1
  have hlk : meth.locks = false := BodyLoose.notSynchronized Bd
  have X0 : Stand p l e ({ frames := 0, cells := 0, slots := 0, locals := 0 } : Room) s m #[(.int p0), (.int p1)] below meth c s₁ [] 0 0 := Stand.of_body Bd
  have e0 : s₁.heap = h0 := by rw [← hh, Bd.state]; rfl
  have N0 := Fr.nil n0
  show own_Ends p e below (own_Fin s (own_Q_rm1 Z p0 p1 h0 n0) ({ frames := 0, cells := 0, slots := 0, locals := 0 } : Room).cells ({ frames := 0, cells := 0, slots := 0, locals := 0 } : Room).slots) _
  refine own_pre (fun t k => castTop (own_ef_rm1 m p0 p1) k) ?_
  have J0 : ∀ (G : Option Value → Heap → List Loc → Prop) (hG : ∀ L, Fr n0 L → G (some (.int (if p1 < p0 then p1 else p0))) h0 L), own_Ends p e below (own_Fin s G ({ frames := 0, cells := 0, slots := 0, locals := 0 } : Room).cells ({ frames := 0, cells := 0, slots := 0, locals := 0 } : Room).slots) (s₁.setTop (mkF m 0 #[.val (.int p0), .val (.int p1)] [])) := by
    intro G hG
    show own_Ends _ _ _ _ (s₁.setTop (mkF m 0 #[.val (.int p0), .val (.int p1)] []))
    refine own_pre (fun t k => XS.iloadN X0.here hx rfl (hb hby own_d3_0) rfl k) ?_
    show own_Ends _ _ _ _ (s₁.setTop (mkF m 1 #[.val (.int p0), .val (.int p1)] [(.int p0)]))
    refine own_pre (fun t k => XS.iloadN X0.here hx rfl (hb hby own_d3_1) rfl k) ?_
    show own_Ends _ _ _ _ (s₁.setTop (mkF m 2 #[.val (.int p0), .val (.int p1)] [(.int p1), (.int p0)]))
    by_cases hc1 : p1 < p0
    · skip
      rw [if_pos hc1] at hG
      refine own_pre (fun t k => XS.icmpYes X0.here hx rfl (pc0 := 2) (pc' := 9) rfl (hb hby own_d3_2) rfl (tlt hc1).2.2.1 (by decide) (by decide) k) ?_
      show own_Ends _ _ _ _ (s₁.setTop (mkF m 9 #[.val (.int p0), .val (.int p1)] []))
      refine own_pre (fun t k => XS.iloadN X0.here hx rfl (hb hby own_d3_9) rfl k) ?_
      show own_Ends _ _ _ _ (s₁.setTop (mkF m 10 #[.val (.int p0), .val (.int p1)] [(.int p1)]))
      exact own_retI X0 hx Bd.returns (hb hby own_d3_10) hlk e0 (hG _ N0) (by decide) (by decide)
    · skip
      rw [if_neg hc1] at hG
      refine own_pre (fun t k => XS.icmpNo X0.here hx rfl (hb hby own_d3_2) rfl (flt hc1).2.2.1 k) ?_
      show own_Ends _ _ _ _ (s₁.setTop (mkF m 5 #[.val (.int p0), .val (.int p1)] []))
      refine own_pre (fun t k => XS.iloadN X0.here hx rfl (hb hby own_d3_5) rfl k) ?_
      show own_Ends _ _ _ _ (s₁.setTop (mkF m 6 #[.val (.int p0), .val (.int p1)] [(.int p0)]))
      refine own_pre (fun t k => XS.goto X0.here hx rfl (pc0 := 6) (pc' := 10) rfl (hb hby own_d3_6) (by decide) (by decide) k) ?_
      show own_Ends _ _ _ _ (s₁.setTop (mkF m 10 #[.val (.int p0), .val (.int p1)] [(.int p0)]))
      exact own_retI X0 hx Bd.returns (hb hby own_d3_10) hlk e0 (hG _ N0) (by decide) (by decide)
  exact J0 _ fun L q => ⟨rfl, q, rfl⟩
theorem own_copied (vs : List Value) (d : Value) (n m : Nat) (hn : vs.length = n) (hm : n ≤ m) (i : Nat) : vs.getD i d = ((List.replicate m d).take 0 ++ ((List.range n).map fun i => vs.getD (0 + i) d) ++ (List.replicate m d).drop (0 + n)).getD i d := by
  simp only [List.take_zero, List.nil_append, List.getD_eq_getElem?_getD, Nat.zero_add]
  by_cases h : i < n
  · rw [List.getElem?_append_left (by simp; exact h)]
    simp [h]
  · rw [List.getElem?_append_right (by simp; omega), List.getElem?_eq_none (by omega : vs.length ≤ i)]
    simp only [List.length_map, List.length_range, List.getElem?_drop, List.getElem?_replicate]
    split <;> rfl
theorem own_setLast (vs : List Value) (x v : Value) : (vs ++ [x]).set vs.length v = vs ++ [v] := by simp
theorem own_d2_0 : decode jdk_65_method_123_code 0 = .ok (.iload_n 1, 1) := by decide +kernel
theorem own_d2_1 : decode jdk_65_method_123_code 1 = .ok (.aload_n 0, 1) := by decide +kernel
theorem own_d2_2 : decode jdk_65_method_123_code 2 = .ok (.arraylength, 1) := by decide +kernel
theorem own_d2_3 : decode jdk_65_method_123_code 3 = .ok (.if_icmp .ne 11, 3) := by decide +kernel
theorem own_d2_14 : decode jdk_65_method_123_code 14 = .ok (.iload_n 1, 1) := by decide +kernel
theorem own_d2_15 : decode jdk_65_method_123_code 15 = .ok (.newarray .int, 2) := by decide +kernel
theorem own_d2_17 : decode jdk_65_method_123_code 17 = .ok (.astore_n 2, 1) := by decide +kernel
theorem own_d2_18 : decode jdk_65_method_123_code 18 = .ok (.aload_n 0, 1) := by decide +kernel
theorem own_d2_19 : decode jdk_65_method_123_code 19 = .ok (.iconst 0, 1) := by decide +kernel
theorem own_d2_20 : decode jdk_65_method_123_code 20 = .ok (.aload_n 2, 1) := by decide +kernel
theorem own_d2_21 : decode jdk_65_method_123_code 21 = .ok (.iconst 0, 1) := by decide +kernel
theorem own_d2_22 : decode jdk_65_method_123_code 22 = .ok (.aload_n 0, 1) := by decide +kernel
theorem own_d2_23 : decode jdk_65_method_123_code 23 = .ok (.arraylength, 1) := by decide +kernel
theorem own_d2_24 : decode jdk_65_method_123_code 24 = .ok (.iload_n 1, 1) := by decide +kernel
theorem own_pd0 : parseMethodDescriptor "(II)I" = some ⟨[.int, .int], some .int⟩ := by decide +kernel
theorem own_d2_25 : decode jdk_65_method_123_code 25 = .ok (.invokestatic 304, 3) := by decide +kernel
theorem own_d2_28 : decode jdk_65_method_123_code 28 = .ok (.invokestatic 150, 3) := by decide +kernel
theorem own_d2_31 : decode jdk_65_method_123_code 31 = .ok (.aload_n 2, 1) := by decide +kernel
theorem own_d2_32 : decode jdk_65_method_123_code 32 = .ok (.areturn, 1) := by decide +kernel
theorem own_pn0 : plainName "java/util/Arrays" = true := by first | (simp [plainName, overriddenIn]; done) | decide +kernel
theorem own_ef_rm2 (m : MethodId) (x0 : Addr) (x1 : Int32) : entryFrame m #[(.ref x0), (.int x1)] 3 = mkF m 0 #[.val (.ref x0), .val (.int x1), .unset] [] := by first | (simp [entryFrame, mkF, argsToLocals, Value.category]; done) | rfl
def own_Q_rm2 (Z : State) (r0 : Addr) (p1 : Int32) (kx : ClassId) (z : Int32) (vs : List Value) (h0 : Heap) (n0 : Nat) (v : Option Value) (h : Heap) (L : List Loc) : Prop := ∃ (b : Addr) (kb : ClassId), v = some (.ref b) ∧ Fr n0 L ∧ Keep h0 h [] ∧ Arv Z h b kb .int p1 vs (.int (0 : Int32)) ∧ n0 ≤ b ∧ h0.size ≤ b
set_option maxRecDepth 65536 in
set_option maxHeartbeats 40000000 in
theorem rm2 (l : Launch) (Z : State) (a0 : Array Value) (hw : ∀ d ∈ tables_1, d.before a0 Z = true) (ws : List Jvm.Cond) (r0 : Addr) (p1 : Int32) (kx : ClassId) (z : Int32) (vs : List Value) (h0 : Heap) (n0 : Nat) (Z0 : n0 ≤ h0.size) (V0 : Arv Z h0 r0 kx .int z vs (.int (0 : Int32))) (hne : ¬ p1 = z) (hnn : ¬ p1 < 0) (hcap : p1.toNatClampNeg ≤ 15) (hle : ¬ p1 < z) (hz0 : ¬ z < 0) (hzp : z.toNatClampNeg ≤ p1.toNatClampNeg) (hvl : vs.length = z.toNatClampNeg) :
    MetFree l (⟨"java/util/Arrays", "copyOf", "([II)[I"⟩ : MethodName) (head1 (Jvm.Cond.code (⟨"java/util/Arrays", "copyOf", "([II)[I"⟩ : MethodName) jdk_65_method_123_code 3 (some (.array .int)) :: ws) ({ frames := 1, cells := 1, slots := 15, locals := 18 } : Room)) (fun a U => a = #[(.ref r0), (.int p1)] ∧ Z.Warmed39 U.vm ∧ U.heap = h0) (fun _ _ _ _ _ => True) (fun _ U o U' => ∃ v L, o = .returned v ∧ (own_Q_rm2 Z r0 p1 kx z vs h0 n0) v U'.heap L ∧ FrameEnd U o U' L ({ frames := 1, cells := 1, slots := 15, locals := 18 } : Room).cells ({ frames := 1, cells := 1, slots := 15, locals := 18 } : Room).slots) := by
  refine MetFree.of_bodySF (plainFor_of_name own_pn0) hisR ?_
  intro p e s m args below meth c s₁ Bd hml0 hP hK
  obtain ⟨rfl, hZ, hh⟩ := hP
  have hx := Bd.exec
  have hby := Bd.bytes
  have hml : c.maxLocals = 3 := hml0
  have hown : s.vm.findClass "java/util/Arrays" = some m.cls := findClass_of_methodNamed Bd.named
  have hnm := (name_of_methodNamed Bd.named Bd.method).1
  have hlk : meth.locks = false := BodyLoose.notSynchronized Bd
  have X0 : Stand p l e ({ frames := 1, cells := 1, slots := 15, locals := 18 } : Room) s m #[(.ref r0), (.int p1)] below meth c s₁ [] 0 0 := Stand.of_body Bd
  have e0 : s₁.heap = h0 := by rw [← hh, Bd.state]; rfl
  have N0 := Fr.nil n0
  show own_Ends p e below (own_Fin s (own_Q_rm2 Z r0 p1 kx z vs h0 n0) ({ frames := 1, cells := 1, slots := 15, locals := 18 } : Room).cells ({ frames := 1, cells := 1, slots := 15, locals := 18 } : Room).slots) _
  refine own_pre (fun t k => castTop (own_ef_rm2 m r0 p1) k) ?_
  have KK0 : Keep h0 h0 [] := Keep.refl _ _
  show own_Ends _ _ _ _ (s₁.setTop (mkF m 0 #[.val (.ref r0), .val (.int p1), .unset] []))
  refine own_pre (fun t k => XS.iloadN X0.here hx rfl (hb hby own_d2_0) rfl k) ?_
  show own_Ends _ _ _ _ (s₁.setTop (mkF m 1 #[.val (.ref r0), .val (.int p1), .unset] [(.int p1)]))
  refine own_pre (fun t k => XS.aloadN X0.here hx rfl (hb hby own_d2_1) rfl rfl k) ?_
  show own_Ends _ _ _ _ (s₁.setTop (mkF m 2 #[.val (.ref r0), .val (.int p1), .unset] [(.ref r0), (.int p1)]))
  obtain ⟨cl2, Ar2, -, S2, M2, -, -⟩ := id (V0)
  refine own_pre (fun t k => own_len X0 hx e0 hZ Ar2 S2 M2 (g := (mkF m 2 #[.val (.ref r0), .val (.int p1), .unset] [(.ref r0), (.int p1)])) rfl rfl (hb hby own_d2_2) k) ?_
  show own_Ends _ _ _ _ (s₁.setTop (mkF m 3 #[.val (.ref r0), .val (.int p1), .unset] [(.int z), (.int p1)]))
  refine own_pre (fun t k => XS.icmpYes X0.here hx rfl (pc0 := 3) (pc' := 14) rfl (hb hby own_d2_3) rfl (feq (hne : ¬ (p1 = z))).2 (by decide) (by decide) k) ?_
  show own_Ends _ _ _ _ (s₁.setTop (mkF m 14 #[.val (.ref r0), .val (.int p1), .unset] []))
  refine own_pre (fun t k => XS.iloadN X0.here hx rfl (hb hby own_d2_14) rfl k) ?_
  show own_Ends _ _ _ _ (s₁.setTop (mkF m 15 #[.val (.ref r0), .val (.int p1), .unset] [(.int p1)]))
  obtain ⟨T3, h3, k3, X3, e3, E3, A3, st3⟩ := newP X0 hx hZ (hw _ (List.mem_of_getElem? (i := 1) rfl)) e0 (g := (mkF m 15 #[.val (.ref r0), .val (.int p1), .unset] [(.int p1)])) rfl (hb hby own_d2_15) rfl hnn (cap := 15) hcap (by decide) (by decide) (by decide)
  obtain ⟨b3, g3⟩ : ∃ z, z = h0.size := ⟨_, rfl⟩
  rw [← g3] at A3 st3
  refine own_pre st3 ?_
  have ne4 : r0 ≠ b3 := Nat.ne_of_lt (Nat.lt_of_lt_of_le V0.lt (Nat.le_of_eq g3.symm))
  have f5 := V0.ext E3
  have L6 : n0 ≤ b3 := Nat.le_trans Z0 (Nat.le_of_eq g3.symm)
  have L7 : h0.size ≤ b3 := Nat.le_trans KK0.1 (Nat.le_of_eq g3.symm)
  have K8 : Keep h0 h3 [] := KK0.ext E3
  have Zn9 : n0 ≤ h3.size := Nat.le_trans Z0 E3.1
  have f10 : Arv Z h3 b3 k3 .int p1 [] (.int (0 : Int32)) := Arv.new A3 hnn
  show own_Ends _ _ _ _ (T3.setTop (mkF m 17 #[.val (.ref r0), .val (.int p1), .unset] [(.ref b3)]))
  refine own_pre (fun t k => XS.astoreN X3.here hx rfl (hb hby own_d2_17) rfl rfl (l' := #[.val (.ref r0), .val (.int p1), .val (.ref b3)]) rfl k) ?_
  show own_Ends _ _ _ _ (T3.setTop (mkF m 18 #[.val (.ref r0), .val (.int p1), .val (.ref b3)] []))
  refine own_pre (fun t k => XS.aloadN X3.here hx rfl (hb hby own_d2_18) rfl rfl k) ?_
  show own_Ends _ _ _ _ (T3.setTop (mkF m 19 #[.val (.ref r0), .val (.int p1), .val (.ref b3)] [(.ref r0)]))
  refine own_pre (fun t k => XS.iconst X3.here hx rfl (hb hby own_d2_19) k) ?_
  show own_Ends _ _ _ _ (T3.setTop (mkF m 20 #[.val (.ref r0), .val (.int p1), .val (.ref b3)] [(.int (0 : Int32)), (.ref r0)]))
  refine own_pre (fun t k => XS.aloadN X3.here hx rfl (hb hby own_d2_20) rfl rfl k) ?_
  show own_Ends _ _ _ _ (T3.setTop (mkF m 21 #[.val (.ref r0), .val (.int p1), .val (.ref b3)] [(.ref b3), (.int (0 : Int32)), (.ref r0)]))
  refine own_pre (fun t k => XS.iconst X3.here hx rfl (hb hby own_d2_21) k) ?_
  show own_Ends _ _ _ _ (T3.setTop (mkF m 22 #[.val (.ref r0), .val (.int p1), .val (.ref b3)] [(.int (0 : Int32)), (.ref b3), (.int (0 : Int32)), (.ref r0)]))
  refine own_pre (fun t k => XS.aloadN X3.here hx rfl (hb hby own_d2_22) rfl rfl k) ?_
  show own_Ends _ _ _ _ (T3.setTop (mkF m 23 #[.val (.ref r0), .val (.int p1), .val (.ref b3)] [(.ref r0), (.int (0 : Int32)), (.ref b3), (.int (0 : Int32)), (.ref r0)]))
  obtain ⟨cl11, Ar11, -, S11, M11, -, -⟩ := id (f5)
  refine own_pre (fun t k => own_len X3 hx e3 hZ Ar11 S11 M11 (g := (mkF m 23 #[.val (.ref r0), .val (.int p1), .val (.ref b3)] [(.ref r0), (.int (0 : Int32)), (.ref b3), (.int (0 : Int32)), (.ref r0)])) rfl rfl (hb hby own_d2_23) k) ?_
  show own_Ends _ _ _ _ (T3.setTop (mkF m 24 #[.val (.ref r0), .val (.int p1), .val (.ref b3)] [(.int z), (.int (0 : Int32)), (.ref b3), (.int (0 : Int32)), (.ref r0)]))
  refine own_pre (fun t k => XS.iloadN X3.here hx rfl (hb hby own_d2_24) rfl k) ?_
  show own_Ends _ _ _ _ (T3.setTop (mkF m 25 #[.val (.ref r0), .val (.int p1), .val (.ref b3)] [(.int p1), (.int z), (.int (0 : Int32)), (.ref b3), (.int (0 : Int32)), (.ref r0)]))
  obtain ⟨_, _, ⟨T12, L12, k12, n12⟩, -, X12, ⟨Lc12, hQ12, l12, y12, z12⟩, st12⟩ := Jvm.LawKit.callS X3 hx (y := (⟨"java/lang/Math", "min", "(II)I"⟩ : MethodName)) hown (mvT hZ (hw _ (List.mem_of_getElem? (i := 12) rfl))) (mvT hZ (hw _ (List.mem_of_getElem? (i := 13) rfl))) (mvT hZ (hw _ (List.mem_of_getElem? (i := 14) rfl))) (mvT hZ (hw _ (List.mem_of_getElem? (i := 15) rfl))) (by decide) (backOf (W := 4) (rm1 l Z a0 hw [] z p1 h3 n0 Zn9) hZ (hw _ (List.mem_of_getElem? (i := 15) rfl)) (hw _ (List.mem_of_getElem? (i := 14) rfl)) (by decide) (by decide)) (g := (mkF m 25 #[.val (.ref r0), .val (.int p1), .val (.ref b3)] [(.int p1), (.int z), (.int (0 : Int32)), (.ref b3), (.int (0 : Int32)), (.ref r0)])) rfl (by rw [hml]; rfl) (argsL := [(.int z), (.int p1)]) (rest := [(.int (0 : Int32)), (.ref b3), (.int (0 : Int32)), (.ref r0)]) (lenOf own_pd0 rfl) rfl (by show 2 * 0 + _ ≤ _; exact Nat.le_of_eq rfl) (hb hby own_d2_25) (fun _ _ => ⟨rfl, e3, (by decide : 1 + 0 ≤ _), (by decide : 15 + 0 ≤ _)⟩)
  dsimp only [Pt.U, Pt.locs, Pt.cells, Pt.slots] at X12 l12 y12 z12 st12 hQ12
  subst l12 y12 z12
  obtain ⟨rfl, Nq12, e12⟩ := hQ12
  have N12 := Fr.app N0 Nq12
  refine own_pre st12 ?_
  show own_Ends _ _ _ _ (T12.setTop (mkF m 28 #[.val (.ref r0), .val (.int p1), .val (.ref b3)] [(.int (own_min z p1)), (.int (0 : Int32)), (.ref b3), (.int (0 : Int32)), (.ref r0)]))
  have hmin : own_min z p1 = z := if_neg hle
  rw [hmin]
  have vp13 := f10.pad (pad_rep [] (.int (0 : Int32)) p1.toNatClampNeg)
  obtain ⟨T13, h13, L13, X13, e13, Nc13, Kc13, vc13, st13⟩ := cpA X12 hx hZ hown (hw _ (List.mem_of_getElem? (i := 16) rfl)) (hw _ (List.mem_of_getElem? (i := 19) rfl)) (hw _ (List.mem_of_getElem? (i := 17) rfl)) (hw _ (List.mem_of_getElem? (i := 18) rfl)) e12 f5 vp13 (Or.inl ⟨rfl, rfl⟩) (sp := (0 : Int32)) (dp := (0 : Int32)) (nn := z) (by decide) (by decide) hz0 (by show 0 + z.toNatClampNeg ≤ _; omega) (by show 0 + z.toNatClampNeg ≤ _; exact Nat.le_trans (Nat.le_of_eq (Nat.zero_add _)) hzp) rfl (by show 0 + z.toNatClampNeg ≤ _; simp; exact hzp) N12 L6 (g := (mkF m 28 #[.val (.ref r0), .val (.int p1), .val (.ref b3)] [(.int z), (.int (0 : Int32)), (.ref b3), (.int (0 : Int32)), (.ref r0)])) rfl (by rw [hml]; rfl) rfl (hb hby own_d2_28) (by decide) (W := 0) (by show 2 * 0 + _ ≤ _; exact Nat.le_of_eq rfl) (by decide)
  refine own_pre st13 ?_
  have vf13 : Arv Z h13 b3 k3 .int p1 vs (.int (0 : Int32)) := vc13.pad (own_copied vs (.int (0 : Int32)) z.toNatClampNeg p1.toNatClampNeg hvl hzp)
  have Kd13 : Keep h0 h13 [] := K8.trans Kc13 (allS (Or.inr L7) all0)
  show own_Ends _ _ _ _ (T13.setTop (mkF m 31 #[.val (.ref r0), .val (.int p1), .val (.ref b3)] []))
  refine own_pre (fun t k => XS.aloadN X13.here hx rfl (hb hby own_d2_31) rfl rfl k) ?_
  show own_Ends _ _ _ _ (T13.setTop (mkF m 32 #[.val (.ref r0), .val (.int p1), .val (.ref b3)] [(.ref b3)]))
  exact own_retR X13 hx Bd.returns rfl (hb hby own_d2_32) hlk e13 ⟨b3, _, rfl, Nc13, Kd13, vf13, L6, L7⟩ (by decide) (by decide)
theorem own_d1_0 : decode prog_27_method_3_code 0 = .ok (.aload_n 0, 1) := by decide +kernel
theorem own_d1_1 : decode prog_27_method_3_code 1 = .ok (.arraylength, 1) := by decide +kernel
theorem own_d1_2 : decode prog_27_method_3_code 2 = .ok (.istore_n 3, 1) := by decide +kernel
theorem own_d1_3 : decode prog_27_method_3_code 3 = .ok (.iload_n 3, 1) := by decide +kernel
theorem own_d1_4 : decode prog_27_method_3_code 4 = .ok (.bipush 15, 2) := by decide +kernel
theorem own_d1_6 : decode prog_27_method_3_code 6 = .ok (.if_icmp .lt 18, 3) := by decide +kernel
theorem own_d1_24 : decode prog_27_method_3_code 24 = .ok (.lload_n 1, 1) := by decide +kernel
theorem own_d1_25 : decode prog_27_method_3_code 25 = .ok (.lconst 0, 1) := by decide +kernel
theorem own_d1_26 : decode prog_27_method_3_code 26 = .ok (.lcmp, 1) := by decide +kernel
theorem own_d1_27 : decode prog_27_method_3_code 27 = .ok (.ifCond .lt 11, 3) := by decide +kernel
theorem own_d1_30 : decode prog_27_method_3_code 30 = .ok (.lload_n 1, 1) := by decide +kernel
theorem own_d1_31 : decode prog_27_method_3_code 31 = .ok (.ldc2_w 29, 3) := by decide +kernel
theorem own_d1_34 : decode prog_27_method_3_code 34 = .ok (.lcmp, 1) := by decide +kernel
theorem own_d1_35 : decode prog_27_method_3_code 35 = .ok (.ifCond .le 18, 3) := by decide +kernel
theorem own_d1_53 : decode prog_27_method_3_code 53 = .ok (.aload_n 0, 1) := by decide +kernel
theorem own_d1_54 : decode prog_27_method_3_code 54 = .ok (.iload_n 3, 1) := by decide +kernel
theorem own_d1_55 : decode prog_27_method_3_code 55 = .ok (.iconst 1, 1) := by decide +kernel
theorem own_d1_56 : decode prog_27_method_3_code 56 = .ok (.iadd, 1) := by decide +kernel
theorem own_pd1 : parseMethodDescriptor "([II)[I" = some ⟨[(.array .int), .int], some (.array .int)⟩ := by decide +kernel
theorem own_d1_57 : decode prog_27_method_3_code 57 = .ok (.invokestatic 32, 3) := by decide +kernel
theorem own_d1_60 : decode prog_27_method_3_code 60 = .ok (.astore 4, 2) := by decide +kernel
theorem own_d1_62 : decode prog_27_method_3_code 62 = .ok (.aload 4, 2) := by decide +kernel
theorem own_d1_64 : decode prog_27_method_3_code 64 = .ok (.iload_n 3, 1) := by decide +kernel
theorem own_d1_65 : decode prog_27_method_3_code 65 = .ok (.lload_n 1, 1) := by decide +kernel
theorem own_d1_66 : decode prog_27_method_3_code 66 = .ok (.l2i, 1) := by decide +kernel
theorem own_d1_67 : decode prog_27_method_3_code 67 = .ok (.iastore, 1) := by decide +kernel
theorem own_d1_68 : decode prog_27_method_3_code 68 = .ok (.aload 4, 2) := by decide +kernel
theorem own_d1_70 : decode prog_27_method_3_code 70 = .ok (.areturn, 1) := by decide +kernel
theorem own_pn1 : plainName "com/example/many_dashes/manydashes/form/SidLimits" = true := by first | (simp [plainName, overriddenIn]; done) | decide +kernel
theorem own_ef_rm3 (m : MethodId) (x0 : Addr) (x1 : Int64) : entryFrame m #[(.ref x0), (.long x1)] 5 = mkF m 0 #[.val (.ref x0), .val (.long x1), .second, .unset, .unset] [] := by first | (simp [entryFrame, mkF, argsToLocals, Value.category]; done) | rfl
def own_Q_rm3 (Z : State) (r0 : Addr) (q1 : Int64) (kx : ClassId) (z : Int32) (vs : List Value) (h0 : Heap) (n0 : Nat) (v : Option Value) (h : Heap) (L : List Loc) : Prop := ∃ (b : Addr) (kb : ClassId), v = some (.ref b) ∧ Fr n0 L ∧ Keep h0 h [] ∧ Arv Z h b kb .int (z + (1 : Int32)) (vs ++ [(.int (q1.toInt32))]) (.int (0 : Int32)) ∧ n0 ≤ b ∧ h0.size ≤ b
set_option maxRecDepth 65536 in
set_option maxHeartbeats 40000000 in
theorem rm3 (l : Launch) (Z : State) (a0 : Array Value) (hw : ∀ d ∈ tables_1, d.before a0 Z = true) (ws : List Jvm.Cond) (r0 : Addr) (q1 : Int64) (kx : ClassId) (z : Int32) (vs : List Value) (h0 : Heap) (n0 : Nat) (Z0 : n0 ≤ h0.size) (V0 : Arv Z h0 r0 kx .int z vs (.int (0 : Int32))) (hc6 : z < (15 : Int32)) (hc27 : ¬ own_cmpL q1 (0 : Int64) < (0 : Int32)) (hc35 : ¬ (0 : Int32) < own_cmpL q1 (4294967295 : Int64)) (hne : ¬ (z + (1 : Int32)) = z) (hnn : ¬ (z + (1 : Int32)) < 0) (hcap : (z + (1 : Int32)).toNatClampNeg ≤ 15) (hle : ¬ (z + (1 : Int32)) < z) (hz0 : ¬ z < 0) (hzp : z.toNatClampNeg ≤ (z + (1 : Int32)).toNatClampNeg) (hvl : vs.length = z.toNatClampNeg) :
    MetFree l (⟨"com/example/many_dashes/manydashes/form/SidLimits", "appended", "([IJ)[I"⟩ : MethodName) (head1 (Jvm.Cond.code (⟨"com/example/many_dashes/manydashes/form/SidLimits", "appended", "([IJ)[I"⟩ : MethodName) prog_27_method_3_code 5 (some (.array .int)) :: ws) ({ frames := 2, cells := 1, slots := 15, locals := 32 } : Room)) (fun a U => a = #[(.ref r0), (.long q1)] ∧ Z.Warmed39 U.vm ∧ U.heap = h0) (fun _ _ _ _ _ => True) (fun _ U o U' => ∃ v L, o = .returned v ∧ (own_Q_rm3 Z r0 q1 kx z vs h0 n0) v U'.heap L ∧ FrameEnd U o U' L ({ frames := 2, cells := 1, slots := 15, locals := 32 } : Room).cells ({ frames := 2, cells := 1, slots := 15, locals := 32 } : Room).slots) := by
  refine MetFree.of_bodySF (plainFor_of_name own_pn1) hisR ?_
  intro p e s m args below meth c s₁ Bd hml0 hP hK
  obtain ⟨rfl, hZ, hh⟩ := hP
  have hx := Bd.exec
  have hby := Bd.bytes
  have hml : c.maxLocals = 5 := hml0
  have hown : s.vm.findClass "com/example/many_dashes/manydashes/form/SidLimits" = some m.cls := findClass_of_methodNamed Bd.named
  have hnm := (name_of_methodNamed Bd.named Bd.method).1
  have hlk : meth.locks = false := BodyLoose.notSynchronized Bd
  have X0 : Stand p l e ({ frames := 2, cells := 1, slots := 15, locals := 32 } : Room) s m #[(.ref r0), (.long q1)] below meth c s₁ [] 0 0 := Stand.of_body Bd
  have e0 : s₁.heap = h0 := by rw [← hh, Bd.state]; rfl
  have N0 := Fr.nil n0
  show own_Ends p e below (own_Fin s (own_Q_rm3 Z r0 q1 kx z vs h0 n0) ({ frames := 2, cells := 1, slots := 15, locals := 32 } : Room).cells ({ frames := 2, cells := 1, slots := 15, locals := 32 } : Room).slots) _
  refine own_pre (fun t k => castTop (own_ef_rm3 m r0 q1) k) ?_
  have KK0 : Keep h0 h0 [] := Keep.refl _ _
  show own_Ends _ _ _ _ (s₁.setTop (mkF m 0 #[.val (.ref r0), .val (.long q1), .second, .unset, .unset] []))
  refine own_pre (fun t k => XS.aloadN X0.here hx rfl (hb hby own_d1_0) rfl rfl k) ?_
  show own_Ends _ _ _ _ (s₁.setTop (mkF m 1 #[.val (.ref r0), .val (.long q1), .second, .unset, .unset] [(.ref r0)]))
  obtain ⟨cl14, Ar14, -, S14, M14, -, -⟩ := id (V0)
  refine own_pre (fun t k => own_len X0 hx e0 hZ Ar14 S14 M14 (g := (mkF m 1 #[.val (.ref r0), .val (.long q1), .second, .unset, .unset] [(.ref r0)])) rfl rfl (hb hby own_d1_1) k) ?_
  show own_Ends _ _ _ _ (s₁.setTop (mkF m 2 #[.val (.ref r0), .val (.long q1), .second, .unset, .unset] [(.int z)]))
  refine own_pre (fun t k => XS.istoreN X0.here hx rfl (hb hby own_d1_2) rfl (l' := #[.val (.ref r0), .val (.long q1), .second, .val (.int z), .unset]) rfl k) ?_
  show own_Ends _ _ _ _ (s₁.setTop (mkF m 3 #[.val (.ref r0), .val (.long q1), .second, .val (.int z), .unset] []))
  refine own_pre (fun t k => XS.iloadN X0.here hx rfl (hb hby own_d1_3) rfl k) ?_
  show own_Ends _ _ _ _ (s₁.setTop (mkF m 4 #[.val (.ref r0), .val (.long q1), .second, .val (.int z), .unset] [(.int z)]))
  refine own_pre (fun t k => XS.bipush X0.here hx rfl (hb hby own_d1_4) k) ?_
  show own_Ends _ _ _ _ (s₁.setTop (mkF m 6 #[.val (.ref r0), .val (.long q1), .second, .val (.int z), .unset] [(.int (15 : Int32)), (.int z)]))
  refine own_pre (fun t k => XS.icmpYes X0.here hx rfl (pc0 := 6) (pc' := 24) rfl (hb hby own_d1_6) rfl (tlt (hc6 : z < (15 : Int32))).1 (by decide) (by decide) k) ?_
  show own_Ends _ _ _ _ (s₁.setTop (mkF m 24 #[.val (.ref r0), .val (.long q1), .second, .val (.int z), .unset] []))
  refine own_pre (fun t k => XS.lloadN X0.here hx rfl (hb hby own_d1_24) rfl k) ?_
  show own_Ends _ _ _ _ (s₁.setTop (mkF m 25 #[.val (.ref r0), .val (.long q1), .second, .val (.int z), .unset] [(.long q1)]))
  refine own_pre (fun t k => XS.lconst X0.here hx rfl (hb hby own_d1_25) k) ?_
  show own_Ends _ _ _ _ (s₁.setTop (mkF m 26 #[.val (.ref r0), .val (.long q1), .second, .val (.int z), .unset] [(.long (0 : Int64)), (.long q1)]))
  refine own_pre (fun t k => XS.lcmp X0.here hx rfl (hb hby own_d1_26) rfl k) ?_
  show own_Ends _ _ _ _ (s₁.setTop (mkF m 27 #[.val (.ref r0), .val (.long q1), .second, .val (.int z), .unset] [(.int (own_cmpL q1 (0 : Int64)))]))
  refine own_pre (fun t k => XS.ifNo X0.here hx rfl (hb hby own_d1_27) rfl ((if0 _ _).trans (flt (hc27 : ¬ ((own_cmpL q1 (0 : Int64)) < (0 : Int32)))).1) k) ?_
  show own_Ends _ _ _ _ (s₁.setTop (mkF m 30 #[.val (.ref r0), .val (.long q1), .second, .val (.int z), .unset] []))
  refine own_pre (fun t k => XS.lloadN X0.here hx rfl (hb hby own_d1_30) rfl k) ?_
  show own_Ends _ _ _ _ (s₁.setTop (mkF m 31 #[.val (.ref r0), .val (.long q1), .second, .val (.int z), .unset] [(.long q1)]))
  refine own_pre (fun t k => X0.ldc2Long hx hown (mvT hZ (hw _ (List.mem_of_getElem? (i := 7) rfl))) (g := (mkF m 31 #[.val (.ref r0), .val (.long q1), .second, .val (.int z), .unset] [(.long q1)])) rfl (hb hby own_d1_31) _ k) ?_
  show own_Ends _ _ _ _ (s₁.setTop (mkF m 34 #[.val (.ref r0), .val (.long q1), .second, .val (.int z), .unset] [(.long (4294967295 : Int64)), (.long q1)]))
  refine own_pre (fun t k => XS.lcmp X0.here hx rfl (hb hby own_d1_34) rfl k) ?_
  show own_Ends _ _ _ _ (s₁.setTop (mkF m 35 #[.val (.ref r0), .val (.long q1), .second, .val (.int z), .unset] [(.int (own_cmpL q1 (4294967295 : Int64)))]))
  refine own_pre (fun t k => XS.ifYes X0.here hx rfl (pc0 := 35) (pc' := 53) rfl (hb hby own_d1_35) rfl ((if0 _ _).trans (flt (hc35 : ¬ ((0 : Int32) < (own_cmpL q1 (4294967295 : Int64))))).2.2.2) (by decide) (by decide) k) ?_
  show own_Ends _ _ _ _ (s₁.setTop (mkF m 53 #[.val (.ref r0), .val (.long q1), .second, .val (.int z), .unset] []))
  refine own_pre (fun t k => XS.aloadN X0.here hx rfl (hb hby own_d1_53) rfl rfl k) ?_
  show own_Ends _ _ _ _ (s₁.setTop (mkF m 54 #[.val (.ref r0), .val (.long q1), .second, .val (.int z), .unset] [(.ref r0)]))
  refine own_pre (fun t k => XS.iloadN X0.here hx rfl (hb hby own_d1_54) rfl k) ?_
  show own_Ends _ _ _ _ (s₁.setTop (mkF m 55 #[.val (.ref r0), .val (.long q1), .second, .val (.int z), .unset] [(.int z), (.ref r0)]))
  refine own_pre (fun t k => XS.iconst X0.here hx rfl (hb hby own_d1_55) k) ?_
  show own_Ends _ _ _ _ (s₁.setTop (mkF m 56 #[.val (.ref r0), .val (.long q1), .second, .val (.int z), .unset] [(.int (1 : Int32)), (.int z), (.ref r0)]))
  refine own_pre (fun t k => XS.iadd X0.here hx rfl (hb hby own_d1_56) rfl k) ?_
  show own_Ends _ _ _ _ (s₁.setTop (mkF m 57 #[.val (.ref r0), .val (.long q1), .second, .val (.int z), .unset] [(.int (z + (1 : Int32))), (.ref r0)]))
  obtain ⟨_, _, ⟨T15, L15, k15, n15⟩, -, X15, ⟨Lc15, hQ15, l15, y15, z15⟩, st15⟩ := Jvm.LawKit.callS X0 hx (y := (⟨"java/util/Arrays", "copyOf", "([II)[I"⟩ : MethodName)) hown (mvT hZ (hw _ (List.mem_of_getElem? (i := 8) rfl))) (mvT hZ (hw _ (List.mem_of_getElem? (i := 9) rfl))) (mvT hZ (hw _ (List.mem_of_getElem? (i := 10) rfl))) (mvT hZ (hw _ (List.mem_of_getElem? (i := 11) rfl))) (by decide) (backOf (W := 0) (rm2 l Z a0 hw [] r0 (z + (1 : Int32)) kx z vs h0 n0 Z0 V0 hne hnn hcap hle hz0 hzp hvl) hZ (hw _ (List.mem_of_getElem? (i := 11) rfl)) (hw _ (List.mem_of_getElem? (i := 10) rfl)) (by decide) (by decide)) (g := (mkF m 57 #[.val (.ref r0), .val (.long q1), .second, .val (.int z), .unset] [(.int (z + (1 : Int32))), (.ref r0)])) rfl (by rw [hml]; rfl) (argsL := [(.ref r0), (.int (z + (1 : Int32)))]) (rest := []) (lenOf own_pd1 rfl) rfl (by show 2 * 0 + _ ≤ _; exact Nat.le_of_eq rfl) (hb hby own_d1_57) (fun _ _ => ⟨rfl, e0, (by decide : 0 + 1 ≤ _), (by decide : 0 + 15 ≤ _)⟩)
  dsimp only [Pt.U, Pt.locs, Pt.cells, Pt.slots] at X15 l15 y15 z15 st15 hQ15
  subst l15 y15 z15
  obtain ⟨br15, kb15, rfl, Nq15, Kq15, va15, la15, lb15⟩ := hQ15
  have N15 := Fr.app N0 Nq15
  have ne16 : r0 ≠ br15 := Nat.ne_of_lt (Nat.lt_of_lt_of_le V0.lt lb15)
  have f17 := V0.keep Kq15 nin0
  have Zn15 : n0 ≤ T15.heap.size := Nat.le_trans Z0 Kq15.1
  have lc15 : h0.size ≤ br15 := Nat.le_trans KK0.1 lb15
  have K18 : Keep h0 T15.heap [] := KK0.trans Kq15 all0
  refine own_pre st15 ?_
  show own_Ends _ _ _ _ (T15.setTop (mkF m 60 #[.val (.ref r0), .val (.long q1), .second, .val (.int z), .unset] [(.ref br15)]))
  refine own_pre (fun t k => XS.astore X15.here hx rfl (hb hby own_d1_60) rfl rfl (l' := #[.val (.ref r0), .val (.long q1), .second, .val (.int z), .val (.ref br15)]) rfl k) ?_
  show own_Ends _ _ _ _ (T15.setTop (mkF m 62 #[.val (.ref r0), .val (.long q1), .second, .val (.int z), .val (.ref br15)] []))
  refine own_pre (fun t k => XS.aload X15.here hx rfl (hb hby own_d1_62) rfl rfl k) ?_
  show own_Ends _ _ _ _ (T15.setTop (mkF m 64 #[.val (.ref r0), .val (.long q1), .second, .val (.int z), .val (.ref br15)] [(.ref br15)]))
  refine own_pre (fun t k => XS.iloadN X15.here hx rfl (hb hby own_d1_64) rfl k) ?_
  show own_Ends _ _ _ _ (T15.setTop (mkF m 65 #[.val (.ref r0), .val (.long q1), .second, .val (.int z), .val (.ref br15)] [(.int z), (.ref br15)]))
  refine own_pre (fun t k => XS.lloadN X15.here hx rfl (hb hby own_d1_65) rfl k) ?_
  show own_Ends _ _ _ _ (T15.setTop (mkF m 66 #[.val (.ref r0), .val (.long q1), .second, .val (.int z), .val (.ref br15)] [(.long q1), (.int z), (.ref br15)]))
  refine own_pre (fun t k => XS.l2i X15.here hx rfl (hb hby own_d1_66) rfl k) ?_
  have f19 := va15.pad (pad_rep vs (.int (0 : Int32)) 1)
  show own_Ends _ _ _ _ (T15.setTop (mkF m 67 #[.val (.ref r0), .val (.long q1), .second, .val (.int z), .val (.ref br15)] [(.int (q1.toInt32)), (.int z), (.ref br15)]))
  obtain ⟨cl20, Ar20, q20, S20, M20, H20, G20⟩ := id (f19)
  have hin20 : ¬ (z < 0 ∨ cl20.slots.size ≤ (z).toNatClampNeg) := inb_of S20 ⟨hz0, own_lt1 z hc6⟩
  obtain ⟨T20, h20, X20, e20, W20, st20⟩ := stI X15 hx hZ rfl Ar20 (j := z) hin20 (g := (mkF m 67 #[.val (.ref r0), .val (.long q1), .second, .val (.int z), .val (.ref br15)] [(.int (q1.toInt32)), (.int z), (.ref br15)])) rfl rfl (hb hby own_d1_67)
  refine own_pre st20 ?_
  have f21 : Arv Z h20 br15 kb15 .int (z + (1 : Int32)) (vs ++ [(.int (q1.toInt32))]) (.int (0 : Int32)) := own_setLast vs (.int (0 : Int32)) (.int (q1.toInt32)) ▸ Arv.set Ar20 q20 S20 M20 H20 G20 (show fits .int (.int (q1.toInt32)) = true from rfl) W20 vs.length hvl.symm (by simp)
  have f22 := f17.other W20 ne16
  have N23 := Fr.snoc X20 N15 la15
  have Zn24 : n0 ≤ h20.size := by rw [W20.size]; exact Zn15
  have K25 : Keep h0 h20 [] := K18.wr W20 (Or.inr lc15)
  show own_Ends _ _ _ _ (T20.setTop (mkF m 68 #[.val (.ref r0), .val (.long q1), .second, .val (.int z), .val (.ref br15)] []))
  refine own_pre (fun t k => XS.aload X20.here hx rfl (hb hby own_d1_68) rfl rfl k) ?_
  show own_Ends _ _ _ _ (T20.setTop (mkF m 70 #[.val (.ref r0), .val (.long q1), .second, .val (.int z), .val (.ref br15)] [(.ref br15)]))
  exact own_retR X20 hx Bd.returns rfl (hb hby own_d1_70) hlk e20 ⟨br15, _, rfl, N23, K25, f21, la15, lc15⟩ (by decide) (by decide)
theorem own_pd2 : parseMethodDescriptor "([IJ)[I" = some ⟨[(.array .int), .long], some (.array .int)⟩ := by decide +kernel
theorem own_pn2 : plainName "com/example/many_dashes/manydashes/form/SidLimitsAppendedPinLaw" = true := by first | (simp [plainName, overriddenIn]; done) | decide +kernel
theorem own_ef_rm0 (m : MethodId) (x0 : Int32) (x1 : Int32) (x2 : Int32) (x3 : Int32) (x4 : Int64) : entryFrame m #[(.int x0), (.int x1), (.int x2), (.int x3), (.long x4)] maxLocals = mkF m 0 #[.val (.int x0), .val (.int x1), .val (.int x2), .val (.int x3), .val (.long x4), .second, .unset, .unset, .unset, .unset, .unset, .unset] [] := by first | (simp [entryFrame, mkF, argsToLocals, Value.category, maxLocals]; done) | rfl
def own_Q_rm0 (Z : State) (p0 : Int32) (p1 : Int32) (p2 : Int32) (p3 : Int32) (p4 : Int64) (h0 : Heap) (n0 : Nat) (v : Option Value) (h : Heap) (L : List Loc) : Prop := v = some (.int 1) ∧ Fr n0 L
set_option maxRecDepth 65536 in
set_option maxHeartbeats 40000000 in
theorem rm0 (l : Launch) (Z : State) (a0 : Array Value) (hw : ∀ d ∈ tables_1, d.before a0 Z = true) (ws : List Jvm.Cond) (p0 : Int32) (p1 : Int32) (p2 : Int32) (p3 : Int32) (p4 : Int64) (h0 : Heap) (n0 : Nat) (Z0 : n0 ≤ h0.size) :
    MetFree l x (head1 (Jvm.Cond.code x code maxLocals ret :: ws) room_1) (fun a U => a = #[(.int p0), (.int p1), (.int p2), (.int p3), (.long p4)] ∧ Z.Warmed39 U.vm ∧ U.heap = h0) (fun _ _ _ _ _ => True) (fun _ U o U' => ∃ v L, o = .returned v ∧ (own_Q_rm0 Z p0 p1 p2 p3 p4 h0 n0) v U'.heap L ∧ FrameEnd U o U' L 16 128) := by
  refine MetFree.of_bodySF (plainFor_of_name own_pn2) hisR ?_
  intro p e s m args below meth c s₁ Bd hml0 hP hK
  obtain ⟨rfl, hZ, hh⟩ := hP
  have hx := Bd.exec
  have hby := Bd.bytes
  have hml : c.maxLocals = 12 := hml0
  have hown : s.vm.findClass "com/example/many_dashes/manydashes/form/SidLimitsAppendedPinLaw" = some m.cls := findClass_of_methodNamed Bd.named
  have hnm := (name_of_methodNamed Bd.named Bd.method).1
  have hlk : meth.locks = false := BodyLoose.notSynchronized Bd
  have X0 : Stand p l e room_1 s m #[(.int p0), (.int p1), (.int p2), (.int p3), (.long p4)] below meth c s₁ [] 0 0 := Stand.of_body Bd
  have e0 : s₁.heap = h0 := by rw [← hh, Bd.state]; rfl
  have N0 := Fr.nil n0
  show own_Ends p e below (own_Fin s (own_Q_rm0 Z p0 p1 p2 p3 p4 h0 n0) 16 128) _
  refine own_pre (fun t k => castTop (own_ef_rm0 m p0 p1 p2 p3 p4) k) ?_
  show own_Ends _ _ _ _ (s₁.setTop (mkF m 0 #[.val (.int p0), .val (.int p1), .val (.int p2), .val (.int p3), .val (.long p4), .second, .unset, .unset, .unset, .unset, .unset, .unset] []))
  refine own_pre (fun t k => XS.iloadN X0.here hx rfl (hb hby at_0) rfl k) ?_
  show own_Ends _ _ _ _ (s₁.setTop (mkF m 1 #[.val (.int p0), .val (.int p1), .val (.int p2), .val (.int p3), .val (.long p4), .second, .unset, .unset, .unset, .unset, .unset, .unset] [(.int p0)]))
  refine own_pre (fun t k => X0.ldcInt hx hown (mvT hZ (hw _ (List.mem_of_getElem? (i := 0) rfl))) (g := (mkF m 1 #[.val (.int p0), .val (.int p1), .val (.int p2), .val (.int p3), .val (.long p4), .second, .unset, .unset, .unset, .unset, .unset, .unset] [(.int p0)])) rfl (hb hby at_1) _ k) ?_
  show own_Ends _ _ _ _ (s₁.setTop (mkF m 3 #[.val (.int p0), .val (.int p1), .val (.int p2), .val (.int p3), .val (.long p4), .second, .unset, .unset, .unset, .unset, .unset, .unset] [(.int (2147483647 : Int32)), (.int p0)]))
  refine own_pre (fun t k => XS.iand X0.here hx rfl (hb hby at_3) rfl k) ?_
  show own_Ends _ _ _ _ (s₁.setTop (mkF m 4 #[.val (.int p0), .val (.int p1), .val (.int p2), .val (.int p3), .val (.long p4), .second, .unset, .unset, .unset, .unset, .unset, .unset] [(.int (p0 &&& (2147483647 : Int32)))]))
  refine own_pre (fun t k => XS.iconst X0.here hx rfl (hb hby at_4) k) ?_
  show own_Ends _ _ _ _ (s₁.setTop (mkF m 5 #[.val (.int p0), .val (.int p1), .val (.int p2), .val (.int p3), .val (.long p4), .second, .unset, .unset, .unset, .unset, .unset, .unset] [(.int (5 : Int32)), (.int (p0 &&& (2147483647 : Int32)))]))
  refine own_pre (fun t k => iremM X0 hx rfl (hb hby at_5) rfl (by decide) k) ?_
  show own_Ends _ _ _ _ (s₁.setTop (mkF m 6 #[.val (.int p0), .val (.int p1), .val (.int p2), .val (.int p3), .val (.long p4), .second, .unset, .unset, .unset, .unset, .unset, .unset] [(.int ((p0 &&& (2147483647 : Int32)) % (5 : Int32)))]))
  refine own_pre (fun t k => XS.istore X0.here hx rfl (hb hby at_6) rfl (l' := #[.val (.int p0), .val (.int p1), .val (.int p2), .val (.int p3), .val (.long p4), .second, .val (.int ((p0 &&& (2147483647 : Int32)) % (5 : Int32))), .unset, .unset, .unset, .unset, .unset]) rfl k) ?_
  show own_Ends _ _ _ _ (s₁.setTop (mkF m 8 #[.val (.int p0), .val (.int p1), .val (.int p2), .val (.int p3), .val (.long p4), .second, .val (.int ((p0 &&& (2147483647 : Int32)) % (5 : Int32))), .unset, .unset, .unset, .unset, .unset] []))
  generalize hx6 : ((p0 &&& (2147483647 : Int32)) % (5 : Int32)) = x6
  show own_Ends _ _ _ _ (s₁.setTop (mkF m 8 #[.val (.int p0), .val (.int p1), .val (.int p2), .val (.int p3), .val (.long p4), .second, .val (.int x6), .unset, .unset, .unset, .unset, .unset] []))
  rcases own_five p0 hx6 with hs26 | hs26 | hs26 | hs26 | hs26
  · subst hs26
    show own_Ends _ _ _ _ (s₁.setTop (mkF m 8 #[.val (.int p0), .val (.int p1), .val (.int p2), .val (.int p3), .val (.long p4), .second, .val (.int (0 : Int32)), .unset, .unset, .unset, .unset, .unset] []))
    refine own_pre (fun t k => XS.iload X0.here hx rfl (hb hby at_8) rfl k) ?_
    show own_Ends _ _ _ _ (s₁.setTop (mkF m 10 #[.val (.int p0), .val (.int p1), .val (.int p2), .val (.int p3), .val (.long p4), .second, .val (.int (0 : Int32)), .unset, .unset, .unset, .unset, .unset] [(.int (0 : Int32))]))
    refine own_pre (fun t k => XS.ifNo X0.here hx rfl (hb hby at_10) rfl ((if0 _ _).trans (teq ((by decide) : (0 : Int32) = (0 : Int32))).2) k) ?_
    show own_Ends _ _ _ _ (s₁.setTop (mkF m 13 #[.val (.int p0), .val (.int p1), .val (.int p2), .val (.int p3), .val (.long p4), .second, .val (.int (0 : Int32)), .unset, .unset, .unset, .unset, .unset] []))
    refine own_pre (fun t k => XS.iconst X0.here hx rfl (hb hby at_13) k) ?_
    show own_Ends _ _ _ _ (s₁.setTop (mkF m 14 #[.val (.int p0), .val (.int p1), .val (.int p2), .val (.int p3), .val (.long p4), .second, .val (.int (0 : Int32)), .unset, .unset, .unset, .unset, .unset] [(.int (0 : Int32))]))
    obtain ⟨T27, h27, k27, X27, e27, E27, A27, st27⟩ := newP X0 hx hZ (hw _ (List.mem_of_getElem? (i := 1) rfl)) e0 (g := (mkF m 14 #[.val (.int p0), .val (.int p1), .val (.int p2), .val (.int p3), .val (.long p4), .second, .val (.int (0 : Int32)), .unset, .unset, .unset, .unset, .unset] [(.int (0 : Int32))])) rfl (hb hby at_14) rfl (by decide) (cap := 0) (by decide) (by decide) (by decide) (by decide)
    obtain ⟨b27, g27⟩ : ∃ z, z = h0.size := ⟨_, rfl⟩
    rw [← g27] at A27 st27
    refine own_pre st27 ?_
    have L28 : n0 ≤ b27 := Nat.le_trans Z0 (Nat.le_of_eq g27.symm)
    have Zn29 : n0 ≤ h27.size := Nat.le_trans Z0 E27.1
    have f30 : Arv Z h27 b27 k27 .int (0 : Int32) [] (.int (0 : Int32)) := (Arv.new A27 (by decide)).pad (pad_rep [] (.int (0 : Int32)) 0)
    show own_Ends _ _ _ _ (T27.setTop (mkF m 16 #[.val (.int p0), .val (.int p1), .val (.int p2), .val (.int p3), .val (.long p4), .second, .val (.int (0 : Int32)), .unset, .unset, .unset, .unset, .unset] [(.ref b27)]))
    refine own_pre (fun t k => XS.astore X27.here hx rfl (hb hby at_16) rfl rfl (l' := #[.val (.int p0), .val (.int p1), .val (.int p2), .val (.int p3), .val (.long p4), .second, .val (.int (0 : Int32)), .val (.ref b27), .unset, .unset, .unset, .unset]) rfl k) ?_
    show own_Ends _ _ _ _ (T27.setTop (mkF m 18 #[.val (.int p0), .val (.int p1), .val (.int p2), .val (.int p3), .val (.long p4), .second, .val (.int (0 : Int32)), .val (.ref b27), .unset, .unset, .unset, .unset] []))
    refine own_pre (fun t k => XS.goto X27.here hx rfl (pc0 := 18) (pc' := 110) rfl (hb hby at_18) (by decide) (by decide) k) ?_
    show own_Ends _ _ _ _ (T27.setTop (mkF m 110 #[.val (.int p0), .val (.int p1), .val (.int p2), .val (.int p3), .val (.long p4), .second, .val (.int (0 : Int32)), .val (.ref b27), .unset, .unset, .unset, .unset] []))
    refine own_pre (fun t k => XS.aload X27.here hx rfl (hb hby at_110) rfl rfl k) ?_
    show own_Ends _ _ _ _ (T27.setTop (mkF m 112 #[.val (.int p0), .val (.int p1), .val (.int p2), .val (.int p3), .val (.long p4), .second, .val (.int (0 : Int32)), .val (.ref b27), .unset, .unset, .unset, .unset] [(.ref b27)]))
    obtain ⟨cl31, Ar31, -, S31, M31, -, -⟩ := id (f30)
    refine own_pre (fun t k => own_len X27 hx e27 hZ Ar31 S31 M31 (g := (mkF m 112 #[.val (.int p0), .val (.int p1), .val (.int p2), .val (.int p3), .val (.long p4), .second, .val (.int (0 : Int32)), .val (.ref b27), .unset, .unset, .unset, .unset] [(.ref b27)])) rfl rfl (hb hby at_112) k) ?_
    show own_Ends _ _ _ _ (T27.setTop (mkF m 113 #[.val (.int p0), .val (.int p1), .val (.int p2), .val (.int p3), .val (.long p4), .second, .val (.int (0 : Int32)), .val (.ref b27), .unset, .unset, .unset, .unset] [(.int (0 : Int32))]))
    refine own_pre (fun t k => XS.istore X27.here hx rfl (hb hby at_113) rfl (l' := #[.val (.int p0), .val (.int p1), .val (.int p2), .val (.int p3), .val (.long p4), .second, .val (.int (0 : Int32)), .val (.ref b27), .val (.int (0 : Int32)), .unset, .unset, .unset]) rfl k) ?_
    show own_Ends _ _ _ _ (T27.setTop (mkF m 115 #[.val (.int p0), .val (.int p1), .val (.int p2), .val (.int p3), .val (.long p4), .second, .val (.int (0 : Int32)), .val (.ref b27), .val (.int (0 : Int32)), .unset, .unset, .unset] []))
    refine own_pre (fun t k => XS.lload X27.here hx rfl (hb hby at_115) rfl k) ?_
    show own_Ends _ _ _ _ (T27.setTop (mkF m 117 #[.val (.int p0), .val (.int p1), .val (.int p2), .val (.int p3), .val (.long p4), .second, .val (.int (0 : Int32)), .val (.ref b27), .val (.int (0 : Int32)), .unset, .unset, .unset] [(.long p4)]))
    refine own_pre (fun t k => X27.ldc2Long hx hown (mvT hZ (hw _ (List.mem_of_getElem? (i := 2) rfl))) (g := (mkF m 117 #[.val (.int p0), .val (.int p1), .val (.int p2), .val (.int p3), .val (.long p4), .second, .val (.int (0 : Int32)), .val (.ref b27), .val (.int (0 : Int32)), .unset, .unset, .unset] [(.long p4)])) rfl (hb hby at_117) _ k) ?_
    show own_Ends _ _ _ _ (T27.setTop (mkF m 120 #[.val (.int p0), .val (.int p1), .val (.int p2), .val (.int p3), .val (.long p4), .second, .val (.int (0 : Int32)), .val (.ref b27), .val (.int (0 : Int32)), .unset, .unset, .unset] [(.long (4294967295 : Int64)), (.long p4)]))
    refine own_pre (fun t k => XS.land X27.here hx rfl (hb hby at_120) rfl k) ?_
    show own_Ends _ _ _ _ (T27.setTop (mkF m 121 #[.val (.int p0), .val (.int p1), .val (.int p2), .val (.int p3), .val (.long p4), .second, .val (.int (0 : Int32)), .val (.ref b27), .val (.int (0 : Int32)), .unset, .unset, .unset] [(.long (p4 &&& (4294967295 : Int64)))]))
    refine own_pre (fun t k => XS.lstore X27.here hx rfl (hb hby at_121) rfl (l' := #[.val (.int p0), .val (.int p1), .val (.int p2), .val (.int p3), .val (.long p4), .second, .val (.int (0 : Int32)), .val (.ref b27), .val (.int (0 : Int32)), .val (.long (p4 &&& (4294967295 : Int64))), .second, .unset]) rfl k) ?_
    show own_Ends _ _ _ _ (T27.setTop (mkF m 123 #[.val (.int p0), .val (.int p1), .val (.int p2), .val (.int p3), .val (.long p4), .second, .val (.int (0 : Int32)), .val (.ref b27), .val (.int (0 : Int32)), .val (.long (p4 &&& (4294967295 : Int64))), .second, .unset] []))
    generalize hq9 : (p4 &&& (4294967295 : Int64)) = q9
    show own_Ends _ _ _ _ (T27.setTop (mkF m 123 #[.val (.int p0), .val (.int p1), .val (.int p2), .val (.int p3), .val (.long p4), .second, .val (.int (0 : Int32)), .val (.ref b27), .val (.int (0 : Int32)), .val (.long q9), .second, .unset] []))
    refine own_pre (fun t k => XS.aload X27.here hx rfl (hb hby at_123) rfl rfl k) ?_
    show own_Ends _ _ _ _ (T27.setTop (mkF m 125 #[.val (.int p0), .val (.int p1), .val (.int p2), .val (.int p3), .val (.long p4), .second, .val (.int (0 : Int32)), .val (.ref b27), .val (.int (0 : Int32)), .val (.long q9), .second, .unset] [(.ref b27)]))
    refine own_pre (fun t k => XS.lload X27.here hx rfl (hb hby at_125) rfl k) ?_
    show own_Ends _ _ _ _ (T27.setTop (mkF m 127 #[.val (.int p0), .val (.int p1), .val (.int p2), .val (.int p3), .val (.long p4), .second, .val (.int (0 : Int32)), .val (.ref b27), .val (.int (0 : Int32)), .val (.long q9), .second, .unset] [(.long q9), (.ref b27)]))
    obtain ⟨_, _, ⟨T32, L32, k32, n32⟩, -, X32, ⟨Lc32, hQ32, l32, y32, z32⟩, st32⟩ := Jvm.LawKit.callS X27 hx (y := (⟨"com/example/many_dashes/manydashes/form/SidLimits", "appended", "([IJ)[I"⟩ : MethodName)) hown (mvT hZ (hw _ (List.mem_of_getElem? (i := 3) rfl))) (mvT hZ (hw _ (List.mem_of_getElem? (i := 4) rfl))) (mvT hZ (hw _ (List.mem_of_getElem? (i := 5) rfl))) (mvT hZ (hw _ (List.mem_of_getElem? (i := 6) rfl))) (by decide) (backOf (W := 0) (rm3 l Z a0 hw [] b27 q9 k27 (0 : Int32) [] h27 n0 Zn29 f30 (by decide) (hq9 ▸ own_val p4).1 (hq9 ▸ own_val p4).2 (by decide) (by decide) (by decide) (by decide) (by decide) (by decide) rfl) hZ (hw _ (List.mem_of_getElem? (i := 6) rfl)) (hw _ (List.mem_of_getElem? (i := 5) rfl)) (by decide) (by decide)) (g := (mkF m 127 #[.val (.int p0), .val (.int p1), .val (.int p2), .val (.int p3), .val (.long p4), .second, .val (.int (0 : Int32)), .val (.ref b27), .val (.int (0 : Int32)), .val (.long q9), .second, .unset] [(.long q9), (.ref b27)])) rfl (by rw [hml]; rfl) (argsL := [(.ref b27), (.long q9)]) (rest := []) (lenOf own_pd2 rfl) rfl (by show 2 * 0 + _ ≤ _; exact Nat.le_of_eq rfl) (hb hby at_127) (fun _ _ => ⟨rfl, e27, (by decide : 1 + 1 ≤ _), (by decide : 0 + 15 ≤ _)⟩)
    dsimp only [Pt.U, Pt.locs, Pt.cells, Pt.slots] at X32 l32 y32 z32 st32 hQ32
    subst l32 y32 z32
    obtain ⟨br32, kb32, rfl, Nq32, Kq32, va32, la32, lb32⟩ := hQ32
    have N32 := Fr.app N0 Nq32
    have ne33 : b27 ≠ br32 := Nat.ne_of_lt (Nat.lt_of_lt_of_le f30.lt lb32)
    have f34 := f30.keep Kq32 nin0
    have Zn32 : n0 ≤ T32.heap.size := Nat.le_trans Zn29 Kq32.1
    have va32 : Arv Z T32.heap br32 kb32 .int (1 : Int32) [(.int (q9.toInt32))] (.int (0 : Int32)) := va32
    refine own_pre st32 ?_
    show own_Ends _ _ _ _ (T32.setTop (mkF m 130 #[.val (.int p0), .val (.int p1), .val (.int p2), .val (.int p3), .val (.long p4), .second, .val (.int (0 : Int32)), .val (.ref b27), .val (.int (0 : Int32)), .val (.long q9), .second, .unset] [(.ref br32)]))
    refine own_pre (fun t k => XS.astore X32.here hx rfl (hb hby at_130) rfl rfl (l' := #[.val (.int p0), .val (.int p1), .val (.int p2), .val (.int p3), .val (.long p4), .second, .val (.int (0 : Int32)), .val (.ref b27), .val (.int (0 : Int32)), .val (.long q9), .second, .val (.ref br32)]) rfl k) ?_
    show own_Ends _ _ _ _ (T32.setTop (mkF m 132 #[.val (.int p0), .val (.int p1), .val (.int p2), .val (.int p3), .val (.long p4), .second, .val (.int (0 : Int32)), .val (.ref b27), .val (.int (0 : Int32)), .val (.long q9), .second, .val (.ref br32)] []))
    refine own_pre (fun t k => XS.aload X32.here hx rfl (hb hby at_132) rfl rfl k) ?_
    show own_Ends _ _ _ _ (T32.setTop (mkF m 134 #[.val (.int p0), .val (.int p1), .val (.int p2), .val (.int p3), .val (.long p4), .second, .val (.int (0 : Int32)), .val (.ref b27), .val (.int (0 : Int32)), .val (.long q9), .second, .val (.ref br32)] [(.ref br32)]))
    refine own_pre (fun t k => XS.aload X32.here hx rfl (hb hby at_134) rfl rfl k) ?_
    show own_Ends _ _ _ _ (T32.setTop (mkF m 136 #[.val (.int p0), .val (.int p1), .val (.int p2), .val (.int p3), .val (.long p4), .second, .val (.int (0 : Int32)), .val (.ref b27), .val (.int (0 : Int32)), .val (.long q9), .second, .val (.ref br32)] [(.ref b27), (.ref br32)]))
    refine own_pre (fun t k => Jvm.RoadKit.acmp (g := (mkF m 136 #[.val (.int p0), .val (.int p1), .val (.int p2), .val (.int p3), .val (.long p4), .second, .val (.int (0 : Int32)), .val (.ref b27), .val (.int (0 : Int32)), .val (.long q9), .second, .val (.ref br32)] [(.ref b27), (.ref br32)])) X32 hx rfl rfl rfl (pc0 := 136) (pc' := 141) (same := false) rfl (hb hby at_136) rfl (decide_eq_false fun q => (Ne.symm ne33) (Value.ref.inj q)) (by decide) (by decide) k) ?_
    show own_Ends _ _ _ _ (T32.setTop (mkF m 141 #[.val (.int p0), .val (.int p1), .val (.int p2), .val (.int p3), .val (.long p4), .second, .val (.int (0 : Int32)), .val (.ref b27), .val (.int (0 : Int32)), .val (.long q9), .second, .val (.ref br32)] []))
    refine own_pre (fun t k => XS.aload X32.here hx rfl (hb hby at_141) rfl rfl k) ?_
    show own_Ends _ _ _ _ (T32.setTop (mkF m 143 #[.val (.int p0), .val (.int p1), .val (.int p2), .val (.int p3), .val (.long p4), .second, .val (.int (0 : Int32)), .val (.ref b27), .val (.int (0 : Int32)), .val (.long q9), .second, .val (.ref br32)] [(.ref br32)]))
    obtain ⟨cl35, Ar35, -, S35, M35, -, -⟩ := id (va32)
    refine own_pre (fun t k => own_len X32 hx rfl hZ Ar35 S35 M35 (g := (mkF m 143 #[.val (.int p0), .val (.int p1), .val (.int p2), .val (.int p3), .val (.long p4), .second, .val (.int (0 : Int32)), .val (.ref b27), .val (.int (0 : Int32)), .val (.long q9), .second, .val (.ref br32)] [(.ref br32)])) rfl rfl (hb hby at_143) k) ?_
    show own_Ends _ _ _ _ (T32.setTop (mkF m 144 #[.val (.int p0), .val (.int p1), .val (.int p2), .val (.int p3), .val (.long p4), .second, .val (.int (0 : Int32)), .val (.ref b27), .val (.int (0 : Int32)), .val (.long q9), .second, .val (.ref br32)] [(.int (1 : Int32))]))
    refine own_pre (fun t k => XS.iload X32.here hx rfl (hb hby at_144) rfl k) ?_
    show own_Ends _ _ _ _ (T32.setTop (mkF m 146 #[.val (.int p0), .val (.int p1), .val (.int p2), .val (.int p3), .val (.long p4), .second, .val (.int (0 : Int32)), .val (.ref b27), .val (.int (0 : Int32)), .val (.long q9), .second, .val (.ref br32)] [(.int (0 : Int32)), (.int (1 : Int32))]))
    refine own_pre (fun t k => XS.iconst X32.here hx rfl (hb hby at_146) k) ?_
    show own_Ends _ _ _ _ (T32.setTop (mkF m 147 #[.val (.int p0), .val (.int p1), .val (.int p2), .val (.int p3), .val (.long p4), .second, .val (.int (0 : Int32)), .val (.ref b27), .val (.int (0 : Int32)), .val (.long q9), .second, .val (.ref br32)] [(.int (1 : Int32)), (.int (0 : Int32)), (.int (1 : Int32))]))
    refine own_pre (fun t k => XS.iadd X32.here hx rfl (hb hby at_147) rfl k) ?_
    show own_Ends _ _ _ _ (T32.setTop (mkF m 148 #[.val (.int p0), .val (.int p1), .val (.int p2), .val (.int p3), .val (.long p4), .second, .val (.int (0 : Int32)), .val (.ref b27), .val (.int (0 : Int32)), .val (.long q9), .second, .val (.ref br32)] [(.int (1 : Int32)), (.int (1 : Int32))]))
    refine own_pre (fun t k => XS.icmpYes X32.here hx rfl (pc0 := 148) (pc' := 153) rfl (hb hby at_148) rfl (teq ((by decide) : (1 : Int32) = (1 : Int32))).1 (by decide) (by decide) k) ?_
    show own_Ends _ _ _ _ (T32.setTop (mkF m 153 #[.val (.int p0), .val (.int p1), .val (.int p2), .val (.int p3), .val (.long p4), .second, .val (.int (0 : Int32)), .val (.ref b27), .val (.int (0 : Int32)), .val (.long q9), .second, .val (.ref br32)] []))
    refine own_pre (fun t k => XS.aload X32.here hx rfl (hb hby at_153) rfl rfl k) ?_
    show own_Ends _ _ _ _ (T32.setTop (mkF m 155 #[.val (.int p0), .val (.int p1), .val (.int p2), .val (.int p3), .val (.long p4), .second, .val (.int (0 : Int32)), .val (.ref b27), .val (.int (0 : Int32)), .val (.long q9), .second, .val (.ref br32)] [(.ref br32)]))
    refine own_pre (fun t k => XS.iload X32.here hx rfl (hb hby at_155) rfl k) ?_
    show own_Ends _ _ _ _ (T32.setTop (mkF m 157 #[.val (.int p0), .val (.int p1), .val (.int p2), .val (.int p3), .val (.long p4), .second, .val (.int (0 : Int32)), .val (.ref b27), .val (.int (0 : Int32)), .val (.long q9), .second, .val (.ref br32)] [(.int (0 : Int32)), (.ref br32)]))
    obtain ⟨cl36, Ar36, q36, S36, M36, H36, G36⟩ := id (va32)
    have hin36 : ¬ ((0 : Int32) < 0 ∨ cl36.slots.size ≤ ((0 : Int32)).toNatClampNeg) := inb_of S36 ⟨by decide, by decide⟩
    have hat36 : cl36.slots[((0 : Int32)).toNatClampNeg]? = some (.int (q9.toInt32)) := H36.at hin36 rfl
    refine own_pre (fun t k => X32.iaload hx (j := (0 : Int32)) (v := (.int (q9.toInt32))) Ar36.1 (State.isArrayOf_alike hZ.alike Ar36.2.1) Ar36.2.2 hin36 hat36 (g := (mkF m 157 #[.val (.int p0), .val (.int p1), .val (.int p2), .val (.int p3), .val (.long p4), .second, .val (.int (0 : Int32)), .val (.ref b27), .val (.int (0 : Int32)), .val (.long q9), .second, .val (.ref br32)] [(.int (0 : Int32)), (.ref br32)])) rfl rfl (hb hby at_157) _ k) ?_
    show own_Ends _ _ _ _ (T32.setTop (mkF m 158 #[.val (.int p0), .val (.int p1), .val (.int p2), .val (.int p3), .val (.long p4), .second, .val (.int (0 : Int32)), .val (.ref b27), .val (.int (0 : Int32)), .val (.long q9), .second, .val (.ref br32)] [(.int (q9.toInt32))]))
    refine own_pre (fun t k => XS.i2l X32.here hx rfl (hb hby at_158) rfl k) ?_
    show own_Ends _ _ _ _ (T32.setTop (mkF m 159 #[.val (.int p0), .val (.int p1), .val (.int p2), .val (.int p3), .val (.long p4), .second, .val (.int (0 : Int32)), .val (.ref b27), .val (.int (0 : Int32)), .val (.long q9), .second, .val (.ref br32)] [(.long ((q9.toInt32).toInt64))]))
    refine own_pre (fun t k => X32.ldc2Long hx hown (mvT hZ (hw _ (List.mem_of_getElem? (i := 2) rfl))) (g := (mkF m 159 #[.val (.int p0), .val (.int p1), .val (.int p2), .val (.int p3), .val (.long p4), .second, .val (.int (0 : Int32)), .val (.ref b27), .val (.int (0 : Int32)), .val (.long q9), .second, .val (.ref br32)] [(.long ((q9.toInt32).toInt64))])) rfl (hb hby at_159) _ k) ?_
    show own_Ends _ _ _ _ (T32.setTop (mkF m 162 #[.val (.int p0), .val (.int p1), .val (.int p2), .val (.int p3), .val (.long p4), .second, .val (.int (0 : Int32)), .val (.ref b27), .val (.int (0 : Int32)), .val (.long q9), .second, .val (.ref br32)] [(.long (4294967295 : Int64)), (.long ((q9.toInt32).toInt64))]))
    refine own_pre (fun t k => XS.land X32.here hx rfl (hb hby at_162) rfl k) ?_
    show own_Ends _ _ _ _ (T32.setTop (mkF m 163 #[.val (.int p0), .val (.int p1), .val (.int p2), .val (.int p3), .val (.long p4), .second, .val (.int (0 : Int32)), .val (.ref b27), .val (.int (0 : Int32)), .val (.long q9), .second, .val (.ref br32)] [(.long (((q9.toInt32).toInt64) &&& (4294967295 : Int64)))]))
    refine own_pre (fun t k => XS.lload X32.here hx rfl (hb hby at_163) rfl k) ?_
    show own_Ends _ _ _ _ (T32.setTop (mkF m 165 #[.val (.int p0), .val (.int p1), .val (.int p2), .val (.int p3), .val (.long p4), .second, .val (.int (0 : Int32)), .val (.ref b27), .val (.int (0 : Int32)), .val (.long q9), .second, .val (.ref br32)] [(.long q9), (.long (((q9.toInt32).toInt64) &&& (4294967295 : Int64)))]))
    refine own_pre (fun t k => XS.lcmp X32.here hx rfl (hb hby at_165) rfl k) ?_
    show own_Ends _ _ _ _ (T32.setTop (mkF m 166 #[.val (.int p0), .val (.int p1), .val (.int p2), .val (.int p3), .val (.long p4), .second, .val (.int (0 : Int32)), .val (.ref b27), .val (.int (0 : Int32)), .val (.long q9), .second, .val (.ref br32)] [(.int (own_cmpL (((q9.toInt32).toInt64) &&& (4294967295 : Int64)) q9))]))
    refine own_pre (fun t k => XS.ifYes X32.here hx rfl (pc0 := 166) (pc' := 171) rfl (hb hby at_166) rfl ((if0 _ _).trans (teq (hq9 ▸ own_low p4 : (own_cmpL (((q9.toInt32).toInt64) &&& (4294967295 : Int64)) q9) = (0 : Int32))).1) (by decide) (by decide) k) ?_
    show own_Ends _ _ _ _ (T32.setTop (mkF m 171 #[.val (.int p0), .val (.int p1), .val (.int p2), .val (.int p3), .val (.long p4), .second, .val (.int (0 : Int32)), .val (.ref b27), .val (.int (0 : Int32)), .val (.long q9), .second, .val (.ref br32)] []))
    refine own_pre (fun t k => XS.aload X32.here hx rfl (hb hby at_171) rfl rfl k) ?_
    show own_Ends _ _ _ _ (T32.setTop (mkF m 173 #[.val (.int p0), .val (.int p1), .val (.int p2), .val (.int p3), .val (.long p4), .second, .val (.int (0 : Int32)), .val (.ref b27), .val (.int (0 : Int32)), .val (.long q9), .second, .val (.ref br32)] [(.ref b27)]))
    obtain ⟨cl37, Ar37, -, S37, M37, -, -⟩ := id (f34)
    refine own_pre (fun t k => own_len X32 hx rfl hZ Ar37 S37 M37 (g := (mkF m 173 #[.val (.int p0), .val (.int p1), .val (.int p2), .val (.int p3), .val (.long p4), .second, .val (.int (0 : Int32)), .val (.ref b27), .val (.int (0 : Int32)), .val (.long q9), .second, .val (.ref br32)] [(.ref b27)])) rfl rfl (hb hby at_173) k) ?_
    show own_Ends _ _ _ _ (T32.setTop (mkF m 174 #[.val (.int p0), .val (.int p1), .val (.int p2), .val (.int p3), .val (.long p4), .second, .val (.int (0 : Int32)), .val (.ref b27), .val (.int (0 : Int32)), .val (.long q9), .second, .val (.ref br32)] [(.int (0 : Int32))]))
    refine own_pre (fun t k => XS.iload X32.here hx rfl (hb hby at_174) rfl k) ?_
    show own_Ends _ _ _ _ (T32.setTop (mkF m 176 #[.val (.int p0), .val (.int p1), .val (.int p2), .val (.int p3), .val (.long p4), .second, .val (.int (0 : Int32)), .val (.ref b27), .val (.int (0 : Int32)), .val (.long q9), .second, .val (.ref br32)] [(.int (0 : Int32)), (.int (0 : Int32))]))
    refine own_pre (fun t k => XS.icmpYes X32.here hx rfl (pc0 := 176) (pc' := 181) rfl (hb hby at_176) rfl (teq ((by decide) : (0 : Int32) = (0 : Int32))).1 (by decide) (by decide) k) ?_
    show own_Ends _ _ _ _ (T32.setTop (mkF m 181 #[.val (.int p0), .val (.int p1), .val (.int p2), .val (.int p3), .val (.long p4), .second, .val (.int (0 : Int32)), .val (.ref b27), .val (.int (0 : Int32)), .val (.long q9), .second, .val (.ref br32)] []))
    refine own_pre (fun t k => XS.iload X32.here hx rfl (hb hby at_181) rfl k) ?_
    show own_Ends _ _ _ _ (T32.setTop (mkF m 183 #[.val (.int p0), .val (.int p1), .val (.int p2), .val (.int p3), .val (.long p4), .second, .val (.int (0 : Int32)), .val (.ref b27), .val (.int (0 : Int32)), .val (.long q9), .second, .val (.ref br32)] [(.int (0 : Int32))]))
    refine own_pre (fun t k => XS.iconst X32.here hx rfl (hb hby at_183) k) ?_
    show own_Ends _ _ _ _ (T32.setTop (mkF m 184 #[.val (.int p0), .val (.int p1), .val (.int p2), .val (.int p3), .val (.long p4), .second, .val (.int (0 : Int32)), .val (.ref b27), .val (.int (0 : Int32)), .val (.long q9), .second, .val (.ref br32)] [(.int (1 : Int32)), (.int (0 : Int32))]))
    refine own_pre (fun t k => XS.icmpYes X32.here hx rfl (pc0 := 184) (pc' := 205) rfl (hb hby at_184) rfl (tlt ((by decide) : (0 : Int32) < (1 : Int32))).1 (by decide) (by decide) k) ?_
    show own_Ends _ _ _ _ (T32.setTop (mkF m 205 #[.val (.int p0), .val (.int p1), .val (.int p2), .val (.int p3), .val (.long p4), .second, .val (.int (0 : Int32)), .val (.ref b27), .val (.int (0 : Int32)), .val (.long q9), .second, .val (.ref br32)] []))
    refine own_pre (fun t k => XS.iload X32.here hx rfl (hb hby at_205) rfl k) ?_
    show own_Ends _ _ _ _ (T32.setTop (mkF m 207 #[.val (.int p0), .val (.int p1), .val (.int p2), .val (.int p3), .val (.long p4), .second, .val (.int (0 : Int32)), .val (.ref b27), .val (.int (0 : Int32)), .val (.long q9), .second, .val (.ref br32)] [(.int (0 : Int32))]))
    refine own_pre (fun t k => XS.iconst X32.here hx rfl (hb hby at_207) k) ?_
    show own_Ends _ _ _ _ (T32.setTop (mkF m 208 #[.val (.int p0), .val (.int p1), .val (.int p2), .val (.int p3), .val (.long p4), .second, .val (.int (0 : Int32)), .val (.ref b27), .val (.int (0 : Int32)), .val (.long q9), .second, .val (.ref br32)] [(.int (2 : Int32)), (.int (0 : Int32))]))
    refine own_pre (fun t k => XS.icmpNo X32.here hx rfl (hb hby at_208) rfl (feq ((by decide) : ¬ ((0 : Int32) = (2 : Int32)))).1 k) ?_
    show own_Ends _ _ _ _ (T32.setTop (mkF m 211 #[.val (.int p0), .val (.int p1), .val (.int p2), .val (.int p3), .val (.long p4), .second, .val (.int (0 : Int32)), .val (.ref b27), .val (.int (0 : Int32)), .val (.long q9), .second, .val (.ref br32)] []))
    refine own_pre (fun t k => XS.iload X32.here hx rfl (hb hby at_211) rfl k) ?_
    show own_Ends _ _ _ _ (T32.setTop (mkF m 213 #[.val (.int p0), .val (.int p1), .val (.int p2), .val (.int p3), .val (.long p4), .second, .val (.int (0 : Int32)), .val (.ref b27), .val (.int (0 : Int32)), .val (.long q9), .second, .val (.ref br32)] [(.int (0 : Int32))]))
    refine own_pre (fun t k => XS.iconst X32.here hx rfl (hb hby at_213) k) ?_
    show own_Ends _ _ _ _ (T32.setTop (mkF m 214 #[.val (.int p0), .val (.int p1), .val (.int p2), .val (.int p3), .val (.long p4), .second, .val (.int (0 : Int32)), .val (.ref b27), .val (.int (0 : Int32)), .val (.long q9), .second, .val (.ref br32)] [(.int (3 : Int32)), (.int (0 : Int32))]))
    refine own_pre (fun t k => XS.icmpYes X32.here hx rfl (pc0 := 214) (pc' := 235) rfl (hb hby at_214) rfl (feq ((by decide) : ¬ ((0 : Int32) = (3 : Int32)))).2 (by decide) (by decide) k) ?_
    show own_Ends _ _ _ _ (T32.setTop (mkF m 235 #[.val (.int p0), .val (.int p1), .val (.int p2), .val (.int p3), .val (.long p4), .second, .val (.int (0 : Int32)), .val (.ref b27), .val (.int (0 : Int32)), .val (.long q9), .second, .val (.ref br32)] []))
    refine own_pre (fun t k => XS.iload X32.here hx rfl (hb hby at_235) rfl k) ?_
    show own_Ends _ _ _ _ (T32.setTop (mkF m 237 #[.val (.int p0), .val (.int p1), .val (.int p2), .val (.int p3), .val (.long p4), .second, .val (.int (0 : Int32)), .val (.ref b27), .val (.int (0 : Int32)), .val (.long q9), .second, .val (.ref br32)] [(.int (0 : Int32))]))
    refine own_pre (fun t k => XS.iconst X32.here hx rfl (hb hby at_237) k) ?_
    show own_Ends _ _ _ _ (T32.setTop (mkF m 238 #[.val (.int p0), .val (.int p1), .val (.int p2), .val (.int p3), .val (.long p4), .second, .val (.int (0 : Int32)), .val (.ref b27), .val (.int (0 : Int32)), .val (.long q9), .second, .val (.ref br32)] [(.int (3 : Int32)), (.int (0 : Int32))]))
    refine own_pre (fun t k => XS.icmpYes X32.here hx rfl (pc0 := 238) (pc' := 259) rfl (hb hby at_238) rfl (feq ((by decide) : ¬ ((0 : Int32) = (3 : Int32)))).2 (by decide) (by decide) k) ?_
    show own_Ends _ _ _ _ (T32.setTop (mkF m 259 #[.val (.int p0), .val (.int p1), .val (.int p2), .val (.int p3), .val (.long p4), .second, .val (.int (0 : Int32)), .val (.ref b27), .val (.int (0 : Int32)), .val (.long q9), .second, .val (.ref br32)] []))
    refine own_pre (fun t k => XS.iload X32.here hx rfl (hb hby at_259) rfl k) ?_
    show own_Ends _ _ _ _ (T32.setTop (mkF m 261 #[.val (.int p0), .val (.int p1), .val (.int p2), .val (.int p3), .val (.long p4), .second, .val (.int (0 : Int32)), .val (.ref b27), .val (.int (0 : Int32)), .val (.long q9), .second, .val (.ref br32)] [(.int (0 : Int32))]))
    refine own_pre (fun t k => XS.bipush X32.here hx rfl (hb hby at_261) k) ?_
    show own_Ends _ _ _ _ (T32.setTop (mkF m 263 #[.val (.int p0), .val (.int p1), .val (.int p2), .val (.int p3), .val (.long p4), .second, .val (.int (0 : Int32)), .val (.ref b27), .val (.int (0 : Int32)), .val (.long q9), .second, .val (.ref br32)] [(.int (14 : Int32)), (.int (0 : Int32))]))
    refine own_pre (fun t k => XS.icmpYes X32.here hx rfl (pc0 := 263) (pc' := 323) rfl (hb hby at_263) rfl (feq ((by decide) : ¬ ((0 : Int32) = (14 : Int32)))).2 (by decide) (by decide) k) ?_
    show own_Ends _ _ _ _ (T32.setTop (mkF m 323 #[.val (.int p0), .val (.int p1), .val (.int p2), .val (.int p3), .val (.long p4), .second, .val (.int (0 : Int32)), .val (.ref b27), .val (.int (0 : Int32)), .val (.long q9), .second, .val (.ref br32)] []))
    refine own_pre (fun t k => XS.iconst X32.here hx rfl (hb hby at_323) k) ?_
    show own_Ends _ _ _ _ (T32.setTop (mkF m 324 #[.val (.int p0), .val (.int p1), .val (.int p2), .val (.int p3), .val (.long p4), .second, .val (.int (0 : Int32)), .val (.ref b27), .val (.int (0 : Int32)), .val (.long q9), .second, .val (.ref br32)] [(.int (1 : Int32))]))
    exact own_retN X32 hx (t := .boolean) Bd.returns (by simp) (hb hby at_324) hlk rfl rfl ⟨rfl, N32⟩ (by decide) (by decide)
  · subst hs26
    show own_Ends _ _ _ _ (s₁.setTop (mkF m 8 #[.val (.int p0), .val (.int p1), .val (.int p2), .val (.int p3), .val (.long p4), .second, .val (.int (1 : Int32)), .unset, .unset, .unset, .unset, .unset] []))
    refine own_pre (fun t k => XS.iload X0.here hx rfl (hb hby at_8) rfl k) ?_
    show own_Ends _ _ _ _ (s₁.setTop (mkF m 10 #[.val (.int p0), .val (.int p1), .val (.int p2), .val (.int p3), .val (.long p4), .second, .val (.int (1 : Int32)), .unset, .unset, .unset, .unset, .unset] [(.int (1 : Int32))]))
    refine own_pre (fun t k => XS.ifYes X0.here hx rfl (pc0 := 10) (pc' := 21) rfl (hb hby at_10) rfl ((if0 _ _).trans (feq ((by decide) : ¬ ((1 : Int32) = (0 : Int32)))).2) (by decide) (by decide) k) ?_
    show own_Ends _ _ _ _ (s₁.setTop (mkF m 21 #[.val (.int p0), .val (.int p1), .val (.int p2), .val (.int p3), .val (.long p4), .second, .val (.int (1 : Int32)), .unset, .unset, .unset, .unset, .unset] []))
    refine own_pre (fun t k => XS.iload X0.here hx rfl (hb hby at_21) rfl k) ?_
    show own_Ends _ _ _ _ (s₁.setTop (mkF m 23 #[.val (.int p0), .val (.int p1), .val (.int p2), .val (.int p3), .val (.long p4), .second, .val (.int (1 : Int32)), .unset, .unset, .unset, .unset, .unset] [(.int (1 : Int32))]))
    refine own_pre (fun t k => XS.iconst X0.here hx rfl (hb hby at_23) k) ?_
    show own_Ends _ _ _ _ (s₁.setTop (mkF m 24 #[.val (.int p0), .val (.int p1), .val (.int p2), .val (.int p3), .val (.long p4), .second, .val (.int (1 : Int32)), .unset, .unset, .unset, .unset, .unset] [(.int (1 : Int32)), (.int (1 : Int32))]))
    refine own_pre (fun t k => XS.icmpNo X0.here hx rfl (hb hby at_24) rfl (teq ((by decide) : (1 : Int32) = (1 : Int32))).2 k) ?_
    show own_Ends _ _ _ _ (s₁.setTop (mkF m 27 #[.val (.int p0), .val (.int p1), .val (.int p2), .val (.int p3), .val (.long p4), .second, .val (.int (1 : Int32)), .unset, .unset, .unset, .unset, .unset] []))
    refine own_pre (fun t k => XS.iconst X0.here hx rfl (hb hby at_27) k) ?_
    show own_Ends _ _ _ _ (s₁.setTop (mkF m 28 #[.val (.int p0), .val (.int p1), .val (.int p2), .val (.int p3), .val (.long p4), .second, .val (.int (1 : Int32)), .unset, .unset, .unset, .unset, .unset] [(.int (1 : Int32))]))
    obtain ⟨T38, h38, k38, X38, e38, E38, A38, st38⟩ := newP X0 hx hZ (hw _ (List.mem_of_getElem? (i := 1) rfl)) e0 (g := (mkF m 28 #[.val (.int p0), .val (.int p1), .val (.int p2), .val (.int p3), .val (.long p4), .second, .val (.int (1 : Int32)), .unset, .unset, .unset, .unset, .unset] [(.int (1 : Int32))])) rfl (hb hby at_28) rfl (by decide) (cap := 1) (by decide) (by decide) (by decide) (by decide)
    obtain ⟨b38, g38⟩ : ∃ z, z = h0.size := ⟨_, rfl⟩
    rw [← g38] at A38 st38
    refine own_pre st38 ?_
    have L39 : n0 ≤ b38 := Nat.le_trans Z0 (Nat.le_of_eq g38.symm)
    have Zn40 : n0 ≤ h38.size := Nat.le_trans Z0 E38.1
    have f41 : Arv Z h38 b38 k38 .int (1 : Int32) [(.int (0 : Int32))] (.int (0 : Int32)) := (Arv.new A38 (by decide)).pad (pad_rep [] (.int (0 : Int32)) 1)
    show own_Ends _ _ _ _ (T38.setTop (mkF m 30 #[.val (.int p0), .val (.int p1), .val (.int p2), .val (.int p3), .val (.long p4), .second, .val (.int (1 : Int32)), .unset, .unset, .unset, .unset, .unset] [(.ref b38)]))
    refine own_pre (fun t k => XS.dup X38.here hx rfl (hb hby at_30) rfl rfl k) ?_
    show own_Ends _ _ _ _ (T38.setTop (mkF m 31 #[.val (.int p0), .val (.int p1), .val (.int p2), .val (.int p3), .val (.long p4), .second, .val (.int (1 : Int32)), .unset, .unset, .unset, .unset, .unset] [(.ref b38), (.ref b38)]))
    refine own_pre (fun t k => XS.iconst X38.here hx rfl (hb hby at_31) k) ?_
    show own_Ends _ _ _ _ (T38.setTop (mkF m 32 #[.val (.int p0), .val (.int p1), .val (.int p2), .val (.int p3), .val (.long p4), .second, .val (.int (1 : Int32)), .unset, .unset, .unset, .unset, .unset] [(.int (0 : Int32)), (.ref b38), (.ref b38)]))
    refine own_pre (fun t k => XS.iloadN X38.here hx rfl (hb hby at_32) rfl k) ?_
    show own_Ends _ _ _ _ (T38.setTop (mkF m 33 #[.val (.int p0), .val (.int p1), .val (.int p2), .val (.int p3), .val (.long p4), .second, .val (.int (1 : Int32)), .unset, .unset, .unset, .unset, .unset] [(.int p1), (.int (0 : Int32)), (.ref b38), (.ref b38)]))
    obtain ⟨cl42, Ar42, q42, S42, M42, H42, G42⟩ := id (f41)
    have hin42 : ¬ ((0 : Int32) < 0 ∨ cl42.slots.size ≤ ((0 : Int32)).toNatClampNeg) := inb_of S42 ⟨by decide, by decide⟩
    obtain ⟨T42, h42, X42, e42, W42, st42⟩ := stI X38 hx hZ e38 Ar42 (j := (0 : Int32)) hin42 (g := (mkF m 33 #[.val (.int p0), .val (.int p1), .val (.int p2), .val (.int p3), .val (.long p4), .second, .val (.int (1 : Int32)), .unset, .unset, .unset, .unset, .unset] [(.int p1), (.int (0 : Int32)), (.ref b38), (.ref b38)])) rfl rfl (hb hby at_33)
    refine own_pre st42 ?_
    have f43x := Arv.set Ar42 q42 S42 M42 H42 G42 (show fits .int (.int p1) = true from rfl) W42 0 rfl (Nat.le_of_ble_eq_true rfl)
    have f43 : Arv Z h42 b38 k38 .int (1 : Int32) [(.int p1)] (.int (0 : Int32)) := f43x
    have N44 := Fr.snoc X42 N0 L39
    have Zn45 : n0 ≤ h42.size := by rw [W42.size]; exact Zn40
    show own_Ends _ _ _ _ (T42.setTop (mkF m 34 #[.val (.int p0), .val (.int p1), .val (.int p2), .val (.int p3), .val (.long p4), .second, .val (.int (1 : Int32)), .unset, .unset, .unset, .unset, .unset] [(.ref b38)]))
    refine own_pre (fun t k => XS.astore X42.here hx rfl (hb hby at_34) rfl rfl (l' := #[.val (.int p0), .val (.int p1), .val (.int p2), .val (.int p3), .val (.long p4), .second, .val (.int (1 : Int32)), .val (.ref b38), .unset, .unset, .unset, .unset]) rfl k) ?_
    show own_Ends _ _ _ _ (T42.setTop (mkF m 36 #[.val (.int p0), .val (.int p1), .val (.int p2), .val (.int p3), .val (.long p4), .second, .val (.int (1 : Int32)), .val (.ref b38), .unset, .unset, .unset, .unset] []))
    refine own_pre (fun t k => XS.goto X42.here hx rfl (pc0 := 36) (pc' := 110) rfl (hb hby at_36) (by decide) (by decide) k) ?_
    show own_Ends _ _ _ _ (T42.setTop (mkF m 110 #[.val (.int p0), .val (.int p1), .val (.int p2), .val (.int p3), .val (.long p4), .second, .val (.int (1 : Int32)), .val (.ref b38), .unset, .unset, .unset, .unset] []))
    refine own_pre (fun t k => XS.aload X42.here hx rfl (hb hby at_110) rfl rfl k) ?_
    show own_Ends _ _ _ _ (T42.setTop (mkF m 112 #[.val (.int p0), .val (.int p1), .val (.int p2), .val (.int p3), .val (.long p4), .second, .val (.int (1 : Int32)), .val (.ref b38), .unset, .unset, .unset, .unset] [(.ref b38)]))
    obtain ⟨cl46, Ar46, -, S46, M46, -, -⟩ := id (f43)
    refine own_pre (fun t k => own_len X42 hx e42 hZ Ar46 S46 M46 (g := (mkF m 112 #[.val (.int p0), .val (.int p1), .val (.int p2), .val (.int p3), .val (.long p4), .second, .val (.int (1 : Int32)), .val (.ref b38), .unset, .unset, .unset, .unset] [(.ref b38)])) rfl rfl (hb hby at_112) k) ?_
    show own_Ends _ _ _ _ (T42.setTop (mkF m 113 #[.val (.int p0), .val (.int p1), .val (.int p2), .val (.int p3), .val (.long p4), .second, .val (.int (1 : Int32)), .val (.ref b38), .unset, .unset, .unset, .unset] [(.int (1 : Int32))]))
    refine own_pre (fun t k => XS.istore X42.here hx rfl (hb hby at_113) rfl (l' := #[.val (.int p0), .val (.int p1), .val (.int p2), .val (.int p3), .val (.long p4), .second, .val (.int (1 : Int32)), .val (.ref b38), .val (.int (1 : Int32)), .unset, .unset, .unset]) rfl k) ?_
    show own_Ends _ _ _ _ (T42.setTop (mkF m 115 #[.val (.int p0), .val (.int p1), .val (.int p2), .val (.int p3), .val (.long p4), .second, .val (.int (1 : Int32)), .val (.ref b38), .val (.int (1 : Int32)), .unset, .unset, .unset] []))
    refine own_pre (fun t k => XS.lload X42.here hx rfl (hb hby at_115) rfl k) ?_
    show own_Ends _ _ _ _ (T42.setTop (mkF m 117 #[.val (.int p0), .val (.int p1), .val (.int p2), .val (.int p3), .val (.long p4), .second, .val (.int (1 : Int32)), .val (.ref b38), .val (.int (1 : Int32)), .unset, .unset, .unset] [(.long p4)]))
    refine own_pre (fun t k => X42.ldc2Long hx hown (mvT hZ (hw _ (List.mem_of_getElem? (i := 2) rfl))) (g := (mkF m 117 #[.val (.int p0), .val (.int p1), .val (.int p2), .val (.int p3), .val (.long p4), .second, .val (.int (1 : Int32)), .val (.ref b38), .val (.int (1 : Int32)), .unset, .unset, .unset] [(.long p4)])) rfl (hb hby at_117) _ k) ?_
    show own_Ends _ _ _ _ (T42.setTop (mkF m 120 #[.val (.int p0), .val (.int p1), .val (.int p2), .val (.int p3), .val (.long p4), .second, .val (.int (1 : Int32)), .val (.ref b38), .val (.int (1 : Int32)), .unset, .unset, .unset] [(.long (4294967295 : Int64)), (.long p4)]))
    refine own_pre (fun t k => XS.land X42.here hx rfl (hb hby at_120) rfl k) ?_
    show own_Ends _ _ _ _ (T42.setTop (mkF m 121 #[.val (.int p0), .val (.int p1), .val (.int p2), .val (.int p3), .val (.long p4), .second, .val (.int (1 : Int32)), .val (.ref b38), .val (.int (1 : Int32)), .unset, .unset, .unset] [(.long (p4 &&& (4294967295 : Int64)))]))
    refine own_pre (fun t k => XS.lstore X42.here hx rfl (hb hby at_121) rfl (l' := #[.val (.int p0), .val (.int p1), .val (.int p2), .val (.int p3), .val (.long p4), .second, .val (.int (1 : Int32)), .val (.ref b38), .val (.int (1 : Int32)), .val (.long (p4 &&& (4294967295 : Int64))), .second, .unset]) rfl k) ?_
    show own_Ends _ _ _ _ (T42.setTop (mkF m 123 #[.val (.int p0), .val (.int p1), .val (.int p2), .val (.int p3), .val (.long p4), .second, .val (.int (1 : Int32)), .val (.ref b38), .val (.int (1 : Int32)), .val (.long (p4 &&& (4294967295 : Int64))), .second, .unset] []))
    generalize hq9 : (p4 &&& (4294967295 : Int64)) = q9
    show own_Ends _ _ _ _ (T42.setTop (mkF m 123 #[.val (.int p0), .val (.int p1), .val (.int p2), .val (.int p3), .val (.long p4), .second, .val (.int (1 : Int32)), .val (.ref b38), .val (.int (1 : Int32)), .val (.long q9), .second, .unset] []))
    refine own_pre (fun t k => XS.aload X42.here hx rfl (hb hby at_123) rfl rfl k) ?_
    show own_Ends _ _ _ _ (T42.setTop (mkF m 125 #[.val (.int p0), .val (.int p1), .val (.int p2), .val (.int p3), .val (.long p4), .second, .val (.int (1 : Int32)), .val (.ref b38), .val (.int (1 : Int32)), .val (.long q9), .second, .unset] [(.ref b38)]))
    refine own_pre (fun t k => XS.lload X42.here hx rfl (hb hby at_125) rfl k) ?_
    show own_Ends _ _ _ _ (T42.setTop (mkF m 127 #[.val (.int p0), .val (.int p1), .val (.int p2), .val (.int p3), .val (.long p4), .second, .val (.int (1 : Int32)), .val (.ref b38), .val (.int (1 : Int32)), .val (.long q9), .second, .unset] [(.long q9), (.ref b38)]))
    obtain ⟨_, _, ⟨T47, L47, k47, n47⟩, -, X47, ⟨Lc47, hQ47, l47, y47, z47⟩, st47⟩ := Jvm.LawKit.callS X42 hx (y := (⟨"com/example/many_dashes/manydashes/form/SidLimits", "appended", "([IJ)[I"⟩ : MethodName)) hown (mvT hZ (hw _ (List.mem_of_getElem? (i := 3) rfl))) (mvT hZ (hw _ (List.mem_of_getElem? (i := 4) rfl))) (mvT hZ (hw _ (List.mem_of_getElem? (i := 5) rfl))) (mvT hZ (hw _ (List.mem_of_getElem? (i := 6) rfl))) (by decide) (backOf (W := 0) (rm3 l Z a0 hw [] b38 q9 k38 (1 : Int32) [(.int p1)] h42 n0 Zn45 f43 (by decide) (hq9 ▸ own_val p4).1 (hq9 ▸ own_val p4).2 (by decide) (by decide) (by decide) (by decide) (by decide) (by decide) rfl) hZ (hw _ (List.mem_of_getElem? (i := 6) rfl)) (hw _ (List.mem_of_getElem? (i := 5) rfl)) (by decide) (by decide)) (g := (mkF m 127 #[.val (.int p0), .val (.int p1), .val (.int p2), .val (.int p3), .val (.long p4), .second, .val (.int (1 : Int32)), .val (.ref b38), .val (.int (1 : Int32)), .val (.long q9), .second, .unset] [(.long q9), (.ref b38)])) rfl (by rw [hml]; rfl) (argsL := [(.ref b38), (.long q9)]) (rest := []) (lenOf own_pd2 rfl) rfl (by show 2 * 0 + _ ≤ _; exact Nat.le_of_eq rfl) (hb hby at_127) (fun _ _ => ⟨rfl, e42, (by decide : 1 + 1 ≤ _), (by decide : 1 + 15 ≤ _)⟩)
    dsimp only [Pt.U, Pt.locs, Pt.cells, Pt.slots] at X47 l47 y47 z47 st47 hQ47
    subst l47 y47 z47
    obtain ⟨br47, kb47, rfl, Nq47, Kq47, va47, la47, lb47⟩ := hQ47
    have N47 := Fr.app N44 Nq47
    have ne48 : b38 ≠ br47 := Nat.ne_of_lt (Nat.lt_of_lt_of_le f43.lt lb47)
    have f49 := f43.keep Kq47 nin0
    have Zn47 : n0 ≤ T47.heap.size := Nat.le_trans Zn45 Kq47.1
    have va47 : Arv Z T47.heap br47 kb47 .int (2 : Int32) [(.int p1), (.int (q9.toInt32))] (.int (0 : Int32)) := va47
    refine own_pre st47 ?_
    show own_Ends _ _ _ _ (T47.setTop (mkF m 130 #[.val (.int p0), .val (.int p1), .val (.int p2), .val (.int p3), .val (.long p4), .second, .val (.int (1 : Int32)), .val (.ref b38), .val (.int (1 : Int32)), .val (.long q9), .second, .unset] [(.ref br47)]))
    refine own_pre (fun t k => XS.astore X47.here hx rfl (hb hby at_130) rfl rfl (l' := #[.val (.int p0), .val (.int p1), .val (.int p2), .val (.int p3), .val (.long p4), .second, .val (.int (1 : Int32)), .val (.ref b38), .val (.int (1 : Int32)), .val (.long q9), .second, .val (.ref br47)]) rfl k) ?_
    show own_Ends _ _ _ _ (T47.setTop (mkF m 132 #[.val (.int p0), .val (.int p1), .val (.int p2), .val (.int p3), .val (.long p4), .second, .val (.int (1 : Int32)), .val (.ref b38), .val (.int (1 : Int32)), .val (.long q9), .second, .val (.ref br47)] []))
    refine own_pre (fun t k => XS.aload X47.here hx rfl (hb hby at_132) rfl rfl k) ?_
    show own_Ends _ _ _ _ (T47.setTop (mkF m 134 #[.val (.int p0), .val (.int p1), .val (.int p2), .val (.int p3), .val (.long p4), .second, .val (.int (1 : Int32)), .val (.ref b38), .val (.int (1 : Int32)), .val (.long q9), .second, .val (.ref br47)] [(.ref br47)]))
    refine own_pre (fun t k => XS.aload X47.here hx rfl (hb hby at_134) rfl rfl k) ?_
    show own_Ends _ _ _ _ (T47.setTop (mkF m 136 #[.val (.int p0), .val (.int p1), .val (.int p2), .val (.int p3), .val (.long p4), .second, .val (.int (1 : Int32)), .val (.ref b38), .val (.int (1 : Int32)), .val (.long q9), .second, .val (.ref br47)] [(.ref b38), (.ref br47)]))
    refine own_pre (fun t k => Jvm.RoadKit.acmp (g := (mkF m 136 #[.val (.int p0), .val (.int p1), .val (.int p2), .val (.int p3), .val (.long p4), .second, .val (.int (1 : Int32)), .val (.ref b38), .val (.int (1 : Int32)), .val (.long q9), .second, .val (.ref br47)] [(.ref b38), (.ref br47)])) X47 hx rfl rfl rfl (pc0 := 136) (pc' := 141) (same := false) rfl (hb hby at_136) rfl (decide_eq_false fun q => (Ne.symm ne48) (Value.ref.inj q)) (by decide) (by decide) k) ?_
    show own_Ends _ _ _ _ (T47.setTop (mkF m 141 #[.val (.int p0), .val (.int p1), .val (.int p2), .val (.int p3), .val (.long p4), .second, .val (.int (1 : Int32)), .val (.ref b38), .val (.int (1 : Int32)), .val (.long q9), .second, .val (.ref br47)] []))
    refine own_pre (fun t k => XS.aload X47.here hx rfl (hb hby at_141) rfl rfl k) ?_
    show own_Ends _ _ _ _ (T47.setTop (mkF m 143 #[.val (.int p0), .val (.int p1), .val (.int p2), .val (.int p3), .val (.long p4), .second, .val (.int (1 : Int32)), .val (.ref b38), .val (.int (1 : Int32)), .val (.long q9), .second, .val (.ref br47)] [(.ref br47)]))
    obtain ⟨cl50, Ar50, -, S50, M50, -, -⟩ := id (va47)
    refine own_pre (fun t k => own_len X47 hx rfl hZ Ar50 S50 M50 (g := (mkF m 143 #[.val (.int p0), .val (.int p1), .val (.int p2), .val (.int p3), .val (.long p4), .second, .val (.int (1 : Int32)), .val (.ref b38), .val (.int (1 : Int32)), .val (.long q9), .second, .val (.ref br47)] [(.ref br47)])) rfl rfl (hb hby at_143) k) ?_
    show own_Ends _ _ _ _ (T47.setTop (mkF m 144 #[.val (.int p0), .val (.int p1), .val (.int p2), .val (.int p3), .val (.long p4), .second, .val (.int (1 : Int32)), .val (.ref b38), .val (.int (1 : Int32)), .val (.long q9), .second, .val (.ref br47)] [(.int (2 : Int32))]))
    refine own_pre (fun t k => XS.iload X47.here hx rfl (hb hby at_144) rfl k) ?_
    show own_Ends _ _ _ _ (T47.setTop (mkF m 146 #[.val (.int p0), .val (.int p1), .val (.int p2), .val (.int p3), .val (.long p4), .second, .val (.int (1 : Int32)), .val (.ref b38), .val (.int (1 : Int32)), .val (.long q9), .second, .val (.ref br47)] [(.int (1 : Int32)), (.int (2 : Int32))]))
    refine own_pre (fun t k => XS.iconst X47.here hx rfl (hb hby at_146) k) ?_
    show own_Ends _ _ _ _ (T47.setTop (mkF m 147 #[.val (.int p0), .val (.int p1), .val (.int p2), .val (.int p3), .val (.long p4), .second, .val (.int (1 : Int32)), .val (.ref b38), .val (.int (1 : Int32)), .val (.long q9), .second, .val (.ref br47)] [(.int (1 : Int32)), (.int (1 : Int32)), (.int (2 : Int32))]))
    refine own_pre (fun t k => XS.iadd X47.here hx rfl (hb hby at_147) rfl k) ?_
    show own_Ends _ _ _ _ (T47.setTop (mkF m 148 #[.val (.int p0), .val (.int p1), .val (.int p2), .val (.int p3), .val (.long p4), .second, .val (.int (1 : Int32)), .val (.ref b38), .val (.int (1 : Int32)), .val (.long q9), .second, .val (.ref br47)] [(.int (2 : Int32)), (.int (2 : Int32))]))
    refine own_pre (fun t k => XS.icmpYes X47.here hx rfl (pc0 := 148) (pc' := 153) rfl (hb hby at_148) rfl (teq ((by decide) : (2 : Int32) = (2 : Int32))).1 (by decide) (by decide) k) ?_
    show own_Ends _ _ _ _ (T47.setTop (mkF m 153 #[.val (.int p0), .val (.int p1), .val (.int p2), .val (.int p3), .val (.long p4), .second, .val (.int (1 : Int32)), .val (.ref b38), .val (.int (1 : Int32)), .val (.long q9), .second, .val (.ref br47)] []))
    refine own_pre (fun t k => XS.aload X47.here hx rfl (hb hby at_153) rfl rfl k) ?_
    show own_Ends _ _ _ _ (T47.setTop (mkF m 155 #[.val (.int p0), .val (.int p1), .val (.int p2), .val (.int p3), .val (.long p4), .second, .val (.int (1 : Int32)), .val (.ref b38), .val (.int (1 : Int32)), .val (.long q9), .second, .val (.ref br47)] [(.ref br47)]))
    refine own_pre (fun t k => XS.iload X47.here hx rfl (hb hby at_155) rfl k) ?_
    show own_Ends _ _ _ _ (T47.setTop (mkF m 157 #[.val (.int p0), .val (.int p1), .val (.int p2), .val (.int p3), .val (.long p4), .second, .val (.int (1 : Int32)), .val (.ref b38), .val (.int (1 : Int32)), .val (.long q9), .second, .val (.ref br47)] [(.int (1 : Int32)), (.ref br47)]))
    obtain ⟨cl51, Ar51, q51, S51, M51, H51, G51⟩ := id (va47)
    have hin51 : ¬ ((1 : Int32) < 0 ∨ cl51.slots.size ≤ ((1 : Int32)).toNatClampNeg) := inb_of S51 ⟨by decide, by decide⟩
    have hat51 : cl51.slots[((1 : Int32)).toNatClampNeg]? = some (.int (q9.toInt32)) := H51.at hin51 rfl
    refine own_pre (fun t k => X47.iaload hx (j := (1 : Int32)) (v := (.int (q9.toInt32))) Ar51.1 (State.isArrayOf_alike hZ.alike Ar51.2.1) Ar51.2.2 hin51 hat51 (g := (mkF m 157 #[.val (.int p0), .val (.int p1), .val (.int p2), .val (.int p3), .val (.long p4), .second, .val (.int (1 : Int32)), .val (.ref b38), .val (.int (1 : Int32)), .val (.long q9), .second, .val (.ref br47)] [(.int (1 : Int32)), (.ref br47)])) rfl rfl (hb hby at_157) _ k) ?_
    show own_Ends _ _ _ _ (T47.setTop (mkF m 158 #[.val (.int p0), .val (.int p1), .val (.int p2), .val (.int p3), .val (.long p4), .second, .val (.int (1 : Int32)), .val (.ref b38), .val (.int (1 : Int32)), .val (.long q9), .second, .val (.ref br47)] [(.int (q9.toInt32))]))
    refine own_pre (fun t k => XS.i2l X47.here hx rfl (hb hby at_158) rfl k) ?_
    show own_Ends _ _ _ _ (T47.setTop (mkF m 159 #[.val (.int p0), .val (.int p1), .val (.int p2), .val (.int p3), .val (.long p4), .second, .val (.int (1 : Int32)), .val (.ref b38), .val (.int (1 : Int32)), .val (.long q9), .second, .val (.ref br47)] [(.long ((q9.toInt32).toInt64))]))
    refine own_pre (fun t k => X47.ldc2Long hx hown (mvT hZ (hw _ (List.mem_of_getElem? (i := 2) rfl))) (g := (mkF m 159 #[.val (.int p0), .val (.int p1), .val (.int p2), .val (.int p3), .val (.long p4), .second, .val (.int (1 : Int32)), .val (.ref b38), .val (.int (1 : Int32)), .val (.long q9), .second, .val (.ref br47)] [(.long ((q9.toInt32).toInt64))])) rfl (hb hby at_159) _ k) ?_
    show own_Ends _ _ _ _ (T47.setTop (mkF m 162 #[.val (.int p0), .val (.int p1), .val (.int p2), .val (.int p3), .val (.long p4), .second, .val (.int (1 : Int32)), .val (.ref b38), .val (.int (1 : Int32)), .val (.long q9), .second, .val (.ref br47)] [(.long (4294967295 : Int64)), (.long ((q9.toInt32).toInt64))]))
    refine own_pre (fun t k => XS.land X47.here hx rfl (hb hby at_162) rfl k) ?_
    show own_Ends _ _ _ _ (T47.setTop (mkF m 163 #[.val (.int p0), .val (.int p1), .val (.int p2), .val (.int p3), .val (.long p4), .second, .val (.int (1 : Int32)), .val (.ref b38), .val (.int (1 : Int32)), .val (.long q9), .second, .val (.ref br47)] [(.long (((q9.toInt32).toInt64) &&& (4294967295 : Int64)))]))
    refine own_pre (fun t k => XS.lload X47.here hx rfl (hb hby at_163) rfl k) ?_
    show own_Ends _ _ _ _ (T47.setTop (mkF m 165 #[.val (.int p0), .val (.int p1), .val (.int p2), .val (.int p3), .val (.long p4), .second, .val (.int (1 : Int32)), .val (.ref b38), .val (.int (1 : Int32)), .val (.long q9), .second, .val (.ref br47)] [(.long q9), (.long (((q9.toInt32).toInt64) &&& (4294967295 : Int64)))]))
    refine own_pre (fun t k => XS.lcmp X47.here hx rfl (hb hby at_165) rfl k) ?_
    show own_Ends _ _ _ _ (T47.setTop (mkF m 166 #[.val (.int p0), .val (.int p1), .val (.int p2), .val (.int p3), .val (.long p4), .second, .val (.int (1 : Int32)), .val (.ref b38), .val (.int (1 : Int32)), .val (.long q9), .second, .val (.ref br47)] [(.int (own_cmpL (((q9.toInt32).toInt64) &&& (4294967295 : Int64)) q9))]))
    refine own_pre (fun t k => XS.ifYes X47.here hx rfl (pc0 := 166) (pc' := 171) rfl (hb hby at_166) rfl ((if0 _ _).trans (teq (hq9 ▸ own_low p4 : (own_cmpL (((q9.toInt32).toInt64) &&& (4294967295 : Int64)) q9) = (0 : Int32))).1) (by decide) (by decide) k) ?_
    show own_Ends _ _ _ _ (T47.setTop (mkF m 171 #[.val (.int p0), .val (.int p1), .val (.int p2), .val (.int p3), .val (.long p4), .second, .val (.int (1 : Int32)), .val (.ref b38), .val (.int (1 : Int32)), .val (.long q9), .second, .val (.ref br47)] []))
    refine own_pre (fun t k => XS.aload X47.here hx rfl (hb hby at_171) rfl rfl k) ?_
    show own_Ends _ _ _ _ (T47.setTop (mkF m 173 #[.val (.int p0), .val (.int p1), .val (.int p2), .val (.int p3), .val (.long p4), .second, .val (.int (1 : Int32)), .val (.ref b38), .val (.int (1 : Int32)), .val (.long q9), .second, .val (.ref br47)] [(.ref b38)]))
    obtain ⟨cl52, Ar52, -, S52, M52, -, -⟩ := id (f49)
    refine own_pre (fun t k => own_len X47 hx rfl hZ Ar52 S52 M52 (g := (mkF m 173 #[.val (.int p0), .val (.int p1), .val (.int p2), .val (.int p3), .val (.long p4), .second, .val (.int (1 : Int32)), .val (.ref b38), .val (.int (1 : Int32)), .val (.long q9), .second, .val (.ref br47)] [(.ref b38)])) rfl rfl (hb hby at_173) k) ?_
    show own_Ends _ _ _ _ (T47.setTop (mkF m 174 #[.val (.int p0), .val (.int p1), .val (.int p2), .val (.int p3), .val (.long p4), .second, .val (.int (1 : Int32)), .val (.ref b38), .val (.int (1 : Int32)), .val (.long q9), .second, .val (.ref br47)] [(.int (1 : Int32))]))
    refine own_pre (fun t k => XS.iload X47.here hx rfl (hb hby at_174) rfl k) ?_
    show own_Ends _ _ _ _ (T47.setTop (mkF m 176 #[.val (.int p0), .val (.int p1), .val (.int p2), .val (.int p3), .val (.long p4), .second, .val (.int (1 : Int32)), .val (.ref b38), .val (.int (1 : Int32)), .val (.long q9), .second, .val (.ref br47)] [(.int (1 : Int32)), (.int (1 : Int32))]))
    refine own_pre (fun t k => XS.icmpYes X47.here hx rfl (pc0 := 176) (pc' := 181) rfl (hb hby at_176) rfl (teq ((by decide) : (1 : Int32) = (1 : Int32))).1 (by decide) (by decide) k) ?_
    show own_Ends _ _ _ _ (T47.setTop (mkF m 181 #[.val (.int p0), .val (.int p1), .val (.int p2), .val (.int p3), .val (.long p4), .second, .val (.int (1 : Int32)), .val (.ref b38), .val (.int (1 : Int32)), .val (.long q9), .second, .val (.ref br47)] []))
    refine own_pre (fun t k => XS.iload X47.here hx rfl (hb hby at_181) rfl k) ?_
    show own_Ends _ _ _ _ (T47.setTop (mkF m 183 #[.val (.int p0), .val (.int p1), .val (.int p2), .val (.int p3), .val (.long p4), .second, .val (.int (1 : Int32)), .val (.ref b38), .val (.int (1 : Int32)), .val (.long q9), .second, .val (.ref br47)] [(.int (1 : Int32))]))
    refine own_pre (fun t k => XS.iconst X47.here hx rfl (hb hby at_183) k) ?_
    show own_Ends _ _ _ _ (T47.setTop (mkF m 184 #[.val (.int p0), .val (.int p1), .val (.int p2), .val (.int p3), .val (.long p4), .second, .val (.int (1 : Int32)), .val (.ref b38), .val (.int (1 : Int32)), .val (.long q9), .second, .val (.ref br47)] [(.int (1 : Int32)), (.int (1 : Int32))]))
    refine own_pre (fun t k => XS.icmpNo X47.here hx rfl (hb hby at_184) rfl (flt ((by decide) : ¬ ((1 : Int32) < (1 : Int32)))).1 k) ?_
    show own_Ends _ _ _ _ (T47.setTop (mkF m 187 #[.val (.int p0), .val (.int p1), .val (.int p2), .val (.int p3), .val (.long p4), .second, .val (.int (1 : Int32)), .val (.ref b38), .val (.int (1 : Int32)), .val (.long q9), .second, .val (.ref br47)] []))
    refine own_pre (fun t k => XS.aload X47.here hx rfl (hb hby at_187) rfl rfl k) ?_
    show own_Ends _ _ _ _ (T47.setTop (mkF m 189 #[.val (.int p0), .val (.int p1), .val (.int p2), .val (.int p3), .val (.long p4), .second, .val (.int (1 : Int32)), .val (.ref b38), .val (.int (1 : Int32)), .val (.long q9), .second, .val (.ref br47)] [(.ref br47)]))
    refine own_pre (fun t k => XS.iconst X47.here hx rfl (hb hby at_189) k) ?_
    show own_Ends _ _ _ _ (T47.setTop (mkF m 190 #[.val (.int p0), .val (.int p1), .val (.int p2), .val (.int p3), .val (.long p4), .second, .val (.int (1 : Int32)), .val (.ref b38), .val (.int (1 : Int32)), .val (.long q9), .second, .val (.ref br47)] [(.int (0 : Int32)), (.ref br47)]))
    obtain ⟨cl53, Ar53, q53, S53, M53, H53, G53⟩ := id (va47)
    have hin53 : ¬ ((0 : Int32) < 0 ∨ cl53.slots.size ≤ ((0 : Int32)).toNatClampNeg) := inb_of S53 ⟨by decide, by decide⟩
    have hat53 : cl53.slots[((0 : Int32)).toNatClampNeg]? = some (.int p1) := H53.at hin53 rfl
    refine own_pre (fun t k => X47.iaload hx (j := (0 : Int32)) (v := (.int p1)) Ar53.1 (State.isArrayOf_alike hZ.alike Ar53.2.1) Ar53.2.2 hin53 hat53 (g := (mkF m 190 #[.val (.int p0), .val (.int p1), .val (.int p2), .val (.int p3), .val (.long p4), .second, .val (.int (1 : Int32)), .val (.ref b38), .val (.int (1 : Int32)), .val (.long q9), .second, .val (.ref br47)] [(.int (0 : Int32)), (.ref br47)])) rfl rfl (hb hby at_190) _ k) ?_
    show own_Ends _ _ _ _ (T47.setTop (mkF m 191 #[.val (.int p0), .val (.int p1), .val (.int p2), .val (.int p3), .val (.long p4), .second, .val (.int (1 : Int32)), .val (.ref b38), .val (.int (1 : Int32)), .val (.long q9), .second, .val (.ref br47)] [(.int p1)]))
    refine own_pre (fun t k => XS.iloadN X47.here hx rfl (hb hby at_191) rfl k) ?_
    show own_Ends _ _ _ _ (T47.setTop (mkF m 192 #[.val (.int p0), .val (.int p1), .val (.int p2), .val (.int p3), .val (.long p4), .second, .val (.int (1 : Int32)), .val (.ref b38), .val (.int (1 : Int32)), .val (.long q9), .second, .val (.ref br47)] [(.int p1), (.int p1)]))
    refine own_pre (fun t k => XS.icmpNo X47.here hx rfl (hb hby at_192) rfl (teq (rfl : p1 = p1)).2 k) ?_
    show own_Ends _ _ _ _ (T47.setTop (mkF m 195 #[.val (.int p0), .val (.int p1), .val (.int p2), .val (.int p3), .val (.long p4), .second, .val (.int (1 : Int32)), .val (.ref b38), .val (.int (1 : Int32)), .val (.long q9), .second, .val (.ref br47)] []))
    refine own_pre (fun t k => XS.aload X47.here hx rfl (hb hby at_195) rfl rfl k) ?_
    show own_Ends _ _ _ _ (T47.setTop (mkF m 197 #[.val (.int p0), .val (.int p1), .val (.int p2), .val (.int p3), .val (.long p4), .second, .val (.int (1 : Int32)), .val (.ref b38), .val (.int (1 : Int32)), .val (.long q9), .second, .val (.ref br47)] [(.ref b38)]))
    refine own_pre (fun t k => XS.iconst X47.here hx rfl (hb hby at_197) k) ?_
    show own_Ends _ _ _ _ (T47.setTop (mkF m 198 #[.val (.int p0), .val (.int p1), .val (.int p2), .val (.int p3), .val (.long p4), .second, .val (.int (1 : Int32)), .val (.ref b38), .val (.int (1 : Int32)), .val (.long q9), .second, .val (.ref br47)] [(.int (0 : Int32)), (.ref b38)]))
    obtain ⟨cl54, Ar54, q54, S54, M54, H54, G54⟩ := id (f49)
    have hin54 : ¬ ((0 : Int32) < 0 ∨ cl54.slots.size ≤ ((0 : Int32)).toNatClampNeg) := inb_of S54 ⟨by decide, by decide⟩
    have hat54 : cl54.slots[((0 : Int32)).toNatClampNeg]? = some (.int p1) := H54.at hin54 rfl
    refine own_pre (fun t k => X47.iaload hx (j := (0 : Int32)) (v := (.int p1)) Ar54.1 (State.isArrayOf_alike hZ.alike Ar54.2.1) Ar54.2.2 hin54 hat54 (g := (mkF m 198 #[.val (.int p0), .val (.int p1), .val (.int p2), .val (.int p3), .val (.long p4), .second, .val (.int (1 : Int32)), .val (.ref b38), .val (.int (1 : Int32)), .val (.long q9), .second, .val (.ref br47)] [(.int (0 : Int32)), (.ref b38)])) rfl rfl (hb hby at_198) _ k) ?_
    show own_Ends _ _ _ _ (T47.setTop (mkF m 199 #[.val (.int p0), .val (.int p1), .val (.int p2), .val (.int p3), .val (.long p4), .second, .val (.int (1 : Int32)), .val (.ref b38), .val (.int (1 : Int32)), .val (.long q9), .second, .val (.ref br47)] [(.int p1)]))
    refine own_pre (fun t k => XS.iloadN X47.here hx rfl (hb hby at_199) rfl k) ?_
    show own_Ends _ _ _ _ (T47.setTop (mkF m 200 #[.val (.int p0), .val (.int p1), .val (.int p2), .val (.int p3), .val (.long p4), .second, .val (.int (1 : Int32)), .val (.ref b38), .val (.int (1 : Int32)), .val (.long q9), .second, .val (.ref br47)] [(.int p1), (.int p1)]))
    refine own_pre (fun t k => XS.icmpYes X47.here hx rfl (pc0 := 200) (pc' := 205) rfl (hb hby at_200) rfl (teq (rfl : p1 = p1)).1 (by decide) (by decide) k) ?_
    show own_Ends _ _ _ _ (T47.setTop (mkF m 205 #[.val (.int p0), .val (.int p1), .val (.int p2), .val (.int p3), .val (.long p4), .second, .val (.int (1 : Int32)), .val (.ref b38), .val (.int (1 : Int32)), .val (.long q9), .second, .val (.ref br47)] []))
    refine own_pre (fun t k => XS.iload X47.here hx rfl (hb hby at_205) rfl k) ?_
    show own_Ends _ _ _ _ (T47.setTop (mkF m 207 #[.val (.int p0), .val (.int p1), .val (.int p2), .val (.int p3), .val (.long p4), .second, .val (.int (1 : Int32)), .val (.ref b38), .val (.int (1 : Int32)), .val (.long q9), .second, .val (.ref br47)] [(.int (1 : Int32))]))
    refine own_pre (fun t k => XS.iconst X47.here hx rfl (hb hby at_207) k) ?_
    show own_Ends _ _ _ _ (T47.setTop (mkF m 208 #[.val (.int p0), .val (.int p1), .val (.int p2), .val (.int p3), .val (.long p4), .second, .val (.int (1 : Int32)), .val (.ref b38), .val (.int (1 : Int32)), .val (.long q9), .second, .val (.ref br47)] [(.int (2 : Int32)), (.int (1 : Int32))]))
    refine own_pre (fun t k => XS.icmpNo X47.here hx rfl (hb hby at_208) rfl (feq ((by decide) : ¬ ((1 : Int32) = (2 : Int32)))).1 k) ?_
    show own_Ends _ _ _ _ (T47.setTop (mkF m 211 #[.val (.int p0), .val (.int p1), .val (.int p2), .val (.int p3), .val (.long p4), .second, .val (.int (1 : Int32)), .val (.ref b38), .val (.int (1 : Int32)), .val (.long q9), .second, .val (.ref br47)] []))
    refine own_pre (fun t k => XS.iload X47.here hx rfl (hb hby at_211) rfl k) ?_
    show own_Ends _ _ _ _ (T47.setTop (mkF m 213 #[.val (.int p0), .val (.int p1), .val (.int p2), .val (.int p3), .val (.long p4), .second, .val (.int (1 : Int32)), .val (.ref b38), .val (.int (1 : Int32)), .val (.long q9), .second, .val (.ref br47)] [(.int (1 : Int32))]))
    refine own_pre (fun t k => XS.iconst X47.here hx rfl (hb hby at_213) k) ?_
    show own_Ends _ _ _ _ (T47.setTop (mkF m 214 #[.val (.int p0), .val (.int p1), .val (.int p2), .val (.int p3), .val (.long p4), .second, .val (.int (1 : Int32)), .val (.ref b38), .val (.int (1 : Int32)), .val (.long q9), .second, .val (.ref br47)] [(.int (3 : Int32)), (.int (1 : Int32))]))
    refine own_pre (fun t k => XS.icmpYes X47.here hx rfl (pc0 := 214) (pc' := 235) rfl (hb hby at_214) rfl (feq ((by decide) : ¬ ((1 : Int32) = (3 : Int32)))).2 (by decide) (by decide) k) ?_
    show own_Ends _ _ _ _ (T47.setTop (mkF m 235 #[.val (.int p0), .val (.int p1), .val (.int p2), .val (.int p3), .val (.long p4), .second, .val (.int (1 : Int32)), .val (.ref b38), .val (.int (1 : Int32)), .val (.long q9), .second, .val (.ref br47)] []))
    refine own_pre (fun t k => XS.iload X47.here hx rfl (hb hby at_235) rfl k) ?_
    show own_Ends _ _ _ _ (T47.setTop (mkF m 237 #[.val (.int p0), .val (.int p1), .val (.int p2), .val (.int p3), .val (.long p4), .second, .val (.int (1 : Int32)), .val (.ref b38), .val (.int (1 : Int32)), .val (.long q9), .second, .val (.ref br47)] [(.int (1 : Int32))]))
    refine own_pre (fun t k => XS.iconst X47.here hx rfl (hb hby at_237) k) ?_
    show own_Ends _ _ _ _ (T47.setTop (mkF m 238 #[.val (.int p0), .val (.int p1), .val (.int p2), .val (.int p3), .val (.long p4), .second, .val (.int (1 : Int32)), .val (.ref b38), .val (.int (1 : Int32)), .val (.long q9), .second, .val (.ref br47)] [(.int (3 : Int32)), (.int (1 : Int32))]))
    refine own_pre (fun t k => XS.icmpYes X47.here hx rfl (pc0 := 238) (pc' := 259) rfl (hb hby at_238) rfl (feq ((by decide) : ¬ ((1 : Int32) = (3 : Int32)))).2 (by decide) (by decide) k) ?_
    show own_Ends _ _ _ _ (T47.setTop (mkF m 259 #[.val (.int p0), .val (.int p1), .val (.int p2), .val (.int p3), .val (.long p4), .second, .val (.int (1 : Int32)), .val (.ref b38), .val (.int (1 : Int32)), .val (.long q9), .second, .val (.ref br47)] []))
    refine own_pre (fun t k => XS.iload X47.here hx rfl (hb hby at_259) rfl k) ?_
    show own_Ends _ _ _ _ (T47.setTop (mkF m 261 #[.val (.int p0), .val (.int p1), .val (.int p2), .val (.int p3), .val (.long p4), .second, .val (.int (1 : Int32)), .val (.ref b38), .val (.int (1 : Int32)), .val (.long q9), .second, .val (.ref br47)] [(.int (1 : Int32))]))
    refine own_pre (fun t k => XS.bipush X47.here hx rfl (hb hby at_261) k) ?_
    show own_Ends _ _ _ _ (T47.setTop (mkF m 263 #[.val (.int p0), .val (.int p1), .val (.int p2), .val (.int p3), .val (.long p4), .second, .val (.int (1 : Int32)), .val (.ref b38), .val (.int (1 : Int32)), .val (.long q9), .second, .val (.ref br47)] [(.int (14 : Int32)), (.int (1 : Int32))]))
    refine own_pre (fun t k => XS.icmpYes X47.here hx rfl (pc0 := 263) (pc' := 323) rfl (hb hby at_263) rfl (feq ((by decide) : ¬ ((1 : Int32) = (14 : Int32)))).2 (by decide) (by decide) k) ?_
    show own_Ends _ _ _ _ (T47.setTop (mkF m 323 #[.val (.int p0), .val (.int p1), .val (.int p2), .val (.int p3), .val (.long p4), .second, .val (.int (1 : Int32)), .val (.ref b38), .val (.int (1 : Int32)), .val (.long q9), .second, .val (.ref br47)] []))
    refine own_pre (fun t k => XS.iconst X47.here hx rfl (hb hby at_323) k) ?_
    show own_Ends _ _ _ _ (T47.setTop (mkF m 324 #[.val (.int p0), .val (.int p1), .val (.int p2), .val (.int p3), .val (.long p4), .second, .val (.int (1 : Int32)), .val (.ref b38), .val (.int (1 : Int32)), .val (.long q9), .second, .val (.ref br47)] [(.int (1 : Int32))]))
    exact own_retN X47 hx (t := .boolean) Bd.returns (by simp) (hb hby at_324) hlk rfl rfl ⟨rfl, N47⟩ (by decide) (by decide)
  · subst hs26
    show own_Ends _ _ _ _ (s₁.setTop (mkF m 8 #[.val (.int p0), .val (.int p1), .val (.int p2), .val (.int p3), .val (.long p4), .second, .val (.int (2 : Int32)), .unset, .unset, .unset, .unset, .unset] []))
    refine own_pre (fun t k => XS.iload X0.here hx rfl (hb hby at_8) rfl k) ?_
    show own_Ends _ _ _ _ (s₁.setTop (mkF m 10 #[.val (.int p0), .val (.int p1), .val (.int p2), .val (.int p3), .val (.long p4), .second, .val (.int (2 : Int32)), .unset, .unset, .unset, .unset, .unset] [(.int (2 : Int32))]))
    refine own_pre (fun t k => XS.ifYes X0.here hx rfl (pc0 := 10) (pc' := 21) rfl (hb hby at_10) rfl ((if0 _ _).trans (feq ((by decide) : ¬ ((2 : Int32) = (0 : Int32)))).2) (by decide) (by decide) k) ?_
    show own_Ends _ _ _ _ (s₁.setTop (mkF m 21 #[.val (.int p0), .val (.int p1), .val (.int p2), .val (.int p3), .val (.long p4), .second, .val (.int (2 : Int32)), .unset, .unset, .unset, .unset, .unset] []))
    refine own_pre (fun t k => XS.iload X0.here hx rfl (hb hby at_21) rfl k) ?_
    show own_Ends _ _ _ _ (s₁.setTop (mkF m 23 #[.val (.int p0), .val (.int p1), .val (.int p2), .val (.int p3), .val (.long p4), .second, .val (.int (2 : Int32)), .unset, .unset, .unset, .unset, .unset] [(.int (2 : Int32))]))
    refine own_pre (fun t k => XS.iconst X0.here hx rfl (hb hby at_23) k) ?_
    show own_Ends _ _ _ _ (s₁.setTop (mkF m 24 #[.val (.int p0), .val (.int p1), .val (.int p2), .val (.int p3), .val (.long p4), .second, .val (.int (2 : Int32)), .unset, .unset, .unset, .unset, .unset] [(.int (1 : Int32)), (.int (2 : Int32))]))
    refine own_pre (fun t k => XS.icmpYes X0.here hx rfl (pc0 := 24) (pc' := 39) rfl (hb hby at_24) rfl (feq ((by decide) : ¬ ((2 : Int32) = (1 : Int32)))).2 (by decide) (by decide) k) ?_
    show own_Ends _ _ _ _ (s₁.setTop (mkF m 39 #[.val (.int p0), .val (.int p1), .val (.int p2), .val (.int p3), .val (.long p4), .second, .val (.int (2 : Int32)), .unset, .unset, .unset, .unset, .unset] []))
    refine own_pre (fun t k => XS.iload X0.here hx rfl (hb hby at_39) rfl k) ?_
    show own_Ends _ _ _ _ (s₁.setTop (mkF m 41 #[.val (.int p0), .val (.int p1), .val (.int p2), .val (.int p3), .val (.long p4), .second, .val (.int (2 : Int32)), .unset, .unset, .unset, .unset, .unset] [(.int (2 : Int32))]))
    refine own_pre (fun t k => XS.iconst X0.here hx rfl (hb hby at_41) k) ?_
    show own_Ends _ _ _ _ (s₁.setTop (mkF m 42 #[.val (.int p0), .val (.int p1), .val (.int p2), .val (.int p3), .val (.long p4), .second, .val (.int (2 : Int32)), .unset, .unset, .unset, .unset, .unset] [(.int (2 : Int32)), (.int (2 : Int32))]))
    refine own_pre (fun t k => XS.icmpNo X0.here hx rfl (hb hby at_42) rfl (teq ((by decide) : (2 : Int32) = (2 : Int32))).2 k) ?_
    show own_Ends _ _ _ _ (s₁.setTop (mkF m 45 #[.val (.int p0), .val (.int p1), .val (.int p2), .val (.int p3), .val (.long p4), .second, .val (.int (2 : Int32)), .unset, .unset, .unset, .unset, .unset] []))
    refine own_pre (fun t k => XS.iconst X0.here hx rfl (hb hby at_45) k) ?_
    show own_Ends _ _ _ _ (s₁.setTop (mkF m 46 #[.val (.int p0), .val (.int p1), .val (.int p2), .val (.int p3), .val (.long p4), .second, .val (.int (2 : Int32)), .unset, .unset, .unset, .unset, .unset] [(.int (2 : Int32))]))
    obtain ⟨T55, h55, k55, X55, e55, E55, A55, st55⟩ := newP X0 hx hZ (hw _ (List.mem_of_getElem? (i := 1) rfl)) e0 (g := (mkF m 46 #[.val (.int p0), .val (.int p1), .val (.int p2), .val (.int p3), .val (.long p4), .second, .val (.int (2 : Int32)), .unset, .unset, .unset, .unset, .unset] [(.int (2 : Int32))])) rfl (hb hby at_46) rfl (by decide) (cap := 2) (by decide) (by decide) (by decide) (by decide)
    obtain ⟨b55, g55⟩ : ∃ z, z = h0.size := ⟨_, rfl⟩
    rw [← g55] at A55 st55
    refine own_pre st55 ?_
    have L56 : n0 ≤ b55 := Nat.le_trans Z0 (Nat.le_of_eq g55.symm)
    have Zn57 : n0 ≤ h55.size := Nat.le_trans Z0 E55.1
    have f58 : Arv Z h55 b55 k55 .int (2 : Int32) [(.int (0 : Int32)), (.int (0 : Int32))] (.int (0 : Int32)) := (Arv.new A55 (by decide)).pad (pad_rep [] (.int (0 : Int32)) 2)
    show own_Ends _ _ _ _ (T55.setTop (mkF m 48 #[.val (.int p0), .val (.int p1), .val (.int p2), .val (.int p3), .val (.long p4), .second, .val (.int (2 : Int32)), .unset, .unset, .unset, .unset, .unset] [(.ref b55)]))
    refine own_pre (fun t k => XS.dup X55.here hx rfl (hb hby at_48) rfl rfl k) ?_
    show own_Ends _ _ _ _ (T55.setTop (mkF m 49 #[.val (.int p0), .val (.int p1), .val (.int p2), .val (.int p3), .val (.long p4), .second, .val (.int (2 : Int32)), .unset, .unset, .unset, .unset, .unset] [(.ref b55), (.ref b55)]))
    refine own_pre (fun t k => XS.iconst X55.here hx rfl (hb hby at_49) k) ?_
    show own_Ends _ _ _ _ (T55.setTop (mkF m 50 #[.val (.int p0), .val (.int p1), .val (.int p2), .val (.int p3), .val (.long p4), .second, .val (.int (2 : Int32)), .unset, .unset, .unset, .unset, .unset] [(.int (0 : Int32)), (.ref b55), (.ref b55)]))
    refine own_pre (fun t k => XS.iloadN X55.here hx rfl (hb hby at_50) rfl k) ?_
    show own_Ends _ _ _ _ (T55.setTop (mkF m 51 #[.val (.int p0), .val (.int p1), .val (.int p2), .val (.int p3), .val (.long p4), .second, .val (.int (2 : Int32)), .unset, .unset, .unset, .unset, .unset] [(.int p1), (.int (0 : Int32)), (.ref b55), (.ref b55)]))
    obtain ⟨cl59, Ar59, q59, S59, M59, H59, G59⟩ := id (f58)
    have hin59 : ¬ ((0 : Int32) < 0 ∨ cl59.slots.size ≤ ((0 : Int32)).toNatClampNeg) := inb_of S59 ⟨by decide, by decide⟩
    obtain ⟨T59, h59, X59, e59, W59, st59⟩ := stI X55 hx hZ e55 Ar59 (j := (0 : Int32)) hin59 (g := (mkF m 51 #[.val (.int p0), .val (.int p1), .val (.int p2), .val (.int p3), .val (.long p4), .second, .val (.int (2 : Int32)), .unset, .unset, .unset, .unset, .unset] [(.int p1), (.int (0 : Int32)), (.ref b55), (.ref b55)])) rfl rfl (hb hby at_51)
    refine own_pre st59 ?_
    have f60x := Arv.set Ar59 q59 S59 M59 H59 G59 (show fits .int (.int p1) = true from rfl) W59 0 rfl (Nat.le_of_ble_eq_true rfl)
    have f60 : Arv Z h59 b55 k55 .int (2 : Int32) [(.int p1), (.int (0 : Int32))] (.int (0 : Int32)) := f60x
    have N61 := Fr.snoc X59 N0 L56
    have Zn62 : n0 ≤ h59.size := by rw [W59.size]; exact Zn57
    show own_Ends _ _ _ _ (T59.setTop (mkF m 52 #[.val (.int p0), .val (.int p1), .val (.int p2), .val (.int p3), .val (.long p4), .second, .val (.int (2 : Int32)), .unset, .unset, .unset, .unset, .unset] [(.ref b55)]))
    refine own_pre (fun t k => XS.dup X59.here hx rfl (hb hby at_52) rfl rfl k) ?_
    show own_Ends _ _ _ _ (T59.setTop (mkF m 53 #[.val (.int p0), .val (.int p1), .val (.int p2), .val (.int p3), .val (.long p4), .second, .val (.int (2 : Int32)), .unset, .unset, .unset, .unset, .unset] [(.ref b55), (.ref b55)]))
    refine own_pre (fun t k => XS.iconst X59.here hx rfl (hb hby at_53) k) ?_
    show own_Ends _ _ _ _ (T59.setTop (mkF m 54 #[.val (.int p0), .val (.int p1), .val (.int p2), .val (.int p3), .val (.long p4), .second, .val (.int (2 : Int32)), .unset, .unset, .unset, .unset, .unset] [(.int (1 : Int32)), (.ref b55), (.ref b55)]))
    refine own_pre (fun t k => XS.iloadN X59.here hx rfl (hb hby at_54) rfl k) ?_
    show own_Ends _ _ _ _ (T59.setTop (mkF m 55 #[.val (.int p0), .val (.int p1), .val (.int p2), .val (.int p3), .val (.long p4), .second, .val (.int (2 : Int32)), .unset, .unset, .unset, .unset, .unset] [(.int p2), (.int (1 : Int32)), (.ref b55), (.ref b55)]))
    obtain ⟨cl63, Ar63, q63, S63, M63, H63, G63⟩ := id (f60)
    have hin63 : ¬ ((1 : Int32) < 0 ∨ cl63.slots.size ≤ ((1 : Int32)).toNatClampNeg) := inb_of S63 ⟨by decide, by decide⟩
    obtain ⟨T63, h63, X63, e63, W63, st63⟩ := stI X59 hx hZ e59 Ar63 (j := (1 : Int32)) hin63 (g := (mkF m 55 #[.val (.int p0), .val (.int p1), .val (.int p2), .val (.int p3), .val (.long p4), .second, .val (.int (2 : Int32)), .unset, .unset, .unset, .unset, .unset] [(.int p2), (.int (1 : Int32)), (.ref b55), (.ref b55)])) rfl rfl (hb hby at_55)
    refine own_pre st63 ?_
    have f64x := Arv.set Ar63 q63 S63 M63 H63 G63 (show fits .int (.int p2) = true from rfl) W63 1 rfl (Nat.le_of_ble_eq_true rfl)
    have f64 : Arv Z h63 b55 k55 .int (2 : Int32) [(.int p1), (.int p2)] (.int (0 : Int32)) := f64x
    have N65 := Fr.snoc X63 N61 L56
    have Zn66 : n0 ≤ h63.size := by rw [W63.size]; exact Zn62
    show own_Ends _ _ _ _ (T63.setTop (mkF m 56 #[.val (.int p0), .val (.int p1), .val (.int p2), .val (.int p3), .val (.long p4), .second, .val (.int (2 : Int32)), .unset, .unset, .unset, .unset, .unset] [(.ref b55)]))
    refine own_pre (fun t k => XS.astore X63.here hx rfl (hb hby at_56) rfl rfl (l' := #[.val (.int p0), .val (.int p1), .val (.int p2), .val (.int p3), .val (.long p4), .second, .val (.int (2 : Int32)), .val (.ref b55), .unset, .unset, .unset, .unset]) rfl k) ?_
    show own_Ends _ _ _ _ (T63.setTop (mkF m 58 #[.val (.int p0), .val (.int p1), .val (.int p2), .val (.int p3), .val (.long p4), .second, .val (.int (2 : Int32)), .val (.ref b55), .unset, .unset, .unset, .unset] []))
    refine own_pre (fun t k => XS.goto X63.here hx rfl (pc0 := 58) (pc' := 110) rfl (hb hby at_58) (by decide) (by decide) k) ?_
    show own_Ends _ _ _ _ (T63.setTop (mkF m 110 #[.val (.int p0), .val (.int p1), .val (.int p2), .val (.int p3), .val (.long p4), .second, .val (.int (2 : Int32)), .val (.ref b55), .unset, .unset, .unset, .unset] []))
    refine own_pre (fun t k => XS.aload X63.here hx rfl (hb hby at_110) rfl rfl k) ?_
    show own_Ends _ _ _ _ (T63.setTop (mkF m 112 #[.val (.int p0), .val (.int p1), .val (.int p2), .val (.int p3), .val (.long p4), .second, .val (.int (2 : Int32)), .val (.ref b55), .unset, .unset, .unset, .unset] [(.ref b55)]))
    obtain ⟨cl67, Ar67, -, S67, M67, -, -⟩ := id (f64)
    refine own_pre (fun t k => own_len X63 hx e63 hZ Ar67 S67 M67 (g := (mkF m 112 #[.val (.int p0), .val (.int p1), .val (.int p2), .val (.int p3), .val (.long p4), .second, .val (.int (2 : Int32)), .val (.ref b55), .unset, .unset, .unset, .unset] [(.ref b55)])) rfl rfl (hb hby at_112) k) ?_
    show own_Ends _ _ _ _ (T63.setTop (mkF m 113 #[.val (.int p0), .val (.int p1), .val (.int p2), .val (.int p3), .val (.long p4), .second, .val (.int (2 : Int32)), .val (.ref b55), .unset, .unset, .unset, .unset] [(.int (2 : Int32))]))
    refine own_pre (fun t k => XS.istore X63.here hx rfl (hb hby at_113) rfl (l' := #[.val (.int p0), .val (.int p1), .val (.int p2), .val (.int p3), .val (.long p4), .second, .val (.int (2 : Int32)), .val (.ref b55), .val (.int (2 : Int32)), .unset, .unset, .unset]) rfl k) ?_
    show own_Ends _ _ _ _ (T63.setTop (mkF m 115 #[.val (.int p0), .val (.int p1), .val (.int p2), .val (.int p3), .val (.long p4), .second, .val (.int (2 : Int32)), .val (.ref b55), .val (.int (2 : Int32)), .unset, .unset, .unset] []))
    refine own_pre (fun t k => XS.lload X63.here hx rfl (hb hby at_115) rfl k) ?_
    show own_Ends _ _ _ _ (T63.setTop (mkF m 117 #[.val (.int p0), .val (.int p1), .val (.int p2), .val (.int p3), .val (.long p4), .second, .val (.int (2 : Int32)), .val (.ref b55), .val (.int (2 : Int32)), .unset, .unset, .unset] [(.long p4)]))
    refine own_pre (fun t k => X63.ldc2Long hx hown (mvT hZ (hw _ (List.mem_of_getElem? (i := 2) rfl))) (g := (mkF m 117 #[.val (.int p0), .val (.int p1), .val (.int p2), .val (.int p3), .val (.long p4), .second, .val (.int (2 : Int32)), .val (.ref b55), .val (.int (2 : Int32)), .unset, .unset, .unset] [(.long p4)])) rfl (hb hby at_117) _ k) ?_
    show own_Ends _ _ _ _ (T63.setTop (mkF m 120 #[.val (.int p0), .val (.int p1), .val (.int p2), .val (.int p3), .val (.long p4), .second, .val (.int (2 : Int32)), .val (.ref b55), .val (.int (2 : Int32)), .unset, .unset, .unset] [(.long (4294967295 : Int64)), (.long p4)]))
    refine own_pre (fun t k => XS.land X63.here hx rfl (hb hby at_120) rfl k) ?_
    show own_Ends _ _ _ _ (T63.setTop (mkF m 121 #[.val (.int p0), .val (.int p1), .val (.int p2), .val (.int p3), .val (.long p4), .second, .val (.int (2 : Int32)), .val (.ref b55), .val (.int (2 : Int32)), .unset, .unset, .unset] [(.long (p4 &&& (4294967295 : Int64)))]))
    refine own_pre (fun t k => XS.lstore X63.here hx rfl (hb hby at_121) rfl (l' := #[.val (.int p0), .val (.int p1), .val (.int p2), .val (.int p3), .val (.long p4), .second, .val (.int (2 : Int32)), .val (.ref b55), .val (.int (2 : Int32)), .val (.long (p4 &&& (4294967295 : Int64))), .second, .unset]) rfl k) ?_
    show own_Ends _ _ _ _ (T63.setTop (mkF m 123 #[.val (.int p0), .val (.int p1), .val (.int p2), .val (.int p3), .val (.long p4), .second, .val (.int (2 : Int32)), .val (.ref b55), .val (.int (2 : Int32)), .val (.long (p4 &&& (4294967295 : Int64))), .second, .unset] []))
    generalize hq9 : (p4 &&& (4294967295 : Int64)) = q9
    show own_Ends _ _ _ _ (T63.setTop (mkF m 123 #[.val (.int p0), .val (.int p1), .val (.int p2), .val (.int p3), .val (.long p4), .second, .val (.int (2 : Int32)), .val (.ref b55), .val (.int (2 : Int32)), .val (.long q9), .second, .unset] []))
    refine own_pre (fun t k => XS.aload X63.here hx rfl (hb hby at_123) rfl rfl k) ?_
    show own_Ends _ _ _ _ (T63.setTop (mkF m 125 #[.val (.int p0), .val (.int p1), .val (.int p2), .val (.int p3), .val (.long p4), .second, .val (.int (2 : Int32)), .val (.ref b55), .val (.int (2 : Int32)), .val (.long q9), .second, .unset] [(.ref b55)]))
    refine own_pre (fun t k => XS.lload X63.here hx rfl (hb hby at_125) rfl k) ?_
    show own_Ends _ _ _ _ (T63.setTop (mkF m 127 #[.val (.int p0), .val (.int p1), .val (.int p2), .val (.int p3), .val (.long p4), .second, .val (.int (2 : Int32)), .val (.ref b55), .val (.int (2 : Int32)), .val (.long q9), .second, .unset] [(.long q9), (.ref b55)]))
    obtain ⟨_, _, ⟨T68, L68, k68, n68⟩, -, X68, ⟨Lc68, hQ68, l68, y68, z68⟩, st68⟩ := Jvm.LawKit.callS X63 hx (y := (⟨"com/example/many_dashes/manydashes/form/SidLimits", "appended", "([IJ)[I"⟩ : MethodName)) hown (mvT hZ (hw _ (List.mem_of_getElem? (i := 3) rfl))) (mvT hZ (hw _ (List.mem_of_getElem? (i := 4) rfl))) (mvT hZ (hw _ (List.mem_of_getElem? (i := 5) rfl))) (mvT hZ (hw _ (List.mem_of_getElem? (i := 6) rfl))) (by decide) (backOf (W := 0) (rm3 l Z a0 hw [] b55 q9 k55 (2 : Int32) [(.int p1), (.int p2)] h63 n0 Zn66 f64 (by decide) (hq9 ▸ own_val p4).1 (hq9 ▸ own_val p4).2 (by decide) (by decide) (by decide) (by decide) (by decide) (by decide) rfl) hZ (hw _ (List.mem_of_getElem? (i := 6) rfl)) (hw _ (List.mem_of_getElem? (i := 5) rfl)) (by decide) (by decide)) (g := (mkF m 127 #[.val (.int p0), .val (.int p1), .val (.int p2), .val (.int p3), .val (.long p4), .second, .val (.int (2 : Int32)), .val (.ref b55), .val (.int (2 : Int32)), .val (.long q9), .second, .unset] [(.long q9), (.ref b55)])) rfl (by rw [hml]; rfl) (argsL := [(.ref b55), (.long q9)]) (rest := []) (lenOf own_pd2 rfl) rfl (by show 2 * 0 + _ ≤ _; exact Nat.le_of_eq rfl) (hb hby at_127) (fun _ _ => ⟨rfl, e63, (by decide : 1 + 1 ≤ _), (by decide : 2 + 15 ≤ _)⟩)
    dsimp only [Pt.U, Pt.locs, Pt.cells, Pt.slots] at X68 l68 y68 z68 st68 hQ68
    subst l68 y68 z68
    obtain ⟨br68, kb68, rfl, Nq68, Kq68, va68, la68, lb68⟩ := hQ68
    have N68 := Fr.app N65 Nq68
    have ne69 : b55 ≠ br68 := Nat.ne_of_lt (Nat.lt_of_lt_of_le f64.lt lb68)
    have f70 := f64.keep Kq68 nin0
    have Zn68 : n0 ≤ T68.heap.size := Nat.le_trans Zn66 Kq68.1
    have va68 : Arv Z T68.heap br68 kb68 .int (3 : Int32) [(.int p1), (.int p2), (.int (q9.toInt32))] (.int (0 : Int32)) := va68
    refine own_pre st68 ?_
    show own_Ends _ _ _ _ (T68.setTop (mkF m 130 #[.val (.int p0), .val (.int p1), .val (.int p2), .val (.int p3), .val (.long p4), .second, .val (.int (2 : Int32)), .val (.ref b55), .val (.int (2 : Int32)), .val (.long q9), .second, .unset] [(.ref br68)]))
    refine own_pre (fun t k => XS.astore X68.here hx rfl (hb hby at_130) rfl rfl (l' := #[.val (.int p0), .val (.int p1), .val (.int p2), .val (.int p3), .val (.long p4), .second, .val (.int (2 : Int32)), .val (.ref b55), .val (.int (2 : Int32)), .val (.long q9), .second, .val (.ref br68)]) rfl k) ?_
    show own_Ends _ _ _ _ (T68.setTop (mkF m 132 #[.val (.int p0), .val (.int p1), .val (.int p2), .val (.int p3), .val (.long p4), .second, .val (.int (2 : Int32)), .val (.ref b55), .val (.int (2 : Int32)), .val (.long q9), .second, .val (.ref br68)] []))
    refine own_pre (fun t k => XS.aload X68.here hx rfl (hb hby at_132) rfl rfl k) ?_
    show own_Ends _ _ _ _ (T68.setTop (mkF m 134 #[.val (.int p0), .val (.int p1), .val (.int p2), .val (.int p3), .val (.long p4), .second, .val (.int (2 : Int32)), .val (.ref b55), .val (.int (2 : Int32)), .val (.long q9), .second, .val (.ref br68)] [(.ref br68)]))
    refine own_pre (fun t k => XS.aload X68.here hx rfl (hb hby at_134) rfl rfl k) ?_
    show own_Ends _ _ _ _ (T68.setTop (mkF m 136 #[.val (.int p0), .val (.int p1), .val (.int p2), .val (.int p3), .val (.long p4), .second, .val (.int (2 : Int32)), .val (.ref b55), .val (.int (2 : Int32)), .val (.long q9), .second, .val (.ref br68)] [(.ref b55), (.ref br68)]))
    refine own_pre (fun t k => Jvm.RoadKit.acmp (g := (mkF m 136 #[.val (.int p0), .val (.int p1), .val (.int p2), .val (.int p3), .val (.long p4), .second, .val (.int (2 : Int32)), .val (.ref b55), .val (.int (2 : Int32)), .val (.long q9), .second, .val (.ref br68)] [(.ref b55), (.ref br68)])) X68 hx rfl rfl rfl (pc0 := 136) (pc' := 141) (same := false) rfl (hb hby at_136) rfl (decide_eq_false fun q => (Ne.symm ne69) (Value.ref.inj q)) (by decide) (by decide) k) ?_
    show own_Ends _ _ _ _ (T68.setTop (mkF m 141 #[.val (.int p0), .val (.int p1), .val (.int p2), .val (.int p3), .val (.long p4), .second, .val (.int (2 : Int32)), .val (.ref b55), .val (.int (2 : Int32)), .val (.long q9), .second, .val (.ref br68)] []))
    refine own_pre (fun t k => XS.aload X68.here hx rfl (hb hby at_141) rfl rfl k) ?_
    show own_Ends _ _ _ _ (T68.setTop (mkF m 143 #[.val (.int p0), .val (.int p1), .val (.int p2), .val (.int p3), .val (.long p4), .second, .val (.int (2 : Int32)), .val (.ref b55), .val (.int (2 : Int32)), .val (.long q9), .second, .val (.ref br68)] [(.ref br68)]))
    obtain ⟨cl71, Ar71, -, S71, M71, -, -⟩ := id (va68)
    refine own_pre (fun t k => own_len X68 hx rfl hZ Ar71 S71 M71 (g := (mkF m 143 #[.val (.int p0), .val (.int p1), .val (.int p2), .val (.int p3), .val (.long p4), .second, .val (.int (2 : Int32)), .val (.ref b55), .val (.int (2 : Int32)), .val (.long q9), .second, .val (.ref br68)] [(.ref br68)])) rfl rfl (hb hby at_143) k) ?_
    show own_Ends _ _ _ _ (T68.setTop (mkF m 144 #[.val (.int p0), .val (.int p1), .val (.int p2), .val (.int p3), .val (.long p4), .second, .val (.int (2 : Int32)), .val (.ref b55), .val (.int (2 : Int32)), .val (.long q9), .second, .val (.ref br68)] [(.int (3 : Int32))]))
    refine own_pre (fun t k => XS.iload X68.here hx rfl (hb hby at_144) rfl k) ?_
    show own_Ends _ _ _ _ (T68.setTop (mkF m 146 #[.val (.int p0), .val (.int p1), .val (.int p2), .val (.int p3), .val (.long p4), .second, .val (.int (2 : Int32)), .val (.ref b55), .val (.int (2 : Int32)), .val (.long q9), .second, .val (.ref br68)] [(.int (2 : Int32)), (.int (3 : Int32))]))
    refine own_pre (fun t k => XS.iconst X68.here hx rfl (hb hby at_146) k) ?_
    show own_Ends _ _ _ _ (T68.setTop (mkF m 147 #[.val (.int p0), .val (.int p1), .val (.int p2), .val (.int p3), .val (.long p4), .second, .val (.int (2 : Int32)), .val (.ref b55), .val (.int (2 : Int32)), .val (.long q9), .second, .val (.ref br68)] [(.int (1 : Int32)), (.int (2 : Int32)), (.int (3 : Int32))]))
    refine own_pre (fun t k => XS.iadd X68.here hx rfl (hb hby at_147) rfl k) ?_
    show own_Ends _ _ _ _ (T68.setTop (mkF m 148 #[.val (.int p0), .val (.int p1), .val (.int p2), .val (.int p3), .val (.long p4), .second, .val (.int (2 : Int32)), .val (.ref b55), .val (.int (2 : Int32)), .val (.long q9), .second, .val (.ref br68)] [(.int (3 : Int32)), (.int (3 : Int32))]))
    refine own_pre (fun t k => XS.icmpYes X68.here hx rfl (pc0 := 148) (pc' := 153) rfl (hb hby at_148) rfl (teq ((by decide) : (3 : Int32) = (3 : Int32))).1 (by decide) (by decide) k) ?_
    show own_Ends _ _ _ _ (T68.setTop (mkF m 153 #[.val (.int p0), .val (.int p1), .val (.int p2), .val (.int p3), .val (.long p4), .second, .val (.int (2 : Int32)), .val (.ref b55), .val (.int (2 : Int32)), .val (.long q9), .second, .val (.ref br68)] []))
    refine own_pre (fun t k => XS.aload X68.here hx rfl (hb hby at_153) rfl rfl k) ?_
    show own_Ends _ _ _ _ (T68.setTop (mkF m 155 #[.val (.int p0), .val (.int p1), .val (.int p2), .val (.int p3), .val (.long p4), .second, .val (.int (2 : Int32)), .val (.ref b55), .val (.int (2 : Int32)), .val (.long q9), .second, .val (.ref br68)] [(.ref br68)]))
    refine own_pre (fun t k => XS.iload X68.here hx rfl (hb hby at_155) rfl k) ?_
    show own_Ends _ _ _ _ (T68.setTop (mkF m 157 #[.val (.int p0), .val (.int p1), .val (.int p2), .val (.int p3), .val (.long p4), .second, .val (.int (2 : Int32)), .val (.ref b55), .val (.int (2 : Int32)), .val (.long q9), .second, .val (.ref br68)] [(.int (2 : Int32)), (.ref br68)]))
    obtain ⟨cl72, Ar72, q72, S72, M72, H72, G72⟩ := id (va68)
    have hin72 : ¬ ((2 : Int32) < 0 ∨ cl72.slots.size ≤ ((2 : Int32)).toNatClampNeg) := inb_of S72 ⟨by decide, by decide⟩
    have hat72 : cl72.slots[((2 : Int32)).toNatClampNeg]? = some (.int (q9.toInt32)) := H72.at hin72 rfl
    refine own_pre (fun t k => X68.iaload hx (j := (2 : Int32)) (v := (.int (q9.toInt32))) Ar72.1 (State.isArrayOf_alike hZ.alike Ar72.2.1) Ar72.2.2 hin72 hat72 (g := (mkF m 157 #[.val (.int p0), .val (.int p1), .val (.int p2), .val (.int p3), .val (.long p4), .second, .val (.int (2 : Int32)), .val (.ref b55), .val (.int (2 : Int32)), .val (.long q9), .second, .val (.ref br68)] [(.int (2 : Int32)), (.ref br68)])) rfl rfl (hb hby at_157) _ k) ?_
    show own_Ends _ _ _ _ (T68.setTop (mkF m 158 #[.val (.int p0), .val (.int p1), .val (.int p2), .val (.int p3), .val (.long p4), .second, .val (.int (2 : Int32)), .val (.ref b55), .val (.int (2 : Int32)), .val (.long q9), .second, .val (.ref br68)] [(.int (q9.toInt32))]))
    refine own_pre (fun t k => XS.i2l X68.here hx rfl (hb hby at_158) rfl k) ?_
    show own_Ends _ _ _ _ (T68.setTop (mkF m 159 #[.val (.int p0), .val (.int p1), .val (.int p2), .val (.int p3), .val (.long p4), .second, .val (.int (2 : Int32)), .val (.ref b55), .val (.int (2 : Int32)), .val (.long q9), .second, .val (.ref br68)] [(.long ((q9.toInt32).toInt64))]))
    refine own_pre (fun t k => X68.ldc2Long hx hown (mvT hZ (hw _ (List.mem_of_getElem? (i := 2) rfl))) (g := (mkF m 159 #[.val (.int p0), .val (.int p1), .val (.int p2), .val (.int p3), .val (.long p4), .second, .val (.int (2 : Int32)), .val (.ref b55), .val (.int (2 : Int32)), .val (.long q9), .second, .val (.ref br68)] [(.long ((q9.toInt32).toInt64))])) rfl (hb hby at_159) _ k) ?_
    show own_Ends _ _ _ _ (T68.setTop (mkF m 162 #[.val (.int p0), .val (.int p1), .val (.int p2), .val (.int p3), .val (.long p4), .second, .val (.int (2 : Int32)), .val (.ref b55), .val (.int (2 : Int32)), .val (.long q9), .second, .val (.ref br68)] [(.long (4294967295 : Int64)), (.long ((q9.toInt32).toInt64))]))
    refine own_pre (fun t k => XS.land X68.here hx rfl (hb hby at_162) rfl k) ?_
    show own_Ends _ _ _ _ (T68.setTop (mkF m 163 #[.val (.int p0), .val (.int p1), .val (.int p2), .val (.int p3), .val (.long p4), .second, .val (.int (2 : Int32)), .val (.ref b55), .val (.int (2 : Int32)), .val (.long q9), .second, .val (.ref br68)] [(.long (((q9.toInt32).toInt64) &&& (4294967295 : Int64)))]))
    refine own_pre (fun t k => XS.lload X68.here hx rfl (hb hby at_163) rfl k) ?_
    show own_Ends _ _ _ _ (T68.setTop (mkF m 165 #[.val (.int p0), .val (.int p1), .val (.int p2), .val (.int p3), .val (.long p4), .second, .val (.int (2 : Int32)), .val (.ref b55), .val (.int (2 : Int32)), .val (.long q9), .second, .val (.ref br68)] [(.long q9), (.long (((q9.toInt32).toInt64) &&& (4294967295 : Int64)))]))
    refine own_pre (fun t k => XS.lcmp X68.here hx rfl (hb hby at_165) rfl k) ?_
    show own_Ends _ _ _ _ (T68.setTop (mkF m 166 #[.val (.int p0), .val (.int p1), .val (.int p2), .val (.int p3), .val (.long p4), .second, .val (.int (2 : Int32)), .val (.ref b55), .val (.int (2 : Int32)), .val (.long q9), .second, .val (.ref br68)] [(.int (own_cmpL (((q9.toInt32).toInt64) &&& (4294967295 : Int64)) q9))]))
    refine own_pre (fun t k => XS.ifYes X68.here hx rfl (pc0 := 166) (pc' := 171) rfl (hb hby at_166) rfl ((if0 _ _).trans (teq (hq9 ▸ own_low p4 : (own_cmpL (((q9.toInt32).toInt64) &&& (4294967295 : Int64)) q9) = (0 : Int32))).1) (by decide) (by decide) k) ?_
    show own_Ends _ _ _ _ (T68.setTop (mkF m 171 #[.val (.int p0), .val (.int p1), .val (.int p2), .val (.int p3), .val (.long p4), .second, .val (.int (2 : Int32)), .val (.ref b55), .val (.int (2 : Int32)), .val (.long q9), .second, .val (.ref br68)] []))
    refine own_pre (fun t k => XS.aload X68.here hx rfl (hb hby at_171) rfl rfl k) ?_
    show own_Ends _ _ _ _ (T68.setTop (mkF m 173 #[.val (.int p0), .val (.int p1), .val (.int p2), .val (.int p3), .val (.long p4), .second, .val (.int (2 : Int32)), .val (.ref b55), .val (.int (2 : Int32)), .val (.long q9), .second, .val (.ref br68)] [(.ref b55)]))
    obtain ⟨cl73, Ar73, -, S73, M73, -, -⟩ := id (f70)
    refine own_pre (fun t k => own_len X68 hx rfl hZ Ar73 S73 M73 (g := (mkF m 173 #[.val (.int p0), .val (.int p1), .val (.int p2), .val (.int p3), .val (.long p4), .second, .val (.int (2 : Int32)), .val (.ref b55), .val (.int (2 : Int32)), .val (.long q9), .second, .val (.ref br68)] [(.ref b55)])) rfl rfl (hb hby at_173) k) ?_
    show own_Ends _ _ _ _ (T68.setTop (mkF m 174 #[.val (.int p0), .val (.int p1), .val (.int p2), .val (.int p3), .val (.long p4), .second, .val (.int (2 : Int32)), .val (.ref b55), .val (.int (2 : Int32)), .val (.long q9), .second, .val (.ref br68)] [(.int (2 : Int32))]))
    refine own_pre (fun t k => XS.iload X68.here hx rfl (hb hby at_174) rfl k) ?_
    show own_Ends _ _ _ _ (T68.setTop (mkF m 176 #[.val (.int p0), .val (.int p1), .val (.int p2), .val (.int p3), .val (.long p4), .second, .val (.int (2 : Int32)), .val (.ref b55), .val (.int (2 : Int32)), .val (.long q9), .second, .val (.ref br68)] [(.int (2 : Int32)), (.int (2 : Int32))]))
    refine own_pre (fun t k => XS.icmpYes X68.here hx rfl (pc0 := 176) (pc' := 181) rfl (hb hby at_176) rfl (teq ((by decide) : (2 : Int32) = (2 : Int32))).1 (by decide) (by decide) k) ?_
    show own_Ends _ _ _ _ (T68.setTop (mkF m 181 #[.val (.int p0), .val (.int p1), .val (.int p2), .val (.int p3), .val (.long p4), .second, .val (.int (2 : Int32)), .val (.ref b55), .val (.int (2 : Int32)), .val (.long q9), .second, .val (.ref br68)] []))
    refine own_pre (fun t k => XS.iload X68.here hx rfl (hb hby at_181) rfl k) ?_
    show own_Ends _ _ _ _ (T68.setTop (mkF m 183 #[.val (.int p0), .val (.int p1), .val (.int p2), .val (.int p3), .val (.long p4), .second, .val (.int (2 : Int32)), .val (.ref b55), .val (.int (2 : Int32)), .val (.long q9), .second, .val (.ref br68)] [(.int (2 : Int32))]))
    refine own_pre (fun t k => XS.iconst X68.here hx rfl (hb hby at_183) k) ?_
    show own_Ends _ _ _ _ (T68.setTop (mkF m 184 #[.val (.int p0), .val (.int p1), .val (.int p2), .val (.int p3), .val (.long p4), .second, .val (.int (2 : Int32)), .val (.ref b55), .val (.int (2 : Int32)), .val (.long q9), .second, .val (.ref br68)] [(.int (1 : Int32)), (.int (2 : Int32))]))
    refine own_pre (fun t k => XS.icmpNo X68.here hx rfl (hb hby at_184) rfl (flt ((by decide) : ¬ ((2 : Int32) < (1 : Int32)))).1 k) ?_
    show own_Ends _ _ _ _ (T68.setTop (mkF m 187 #[.val (.int p0), .val (.int p1), .val (.int p2), .val (.int p3), .val (.long p4), .second, .val (.int (2 : Int32)), .val (.ref b55), .val (.int (2 : Int32)), .val (.long q9), .second, .val (.ref br68)] []))
    refine own_pre (fun t k => XS.aload X68.here hx rfl (hb hby at_187) rfl rfl k) ?_
    show own_Ends _ _ _ _ (T68.setTop (mkF m 189 #[.val (.int p0), .val (.int p1), .val (.int p2), .val (.int p3), .val (.long p4), .second, .val (.int (2 : Int32)), .val (.ref b55), .val (.int (2 : Int32)), .val (.long q9), .second, .val (.ref br68)] [(.ref br68)]))
    refine own_pre (fun t k => XS.iconst X68.here hx rfl (hb hby at_189) k) ?_
    show own_Ends _ _ _ _ (T68.setTop (mkF m 190 #[.val (.int p0), .val (.int p1), .val (.int p2), .val (.int p3), .val (.long p4), .second, .val (.int (2 : Int32)), .val (.ref b55), .val (.int (2 : Int32)), .val (.long q9), .second, .val (.ref br68)] [(.int (0 : Int32)), (.ref br68)]))
    obtain ⟨cl74, Ar74, q74, S74, M74, H74, G74⟩ := id (va68)
    have hin74 : ¬ ((0 : Int32) < 0 ∨ cl74.slots.size ≤ ((0 : Int32)).toNatClampNeg) := inb_of S74 ⟨by decide, by decide⟩
    have hat74 : cl74.slots[((0 : Int32)).toNatClampNeg]? = some (.int p1) := H74.at hin74 rfl
    refine own_pre (fun t k => X68.iaload hx (j := (0 : Int32)) (v := (.int p1)) Ar74.1 (State.isArrayOf_alike hZ.alike Ar74.2.1) Ar74.2.2 hin74 hat74 (g := (mkF m 190 #[.val (.int p0), .val (.int p1), .val (.int p2), .val (.int p3), .val (.long p4), .second, .val (.int (2 : Int32)), .val (.ref b55), .val (.int (2 : Int32)), .val (.long q9), .second, .val (.ref br68)] [(.int (0 : Int32)), (.ref br68)])) rfl rfl (hb hby at_190) _ k) ?_
    show own_Ends _ _ _ _ (T68.setTop (mkF m 191 #[.val (.int p0), .val (.int p1), .val (.int p2), .val (.int p3), .val (.long p4), .second, .val (.int (2 : Int32)), .val (.ref b55), .val (.int (2 : Int32)), .val (.long q9), .second, .val (.ref br68)] [(.int p1)]))
    refine own_pre (fun t k => XS.iloadN X68.here hx rfl (hb hby at_191) rfl k) ?_
    show own_Ends _ _ _ _ (T68.setTop (mkF m 192 #[.val (.int p0), .val (.int p1), .val (.int p2), .val (.int p3), .val (.long p4), .second, .val (.int (2 : Int32)), .val (.ref b55), .val (.int (2 : Int32)), .val (.long q9), .second, .val (.ref br68)] [(.int p1), (.int p1)]))
    refine own_pre (fun t k => XS.icmpNo X68.here hx rfl (hb hby at_192) rfl (teq (rfl : p1 = p1)).2 k) ?_
    show own_Ends _ _ _ _ (T68.setTop (mkF m 195 #[.val (.int p0), .val (.int p1), .val (.int p2), .val (.int p3), .val (.long p4), .second, .val (.int (2 : Int32)), .val (.ref b55), .val (.int (2 : Int32)), .val (.long q9), .second, .val (.ref br68)] []))
    refine own_pre (fun t k => XS.aload X68.here hx rfl (hb hby at_195) rfl rfl k) ?_
    show own_Ends _ _ _ _ (T68.setTop (mkF m 197 #[.val (.int p0), .val (.int p1), .val (.int p2), .val (.int p3), .val (.long p4), .second, .val (.int (2 : Int32)), .val (.ref b55), .val (.int (2 : Int32)), .val (.long q9), .second, .val (.ref br68)] [(.ref b55)]))
    refine own_pre (fun t k => XS.iconst X68.here hx rfl (hb hby at_197) k) ?_
    show own_Ends _ _ _ _ (T68.setTop (mkF m 198 #[.val (.int p0), .val (.int p1), .val (.int p2), .val (.int p3), .val (.long p4), .second, .val (.int (2 : Int32)), .val (.ref b55), .val (.int (2 : Int32)), .val (.long q9), .second, .val (.ref br68)] [(.int (0 : Int32)), (.ref b55)]))
    obtain ⟨cl75, Ar75, q75, S75, M75, H75, G75⟩ := id (f70)
    have hin75 : ¬ ((0 : Int32) < 0 ∨ cl75.slots.size ≤ ((0 : Int32)).toNatClampNeg) := inb_of S75 ⟨by decide, by decide⟩
    have hat75 : cl75.slots[((0 : Int32)).toNatClampNeg]? = some (.int p1) := H75.at hin75 rfl
    refine own_pre (fun t k => X68.iaload hx (j := (0 : Int32)) (v := (.int p1)) Ar75.1 (State.isArrayOf_alike hZ.alike Ar75.2.1) Ar75.2.2 hin75 hat75 (g := (mkF m 198 #[.val (.int p0), .val (.int p1), .val (.int p2), .val (.int p3), .val (.long p4), .second, .val (.int (2 : Int32)), .val (.ref b55), .val (.int (2 : Int32)), .val (.long q9), .second, .val (.ref br68)] [(.int (0 : Int32)), (.ref b55)])) rfl rfl (hb hby at_198) _ k) ?_
    show own_Ends _ _ _ _ (T68.setTop (mkF m 199 #[.val (.int p0), .val (.int p1), .val (.int p2), .val (.int p3), .val (.long p4), .second, .val (.int (2 : Int32)), .val (.ref b55), .val (.int (2 : Int32)), .val (.long q9), .second, .val (.ref br68)] [(.int p1)]))
    refine own_pre (fun t k => XS.iloadN X68.here hx rfl (hb hby at_199) rfl k) ?_
    show own_Ends _ _ _ _ (T68.setTop (mkF m 200 #[.val (.int p0), .val (.int p1), .val (.int p2), .val (.int p3), .val (.long p4), .second, .val (.int (2 : Int32)), .val (.ref b55), .val (.int (2 : Int32)), .val (.long q9), .second, .val (.ref br68)] [(.int p1), (.int p1)]))
    refine own_pre (fun t k => XS.icmpYes X68.here hx rfl (pc0 := 200) (pc' := 205) rfl (hb hby at_200) rfl (teq (rfl : p1 = p1)).1 (by decide) (by decide) k) ?_
    show own_Ends _ _ _ _ (T68.setTop (mkF m 205 #[.val (.int p0), .val (.int p1), .val (.int p2), .val (.int p3), .val (.long p4), .second, .val (.int (2 : Int32)), .val (.ref b55), .val (.int (2 : Int32)), .val (.long q9), .second, .val (.ref br68)] []))
    refine own_pre (fun t k => XS.iload X68.here hx rfl (hb hby at_205) rfl k) ?_
    show own_Ends _ _ _ _ (T68.setTop (mkF m 207 #[.val (.int p0), .val (.int p1), .val (.int p2), .val (.int p3), .val (.long p4), .second, .val (.int (2 : Int32)), .val (.ref b55), .val (.int (2 : Int32)), .val (.long q9), .second, .val (.ref br68)] [(.int (2 : Int32))]))
    refine own_pre (fun t k => XS.iconst X68.here hx rfl (hb hby at_207) k) ?_
    show own_Ends _ _ _ _ (T68.setTop (mkF m 208 #[.val (.int p0), .val (.int p1), .val (.int p2), .val (.int p3), .val (.long p4), .second, .val (.int (2 : Int32)), .val (.ref b55), .val (.int (2 : Int32)), .val (.long q9), .second, .val (.ref br68)] [(.int (2 : Int32)), (.int (2 : Int32))]))
    refine own_pre (fun t k => XS.icmpYes X68.here hx rfl (pc0 := 208) (pc' := 217) rfl (hb hby at_208) rfl (teq ((by decide) : (2 : Int32) = (2 : Int32))).1 (by decide) (by decide) k) ?_
    show own_Ends _ _ _ _ (T68.setTop (mkF m 217 #[.val (.int p0), .val (.int p1), .val (.int p2), .val (.int p3), .val (.long p4), .second, .val (.int (2 : Int32)), .val (.ref b55), .val (.int (2 : Int32)), .val (.long q9), .second, .val (.ref br68)] []))
    refine own_pre (fun t k => XS.aload X68.here hx rfl (hb hby at_217) rfl rfl k) ?_
    show own_Ends _ _ _ _ (T68.setTop (mkF m 219 #[.val (.int p0), .val (.int p1), .val (.int p2), .val (.int p3), .val (.long p4), .second, .val (.int (2 : Int32)), .val (.ref b55), .val (.int (2 : Int32)), .val (.long q9), .second, .val (.ref br68)] [(.ref br68)]))
    refine own_pre (fun t k => XS.iconst X68.here hx rfl (hb hby at_219) k) ?_
    show own_Ends _ _ _ _ (T68.setTop (mkF m 220 #[.val (.int p0), .val (.int p1), .val (.int p2), .val (.int p3), .val (.long p4), .second, .val (.int (2 : Int32)), .val (.ref b55), .val (.int (2 : Int32)), .val (.long q9), .second, .val (.ref br68)] [(.int (1 : Int32)), (.ref br68)]))
    obtain ⟨cl76, Ar76, q76, S76, M76, H76, G76⟩ := id (va68)
    have hin76 : ¬ ((1 : Int32) < 0 ∨ cl76.slots.size ≤ ((1 : Int32)).toNatClampNeg) := inb_of S76 ⟨by decide, by decide⟩
    have hat76 : cl76.slots[((1 : Int32)).toNatClampNeg]? = some (.int p2) := H76.at hin76 rfl
    refine own_pre (fun t k => X68.iaload hx (j := (1 : Int32)) (v := (.int p2)) Ar76.1 (State.isArrayOf_alike hZ.alike Ar76.2.1) Ar76.2.2 hin76 hat76 (g := (mkF m 220 #[.val (.int p0), .val (.int p1), .val (.int p2), .val (.int p3), .val (.long p4), .second, .val (.int (2 : Int32)), .val (.ref b55), .val (.int (2 : Int32)), .val (.long q9), .second, .val (.ref br68)] [(.int (1 : Int32)), (.ref br68)])) rfl rfl (hb hby at_220) _ k) ?_
    show own_Ends _ _ _ _ (T68.setTop (mkF m 221 #[.val (.int p0), .val (.int p1), .val (.int p2), .val (.int p3), .val (.long p4), .second, .val (.int (2 : Int32)), .val (.ref b55), .val (.int (2 : Int32)), .val (.long q9), .second, .val (.ref br68)] [(.int p2)]))
    refine own_pre (fun t k => XS.iloadN X68.here hx rfl (hb hby at_221) rfl k) ?_
    show own_Ends _ _ _ _ (T68.setTop (mkF m 222 #[.val (.int p0), .val (.int p1), .val (.int p2), .val (.int p3), .val (.long p4), .second, .val (.int (2 : Int32)), .val (.ref b55), .val (.int (2 : Int32)), .val (.long q9), .second, .val (.ref br68)] [(.int p2), (.int p2)]))
    refine own_pre (fun t k => XS.icmpNo X68.here hx rfl (hb hby at_222) rfl (teq (rfl : p2 = p2)).2 k) ?_
    show own_Ends _ _ _ _ (T68.setTop (mkF m 225 #[.val (.int p0), .val (.int p1), .val (.int p2), .val (.int p3), .val (.long p4), .second, .val (.int (2 : Int32)), .val (.ref b55), .val (.int (2 : Int32)), .val (.long q9), .second, .val (.ref br68)] []))
    refine own_pre (fun t k => XS.aload X68.here hx rfl (hb hby at_225) rfl rfl k) ?_
    show own_Ends _ _ _ _ (T68.setTop (mkF m 227 #[.val (.int p0), .val (.int p1), .val (.int p2), .val (.int p3), .val (.long p4), .second, .val (.int (2 : Int32)), .val (.ref b55), .val (.int (2 : Int32)), .val (.long q9), .second, .val (.ref br68)] [(.ref b55)]))
    refine own_pre (fun t k => XS.iconst X68.here hx rfl (hb hby at_227) k) ?_
    show own_Ends _ _ _ _ (T68.setTop (mkF m 228 #[.val (.int p0), .val (.int p1), .val (.int p2), .val (.int p3), .val (.long p4), .second, .val (.int (2 : Int32)), .val (.ref b55), .val (.int (2 : Int32)), .val (.long q9), .second, .val (.ref br68)] [(.int (1 : Int32)), (.ref b55)]))
    obtain ⟨cl77, Ar77, q77, S77, M77, H77, G77⟩ := id (f70)
    have hin77 : ¬ ((1 : Int32) < 0 ∨ cl77.slots.size ≤ ((1 : Int32)).toNatClampNeg) := inb_of S77 ⟨by decide, by decide⟩
    have hat77 : cl77.slots[((1 : Int32)).toNatClampNeg]? = some (.int p2) := H77.at hin77 rfl
    refine own_pre (fun t k => X68.iaload hx (j := (1 : Int32)) (v := (.int p2)) Ar77.1 (State.isArrayOf_alike hZ.alike Ar77.2.1) Ar77.2.2 hin77 hat77 (g := (mkF m 228 #[.val (.int p0), .val (.int p1), .val (.int p2), .val (.int p3), .val (.long p4), .second, .val (.int (2 : Int32)), .val (.ref b55), .val (.int (2 : Int32)), .val (.long q9), .second, .val (.ref br68)] [(.int (1 : Int32)), (.ref b55)])) rfl rfl (hb hby at_228) _ k) ?_
    show own_Ends _ _ _ _ (T68.setTop (mkF m 229 #[.val (.int p0), .val (.int p1), .val (.int p2), .val (.int p3), .val (.long p4), .second, .val (.int (2 : Int32)), .val (.ref b55), .val (.int (2 : Int32)), .val (.long q9), .second, .val (.ref br68)] [(.int p2)]))
    refine own_pre (fun t k => XS.iloadN X68.here hx rfl (hb hby at_229) rfl k) ?_
    show own_Ends _ _ _ _ (T68.setTop (mkF m 230 #[.val (.int p0), .val (.int p1), .val (.int p2), .val (.int p3), .val (.long p4), .second, .val (.int (2 : Int32)), .val (.ref b55), .val (.int (2 : Int32)), .val (.long q9), .second, .val (.ref br68)] [(.int p2), (.int p2)]))
    refine own_pre (fun t k => XS.icmpYes X68.here hx rfl (pc0 := 230) (pc' := 235) rfl (hb hby at_230) rfl (teq (rfl : p2 = p2)).1 (by decide) (by decide) k) ?_
    show own_Ends _ _ _ _ (T68.setTop (mkF m 235 #[.val (.int p0), .val (.int p1), .val (.int p2), .val (.int p3), .val (.long p4), .second, .val (.int (2 : Int32)), .val (.ref b55), .val (.int (2 : Int32)), .val (.long q9), .second, .val (.ref br68)] []))
    refine own_pre (fun t k => XS.iload X68.here hx rfl (hb hby at_235) rfl k) ?_
    show own_Ends _ _ _ _ (T68.setTop (mkF m 237 #[.val (.int p0), .val (.int p1), .val (.int p2), .val (.int p3), .val (.long p4), .second, .val (.int (2 : Int32)), .val (.ref b55), .val (.int (2 : Int32)), .val (.long q9), .second, .val (.ref br68)] [(.int (2 : Int32))]))
    refine own_pre (fun t k => XS.iconst X68.here hx rfl (hb hby at_237) k) ?_
    show own_Ends _ _ _ _ (T68.setTop (mkF m 238 #[.val (.int p0), .val (.int p1), .val (.int p2), .val (.int p3), .val (.long p4), .second, .val (.int (2 : Int32)), .val (.ref b55), .val (.int (2 : Int32)), .val (.long q9), .second, .val (.ref br68)] [(.int (3 : Int32)), (.int (2 : Int32))]))
    refine own_pre (fun t k => XS.icmpYes X68.here hx rfl (pc0 := 238) (pc' := 259) rfl (hb hby at_238) rfl (feq ((by decide) : ¬ ((2 : Int32) = (3 : Int32)))).2 (by decide) (by decide) k) ?_
    show own_Ends _ _ _ _ (T68.setTop (mkF m 259 #[.val (.int p0), .val (.int p1), .val (.int p2), .val (.int p3), .val (.long p4), .second, .val (.int (2 : Int32)), .val (.ref b55), .val (.int (2 : Int32)), .val (.long q9), .second, .val (.ref br68)] []))
    refine own_pre (fun t k => XS.iload X68.here hx rfl (hb hby at_259) rfl k) ?_
    show own_Ends _ _ _ _ (T68.setTop (mkF m 261 #[.val (.int p0), .val (.int p1), .val (.int p2), .val (.int p3), .val (.long p4), .second, .val (.int (2 : Int32)), .val (.ref b55), .val (.int (2 : Int32)), .val (.long q9), .second, .val (.ref br68)] [(.int (2 : Int32))]))
    refine own_pre (fun t k => XS.bipush X68.here hx rfl (hb hby at_261) k) ?_
    show own_Ends _ _ _ _ (T68.setTop (mkF m 263 #[.val (.int p0), .val (.int p1), .val (.int p2), .val (.int p3), .val (.long p4), .second, .val (.int (2 : Int32)), .val (.ref b55), .val (.int (2 : Int32)), .val (.long q9), .second, .val (.ref br68)] [(.int (14 : Int32)), (.int (2 : Int32))]))
    refine own_pre (fun t k => XS.icmpYes X68.here hx rfl (pc0 := 263) (pc' := 323) rfl (hb hby at_263) rfl (feq ((by decide) : ¬ ((2 : Int32) = (14 : Int32)))).2 (by decide) (by decide) k) ?_
    show own_Ends _ _ _ _ (T68.setTop (mkF m 323 #[.val (.int p0), .val (.int p1), .val (.int p2), .val (.int p3), .val (.long p4), .second, .val (.int (2 : Int32)), .val (.ref b55), .val (.int (2 : Int32)), .val (.long q9), .second, .val (.ref br68)] []))
    refine own_pre (fun t k => XS.iconst X68.here hx rfl (hb hby at_323) k) ?_
    show own_Ends _ _ _ _ (T68.setTop (mkF m 324 #[.val (.int p0), .val (.int p1), .val (.int p2), .val (.int p3), .val (.long p4), .second, .val (.int (2 : Int32)), .val (.ref b55), .val (.int (2 : Int32)), .val (.long q9), .second, .val (.ref br68)] [(.int (1 : Int32))]))
    exact own_retN X68 hx (t := .boolean) Bd.returns (by simp) (hb hby at_324) hlk rfl rfl ⟨rfl, N68⟩ (by decide) (by decide)
  · subst hs26
    show own_Ends _ _ _ _ (s₁.setTop (mkF m 8 #[.val (.int p0), .val (.int p1), .val (.int p2), .val (.int p3), .val (.long p4), .second, .val (.int (3 : Int32)), .unset, .unset, .unset, .unset, .unset] []))
    refine own_pre (fun t k => XS.iload X0.here hx rfl (hb hby at_8) rfl k) ?_
    show own_Ends _ _ _ _ (s₁.setTop (mkF m 10 #[.val (.int p0), .val (.int p1), .val (.int p2), .val (.int p3), .val (.long p4), .second, .val (.int (3 : Int32)), .unset, .unset, .unset, .unset, .unset] [(.int (3 : Int32))]))
    refine own_pre (fun t k => XS.ifYes X0.here hx rfl (pc0 := 10) (pc' := 21) rfl (hb hby at_10) rfl ((if0 _ _).trans (feq ((by decide) : ¬ ((3 : Int32) = (0 : Int32)))).2) (by decide) (by decide) k) ?_
    show own_Ends _ _ _ _ (s₁.setTop (mkF m 21 #[.val (.int p0), .val (.int p1), .val (.int p2), .val (.int p3), .val (.long p4), .second, .val (.int (3 : Int32)), .unset, .unset, .unset, .unset, .unset] []))
    refine own_pre (fun t k => XS.iload X0.here hx rfl (hb hby at_21) rfl k) ?_
    show own_Ends _ _ _ _ (s₁.setTop (mkF m 23 #[.val (.int p0), .val (.int p1), .val (.int p2), .val (.int p3), .val (.long p4), .second, .val (.int (3 : Int32)), .unset, .unset, .unset, .unset, .unset] [(.int (3 : Int32))]))
    refine own_pre (fun t k => XS.iconst X0.here hx rfl (hb hby at_23) k) ?_
    show own_Ends _ _ _ _ (s₁.setTop (mkF m 24 #[.val (.int p0), .val (.int p1), .val (.int p2), .val (.int p3), .val (.long p4), .second, .val (.int (3 : Int32)), .unset, .unset, .unset, .unset, .unset] [(.int (1 : Int32)), (.int (3 : Int32))]))
    refine own_pre (fun t k => XS.icmpYes X0.here hx rfl (pc0 := 24) (pc' := 39) rfl (hb hby at_24) rfl (feq ((by decide) : ¬ ((3 : Int32) = (1 : Int32)))).2 (by decide) (by decide) k) ?_
    show own_Ends _ _ _ _ (s₁.setTop (mkF m 39 #[.val (.int p0), .val (.int p1), .val (.int p2), .val (.int p3), .val (.long p4), .second, .val (.int (3 : Int32)), .unset, .unset, .unset, .unset, .unset] []))
    refine own_pre (fun t k => XS.iload X0.here hx rfl (hb hby at_39) rfl k) ?_
    show own_Ends _ _ _ _ (s₁.setTop (mkF m 41 #[.val (.int p0), .val (.int p1), .val (.int p2), .val (.int p3), .val (.long p4), .second, .val (.int (3 : Int32)), .unset, .unset, .unset, .unset, .unset] [(.int (3 : Int32))]))
    refine own_pre (fun t k => XS.iconst X0.here hx rfl (hb hby at_41) k) ?_
    show own_Ends _ _ _ _ (s₁.setTop (mkF m 42 #[.val (.int p0), .val (.int p1), .val (.int p2), .val (.int p3), .val (.long p4), .second, .val (.int (3 : Int32)), .unset, .unset, .unset, .unset, .unset] [(.int (2 : Int32)), (.int (3 : Int32))]))
    refine own_pre (fun t k => XS.icmpYes X0.here hx rfl (pc0 := 42) (pc' := 61) rfl (hb hby at_42) rfl (feq ((by decide) : ¬ ((3 : Int32) = (2 : Int32)))).2 (by decide) (by decide) k) ?_
    show own_Ends _ _ _ _ (s₁.setTop (mkF m 61 #[.val (.int p0), .val (.int p1), .val (.int p2), .val (.int p3), .val (.long p4), .second, .val (.int (3 : Int32)), .unset, .unset, .unset, .unset, .unset] []))
    refine own_pre (fun t k => XS.iload X0.here hx rfl (hb hby at_61) rfl k) ?_
    show own_Ends _ _ _ _ (s₁.setTop (mkF m 63 #[.val (.int p0), .val (.int p1), .val (.int p2), .val (.int p3), .val (.long p4), .second, .val (.int (3 : Int32)), .unset, .unset, .unset, .unset, .unset] [(.int (3 : Int32))]))
    refine own_pre (fun t k => XS.iconst X0.here hx rfl (hb hby at_63) k) ?_
    show own_Ends _ _ _ _ (s₁.setTop (mkF m 64 #[.val (.int p0), .val (.int p1), .val (.int p2), .val (.int p3), .val (.long p4), .second, .val (.int (3 : Int32)), .unset, .unset, .unset, .unset, .unset] [(.int (3 : Int32)), (.int (3 : Int32))]))
    refine own_pre (fun t k => XS.icmpNo X0.here hx rfl (hb hby at_64) rfl (teq ((by decide) : (3 : Int32) = (3 : Int32))).2 k) ?_
    show own_Ends _ _ _ _ (s₁.setTop (mkF m 67 #[.val (.int p0), .val (.int p1), .val (.int p2), .val (.int p3), .val (.long p4), .second, .val (.int (3 : Int32)), .unset, .unset, .unset, .unset, .unset] []))
    refine own_pre (fun t k => XS.iconst X0.here hx rfl (hb hby at_67) k) ?_
    show own_Ends _ _ _ _ (s₁.setTop (mkF m 68 #[.val (.int p0), .val (.int p1), .val (.int p2), .val (.int p3), .val (.long p4), .second, .val (.int (3 : Int32)), .unset, .unset, .unset, .unset, .unset] [(.int (3 : Int32))]))
    obtain ⟨T78, h78, k78, X78, e78, E78, A78, st78⟩ := newP X0 hx hZ (hw _ (List.mem_of_getElem? (i := 1) rfl)) e0 (g := (mkF m 68 #[.val (.int p0), .val (.int p1), .val (.int p2), .val (.int p3), .val (.long p4), .second, .val (.int (3 : Int32)), .unset, .unset, .unset, .unset, .unset] [(.int (3 : Int32))])) rfl (hb hby at_68) rfl (by decide) (cap := 3) (by decide) (by decide) (by decide) (by decide)
    obtain ⟨b78, g78⟩ : ∃ z, z = h0.size := ⟨_, rfl⟩
    rw [← g78] at A78 st78
    refine own_pre st78 ?_
    have L79 : n0 ≤ b78 := Nat.le_trans Z0 (Nat.le_of_eq g78.symm)
    have Zn80 : n0 ≤ h78.size := Nat.le_trans Z0 E78.1
    have f81 : Arv Z h78 b78 k78 .int (3 : Int32) [(.int (0 : Int32)), (.int (0 : Int32)), (.int (0 : Int32))] (.int (0 : Int32)) := (Arv.new A78 (by decide)).pad (pad_rep [] (.int (0 : Int32)) 3)
    show own_Ends _ _ _ _ (T78.setTop (mkF m 70 #[.val (.int p0), .val (.int p1), .val (.int p2), .val (.int p3), .val (.long p4), .second, .val (.int (3 : Int32)), .unset, .unset, .unset, .unset, .unset] [(.ref b78)]))
    refine own_pre (fun t k => XS.dup X78.here hx rfl (hb hby at_70) rfl rfl k) ?_
    show own_Ends _ _ _ _ (T78.setTop (mkF m 71 #[.val (.int p0), .val (.int p1), .val (.int p2), .val (.int p3), .val (.long p4), .second, .val (.int (3 : Int32)), .unset, .unset, .unset, .unset, .unset] [(.ref b78), (.ref b78)]))
    refine own_pre (fun t k => XS.iconst X78.here hx rfl (hb hby at_71) k) ?_
    show own_Ends _ _ _ _ (T78.setTop (mkF m 72 #[.val (.int p0), .val (.int p1), .val (.int p2), .val (.int p3), .val (.long p4), .second, .val (.int (3 : Int32)), .unset, .unset, .unset, .unset, .unset] [(.int (0 : Int32)), (.ref b78), (.ref b78)]))
    refine own_pre (fun t k => XS.iloadN X78.here hx rfl (hb hby at_72) rfl k) ?_
    show own_Ends _ _ _ _ (T78.setTop (mkF m 73 #[.val (.int p0), .val (.int p1), .val (.int p2), .val (.int p3), .val (.long p4), .second, .val (.int (3 : Int32)), .unset, .unset, .unset, .unset, .unset] [(.int p1), (.int (0 : Int32)), (.ref b78), (.ref b78)]))
    obtain ⟨cl82, Ar82, q82, S82, M82, H82, G82⟩ := id (f81)
    have hin82 : ¬ ((0 : Int32) < 0 ∨ cl82.slots.size ≤ ((0 : Int32)).toNatClampNeg) := inb_of S82 ⟨by decide, by decide⟩
    obtain ⟨T82, h82, X82, e82, W82, st82⟩ := stI X78 hx hZ e78 Ar82 (j := (0 : Int32)) hin82 (g := (mkF m 73 #[.val (.int p0), .val (.int p1), .val (.int p2), .val (.int p3), .val (.long p4), .second, .val (.int (3 : Int32)), .unset, .unset, .unset, .unset, .unset] [(.int p1), (.int (0 : Int32)), (.ref b78), (.ref b78)])) rfl rfl (hb hby at_73)
    refine own_pre st82 ?_
    have f83x := Arv.set Ar82 q82 S82 M82 H82 G82 (show fits .int (.int p1) = true from rfl) W82 0 rfl (Nat.le_of_ble_eq_true rfl)
    have f83 : Arv Z h82 b78 k78 .int (3 : Int32) [(.int p1), (.int (0 : Int32)), (.int (0 : Int32))] (.int (0 : Int32)) := f83x
    have N84 := Fr.snoc X82 N0 L79
    have Zn85 : n0 ≤ h82.size := by rw [W82.size]; exact Zn80
    show own_Ends _ _ _ _ (T82.setTop (mkF m 74 #[.val (.int p0), .val (.int p1), .val (.int p2), .val (.int p3), .val (.long p4), .second, .val (.int (3 : Int32)), .unset, .unset, .unset, .unset, .unset] [(.ref b78)]))
    refine own_pre (fun t k => XS.dup X82.here hx rfl (hb hby at_74) rfl rfl k) ?_
    show own_Ends _ _ _ _ (T82.setTop (mkF m 75 #[.val (.int p0), .val (.int p1), .val (.int p2), .val (.int p3), .val (.long p4), .second, .val (.int (3 : Int32)), .unset, .unset, .unset, .unset, .unset] [(.ref b78), (.ref b78)]))
    refine own_pre (fun t k => XS.iconst X82.here hx rfl (hb hby at_75) k) ?_
    show own_Ends _ _ _ _ (T82.setTop (mkF m 76 #[.val (.int p0), .val (.int p1), .val (.int p2), .val (.int p3), .val (.long p4), .second, .val (.int (3 : Int32)), .unset, .unset, .unset, .unset, .unset] [(.int (1 : Int32)), (.ref b78), (.ref b78)]))
    refine own_pre (fun t k => XS.iloadN X82.here hx rfl (hb hby at_76) rfl k) ?_
    show own_Ends _ _ _ _ (T82.setTop (mkF m 77 #[.val (.int p0), .val (.int p1), .val (.int p2), .val (.int p3), .val (.long p4), .second, .val (.int (3 : Int32)), .unset, .unset, .unset, .unset, .unset] [(.int p2), (.int (1 : Int32)), (.ref b78), (.ref b78)]))
    obtain ⟨cl86, Ar86, q86, S86, M86, H86, G86⟩ := id (f83)
    have hin86 : ¬ ((1 : Int32) < 0 ∨ cl86.slots.size ≤ ((1 : Int32)).toNatClampNeg) := inb_of S86 ⟨by decide, by decide⟩
    obtain ⟨T86, h86, X86, e86, W86, st86⟩ := stI X82 hx hZ e82 Ar86 (j := (1 : Int32)) hin86 (g := (mkF m 77 #[.val (.int p0), .val (.int p1), .val (.int p2), .val (.int p3), .val (.long p4), .second, .val (.int (3 : Int32)), .unset, .unset, .unset, .unset, .unset] [(.int p2), (.int (1 : Int32)), (.ref b78), (.ref b78)])) rfl rfl (hb hby at_77)
    refine own_pre st86 ?_
    have f87x := Arv.set Ar86 q86 S86 M86 H86 G86 (show fits .int (.int p2) = true from rfl) W86 1 rfl (Nat.le_of_ble_eq_true rfl)
    have f87 : Arv Z h86 b78 k78 .int (3 : Int32) [(.int p1), (.int p2), (.int (0 : Int32))] (.int (0 : Int32)) := f87x
    have N88 := Fr.snoc X86 N84 L79
    have Zn89 : n0 ≤ h86.size := by rw [W86.size]; exact Zn85
    show own_Ends _ _ _ _ (T86.setTop (mkF m 78 #[.val (.int p0), .val (.int p1), .val (.int p2), .val (.int p3), .val (.long p4), .second, .val (.int (3 : Int32)), .unset, .unset, .unset, .unset, .unset] [(.ref b78)]))
    refine own_pre (fun t k => XS.dup X86.here hx rfl (hb hby at_78) rfl rfl k) ?_
    show own_Ends _ _ _ _ (T86.setTop (mkF m 79 #[.val (.int p0), .val (.int p1), .val (.int p2), .val (.int p3), .val (.long p4), .second, .val (.int (3 : Int32)), .unset, .unset, .unset, .unset, .unset] [(.ref b78), (.ref b78)]))
    refine own_pre (fun t k => XS.iconst X86.here hx rfl (hb hby at_79) k) ?_
    show own_Ends _ _ _ _ (T86.setTop (mkF m 80 #[.val (.int p0), .val (.int p1), .val (.int p2), .val (.int p3), .val (.long p4), .second, .val (.int (3 : Int32)), .unset, .unset, .unset, .unset, .unset] [(.int (2 : Int32)), (.ref b78), (.ref b78)]))
    refine own_pre (fun t k => XS.iloadN X86.here hx rfl (hb hby at_80) rfl k) ?_
    show own_Ends _ _ _ _ (T86.setTop (mkF m 81 #[.val (.int p0), .val (.int p1), .val (.int p2), .val (.int p3), .val (.long p4), .second, .val (.int (3 : Int32)), .unset, .unset, .unset, .unset, .unset] [(.int p3), (.int (2 : Int32)), (.ref b78), (.ref b78)]))
    obtain ⟨cl90, Ar90, q90, S90, M90, H90, G90⟩ := id (f87)
    have hin90 : ¬ ((2 : Int32) < 0 ∨ cl90.slots.size ≤ ((2 : Int32)).toNatClampNeg) := inb_of S90 ⟨by decide, by decide⟩
    obtain ⟨T90, h90, X90, e90, W90, st90⟩ := stI X86 hx hZ e86 Ar90 (j := (2 : Int32)) hin90 (g := (mkF m 81 #[.val (.int p0), .val (.int p1), .val (.int p2), .val (.int p3), .val (.long p4), .second, .val (.int (3 : Int32)), .unset, .unset, .unset, .unset, .unset] [(.int p3), (.int (2 : Int32)), (.ref b78), (.ref b78)])) rfl rfl (hb hby at_81)
    refine own_pre st90 ?_
    have f91x := Arv.set Ar90 q90 S90 M90 H90 G90 (show fits .int (.int p3) = true from rfl) W90 2 rfl (Nat.le_of_ble_eq_true rfl)
    have f91 : Arv Z h90 b78 k78 .int (3 : Int32) [(.int p1), (.int p2), (.int p3)] (.int (0 : Int32)) := f91x
    have N92 := Fr.snoc X90 N88 L79
    have Zn93 : n0 ≤ h90.size := by rw [W90.size]; exact Zn89
    show own_Ends _ _ _ _ (T90.setTop (mkF m 82 #[.val (.int p0), .val (.int p1), .val (.int p2), .val (.int p3), .val (.long p4), .second, .val (.int (3 : Int32)), .unset, .unset, .unset, .unset, .unset] [(.ref b78)]))
    refine own_pre (fun t k => XS.astore X90.here hx rfl (hb hby at_82) rfl rfl (l' := #[.val (.int p0), .val (.int p1), .val (.int p2), .val (.int p3), .val (.long p4), .second, .val (.int (3 : Int32)), .val (.ref b78), .unset, .unset, .unset, .unset]) rfl k) ?_
    show own_Ends _ _ _ _ (T90.setTop (mkF m 84 #[.val (.int p0), .val (.int p1), .val (.int p2), .val (.int p3), .val (.long p4), .second, .val (.int (3 : Int32)), .val (.ref b78), .unset, .unset, .unset, .unset] []))
    refine own_pre (fun t k => XS.goto X90.here hx rfl (pc0 := 84) (pc' := 110) rfl (hb hby at_84) (by decide) (by decide) k) ?_
    show own_Ends _ _ _ _ (T90.setTop (mkF m 110 #[.val (.int p0), .val (.int p1), .val (.int p2), .val (.int p3), .val (.long p4), .second, .val (.int (3 : Int32)), .val (.ref b78), .unset, .unset, .unset, .unset] []))
    refine own_pre (fun t k => XS.aload X90.here hx rfl (hb hby at_110) rfl rfl k) ?_
    show own_Ends _ _ _ _ (T90.setTop (mkF m 112 #[.val (.int p0), .val (.int p1), .val (.int p2), .val (.int p3), .val (.long p4), .second, .val (.int (3 : Int32)), .val (.ref b78), .unset, .unset, .unset, .unset] [(.ref b78)]))
    obtain ⟨cl94, Ar94, -, S94, M94, -, -⟩ := id (f91)
    refine own_pre (fun t k => own_len X90 hx e90 hZ Ar94 S94 M94 (g := (mkF m 112 #[.val (.int p0), .val (.int p1), .val (.int p2), .val (.int p3), .val (.long p4), .second, .val (.int (3 : Int32)), .val (.ref b78), .unset, .unset, .unset, .unset] [(.ref b78)])) rfl rfl (hb hby at_112) k) ?_
    show own_Ends _ _ _ _ (T90.setTop (mkF m 113 #[.val (.int p0), .val (.int p1), .val (.int p2), .val (.int p3), .val (.long p4), .second, .val (.int (3 : Int32)), .val (.ref b78), .unset, .unset, .unset, .unset] [(.int (3 : Int32))]))
    refine own_pre (fun t k => XS.istore X90.here hx rfl (hb hby at_113) rfl (l' := #[.val (.int p0), .val (.int p1), .val (.int p2), .val (.int p3), .val (.long p4), .second, .val (.int (3 : Int32)), .val (.ref b78), .val (.int (3 : Int32)), .unset, .unset, .unset]) rfl k) ?_
    show own_Ends _ _ _ _ (T90.setTop (mkF m 115 #[.val (.int p0), .val (.int p1), .val (.int p2), .val (.int p3), .val (.long p4), .second, .val (.int (3 : Int32)), .val (.ref b78), .val (.int (3 : Int32)), .unset, .unset, .unset] []))
    refine own_pre (fun t k => XS.lload X90.here hx rfl (hb hby at_115) rfl k) ?_
    show own_Ends _ _ _ _ (T90.setTop (mkF m 117 #[.val (.int p0), .val (.int p1), .val (.int p2), .val (.int p3), .val (.long p4), .second, .val (.int (3 : Int32)), .val (.ref b78), .val (.int (3 : Int32)), .unset, .unset, .unset] [(.long p4)]))
    refine own_pre (fun t k => X90.ldc2Long hx hown (mvT hZ (hw _ (List.mem_of_getElem? (i := 2) rfl))) (g := (mkF m 117 #[.val (.int p0), .val (.int p1), .val (.int p2), .val (.int p3), .val (.long p4), .second, .val (.int (3 : Int32)), .val (.ref b78), .val (.int (3 : Int32)), .unset, .unset, .unset] [(.long p4)])) rfl (hb hby at_117) _ k) ?_
    show own_Ends _ _ _ _ (T90.setTop (mkF m 120 #[.val (.int p0), .val (.int p1), .val (.int p2), .val (.int p3), .val (.long p4), .second, .val (.int (3 : Int32)), .val (.ref b78), .val (.int (3 : Int32)), .unset, .unset, .unset] [(.long (4294967295 : Int64)), (.long p4)]))
    refine own_pre (fun t k => XS.land X90.here hx rfl (hb hby at_120) rfl k) ?_
    show own_Ends _ _ _ _ (T90.setTop (mkF m 121 #[.val (.int p0), .val (.int p1), .val (.int p2), .val (.int p3), .val (.long p4), .second, .val (.int (3 : Int32)), .val (.ref b78), .val (.int (3 : Int32)), .unset, .unset, .unset] [(.long (p4 &&& (4294967295 : Int64)))]))
    refine own_pre (fun t k => XS.lstore X90.here hx rfl (hb hby at_121) rfl (l' := #[.val (.int p0), .val (.int p1), .val (.int p2), .val (.int p3), .val (.long p4), .second, .val (.int (3 : Int32)), .val (.ref b78), .val (.int (3 : Int32)), .val (.long (p4 &&& (4294967295 : Int64))), .second, .unset]) rfl k) ?_
    show own_Ends _ _ _ _ (T90.setTop (mkF m 123 #[.val (.int p0), .val (.int p1), .val (.int p2), .val (.int p3), .val (.long p4), .second, .val (.int (3 : Int32)), .val (.ref b78), .val (.int (3 : Int32)), .val (.long (p4 &&& (4294967295 : Int64))), .second, .unset] []))
    generalize hq9 : (p4 &&& (4294967295 : Int64)) = q9
    show own_Ends _ _ _ _ (T90.setTop (mkF m 123 #[.val (.int p0), .val (.int p1), .val (.int p2), .val (.int p3), .val (.long p4), .second, .val (.int (3 : Int32)), .val (.ref b78), .val (.int (3 : Int32)), .val (.long q9), .second, .unset] []))
    refine own_pre (fun t k => XS.aload X90.here hx rfl (hb hby at_123) rfl rfl k) ?_
    show own_Ends _ _ _ _ (T90.setTop (mkF m 125 #[.val (.int p0), .val (.int p1), .val (.int p2), .val (.int p3), .val (.long p4), .second, .val (.int (3 : Int32)), .val (.ref b78), .val (.int (3 : Int32)), .val (.long q9), .second, .unset] [(.ref b78)]))
    refine own_pre (fun t k => XS.lload X90.here hx rfl (hb hby at_125) rfl k) ?_
    show own_Ends _ _ _ _ (T90.setTop (mkF m 127 #[.val (.int p0), .val (.int p1), .val (.int p2), .val (.int p3), .val (.long p4), .second, .val (.int (3 : Int32)), .val (.ref b78), .val (.int (3 : Int32)), .val (.long q9), .second, .unset] [(.long q9), (.ref b78)]))
    obtain ⟨_, _, ⟨T95, L95, k95, n95⟩, -, X95, ⟨Lc95, hQ95, l95, y95, z95⟩, st95⟩ := Jvm.LawKit.callS X90 hx (y := (⟨"com/example/many_dashes/manydashes/form/SidLimits", "appended", "([IJ)[I"⟩ : MethodName)) hown (mvT hZ (hw _ (List.mem_of_getElem? (i := 3) rfl))) (mvT hZ (hw _ (List.mem_of_getElem? (i := 4) rfl))) (mvT hZ (hw _ (List.mem_of_getElem? (i := 5) rfl))) (mvT hZ (hw _ (List.mem_of_getElem? (i := 6) rfl))) (by decide) (backOf (W := 0) (rm3 l Z a0 hw [] b78 q9 k78 (3 : Int32) [(.int p1), (.int p2), (.int p3)] h90 n0 Zn93 f91 (by decide) (hq9 ▸ own_val p4).1 (hq9 ▸ own_val p4).2 (by decide) (by decide) (by decide) (by decide) (by decide) (by decide) rfl) hZ (hw _ (List.mem_of_getElem? (i := 6) rfl)) (hw _ (List.mem_of_getElem? (i := 5) rfl)) (by decide) (by decide)) (g := (mkF m 127 #[.val (.int p0), .val (.int p1), .val (.int p2), .val (.int p3), .val (.long p4), .second, .val (.int (3 : Int32)), .val (.ref b78), .val (.int (3 : Int32)), .val (.long q9), .second, .unset] [(.long q9), (.ref b78)])) rfl (by rw [hml]; rfl) (argsL := [(.ref b78), (.long q9)]) (rest := []) (lenOf own_pd2 rfl) rfl (by show 2 * 0 + _ ≤ _; exact Nat.le_of_eq rfl) (hb hby at_127) (fun _ _ => ⟨rfl, e90, (by decide : 1 + 1 ≤ _), (by decide : 3 + 15 ≤ _)⟩)
    dsimp only [Pt.U, Pt.locs, Pt.cells, Pt.slots] at X95 l95 y95 z95 st95 hQ95
    subst l95 y95 z95
    obtain ⟨br95, kb95, rfl, Nq95, Kq95, va95, la95, lb95⟩ := hQ95
    have N95 := Fr.app N92 Nq95
    have ne96 : b78 ≠ br95 := Nat.ne_of_lt (Nat.lt_of_lt_of_le f91.lt lb95)
    have f97 := f91.keep Kq95 nin0
    have Zn95 : n0 ≤ T95.heap.size := Nat.le_trans Zn93 Kq95.1
    have va95 : Arv Z T95.heap br95 kb95 .int (4 : Int32) [(.int p1), (.int p2), (.int p3), (.int (q9.toInt32))] (.int (0 : Int32)) := va95
    refine own_pre st95 ?_
    show own_Ends _ _ _ _ (T95.setTop (mkF m 130 #[.val (.int p0), .val (.int p1), .val (.int p2), .val (.int p3), .val (.long p4), .second, .val (.int (3 : Int32)), .val (.ref b78), .val (.int (3 : Int32)), .val (.long q9), .second, .unset] [(.ref br95)]))
    refine own_pre (fun t k => XS.astore X95.here hx rfl (hb hby at_130) rfl rfl (l' := #[.val (.int p0), .val (.int p1), .val (.int p2), .val (.int p3), .val (.long p4), .second, .val (.int (3 : Int32)), .val (.ref b78), .val (.int (3 : Int32)), .val (.long q9), .second, .val (.ref br95)]) rfl k) ?_
    show own_Ends _ _ _ _ (T95.setTop (mkF m 132 #[.val (.int p0), .val (.int p1), .val (.int p2), .val (.int p3), .val (.long p4), .second, .val (.int (3 : Int32)), .val (.ref b78), .val (.int (3 : Int32)), .val (.long q9), .second, .val (.ref br95)] []))
    refine own_pre (fun t k => XS.aload X95.here hx rfl (hb hby at_132) rfl rfl k) ?_
    show own_Ends _ _ _ _ (T95.setTop (mkF m 134 #[.val (.int p0), .val (.int p1), .val (.int p2), .val (.int p3), .val (.long p4), .second, .val (.int (3 : Int32)), .val (.ref b78), .val (.int (3 : Int32)), .val (.long q9), .second, .val (.ref br95)] [(.ref br95)]))
    refine own_pre (fun t k => XS.aload X95.here hx rfl (hb hby at_134) rfl rfl k) ?_
    show own_Ends _ _ _ _ (T95.setTop (mkF m 136 #[.val (.int p0), .val (.int p1), .val (.int p2), .val (.int p3), .val (.long p4), .second, .val (.int (3 : Int32)), .val (.ref b78), .val (.int (3 : Int32)), .val (.long q9), .second, .val (.ref br95)] [(.ref b78), (.ref br95)]))
    refine own_pre (fun t k => Jvm.RoadKit.acmp (g := (mkF m 136 #[.val (.int p0), .val (.int p1), .val (.int p2), .val (.int p3), .val (.long p4), .second, .val (.int (3 : Int32)), .val (.ref b78), .val (.int (3 : Int32)), .val (.long q9), .second, .val (.ref br95)] [(.ref b78), (.ref br95)])) X95 hx rfl rfl rfl (pc0 := 136) (pc' := 141) (same := false) rfl (hb hby at_136) rfl (decide_eq_false fun q => (Ne.symm ne96) (Value.ref.inj q)) (by decide) (by decide) k) ?_
    show own_Ends _ _ _ _ (T95.setTop (mkF m 141 #[.val (.int p0), .val (.int p1), .val (.int p2), .val (.int p3), .val (.long p4), .second, .val (.int (3 : Int32)), .val (.ref b78), .val (.int (3 : Int32)), .val (.long q9), .second, .val (.ref br95)] []))
    refine own_pre (fun t k => XS.aload X95.here hx rfl (hb hby at_141) rfl rfl k) ?_
    show own_Ends _ _ _ _ (T95.setTop (mkF m 143 #[.val (.int p0), .val (.int p1), .val (.int p2), .val (.int p3), .val (.long p4), .second, .val (.int (3 : Int32)), .val (.ref b78), .val (.int (3 : Int32)), .val (.long q9), .second, .val (.ref br95)] [(.ref br95)]))
    obtain ⟨cl98, Ar98, -, S98, M98, -, -⟩ := id (va95)
    refine own_pre (fun t k => own_len X95 hx rfl hZ Ar98 S98 M98 (g := (mkF m 143 #[.val (.int p0), .val (.int p1), .val (.int p2), .val (.int p3), .val (.long p4), .second, .val (.int (3 : Int32)), .val (.ref b78), .val (.int (3 : Int32)), .val (.long q9), .second, .val (.ref br95)] [(.ref br95)])) rfl rfl (hb hby at_143) k) ?_
    show own_Ends _ _ _ _ (T95.setTop (mkF m 144 #[.val (.int p0), .val (.int p1), .val (.int p2), .val (.int p3), .val (.long p4), .second, .val (.int (3 : Int32)), .val (.ref b78), .val (.int (3 : Int32)), .val (.long q9), .second, .val (.ref br95)] [(.int (4 : Int32))]))
    refine own_pre (fun t k => XS.iload X95.here hx rfl (hb hby at_144) rfl k) ?_
    show own_Ends _ _ _ _ (T95.setTop (mkF m 146 #[.val (.int p0), .val (.int p1), .val (.int p2), .val (.int p3), .val (.long p4), .second, .val (.int (3 : Int32)), .val (.ref b78), .val (.int (3 : Int32)), .val (.long q9), .second, .val (.ref br95)] [(.int (3 : Int32)), (.int (4 : Int32))]))
    refine own_pre (fun t k => XS.iconst X95.here hx rfl (hb hby at_146) k) ?_
    show own_Ends _ _ _ _ (T95.setTop (mkF m 147 #[.val (.int p0), .val (.int p1), .val (.int p2), .val (.int p3), .val (.long p4), .second, .val (.int (3 : Int32)), .val (.ref b78), .val (.int (3 : Int32)), .val (.long q9), .second, .val (.ref br95)] [(.int (1 : Int32)), (.int (3 : Int32)), (.int (4 : Int32))]))
    refine own_pre (fun t k => XS.iadd X95.here hx rfl (hb hby at_147) rfl k) ?_
    show own_Ends _ _ _ _ (T95.setTop (mkF m 148 #[.val (.int p0), .val (.int p1), .val (.int p2), .val (.int p3), .val (.long p4), .second, .val (.int (3 : Int32)), .val (.ref b78), .val (.int (3 : Int32)), .val (.long q9), .second, .val (.ref br95)] [(.int (4 : Int32)), (.int (4 : Int32))]))
    refine own_pre (fun t k => XS.icmpYes X95.here hx rfl (pc0 := 148) (pc' := 153) rfl (hb hby at_148) rfl (teq ((by decide) : (4 : Int32) = (4 : Int32))).1 (by decide) (by decide) k) ?_
    show own_Ends _ _ _ _ (T95.setTop (mkF m 153 #[.val (.int p0), .val (.int p1), .val (.int p2), .val (.int p3), .val (.long p4), .second, .val (.int (3 : Int32)), .val (.ref b78), .val (.int (3 : Int32)), .val (.long q9), .second, .val (.ref br95)] []))
    refine own_pre (fun t k => XS.aload X95.here hx rfl (hb hby at_153) rfl rfl k) ?_
    show own_Ends _ _ _ _ (T95.setTop (mkF m 155 #[.val (.int p0), .val (.int p1), .val (.int p2), .val (.int p3), .val (.long p4), .second, .val (.int (3 : Int32)), .val (.ref b78), .val (.int (3 : Int32)), .val (.long q9), .second, .val (.ref br95)] [(.ref br95)]))
    refine own_pre (fun t k => XS.iload X95.here hx rfl (hb hby at_155) rfl k) ?_
    show own_Ends _ _ _ _ (T95.setTop (mkF m 157 #[.val (.int p0), .val (.int p1), .val (.int p2), .val (.int p3), .val (.long p4), .second, .val (.int (3 : Int32)), .val (.ref b78), .val (.int (3 : Int32)), .val (.long q9), .second, .val (.ref br95)] [(.int (3 : Int32)), (.ref br95)]))
    obtain ⟨cl99, Ar99, q99, S99, M99, H99, G99⟩ := id (va95)
    have hin99 : ¬ ((3 : Int32) < 0 ∨ cl99.slots.size ≤ ((3 : Int32)).toNatClampNeg) := inb_of S99 ⟨by decide, by decide⟩
    have hat99 : cl99.slots[((3 : Int32)).toNatClampNeg]? = some (.int (q9.toInt32)) := H99.at hin99 rfl
    refine own_pre (fun t k => X95.iaload hx (j := (3 : Int32)) (v := (.int (q9.toInt32))) Ar99.1 (State.isArrayOf_alike hZ.alike Ar99.2.1) Ar99.2.2 hin99 hat99 (g := (mkF m 157 #[.val (.int p0), .val (.int p1), .val (.int p2), .val (.int p3), .val (.long p4), .second, .val (.int (3 : Int32)), .val (.ref b78), .val (.int (3 : Int32)), .val (.long q9), .second, .val (.ref br95)] [(.int (3 : Int32)), (.ref br95)])) rfl rfl (hb hby at_157) _ k) ?_
    show own_Ends _ _ _ _ (T95.setTop (mkF m 158 #[.val (.int p0), .val (.int p1), .val (.int p2), .val (.int p3), .val (.long p4), .second, .val (.int (3 : Int32)), .val (.ref b78), .val (.int (3 : Int32)), .val (.long q9), .second, .val (.ref br95)] [(.int (q9.toInt32))]))
    refine own_pre (fun t k => XS.i2l X95.here hx rfl (hb hby at_158) rfl k) ?_
    show own_Ends _ _ _ _ (T95.setTop (mkF m 159 #[.val (.int p0), .val (.int p1), .val (.int p2), .val (.int p3), .val (.long p4), .second, .val (.int (3 : Int32)), .val (.ref b78), .val (.int (3 : Int32)), .val (.long q9), .second, .val (.ref br95)] [(.long ((q9.toInt32).toInt64))]))
    refine own_pre (fun t k => X95.ldc2Long hx hown (mvT hZ (hw _ (List.mem_of_getElem? (i := 2) rfl))) (g := (mkF m 159 #[.val (.int p0), .val (.int p1), .val (.int p2), .val (.int p3), .val (.long p4), .second, .val (.int (3 : Int32)), .val (.ref b78), .val (.int (3 : Int32)), .val (.long q9), .second, .val (.ref br95)] [(.long ((q9.toInt32).toInt64))])) rfl (hb hby at_159) _ k) ?_
    show own_Ends _ _ _ _ (T95.setTop (mkF m 162 #[.val (.int p0), .val (.int p1), .val (.int p2), .val (.int p3), .val (.long p4), .second, .val (.int (3 : Int32)), .val (.ref b78), .val (.int (3 : Int32)), .val (.long q9), .second, .val (.ref br95)] [(.long (4294967295 : Int64)), (.long ((q9.toInt32).toInt64))]))
    refine own_pre (fun t k => XS.land X95.here hx rfl (hb hby at_162) rfl k) ?_
    show own_Ends _ _ _ _ (T95.setTop (mkF m 163 #[.val (.int p0), .val (.int p1), .val (.int p2), .val (.int p3), .val (.long p4), .second, .val (.int (3 : Int32)), .val (.ref b78), .val (.int (3 : Int32)), .val (.long q9), .second, .val (.ref br95)] [(.long (((q9.toInt32).toInt64) &&& (4294967295 : Int64)))]))
    refine own_pre (fun t k => XS.lload X95.here hx rfl (hb hby at_163) rfl k) ?_
    show own_Ends _ _ _ _ (T95.setTop (mkF m 165 #[.val (.int p0), .val (.int p1), .val (.int p2), .val (.int p3), .val (.long p4), .second, .val (.int (3 : Int32)), .val (.ref b78), .val (.int (3 : Int32)), .val (.long q9), .second, .val (.ref br95)] [(.long q9), (.long (((q9.toInt32).toInt64) &&& (4294967295 : Int64)))]))
    refine own_pre (fun t k => XS.lcmp X95.here hx rfl (hb hby at_165) rfl k) ?_
    show own_Ends _ _ _ _ (T95.setTop (mkF m 166 #[.val (.int p0), .val (.int p1), .val (.int p2), .val (.int p3), .val (.long p4), .second, .val (.int (3 : Int32)), .val (.ref b78), .val (.int (3 : Int32)), .val (.long q9), .second, .val (.ref br95)] [(.int (own_cmpL (((q9.toInt32).toInt64) &&& (4294967295 : Int64)) q9))]))
    refine own_pre (fun t k => XS.ifYes X95.here hx rfl (pc0 := 166) (pc' := 171) rfl (hb hby at_166) rfl ((if0 _ _).trans (teq (hq9 ▸ own_low p4 : (own_cmpL (((q9.toInt32).toInt64) &&& (4294967295 : Int64)) q9) = (0 : Int32))).1) (by decide) (by decide) k) ?_
    show own_Ends _ _ _ _ (T95.setTop (mkF m 171 #[.val (.int p0), .val (.int p1), .val (.int p2), .val (.int p3), .val (.long p4), .second, .val (.int (3 : Int32)), .val (.ref b78), .val (.int (3 : Int32)), .val (.long q9), .second, .val (.ref br95)] []))
    refine own_pre (fun t k => XS.aload X95.here hx rfl (hb hby at_171) rfl rfl k) ?_
    show own_Ends _ _ _ _ (T95.setTop (mkF m 173 #[.val (.int p0), .val (.int p1), .val (.int p2), .val (.int p3), .val (.long p4), .second, .val (.int (3 : Int32)), .val (.ref b78), .val (.int (3 : Int32)), .val (.long q9), .second, .val (.ref br95)] [(.ref b78)]))
    obtain ⟨cl100, Ar100, -, S100, M100, -, -⟩ := id (f97)
    refine own_pre (fun t k => own_len X95 hx rfl hZ Ar100 S100 M100 (g := (mkF m 173 #[.val (.int p0), .val (.int p1), .val (.int p2), .val (.int p3), .val (.long p4), .second, .val (.int (3 : Int32)), .val (.ref b78), .val (.int (3 : Int32)), .val (.long q9), .second, .val (.ref br95)] [(.ref b78)])) rfl rfl (hb hby at_173) k) ?_
    show own_Ends _ _ _ _ (T95.setTop (mkF m 174 #[.val (.int p0), .val (.int p1), .val (.int p2), .val (.int p3), .val (.long p4), .second, .val (.int (3 : Int32)), .val (.ref b78), .val (.int (3 : Int32)), .val (.long q9), .second, .val (.ref br95)] [(.int (3 : Int32))]))
    refine own_pre (fun t k => XS.iload X95.here hx rfl (hb hby at_174) rfl k) ?_
    show own_Ends _ _ _ _ (T95.setTop (mkF m 176 #[.val (.int p0), .val (.int p1), .val (.int p2), .val (.int p3), .val (.long p4), .second, .val (.int (3 : Int32)), .val (.ref b78), .val (.int (3 : Int32)), .val (.long q9), .second, .val (.ref br95)] [(.int (3 : Int32)), (.int (3 : Int32))]))
    refine own_pre (fun t k => XS.icmpYes X95.here hx rfl (pc0 := 176) (pc' := 181) rfl (hb hby at_176) rfl (teq ((by decide) : (3 : Int32) = (3 : Int32))).1 (by decide) (by decide) k) ?_
    show own_Ends _ _ _ _ (T95.setTop (mkF m 181 #[.val (.int p0), .val (.int p1), .val (.int p2), .val (.int p3), .val (.long p4), .second, .val (.int (3 : Int32)), .val (.ref b78), .val (.int (3 : Int32)), .val (.long q9), .second, .val (.ref br95)] []))
    refine own_pre (fun t k => XS.iload X95.here hx rfl (hb hby at_181) rfl k) ?_
    show own_Ends _ _ _ _ (T95.setTop (mkF m 183 #[.val (.int p0), .val (.int p1), .val (.int p2), .val (.int p3), .val (.long p4), .second, .val (.int (3 : Int32)), .val (.ref b78), .val (.int (3 : Int32)), .val (.long q9), .second, .val (.ref br95)] [(.int (3 : Int32))]))
    refine own_pre (fun t k => XS.iconst X95.here hx rfl (hb hby at_183) k) ?_
    show own_Ends _ _ _ _ (T95.setTop (mkF m 184 #[.val (.int p0), .val (.int p1), .val (.int p2), .val (.int p3), .val (.long p4), .second, .val (.int (3 : Int32)), .val (.ref b78), .val (.int (3 : Int32)), .val (.long q9), .second, .val (.ref br95)] [(.int (1 : Int32)), (.int (3 : Int32))]))
    refine own_pre (fun t k => XS.icmpNo X95.here hx rfl (hb hby at_184) rfl (flt ((by decide) : ¬ ((3 : Int32) < (1 : Int32)))).1 k) ?_
    show own_Ends _ _ _ _ (T95.setTop (mkF m 187 #[.val (.int p0), .val (.int p1), .val (.int p2), .val (.int p3), .val (.long p4), .second, .val (.int (3 : Int32)), .val (.ref b78), .val (.int (3 : Int32)), .val (.long q9), .second, .val (.ref br95)] []))
    refine own_pre (fun t k => XS.aload X95.here hx rfl (hb hby at_187) rfl rfl k) ?_
    show own_Ends _ _ _ _ (T95.setTop (mkF m 189 #[.val (.int p0), .val (.int p1), .val (.int p2), .val (.int p3), .val (.long p4), .second, .val (.int (3 : Int32)), .val (.ref b78), .val (.int (3 : Int32)), .val (.long q9), .second, .val (.ref br95)] [(.ref br95)]))
    refine own_pre (fun t k => XS.iconst X95.here hx rfl (hb hby at_189) k) ?_
    show own_Ends _ _ _ _ (T95.setTop (mkF m 190 #[.val (.int p0), .val (.int p1), .val (.int p2), .val (.int p3), .val (.long p4), .second, .val (.int (3 : Int32)), .val (.ref b78), .val (.int (3 : Int32)), .val (.long q9), .second, .val (.ref br95)] [(.int (0 : Int32)), (.ref br95)]))
    obtain ⟨cl101, Ar101, q101, S101, M101, H101, G101⟩ := id (va95)
    have hin101 : ¬ ((0 : Int32) < 0 ∨ cl101.slots.size ≤ ((0 : Int32)).toNatClampNeg) := inb_of S101 ⟨by decide, by decide⟩
    have hat101 : cl101.slots[((0 : Int32)).toNatClampNeg]? = some (.int p1) := H101.at hin101 rfl
    refine own_pre (fun t k => X95.iaload hx (j := (0 : Int32)) (v := (.int p1)) Ar101.1 (State.isArrayOf_alike hZ.alike Ar101.2.1) Ar101.2.2 hin101 hat101 (g := (mkF m 190 #[.val (.int p0), .val (.int p1), .val (.int p2), .val (.int p3), .val (.long p4), .second, .val (.int (3 : Int32)), .val (.ref b78), .val (.int (3 : Int32)), .val (.long q9), .second, .val (.ref br95)] [(.int (0 : Int32)), (.ref br95)])) rfl rfl (hb hby at_190) _ k) ?_
    show own_Ends _ _ _ _ (T95.setTop (mkF m 191 #[.val (.int p0), .val (.int p1), .val (.int p2), .val (.int p3), .val (.long p4), .second, .val (.int (3 : Int32)), .val (.ref b78), .val (.int (3 : Int32)), .val (.long q9), .second, .val (.ref br95)] [(.int p1)]))
    refine own_pre (fun t k => XS.iloadN X95.here hx rfl (hb hby at_191) rfl k) ?_
    show own_Ends _ _ _ _ (T95.setTop (mkF m 192 #[.val (.int p0), .val (.int p1), .val (.int p2), .val (.int p3), .val (.long p4), .second, .val (.int (3 : Int32)), .val (.ref b78), .val (.int (3 : Int32)), .val (.long q9), .second, .val (.ref br95)] [(.int p1), (.int p1)]))
    refine own_pre (fun t k => XS.icmpNo X95.here hx rfl (hb hby at_192) rfl (teq (rfl : p1 = p1)).2 k) ?_
    show own_Ends _ _ _ _ (T95.setTop (mkF m 195 #[.val (.int p0), .val (.int p1), .val (.int p2), .val (.int p3), .val (.long p4), .second, .val (.int (3 : Int32)), .val (.ref b78), .val (.int (3 : Int32)), .val (.long q9), .second, .val (.ref br95)] []))
    refine own_pre (fun t k => XS.aload X95.here hx rfl (hb hby at_195) rfl rfl k) ?_
    show own_Ends _ _ _ _ (T95.setTop (mkF m 197 #[.val (.int p0), .val (.int p1), .val (.int p2), .val (.int p3), .val (.long p4), .second, .val (.int (3 : Int32)), .val (.ref b78), .val (.int (3 : Int32)), .val (.long q9), .second, .val (.ref br95)] [(.ref b78)]))
    refine own_pre (fun t k => XS.iconst X95.here hx rfl (hb hby at_197) k) ?_
    show own_Ends _ _ _ _ (T95.setTop (mkF m 198 #[.val (.int p0), .val (.int p1), .val (.int p2), .val (.int p3), .val (.long p4), .second, .val (.int (3 : Int32)), .val (.ref b78), .val (.int (3 : Int32)), .val (.long q9), .second, .val (.ref br95)] [(.int (0 : Int32)), (.ref b78)]))
    obtain ⟨cl102, Ar102, q102, S102, M102, H102, G102⟩ := id (f97)
    have hin102 : ¬ ((0 : Int32) < 0 ∨ cl102.slots.size ≤ ((0 : Int32)).toNatClampNeg) := inb_of S102 ⟨by decide, by decide⟩
    have hat102 : cl102.slots[((0 : Int32)).toNatClampNeg]? = some (.int p1) := H102.at hin102 rfl
    refine own_pre (fun t k => X95.iaload hx (j := (0 : Int32)) (v := (.int p1)) Ar102.1 (State.isArrayOf_alike hZ.alike Ar102.2.1) Ar102.2.2 hin102 hat102 (g := (mkF m 198 #[.val (.int p0), .val (.int p1), .val (.int p2), .val (.int p3), .val (.long p4), .second, .val (.int (3 : Int32)), .val (.ref b78), .val (.int (3 : Int32)), .val (.long q9), .second, .val (.ref br95)] [(.int (0 : Int32)), (.ref b78)])) rfl rfl (hb hby at_198) _ k) ?_
    show own_Ends _ _ _ _ (T95.setTop (mkF m 199 #[.val (.int p0), .val (.int p1), .val (.int p2), .val (.int p3), .val (.long p4), .second, .val (.int (3 : Int32)), .val (.ref b78), .val (.int (3 : Int32)), .val (.long q9), .second, .val (.ref br95)] [(.int p1)]))
    refine own_pre (fun t k => XS.iloadN X95.here hx rfl (hb hby at_199) rfl k) ?_
    show own_Ends _ _ _ _ (T95.setTop (mkF m 200 #[.val (.int p0), .val (.int p1), .val (.int p2), .val (.int p3), .val (.long p4), .second, .val (.int (3 : Int32)), .val (.ref b78), .val (.int (3 : Int32)), .val (.long q9), .second, .val (.ref br95)] [(.int p1), (.int p1)]))
    refine own_pre (fun t k => XS.icmpYes X95.here hx rfl (pc0 := 200) (pc' := 205) rfl (hb hby at_200) rfl (teq (rfl : p1 = p1)).1 (by decide) (by decide) k) ?_
    show own_Ends _ _ _ _ (T95.setTop (mkF m 205 #[.val (.int p0), .val (.int p1), .val (.int p2), .val (.int p3), .val (.long p4), .second, .val (.int (3 : Int32)), .val (.ref b78), .val (.int (3 : Int32)), .val (.long q9), .second, .val (.ref br95)] []))
    refine own_pre (fun t k => XS.iload X95.here hx rfl (hb hby at_205) rfl k) ?_
    show own_Ends _ _ _ _ (T95.setTop (mkF m 207 #[.val (.int p0), .val (.int p1), .val (.int p2), .val (.int p3), .val (.long p4), .second, .val (.int (3 : Int32)), .val (.ref b78), .val (.int (3 : Int32)), .val (.long q9), .second, .val (.ref br95)] [(.int (3 : Int32))]))
    refine own_pre (fun t k => XS.iconst X95.here hx rfl (hb hby at_207) k) ?_
    show own_Ends _ _ _ _ (T95.setTop (mkF m 208 #[.val (.int p0), .val (.int p1), .val (.int p2), .val (.int p3), .val (.long p4), .second, .val (.int (3 : Int32)), .val (.ref b78), .val (.int (3 : Int32)), .val (.long q9), .second, .val (.ref br95)] [(.int (2 : Int32)), (.int (3 : Int32))]))
    refine own_pre (fun t k => XS.icmpNo X95.here hx rfl (hb hby at_208) rfl (feq ((by decide) : ¬ ((3 : Int32) = (2 : Int32)))).1 k) ?_
    show own_Ends _ _ _ _ (T95.setTop (mkF m 211 #[.val (.int p0), .val (.int p1), .val (.int p2), .val (.int p3), .val (.long p4), .second, .val (.int (3 : Int32)), .val (.ref b78), .val (.int (3 : Int32)), .val (.long q9), .second, .val (.ref br95)] []))
    refine own_pre (fun t k => XS.iload X95.here hx rfl (hb hby at_211) rfl k) ?_
    show own_Ends _ _ _ _ (T95.setTop (mkF m 213 #[.val (.int p0), .val (.int p1), .val (.int p2), .val (.int p3), .val (.long p4), .second, .val (.int (3 : Int32)), .val (.ref b78), .val (.int (3 : Int32)), .val (.long q9), .second, .val (.ref br95)] [(.int (3 : Int32))]))
    refine own_pre (fun t k => XS.iconst X95.here hx rfl (hb hby at_213) k) ?_
    show own_Ends _ _ _ _ (T95.setTop (mkF m 214 #[.val (.int p0), .val (.int p1), .val (.int p2), .val (.int p3), .val (.long p4), .second, .val (.int (3 : Int32)), .val (.ref b78), .val (.int (3 : Int32)), .val (.long q9), .second, .val (.ref br95)] [(.int (3 : Int32)), (.int (3 : Int32))]))
    refine own_pre (fun t k => XS.icmpNo X95.here hx rfl (hb hby at_214) rfl (teq ((by decide) : (3 : Int32) = (3 : Int32))).2 k) ?_
    show own_Ends _ _ _ _ (T95.setTop (mkF m 217 #[.val (.int p0), .val (.int p1), .val (.int p2), .val (.int p3), .val (.long p4), .second, .val (.int (3 : Int32)), .val (.ref b78), .val (.int (3 : Int32)), .val (.long q9), .second, .val (.ref br95)] []))
    refine own_pre (fun t k => XS.aload X95.here hx rfl (hb hby at_217) rfl rfl k) ?_
    show own_Ends _ _ _ _ (T95.setTop (mkF m 219 #[.val (.int p0), .val (.int p1), .val (.int p2), .val (.int p3), .val (.long p4), .second, .val (.int (3 : Int32)), .val (.ref b78), .val (.int (3 : Int32)), .val (.long q9), .second, .val (.ref br95)] [(.ref br95)]))
    refine own_pre (fun t k => XS.iconst X95.here hx rfl (hb hby at_219) k) ?_
    show own_Ends _ _ _ _ (T95.setTop (mkF m 220 #[.val (.int p0), .val (.int p1), .val (.int p2), .val (.int p3), .val (.long p4), .second, .val (.int (3 : Int32)), .val (.ref b78), .val (.int (3 : Int32)), .val (.long q9), .second, .val (.ref br95)] [(.int (1 : Int32)), (.ref br95)]))
    obtain ⟨cl103, Ar103, q103, S103, M103, H103, G103⟩ := id (va95)
    have hin103 : ¬ ((1 : Int32) < 0 ∨ cl103.slots.size ≤ ((1 : Int32)).toNatClampNeg) := inb_of S103 ⟨by decide, by decide⟩
    have hat103 : cl103.slots[((1 : Int32)).toNatClampNeg]? = some (.int p2) := H103.at hin103 rfl
    refine own_pre (fun t k => X95.iaload hx (j := (1 : Int32)) (v := (.int p2)) Ar103.1 (State.isArrayOf_alike hZ.alike Ar103.2.1) Ar103.2.2 hin103 hat103 (g := (mkF m 220 #[.val (.int p0), .val (.int p1), .val (.int p2), .val (.int p3), .val (.long p4), .second, .val (.int (3 : Int32)), .val (.ref b78), .val (.int (3 : Int32)), .val (.long q9), .second, .val (.ref br95)] [(.int (1 : Int32)), (.ref br95)])) rfl rfl (hb hby at_220) _ k) ?_
    show own_Ends _ _ _ _ (T95.setTop (mkF m 221 #[.val (.int p0), .val (.int p1), .val (.int p2), .val (.int p3), .val (.long p4), .second, .val (.int (3 : Int32)), .val (.ref b78), .val (.int (3 : Int32)), .val (.long q9), .second, .val (.ref br95)] [(.int p2)]))
    refine own_pre (fun t k => XS.iloadN X95.here hx rfl (hb hby at_221) rfl k) ?_
    show own_Ends _ _ _ _ (T95.setTop (mkF m 222 #[.val (.int p0), .val (.int p1), .val (.int p2), .val (.int p3), .val (.long p4), .second, .val (.int (3 : Int32)), .val (.ref b78), .val (.int (3 : Int32)), .val (.long q9), .second, .val (.ref br95)] [(.int p2), (.int p2)]))
    refine own_pre (fun t k => XS.icmpNo X95.here hx rfl (hb hby at_222) rfl (teq (rfl : p2 = p2)).2 k) ?_
    show own_Ends _ _ _ _ (T95.setTop (mkF m 225 #[.val (.int p0), .val (.int p1), .val (.int p2), .val (.int p3), .val (.long p4), .second, .val (.int (3 : Int32)), .val (.ref b78), .val (.int (3 : Int32)), .val (.long q9), .second, .val (.ref br95)] []))
    refine own_pre (fun t k => XS.aload X95.here hx rfl (hb hby at_225) rfl rfl k) ?_
    show own_Ends _ _ _ _ (T95.setTop (mkF m 227 #[.val (.int p0), .val (.int p1), .val (.int p2), .val (.int p3), .val (.long p4), .second, .val (.int (3 : Int32)), .val (.ref b78), .val (.int (3 : Int32)), .val (.long q9), .second, .val (.ref br95)] [(.ref b78)]))
    refine own_pre (fun t k => XS.iconst X95.here hx rfl (hb hby at_227) k) ?_
    show own_Ends _ _ _ _ (T95.setTop (mkF m 228 #[.val (.int p0), .val (.int p1), .val (.int p2), .val (.int p3), .val (.long p4), .second, .val (.int (3 : Int32)), .val (.ref b78), .val (.int (3 : Int32)), .val (.long q9), .second, .val (.ref br95)] [(.int (1 : Int32)), (.ref b78)]))
    obtain ⟨cl104, Ar104, q104, S104, M104, H104, G104⟩ := id (f97)
    have hin104 : ¬ ((1 : Int32) < 0 ∨ cl104.slots.size ≤ ((1 : Int32)).toNatClampNeg) := inb_of S104 ⟨by decide, by decide⟩
    have hat104 : cl104.slots[((1 : Int32)).toNatClampNeg]? = some (.int p2) := H104.at hin104 rfl
    refine own_pre (fun t k => X95.iaload hx (j := (1 : Int32)) (v := (.int p2)) Ar104.1 (State.isArrayOf_alike hZ.alike Ar104.2.1) Ar104.2.2 hin104 hat104 (g := (mkF m 228 #[.val (.int p0), .val (.int p1), .val (.int p2), .val (.int p3), .val (.long p4), .second, .val (.int (3 : Int32)), .val (.ref b78), .val (.int (3 : Int32)), .val (.long q9), .second, .val (.ref br95)] [(.int (1 : Int32)), (.ref b78)])) rfl rfl (hb hby at_228) _ k) ?_
    show own_Ends _ _ _ _ (T95.setTop (mkF m 229 #[.val (.int p0), .val (.int p1), .val (.int p2), .val (.int p3), .val (.long p4), .second, .val (.int (3 : Int32)), .val (.ref b78), .val (.int (3 : Int32)), .val (.long q9), .second, .val (.ref br95)] [(.int p2)]))
    refine own_pre (fun t k => XS.iloadN X95.here hx rfl (hb hby at_229) rfl k) ?_
    show own_Ends _ _ _ _ (T95.setTop (mkF m 230 #[.val (.int p0), .val (.int p1), .val (.int p2), .val (.int p3), .val (.long p4), .second, .val (.int (3 : Int32)), .val (.ref b78), .val (.int (3 : Int32)), .val (.long q9), .second, .val (.ref br95)] [(.int p2), (.int p2)]))
    refine own_pre (fun t k => XS.icmpYes X95.here hx rfl (pc0 := 230) (pc' := 235) rfl (hb hby at_230) rfl (teq (rfl : p2 = p2)).1 (by decide) (by decide) k) ?_
    show own_Ends _ _ _ _ (T95.setTop (mkF m 235 #[.val (.int p0), .val (.int p1), .val (.int p2), .val (.int p3), .val (.long p4), .second, .val (.int (3 : Int32)), .val (.ref b78), .val (.int (3 : Int32)), .val (.long q9), .second, .val (.ref br95)] []))
    refine own_pre (fun t k => XS.iload X95.here hx rfl (hb hby at_235) rfl k) ?_
    show own_Ends _ _ _ _ (T95.setTop (mkF m 237 #[.val (.int p0), .val (.int p1), .val (.int p2), .val (.int p3), .val (.long p4), .second, .val (.int (3 : Int32)), .val (.ref b78), .val (.int (3 : Int32)), .val (.long q9), .second, .val (.ref br95)] [(.int (3 : Int32))]))
    refine own_pre (fun t k => XS.iconst X95.here hx rfl (hb hby at_237) k) ?_
    show own_Ends _ _ _ _ (T95.setTop (mkF m 238 #[.val (.int p0), .val (.int p1), .val (.int p2), .val (.int p3), .val (.long p4), .second, .val (.int (3 : Int32)), .val (.ref b78), .val (.int (3 : Int32)), .val (.long q9), .second, .val (.ref br95)] [(.int (3 : Int32)), (.int (3 : Int32))]))
    refine own_pre (fun t k => XS.icmpNo X95.here hx rfl (hb hby at_238) rfl (teq ((by decide) : (3 : Int32) = (3 : Int32))).2 k) ?_
    show own_Ends _ _ _ _ (T95.setTop (mkF m 241 #[.val (.int p0), .val (.int p1), .val (.int p2), .val (.int p3), .val (.long p4), .second, .val (.int (3 : Int32)), .val (.ref b78), .val (.int (3 : Int32)), .val (.long q9), .second, .val (.ref br95)] []))
    refine own_pre (fun t k => XS.aload X95.here hx rfl (hb hby at_241) rfl rfl k) ?_
    show own_Ends _ _ _ _ (T95.setTop (mkF m 243 #[.val (.int p0), .val (.int p1), .val (.int p2), .val (.int p3), .val (.long p4), .second, .val (.int (3 : Int32)), .val (.ref b78), .val (.int (3 : Int32)), .val (.long q9), .second, .val (.ref br95)] [(.ref br95)]))
    refine own_pre (fun t k => XS.iconst X95.here hx rfl (hb hby at_243) k) ?_
    show own_Ends _ _ _ _ (T95.setTop (mkF m 244 #[.val (.int p0), .val (.int p1), .val (.int p2), .val (.int p3), .val (.long p4), .second, .val (.int (3 : Int32)), .val (.ref b78), .val (.int (3 : Int32)), .val (.long q9), .second, .val (.ref br95)] [(.int (2 : Int32)), (.ref br95)]))
    obtain ⟨cl105, Ar105, q105, S105, M105, H105, G105⟩ := id (va95)
    have hin105 : ¬ ((2 : Int32) < 0 ∨ cl105.slots.size ≤ ((2 : Int32)).toNatClampNeg) := inb_of S105 ⟨by decide, by decide⟩
    have hat105 : cl105.slots[((2 : Int32)).toNatClampNeg]? = some (.int p3) := H105.at hin105 rfl
    refine own_pre (fun t k => X95.iaload hx (j := (2 : Int32)) (v := (.int p3)) Ar105.1 (State.isArrayOf_alike hZ.alike Ar105.2.1) Ar105.2.2 hin105 hat105 (g := (mkF m 244 #[.val (.int p0), .val (.int p1), .val (.int p2), .val (.int p3), .val (.long p4), .second, .val (.int (3 : Int32)), .val (.ref b78), .val (.int (3 : Int32)), .val (.long q9), .second, .val (.ref br95)] [(.int (2 : Int32)), (.ref br95)])) rfl rfl (hb hby at_244) _ k) ?_
    show own_Ends _ _ _ _ (T95.setTop (mkF m 245 #[.val (.int p0), .val (.int p1), .val (.int p2), .val (.int p3), .val (.long p4), .second, .val (.int (3 : Int32)), .val (.ref b78), .val (.int (3 : Int32)), .val (.long q9), .second, .val (.ref br95)] [(.int p3)]))
    refine own_pre (fun t k => XS.iloadN X95.here hx rfl (hb hby at_245) rfl k) ?_
    show own_Ends _ _ _ _ (T95.setTop (mkF m 246 #[.val (.int p0), .val (.int p1), .val (.int p2), .val (.int p3), .val (.long p4), .second, .val (.int (3 : Int32)), .val (.ref b78), .val (.int (3 : Int32)), .val (.long q9), .second, .val (.ref br95)] [(.int p3), (.int p3)]))
    refine own_pre (fun t k => XS.icmpNo X95.here hx rfl (hb hby at_246) rfl (teq (rfl : p3 = p3)).2 k) ?_
    show own_Ends _ _ _ _ (T95.setTop (mkF m 249 #[.val (.int p0), .val (.int p1), .val (.int p2), .val (.int p3), .val (.long p4), .second, .val (.int (3 : Int32)), .val (.ref b78), .val (.int (3 : Int32)), .val (.long q9), .second, .val (.ref br95)] []))
    refine own_pre (fun t k => XS.aload X95.here hx rfl (hb hby at_249) rfl rfl k) ?_
    show own_Ends _ _ _ _ (T95.setTop (mkF m 251 #[.val (.int p0), .val (.int p1), .val (.int p2), .val (.int p3), .val (.long p4), .second, .val (.int (3 : Int32)), .val (.ref b78), .val (.int (3 : Int32)), .val (.long q9), .second, .val (.ref br95)] [(.ref b78)]))
    refine own_pre (fun t k => XS.iconst X95.here hx rfl (hb hby at_251) k) ?_
    show own_Ends _ _ _ _ (T95.setTop (mkF m 252 #[.val (.int p0), .val (.int p1), .val (.int p2), .val (.int p3), .val (.long p4), .second, .val (.int (3 : Int32)), .val (.ref b78), .val (.int (3 : Int32)), .val (.long q9), .second, .val (.ref br95)] [(.int (2 : Int32)), (.ref b78)]))
    obtain ⟨cl106, Ar106, q106, S106, M106, H106, G106⟩ := id (f97)
    have hin106 : ¬ ((2 : Int32) < 0 ∨ cl106.slots.size ≤ ((2 : Int32)).toNatClampNeg) := inb_of S106 ⟨by decide, by decide⟩
    have hat106 : cl106.slots[((2 : Int32)).toNatClampNeg]? = some (.int p3) := H106.at hin106 rfl
    refine own_pre (fun t k => X95.iaload hx (j := (2 : Int32)) (v := (.int p3)) Ar106.1 (State.isArrayOf_alike hZ.alike Ar106.2.1) Ar106.2.2 hin106 hat106 (g := (mkF m 252 #[.val (.int p0), .val (.int p1), .val (.int p2), .val (.int p3), .val (.long p4), .second, .val (.int (3 : Int32)), .val (.ref b78), .val (.int (3 : Int32)), .val (.long q9), .second, .val (.ref br95)] [(.int (2 : Int32)), (.ref b78)])) rfl rfl (hb hby at_252) _ k) ?_
    show own_Ends _ _ _ _ (T95.setTop (mkF m 253 #[.val (.int p0), .val (.int p1), .val (.int p2), .val (.int p3), .val (.long p4), .second, .val (.int (3 : Int32)), .val (.ref b78), .val (.int (3 : Int32)), .val (.long q9), .second, .val (.ref br95)] [(.int p3)]))
    refine own_pre (fun t k => XS.iloadN X95.here hx rfl (hb hby at_253) rfl k) ?_
    show own_Ends _ _ _ _ (T95.setTop (mkF m 254 #[.val (.int p0), .val (.int p1), .val (.int p2), .val (.int p3), .val (.long p4), .second, .val (.int (3 : Int32)), .val (.ref b78), .val (.int (3 : Int32)), .val (.long q9), .second, .val (.ref br95)] [(.int p3), (.int p3)]))
    refine own_pre (fun t k => XS.icmpYes X95.here hx rfl (pc0 := 254) (pc' := 259) rfl (hb hby at_254) rfl (teq (rfl : p3 = p3)).1 (by decide) (by decide) k) ?_
    show own_Ends _ _ _ _ (T95.setTop (mkF m 259 #[.val (.int p0), .val (.int p1), .val (.int p2), .val (.int p3), .val (.long p4), .second, .val (.int (3 : Int32)), .val (.ref b78), .val (.int (3 : Int32)), .val (.long q9), .second, .val (.ref br95)] []))
    refine own_pre (fun t k => XS.iload X95.here hx rfl (hb hby at_259) rfl k) ?_
    show own_Ends _ _ _ _ (T95.setTop (mkF m 261 #[.val (.int p0), .val (.int p1), .val (.int p2), .val (.int p3), .val (.long p4), .second, .val (.int (3 : Int32)), .val (.ref b78), .val (.int (3 : Int32)), .val (.long q9), .second, .val (.ref br95)] [(.int (3 : Int32))]))
    refine own_pre (fun t k => XS.bipush X95.here hx rfl (hb hby at_261) k) ?_
    show own_Ends _ _ _ _ (T95.setTop (mkF m 263 #[.val (.int p0), .val (.int p1), .val (.int p2), .val (.int p3), .val (.long p4), .second, .val (.int (3 : Int32)), .val (.ref b78), .val (.int (3 : Int32)), .val (.long q9), .second, .val (.ref br95)] [(.int (14 : Int32)), (.int (3 : Int32))]))
    refine own_pre (fun t k => XS.icmpYes X95.here hx rfl (pc0 := 263) (pc' := 323) rfl (hb hby at_263) rfl (feq ((by decide) : ¬ ((3 : Int32) = (14 : Int32)))).2 (by decide) (by decide) k) ?_
    show own_Ends _ _ _ _ (T95.setTop (mkF m 323 #[.val (.int p0), .val (.int p1), .val (.int p2), .val (.int p3), .val (.long p4), .second, .val (.int (3 : Int32)), .val (.ref b78), .val (.int (3 : Int32)), .val (.long q9), .second, .val (.ref br95)] []))
    refine own_pre (fun t k => XS.iconst X95.here hx rfl (hb hby at_323) k) ?_
    show own_Ends _ _ _ _ (T95.setTop (mkF m 324 #[.val (.int p0), .val (.int p1), .val (.int p2), .val (.int p3), .val (.long p4), .second, .val (.int (3 : Int32)), .val (.ref b78), .val (.int (3 : Int32)), .val (.long q9), .second, .val (.ref br95)] [(.int (1 : Int32))]))
    exact own_retN X95 hx (t := .boolean) Bd.returns (by simp) (hb hby at_324) hlk rfl rfl ⟨rfl, N95⟩ (by decide) (by decide)
  · subst hs26
    show own_Ends _ _ _ _ (s₁.setTop (mkF m 8 #[.val (.int p0), .val (.int p1), .val (.int p2), .val (.int p3), .val (.long p4), .second, .val (.int (4 : Int32)), .unset, .unset, .unset, .unset, .unset] []))
    refine own_pre (fun t k => XS.iload X0.here hx rfl (hb hby at_8) rfl k) ?_
    show own_Ends _ _ _ _ (s₁.setTop (mkF m 10 #[.val (.int p0), .val (.int p1), .val (.int p2), .val (.int p3), .val (.long p4), .second, .val (.int (4 : Int32)), .unset, .unset, .unset, .unset, .unset] [(.int (4 : Int32))]))
    refine own_pre (fun t k => XS.ifYes X0.here hx rfl (pc0 := 10) (pc' := 21) rfl (hb hby at_10) rfl ((if0 _ _).trans (feq ((by decide) : ¬ ((4 : Int32) = (0 : Int32)))).2) (by decide) (by decide) k) ?_
    show own_Ends _ _ _ _ (s₁.setTop (mkF m 21 #[.val (.int p0), .val (.int p1), .val (.int p2), .val (.int p3), .val (.long p4), .second, .val (.int (4 : Int32)), .unset, .unset, .unset, .unset, .unset] []))
    refine own_pre (fun t k => XS.iload X0.here hx rfl (hb hby at_21) rfl k) ?_
    show own_Ends _ _ _ _ (s₁.setTop (mkF m 23 #[.val (.int p0), .val (.int p1), .val (.int p2), .val (.int p3), .val (.long p4), .second, .val (.int (4 : Int32)), .unset, .unset, .unset, .unset, .unset] [(.int (4 : Int32))]))
    refine own_pre (fun t k => XS.iconst X0.here hx rfl (hb hby at_23) k) ?_
    show own_Ends _ _ _ _ (s₁.setTop (mkF m 24 #[.val (.int p0), .val (.int p1), .val (.int p2), .val (.int p3), .val (.long p4), .second, .val (.int (4 : Int32)), .unset, .unset, .unset, .unset, .unset] [(.int (1 : Int32)), (.int (4 : Int32))]))
    refine own_pre (fun t k => XS.icmpYes X0.here hx rfl (pc0 := 24) (pc' := 39) rfl (hb hby at_24) rfl (feq ((by decide) : ¬ ((4 : Int32) = (1 : Int32)))).2 (by decide) (by decide) k) ?_
    show own_Ends _ _ _ _ (s₁.setTop (mkF m 39 #[.val (.int p0), .val (.int p1), .val (.int p2), .val (.int p3), .val (.long p4), .second, .val (.int (4 : Int32)), .unset, .unset, .unset, .unset, .unset] []))
    refine own_pre (fun t k => XS.iload X0.here hx rfl (hb hby at_39) rfl k) ?_
    show own_Ends _ _ _ _ (s₁.setTop (mkF m 41 #[.val (.int p0), .val (.int p1), .val (.int p2), .val (.int p3), .val (.long p4), .second, .val (.int (4 : Int32)), .unset, .unset, .unset, .unset, .unset] [(.int (4 : Int32))]))
    refine own_pre (fun t k => XS.iconst X0.here hx rfl (hb hby at_41) k) ?_
    show own_Ends _ _ _ _ (s₁.setTop (mkF m 42 #[.val (.int p0), .val (.int p1), .val (.int p2), .val (.int p3), .val (.long p4), .second, .val (.int (4 : Int32)), .unset, .unset, .unset, .unset, .unset] [(.int (2 : Int32)), (.int (4 : Int32))]))
    refine own_pre (fun t k => XS.icmpYes X0.here hx rfl (pc0 := 42) (pc' := 61) rfl (hb hby at_42) rfl (feq ((by decide) : ¬ ((4 : Int32) = (2 : Int32)))).2 (by decide) (by decide) k) ?_
    show own_Ends _ _ _ _ (s₁.setTop (mkF m 61 #[.val (.int p0), .val (.int p1), .val (.int p2), .val (.int p3), .val (.long p4), .second, .val (.int (4 : Int32)), .unset, .unset, .unset, .unset, .unset] []))
    refine own_pre (fun t k => XS.iload X0.here hx rfl (hb hby at_61) rfl k) ?_
    show own_Ends _ _ _ _ (s₁.setTop (mkF m 63 #[.val (.int p0), .val (.int p1), .val (.int p2), .val (.int p3), .val (.long p4), .second, .val (.int (4 : Int32)), .unset, .unset, .unset, .unset, .unset] [(.int (4 : Int32))]))
    refine own_pre (fun t k => XS.iconst X0.here hx rfl (hb hby at_63) k) ?_
    show own_Ends _ _ _ _ (s₁.setTop (mkF m 64 #[.val (.int p0), .val (.int p1), .val (.int p2), .val (.int p3), .val (.long p4), .second, .val (.int (4 : Int32)), .unset, .unset, .unset, .unset, .unset] [(.int (3 : Int32)), (.int (4 : Int32))]))
    refine own_pre (fun t k => XS.icmpYes X0.here hx rfl (pc0 := 64) (pc' := 87) rfl (hb hby at_64) rfl (feq ((by decide) : ¬ ((4 : Int32) = (3 : Int32)))).2 (by decide) (by decide) k) ?_
    show own_Ends _ _ _ _ (s₁.setTop (mkF m 87 #[.val (.int p0), .val (.int p1), .val (.int p2), .val (.int p3), .val (.long p4), .second, .val (.int (4 : Int32)), .unset, .unset, .unset, .unset, .unset] []))
    refine own_pre (fun t k => XS.bipush X0.here hx rfl (hb hby at_87) k) ?_
    show own_Ends _ _ _ _ (s₁.setTop (mkF m 89 #[.val (.int p0), .val (.int p1), .val (.int p2), .val (.int p3), .val (.long p4), .second, .val (.int (4 : Int32)), .unset, .unset, .unset, .unset, .unset] [(.int (14 : Int32))]))
    obtain ⟨T107, h107, k107, X107, e107, E107, A107, st107⟩ := newP X0 hx hZ (hw _ (List.mem_of_getElem? (i := 1) rfl)) e0 (g := (mkF m 89 #[.val (.int p0), .val (.int p1), .val (.int p2), .val (.int p3), .val (.long p4), .second, .val (.int (4 : Int32)), .unset, .unset, .unset, .unset, .unset] [(.int (14 : Int32))])) rfl (hb hby at_89) rfl (by decide) (cap := 14) (by decide) (by decide) (by decide) (by decide)
    obtain ⟨b107, g107⟩ : ∃ z, z = h0.size := ⟨_, rfl⟩
    rw [← g107] at A107 st107
    refine own_pre st107 ?_
    have L108 : n0 ≤ b107 := Nat.le_trans Z0 (Nat.le_of_eq g107.symm)
    have Zn109 : n0 ≤ h107.size := Nat.le_trans Z0 E107.1
    have f110 : Arv Z h107 b107 k107 .int (14 : Int32) [(.int (0 : Int32)), (.int (0 : Int32)), (.int (0 : Int32)), (.int (0 : Int32)), (.int (0 : Int32)), (.int (0 : Int32)), (.int (0 : Int32)), (.int (0 : Int32)), (.int (0 : Int32)), (.int (0 : Int32)), (.int (0 : Int32)), (.int (0 : Int32)), (.int (0 : Int32)), (.int (0 : Int32))] (.int (0 : Int32)) := (Arv.new A107 (by decide)).pad (pad_rep [] (.int (0 : Int32)) 14)
    show own_Ends _ _ _ _ (T107.setTop (mkF m 91 #[.val (.int p0), .val (.int p1), .val (.int p2), .val (.int p3), .val (.long p4), .second, .val (.int (4 : Int32)), .unset, .unset, .unset, .unset, .unset] [(.ref b107)]))
    refine own_pre (fun t k => XS.astore X107.here hx rfl (hb hby at_91) rfl rfl (l' := #[.val (.int p0), .val (.int p1), .val (.int p2), .val (.int p3), .val (.long p4), .second, .val (.int (4 : Int32)), .val (.ref b107), .unset, .unset, .unset, .unset]) rfl k) ?_
    show own_Ends _ _ _ _ (T107.setTop (mkF m 93 #[.val (.int p0), .val (.int p1), .val (.int p2), .val (.int p3), .val (.long p4), .second, .val (.int (4 : Int32)), .val (.ref b107), .unset, .unset, .unset, .unset] []))
    refine own_pre (fun t k => XS.aload X107.here hx rfl (hb hby at_93) rfl rfl k) ?_
    show own_Ends _ _ _ _ (T107.setTop (mkF m 95 #[.val (.int p0), .val (.int p1), .val (.int p2), .val (.int p3), .val (.long p4), .second, .val (.int (4 : Int32)), .val (.ref b107), .unset, .unset, .unset, .unset] [(.ref b107)]))
    refine own_pre (fun t k => XS.iconst X107.here hx rfl (hb hby at_95) k) ?_
    show own_Ends _ _ _ _ (T107.setTop (mkF m 96 #[.val (.int p0), .val (.int p1), .val (.int p2), .val (.int p3), .val (.long p4), .second, .val (.int (4 : Int32)), .val (.ref b107), .unset, .unset, .unset, .unset] [(.int (0 : Int32)), (.ref b107)]))
    refine own_pre (fun t k => XS.iloadN X107.here hx rfl (hb hby at_96) rfl k) ?_
    show own_Ends _ _ _ _ (T107.setTop (mkF m 97 #[.val (.int p0), .val (.int p1), .val (.int p2), .val (.int p3), .val (.long p4), .second, .val (.int (4 : Int32)), .val (.ref b107), .unset, .unset, .unset, .unset] [(.int p1), (.int (0 : Int32)), (.ref b107)]))
    obtain ⟨cl111, Ar111, q111, S111, M111, H111, G111⟩ := id (f110)
    have hin111 : ¬ ((0 : Int32) < 0 ∨ cl111.slots.size ≤ ((0 : Int32)).toNatClampNeg) := inb_of S111 ⟨by decide, by decide⟩
    obtain ⟨T111, h111, X111, e111, W111, st111⟩ := stI X107 hx hZ e107 Ar111 (j := (0 : Int32)) hin111 (g := (mkF m 97 #[.val (.int p0), .val (.int p1), .val (.int p2), .val (.int p3), .val (.long p4), .second, .val (.int (4 : Int32)), .val (.ref b107), .unset, .unset, .unset, .unset] [(.int p1), (.int (0 : Int32)), (.ref b107)])) rfl rfl (hb hby at_97)
    refine own_pre st111 ?_
    have f112x := Arv.set Ar111 q111 S111 M111 H111 G111 (show fits .int (.int p1) = true from rfl) W111 0 rfl (Nat.le_of_ble_eq_true rfl)
    have f112 : Arv Z h111 b107 k107 .int (14 : Int32) [(.int p1), (.int (0 : Int32)), (.int (0 : Int32)), (.int (0 : Int32)), (.int (0 : Int32)), (.int (0 : Int32)), (.int (0 : Int32)), (.int (0 : Int32)), (.int (0 : Int32)), (.int (0 : Int32)), (.int (0 : Int32)), (.int (0 : Int32)), (.int (0 : Int32)), (.int (0 : Int32))] (.int (0 : Int32)) := f112x
    have N113 := Fr.snoc X111 N0 L108
    have Zn114 : n0 ≤ h111.size := by rw [W111.size]; exact Zn109
    show own_Ends _ _ _ _ (T111.setTop (mkF m 98 #[.val (.int p0), .val (.int p1), .val (.int p2), .val (.int p3), .val (.long p4), .second, .val (.int (4 : Int32)), .val (.ref b107), .unset, .unset, .unset, .unset] []))
    refine own_pre (fun t k => XS.aload X111.here hx rfl (hb hby at_98) rfl rfl k) ?_
    show own_Ends _ _ _ _ (T111.setTop (mkF m 100 #[.val (.int p0), .val (.int p1), .val (.int p2), .val (.int p3), .val (.long p4), .second, .val (.int (4 : Int32)), .val (.ref b107), .unset, .unset, .unset, .unset] [(.ref b107)]))
    refine own_pre (fun t k => XS.bipush X111.here hx rfl (hb hby at_100) k) ?_
    show own_Ends _ _ _ _ (T111.setTop (mkF m 102 #[.val (.int p0), .val (.int p1), .val (.int p2), .val (.int p3), .val (.long p4), .second, .val (.int (4 : Int32)), .val (.ref b107), .unset, .unset, .unset, .unset] [(.int (6 : Int32)), (.ref b107)]))
    refine own_pre (fun t k => XS.iloadN X111.here hx rfl (hb hby at_102) rfl k) ?_
    show own_Ends _ _ _ _ (T111.setTop (mkF m 103 #[.val (.int p0), .val (.int p1), .val (.int p2), .val (.int p3), .val (.long p4), .second, .val (.int (4 : Int32)), .val (.ref b107), .unset, .unset, .unset, .unset] [(.int p2), (.int (6 : Int32)), (.ref b107)]))
    obtain ⟨cl115, Ar115, q115, S115, M115, H115, G115⟩ := id (f112)
    have hin115 : ¬ ((6 : Int32) < 0 ∨ cl115.slots.size ≤ ((6 : Int32)).toNatClampNeg) := inb_of S115 ⟨by decide, by decide⟩
    obtain ⟨T115, h115, X115, e115, W115, st115⟩ := stI X111 hx hZ e111 Ar115 (j := (6 : Int32)) hin115 (g := (mkF m 103 #[.val (.int p0), .val (.int p1), .val (.int p2), .val (.int p3), .val (.long p4), .second, .val (.int (4 : Int32)), .val (.ref b107), .unset, .unset, .unset, .unset] [(.int p2), (.int (6 : Int32)), (.ref b107)])) rfl rfl (hb hby at_103)
    refine own_pre st115 ?_
    have f116x := Arv.set Ar115 q115 S115 M115 H115 G115 (show fits .int (.int p2) = true from rfl) W115 6 rfl (Nat.le_of_ble_eq_true rfl)
    have f116 : Arv Z h115 b107 k107 .int (14 : Int32) [(.int p1), (.int (0 : Int32)), (.int (0 : Int32)), (.int (0 : Int32)), (.int (0 : Int32)), (.int (0 : Int32)), (.int p2), (.int (0 : Int32)), (.int (0 : Int32)), (.int (0 : Int32)), (.int (0 : Int32)), (.int (0 : Int32)), (.int (0 : Int32)), (.int (0 : Int32))] (.int (0 : Int32)) := f116x
    have N117 := Fr.snoc X115 N113 L108
    have Zn118 : n0 ≤ h115.size := by rw [W115.size]; exact Zn114
    show own_Ends _ _ _ _ (T115.setTop (mkF m 104 #[.val (.int p0), .val (.int p1), .val (.int p2), .val (.int p3), .val (.long p4), .second, .val (.int (4 : Int32)), .val (.ref b107), .unset, .unset, .unset, .unset] []))
    refine own_pre (fun t k => XS.aload X115.here hx rfl (hb hby at_104) rfl rfl k) ?_
    show own_Ends _ _ _ _ (T115.setTop (mkF m 106 #[.val (.int p0), .val (.int p1), .val (.int p2), .val (.int p3), .val (.long p4), .second, .val (.int (4 : Int32)), .val (.ref b107), .unset, .unset, .unset, .unset] [(.ref b107)]))
    refine own_pre (fun t k => XS.bipush X115.here hx rfl (hb hby at_106) k) ?_
    show own_Ends _ _ _ _ (T115.setTop (mkF m 108 #[.val (.int p0), .val (.int p1), .val (.int p2), .val (.int p3), .val (.long p4), .second, .val (.int (4 : Int32)), .val (.ref b107), .unset, .unset, .unset, .unset] [(.int (13 : Int32)), (.ref b107)]))
    refine own_pre (fun t k => XS.iloadN X115.here hx rfl (hb hby at_108) rfl k) ?_
    show own_Ends _ _ _ _ (T115.setTop (mkF m 109 #[.val (.int p0), .val (.int p1), .val (.int p2), .val (.int p3), .val (.long p4), .second, .val (.int (4 : Int32)), .val (.ref b107), .unset, .unset, .unset, .unset] [(.int p3), (.int (13 : Int32)), (.ref b107)]))
    obtain ⟨cl119, Ar119, q119, S119, M119, H119, G119⟩ := id (f116)
    have hin119 : ¬ ((13 : Int32) < 0 ∨ cl119.slots.size ≤ ((13 : Int32)).toNatClampNeg) := inb_of S119 ⟨by decide, by decide⟩
    obtain ⟨T119, h119, X119, e119, W119, st119⟩ := stI X115 hx hZ e115 Ar119 (j := (13 : Int32)) hin119 (g := (mkF m 109 #[.val (.int p0), .val (.int p1), .val (.int p2), .val (.int p3), .val (.long p4), .second, .val (.int (4 : Int32)), .val (.ref b107), .unset, .unset, .unset, .unset] [(.int p3), (.int (13 : Int32)), (.ref b107)])) rfl rfl (hb hby at_109)
    refine own_pre st119 ?_
    have f120x := Arv.set Ar119 q119 S119 M119 H119 G119 (show fits .int (.int p3) = true from rfl) W119 13 rfl (Nat.le_of_ble_eq_true rfl)
    have f120 : Arv Z h119 b107 k107 .int (14 : Int32) [(.int p1), (.int (0 : Int32)), (.int (0 : Int32)), (.int (0 : Int32)), (.int (0 : Int32)), (.int (0 : Int32)), (.int p2), (.int (0 : Int32)), (.int (0 : Int32)), (.int (0 : Int32)), (.int (0 : Int32)), (.int (0 : Int32)), (.int (0 : Int32)), (.int p3)] (.int (0 : Int32)) := f120x
    have N121 := Fr.snoc X119 N117 L108
    have Zn122 : n0 ≤ h119.size := by rw [W119.size]; exact Zn118
    show own_Ends _ _ _ _ (T119.setTop (mkF m 110 #[.val (.int p0), .val (.int p1), .val (.int p2), .val (.int p3), .val (.long p4), .second, .val (.int (4 : Int32)), .val (.ref b107), .unset, .unset, .unset, .unset] []))
    refine own_pre (fun t k => XS.aload X119.here hx rfl (hb hby at_110) rfl rfl k) ?_
    show own_Ends _ _ _ _ (T119.setTop (mkF m 112 #[.val (.int p0), .val (.int p1), .val (.int p2), .val (.int p3), .val (.long p4), .second, .val (.int (4 : Int32)), .val (.ref b107), .unset, .unset, .unset, .unset] [(.ref b107)]))
    obtain ⟨cl123, Ar123, -, S123, M123, -, -⟩ := id (f120)
    refine own_pre (fun t k => own_len X119 hx e119 hZ Ar123 S123 M123 (g := (mkF m 112 #[.val (.int p0), .val (.int p1), .val (.int p2), .val (.int p3), .val (.long p4), .second, .val (.int (4 : Int32)), .val (.ref b107), .unset, .unset, .unset, .unset] [(.ref b107)])) rfl rfl (hb hby at_112) k) ?_
    show own_Ends _ _ _ _ (T119.setTop (mkF m 113 #[.val (.int p0), .val (.int p1), .val (.int p2), .val (.int p3), .val (.long p4), .second, .val (.int (4 : Int32)), .val (.ref b107), .unset, .unset, .unset, .unset] [(.int (14 : Int32))]))
    refine own_pre (fun t k => XS.istore X119.here hx rfl (hb hby at_113) rfl (l' := #[.val (.int p0), .val (.int p1), .val (.int p2), .val (.int p3), .val (.long p4), .second, .val (.int (4 : Int32)), .val (.ref b107), .val (.int (14 : Int32)), .unset, .unset, .unset]) rfl k) ?_
    show own_Ends _ _ _ _ (T119.setTop (mkF m 115 #[.val (.int p0), .val (.int p1), .val (.int p2), .val (.int p3), .val (.long p4), .second, .val (.int (4 : Int32)), .val (.ref b107), .val (.int (14 : Int32)), .unset, .unset, .unset] []))
    refine own_pre (fun t k => XS.lload X119.here hx rfl (hb hby at_115) rfl k) ?_
    show own_Ends _ _ _ _ (T119.setTop (mkF m 117 #[.val (.int p0), .val (.int p1), .val (.int p2), .val (.int p3), .val (.long p4), .second, .val (.int (4 : Int32)), .val (.ref b107), .val (.int (14 : Int32)), .unset, .unset, .unset] [(.long p4)]))
    refine own_pre (fun t k => X119.ldc2Long hx hown (mvT hZ (hw _ (List.mem_of_getElem? (i := 2) rfl))) (g := (mkF m 117 #[.val (.int p0), .val (.int p1), .val (.int p2), .val (.int p3), .val (.long p4), .second, .val (.int (4 : Int32)), .val (.ref b107), .val (.int (14 : Int32)), .unset, .unset, .unset] [(.long p4)])) rfl (hb hby at_117) _ k) ?_
    show own_Ends _ _ _ _ (T119.setTop (mkF m 120 #[.val (.int p0), .val (.int p1), .val (.int p2), .val (.int p3), .val (.long p4), .second, .val (.int (4 : Int32)), .val (.ref b107), .val (.int (14 : Int32)), .unset, .unset, .unset] [(.long (4294967295 : Int64)), (.long p4)]))
    refine own_pre (fun t k => XS.land X119.here hx rfl (hb hby at_120) rfl k) ?_
    show own_Ends _ _ _ _ (T119.setTop (mkF m 121 #[.val (.int p0), .val (.int p1), .val (.int p2), .val (.int p3), .val (.long p4), .second, .val (.int (4 : Int32)), .val (.ref b107), .val (.int (14 : Int32)), .unset, .unset, .unset] [(.long (p4 &&& (4294967295 : Int64)))]))
    refine own_pre (fun t k => XS.lstore X119.here hx rfl (hb hby at_121) rfl (l' := #[.val (.int p0), .val (.int p1), .val (.int p2), .val (.int p3), .val (.long p4), .second, .val (.int (4 : Int32)), .val (.ref b107), .val (.int (14 : Int32)), .val (.long (p4 &&& (4294967295 : Int64))), .second, .unset]) rfl k) ?_
    show own_Ends _ _ _ _ (T119.setTop (mkF m 123 #[.val (.int p0), .val (.int p1), .val (.int p2), .val (.int p3), .val (.long p4), .second, .val (.int (4 : Int32)), .val (.ref b107), .val (.int (14 : Int32)), .val (.long (p4 &&& (4294967295 : Int64))), .second, .unset] []))
    generalize hq9 : (p4 &&& (4294967295 : Int64)) = q9
    show own_Ends _ _ _ _ (T119.setTop (mkF m 123 #[.val (.int p0), .val (.int p1), .val (.int p2), .val (.int p3), .val (.long p4), .second, .val (.int (4 : Int32)), .val (.ref b107), .val (.int (14 : Int32)), .val (.long q9), .second, .unset] []))
    refine own_pre (fun t k => XS.aload X119.here hx rfl (hb hby at_123) rfl rfl k) ?_
    show own_Ends _ _ _ _ (T119.setTop (mkF m 125 #[.val (.int p0), .val (.int p1), .val (.int p2), .val (.int p3), .val (.long p4), .second, .val (.int (4 : Int32)), .val (.ref b107), .val (.int (14 : Int32)), .val (.long q9), .second, .unset] [(.ref b107)]))
    refine own_pre (fun t k => XS.lload X119.here hx rfl (hb hby at_125) rfl k) ?_
    show own_Ends _ _ _ _ (T119.setTop (mkF m 127 #[.val (.int p0), .val (.int p1), .val (.int p2), .val (.int p3), .val (.long p4), .second, .val (.int (4 : Int32)), .val (.ref b107), .val (.int (14 : Int32)), .val (.long q9), .second, .unset] [(.long q9), (.ref b107)]))
    obtain ⟨_, _, ⟨T124, L124, k124, n124⟩, -, X124, ⟨Lc124, hQ124, l124, y124, z124⟩, st124⟩ := Jvm.LawKit.callS X119 hx (y := (⟨"com/example/many_dashes/manydashes/form/SidLimits", "appended", "([IJ)[I"⟩ : MethodName)) hown (mvT hZ (hw _ (List.mem_of_getElem? (i := 3) rfl))) (mvT hZ (hw _ (List.mem_of_getElem? (i := 4) rfl))) (mvT hZ (hw _ (List.mem_of_getElem? (i := 5) rfl))) (mvT hZ (hw _ (List.mem_of_getElem? (i := 6) rfl))) (by decide) (backOf (W := 0) (rm3 l Z a0 hw [] b107 q9 k107 (14 : Int32) [(.int p1), (.int (0 : Int32)), (.int (0 : Int32)), (.int (0 : Int32)), (.int (0 : Int32)), (.int (0 : Int32)), (.int p2), (.int (0 : Int32)), (.int (0 : Int32)), (.int (0 : Int32)), (.int (0 : Int32)), (.int (0 : Int32)), (.int (0 : Int32)), (.int p3)] h119 n0 Zn122 f120 (by decide) (hq9 ▸ own_val p4).1 (hq9 ▸ own_val p4).2 (by decide) (by decide) (by decide) (by decide) (by decide) (by decide) rfl) hZ (hw _ (List.mem_of_getElem? (i := 6) rfl)) (hw _ (List.mem_of_getElem? (i := 5) rfl)) (by decide) (by decide)) (g := (mkF m 127 #[.val (.int p0), .val (.int p1), .val (.int p2), .val (.int p3), .val (.long p4), .second, .val (.int (4 : Int32)), .val (.ref b107), .val (.int (14 : Int32)), .val (.long q9), .second, .unset] [(.long q9), (.ref b107)])) rfl (by rw [hml]; rfl) (argsL := [(.ref b107), (.long q9)]) (rest := []) (lenOf own_pd2 rfl) rfl (by show 2 * 0 + _ ≤ _; exact Nat.le_of_eq rfl) (hb hby at_127) (fun _ _ => ⟨rfl, e119, (by decide : 1 + 1 ≤ _), (by decide : 14 + 15 ≤ _)⟩)
    dsimp only [Pt.U, Pt.locs, Pt.cells, Pt.slots] at X124 l124 y124 z124 st124 hQ124
    subst l124 y124 z124
    obtain ⟨br124, kb124, rfl, Nq124, Kq124, va124, la124, lb124⟩ := hQ124
    have N124 := Fr.app N121 Nq124
    have ne125 : b107 ≠ br124 := Nat.ne_of_lt (Nat.lt_of_lt_of_le f120.lt lb124)
    have f126 := f120.keep Kq124 nin0
    have Zn124 : n0 ≤ T124.heap.size := Nat.le_trans Zn122 Kq124.1
    have va124 : Arv Z T124.heap br124 kb124 .int (15 : Int32) [(.int p1), (.int (0 : Int32)), (.int (0 : Int32)), (.int (0 : Int32)), (.int (0 : Int32)), (.int (0 : Int32)), (.int p2), (.int (0 : Int32)), (.int (0 : Int32)), (.int (0 : Int32)), (.int (0 : Int32)), (.int (0 : Int32)), (.int (0 : Int32)), (.int p3), (.int (q9.toInt32))] (.int (0 : Int32)) := va124
    refine own_pre st124 ?_
    show own_Ends _ _ _ _ (T124.setTop (mkF m 130 #[.val (.int p0), .val (.int p1), .val (.int p2), .val (.int p3), .val (.long p4), .second, .val (.int (4 : Int32)), .val (.ref b107), .val (.int (14 : Int32)), .val (.long q9), .second, .unset] [(.ref br124)]))
    refine own_pre (fun t k => XS.astore X124.here hx rfl (hb hby at_130) rfl rfl (l' := #[.val (.int p0), .val (.int p1), .val (.int p2), .val (.int p3), .val (.long p4), .second, .val (.int (4 : Int32)), .val (.ref b107), .val (.int (14 : Int32)), .val (.long q9), .second, .val (.ref br124)]) rfl k) ?_
    show own_Ends _ _ _ _ (T124.setTop (mkF m 132 #[.val (.int p0), .val (.int p1), .val (.int p2), .val (.int p3), .val (.long p4), .second, .val (.int (4 : Int32)), .val (.ref b107), .val (.int (14 : Int32)), .val (.long q9), .second, .val (.ref br124)] []))
    refine own_pre (fun t k => XS.aload X124.here hx rfl (hb hby at_132) rfl rfl k) ?_
    show own_Ends _ _ _ _ (T124.setTop (mkF m 134 #[.val (.int p0), .val (.int p1), .val (.int p2), .val (.int p3), .val (.long p4), .second, .val (.int (4 : Int32)), .val (.ref b107), .val (.int (14 : Int32)), .val (.long q9), .second, .val (.ref br124)] [(.ref br124)]))
    refine own_pre (fun t k => XS.aload X124.here hx rfl (hb hby at_134) rfl rfl k) ?_
    show own_Ends _ _ _ _ (T124.setTop (mkF m 136 #[.val (.int p0), .val (.int p1), .val (.int p2), .val (.int p3), .val (.long p4), .second, .val (.int (4 : Int32)), .val (.ref b107), .val (.int (14 : Int32)), .val (.long q9), .second, .val (.ref br124)] [(.ref b107), (.ref br124)]))
    refine own_pre (fun t k => Jvm.RoadKit.acmp (g := (mkF m 136 #[.val (.int p0), .val (.int p1), .val (.int p2), .val (.int p3), .val (.long p4), .second, .val (.int (4 : Int32)), .val (.ref b107), .val (.int (14 : Int32)), .val (.long q9), .second, .val (.ref br124)] [(.ref b107), (.ref br124)])) X124 hx rfl rfl rfl (pc0 := 136) (pc' := 141) (same := false) rfl (hb hby at_136) rfl (decide_eq_false fun q => (Ne.symm ne125) (Value.ref.inj q)) (by decide) (by decide) k) ?_
    show own_Ends _ _ _ _ (T124.setTop (mkF m 141 #[.val (.int p0), .val (.int p1), .val (.int p2), .val (.int p3), .val (.long p4), .second, .val (.int (4 : Int32)), .val (.ref b107), .val (.int (14 : Int32)), .val (.long q9), .second, .val (.ref br124)] []))
    refine own_pre (fun t k => XS.aload X124.here hx rfl (hb hby at_141) rfl rfl k) ?_
    show own_Ends _ _ _ _ (T124.setTop (mkF m 143 #[.val (.int p0), .val (.int p1), .val (.int p2), .val (.int p3), .val (.long p4), .second, .val (.int (4 : Int32)), .val (.ref b107), .val (.int (14 : Int32)), .val (.long q9), .second, .val (.ref br124)] [(.ref br124)]))
    obtain ⟨cl127, Ar127, -, S127, M127, -, -⟩ := id (va124)
    refine own_pre (fun t k => own_len X124 hx rfl hZ Ar127 S127 M127 (g := (mkF m 143 #[.val (.int p0), .val (.int p1), .val (.int p2), .val (.int p3), .val (.long p4), .second, .val (.int (4 : Int32)), .val (.ref b107), .val (.int (14 : Int32)), .val (.long q9), .second, .val (.ref br124)] [(.ref br124)])) rfl rfl (hb hby at_143) k) ?_
    show own_Ends _ _ _ _ (T124.setTop (mkF m 144 #[.val (.int p0), .val (.int p1), .val (.int p2), .val (.int p3), .val (.long p4), .second, .val (.int (4 : Int32)), .val (.ref b107), .val (.int (14 : Int32)), .val (.long q9), .second, .val (.ref br124)] [(.int (15 : Int32))]))
    refine own_pre (fun t k => XS.iload X124.here hx rfl (hb hby at_144) rfl k) ?_
    show own_Ends _ _ _ _ (T124.setTop (mkF m 146 #[.val (.int p0), .val (.int p1), .val (.int p2), .val (.int p3), .val (.long p4), .second, .val (.int (4 : Int32)), .val (.ref b107), .val (.int (14 : Int32)), .val (.long q9), .second, .val (.ref br124)] [(.int (14 : Int32)), (.int (15 : Int32))]))
    refine own_pre (fun t k => XS.iconst X124.here hx rfl (hb hby at_146) k) ?_
    show own_Ends _ _ _ _ (T124.setTop (mkF m 147 #[.val (.int p0), .val (.int p1), .val (.int p2), .val (.int p3), .val (.long p4), .second, .val (.int (4 : Int32)), .val (.ref b107), .val (.int (14 : Int32)), .val (.long q9), .second, .val (.ref br124)] [(.int (1 : Int32)), (.int (14 : Int32)), (.int (15 : Int32))]))
    refine own_pre (fun t k => XS.iadd X124.here hx rfl (hb hby at_147) rfl k) ?_
    show own_Ends _ _ _ _ (T124.setTop (mkF m 148 #[.val (.int p0), .val (.int p1), .val (.int p2), .val (.int p3), .val (.long p4), .second, .val (.int (4 : Int32)), .val (.ref b107), .val (.int (14 : Int32)), .val (.long q9), .second, .val (.ref br124)] [(.int (15 : Int32)), (.int (15 : Int32))]))
    refine own_pre (fun t k => XS.icmpYes X124.here hx rfl (pc0 := 148) (pc' := 153) rfl (hb hby at_148) rfl (teq ((by decide) : (15 : Int32) = (15 : Int32))).1 (by decide) (by decide) k) ?_
    show own_Ends _ _ _ _ (T124.setTop (mkF m 153 #[.val (.int p0), .val (.int p1), .val (.int p2), .val (.int p3), .val (.long p4), .second, .val (.int (4 : Int32)), .val (.ref b107), .val (.int (14 : Int32)), .val (.long q9), .second, .val (.ref br124)] []))
    refine own_pre (fun t k => XS.aload X124.here hx rfl (hb hby at_153) rfl rfl k) ?_
    show own_Ends _ _ _ _ (T124.setTop (mkF m 155 #[.val (.int p0), .val (.int p1), .val (.int p2), .val (.int p3), .val (.long p4), .second, .val (.int (4 : Int32)), .val (.ref b107), .val (.int (14 : Int32)), .val (.long q9), .second, .val (.ref br124)] [(.ref br124)]))
    refine own_pre (fun t k => XS.iload X124.here hx rfl (hb hby at_155) rfl k) ?_
    show own_Ends _ _ _ _ (T124.setTop (mkF m 157 #[.val (.int p0), .val (.int p1), .val (.int p2), .val (.int p3), .val (.long p4), .second, .val (.int (4 : Int32)), .val (.ref b107), .val (.int (14 : Int32)), .val (.long q9), .second, .val (.ref br124)] [(.int (14 : Int32)), (.ref br124)]))
    obtain ⟨cl128, Ar128, q128, S128, M128, H128, G128⟩ := id (va124)
    have hin128 : ¬ ((14 : Int32) < 0 ∨ cl128.slots.size ≤ ((14 : Int32)).toNatClampNeg) := inb_of S128 ⟨by decide, by decide⟩
    have hat128 : cl128.slots[((14 : Int32)).toNatClampNeg]? = some (.int (q9.toInt32)) := H128.at hin128 rfl
    refine own_pre (fun t k => X124.iaload hx (j := (14 : Int32)) (v := (.int (q9.toInt32))) Ar128.1 (State.isArrayOf_alike hZ.alike Ar128.2.1) Ar128.2.2 hin128 hat128 (g := (mkF m 157 #[.val (.int p0), .val (.int p1), .val (.int p2), .val (.int p3), .val (.long p4), .second, .val (.int (4 : Int32)), .val (.ref b107), .val (.int (14 : Int32)), .val (.long q9), .second, .val (.ref br124)] [(.int (14 : Int32)), (.ref br124)])) rfl rfl (hb hby at_157) _ k) ?_
    show own_Ends _ _ _ _ (T124.setTop (mkF m 158 #[.val (.int p0), .val (.int p1), .val (.int p2), .val (.int p3), .val (.long p4), .second, .val (.int (4 : Int32)), .val (.ref b107), .val (.int (14 : Int32)), .val (.long q9), .second, .val (.ref br124)] [(.int (q9.toInt32))]))
    refine own_pre (fun t k => XS.i2l X124.here hx rfl (hb hby at_158) rfl k) ?_
    show own_Ends _ _ _ _ (T124.setTop (mkF m 159 #[.val (.int p0), .val (.int p1), .val (.int p2), .val (.int p3), .val (.long p4), .second, .val (.int (4 : Int32)), .val (.ref b107), .val (.int (14 : Int32)), .val (.long q9), .second, .val (.ref br124)] [(.long ((q9.toInt32).toInt64))]))
    refine own_pre (fun t k => X124.ldc2Long hx hown (mvT hZ (hw _ (List.mem_of_getElem? (i := 2) rfl))) (g := (mkF m 159 #[.val (.int p0), .val (.int p1), .val (.int p2), .val (.int p3), .val (.long p4), .second, .val (.int (4 : Int32)), .val (.ref b107), .val (.int (14 : Int32)), .val (.long q9), .second, .val (.ref br124)] [(.long ((q9.toInt32).toInt64))])) rfl (hb hby at_159) _ k) ?_
    show own_Ends _ _ _ _ (T124.setTop (mkF m 162 #[.val (.int p0), .val (.int p1), .val (.int p2), .val (.int p3), .val (.long p4), .second, .val (.int (4 : Int32)), .val (.ref b107), .val (.int (14 : Int32)), .val (.long q9), .second, .val (.ref br124)] [(.long (4294967295 : Int64)), (.long ((q9.toInt32).toInt64))]))
    refine own_pre (fun t k => XS.land X124.here hx rfl (hb hby at_162) rfl k) ?_
    show own_Ends _ _ _ _ (T124.setTop (mkF m 163 #[.val (.int p0), .val (.int p1), .val (.int p2), .val (.int p3), .val (.long p4), .second, .val (.int (4 : Int32)), .val (.ref b107), .val (.int (14 : Int32)), .val (.long q9), .second, .val (.ref br124)] [(.long (((q9.toInt32).toInt64) &&& (4294967295 : Int64)))]))
    refine own_pre (fun t k => XS.lload X124.here hx rfl (hb hby at_163) rfl k) ?_
    show own_Ends _ _ _ _ (T124.setTop (mkF m 165 #[.val (.int p0), .val (.int p1), .val (.int p2), .val (.int p3), .val (.long p4), .second, .val (.int (4 : Int32)), .val (.ref b107), .val (.int (14 : Int32)), .val (.long q9), .second, .val (.ref br124)] [(.long q9), (.long (((q9.toInt32).toInt64) &&& (4294967295 : Int64)))]))
    refine own_pre (fun t k => XS.lcmp X124.here hx rfl (hb hby at_165) rfl k) ?_
    show own_Ends _ _ _ _ (T124.setTop (mkF m 166 #[.val (.int p0), .val (.int p1), .val (.int p2), .val (.int p3), .val (.long p4), .second, .val (.int (4 : Int32)), .val (.ref b107), .val (.int (14 : Int32)), .val (.long q9), .second, .val (.ref br124)] [(.int (own_cmpL (((q9.toInt32).toInt64) &&& (4294967295 : Int64)) q9))]))
    refine own_pre (fun t k => XS.ifYes X124.here hx rfl (pc0 := 166) (pc' := 171) rfl (hb hby at_166) rfl ((if0 _ _).trans (teq (hq9 ▸ own_low p4 : (own_cmpL (((q9.toInt32).toInt64) &&& (4294967295 : Int64)) q9) = (0 : Int32))).1) (by decide) (by decide) k) ?_
    show own_Ends _ _ _ _ (T124.setTop (mkF m 171 #[.val (.int p0), .val (.int p1), .val (.int p2), .val (.int p3), .val (.long p4), .second, .val (.int (4 : Int32)), .val (.ref b107), .val (.int (14 : Int32)), .val (.long q9), .second, .val (.ref br124)] []))
    refine own_pre (fun t k => XS.aload X124.here hx rfl (hb hby at_171) rfl rfl k) ?_
    show own_Ends _ _ _ _ (T124.setTop (mkF m 173 #[.val (.int p0), .val (.int p1), .val (.int p2), .val (.int p3), .val (.long p4), .second, .val (.int (4 : Int32)), .val (.ref b107), .val (.int (14 : Int32)), .val (.long q9), .second, .val (.ref br124)] [(.ref b107)]))
    obtain ⟨cl129, Ar129, -, S129, M129, -, -⟩ := id (f126)
    refine own_pre (fun t k => own_len X124 hx rfl hZ Ar129 S129 M129 (g := (mkF m 173 #[.val (.int p0), .val (.int p1), .val (.int p2), .val (.int p3), .val (.long p4), .second, .val (.int (4 : Int32)), .val (.ref b107), .val (.int (14 : Int32)), .val (.long q9), .second, .val (.ref br124)] [(.ref b107)])) rfl rfl (hb hby at_173) k) ?_
    show own_Ends _ _ _ _ (T124.setTop (mkF m 174 #[.val (.int p0), .val (.int p1), .val (.int p2), .val (.int p3), .val (.long p4), .second, .val (.int (4 : Int32)), .val (.ref b107), .val (.int (14 : Int32)), .val (.long q9), .second, .val (.ref br124)] [(.int (14 : Int32))]))
    refine own_pre (fun t k => XS.iload X124.here hx rfl (hb hby at_174) rfl k) ?_
    show own_Ends _ _ _ _ (T124.setTop (mkF m 176 #[.val (.int p0), .val (.int p1), .val (.int p2), .val (.int p3), .val (.long p4), .second, .val (.int (4 : Int32)), .val (.ref b107), .val (.int (14 : Int32)), .val (.long q9), .second, .val (.ref br124)] [(.int (14 : Int32)), (.int (14 : Int32))]))
    refine own_pre (fun t k => XS.icmpYes X124.here hx rfl (pc0 := 176) (pc' := 181) rfl (hb hby at_176) rfl (teq ((by decide) : (14 : Int32) = (14 : Int32))).1 (by decide) (by decide) k) ?_
    show own_Ends _ _ _ _ (T124.setTop (mkF m 181 #[.val (.int p0), .val (.int p1), .val (.int p2), .val (.int p3), .val (.long p4), .second, .val (.int (4 : Int32)), .val (.ref b107), .val (.int (14 : Int32)), .val (.long q9), .second, .val (.ref br124)] []))
    refine own_pre (fun t k => XS.iload X124.here hx rfl (hb hby at_181) rfl k) ?_
    show own_Ends _ _ _ _ (T124.setTop (mkF m 183 #[.val (.int p0), .val (.int p1), .val (.int p2), .val (.int p3), .val (.long p4), .second, .val (.int (4 : Int32)), .val (.ref b107), .val (.int (14 : Int32)), .val (.long q9), .second, .val (.ref br124)] [(.int (14 : Int32))]))
    refine own_pre (fun t k => XS.iconst X124.here hx rfl (hb hby at_183) k) ?_
    show own_Ends _ _ _ _ (T124.setTop (mkF m 184 #[.val (.int p0), .val (.int p1), .val (.int p2), .val (.int p3), .val (.long p4), .second, .val (.int (4 : Int32)), .val (.ref b107), .val (.int (14 : Int32)), .val (.long q9), .second, .val (.ref br124)] [(.int (1 : Int32)), (.int (14 : Int32))]))
    refine own_pre (fun t k => XS.icmpNo X124.here hx rfl (hb hby at_184) rfl (flt ((by decide) : ¬ ((14 : Int32) < (1 : Int32)))).1 k) ?_
    show own_Ends _ _ _ _ (T124.setTop (mkF m 187 #[.val (.int p0), .val (.int p1), .val (.int p2), .val (.int p3), .val (.long p4), .second, .val (.int (4 : Int32)), .val (.ref b107), .val (.int (14 : Int32)), .val (.long q9), .second, .val (.ref br124)] []))
    refine own_pre (fun t k => XS.aload X124.here hx rfl (hb hby at_187) rfl rfl k) ?_
    show own_Ends _ _ _ _ (T124.setTop (mkF m 189 #[.val (.int p0), .val (.int p1), .val (.int p2), .val (.int p3), .val (.long p4), .second, .val (.int (4 : Int32)), .val (.ref b107), .val (.int (14 : Int32)), .val (.long q9), .second, .val (.ref br124)] [(.ref br124)]))
    refine own_pre (fun t k => XS.iconst X124.here hx rfl (hb hby at_189) k) ?_
    show own_Ends _ _ _ _ (T124.setTop (mkF m 190 #[.val (.int p0), .val (.int p1), .val (.int p2), .val (.int p3), .val (.long p4), .second, .val (.int (4 : Int32)), .val (.ref b107), .val (.int (14 : Int32)), .val (.long q9), .second, .val (.ref br124)] [(.int (0 : Int32)), (.ref br124)]))
    obtain ⟨cl130, Ar130, q130, S130, M130, H130, G130⟩ := id (va124)
    have hin130 : ¬ ((0 : Int32) < 0 ∨ cl130.slots.size ≤ ((0 : Int32)).toNatClampNeg) := inb_of S130 ⟨by decide, by decide⟩
    have hat130 : cl130.slots[((0 : Int32)).toNatClampNeg]? = some (.int p1) := H130.at hin130 rfl
    refine own_pre (fun t k => X124.iaload hx (j := (0 : Int32)) (v := (.int p1)) Ar130.1 (State.isArrayOf_alike hZ.alike Ar130.2.1) Ar130.2.2 hin130 hat130 (g := (mkF m 190 #[.val (.int p0), .val (.int p1), .val (.int p2), .val (.int p3), .val (.long p4), .second, .val (.int (4 : Int32)), .val (.ref b107), .val (.int (14 : Int32)), .val (.long q9), .second, .val (.ref br124)] [(.int (0 : Int32)), (.ref br124)])) rfl rfl (hb hby at_190) _ k) ?_
    show own_Ends _ _ _ _ (T124.setTop (mkF m 191 #[.val (.int p0), .val (.int p1), .val (.int p2), .val (.int p3), .val (.long p4), .second, .val (.int (4 : Int32)), .val (.ref b107), .val (.int (14 : Int32)), .val (.long q9), .second, .val (.ref br124)] [(.int p1)]))
    refine own_pre (fun t k => XS.iloadN X124.here hx rfl (hb hby at_191) rfl k) ?_
    show own_Ends _ _ _ _ (T124.setTop (mkF m 192 #[.val (.int p0), .val (.int p1), .val (.int p2), .val (.int p3), .val (.long p4), .second, .val (.int (4 : Int32)), .val (.ref b107), .val (.int (14 : Int32)), .val (.long q9), .second, .val (.ref br124)] [(.int p1), (.int p1)]))
    refine own_pre (fun t k => XS.icmpNo X124.here hx rfl (hb hby at_192) rfl (teq (rfl : p1 = p1)).2 k) ?_
    show own_Ends _ _ _ _ (T124.setTop (mkF m 195 #[.val (.int p0), .val (.int p1), .val (.int p2), .val (.int p3), .val (.long p4), .second, .val (.int (4 : Int32)), .val (.ref b107), .val (.int (14 : Int32)), .val (.long q9), .second, .val (.ref br124)] []))
    refine own_pre (fun t k => XS.aload X124.here hx rfl (hb hby at_195) rfl rfl k) ?_
    show own_Ends _ _ _ _ (T124.setTop (mkF m 197 #[.val (.int p0), .val (.int p1), .val (.int p2), .val (.int p3), .val (.long p4), .second, .val (.int (4 : Int32)), .val (.ref b107), .val (.int (14 : Int32)), .val (.long q9), .second, .val (.ref br124)] [(.ref b107)]))
    refine own_pre (fun t k => XS.iconst X124.here hx rfl (hb hby at_197) k) ?_
    show own_Ends _ _ _ _ (T124.setTop (mkF m 198 #[.val (.int p0), .val (.int p1), .val (.int p2), .val (.int p3), .val (.long p4), .second, .val (.int (4 : Int32)), .val (.ref b107), .val (.int (14 : Int32)), .val (.long q9), .second, .val (.ref br124)] [(.int (0 : Int32)), (.ref b107)]))
    obtain ⟨cl131, Ar131, q131, S131, M131, H131, G131⟩ := id (f126)
    have hin131 : ¬ ((0 : Int32) < 0 ∨ cl131.slots.size ≤ ((0 : Int32)).toNatClampNeg) := inb_of S131 ⟨by decide, by decide⟩
    have hat131 : cl131.slots[((0 : Int32)).toNatClampNeg]? = some (.int p1) := H131.at hin131 rfl
    refine own_pre (fun t k => X124.iaload hx (j := (0 : Int32)) (v := (.int p1)) Ar131.1 (State.isArrayOf_alike hZ.alike Ar131.2.1) Ar131.2.2 hin131 hat131 (g := (mkF m 198 #[.val (.int p0), .val (.int p1), .val (.int p2), .val (.int p3), .val (.long p4), .second, .val (.int (4 : Int32)), .val (.ref b107), .val (.int (14 : Int32)), .val (.long q9), .second, .val (.ref br124)] [(.int (0 : Int32)), (.ref b107)])) rfl rfl (hb hby at_198) _ k) ?_
    show own_Ends _ _ _ _ (T124.setTop (mkF m 199 #[.val (.int p0), .val (.int p1), .val (.int p2), .val (.int p3), .val (.long p4), .second, .val (.int (4 : Int32)), .val (.ref b107), .val (.int (14 : Int32)), .val (.long q9), .second, .val (.ref br124)] [(.int p1)]))
    refine own_pre (fun t k => XS.iloadN X124.here hx rfl (hb hby at_199) rfl k) ?_
    show own_Ends _ _ _ _ (T124.setTop (mkF m 200 #[.val (.int p0), .val (.int p1), .val (.int p2), .val (.int p3), .val (.long p4), .second, .val (.int (4 : Int32)), .val (.ref b107), .val (.int (14 : Int32)), .val (.long q9), .second, .val (.ref br124)] [(.int p1), (.int p1)]))
    refine own_pre (fun t k => XS.icmpYes X124.here hx rfl (pc0 := 200) (pc' := 205) rfl (hb hby at_200) rfl (teq (rfl : p1 = p1)).1 (by decide) (by decide) k) ?_
    show own_Ends _ _ _ _ (T124.setTop (mkF m 205 #[.val (.int p0), .val (.int p1), .val (.int p2), .val (.int p3), .val (.long p4), .second, .val (.int (4 : Int32)), .val (.ref b107), .val (.int (14 : Int32)), .val (.long q9), .second, .val (.ref br124)] []))
    refine own_pre (fun t k => XS.iload X124.here hx rfl (hb hby at_205) rfl k) ?_
    show own_Ends _ _ _ _ (T124.setTop (mkF m 207 #[.val (.int p0), .val (.int p1), .val (.int p2), .val (.int p3), .val (.long p4), .second, .val (.int (4 : Int32)), .val (.ref b107), .val (.int (14 : Int32)), .val (.long q9), .second, .val (.ref br124)] [(.int (14 : Int32))]))
    refine own_pre (fun t k => XS.iconst X124.here hx rfl (hb hby at_207) k) ?_
    show own_Ends _ _ _ _ (T124.setTop (mkF m 208 #[.val (.int p0), .val (.int p1), .val (.int p2), .val (.int p3), .val (.long p4), .second, .val (.int (4 : Int32)), .val (.ref b107), .val (.int (14 : Int32)), .val (.long q9), .second, .val (.ref br124)] [(.int (2 : Int32)), (.int (14 : Int32))]))
    refine own_pre (fun t k => XS.icmpNo X124.here hx rfl (hb hby at_208) rfl (feq ((by decide) : ¬ ((14 : Int32) = (2 : Int32)))).1 k) ?_
    show own_Ends _ _ _ _ (T124.setTop (mkF m 211 #[.val (.int p0), .val (.int p1), .val (.int p2), .val (.int p3), .val (.long p4), .second, .val (.int (4 : Int32)), .val (.ref b107), .val (.int (14 : Int32)), .val (.long q9), .second, .val (.ref br124)] []))
    refine own_pre (fun t k => XS.iload X124.here hx rfl (hb hby at_211) rfl k) ?_
    show own_Ends _ _ _ _ (T124.setTop (mkF m 213 #[.val (.int p0), .val (.int p1), .val (.int p2), .val (.int p3), .val (.long p4), .second, .val (.int (4 : Int32)), .val (.ref b107), .val (.int (14 : Int32)), .val (.long q9), .second, .val (.ref br124)] [(.int (14 : Int32))]))
    refine own_pre (fun t k => XS.iconst X124.here hx rfl (hb hby at_213) k) ?_
    show own_Ends _ _ _ _ (T124.setTop (mkF m 214 #[.val (.int p0), .val (.int p1), .val (.int p2), .val (.int p3), .val (.long p4), .second, .val (.int (4 : Int32)), .val (.ref b107), .val (.int (14 : Int32)), .val (.long q9), .second, .val (.ref br124)] [(.int (3 : Int32)), (.int (14 : Int32))]))
    refine own_pre (fun t k => XS.icmpYes X124.here hx rfl (pc0 := 214) (pc' := 235) rfl (hb hby at_214) rfl (feq ((by decide) : ¬ ((14 : Int32) = (3 : Int32)))).2 (by decide) (by decide) k) ?_
    show own_Ends _ _ _ _ (T124.setTop (mkF m 235 #[.val (.int p0), .val (.int p1), .val (.int p2), .val (.int p3), .val (.long p4), .second, .val (.int (4 : Int32)), .val (.ref b107), .val (.int (14 : Int32)), .val (.long q9), .second, .val (.ref br124)] []))
    refine own_pre (fun t k => XS.iload X124.here hx rfl (hb hby at_235) rfl k) ?_
    show own_Ends _ _ _ _ (T124.setTop (mkF m 237 #[.val (.int p0), .val (.int p1), .val (.int p2), .val (.int p3), .val (.long p4), .second, .val (.int (4 : Int32)), .val (.ref b107), .val (.int (14 : Int32)), .val (.long q9), .second, .val (.ref br124)] [(.int (14 : Int32))]))
    refine own_pre (fun t k => XS.iconst X124.here hx rfl (hb hby at_237) k) ?_
    show own_Ends _ _ _ _ (T124.setTop (mkF m 238 #[.val (.int p0), .val (.int p1), .val (.int p2), .val (.int p3), .val (.long p4), .second, .val (.int (4 : Int32)), .val (.ref b107), .val (.int (14 : Int32)), .val (.long q9), .second, .val (.ref br124)] [(.int (3 : Int32)), (.int (14 : Int32))]))
    refine own_pre (fun t k => XS.icmpYes X124.here hx rfl (pc0 := 238) (pc' := 259) rfl (hb hby at_238) rfl (feq ((by decide) : ¬ ((14 : Int32) = (3 : Int32)))).2 (by decide) (by decide) k) ?_
    show own_Ends _ _ _ _ (T124.setTop (mkF m 259 #[.val (.int p0), .val (.int p1), .val (.int p2), .val (.int p3), .val (.long p4), .second, .val (.int (4 : Int32)), .val (.ref b107), .val (.int (14 : Int32)), .val (.long q9), .second, .val (.ref br124)] []))
    refine own_pre (fun t k => XS.iload X124.here hx rfl (hb hby at_259) rfl k) ?_
    show own_Ends _ _ _ _ (T124.setTop (mkF m 261 #[.val (.int p0), .val (.int p1), .val (.int p2), .val (.int p3), .val (.long p4), .second, .val (.int (4 : Int32)), .val (.ref b107), .val (.int (14 : Int32)), .val (.long q9), .second, .val (.ref br124)] [(.int (14 : Int32))]))
    refine own_pre (fun t k => XS.bipush X124.here hx rfl (hb hby at_261) k) ?_
    show own_Ends _ _ _ _ (T124.setTop (mkF m 263 #[.val (.int p0), .val (.int p1), .val (.int p2), .val (.int p3), .val (.long p4), .second, .val (.int (4 : Int32)), .val (.ref b107), .val (.int (14 : Int32)), .val (.long q9), .second, .val (.ref br124)] [(.int (14 : Int32)), (.int (14 : Int32))]))
    refine own_pre (fun t k => XS.icmpNo X124.here hx rfl (hb hby at_263) rfl (teq ((by decide) : (14 : Int32) = (14 : Int32))).2 k) ?_
    show own_Ends _ _ _ _ (T124.setTop (mkF m 266 #[.val (.int p0), .val (.int p1), .val (.int p2), .val (.int p3), .val (.long p4), .second, .val (.int (4 : Int32)), .val (.ref b107), .val (.int (14 : Int32)), .val (.long q9), .second, .val (.ref br124)] []))
    refine own_pre (fun t k => XS.aload X124.here hx rfl (hb hby at_266) rfl rfl k) ?_
    show own_Ends _ _ _ _ (T124.setTop (mkF m 268 #[.val (.int p0), .val (.int p1), .val (.int p2), .val (.int p3), .val (.long p4), .second, .val (.int (4 : Int32)), .val (.ref b107), .val (.int (14 : Int32)), .val (.long q9), .second, .val (.ref br124)] [(.ref br124)]))
    refine own_pre (fun t k => XS.bipush X124.here hx rfl (hb hby at_268) k) ?_
    show own_Ends _ _ _ _ (T124.setTop (mkF m 270 #[.val (.int p0), .val (.int p1), .val (.int p2), .val (.int p3), .val (.long p4), .second, .val (.int (4 : Int32)), .val (.ref b107), .val (.int (14 : Int32)), .val (.long q9), .second, .val (.ref br124)] [(.int (6 : Int32)), (.ref br124)]))
    obtain ⟨cl132, Ar132, q132, S132, M132, H132, G132⟩ := id (va124)
    have hin132 : ¬ ((6 : Int32) < 0 ∨ cl132.slots.size ≤ ((6 : Int32)).toNatClampNeg) := inb_of S132 ⟨by decide, by decide⟩
    have hat132 : cl132.slots[((6 : Int32)).toNatClampNeg]? = some (.int p2) := H132.at hin132 rfl
    refine own_pre (fun t k => X124.iaload hx (j := (6 : Int32)) (v := (.int p2)) Ar132.1 (State.isArrayOf_alike hZ.alike Ar132.2.1) Ar132.2.2 hin132 hat132 (g := (mkF m 270 #[.val (.int p0), .val (.int p1), .val (.int p2), .val (.int p3), .val (.long p4), .second, .val (.int (4 : Int32)), .val (.ref b107), .val (.int (14 : Int32)), .val (.long q9), .second, .val (.ref br124)] [(.int (6 : Int32)), (.ref br124)])) rfl rfl (hb hby at_270) _ k) ?_
    show own_Ends _ _ _ _ (T124.setTop (mkF m 271 #[.val (.int p0), .val (.int p1), .val (.int p2), .val (.int p3), .val (.long p4), .second, .val (.int (4 : Int32)), .val (.ref b107), .val (.int (14 : Int32)), .val (.long q9), .second, .val (.ref br124)] [(.int p2)]))
    refine own_pre (fun t k => XS.iloadN X124.here hx rfl (hb hby at_271) rfl k) ?_
    show own_Ends _ _ _ _ (T124.setTop (mkF m 272 #[.val (.int p0), .val (.int p1), .val (.int p2), .val (.int p3), .val (.long p4), .second, .val (.int (4 : Int32)), .val (.ref b107), .val (.int (14 : Int32)), .val (.long q9), .second, .val (.ref br124)] [(.int p2), (.int p2)]))
    refine own_pre (fun t k => XS.icmpNo X124.here hx rfl (hb hby at_272) rfl (teq (rfl : p2 = p2)).2 k) ?_
    show own_Ends _ _ _ _ (T124.setTop (mkF m 275 #[.val (.int p0), .val (.int p1), .val (.int p2), .val (.int p3), .val (.long p4), .second, .val (.int (4 : Int32)), .val (.ref b107), .val (.int (14 : Int32)), .val (.long q9), .second, .val (.ref br124)] []))
    refine own_pre (fun t k => XS.aload X124.here hx rfl (hb hby at_275) rfl rfl k) ?_
    show own_Ends _ _ _ _ (T124.setTop (mkF m 277 #[.val (.int p0), .val (.int p1), .val (.int p2), .val (.int p3), .val (.long p4), .second, .val (.int (4 : Int32)), .val (.ref b107), .val (.int (14 : Int32)), .val (.long q9), .second, .val (.ref br124)] [(.ref b107)]))
    refine own_pre (fun t k => XS.bipush X124.here hx rfl (hb hby at_277) k) ?_
    show own_Ends _ _ _ _ (T124.setTop (mkF m 279 #[.val (.int p0), .val (.int p1), .val (.int p2), .val (.int p3), .val (.long p4), .second, .val (.int (4 : Int32)), .val (.ref b107), .val (.int (14 : Int32)), .val (.long q9), .second, .val (.ref br124)] [(.int (6 : Int32)), (.ref b107)]))
    obtain ⟨cl133, Ar133, q133, S133, M133, H133, G133⟩ := id (f126)
    have hin133 : ¬ ((6 : Int32) < 0 ∨ cl133.slots.size ≤ ((6 : Int32)).toNatClampNeg) := inb_of S133 ⟨by decide, by decide⟩
    have hat133 : cl133.slots[((6 : Int32)).toNatClampNeg]? = some (.int p2) := H133.at hin133 rfl
    refine own_pre (fun t k => X124.iaload hx (j := (6 : Int32)) (v := (.int p2)) Ar133.1 (State.isArrayOf_alike hZ.alike Ar133.2.1) Ar133.2.2 hin133 hat133 (g := (mkF m 279 #[.val (.int p0), .val (.int p1), .val (.int p2), .val (.int p3), .val (.long p4), .second, .val (.int (4 : Int32)), .val (.ref b107), .val (.int (14 : Int32)), .val (.long q9), .second, .val (.ref br124)] [(.int (6 : Int32)), (.ref b107)])) rfl rfl (hb hby at_279) _ k) ?_
    show own_Ends _ _ _ _ (T124.setTop (mkF m 280 #[.val (.int p0), .val (.int p1), .val (.int p2), .val (.int p3), .val (.long p4), .second, .val (.int (4 : Int32)), .val (.ref b107), .val (.int (14 : Int32)), .val (.long q9), .second, .val (.ref br124)] [(.int p2)]))
    refine own_pre (fun t k => XS.iloadN X124.here hx rfl (hb hby at_280) rfl k) ?_
    show own_Ends _ _ _ _ (T124.setTop (mkF m 281 #[.val (.int p0), .val (.int p1), .val (.int p2), .val (.int p3), .val (.long p4), .second, .val (.int (4 : Int32)), .val (.ref b107), .val (.int (14 : Int32)), .val (.long q9), .second, .val (.ref br124)] [(.int p2), (.int p2)]))
    refine own_pre (fun t k => XS.icmpYes X124.here hx rfl (pc0 := 281) (pc' := 286) rfl (hb hby at_281) rfl (teq (rfl : p2 = p2)).1 (by decide) (by decide) k) ?_
    show own_Ends _ _ _ _ (T124.setTop (mkF m 286 #[.val (.int p0), .val (.int p1), .val (.int p2), .val (.int p3), .val (.long p4), .second, .val (.int (4 : Int32)), .val (.ref b107), .val (.int (14 : Int32)), .val (.long q9), .second, .val (.ref br124)] []))
    refine own_pre (fun t k => XS.aload X124.here hx rfl (hb hby at_286) rfl rfl k) ?_
    show own_Ends _ _ _ _ (T124.setTop (mkF m 288 #[.val (.int p0), .val (.int p1), .val (.int p2), .val (.int p3), .val (.long p4), .second, .val (.int (4 : Int32)), .val (.ref b107), .val (.int (14 : Int32)), .val (.long q9), .second, .val (.ref br124)] [(.ref br124)]))
    refine own_pre (fun t k => XS.bipush X124.here hx rfl (hb hby at_288) k) ?_
    show own_Ends _ _ _ _ (T124.setTop (mkF m 290 #[.val (.int p0), .val (.int p1), .val (.int p2), .val (.int p3), .val (.long p4), .second, .val (.int (4 : Int32)), .val (.ref b107), .val (.int (14 : Int32)), .val (.long q9), .second, .val (.ref br124)] [(.int (13 : Int32)), (.ref br124)]))
    obtain ⟨cl134, Ar134, q134, S134, M134, H134, G134⟩ := id (va124)
    have hin134 : ¬ ((13 : Int32) < 0 ∨ cl134.slots.size ≤ ((13 : Int32)).toNatClampNeg) := inb_of S134 ⟨by decide, by decide⟩
    have hat134 : cl134.slots[((13 : Int32)).toNatClampNeg]? = some (.int p3) := H134.at hin134 rfl
    refine own_pre (fun t k => X124.iaload hx (j := (13 : Int32)) (v := (.int p3)) Ar134.1 (State.isArrayOf_alike hZ.alike Ar134.2.1) Ar134.2.2 hin134 hat134 (g := (mkF m 290 #[.val (.int p0), .val (.int p1), .val (.int p2), .val (.int p3), .val (.long p4), .second, .val (.int (4 : Int32)), .val (.ref b107), .val (.int (14 : Int32)), .val (.long q9), .second, .val (.ref br124)] [(.int (13 : Int32)), (.ref br124)])) rfl rfl (hb hby at_290) _ k) ?_
    show own_Ends _ _ _ _ (T124.setTop (mkF m 291 #[.val (.int p0), .val (.int p1), .val (.int p2), .val (.int p3), .val (.long p4), .second, .val (.int (4 : Int32)), .val (.ref b107), .val (.int (14 : Int32)), .val (.long q9), .second, .val (.ref br124)] [(.int p3)]))
    refine own_pre (fun t k => XS.iloadN X124.here hx rfl (hb hby at_291) rfl k) ?_
    show own_Ends _ _ _ _ (T124.setTop (mkF m 292 #[.val (.int p0), .val (.int p1), .val (.int p2), .val (.int p3), .val (.long p4), .second, .val (.int (4 : Int32)), .val (.ref b107), .val (.int (14 : Int32)), .val (.long q9), .second, .val (.ref br124)] [(.int p3), (.int p3)]))
    refine own_pre (fun t k => XS.icmpNo X124.here hx rfl (hb hby at_292) rfl (teq (rfl : p3 = p3)).2 k) ?_
    show own_Ends _ _ _ _ (T124.setTop (mkF m 295 #[.val (.int p0), .val (.int p1), .val (.int p2), .val (.int p3), .val (.long p4), .second, .val (.int (4 : Int32)), .val (.ref b107), .val (.int (14 : Int32)), .val (.long q9), .second, .val (.ref br124)] []))
    refine own_pre (fun t k => XS.aload X124.here hx rfl (hb hby at_295) rfl rfl k) ?_
    show own_Ends _ _ _ _ (T124.setTop (mkF m 297 #[.val (.int p0), .val (.int p1), .val (.int p2), .val (.int p3), .val (.long p4), .second, .val (.int (4 : Int32)), .val (.ref b107), .val (.int (14 : Int32)), .val (.long q9), .second, .val (.ref br124)] [(.ref b107)]))
    refine own_pre (fun t k => XS.bipush X124.here hx rfl (hb hby at_297) k) ?_
    show own_Ends _ _ _ _ (T124.setTop (mkF m 299 #[.val (.int p0), .val (.int p1), .val (.int p2), .val (.int p3), .val (.long p4), .second, .val (.int (4 : Int32)), .val (.ref b107), .val (.int (14 : Int32)), .val (.long q9), .second, .val (.ref br124)] [(.int (13 : Int32)), (.ref b107)]))
    obtain ⟨cl135, Ar135, q135, S135, M135, H135, G135⟩ := id (f126)
    have hin135 : ¬ ((13 : Int32) < 0 ∨ cl135.slots.size ≤ ((13 : Int32)).toNatClampNeg) := inb_of S135 ⟨by decide, by decide⟩
    have hat135 : cl135.slots[((13 : Int32)).toNatClampNeg]? = some (.int p3) := H135.at hin135 rfl
    refine own_pre (fun t k => X124.iaload hx (j := (13 : Int32)) (v := (.int p3)) Ar135.1 (State.isArrayOf_alike hZ.alike Ar135.2.1) Ar135.2.2 hin135 hat135 (g := (mkF m 299 #[.val (.int p0), .val (.int p1), .val (.int p2), .val (.int p3), .val (.long p4), .second, .val (.int (4 : Int32)), .val (.ref b107), .val (.int (14 : Int32)), .val (.long q9), .second, .val (.ref br124)] [(.int (13 : Int32)), (.ref b107)])) rfl rfl (hb hby at_299) _ k) ?_
    show own_Ends _ _ _ _ (T124.setTop (mkF m 300 #[.val (.int p0), .val (.int p1), .val (.int p2), .val (.int p3), .val (.long p4), .second, .val (.int (4 : Int32)), .val (.ref b107), .val (.int (14 : Int32)), .val (.long q9), .second, .val (.ref br124)] [(.int p3)]))
    refine own_pre (fun t k => XS.iloadN X124.here hx rfl (hb hby at_300) rfl k) ?_
    show own_Ends _ _ _ _ (T124.setTop (mkF m 301 #[.val (.int p0), .val (.int p1), .val (.int p2), .val (.int p3), .val (.long p4), .second, .val (.int (4 : Int32)), .val (.ref b107), .val (.int (14 : Int32)), .val (.long q9), .second, .val (.ref br124)] [(.int p3), (.int p3)]))
    refine own_pre (fun t k => XS.icmpYes X124.here hx rfl (pc0 := 301) (pc' := 306) rfl (hb hby at_301) rfl (teq (rfl : p3 = p3)).1 (by decide) (by decide) k) ?_
    show own_Ends _ _ _ _ (T124.setTop (mkF m 306 #[.val (.int p0), .val (.int p1), .val (.int p2), .val (.int p3), .val (.long p4), .second, .val (.int (4 : Int32)), .val (.ref b107), .val (.int (14 : Int32)), .val (.long q9), .second, .val (.ref br124)] []))
    refine own_pre (fun t k => XS.aload X124.here hx rfl (hb hby at_306) rfl rfl k) ?_
    show own_Ends _ _ _ _ (T124.setTop (mkF m 308 #[.val (.int p0), .val (.int p1), .val (.int p2), .val (.int p3), .val (.long p4), .second, .val (.int (4 : Int32)), .val (.ref b107), .val (.int (14 : Int32)), .val (.long q9), .second, .val (.ref br124)] [(.ref br124)]))
    refine own_pre (fun t k => XS.iconst X124.here hx rfl (hb hby at_308) k) ?_
    show own_Ends _ _ _ _ (T124.setTop (mkF m 309 #[.val (.int p0), .val (.int p1), .val (.int p2), .val (.int p3), .val (.long p4), .second, .val (.int (4 : Int32)), .val (.ref b107), .val (.int (14 : Int32)), .val (.long q9), .second, .val (.ref br124)] [(.int (1 : Int32)), (.ref br124)]))
    obtain ⟨cl136, Ar136, q136, S136, M136, H136, G136⟩ := id (va124)
    have hin136 : ¬ ((1 : Int32) < 0 ∨ cl136.slots.size ≤ ((1 : Int32)).toNatClampNeg) := inb_of S136 ⟨by decide, by decide⟩
    have hat136 : cl136.slots[((1 : Int32)).toNatClampNeg]? = some (.int (0 : Int32)) := H136.at hin136 rfl
    refine own_pre (fun t k => X124.iaload hx (j := (1 : Int32)) (v := (.int (0 : Int32))) Ar136.1 (State.isArrayOf_alike hZ.alike Ar136.2.1) Ar136.2.2 hin136 hat136 (g := (mkF m 309 #[.val (.int p0), .val (.int p1), .val (.int p2), .val (.int p3), .val (.long p4), .second, .val (.int (4 : Int32)), .val (.ref b107), .val (.int (14 : Int32)), .val (.long q9), .second, .val (.ref br124)] [(.int (1 : Int32)), (.ref br124)])) rfl rfl (hb hby at_309) _ k) ?_
    show own_Ends _ _ _ _ (T124.setTop (mkF m 310 #[.val (.int p0), .val (.int p1), .val (.int p2), .val (.int p3), .val (.long p4), .second, .val (.int (4 : Int32)), .val (.ref b107), .val (.int (14 : Int32)), .val (.long q9), .second, .val (.ref br124)] [(.int (0 : Int32))]))
    refine own_pre (fun t k => XS.ifNo X124.here hx rfl (hb hby at_310) rfl ((if0 _ _).trans (teq ((by decide) : (0 : Int32) = (0 : Int32))).2) k) ?_
    show own_Ends _ _ _ _ (T124.setTop (mkF m 313 #[.val (.int p0), .val (.int p1), .val (.int p2), .val (.int p3), .val (.long p4), .second, .val (.int (4 : Int32)), .val (.ref b107), .val (.int (14 : Int32)), .val (.long q9), .second, .val (.ref br124)] []))
    refine own_pre (fun t k => XS.aload X124.here hx rfl (hb hby at_313) rfl rfl k) ?_
    show own_Ends _ _ _ _ (T124.setTop (mkF m 315 #[.val (.int p0), .val (.int p1), .val (.int p2), .val (.int p3), .val (.long p4), .second, .val (.int (4 : Int32)), .val (.ref b107), .val (.int (14 : Int32)), .val (.long q9), .second, .val (.ref br124)] [(.ref br124)]))
    refine own_pre (fun t k => XS.bipush X124.here hx rfl (hb hby at_315) k) ?_
    show own_Ends _ _ _ _ (T124.setTop (mkF m 317 #[.val (.int p0), .val (.int p1), .val (.int p2), .val (.int p3), .val (.long p4), .second, .val (.int (4 : Int32)), .val (.ref b107), .val (.int (14 : Int32)), .val (.long q9), .second, .val (.ref br124)] [(.int (12 : Int32)), (.ref br124)]))
    obtain ⟨cl137, Ar137, q137, S137, M137, H137, G137⟩ := id (va124)
    have hin137 : ¬ ((12 : Int32) < 0 ∨ cl137.slots.size ≤ ((12 : Int32)).toNatClampNeg) := inb_of S137 ⟨by decide, by decide⟩
    have hat137 : cl137.slots[((12 : Int32)).toNatClampNeg]? = some (.int (0 : Int32)) := H137.at hin137 rfl
    refine own_pre (fun t k => X124.iaload hx (j := (12 : Int32)) (v := (.int (0 : Int32))) Ar137.1 (State.isArrayOf_alike hZ.alike Ar137.2.1) Ar137.2.2 hin137 hat137 (g := (mkF m 317 #[.val (.int p0), .val (.int p1), .val (.int p2), .val (.int p3), .val (.long p4), .second, .val (.int (4 : Int32)), .val (.ref b107), .val (.int (14 : Int32)), .val (.long q9), .second, .val (.ref br124)] [(.int (12 : Int32)), (.ref br124)])) rfl rfl (hb hby at_317) _ k) ?_
    show own_Ends _ _ _ _ (T124.setTop (mkF m 318 #[.val (.int p0), .val (.int p1), .val (.int p2), .val (.int p3), .val (.long p4), .second, .val (.int (4 : Int32)), .val (.ref b107), .val (.int (14 : Int32)), .val (.long q9), .second, .val (.ref br124)] [(.int (0 : Int32))]))
    refine own_pre (fun t k => XS.ifYes X124.here hx rfl (pc0 := 318) (pc' := 323) rfl (hb hby at_318) rfl ((if0 _ _).trans (teq ((by decide) : (0 : Int32) = (0 : Int32))).1) (by decide) (by decide) k) ?_
    show own_Ends _ _ _ _ (T124.setTop (mkF m 323 #[.val (.int p0), .val (.int p1), .val (.int p2), .val (.int p3), .val (.long p4), .second, .val (.int (4 : Int32)), .val (.ref b107), .val (.int (14 : Int32)), .val (.long q9), .second, .val (.ref br124)] []))
    refine own_pre (fun t k => XS.iconst X124.here hx rfl (hb hby at_323) k) ?_
    show own_Ends _ _ _ _ (T124.setTop (mkF m 324 #[.val (.int p0), .val (.int p1), .val (.int p2), .val (.int p3), .val (.long p4), .second, .val (.int (4 : Int32)), .val (.ref b107), .val (.int (14 : Int32)), .val (.long q9), .second, .val (.ref br124)] [(.int (1 : Int32))]))
    exact own_retN X124 hx (t := .boolean) Bd.returns (by simp) (hb hby at_324) hlk rfl rfl ⟨rfl, N124⟩ (by decide) (by decide)
set_option maxRecDepth 65536 in
set_option maxHeartbeats 40000000 in
theorem own_comes {Post : Tables → Env → Array Value → State → Outcome → State → Prop} (hpost : ∀ tb e args s v u, (limb_1_1.after args s (.returned v) u = true ∧ limb_1_2.after args s (.returned v) u = true ∧ True) → FrameEnd s (.returned v) u (Jvm.fieldLocs frame_1_writes args s ++ Jvm.arrayLocs frame_1_arrays args s ++ Jvm.staticLocs frame_1_statics s) 16 128 → Post tb e args s (.returned v) u) :
    ArmFor flags0 classFile x code maxLocals ret World_1 tables_1 room_1 Calls_1 rest_1 Pre_1 Post := by
  intro l hfl _ _ p e ha hc hk s m args below hf hA hF happ hP
  obtain ⟨hcalls, hrest, hpre⟩ := hP
  obtain ⟨-, -, -, hnamed, -, -, -, hat⟩ := (Spec.applies_iff hf).mp happ
  obtain ⟨hg, hn⟩ := and_e (Cond.before_iff.mp (show (Jvm.Cond.and given_1 narrow_1).before args s = true from hpre))
  obtain ⟨hcount, g0⟩ := and_e hg
  obtain ⟨hk0, g1⟩ := and_e g0
  obtain ⟨hk1, g2⟩ := and_e g1
  obtain ⟨hk2, g3⟩ := and_e g2
  obtain ⟨hk3, g4⟩ := and_e g3
  obtain ⟨w0, w1, w2, w3, w4, rfl⟩ : ∃ w0 w1 w2 w3 w4 : Value, args = #[w0, w1, w2, w3, w4] := by
    have hs : args.size = 5 := by simpa [Cond.value, given_1] using hcount
    obtain ⟨L⟩ := args
    match L, hs with
    | [w0, w1, w2, w3, w4], _ => exact ⟨w0, w1, w2, w3, w4, rfl⟩
  have hw := fun d (hd : d ∈ tables_1) => atoms_spec (ws := Jvm.Cond.code x code maxLocals ret :: tables_1) hat d (List.mem_cons_of_mem _ hd)
  have hfit : Fit s := fun {y c} hc i hi => by
    obtain ⟨ha, rfl⟩ := Array.getElem?_eq_some_iff.mp hc
    have q := List.all_eq_true.mp ((Array.all_eq_true_iff_forall_mem.mp hF) _ (Array.getElem_mem ha)) i (List.mem_range.mpr hi)
    simpa [Array.getElem?_eq_getElem hi] using q
  obtain ⟨i0, ei0⟩ := is_v hk0
  obtain rfl : w0 = (.int i0) := Option.some.inj ei0
  obtain ⟨i1, ei1⟩ := is_v hk1
  obtain rfl : w1 = (.int i1) := Option.some.inj ei1
  obtain ⟨i2, ei2⟩ := is_v hk2
  obtain rfl : w2 = (.int i2) := Option.some.inj ei2
  obtain ⟨i3, ei3⟩ := is_v hk3
  obtain rfl : w3 = (.int i3) := Option.some.inj ei3
  obtain ⟨i4, ei4⟩ := isL_v g4
  obtain rfl : w4 = (.long i4) := Option.some.inj ei4
  obtain ⟨n, o, h1, h2, h3, _, L, rfl, ⟨rfl, N⟩, hq⟩ := rm0 l s _ hw tables_1 i0 i1 i2 i3 i4 s.heap s.heap.size (Nat.le_refl _)  p e ha hc hk s m _ below hf ((Spec.applies_iff_loose hf).mp happ).1 ⟨rfl, State.Warmed39.refl s, rfl⟩ trivial
  refine ⟨n, _, h1, h2, h3, hpost _ _ _ _ _ _ ⟨Cond.after_iff.mpr rfl, Cond.after_iff.mpr (eq_i res_at (Term.int_eval (1)) rfl), trivial⟩ ⟨hq.1, hq.2.1, (hq.2.2.sift fun y hy => Or.inr (N y hy)).mono (by decide) (by decide)⟩⟩
theorem main_1_1 : Claimed_1_1 := own_comes fun _ _ _ _ _ _ h hF => ⟨h.1, hF⟩
theorem main_1_2 : Claimed_1_2 := own_comes fun _ _ _ _ _ _ h hF => ⟨h.2.1, hF⟩
end Jvm.Pilot.@@N@@
namespace Jvm.Pilot.@@N@@
open Jvm Jvm.ClassFile Sem Op Lib Jvm.Free Jvm.Stand Jvm.Pilot.@@N@@.Jvm.D
/-! MADE BY PROGRAM (witnessworld.py) out of the Statement's table words and the real class files: 12 classes; the members and pool entries that the words name. The judged class is class 1, her method 1. -/
namespace start1
open Jvm.ClassFile
def u (s : String) : CpInfo := .utf8 (stringToUtf16 s)
/-- a pool by its gaps: so many unusable entries, then the entry; so many at the end -/
def gap : Nat → List CpInfo → List CpInfo
  | 0, r => r
  | n + 1, r => .unusable :: gap n r
def poolList (es : List (Nat × CpInfo)) (last : Nat) : List CpInfo := es.foldr (fun e r => gap e.1 (e.2 :: r)) (gap last [])
def pool (es : List (Nat × CpInfo)) (last : Nat) : Array CpInfo := ⟨poolList es last⟩
def fileOf (pool : Array CpInfo) (this : Nat) (attrs : Array Attribute := #[]) (ms : Array MethodInfo := #[]) (fl : Nat := 33) (sup : Nat := 0) (ifs : Array Nat := #[]) (fds : Array FieldInfo := #[]) : ClassFile where
  minorVersion := 0
  majorVersion := 65
  constantPool := pool
  accessFlags := fl
  thisClass := this
  superClass := sup
  interfaces := ifs
  fields := fds
  methods := ms
  attributes := attrs
def plain (name : String) (sup : Option ClassId) : Class where
  name := name
  kind := .ordinary
  loader := none
  accessFlags := 33
  super := sup
  interfaces := #[]
  cf := none
  fields := #[]
  methods := #[]
  instanceTypes := #[]
  staticTypes := #[]
  resolved := #[]
  callSites := []
  init := .initialized
  statics := none
  mirror := none

def pool0 : Array CpInfo := pool [(5, u "<init>"), (0, u "()V"), (1, .class_ 10), (1, u "java/lang/Object")] 113

def k0m0 : Method := { name := "<init>", desc := "()V", sig := { parameters := [], returnType := none }, accessFlags := 1, code := none }
/-- java/lang/Object -/
def k0 : Class := { plain "java/lang/Object" none with
  accessFlags := 33
  interfaces := #[]
  cf := some (fileOf pool0 8 #[] #[{ accessFlags := 1, nameIndex := 5, descriptorIndex := 6, attributes := #[] }] 33 0 #[] #[])
  fields := #[]
  methods := #[k0m0]
  instanceTypes := #[]
  staticTypes := #[]
  resolved := Array.replicate 124 none
  statics := none }

def pool1 : Array CpInfo := pool [(2, .class_ 4), (1, u "java/lang/Object"), (0, u "<init>"), (0, u "()V"), (0, .integer 2147483647), (0, .long 4294967295), (1, .methodref 11 12), (0, .class_ 13), (0, .nameAndType 14 15), (0, u "com/example/many_dashes/manydashes/form/SidLimits"), (0, u "appended"), (0, u "([IJ)[I"), (0, .class_ 17), (0, u "com/example/many_dashes/manydashes/form/SidLimitsAppendedPinLaw"), (2, u "law"), (0, u "(IIIIJ)Z")] 5

def k1m0 : Method := { name := "<init>", desc := "()V", sig := { parameters := [], returnType := none }, accessFlags := 2, code := none }
def k1c1 : Code := { maxStack := 4, maxLocals := 12, code := code, exceptionTable := #[], attributes := #[] }
def k1m1 : Method := { name := "law", desc := "(IIIIJ)Z", sig := { parameters := [.int, .int, .int, .int, .long], returnType := some .boolean }, accessFlags := 9, code := some k1c1 }
/-- com/example/many_dashes/manydashes/form/SidLimitsAppendedPinLaw -/
def k1 : Class := { plain "com/example/many_dashes/manydashes/form/SidLimitsAppendedPinLaw" (some 0) with
  accessFlags := 49
  interfaces := #[]
  cf := some (fileOf pool1 16 #[] #[{ accessFlags := 2, nameIndex := 5, descriptorIndex := 6, attributes := #[] }, { accessFlags := 9, nameIndex := 20, descriptorIndex := 21, attributes := #[] }] 49 2 #[] #[])
  fields := #[]
  methods := #[k1m0, k1m1]
  instanceTypes := #[]
  staticTypes := #[]
  resolved := Array.replicate 27 none
  statics := none }

def pool2 : Array CpInfo := pool [(2, .class_ 4), (1, u "java/lang/Object"), (0, u "<init>"), (0, u "()V"), (0, .class_ 8), (0, u "com/example/many_dashes/manydashes/form/SidLimits"), (20, .long 4294967295), (2, .methodref 33 34), (0, .class_ 35), (0, .nameAndType 36 37), (0, u "java/util/Arrays"), (0, u "copyOf"), (0, u "([II)[I"), (0, u "MAX_AUTHORITY"), (0, u "J"), (1, u "MAX_SUB_AUTHORITY"), (0, u "MAX_SUB_AUTHORITIES"), (0, u "I"), (6, u "appended"), (0, u "([IJ)[I")] 23

def k2m0 : Method := { name := "<init>", desc := "()V", sig := { parameters := [], returnType := none }, accessFlags := 2, code := none }
def k2c1 : Code := { maxStack := 4, maxLocals := 5, code := prog_27_method_3_code, exceptionTable := #[], attributes := #[] }
def k2m1 : Method := { name := "appended", desc := "([IJ)[I", sig := { parameters := [(.array .int), .long], returnType := some (.array .int) }, accessFlags := 9, code := some k2c1 }
/-- com/example/many_dashes/manydashes/form/SidLimits -/
def k2 : Class := { plain "com/example/many_dashes/manydashes/form/SidLimits" (some 0) with
  accessFlags := 49
  interfaces := #[]
  cf := some (fileOf pool2 7 #[] #[{ accessFlags := 2, nameIndex := 5, descriptorIndex := 6, attributes := #[] }, { accessFlags := 9, nameIndex := 50, descriptorIndex := 51, attributes := #[] }] 49 2 #[] #[{ accessFlags := 24, nameIndex := 38, descriptorIndex := 39, attributes := #[] }, { accessFlags := 24, nameIndex := 41, descriptorIndex := 39, attributes := #[] }, { accessFlags := 24, nameIndex := 42, descriptorIndex := 43, attributes := #[] }])
  fields := #[{ name := "MAX_AUTHORITY", type := .long, accessFlags := 24, slot := 0, constantValue := 0 }, { name := "MAX_SUB_AUTHORITY", type := .long, accessFlags := 24, slot := 1, constantValue := 0 }, { name := "MAX_SUB_AUTHORITIES", type := .int, accessFlags := 24, slot := 2, constantValue := 0 }]
  methods := #[k2m0, k2m1]
  instanceTypes := #[]
  staticTypes := #[.long, .long, .int]
  resolved := Array.replicate 75 none
  statics := none }

def pool3 : Array CpInfo := pool [(2, .class_ 4), (1, u "java/lang/Object"), (0, u "<init>"), (0, u "()V"), (7, .class_ 16), (1, u "java/util/Arrays"), (57, .class_ 76), (1, u "java/util/Arrays$NaturalOrder"), (36, .class_ 115), (1, u "java/util/Arrays$LegacyMergeSort"), (1, u "Z"), (32, .methodref 151 152), (0, .class_ 153), (0, .nameAndType 154 155), (0, u "java/lang/System"), (0, u "arraycopy"), (0, u "(Ljava/lang/Object;ILjava/lang/Object;II)V"), (146, u "copyOf"), (1, .methodref 305 306), (0, .class_ 307), (0, .nameAndType 308 309), (0, u "java/lang/Math"), (0, u "min"), (0, u "(II)I"), (65, .class_ 376), (0, u "java/util/Arrays$ArrayList"), (68, u "$assertionsDisabled"), (269, u "MIN_ARRAY_SORT_GRAN"), (0, u "I"), (2, u "INSERTIONSORT_THRESHOLD"), (151, u "([II)[I"), (103, .class_ 976), (0, u "java/util/Arrays$ArrayItr")] 52

def k3m0 : Method := { name := "<init>", desc := "()V", sig := { parameters := [], returnType := none }, accessFlags := 2, code := none }
def k3c1 : Code := { maxStack := 6, maxLocals := 3, code := jdk_65_method_123_code, exceptionTable := #[], attributes := #[] }
def k3m1 : Method := { name := "copyOf", desc := "([II)[I", sig := { parameters := [(.array .int), .int], returnType := some (.array .int) }, accessFlags := 9, code := some k3c1 }
/-- java/util/Arrays -/
def k3 : Class := { plain "java/util/Arrays" (some 0) with
  accessFlags := 49
  interfaces := #[]
  cf := some (fileOf pool3 14 #[.nestMembers #[975, 375, 113, 74]] #[{ accessFlags := 2, nameIndex := 5, descriptorIndex := 6, attributes := #[] }, { accessFlags := 9, nameIndex := 302, descriptorIndex := 871, attributes := #[] }] 49 2 #[] #[{ accessFlags := 26, nameIndex := 715, descriptorIndex := 716, attributes := #[] }, { accessFlags := 26, nameIndex := 719, descriptorIndex := 716, attributes := #[] }, { accessFlags := 4120, nameIndex := 445, descriptorIndex := 117, attributes := #[] }])
  fields := #[{ name := "MIN_ARRAY_SORT_GRAN", type := .int, accessFlags := 26, slot := 0, constantValue := 0 }, { name := "INSERTIONSORT_THRESHOLD", type := .int, accessFlags := 26, slot := 1, constantValue := 0 }, { name := "$assertionsDisabled", type := .boolean, accessFlags := 4120, slot := 2, constantValue := 0 }]
  methods := #[k3m0, k3m1]
  instanceTypes := #[]
  staticTypes := #[.int, .int, .boolean]
  resolved := Array.replicate 1029 none
  statics := none }

def pool4 : Array CpInfo := pool [(1, .class_ 2), (0, u "java/lang/Math"), (1, .class_ 6), (1, u "java/lang/Object"), (0, u "<init>"), (0, u "()V"), (89, .class_ 100), (1, u "java/lang/Math$RandomNumberGeneratorHolder"), (71, u "negativeZeroFloatBits"), (0, u "J"), (2, u "negativeZeroDoubleBits"), (24, u "min"), (43, u "$assertionsDisabled"), (0, u "Z"), (88, u "(II)I"), (2, u "twoToTheDoubleScaleDown"), (0, u "D"), (4, u "twoToTheDoubleScaleUp"), (9, u "E"), (3, u "PI"), (2, u "TAU"), (2, u "DEGREES_TO_RADIANS"), (0, u "RADIANS_TO_DEGREES")] 94

def k4m0 : Method := { name := "<init>", desc := "()V", sig := { parameters := [], returnType := none }, accessFlags := 2, code := none }
def k4c1 : Code := { maxStack := 2, maxLocals := 2, code := jdk_29_method_69_code, exceptionTable := #[], attributes := #[] }
def k4m1 : Method := { name := "min", desc := "(II)I", sig := { parameters := [.int, .int], returnType := some .int }, accessFlags := 9, code := some k4c1 }
/-- java/lang/Math -/
def k4 : Class := { plain "java/lang/Math" (some 0) with
  accessFlags := 49
  interfaces := #[]
  cf := some (fileOf pool4 1 #[.nestMembers #[98]] #[{ accessFlags := 2, nameIndex := 7, descriptorIndex := 8, attributes := #[] }, { accessFlags := 9, nameIndex := 201, descriptorIndex := 335, attributes := #[] }] 49 4 #[] #[{ accessFlags := 25, nameIndex := 354, descriptorIndex := 339, attributes := #[] }, { accessFlags := 25, nameIndex := 358, descriptorIndex := 339, attributes := #[] }, { accessFlags := 25, nameIndex := 361, descriptorIndex := 339, attributes := #[] }, { accessFlags := 26, nameIndex := 364, descriptorIndex := 339, attributes := #[] }, { accessFlags := 26, nameIndex := 365, descriptorIndex := 339, attributes := #[] }, { accessFlags := 26, nameIndex := 172, descriptorIndex := 173, attributes := #[] }, { accessFlags := 26, nameIndex := 176, descriptorIndex := 173, attributes := #[] }, { accessFlags := 8, nameIndex := 344, descriptorIndex := 339, attributes := #[] }, { accessFlags := 8, nameIndex := 338, descriptorIndex := 339, attributes := #[] }, { accessFlags := 4120, nameIndex := 245, descriptorIndex := 246, attributes := #[] }])
  fields := #[{ name := "E", type := .double, accessFlags := 25, slot := 0, constantValue := 0 }, { name := "PI", type := .double, accessFlags := 25, slot := 1, constantValue := 0 }, { name := "TAU", type := .double, accessFlags := 25, slot := 2, constantValue := 0 }, { name := "DEGREES_TO_RADIANS", type := .double, accessFlags := 26, slot := 3, constantValue := 0 }, { name := "RADIANS_TO_DEGREES", type := .double, accessFlags := 26, slot := 4, constantValue := 0 }, { name := "negativeZeroFloatBits", type := .long, accessFlags := 26, slot := 5, constantValue := 0 }, { name := "negativeZeroDoubleBits", type := .long, accessFlags := 26, slot := 6, constantValue := 0 }, { name := "twoToTheDoubleScaleUp", type := .double, accessFlags := 8, slot := 7, constantValue := 0 }, { name := "twoToTheDoubleScaleDown", type := .double, accessFlags := 8, slot := 8, constantValue := 0 }, { name := "$assertionsDisabled", type := .boolean, accessFlags := 4120, slot := 9, constantValue := 0 }]
  methods := #[k4m0, k4m1]
  instanceTypes := #[]
  staticTypes := #[.double, .double, .double, .double, .double, .long, .long, .double, .double, .boolean]
  resolved := Array.replicate 460 none
  statics := none }

def pool5 : Array CpInfo := pool [(2, .class_ 4), (1, u "java/lang/Object"), (0, u "<init>"), (0, u "()V"), (1, .class_ 10), (1, u "java/lang/System"), (0, u "allowSecurityManager"), (0, u "I"), (16, u "cons"), (0, u "Ljava/io/Console;"), (77, .class_ 110), (1, u "java/lang/System$CallersHolder"), (43, u "initialErrStream"), (0, u "Ljava/io/PrintStream;"), (19, u "security"), (0, u "Ljava/lang/SecurityManager;"), (31, .class_ 209), (0, u "java/lang/System$1"), (7, u "props"), (0, u "Ljava/util/Properties;"), (2, u "lineSeparator"), (0, u "Ljava/lang/String;"), (96, .class_ 321), (1, u "java/lang/System$LoggerFinder"), (5, .class_ 328), (0, u "java/lang/System$Logger"), (67, u "err"), (2, u "out"), (91, u "notSupportedJnuEncoding"), (15, u "in"), (17, u "initialIn"), (0, u "Ljava/io/InputStream;"), (35, u "bootLayer"), (0, u "Ljava/lang/ModuleLayer;"), (99, .class_ 664), (0, u "java/lang/System$2"), (9, u "NEVER"), (2, u "MAYBE"), (49, u "arraycopy"), (0, u "(Ljava/lang/Object;ILjava/lang/Object;II)V"), (72, .class_ 802), (0, u "java/lang/System$Logger$Level")] 31

def k5m0 : Method := { name := "<init>", desc := "()V", sig := { parameters := [], returnType := none }, accessFlags := 2, code := none }
def k5m1 : Method := { name := "arraycopy", desc := "(Ljava/lang/Object;ILjava/lang/Object;II)V", sig := { parameters := [(.object "java/lang/Object"), .int, (.object "java/lang/Object"), .int, .int], returnType := none }, accessFlags := 265, code := none }
/-- java/lang/System -/
def k5 : Class := { plain "java/lang/System" (some 0) with
  accessFlags := 49
  interfaces := #[]
  cf := some (fileOf pool5 8 #[.nestMembers #[319, 327, 801, 108, 663, 208]] #[{ accessFlags := 2, nameIndex := 5, descriptorIndex := 6, attributes := #[] }, { accessFlags := 265, nameIndex := 727, descriptorIndex := 728, attributes := #[] }] 49 2 #[] #[{ accessFlags := 25, nameIndex := 507, descriptorIndex := 526, attributes := #[] }, { accessFlags := 25, nameIndex := 399, descriptorIndex := 155, attributes := #[] }, { accessFlags := 25, nameIndex := 396, descriptorIndex := 155, attributes := #[] }, { accessFlags := 10, nameIndex := 525, descriptorIndex := 526, attributes := #[] }, { accessFlags := 26, nameIndex := 674, descriptorIndex := 12, attributes := #[] }, { accessFlags := 26, nameIndex := 677, descriptorIndex := 12, attributes := #[] }, { accessFlags := 10, nameIndex := 11, descriptorIndex := 12, attributes := #[] }, { accessFlags := 74, nameIndex := 175, descriptorIndex := 176, attributes := #[] }, { accessFlags := 10, nameIndex := 491, descriptorIndex := 222, attributes := #[] }, { accessFlags := 74, nameIndex := 29, descriptorIndex := 30, attributes := #[] }, { accessFlags := 74, nameIndex := 154, descriptorIndex := 155, attributes := #[] }, { accessFlags := 10, nameIndex := 217, descriptorIndex := 218, attributes := #[] }, { accessFlags := 10, nameIndex := 221, descriptorIndex := 222, attributes := #[] }, { accessFlags := 8, nameIndex := 562, descriptorIndex := 563, attributes := #[] }])
  fields := #[{ name := "in", type := (.object "java/io/InputStream"), accessFlags := 25, slot := 0, constantValue := 0 }, { name := "out", type := (.object "java/io/PrintStream"), accessFlags := 25, slot := 1, constantValue := 0 }, { name := "err", type := (.object "java/io/PrintStream"), accessFlags := 25, slot := 2, constantValue := 0 }, { name := "initialIn", type := (.object "java/io/InputStream"), accessFlags := 10, slot := 3, constantValue := 0 }, { name := "NEVER", type := .int, accessFlags := 26, slot := 4, constantValue := 0 }, { name := "MAYBE", type := .int, accessFlags := 26, slot := 5, constantValue := 0 }, { name := "allowSecurityManager", type := .int, accessFlags := 10, slot := 6, constantValue := 0 }, { name := "security", type := (.object "java/lang/SecurityManager"), accessFlags := 74, slot := 7, constantValue := 0 }, { name := "notSupportedJnuEncoding", type := (.object "java/lang/String"), accessFlags := 10, slot := 8, constantValue := 0 }, { name := "cons", type := (.object "java/io/Console"), accessFlags := 74, slot := 9, constantValue := 0 }, { name := "initialErrStream", type := (.object "java/io/PrintStream"), accessFlags := 74, slot := 10, constantValue := 0 }, { name := "props", type := (.object "java/util/Properties"), accessFlags := 10, slot := 11, constantValue := 0 }, { name := "lineSeparator", type := (.object "java/lang/String"), accessFlags := 10, slot := 12, constantValue := 0 }, { name := "bootLayer", type := (.object "java/lang/ModuleLayer"), accessFlags := 8, slot := 13, constantValue := 0 }]
  methods := #[k5m0, k5m1]
  instanceTypes := #[]
  staticTypes := #[(.object "java/io/InputStream"), (.object "java/io/PrintStream"), (.object "java/io/PrintStream"), (.object "java/io/InputStream"), .int, .int, .int, (.object "java/lang/SecurityManager"), (.object "java/lang/String"), (.object "java/io/Console"), (.object "java/io/PrintStream"), (.object "java/util/Properties"), (.object "java/lang/String"), (.object "java/lang/ModuleLayer")]
  resolved := Array.replicate 834 none
  statics := none }

def pool6 : Array CpInfo := pool [(1, u "java/lang/Cloneable"), (0, .class_ 1), (0, u "java/lang/Object"), (0, .class_ 3)] 3

/-- java/lang/Cloneable -/
def k6 : Class := { plain "java/lang/Cloneable" (some 0) with
  accessFlags := 1537
  interfaces := #[]
  cf := some (fileOf pool6 2 #[] #[] 1537 4 #[] #[])
  fields := #[]
  methods := #[]
  instanceTypes := #[]
  staticTypes := #[]
  resolved := Array.replicate 8 none
  statics := none }

def pool7 : Array CpInfo := pool [(1, u "java/io/Serializable"), (0, .class_ 1), (0, u "java/lang/Object"), (0, .class_ 3)] 3

/-- java/io/Serializable -/
def k7 : Class := { plain "java/io/Serializable" (some 0) with
  accessFlags := 1537
  interfaces := #[]
  cf := some (fileOf pool7 2 #[] #[] 1537 4 #[] #[])
  fields := #[]
  methods := #[]
  instanceTypes := #[]
  staticTypes := #[]
  resolved := Array.replicate 8 none
  statics := none }

/-- the primitive byte -/
def k8 : Class := { plain "byte" none with kind := .primitive 'B', accessFlags := 0x411 }
/-- [B -/
def k9 : Class := { plain "[B" (some 0) with kind := .array 8 .byte, interfaces := #[6, 7], accessFlags := 1041 }

/-- the primitive int -/
def k10 : Class := { plain "int" none with kind := .primitive 'I', accessFlags := 0x411 }
/-- [I -/
def k11 : Class := { plain "[I" (some 0) with kind := .array 10 .int, interfaces := #[6, 7], accessFlags := 1041 }

def heap : Heap := #[]
def classes : Array Class := #[k0, k1, k2, k3, k4, k5, k6, k7, k8, k9, k10, k11]
def interned : List (Array UInt16 × Addr) := []
def slotsUsed : Nat := 0
def theMethod : MethodId := ⟨1, 1⟩
def args0 : Array Value := #[.int 2, .int 5, .int 6, .int 7, .long 9]
def aboutOver (below : List Frame) : State where
  vm := { classes := classes, interned := interned.toArray }
  heap := heap
  slotsUsed := slotsUsed
  threads := #[{ frames := .invoking theMethod args0 :: below }]
def below0 : List Frame := [.native { method := ⟨0, 0⟩, args := #[] }]
def about1 : State := aboutOver below0
def p0 : Program := .bare "" "" ""
def e0 : Env := launch0.env 0 0 0
theorem w_frames : about1.frames = Frame.invoking theMethod args0 :: below0 := rfl
set_option maxRecDepth 65536 in
theorem w_args : argsFit about1.vm theMethod args0 = true := by decide +kernel
set_option maxRecDepth 65536 in
theorem w_heap : heapFits about1 = true := by decide +kernel
set_option maxRecDepth 65536 in
theorem w_runnable : about1.curStatus? = some .runnable := by decide +kernel
set_option maxRecDepth 65536 in
theorem w_alone : about1.alone = true := by decide +kernel
set_option maxRecDepth 65536 in
theorem w_named : about1.methodNamed? x = some theMethod := by decide +kernel
set_option maxRecDepth 65536 in
theorem w_hears : about1.hears theMethod below0 = true := by decide +kernel
set_option maxRecDepth 65536 in
theorem w_ripe : about1.ripe theMethod args0 below0 = true := by decide +kernel
theorem w_running : about1.status = .running := rfl
set_option maxRecDepth 65536 in
theorem w_room : about1.hasRoom e0.platform room_1 = true :=
  launch0.hasRoom_least _ room_1 (by decide +kernel) (by decide +kernel) (by decide +kernel) (by decide +kernel) (by decide +kernel) (by decide +kernel)
theorem allAtoms_all (ts : List Jvm.Cond) (a : Array Jvm.Value) (st : Jvm.State) : (allAtoms ts).before a st = ts.all (fun c => c.before a st) := by
  induction ts with
  | nil => rfl
  | cons c t ih =>
    show (Jvm.Cond.and c (allAtoms t)).before a st = _
    rw [Jvm.Cond.before_and, ih, List.all_cons]
def words1 : List Jvm.Cond := Jvm.Cond.code x code maxLocals ret :: tables_1
/-- a 'code' word, met by the world's own term for the bytes: nothing is compared byte by byte -/
theorem code_word {y : MethodName} {bytes : ByteArray} {mx : Nat} {rt : Option FieldType} {a : Array Value} {s : State} {m : MethodId} {meth : Method} {c : Code} (h1 : s.methodNamed? y = some m) (h2 : s.vm.method? m = some meth) (h3 : meth.code = some c) (h4 : c.code = bytes)
    (h5 : (c.maxLocals == mx && c.exceptionTable.isEmpty && decide (c.maxStack ≤ mostOperands) && decide (meth.sig.returnType = rt) && !meth.locks && decide (parseMethodDescriptor y.desc = some meth.sig)) = true) : (Jvm.Cond.code y bytes mx rt).before a s = true := by
  simp only [Bool.and_eq_true, beq_iff_eq, Bool.not_eq_true', decide_eq_true_eq] at h5
  obtain ⟨⟨⟨⟨⟨g1, g2⟩, g3⟩, g4⟩, g5⟩, g6⟩ := h5
  simp [Cond.before, Cond.holds, Cond.value, h1, h2, h3, h4, g1, g2, g3, g4, g5, g6]
def isCode : Jvm.Cond → Bool
  | .code _ _ _ _ => true
  | _ => false
theorem all_split {L : List Jvm.Cond} {P : Jvm.Cond → Bool} (h1 : L.all (fun c => isCode c || P c) = true) (h2 : ∀ c ∈ L.filter isCode, P c = true) : L.all P = true := by
  refine List.all_eq_true.mpr fun c hc => ?_
  have h := List.all_eq_true.mp h1 c hc
  rcases Bool.eq_false_or_eq_true (isCode c) with hi | hi
  · exact h2 c (List.mem_filter.mpr ⟨hc, hi⟩)
  · simpa [hi] using h
set_option maxRecDepth 65536 in
theorem w_c0 : (Jvm.Cond.code x code maxLocals ret).before args0 about1 = true := code_word (m := ⟨1, 1⟩) (meth := k1m1) (c := k1c1) (by decide +kernel) rfl rfl rfl (by decide +kernel)
set_option maxRecDepth 65536 in
theorem w_c1 : (Jvm.Cond.code ({ cls := "com/example/many_dashes/manydashes/form/SidLimits", name := "appended", desc := "([IJ)[I" } : Jvm.MethodName) prog_27_method_3_code (5 : Nat) (Option.some (Jvm.ClassFile.FieldType.array Jvm.ClassFile.FieldType.int))).before args0 about1 = true := code_word (m := ⟨2, 1⟩) (meth := k2m1) (c := k2c1) (by decide +kernel) rfl rfl rfl (by decide +kernel)
set_option maxRecDepth 65536 in
theorem w_c2 : (Jvm.Cond.code ({ cls := "java/util/Arrays", name := "copyOf", desc := "([II)[I" } : Jvm.MethodName) jdk_65_method_123_code (3 : Nat) (Option.some (Jvm.ClassFile.FieldType.array Jvm.ClassFile.FieldType.int))).before args0 about1 = true := code_word (m := ⟨3, 1⟩) (meth := k3m1) (c := k3c1) (by decide +kernel) rfl rfl rfl (by decide +kernel)
set_option maxRecDepth 65536 in
theorem w_c3 : (Jvm.Cond.code ({ cls := "java/lang/Math", name := "min", desc := "(II)I" } : Jvm.MethodName) jdk_29_method_69_code (2 : Nat) (Option.some Jvm.ClassFile.FieldType.int)).before args0 about1 = true := code_word (m := ⟨4, 1⟩) (meth := k4m1) (c := k4c1) (by decide +kernel) rfl rfl rfl (by decide +kernel)
def codes1 : List Jvm.Cond := [Jvm.Cond.code x code maxLocals ret, Jvm.Cond.code ({ cls := "com/example/many_dashes/manydashes/form/SidLimits", name := "appended", desc := "([IJ)[I" } : Jvm.MethodName) prog_27_method_3_code (5 : Nat) (Option.some (Jvm.ClassFile.FieldType.array Jvm.ClassFile.FieldType.int)), Jvm.Cond.code ({ cls := "java/util/Arrays", name := "copyOf", desc := "([II)[I" } : Jvm.MethodName) jdk_65_method_123_code (3 : Nat) (Option.some (Jvm.ClassFile.FieldType.array Jvm.ClassFile.FieldType.int)), Jvm.Cond.code ({ cls := "java/lang/Math", name := "min", desc := "(II)I" } : Jvm.MethodName) jdk_29_method_69_code (2 : Nat) (Option.some Jvm.ClassFile.FieldType.int)]
set_option maxRecDepth 65536 in
theorem codes_eq : words1.filter isCode = codes1 := rfl
theorem w_codes : ∀ c ∈ words1.filter isCode, c.before args0 about1 = true := by
  rw [codes_eq]
  intro c hc
  simp only [codes1, List.mem_cons, List.not_mem_nil, or_false] at hc
  rcases hc with rfl | rfl | rfl | rfl
  · exact w_c0
  · exact w_c1
  · exact w_c2
  · exact w_c3
set_option maxRecDepth 65536 in
theorem w_t1 : words1.all (fun c => isCode c || c.before args0 about1) = true := by decide +kernel
theorem w_tables : (allAtoms (Jvm.Cond.code x code maxLocals ret :: tables_1)).before args0 about1 = true := by
  rw [allAtoms_all]
  show words1.all (fun c => c.before args0 about1) = true
  refine all_split ?_ w_codes
  rw [w_t1]
set_option maxRecDepth 65536 in
theorem w_case : (Jvm.Cond.and given_1 narrow_1).before args0 about1 = true := by decide +kernel
theorem w_applies : (headSpec (Jvm.Cond.code x code maxLocals ret :: tables_1) room_1).applies x e0.platform about1 = true :=
  (Spec.applies_iff w_frames).mpr ⟨w_running, w_runnable, w_alone, w_named, w_hears, w_ripe, w_room, w_tables⟩
theorem atStart : AtStart classFile x code maxLocals ret World_1 tables_1 room_1 Calls_1 rest_1 Pre_1 launch0 p0 e0 about1 theMethod args0 below0 :=
  ⟨lists_1, trivial, launch0.admits_env _ _ _, launch0.least_env, fairChoices_fair.cas, fairChoices_fair.clock, w_frames, w_args, w_heap, w_applies, trivial, trivial, w_case⟩
end start1
theorem witness_1 : WitnessClaimed_1 := ⟨start1.p0, start1.e0, start1.about1, start1.theMethod, start1.args0, start1.below0, start1.atStart⟩
end Jvm.Pilot.@@N@@

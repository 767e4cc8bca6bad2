import JvmDerived
import JvmDerived.Pilot.@@N@@Statement
import JvmDerived.Pilot.@@N@@Code
set_option linter.unusedVariables false
set_option linter.unusedSimpArgs false
@@BLOCK:NumsL.lean.txt@@
namespace Jvm.Pilot.@@N@@
open Jvm Jvm.ClassFile Sem Op Lib Jvm.Free Jvm.Stand Jvm.LawKit Jvm.RoadKit Bundle Jvm.Pilot.@@N@@.Jvm.D
section Own
variable {p : Program} {l : Launch} {e : Env} {R : Room} {s : State} {m : MethodId} {args : Array Value} {below : List Frame} {meth : Method} {c : Code} {T : State} {locs : List Loc} {cells slots : Nat}
/-- from t the invocation comes to its end, and F holds there -/
def own_Ends (p : Program) (e : Env) (below : List Frame) (F : State → Outcome → Prop) (t : State) : Prop := ∃ s₂ o, Steps p.tables e below t s₂ ∧ s₂.status = .running ∧ Ended s₂ below o ∧ F s₂ o
theorem own_pre {F : State → Outcome → Prop} {t t' : State} (k : ∀ u, Steps p.tables e below t' u → Steps p.tables e below t u) (h : own_Ends p e below F t') : own_Ends p e below F t := by
  obtain ⟨s₂, o, h1, h2⟩ := h
  exact ⟨s₂, o, k _ h1, h2⟩
/-- what is asked of the end: G of the value, the heap and the places written; the frame -/
def own_Fin (s : State) (G : Option Value → Heap → List Loc → Prop) (C S : Nat) (s₂ : State) (o : Outcome) : Prop := ∃ v L, o = .returned v ∧ G v s₂.heap L ∧ FrameEnd s o s₂ L C S
theorem own_out (X : Stand p l e R s m args below meth c T locs cells slots) {v : Option Value} (hv : meth.sig.returnType = none → v = none) (hlk : meth.locks = false) {g : JFrame} {G : Option Value → Heap → List Loc → Prop} {C S : Nat} {h : Heap} (eT : T.heap = h) (hG : G v h locs) (hC : cells ≤ C) (hS : slots ≤ S)
    (st : ∀ fs, (∀ (f : JFrame) (acts : List Action), f.method = m → f.locked = none → f.entered = [] → (doReturn e (T.setTop f) acts v).1 = T.setFrames fs) → Steps p.tables e below (T.setTop g) (T.setFrames fs)) : own_Ends p e below (own_Fin s G C S) (T.setTop g) := by
  obtain ⟨fs, hr, hrun, hended, hW, hsame⟩ := X.leave (v := v) hv hlk
  subst eT
  exact ⟨_, _, st fs hr, hrun, hended, v, locs, rfl, hG, ⟨_, rfl⟩, hW, hsame.mono hC hS⟩
theorem own_retN (X : Stand p l e R s m args below meth c T locs cells slots) (hx : p.tables.exec = Jvm.exec) {pc : Nat} {Ls : Array Slot} {z z' : Int32} {t : FieldType} {rest : List Value} (hret : meth.sig.returnType = some t) (ht : t = .boolean ∨ t = .byte ∨ t = .char ∨ t = .short) (hd : decode c.code pc = .ok (.ireturn, 1)) (hlk : meth.locks = false) (hz : nar t z = z')
    {G : Option Value → Heap → List Loc → Prop} {C S : Nat} {h : Heap} (eT : T.heap = h) (hG : G (some (.int z')) h locs) (hC : cells ≤ C) (hS : slots ≤ S) : own_Ends p e below (own_Fin s G C S) (T.setTop (mkF m pc Ls (.int z :: rest))) := by
  subst hz
  exact own_out X (fun h => by rw [hret] at h; cases h) hlk eT hG hC hS (fun fs hr => retN X hx hret ht hd hr)
theorem own_retI (X : Stand p l e R s m args below meth c T locs cells slots) (hx : p.tables.exec = Jvm.exec) {pc : Nat} {Ls : Array Slot} {z : Int32} {rest : List Value} (hret : meth.sig.returnType = some .int) (hd : decode c.code pc = .ok (.ireturn, 1)) (hlk : meth.locks = false)
    {G : Option Value → Heap → List Loc → Prop} {C S : Nat} {h : Heap} (eT : T.heap = h) (hG : G (some (.int z)) h locs) (hC : cells ≤ C) (hS : slots ≤ S) : own_Ends p e below (own_Fin s G C S) (T.setTop (mkF m pc Ls (.int z :: rest))) :=
  own_out X (fun h => by rw [hret] at h; cases h) hlk eT hG hC hS (fun fs hr => retOut X hx hret rfl (Or.inl ⟨rfl, Or.inl rfl, _, rfl⟩) hd hr)
theorem own_retJ (X : Stand p l e R s m args below meth c T locs cells slots) (hx : p.tables.exec = Jvm.exec) {pc : Nat} {Ls : Array Slot} {z : Int64} {rest : List Value} (hret : meth.sig.returnType = some .long) (hd : decode c.code pc = .ok (.lreturn, 1)) (hlk : meth.locks = false)
    {G : Option Value → Heap → List Loc → Prop} {C S : Nat} {h : Heap} (eT : T.heap = h) (hG : G (some (.long z)) h locs) (hC : cells ≤ C) (hS : slots ≤ S) : own_Ends p e below (own_Fin s G C S) (T.setTop (mkF m pc Ls (.long z :: rest))) :=
  own_out X (fun h => by rw [hret] at h; cases h) hlk eT hG hC hS (fun fs hr => retOut X hx hret rfl (Or.inr (Or.inl ⟨rfl, rfl, _, rfl⟩)) hd hr)
theorem own_retR (X : Stand p l e R s m args below meth c T locs cells slots) (hx : p.tables.exec = Jvm.exec) {pc : Nat} {Ls : Array Slot} {a : Addr} {t : FieldType} {rest : List Value} (hret : meth.sig.returnType = some t) (ht : t.isReference = true) (hd : decode c.code pc = .ok (.areturn, 1)) (hlk : meth.locks = false)
    {G : Option Value → Heap → List Loc → Prop} {C S : Nat} {h : Heap} (eT : T.heap = h) (hG : G (some (.ref a)) h locs) (hC : cells ≤ C) (hS : slots ≤ S) : own_Ends p e below (own_Fin s G C S) (T.setTop (mkF m pc Ls (.ref a :: rest))) :=
  own_out X (fun h => by rw [hret] at h; cases h) hlk eT hG hC hS (fun fs hr => retOut X hx hret (by cases t <;> first | rfl | (simp [FieldType.isReference] at ht)) (Or.inr (Or.inr (Or.inr (Or.inr ⟨rfl, ht, rfl⟩)))) hd hr)
theorem own_retV (X : Stand p l e R s m args below meth c T locs cells slots) (hx : p.tables.exec = Jvm.exec) {pc : Nat} {Ls : Array Slot} (hret : meth.sig.returnType = none) (hd : decode c.code pc = .ok (.return_, 1)) (hlk : meth.locks = false)
    {G : Option Value → Heap → List Loc → Prop} {C S : Nat} {h : Heap} (eT : T.heap = h) (hG : G none h locs) (hC : cells ≤ C) (hS : slots ≤ S) : own_Ends p e below (own_Fin s G C S) (T.setTop (mkF m pc Ls [])) :=
  own_out X (fun _ => rfl) hlk eT hG hC hS (fun fs hr => X.returnOut hx hret hd hr)
theorem own_hide {n0 : Nat} (X : Stand p l e R s m args below meth c T locs cells slots) (N : Fr n0 locs) : ∃ L, Stand p l e R s m args below meth c T L cells slots ∧ Fr n0 L := ⟨_, X, N⟩
theorem own_len (X : Stand p l e R s m args below meth c T locs cells slots) (hx : p.tables.exec = Jvm.exec) {h : Heap} (eT : T.heap = h) {Z : State} (hZ : Z.Warmed39 s.vm) {a : Addr} {cl : Cell} {ty : FieldType} {z : Int32} (A : Arr Z h a cl ty) (S : cl.slots.size = z.toNatClampNeg) (M : ¬ z < 0)
    {g : JFrame} (hg : g.method = m) {rest : List Value} (hs : g.stack = .ref a :: rest) (hd : decode c.code g.pc = .ok (.arraylength, 1)) {target : State} (k : Steps p.tables e below (T.setTop { g with pc := g.pc + 1, stack := .int z :: rest }) target) : Steps p.tables e below (T.setTop g) target := by
  refine X.arraylength hx (by rw [eT]; exact A.1) (State.isArrayOf_alike hZ.alike A.2.1) hg hs hd _ ?_
  rw [len_of S M]
  exact k
theorem own_setAny {Z : State} {h h' : Heap} {a : Addr} {cl : Cell} {k : ClassId} {ty : FieldType} {z : Int32} {vs : List Value} {dv v : Value} {j : Nat} (A : Arr Z h a cl ty) (q1 : cl.cls = k) (S : cl.slots.size = z.toNatClampNeg) (q3 : ¬ z < 0) (H : Has cl vs dv) (G : ∀ i, i < cl.slots.size → fits ty (vs.getD i dv) = true) (hv : fits ty v = true) (W : Wr h h' a j v) : ∃ vs', Arv Z h' a k ty z vs' dv := by
  have E : ∀ x, x < (cl.setSlot j v).slots.size → (cl.setSlot j v).slots[x]? = some ((cl.setSlot j v).slots.toList.getD x dv) := fun x hx => by
    rw [List.getD_eq_getElem?_getD, Array.getElem?_toList, Array.getElem?_eq_getElem hx]; rfl
  refine ⟨(cl.setSlot j v).slots.toList, _, A.same W, q1, by rw [sz_set]; exact S, q3, E, fun x hx => ?_⟩
  have hx' := hx
  rw [sz_set] at hx'
  have e1 := E x hx
  by_cases u : j = x
  · subst u
    have : (cl.setSlot j v).slots[j]? = some v := by simp [Cell.setSlot, hx']
    rw [this] at e1
    rw [← Option.some.inj e1]; exact hv
  · have : (cl.setSlot j v).slots[x]? = cl.slots[x]? := by simp [Cell.setSlot, Array.getElem?_setIfInBounds_ne u]
    rw [this, H x hx'] at e1
    rw [← Option.some.inj e1]; exact G x hx'
theorem own_staK {Z : State} {h h' : Heap} {a : Addr} {C n d D : String} {v : Value} (F : Sta Z h C n d v) (K : Keep h h' [a]) (E : Exa Z h a D) : Sta Z h' C n d v := by
  obtain ⟨cf, i, k, f, st, cell, h1, h2, h3, h4, h5, h6, h7⟩ := F
  obtain ⟨cl, kc, g1, -, -, g4, -⟩ := E
  have ne : st ≠ a := fun q => by subst q; cases h5.symm.trans g1; rw [h6] at g4; cases g4
  exact ⟨cf, i, k, f, st, cell, h1, h2, h3, h4, K.2.1 st cell h5 (ninS ne nin0), h6, h7⟩
theorem own_staK0 {Z : State} {h h' : Heap} {C n d : String} {v : Value} (F : Sta Z h C n d v) (K : Keep h h' []) : Sta Z h' C n d v := by
  obtain ⟨cf, i, k, f, st, cell, h1, h2, h3, h4, h5, h6, h7⟩ := F
  exact ⟨cf, i, k, f, st, cell, h1, h2, h3, h4, K.2.1 st cell h5 nin0, h6, h7⟩
theorem own_selP {Z : State} {a0 : Array Value} {y : MethodName} {kk : Nat} (hZ : Z.Warmed39 s.vm) (wi : (Cond.instantiable y.cls kk).before a0 Z = true) (wp : (Cond.privateMethod y).before a0 Z = true) (wm : (Cond.instanceMethod y).before a0 Z = true) (hy : y.cls ≠ "java/lang/invoke/MethodHandle" ∧ y.cls ≠ "java/lang/invoke/VarHandle") : (Cond.selects y.cls y y).before args s = true := by
  have wi' : (Cond.instantiable y.cls kk).before args s = true := mvT hZ wi
  obtain ⟨c', k', h1, h2, -, h4, -⟩ := Cond.instantiable_spec wi'
  have h5 : k'.isInterface = false := by
    cases q : k'.isInterface with
    | false => rfl
    | true => rw [q] at h4; simp at h4
  exact selects_self_of_private h1 h2 h5 (Cond.privateMethod_at (mvP hZ wp (args := args))) (mvT hZ wm) hy
/-- what lcmp pushes; the unsigned shifts -/
def own_cmpL (x y : Int64) : Int32 := if x > y then 1 else if x = y then 0 else -1
def own_ushr (x y : Int32) : Int32 := (x.toUInt32 >>> (y &&& 31).toUInt32).toInt32
def own_ushrL (x : Int64) (y : Int32) : Int64 := (x.toUInt64 >>> (y &&& 0x3f).toInt64.toUInt64).toInt64
theorem own_clt (x y : Int64) : own_cmpL x y < 0 ↔ x < y := lw_lt x y
theorem own_cgt (x y : Int64) : 0 < own_cmpL x y ↔ y < x := lw_gt x y
theorem own_ceq (x y : Int64) : own_cmpL x y = 0 ↔ x = y := lw_eq x y
end Own
theorem own_d1_0 : decode prog_29_method_2_code 0 = .ok (.iload_n 0, 1) := by decide +kernel
theorem own_d1_1 : decode prog_29_method_2_code 1 = .ok (.bipush 65, 2) := by decide +kernel
theorem own_d1_3 : decode prog_29_method_2_code 3 = .ok (.if_icmp .lt 9, 3) := by decide +kernel
theorem own_d1_6 : decode prog_29_method_2_code 6 = .ok (.iload_n 0, 1) := by decide +kernel
theorem own_d1_7 : decode prog_29_method_2_code 7 = .ok (.bipush 90, 2) := by decide +kernel
theorem own_d1_9 : decode prog_29_method_2_code 9 = .ok (.if_icmp .le 176, 3) := by decide +kernel
theorem own_d1_12 : decode prog_29_method_2_code 12 = .ok (.iload_n 0, 1) := by decide +kernel
theorem own_d1_13 : decode prog_29_method_2_code 13 = .ok (.bipush 97, 2) := by decide +kernel
theorem own_d1_15 : decode prog_29_method_2_code 15 = .ok (.if_icmp .lt 9, 3) := by decide +kernel
theorem own_d1_18 : decode prog_29_method_2_code 18 = .ok (.iload_n 0, 1) := by decide +kernel
theorem own_d1_19 : decode prog_29_method_2_code 19 = .ok (.bipush 122, 2) := by decide +kernel
theorem own_d1_21 : decode prog_29_method_2_code 21 = .ok (.if_icmp .le 164, 3) := by decide +kernel
theorem own_d1_24 : decode prog_29_method_2_code 24 = .ok (.iload_n 0, 1) := by decide +kernel
theorem own_d1_25 : decode prog_29_method_2_code 25 = .ok (.sipush 192, 3) := by decide +kernel
theorem own_d1_28 : decode prog_29_method_2_code 28 = .ok (.if_icmp .lt 10, 3) := by decide +kernel
theorem own_d1_31 : decode prog_29_method_2_code 31 = .ok (.iload_n 0, 1) := by decide +kernel
theorem own_d1_32 : decode prog_29_method_2_code 32 = .ok (.sipush 214, 3) := by decide +kernel
theorem own_d1_35 : decode prog_29_method_2_code 35 = .ok (.if_icmp .le 150, 3) := by decide +kernel
theorem own_d1_38 : decode prog_29_method_2_code 38 = .ok (.iload_n 0, 1) := by decide +kernel
theorem own_d1_39 : decode prog_29_method_2_code 39 = .ok (.sipush 216, 3) := by decide +kernel
theorem own_d1_42 : decode prog_29_method_2_code 42 = .ok (.if_icmp .lt 10, 3) := by decide +kernel
theorem own_d1_45 : decode prog_29_method_2_code 45 = .ok (.iload_n 0, 1) := by decide +kernel
theorem own_d1_46 : decode prog_29_method_2_code 46 = .ok (.sipush 246, 3) := by decide +kernel
theorem own_d1_49 : decode prog_29_method_2_code 49 = .ok (.if_icmp .le 136, 3) := by decide +kernel
theorem own_d1_52 : decode prog_29_method_2_code 52 = .ok (.iload_n 0, 1) := by decide +kernel
theorem own_d1_53 : decode prog_29_method_2_code 53 = .ok (.sipush 248, 3) := by decide +kernel
theorem own_d1_56 : decode prog_29_method_2_code 56 = .ok (.if_icmp .lt 10, 3) := by decide +kernel
theorem own_d1_59 : decode prog_29_method_2_code 59 = .ok (.iload_n 0, 1) := by decide +kernel
theorem own_d1_60 : decode prog_29_method_2_code 60 = .ok (.sipush 767, 3) := by decide +kernel
theorem own_d1_63 : decode prog_29_method_2_code 63 = .ok (.if_icmp .le 122, 3) := by decide +kernel
theorem own_d1_66 : decode prog_29_method_2_code 66 = .ok (.iload_n 0, 1) := by decide +kernel
theorem own_d1_67 : decode prog_29_method_2_code 67 = .ok (.sipush 880, 3) := by decide +kernel
theorem own_d1_70 : decode prog_29_method_2_code 70 = .ok (.if_icmp .lt 10, 3) := by decide +kernel
theorem own_d1_73 : decode prog_29_method_2_code 73 = .ok (.iload_n 0, 1) := by decide +kernel
theorem own_d1_74 : decode prog_29_method_2_code 74 = .ok (.sipush 893, 3) := by decide +kernel
theorem own_d1_77 : decode prog_29_method_2_code 77 = .ok (.if_icmp .le 108, 3) := by decide +kernel
theorem own_d1_80 : decode prog_29_method_2_code 80 = .ok (.iload_n 0, 1) := by decide +kernel
theorem own_d1_81 : decode prog_29_method_2_code 81 = .ok (.sipush 895, 3) := by decide +kernel
theorem own_d1_84 : decode prog_29_method_2_code 84 = .ok (.if_icmp .lt 10, 3) := by decide +kernel
theorem own_d1_87 : decode prog_29_method_2_code 87 = .ok (.iload_n 0, 1) := by decide +kernel
theorem own_d1_88 : decode prog_29_method_2_code 88 = .ok (.sipush 8191, 3) := by decide +kernel
theorem own_d1_91 : decode prog_29_method_2_code 91 = .ok (.if_icmp .le 94, 3) := by decide +kernel
theorem own_d1_94 : decode prog_29_method_2_code 94 = .ok (.iload_n 0, 1) := by decide +kernel
theorem own_d1_95 : decode prog_29_method_2_code 95 = .ok (.sipush 8204, 3) := by decide +kernel
theorem own_d1_98 : decode prog_29_method_2_code 98 = .ok (.if_icmp .lt 10, 3) := by decide +kernel
theorem own_d1_101 : decode prog_29_method_2_code 101 = .ok (.iload_n 0, 1) := by decide +kernel
theorem own_d1_102 : decode prog_29_method_2_code 102 = .ok (.sipush 8205, 3) := by decide +kernel
theorem own_d1_105 : decode prog_29_method_2_code 105 = .ok (.if_icmp .le 80, 3) := by decide +kernel
theorem own_d1_108 : decode prog_29_method_2_code 108 = .ok (.iload_n 0, 1) := by decide +kernel
theorem own_d1_109 : decode prog_29_method_2_code 109 = .ok (.sipush 8304, 3) := by decide +kernel
theorem own_d1_112 : decode prog_29_method_2_code 112 = .ok (.if_icmp .lt 10, 3) := by decide +kernel
theorem own_d1_115 : decode prog_29_method_2_code 115 = .ok (.iload_n 0, 1) := by decide +kernel
theorem own_d1_116 : decode prog_29_method_2_code 116 = .ok (.sipush 8591, 3) := by decide +kernel
theorem own_d1_119 : decode prog_29_method_2_code 119 = .ok (.if_icmp .le 66, 3) := by decide +kernel
theorem own_d1_122 : decode prog_29_method_2_code 122 = .ok (.iload_n 0, 1) := by decide +kernel
theorem own_d1_123 : decode prog_29_method_2_code 123 = .ok (.sipush 11264, 3) := by decide +kernel
theorem own_d1_126 : decode prog_29_method_2_code 126 = .ok (.if_icmp .lt 10, 3) := by decide +kernel
theorem own_d1_129 : decode prog_29_method_2_code 129 = .ok (.iload_n 0, 1) := by decide +kernel
theorem own_d1_130 : decode prog_29_method_2_code 130 = .ok (.sipush 12271, 3) := by decide +kernel
theorem own_d1_133 : decode prog_29_method_2_code 133 = .ok (.if_icmp .le 52, 3) := by decide +kernel
theorem own_d1_136 : decode prog_29_method_2_code 136 = .ok (.iload_n 0, 1) := by decide +kernel
theorem own_d1_137 : decode prog_29_method_2_code 137 = .ok (.sipush 12289, 3) := by decide +kernel
theorem own_d1_140 : decode prog_29_method_2_code 140 = .ok (.if_icmp .lt 9, 3) := by decide +kernel
theorem own_d1_143 : decode prog_29_method_2_code 143 = .ok (.iload_n 0, 1) := by decide +kernel
theorem own_d1_144 : decode prog_29_method_2_code 144 = .ok (.ldc 7, 2) := by decide +kernel
theorem own_d1_146 : decode prog_29_method_2_code 146 = .ok (.if_icmp .le 39, 3) := by decide +kernel
theorem own_d1_149 : decode prog_29_method_2_code 149 = .ok (.iload_n 0, 1) := by decide +kernel
theorem own_d1_150 : decode prog_29_method_2_code 150 = .ok (.ldc 8, 2) := by decide +kernel
theorem own_d1_152 : decode prog_29_method_2_code 152 = .ok (.if_icmp .lt 9, 3) := by decide +kernel
theorem own_d1_155 : decode prog_29_method_2_code 155 = .ok (.iload_n 0, 1) := by decide +kernel
theorem own_d1_156 : decode prog_29_method_2_code 156 = .ok (.ldc 9, 2) := by decide +kernel
theorem own_d1_158 : decode prog_29_method_2_code 158 = .ok (.if_icmp .le 27, 3) := by decide +kernel
theorem own_d1_161 : decode prog_29_method_2_code 161 = .ok (.iload_n 0, 1) := by decide +kernel
theorem own_d1_162 : decode prog_29_method_2_code 162 = .ok (.ldc 10, 2) := by decide +kernel
theorem own_d1_164 : decode prog_29_method_2_code 164 = .ok (.if_icmp .lt 9, 3) := by decide +kernel
theorem own_d1_167 : decode prog_29_method_2_code 167 = .ok (.iload_n 0, 1) := by decide +kernel
theorem own_d1_168 : decode prog_29_method_2_code 168 = .ok (.ldc 11, 2) := by decide +kernel
theorem own_d1_170 : decode prog_29_method_2_code 170 = .ok (.if_icmp .le 15, 3) := by decide +kernel
theorem own_d1_173 : decode prog_29_method_2_code 173 = .ok (.iload_n 0, 1) := by decide +kernel
theorem own_d1_174 : decode prog_29_method_2_code 174 = .ok (.ldc 12, 2) := by decide +kernel
theorem own_d1_176 : decode prog_29_method_2_code 176 = .ok (.if_icmp .lt 13, 3) := by decide +kernel
theorem own_d1_179 : decode prog_29_method_2_code 179 = .ok (.iload_n 0, 1) := by decide +kernel
theorem own_d1_180 : decode prog_29_method_2_code 180 = .ok (.ldc 13, 2) := by decide +kernel
theorem own_d1_182 : decode prog_29_method_2_code 182 = .ok (.if_icmp .gt 7, 3) := by decide +kernel
theorem own_d1_185 : decode prog_29_method_2_code 185 = .ok (.iconst 1, 1) := by decide +kernel
theorem own_d1_186 : decode prog_29_method_2_code 186 = .ok (.goto 4, 3) := by decide +kernel
theorem own_d1_189 : decode prog_29_method_2_code 189 = .ok (.iconst 0, 1) := by decide +kernel
theorem own_d1_190 : decode prog_29_method_2_code 190 = .ok (.ireturn, 1) := by decide +kernel
def own_base_173 (u0 : Int32) : Int32 := if u0 < (65536 : Int32) then (0 : Int32) else (if (983039 : Int32) < u0 then (0 : Int32) else (1 : Int32))
def own_base_161 (u0 : Int32) : Int32 := if u0 < (65008 : Int32) then (own_base_173 u0) else (if (65533 : Int32) < u0 then (own_base_173 u0) else (1 : Int32))
def own_base_149 (u0 : Int32) : Int32 := if u0 < (63744 : Int32) then (own_base_161 u0) else (if (64975 : Int32) < u0 then (own_base_161 u0) else (1 : Int32))
def own_base_136 (u0 : Int32) : Int32 := if u0 < (12289 : Int32) then (own_base_149 u0) else (if (55295 : Int32) < u0 then (own_base_149 u0) else (1 : Int32))
def own_base_122 (u0 : Int32) : Int32 := if u0 < (11264 : Int32) then (own_base_136 u0) else (if (12271 : Int32) < u0 then (own_base_136 u0) else (1 : Int32))
def own_base_108 (u0 : Int32) : Int32 := if u0 < (8304 : Int32) then (own_base_122 u0) else (if (8591 : Int32) < u0 then (own_base_122 u0) else (1 : Int32))
def own_base_94 (u0 : Int32) : Int32 := if u0 < (8204 : Int32) then (own_base_108 u0) else (if (8205 : Int32) < u0 then (own_base_108 u0) else (1 : Int32))
def own_base_80 (u0 : Int32) : Int32 := if u0 < (895 : Int32) then (own_base_94 u0) else (if (8191 : Int32) < u0 then (own_base_94 u0) else (1 : Int32))
def own_base_66 (u0 : Int32) : Int32 := if u0 < (880 : Int32) then (own_base_80 u0) else (if (893 : Int32) < u0 then (own_base_80 u0) else (1 : Int32))
def own_base_52 (u0 : Int32) : Int32 := if u0 < (248 : Int32) then (own_base_66 u0) else (if (767 : Int32) < u0 then (own_base_66 u0) else (1 : Int32))
def own_base_38 (u0 : Int32) : Int32 := if u0 < (216 : Int32) then (own_base_52 u0) else (if (246 : Int32) < u0 then (own_base_52 u0) else (1 : Int32))
def own_base_24 (u0 : Int32) : Int32 := if u0 < (192 : Int32) then (own_base_38 u0) else (if (214 : Int32) < u0 then (own_base_38 u0) else (1 : Int32))
def own_base_12 (u0 : Int32) : Int32 := if u0 < (97 : Int32) then (own_base_24 u0) else (if (122 : Int32) < u0 then (own_base_24 u0) else (1 : Int32))
def own_base (p0 : Int32) : Int32 := if p0 < (65 : Int32) then (own_base_12 p0) else (if (90 : Int32) < p0 then (own_base_12 p0) else (1 : Int32))
theorem own_pn0 : plainName "com/example/triweave/triweave/core/NameChars" = true := by first | (simp [plainName, overriddenIn]; done) | decide +kernel
theorem own_ef_rm1 (m : MethodId) (x0 : Int32) : entryFrame m #[(.int x0)] 1 = mkF m 0 #[.val (.int x0)] [] := by first | (simp [entryFrame, mkF, argsToLocals, Value.category]; done) | rfl
def own_Q_rm1 (Z : State) (p0 : Int32) (h0 : Heap) (n0 : Nat) (v : Option Value) (h : Heap) (L : List Loc) : Prop := v = some (.int (own_base p0)) ∧ Fr n0 L ∧ h = h0
set_option maxRecDepth 65536 in
set_option maxHeartbeats 40000000 in
theorem rm1 (l : Launch) (Z : State) (a0 : Array Value) (hw : ∀ d ∈ tables_1, d.before a0 Z = true) (ws : List Jvm.Cond) (p0 : Int32) (h0 : Heap) (n0 : Nat) (Z0 : n0 ≤ h0.size) :
    MetFree l (⟨"com/example/triweave/triweave/core/NameChars", "isBase", "(I)Z"⟩ : MethodName) (head1 (Jvm.Cond.code (⟨"com/example/triweave/triweave/core/NameChars", "isBase", "(I)Z"⟩ : MethodName) prog_29_method_2_code 1 (some .boolean) :: ws) ({ frames := 0, cells := 0, slots := 0, locals := 0 } : Room)) (fun a U => a = #[(.int p0)] ∧ Z.Warmed39 U.vm ∧ U.heap = h0) (fun _ _ _ _ _ => True) (fun _ U o U' => ∃ v L, o = .returned v ∧ (own_Q_rm1 Z p0 h0 n0) v U'.heap L ∧ FrameEnd U o U' L ({ frames := 0, cells := 0, slots := 0, locals := 0 } : Room).cells ({ frames := 0, cells := 0, slots := 0, locals := 0 } : Room).slots) := by
  refine MetFree.of_bodySF (plainFor_of_name own_pn0) hisR ?_
  intro p e s m args below meth c s₁ Bd hml0 hP hK
  obtain ⟨rfl, hZ, hh⟩ := hP
  have hx := Bd.exec
  have hby := Bd.bytes
  have hml : c.maxLocals = 1 := hml0
  have hown : s.vm.findClass "com/example/triweave/triweave/core/NameChars" = some m.cls := findClass_of_methodNamed Bd.named
  have hnm := (name_of_methodNamed Bd.named Bd.method).1
  have hlk : meth.locks = false := BodyLoose.notSynchronized Bd
  have X0 : Stand p l e ({ frames := 0, cells := 0, slots := 0, locals := 0 } : Room) s m #[(.int p0)] below meth c s₁ [] 0 0 := Stand.of_body Bd
  have e0 : s₁.heap = h0 := by rw [← hh, Bd.state]; rfl
  have N0 := Fr.nil n0
  show own_Ends p e below (own_Fin s (own_Q_rm1 Z p0 h0 n0) ({ frames := 0, cells := 0, slots := 0, locals := 0 } : Room).cells ({ frames := 0, cells := 0, slots := 0, locals := 0 } : Room).slots) _
  refine own_pre (fun t k => castTop (own_ef_rm1 m p0) k) ?_
  have J173 : ∀ (TT : State) (LL : List Loc) (XX : Stand p l e ({ frames := 0, cells := 0, slots := 0, locals := 0 } : Room) s m #[(.int p0)] below meth c TT LL 0 0) (eT : TT.heap = h0) (NN : Fr n0 LL) (u0 : Int32) (G : Option Value → Heap → List Loc → Prop) (hG : ∀ L, Fr n0 L → G (some (.int (own_base_173 u0))) h0 L), own_Ends p e below (own_Fin s G ({ frames := 0, cells := 0, slots := 0, locals := 0 } : Room).cells ({ frames := 0, cells := 0, slots := 0, locals := 0 } : Room).slots) (TT.setTop (mkF m 173 #[.val (.int u0)] [])) := by
    intro TT LL XX eT NN u0 G hG
    have hG : ∀ L, Fr n0 L → G (some (.int (if u0 < (65536 : Int32) then (0 : Int32) else (if (983039 : Int32) < u0 then (0 : Int32) else (1 : Int32))))) h0 L := hG
    show own_Ends _ _ _ _ (TT.setTop (mkF m 173 #[.val (.int u0)] []))
    refine own_pre (fun t k => XS.iloadN XX.here hx rfl (hb hby own_d1_173) rfl k) ?_
    show own_Ends _ _ _ _ (TT.setTop (mkF m 174 #[.val (.int u0)] [(.int u0)]))
    refine own_pre (fun t k => XX.ldcInt hx hown (mvT hZ (hw _ (List.mem_of_getElem? (i := 15) rfl))) (g := (mkF m 174 #[.val (.int u0)] [(.int u0)])) rfl (hb hby own_d1_174) _ k) ?_
    show own_Ends _ _ _ _ (TT.setTop (mkF m 176 #[.val (.int u0)] [(.int (65536 : Int32)), (.int u0)]))
    by_cases hc1 : u0 < (65536 : Int32)
    · skip
      rw [if_pos hc1] at hG
      refine own_pre (fun t k => XS.icmpYes XX.here hx rfl (pc0 := 176) (pc' := 189) rfl (hb hby own_d1_176) rfl (tlt hc1).1 (by decide) (by decide) k) ?_
      show own_Ends _ _ _ _ (TT.setTop (mkF m 189 #[.val (.int u0)] []))
      refine own_pre (fun t k => XS.iconst XX.here hx rfl (hb hby own_d1_189) k) ?_
      show own_Ends _ _ _ _ (TT.setTop (mkF m 190 #[.val (.int u0)] [(.int (0 : Int32))]))
      exact own_retN XX hx (t := .boolean) Bd.returns (by simp) (hb hby own_d1_190) hlk rfl eT (hG _ NN) (by decide) (by decide)
    · skip
      rw [if_neg hc1] at hG
      refine own_pre (fun t k => XS.icmpNo XX.here hx rfl (hb hby own_d1_176) rfl (flt hc1).1 k) ?_
      show own_Ends _ _ _ _ (TT.setTop (mkF m 179 #[.val (.int u0)] []))
      refine own_pre (fun t k => XS.iloadN XX.here hx rfl (hb hby own_d1_179) rfl k) ?_
      show own_Ends _ _ _ _ (TT.setTop (mkF m 180 #[.val (.int u0)] [(.int u0)]))
      refine own_pre (fun t k => XX.ldcInt hx hown (mvT hZ (hw _ (List.mem_of_getElem? (i := 27) rfl))) (g := (mkF m 180 #[.val (.int u0)] [(.int u0)])) rfl (hb hby own_d1_180) _ k) ?_
      show own_Ends _ _ _ _ (TT.setTop (mkF m 182 #[.val (.int u0)] [(.int (983039 : Int32)), (.int u0)]))
      by_cases hc2 : (983039 : Int32) < u0
      · skip
        rw [if_pos hc2] at hG
        refine own_pre (fun t k => XS.icmpYes XX.here hx rfl (pc0 := 182) (pc' := 189) rfl (hb hby own_d1_182) rfl (tlt hc2).2.2.1 (by decide) (by decide) k) ?_
        show own_Ends _ _ _ _ (TT.setTop (mkF m 189 #[.val (.int u0)] []))
        refine own_pre (fun t k => XS.iconst XX.here hx rfl (hb hby own_d1_189) k) ?_
        show own_Ends _ _ _ _ (TT.setTop (mkF m 190 #[.val (.int u0)] [(.int (0 : Int32))]))
        exact own_retN XX hx (t := .boolean) Bd.returns (by simp) (hb hby own_d1_190) hlk rfl eT (hG _ NN) (by decide) (by decide)
      · skip
        rw [if_neg hc2] at hG
        refine own_pre (fun t k => XS.icmpNo XX.here hx rfl (hb hby own_d1_182) rfl (flt hc2).2.2.1 k) ?_
        show own_Ends _ _ _ _ (TT.setTop (mkF m 185 #[.val (.int u0)] []))
        refine own_pre (fun t k => XS.iconst XX.here hx rfl (hb hby own_d1_185) k) ?_
        show own_Ends _ _ _ _ (TT.setTop (mkF m 186 #[.val (.int u0)] [(.int (1 : Int32))]))
        refine own_pre (fun t k => XS.goto XX.here hx rfl (pc0 := 186) (pc' := 190) rfl (hb hby own_d1_186) (by decide) (by decide) k) ?_
        show own_Ends _ _ _ _ (TT.setTop (mkF m 190 #[.val (.int u0)] [(.int (1 : Int32))]))
        exact own_retN XX hx (t := .boolean) Bd.returns (by simp) (hb hby own_d1_190) hlk rfl eT (hG _ NN) (by decide) (by decide)
  have J161 : ∀ (TT : State) (LL : List Loc) (XX : Stand p l e ({ frames := 0, cells := 0, slots := 0, locals := 0 } : Room) s m #[(.int p0)] below meth c TT LL 0 0) (eT : TT.heap = h0) (NN : Fr n0 LL) (u0 : Int32) (G : Option Value → Heap → List Loc → Prop) (hG : ∀ L, Fr n0 L → G (some (.int (own_base_161 u0))) h0 L), own_Ends p e below (own_Fin s G ({ frames := 0, cells := 0, slots := 0, locals := 0 } : Room).cells ({ frames := 0, cells := 0, slots := 0, locals := 0 } : Room).slots) (TT.setTop (mkF m 161 #[.val (.int u0)] [])) := by
    intro TT LL XX eT NN u0 G hG
    have hG : ∀ L, Fr n0 L → G (some (.int (if u0 < (65008 : Int32) then (own_base_173 u0) else (if (65533 : Int32) < u0 then (own_base_173 u0) else (1 : Int32))))) h0 L := hG
    show own_Ends _ _ _ _ (TT.setTop (mkF m 161 #[.val (.int u0)] []))
    refine own_pre (fun t k => XS.iloadN XX.here hx rfl (hb hby own_d1_161) rfl k) ?_
    show own_Ends _ _ _ _ (TT.setTop (mkF m 162 #[.val (.int u0)] [(.int u0)]))
    refine own_pre (fun t k => XX.ldcInt hx hown (mvT hZ (hw _ (List.mem_of_getElem? (i := 14) rfl))) (g := (mkF m 162 #[.val (.int u0)] [(.int u0)])) rfl (hb hby own_d1_162) _ k) ?_
    show own_Ends _ _ _ _ (TT.setTop (mkF m 164 #[.val (.int u0)] [(.int (65008 : Int32)), (.int u0)]))
    by_cases hc3 : u0 < (65008 : Int32)
    · skip
      rw [if_pos hc3] at hG
      refine own_pre (fun t k => XS.icmpYes XX.here hx rfl (pc0 := 164) (pc' := 173) rfl (hb hby own_d1_164) rfl (tlt hc3).1 (by decide) (by decide) k) ?_
      show own_Ends _ _ _ _ (TT.setTop (mkF m 173 #[.val (.int u0)] []))
      exact J173 _ _ XX eT NN u0 _ hG
    · skip
      rw [if_neg hc3] at hG
      refine own_pre (fun t k => XS.icmpNo XX.here hx rfl (hb hby own_d1_164) rfl (flt hc3).1 k) ?_
      show own_Ends _ _ _ _ (TT.setTop (mkF m 167 #[.val (.int u0)] []))
      refine own_pre (fun t k => XS.iloadN XX.here hx rfl (hb hby own_d1_167) rfl k) ?_
      show own_Ends _ _ _ _ (TT.setTop (mkF m 168 #[.val (.int u0)] [(.int u0)]))
      refine own_pre (fun t k => XX.ldcInt hx hown (mvT hZ (hw _ (List.mem_of_getElem? (i := 26) rfl))) (g := (mkF m 168 #[.val (.int u0)] [(.int u0)])) rfl (hb hby own_d1_168) _ k) ?_
      show own_Ends _ _ _ _ (TT.setTop (mkF m 170 #[.val (.int u0)] [(.int (65533 : Int32)), (.int u0)]))
      by_cases hc4 : (65533 : Int32) < u0
      · skip
        rw [if_pos hc4] at hG
        refine own_pre (fun t k => XS.icmpNo XX.here hx rfl (hb hby own_d1_170) rfl (tlt hc4).2.2.2 k) ?_
        show own_Ends _ _ _ _ (TT.setTop (mkF m 173 #[.val (.int u0)] []))
        exact J173 _ _ XX eT NN u0 _ hG
      · skip
        rw [if_neg hc4] at hG
        refine own_pre (fun t k => XS.icmpYes XX.here hx rfl (pc0 := 170) (pc' := 185) rfl (hb hby own_d1_170) rfl (flt hc4).2.2.2 (by decide) (by decide) k) ?_
        show own_Ends _ _ _ _ (TT.setTop (mkF m 185 #[.val (.int u0)] []))
        refine own_pre (fun t k => XS.iconst XX.here hx rfl (hb hby own_d1_185) k) ?_
        show own_Ends _ _ _ _ (TT.setTop (mkF m 186 #[.val (.int u0)] [(.int (1 : Int32))]))
        refine own_pre (fun t k => XS.goto XX.here hx rfl (pc0 := 186) (pc' := 190) rfl (hb hby own_d1_186) (by decide) (by decide) k) ?_
        show own_Ends _ _ _ _ (TT.setTop (mkF m 190 #[.val (.int u0)] [(.int (1 : Int32))]))
        exact own_retN XX hx (t := .boolean) Bd.returns (by simp) (hb hby own_d1_190) hlk rfl eT (hG _ NN) (by decide) (by decide)
  have J149 : ∀ (TT : State) (LL : List Loc) (XX : Stand p l e ({ frames := 0, cells := 0, slots := 0, locals := 0 } : Room) s m #[(.int p0)] below meth c TT LL 0 0) (eT : TT.heap = h0) (NN : Fr n0 LL) (u0 : Int32) (G : Option Value → Heap → List Loc → Prop) (hG : ∀ L, Fr n0 L → G (some (.int (own_base_149 u0))) h0 L), own_Ends p e below (own_Fin s G ({ frames := 0, cells := 0, slots := 0, locals := 0 } : Room).cells ({ frames := 0, cells := 0, slots := 0, locals := 0 } : Room).slots) (TT.setTop (mkF m 149 #[.val (.int u0)] [])) := by
    intro TT LL XX eT NN u0 G hG
    have hG : ∀ L, Fr n0 L → G (some (.int (if u0 < (63744 : Int32) then (own_base_161 u0) else (if (64975 : Int32) < u0 then (own_base_161 u0) else (1 : Int32))))) h0 L := hG
    show own_Ends _ _ _ _ (TT.setTop (mkF m 149 #[.val (.int u0)] []))
    refine own_pre (fun t k => XS.iloadN XX.here hx rfl (hb hby own_d1_149) rfl k) ?_
    show own_Ends _ _ _ _ (TT.setTop (mkF m 150 #[.val (.int u0)] [(.int u0)]))
    refine own_pre (fun t k => XX.ldcInt hx hown (mvT hZ (hw _ (List.mem_of_getElem? (i := 13) rfl))) (g := (mkF m 150 #[.val (.int u0)] [(.int u0)])) rfl (hb hby own_d1_150) _ k) ?_
    show own_Ends _ _ _ _ (TT.setTop (mkF m 152 #[.val (.int u0)] [(.int (63744 : Int32)), (.int u0)]))
    by_cases hc5 : u0 < (63744 : Int32)
    · skip
      rw [if_pos hc5] at hG
      refine own_pre (fun t k => XS.icmpYes XX.here hx rfl (pc0 := 152) (pc' := 161) rfl (hb hby own_d1_152) rfl (tlt hc5).1 (by decide) (by decide) k) ?_
      show own_Ends _ _ _ _ (TT.setTop (mkF m 161 #[.val (.int u0)] []))
      exact J161 _ _ XX eT NN u0 _ hG
    · skip
      rw [if_neg hc5] at hG
      refine own_pre (fun t k => XS.icmpNo XX.here hx rfl (hb hby own_d1_152) rfl (flt hc5).1 k) ?_
      show own_Ends _ _ _ _ (TT.setTop (mkF m 155 #[.val (.int u0)] []))
      refine own_pre (fun t k => XS.iloadN XX.here hx rfl (hb hby own_d1_155) rfl k) ?_
      show own_Ends _ _ _ _ (TT.setTop (mkF m 156 #[.val (.int u0)] [(.int u0)]))
      refine own_pre (fun t k => XX.ldcInt hx hown (mvT hZ (hw _ (List.mem_of_getElem? (i := 25) rfl))) (g := (mkF m 156 #[.val (.int u0)] [(.int u0)])) rfl (hb hby own_d1_156) _ k) ?_
      show own_Ends _ _ _ _ (TT.setTop (mkF m 158 #[.val (.int u0)] [(.int (64975 : Int32)), (.int u0)]))
      by_cases hc6 : (64975 : Int32) < u0
      · skip
        rw [if_pos hc6] at hG
        refine own_pre (fun t k => XS.icmpNo XX.here hx rfl (hb hby own_d1_158) rfl (tlt hc6).2.2.2 k) ?_
        show own_Ends _ _ _ _ (TT.setTop (mkF m 161 #[.val (.int u0)] []))
        exact J161 _ _ XX eT NN u0 _ hG
      · skip
        rw [if_neg hc6] at hG
        refine own_pre (fun t k => XS.icmpYes XX.here hx rfl (pc0 := 158) (pc' := 185) rfl (hb hby own_d1_158) rfl (flt hc6).2.2.2 (by decide) (by decide) k) ?_
        show own_Ends _ _ _ _ (TT.setTop (mkF m 185 #[.val (.int u0)] []))
        refine own_pre (fun t k => XS.iconst XX.here hx rfl (hb hby own_d1_185) k) ?_
        show own_Ends _ _ _ _ (TT.setTop (mkF m 186 #[.val (.int u0)] [(.int (1 : Int32))]))
        refine own_pre (fun t k => XS.goto XX.here hx rfl (pc0 := 186) (pc' := 190) rfl (hb hby own_d1_186) (by decide) (by decide) k) ?_
        show own_Ends _ _ _ _ (TT.setTop (mkF m 190 #[.val (.int u0)] [(.int (1 : Int32))]))
        exact own_retN XX hx (t := .boolean) Bd.returns (by simp) (hb hby own_d1_190) hlk rfl eT (hG _ NN) (by decide) (by decide)
  have J136 : ∀ (TT : State) (LL : List Loc) (XX : Stand p l e ({ frames := 0, cells := 0, slots := 0, locals := 0 } : Room) s m #[(.int p0)] below meth c TT LL 0 0) (eT : TT.heap = h0) (NN : Fr n0 LL) (u0 : Int32) (G : Option Value → Heap → List Loc → Prop) (hG : ∀ L, Fr n0 L → G (some (.int (own_base_136 u0))) h0 L), own_Ends p e below (own_Fin s G ({ frames := 0, cells := 0, slots := 0, locals := 0 } : Room).cells ({ frames := 0, cells := 0, slots := 0, locals := 0 } : Room).slots) (TT.setTop (mkF m 136 #[.val (.int u0)] [])) := by
    intro TT LL XX eT NN u0 G hG
    have hG : ∀ L, Fr n0 L → G (some (.int (if u0 < (12289 : Int32) then (own_base_149 u0) else (if (55295 : Int32) < u0 then (own_base_149 u0) else (1 : Int32))))) h0 L := hG
    show own_Ends _ _ _ _ (TT.setTop (mkF m 136 #[.val (.int u0)] []))
    refine own_pre (fun t k => XS.iloadN XX.here hx rfl (hb hby own_d1_136) rfl k) ?_
    show own_Ends _ _ _ _ (TT.setTop (mkF m 137 #[.val (.int u0)] [(.int u0)]))
    refine own_pre (fun t k => XS.sipush XX.here hx rfl (hb hby own_d1_137) k) ?_
    show own_Ends _ _ _ _ (TT.setTop (mkF m 140 #[.val (.int u0)] [(.int (12289 : Int32)), (.int u0)]))
    by_cases hc7 : u0 < (12289 : Int32)
    · skip
      rw [if_pos hc7] at hG
      refine own_pre (fun t k => XS.icmpYes XX.here hx rfl (pc0 := 140) (pc' := 149) rfl (hb hby own_d1_140) rfl (tlt hc7).1 (by decide) (by decide) k) ?_
      show own_Ends _ _ _ _ (TT.setTop (mkF m 149 #[.val (.int u0)] []))
      exact J149 _ _ XX eT NN u0 _ hG
    · skip
      rw [if_neg hc7] at hG
      refine own_pre (fun t k => XS.icmpNo XX.here hx rfl (hb hby own_d1_140) rfl (flt hc7).1 k) ?_
      show own_Ends _ _ _ _ (TT.setTop (mkF m 143 #[.val (.int u0)] []))
      refine own_pre (fun t k => XS.iloadN XX.here hx rfl (hb hby own_d1_143) rfl k) ?_
      show own_Ends _ _ _ _ (TT.setTop (mkF m 144 #[.val (.int u0)] [(.int u0)]))
      refine own_pre (fun t k => XX.ldcInt hx hown (mvT hZ (hw _ (List.mem_of_getElem? (i := 23) rfl))) (g := (mkF m 144 #[.val (.int u0)] [(.int u0)])) rfl (hb hby own_d1_144) _ k) ?_
      show own_Ends _ _ _ _ (TT.setTop (mkF m 146 #[.val (.int u0)] [(.int (55295 : Int32)), (.int u0)]))
      by_cases hc8 : (55295 : Int32) < u0
      · skip
        rw [if_pos hc8] at hG
        refine own_pre (fun t k => XS.icmpNo XX.here hx rfl (hb hby own_d1_146) rfl (tlt hc8).2.2.2 k) ?_
        show own_Ends _ _ _ _ (TT.setTop (mkF m 149 #[.val (.int u0)] []))
        exact J149 _ _ XX eT NN u0 _ hG
      · skip
        rw [if_neg hc8] at hG
        refine own_pre (fun t k => XS.icmpYes XX.here hx rfl (pc0 := 146) (pc' := 185) rfl (hb hby own_d1_146) rfl (flt hc8).2.2.2 (by decide) (by decide) k) ?_
        show own_Ends _ _ _ _ (TT.setTop (mkF m 185 #[.val (.int u0)] []))
        refine own_pre (fun t k => XS.iconst XX.here hx rfl (hb hby own_d1_185) k) ?_
        show own_Ends _ _ _ _ (TT.setTop (mkF m 186 #[.val (.int u0)] [(.int (1 : Int32))]))
        refine own_pre (fun t k => XS.goto XX.here hx rfl (pc0 := 186) (pc' := 190) rfl (hb hby own_d1_186) (by decide) (by decide) k) ?_
        show own_Ends _ _ _ _ (TT.setTop (mkF m 190 #[.val (.int u0)] [(.int (1 : Int32))]))
        exact own_retN XX hx (t := .boolean) Bd.returns (by simp) (hb hby own_d1_190) hlk rfl eT (hG _ NN) (by decide) (by decide)
  have J122 : ∀ (TT : State) (LL : List Loc) (XX : Stand p l e ({ frames := 0, cells := 0, slots := 0, locals := 0 } : Room) s m #[(.int p0)] below meth c TT LL 0 0) (eT : TT.heap = h0) (NN : Fr n0 LL) (u0 : Int32) (G : Option Value → Heap → List Loc → Prop) (hG : ∀ L, Fr n0 L → G (some (.int (own_base_122 u0))) h0 L), own_Ends p e below (own_Fin s G ({ frames := 0, cells := 0, slots := 0, locals := 0 } : Room).cells ({ frames := 0, cells := 0, slots := 0, locals := 0 } : Room).slots) (TT.setTop (mkF m 122 #[.val (.int u0)] [])) := by
    intro TT LL XX eT NN u0 G hG
    have hG : ∀ L, Fr n0 L → G (some (.int (if u0 < (11264 : Int32) then (own_base_136 u0) else (if (12271 : Int32) < u0 then (own_base_136 u0) else (1 : Int32))))) h0 L := hG
    show own_Ends _ _ _ _ (TT.setTop (mkF m 122 #[.val (.int u0)] []))
    refine own_pre (fun t k => XS.iloadN XX.here hx rfl (hb hby own_d1_122) rfl k) ?_
    show own_Ends _ _ _ _ (TT.setTop (mkF m 123 #[.val (.int u0)] [(.int u0)]))
    refine own_pre (fun t k => XS.sipush XX.here hx rfl (hb hby own_d1_123) k) ?_
    show own_Ends _ _ _ _ (TT.setTop (mkF m 126 #[.val (.int u0)] [(.int (11264 : Int32)), (.int u0)]))
    by_cases hc9 : u0 < (11264 : Int32)
    · skip
      rw [if_pos hc9] at hG
      refine own_pre (fun t k => XS.icmpYes XX.here hx rfl (pc0 := 126) (pc' := 136) rfl (hb hby own_d1_126) rfl (tlt hc9).1 (by decide) (by decide) k) ?_
      show own_Ends _ _ _ _ (TT.setTop (mkF m 136 #[.val (.int u0)] []))
      exact J136 _ _ XX eT NN u0 _ hG
    · skip
      rw [if_neg hc9] at hG
      refine own_pre (fun t k => XS.icmpNo XX.here hx rfl (hb hby own_d1_126) rfl (flt hc9).1 k) ?_
      show own_Ends _ _ _ _ (TT.setTop (mkF m 129 #[.val (.int u0)] []))
      refine own_pre (fun t k => XS.iloadN XX.here hx rfl (hb hby own_d1_129) rfl k) ?_
      show own_Ends _ _ _ _ (TT.setTop (mkF m 130 #[.val (.int u0)] [(.int u0)]))
      refine own_pre (fun t k => XS.sipush XX.here hx rfl (hb hby own_d1_130) k) ?_
      show own_Ends _ _ _ _ (TT.setTop (mkF m 133 #[.val (.int u0)] [(.int (12271 : Int32)), (.int u0)]))
      by_cases hc10 : (12271 : Int32) < u0
      · skip
        rw [if_pos hc10] at hG
        refine own_pre (fun t k => XS.icmpNo XX.here hx rfl (hb hby own_d1_133) rfl (tlt hc10).2.2.2 k) ?_
        show own_Ends _ _ _ _ (TT.setTop (mkF m 136 #[.val (.int u0)] []))
        exact J136 _ _ XX eT NN u0 _ hG
      · skip
        rw [if_neg hc10] at hG
        refine own_pre (fun t k => XS.icmpYes XX.here hx rfl (pc0 := 133) (pc' := 185) rfl (hb hby own_d1_133) rfl (flt hc10).2.2.2 (by decide) (by decide) k) ?_
        show own_Ends _ _ _ _ (TT.setTop (mkF m 185 #[.val (.int u0)] []))
        refine own_pre (fun t k => XS.iconst XX.here hx rfl (hb hby own_d1_185) k) ?_
        show own_Ends _ _ _ _ (TT.setTop (mkF m 186 #[.val (.int u0)] [(.int (1 : Int32))]))
        refine own_pre (fun t k => XS.goto XX.here hx rfl (pc0 := 186) (pc' := 190) rfl (hb hby own_d1_186) (by decide) (by decide) k) ?_
        show own_Ends _ _ _ _ (TT.setTop (mkF m 190 #[.val (.int u0)] [(.int (1 : Int32))]))
        exact own_retN XX hx (t := .boolean) Bd.returns (by simp) (hb hby own_d1_190) hlk rfl eT (hG _ NN) (by decide) (by decide)
  have J108 : ∀ (TT : State) (LL : List Loc) (XX : Stand p l e ({ frames := 0, cells := 0, slots := 0, locals := 0 } : Room) s m #[(.int p0)] below meth c TT LL 0 0) (eT : TT.heap = h0) (NN : Fr n0 LL) (u0 : Int32) (G : Option Value → Heap → List Loc → Prop) (hG : ∀ L, Fr n0 L → G (some (.int (own_base_108 u0))) h0 L), own_Ends p e below (own_Fin s G ({ frames := 0, cells := 0, slots := 0, locals := 0 } : Room).cells ({ frames := 0, cells := 0, slots := 0, locals := 0 } : Room).slots) (TT.setTop (mkF m 108 #[.val (.int u0)] [])) := by
    intro TT LL XX eT NN u0 G hG
    have hG : ∀ L, Fr n0 L → G (some (.int (if u0 < (8304 : Int32) then (own_base_122 u0) else (if (8591 : Int32) < u0 then (own_base_122 u0) else (1 : Int32))))) h0 L := hG
    show own_Ends _ _ _ _ (TT.setTop (mkF m 108 #[.val (.int u0)] []))
    refine own_pre (fun t k => XS.iloadN XX.here hx rfl (hb hby own_d1_108) rfl k) ?_
    show own_Ends _ _ _ _ (TT.setTop (mkF m 109 #[.val (.int u0)] [(.int u0)]))
    refine own_pre (fun t k => XS.sipush XX.here hx rfl (hb hby own_d1_109) k) ?_
    show own_Ends _ _ _ _ (TT.setTop (mkF m 112 #[.val (.int u0)] [(.int (8304 : Int32)), (.int u0)]))
    by_cases hc11 : u0 < (8304 : Int32)
    · skip
      rw [if_pos hc11] at hG
      refine own_pre (fun t k => XS.icmpYes XX.here hx rfl (pc0 := 112) (pc' := 122) rfl (hb hby own_d1_112) rfl (tlt hc11).1 (by decide) (by decide) k) ?_
      show own_Ends _ _ _ _ (TT.setTop (mkF m 122 #[.val (.int u0)] []))
      exact J122 _ _ XX eT NN u0 _ hG
    · skip
      rw [if_neg hc11] at hG
      refine own_pre (fun t k => XS.icmpNo XX.here hx rfl (hb hby own_d1_112) rfl (flt hc11).1 k) ?_
      show own_Ends _ _ _ _ (TT.setTop (mkF m 115 #[.val (.int u0)] []))
      refine own_pre (fun t k => XS.iloadN XX.here hx rfl (hb hby own_d1_115) rfl k) ?_
      show own_Ends _ _ _ _ (TT.setTop (mkF m 116 #[.val (.int u0)] [(.int u0)]))
      refine own_pre (fun t k => XS.sipush XX.here hx rfl (hb hby own_d1_116) k) ?_
      show own_Ends _ _ _ _ (TT.setTop (mkF m 119 #[.val (.int u0)] [(.int (8591 : Int32)), (.int u0)]))
      by_cases hc12 : (8591 : Int32) < u0
      · skip
        rw [if_pos hc12] at hG
        refine own_pre (fun t k => XS.icmpNo XX.here hx rfl (hb hby own_d1_119) rfl (tlt hc12).2.2.2 k) ?_
        show own_Ends _ _ _ _ (TT.setTop (mkF m 122 #[.val (.int u0)] []))
        exact J122 _ _ XX eT NN u0 _ hG
      · skip
        rw [if_neg hc12] at hG
        refine own_pre (fun t k => XS.icmpYes XX.here hx rfl (pc0 := 119) (pc' := 185) rfl (hb hby own_d1_119) rfl (flt hc12).2.2.2 (by decide) (by decide) k) ?_
        show own_Ends _ _ _ _ (TT.setTop (mkF m 185 #[.val (.int u0)] []))
        refine own_pre (fun t k => XS.iconst XX.here hx rfl (hb hby own_d1_185) k) ?_
        show own_Ends _ _ _ _ (TT.setTop (mkF m 186 #[.val (.int u0)] [(.int (1 : Int32))]))
        refine own_pre (fun t k => XS.goto XX.here hx rfl (pc0 := 186) (pc' := 190) rfl (hb hby own_d1_186) (by decide) (by decide) k) ?_
        show own_Ends _ _ _ _ (TT.setTop (mkF m 190 #[.val (.int u0)] [(.int (1 : Int32))]))
        exact own_retN XX hx (t := .boolean) Bd.returns (by simp) (hb hby own_d1_190) hlk rfl eT (hG _ NN) (by decide) (by decide)
  have J94 : ∀ (TT : State) (LL : List Loc) (XX : Stand p l e ({ frames := 0, cells := 0, slots := 0, locals := 0 } : Room) s m #[(.int p0)] below meth c TT LL 0 0) (eT : TT.heap = h0) (NN : Fr n0 LL) (u0 : Int32) (G : Option Value → Heap → List Loc → Prop) (hG : ∀ L, Fr n0 L → G (some (.int (own_base_94 u0))) h0 L), own_Ends p e below (own_Fin s G ({ frames := 0, cells := 0, slots := 0, locals := 0 } : Room).cells ({ frames := 0, cells := 0, slots := 0, locals := 0 } : Room).slots) (TT.setTop (mkF m 94 #[.val (.int u0)] [])) := by
    intro TT LL XX eT NN u0 G hG
    have hG : ∀ L, Fr n0 L → G (some (.int (if u0 < (8204 : Int32) then (own_base_108 u0) else (if (8205 : Int32) < u0 then (own_base_108 u0) else (1 : Int32))))) h0 L := hG
    show own_Ends _ _ _ _ (TT.setTop (mkF m 94 #[.val (.int u0)] []))
    refine own_pre (fun t k => XS.iloadN XX.here hx rfl (hb hby own_d1_94) rfl k) ?_
    show own_Ends _ _ _ _ (TT.setTop (mkF m 95 #[.val (.int u0)] [(.int u0)]))
    refine own_pre (fun t k => XS.sipush XX.here hx rfl (hb hby own_d1_95) k) ?_
    show own_Ends _ _ _ _ (TT.setTop (mkF m 98 #[.val (.int u0)] [(.int (8204 : Int32)), (.int u0)]))
    by_cases hc13 : u0 < (8204 : Int32)
    · skip
      rw [if_pos hc13] at hG
      refine own_pre (fun t k => XS.icmpYes XX.here hx rfl (pc0 := 98) (pc' := 108) rfl (hb hby own_d1_98) rfl (tlt hc13).1 (by decide) (by decide) k) ?_
      show own_Ends _ _ _ _ (TT.setTop (mkF m 108 #[.val (.int u0)] []))
      exact J108 _ _ XX eT NN u0 _ hG
    · skip
      rw [if_neg hc13] at hG
      refine own_pre (fun t k => XS.icmpNo XX.here hx rfl (hb hby own_d1_98) rfl (flt hc13).1 k) ?_
      show own_Ends _ _ _ _ (TT.setTop (mkF m 101 #[.val (.int u0)] []))
      refine own_pre (fun t k => XS.iloadN XX.here hx rfl (hb hby own_d1_101) rfl k) ?_
      show own_Ends _ _ _ _ (TT.setTop (mkF m 102 #[.val (.int u0)] [(.int u0)]))
      refine own_pre (fun t k => XS.sipush XX.here hx rfl (hb hby own_d1_102) k) ?_
      show own_Ends _ _ _ _ (TT.setTop (mkF m 105 #[.val (.int u0)] [(.int (8205 : Int32)), (.int u0)]))
      by_cases hc14 : (8205 : Int32) < u0
      · skip
        rw [if_pos hc14] at hG
        refine own_pre (fun t k => XS.icmpNo XX.here hx rfl (hb hby own_d1_105) rfl (tlt hc14).2.2.2 k) ?_
        show own_Ends _ _ _ _ (TT.setTop (mkF m 108 #[.val (.int u0)] []))
        exact J108 _ _ XX eT NN u0 _ hG
      · skip
        rw [if_neg hc14] at hG
        refine own_pre (fun t k => XS.icmpYes XX.here hx rfl (pc0 := 105) (pc' := 185) rfl (hb hby own_d1_105) rfl (flt hc14).2.2.2 (by decide) (by decide) k) ?_
        show own_Ends _ _ _ _ (TT.setTop (mkF m 185 #[.val (.int u0)] []))
        refine own_pre (fun t k => XS.iconst XX.here hx rfl (hb hby own_d1_185) k) ?_
        show own_Ends _ _ _ _ (TT.setTop (mkF m 186 #[.val (.int u0)] [(.int (1 : Int32))]))
        refine own_pre (fun t k => XS.goto XX.here hx rfl (pc0 := 186) (pc' := 190) rfl (hb hby own_d1_186) (by decide) (by decide) k) ?_
        show own_Ends _ _ _ _ (TT.setTop (mkF m 190 #[.val (.int u0)] [(.int (1 : Int32))]))
        exact own_retN XX hx (t := .boolean) Bd.returns (by simp) (hb hby own_d1_190) hlk rfl eT (hG _ NN) (by decide) (by decide)
  have J80 : ∀ (TT : State) (LL : List Loc) (XX : Stand p l e ({ frames := 0, cells := 0, slots := 0, locals := 0 } : Room) s m #[(.int p0)] below meth c TT LL 0 0) (eT : TT.heap = h0) (NN : Fr n0 LL) (u0 : Int32) (G : Option Value → Heap → List Loc → Prop) (hG : ∀ L, Fr n0 L → G (some (.int (own_base_80 u0))) h0 L), own_Ends p e below (own_Fin s G ({ frames := 0, cells := 0, slots := 0, locals := 0 } : Room).cells ({ frames := 0, cells := 0, slots := 0, locals := 0 } : Room).slots) (TT.setTop (mkF m 80 #[.val (.int u0)] [])) := by
    intro TT LL XX eT NN u0 G hG
    have hG : ∀ L, Fr n0 L → G (some (.int (if u0 < (895 : Int32) then (own_base_94 u0) else (if (8191 : Int32) < u0 then (own_base_94 u0) else (1 : Int32))))) h0 L := hG
    show own_Ends _ _ _ _ (TT.setTop (mkF m 80 #[.val (.int u0)] []))
    refine own_pre (fun t k => XS.iloadN XX.here hx rfl (hb hby own_d1_80) rfl k) ?_
    show own_Ends _ _ _ _ (TT.setTop (mkF m 81 #[.val (.int u0)] [(.int u0)]))
    refine own_pre (fun t k => XS.sipush XX.here hx rfl (hb hby own_d1_81) k) ?_
    show own_Ends _ _ _ _ (TT.setTop (mkF m 84 #[.val (.int u0)] [(.int (895 : Int32)), (.int u0)]))
    by_cases hc15 : u0 < (895 : Int32)
    · skip
      rw [if_pos hc15] at hG
      refine own_pre (fun t k => XS.icmpYes XX.here hx rfl (pc0 := 84) (pc' := 94) rfl (hb hby own_d1_84) rfl (tlt hc15).1 (by decide) (by decide) k) ?_
      show own_Ends _ _ _ _ (TT.setTop (mkF m 94 #[.val (.int u0)] []))
      exact J94 _ _ XX eT NN u0 _ hG
    · skip
      rw [if_neg hc15] at hG
      refine own_pre (fun t k => XS.icmpNo XX.here hx rfl (hb hby own_d1_84) rfl (flt hc15).1 k) ?_
      show own_Ends _ _ _ _ (TT.setTop (mkF m 87 #[.val (.int u0)] []))
      refine own_pre (fun t k => XS.iloadN XX.here hx rfl (hb hby own_d1_87) rfl k) ?_
      show own_Ends _ _ _ _ (TT.setTop (mkF m 88 #[.val (.int u0)] [(.int u0)]))
      refine own_pre (fun t k => XS.sipush XX.here hx rfl (hb hby own_d1_88) k) ?_
      show own_Ends _ _ _ _ (TT.setTop (mkF m 91 #[.val (.int u0)] [(.int (8191 : Int32)), (.int u0)]))
      by_cases hc16 : (8191 : Int32) < u0
      · skip
        rw [if_pos hc16] at hG
        refine own_pre (fun t k => XS.icmpNo XX.here hx rfl (hb hby own_d1_91) rfl (tlt hc16).2.2.2 k) ?_
        show own_Ends _ _ _ _ (TT.setTop (mkF m 94 #[.val (.int u0)] []))
        exact J94 _ _ XX eT NN u0 _ hG
      · skip
        rw [if_neg hc16] at hG
        refine own_pre (fun t k => XS.icmpYes XX.here hx rfl (pc0 := 91) (pc' := 185) rfl (hb hby own_d1_91) rfl (flt hc16).2.2.2 (by decide) (by decide) k) ?_
        show own_Ends _ _ _ _ (TT.setTop (mkF m 185 #[.val (.int u0)] []))
        refine own_pre (fun t k => XS.iconst XX.here hx rfl (hb hby own_d1_185) k) ?_
        show own_Ends _ _ _ _ (TT.setTop (mkF m 186 #[.val (.int u0)] [(.int (1 : Int32))]))
        refine own_pre (fun t k => XS.goto XX.here hx rfl (pc0 := 186) (pc' := 190) rfl (hb hby own_d1_186) (by decide) (by decide) k) ?_
        show own_Ends _ _ _ _ (TT.setTop (mkF m 190 #[.val (.int u0)] [(.int (1 : Int32))]))
        exact own_retN XX hx (t := .boolean) Bd.returns (by simp) (hb hby own_d1_190) hlk rfl eT (hG _ NN) (by decide) (by decide)
  have J66 : ∀ (TT : State) (LL : List Loc) (XX : Stand p l e ({ frames := 0, cells := 0, slots := 0, locals := 0 } : Room) s m #[(.int p0)] below meth c TT LL 0 0) (eT : TT.heap = h0) (NN : Fr n0 LL) (u0 : Int32) (G : Option Value → Heap → List Loc → Prop) (hG : ∀ L, Fr n0 L → G (some (.int (own_base_66 u0))) h0 L), own_Ends p e below (own_Fin s G ({ frames := 0, cells := 0, slots := 0, locals := 0 } : Room).cells ({ frames := 0, cells := 0, slots := 0, locals := 0 } : Room).slots) (TT.setTop (mkF m 66 #[.val (.int u0)] [])) := by
    intro TT LL XX eT NN u0 G hG
    have hG : ∀ L, Fr n0 L → G (some (.int (if u0 < (880 : Int32) then (own_base_80 u0) else (if (893 : Int32) < u0 then (own_base_80 u0) else (1 : Int32))))) h0 L := hG
    show own_Ends _ _ _ _ (TT.setTop (mkF m 66 #[.val (.int u0)] []))
    refine own_pre (fun t k => XS.iloadN XX.here hx rfl (hb hby own_d1_66) rfl k) ?_
    show own_Ends _ _ _ _ (TT.setTop (mkF m 67 #[.val (.int u0)] [(.int u0)]))
    refine own_pre (fun t k => XS.sipush XX.here hx rfl (hb hby own_d1_67) k) ?_
    show own_Ends _ _ _ _ (TT.setTop (mkF m 70 #[.val (.int u0)] [(.int (880 : Int32)), (.int u0)]))
    by_cases hc17 : u0 < (880 : Int32)
    · skip
      rw [if_pos hc17] at hG
      refine own_pre (fun t k => XS.icmpYes XX.here hx rfl (pc0 := 70) (pc' := 80) rfl (hb hby own_d1_70) rfl (tlt hc17).1 (by decide) (by decide) k) ?_
      show own_Ends _ _ _ _ (TT.setTop (mkF m 80 #[.val (.int u0)] []))
      exact J80 _ _ XX eT NN u0 _ hG
    · skip
      rw [if_neg hc17] at hG
      refine own_pre (fun t k => XS.icmpNo XX.here hx rfl (hb hby own_d1_70) rfl (flt hc17).1 k) ?_
      show own_Ends _ _ _ _ (TT.setTop (mkF m 73 #[.val (.int u0)] []))
      refine own_pre (fun t k => XS.iloadN XX.here hx rfl (hb hby own_d1_73) rfl k) ?_
      show own_Ends _ _ _ _ (TT.setTop (mkF m 74 #[.val (.int u0)] [(.int u0)]))
      refine own_pre (fun t k => XS.sipush XX.here hx rfl (hb hby own_d1_74) k) ?_
      show own_Ends _ _ _ _ (TT.setTop (mkF m 77 #[.val (.int u0)] [(.int (893 : Int32)), (.int u0)]))
      by_cases hc18 : (893 : Int32) < u0
      · skip
        rw [if_pos hc18] at hG
        refine own_pre (fun t k => XS.icmpNo XX.here hx rfl (hb hby own_d1_77) rfl (tlt hc18).2.2.2 k) ?_
        show own_Ends _ _ _ _ (TT.setTop (mkF m 80 #[.val (.int u0)] []))
        exact J80 _ _ XX eT NN u0 _ hG
      · skip
        rw [if_neg hc18] at hG
        refine own_pre (fun t k => XS.icmpYes XX.here hx rfl (pc0 := 77) (pc' := 185) rfl (hb hby own_d1_77) rfl (flt hc18).2.2.2 (by decide) (by decide) k) ?_
        show own_Ends _ _ _ _ (TT.setTop (mkF m 185 #[.val (.int u0)] []))
        refine own_pre (fun t k => XS.iconst XX.here hx rfl (hb hby own_d1_185) k) ?_
        show own_Ends _ _ _ _ (TT.setTop (mkF m 186 #[.val (.int u0)] [(.int (1 : Int32))]))
        refine own_pre (fun t k => XS.goto XX.here hx rfl (pc0 := 186) (pc' := 190) rfl (hb hby own_d1_186) (by decide) (by decide) k) ?_
        show own_Ends _ _ _ _ (TT.setTop (mkF m 190 #[.val (.int u0)] [(.int (1 : Int32))]))
        exact own_retN XX hx (t := .boolean) Bd.returns (by simp) (hb hby own_d1_190) hlk rfl eT (hG _ NN) (by decide) (by decide)
  have J52 : ∀ (TT : State) (LL : List Loc) (XX : Stand p l e ({ frames := 0, cells := 0, slots := 0, locals := 0 } : Room) s m #[(.int p0)] below meth c TT LL 0 0) (eT : TT.heap = h0) (NN : Fr n0 LL) (u0 : Int32) (G : Option Value → Heap → List Loc → Prop) (hG : ∀ L, Fr n0 L → G (some (.int (own_base_52 u0))) h0 L), own_Ends p e below (own_Fin s G ({ frames := 0, cells := 0, slots := 0, locals := 0 } : Room).cells ({ frames := 0, cells := 0, slots := 0, locals := 0 } : Room).slots) (TT.setTop (mkF m 52 #[.val (.int u0)] [])) := by
    intro TT LL XX eT NN u0 G hG
    have hG : ∀ L, Fr n0 L → G (some (.int (if u0 < (248 : Int32) then (own_base_66 u0) else (if (767 : Int32) < u0 then (own_base_66 u0) else (1 : Int32))))) h0 L := hG
    show own_Ends _ _ _ _ (TT.setTop (mkF m 52 #[.val (.int u0)] []))
    refine own_pre (fun t k => XS.iloadN XX.here hx rfl (hb hby own_d1_52) rfl k) ?_
    show own_Ends _ _ _ _ (TT.setTop (mkF m 53 #[.val (.int u0)] [(.int u0)]))
    refine own_pre (fun t k => XS.sipush XX.here hx rfl (hb hby own_d1_53) k) ?_
    show own_Ends _ _ _ _ (TT.setTop (mkF m 56 #[.val (.int u0)] [(.int (248 : Int32)), (.int u0)]))
    by_cases hc19 : u0 < (248 : Int32)
    · skip
      rw [if_pos hc19] at hG
      refine own_pre (fun t k => XS.icmpYes XX.here hx rfl (pc0 := 56) (pc' := 66) rfl (hb hby own_d1_56) rfl (tlt hc19).1 (by decide) (by decide) k) ?_
      show own_Ends _ _ _ _ (TT.setTop (mkF m 66 #[.val (.int u0)] []))
      exact J66 _ _ XX eT NN u0 _ hG
    · skip
      rw [if_neg hc19] at hG
      refine own_pre (fun t k => XS.icmpNo XX.here hx rfl (hb hby own_d1_56) rfl (flt hc19).1 k) ?_
      show own_Ends _ _ _ _ (TT.setTop (mkF m 59 #[.val (.int u0)] []))
      refine own_pre (fun t k => XS.iloadN XX.here hx rfl (hb hby own_d1_59) rfl k) ?_
      show own_Ends _ _ _ _ (TT.setTop (mkF m 60 #[.val (.int u0)] [(.int u0)]))
      refine own_pre (fun t k => XS.sipush XX.here hx rfl (hb hby own_d1_60) k) ?_
      show own_Ends _ _ _ _ (TT.setTop (mkF m 63 #[.val (.int u0)] [(.int (767 : Int32)), (.int u0)]))
      by_cases hc20 : (767 : Int32) < u0
      · skip
        rw [if_pos hc20] at hG
        refine own_pre (fun t k => XS.icmpNo XX.here hx rfl (hb hby own_d1_63) rfl (tlt hc20).2.2.2 k) ?_
        show own_Ends _ _ _ _ (TT.setTop (mkF m 66 #[.val (.int u0)] []))
        exact J66 _ _ XX eT NN u0 _ hG
      · skip
        rw [if_neg hc20] at hG
        refine own_pre (fun t k => XS.icmpYes XX.here hx rfl (pc0 := 63) (pc' := 185) rfl (hb hby own_d1_63) rfl (flt hc20).2.2.2 (by decide) (by decide) k) ?_
        show own_Ends _ _ _ _ (TT.setTop (mkF m 185 #[.val (.int u0)] []))
        refine own_pre (fun t k => XS.iconst XX.here hx rfl (hb hby own_d1_185) k) ?_
        show own_Ends _ _ _ _ (TT.setTop (mkF m 186 #[.val (.int u0)] [(.int (1 : Int32))]))
        refine own_pre (fun t k => XS.goto XX.here hx rfl (pc0 := 186) (pc' := 190) rfl (hb hby own_d1_186) (by decide) (by decide) k) ?_
        show own_Ends _ _ _ _ (TT.setTop (mkF m 190 #[.val (.int u0)] [(.int (1 : Int32))]))
        exact own_retN XX hx (t := .boolean) Bd.returns (by simp) (hb hby own_d1_190) hlk rfl eT (hG _ NN) (by decide) (by decide)
  have J38 : ∀ (TT : State) (LL : List Loc) (XX : Stand p l e ({ frames := 0, cells := 0, slots := 0, locals := 0 } : Room) s m #[(.int p0)] below meth c TT LL 0 0) (eT : TT.heap = h0) (NN : Fr n0 LL) (u0 : Int32) (G : Option Value → Heap → List Loc → Prop) (hG : ∀ L, Fr n0 L → G (some (.int (own_base_38 u0))) h0 L), own_Ends p e below (own_Fin s G ({ frames := 0, cells := 0, slots := 0, locals := 0 } : Room).cells ({ frames := 0, cells := 0, slots := 0, locals := 0 } : Room).slots) (TT.setTop (mkF m 38 #[.val (.int u0)] [])) := by
    intro TT LL XX eT NN u0 G hG
    have hG : ∀ L, Fr n0 L → G (some (.int (if u0 < (216 : Int32) then (own_base_52 u0) else (if (246 : Int32) < u0 then (own_base_52 u0) else (1 : Int32))))) h0 L := hG
    show own_Ends _ _ _ _ (TT.setTop (mkF m 38 #[.val (.int u0)] []))
    refine own_pre (fun t k => XS.iloadN XX.here hx rfl (hb hby own_d1_38) rfl k) ?_
    show own_Ends _ _ _ _ (TT.setTop (mkF m 39 #[.val (.int u0)] [(.int u0)]))
    refine own_pre (fun t k => XS.sipush XX.here hx rfl (hb hby own_d1_39) k) ?_
    show own_Ends _ _ _ _ (TT.setTop (mkF m 42 #[.val (.int u0)] [(.int (216 : Int32)), (.int u0)]))
    by_cases hc21 : u0 < (216 : Int32)
    · skip
      rw [if_pos hc21] at hG
      refine own_pre (fun t k => XS.icmpYes XX.here hx rfl (pc0 := 42) (pc' := 52) rfl (hb hby own_d1_42) rfl (tlt hc21).1 (by decide) (by decide) k) ?_
      show own_Ends _ _ _ _ (TT.setTop (mkF m 52 #[.val (.int u0)] []))
      exact J52 _ _ XX eT NN u0 _ hG
    · skip
      rw [if_neg hc21] at hG
      refine own_pre (fun t k => XS.icmpNo XX.here hx rfl (hb hby own_d1_42) rfl (flt hc21).1 k) ?_
      show own_Ends _ _ _ _ (TT.setTop (mkF m 45 #[.val (.int u0)] []))
      refine own_pre (fun t k => XS.iloadN XX.here hx rfl (hb hby own_d1_45) rfl k) ?_
      show own_Ends _ _ _ _ (TT.setTop (mkF m 46 #[.val (.int u0)] [(.int u0)]))
      refine own_pre (fun t k => XS.sipush XX.here hx rfl (hb hby own_d1_46) k) ?_
      show own_Ends _ _ _ _ (TT.setTop (mkF m 49 #[.val (.int u0)] [(.int (246 : Int32)), (.int u0)]))
      by_cases hc22 : (246 : Int32) < u0
      · skip
        rw [if_pos hc22] at hG
        refine own_pre (fun t k => XS.icmpNo XX.here hx rfl (hb hby own_d1_49) rfl (tlt hc22).2.2.2 k) ?_
        show own_Ends _ _ _ _ (TT.setTop (mkF m 52 #[.val (.int u0)] []))
        exact J52 _ _ XX eT NN u0 _ hG
      · skip
        rw [if_neg hc22] at hG
        refine own_pre (fun t k => XS.icmpYes XX.here hx rfl (pc0 := 49) (pc' := 185) rfl (hb hby own_d1_49) rfl (flt hc22).2.2.2 (by decide) (by decide) k) ?_
        show own_Ends _ _ _ _ (TT.setTop (mkF m 185 #[.val (.int u0)] []))
        refine own_pre (fun t k => XS.iconst XX.here hx rfl (hb hby own_d1_185) k) ?_
        show own_Ends _ _ _ _ (TT.setTop (mkF m 186 #[.val (.int u0)] [(.int (1 : Int32))]))
        refine own_pre (fun t k => XS.goto XX.here hx rfl (pc0 := 186) (pc' := 190) rfl (hb hby own_d1_186) (by decide) (by decide) k) ?_
        show own_Ends _ _ _ _ (TT.setTop (mkF m 190 #[.val (.int u0)] [(.int (1 : Int32))]))
        exact own_retN XX hx (t := .boolean) Bd.returns (by simp) (hb hby own_d1_190) hlk rfl eT (hG _ NN) (by decide) (by decide)
  have J24 : ∀ (TT : State) (LL : List Loc) (XX : Stand p l e ({ frames := 0, cells := 0, slots := 0, locals := 0 } : Room) s m #[(.int p0)] below meth c TT LL 0 0) (eT : TT.heap = h0) (NN : Fr n0 LL) (u0 : Int32) (G : Option Value → Heap → List Loc → Prop) (hG : ∀ L, Fr n0 L → G (some (.int (own_base_24 u0))) h0 L), own_Ends p e below (own_Fin s G ({ frames := 0, cells := 0, slots := 0, locals := 0 } : Room).cells ({ frames := 0, cells := 0, slots := 0, locals := 0 } : Room).slots) (TT.setTop (mkF m 24 #[.val (.int u0)] [])) := by
    intro TT LL XX eT NN u0 G hG
    have hG : ∀ L, Fr n0 L → G (some (.int (if u0 < (192 : Int32) then (own_base_38 u0) else (if (214 : Int32) < u0 then (own_base_38 u0) else (1 : Int32))))) h0 L := hG
    show own_Ends _ _ _ _ (TT.setTop (mkF m 24 #[.val (.int u0)] []))
    refine own_pre (fun t k => XS.iloadN XX.here hx rfl (hb hby own_d1_24) rfl k) ?_
    show own_Ends _ _ _ _ (TT.setTop (mkF m 25 #[.val (.int u0)] [(.int u0)]))
    refine own_pre (fun t k => XS.sipush XX.here hx rfl (hb hby own_d1_25) k) ?_
    show own_Ends _ _ _ _ (TT.setTop (mkF m 28 #[.val (.int u0)] [(.int (192 : Int32)), (.int u0)]))
    by_cases hc23 : u0 < (192 : Int32)
    · skip
      rw [if_pos hc23] at hG
      refine own_pre (fun t k => XS.icmpYes XX.here hx rfl (pc0 := 28) (pc' := 38) rfl (hb hby own_d1_28) rfl (tlt hc23).1 (by decide) (by decide) k) ?_
      show own_Ends _ _ _ _ (TT.setTop (mkF m 38 #[.val (.int u0)] []))
      exact J38 _ _ XX eT NN u0 _ hG
    · skip
      rw [if_neg hc23] at hG
      refine own_pre (fun t k => XS.icmpNo XX.here hx rfl (hb hby own_d1_28) rfl (flt hc23).1 k) ?_
      show own_Ends _ _ _ _ (TT.setTop (mkF m 31 #[.val (.int u0)] []))
      refine own_pre (fun t k => XS.iloadN XX.here hx rfl (hb hby own_d1_31) rfl k) ?_
      show own_Ends _ _ _ _ (TT.setTop (mkF m 32 #[.val (.int u0)] [(.int u0)]))
      refine own_pre (fun t k => XS.sipush XX.here hx rfl (hb hby own_d1_32) k) ?_
      show own_Ends _ _ _ _ (TT.setTop (mkF m 35 #[.val (.int u0)] [(.int (214 : Int32)), (.int u0)]))
      by_cases hc24 : (214 : Int32) < u0
      · skip
        rw [if_pos hc24] at hG
        refine own_pre (fun t k => XS.icmpNo XX.here hx rfl (hb hby own_d1_35) rfl (tlt hc24).2.2.2 k) ?_
        show own_Ends _ _ _ _ (TT.setTop (mkF m 38 #[.val (.int u0)] []))
        exact J38 _ _ XX eT NN u0 _ hG
      · skip
        rw [if_neg hc24] at hG
        refine own_pre (fun t k => XS.icmpYes XX.here hx rfl (pc0 := 35) (pc' := 185) rfl (hb hby own_d1_35) rfl (flt hc24).2.2.2 (by decide) (by decide) k) ?_
        show own_Ends _ _ _ _ (TT.setTop (mkF m 185 #[.val (.int u0)] []))
        refine own_pre (fun t k => XS.iconst XX.here hx rfl (hb hby own_d1_185) k) ?_
        show own_Ends _ _ _ _ (TT.setTop (mkF m 186 #[.val (.int u0)] [(.int (1 : Int32))]))
        refine own_pre (fun t k => XS.goto XX.here hx rfl (pc0 := 186) (pc' := 190) rfl (hb hby own_d1_186) (by decide) (by decide) k) ?_
        show own_Ends _ _ _ _ (TT.setTop (mkF m 190 #[.val (.int u0)] [(.int (1 : Int32))]))
        exact own_retN XX hx (t := .boolean) Bd.returns (by simp) (hb hby own_d1_190) hlk rfl eT (hG _ NN) (by decide) (by decide)
  have J12 : ∀ (TT : State) (LL : List Loc) (XX : Stand p l e ({ frames := 0, cells := 0, slots := 0, locals := 0 } : Room) s m #[(.int p0)] below meth c TT LL 0 0) (eT : TT.heap = h0) (NN : Fr n0 LL) (u0 : Int32) (G : Option Value → Heap → List Loc → Prop) (hG : ∀ L, Fr n0 L → G (some (.int (own_base_12 u0))) h0 L), own_Ends p e below (own_Fin s G ({ frames := 0, cells := 0, slots := 0, locals := 0 } : Room).cells ({ frames := 0, cells := 0, slots := 0, locals := 0 } : Room).slots) (TT.setTop (mkF m 12 #[.val (.int u0)] [])) := by
    intro TT LL XX eT NN u0 G hG
    have hG : ∀ L, Fr n0 L → G (some (.int (if u0 < (97 : Int32) then (own_base_24 u0) else (if (122 : Int32) < u0 then (own_base_24 u0) else (1 : Int32))))) h0 L := hG
    show own_Ends _ _ _ _ (TT.setTop (mkF m 12 #[.val (.int u0)] []))
    refine own_pre (fun t k => XS.iloadN XX.here hx rfl (hb hby own_d1_12) rfl k) ?_
    show own_Ends _ _ _ _ (TT.setTop (mkF m 13 #[.val (.int u0)] [(.int u0)]))
    refine own_pre (fun t k => XS.bipush XX.here hx rfl (hb hby own_d1_13) k) ?_
    show own_Ends _ _ _ _ (TT.setTop (mkF m 15 #[.val (.int u0)] [(.int (97 : Int32)), (.int u0)]))
    by_cases hc25 : u0 < (97 : Int32)
    · skip
      rw [if_pos hc25] at hG
      refine own_pre (fun t k => XS.icmpYes XX.here hx rfl (pc0 := 15) (pc' := 24) rfl (hb hby own_d1_15) rfl (tlt hc25).1 (by decide) (by decide) k) ?_
      show own_Ends _ _ _ _ (TT.setTop (mkF m 24 #[.val (.int u0)] []))
      exact J24 _ _ XX eT NN u0 _ hG
    · skip
      rw [if_neg hc25] at hG
      refine own_pre (fun t k => XS.icmpNo XX.here hx rfl (hb hby own_d1_15) rfl (flt hc25).1 k) ?_
      show own_Ends _ _ _ _ (TT.setTop (mkF m 18 #[.val (.int u0)] []))
      refine own_pre (fun t k => XS.iloadN XX.here hx rfl (hb hby own_d1_18) rfl k) ?_
      show own_Ends _ _ _ _ (TT.setTop (mkF m 19 #[.val (.int u0)] [(.int u0)]))
      refine own_pre (fun t k => XS.bipush XX.here hx rfl (hb hby own_d1_19) k) ?_
      show own_Ends _ _ _ _ (TT.setTop (mkF m 21 #[.val (.int u0)] [(.int (122 : Int32)), (.int u0)]))
      by_cases hc26 : (122 : Int32) < u0
      · skip
        rw [if_pos hc26] at hG
        refine own_pre (fun t k => XS.icmpNo XX.here hx rfl (hb hby own_d1_21) rfl (tlt hc26).2.2.2 k) ?_
        show own_Ends _ _ _ _ (TT.setTop (mkF m 24 #[.val (.int u0)] []))
        exact J24 _ _ XX eT NN u0 _ hG
      · skip
        rw [if_neg hc26] at hG
        refine own_pre (fun t k => XS.icmpYes XX.here hx rfl (pc0 := 21) (pc' := 185) rfl (hb hby own_d1_21) rfl (flt hc26).2.2.2 (by decide) (by decide) k) ?_
        show own_Ends _ _ _ _ (TT.setTop (mkF m 185 #[.val (.int u0)] []))
        refine own_pre (fun t k => XS.iconst XX.here hx rfl (hb hby own_d1_185) k) ?_
        show own_Ends _ _ _ _ (TT.setTop (mkF m 186 #[.val (.int u0)] [(.int (1 : Int32))]))
        refine own_pre (fun t k => XS.goto XX.here hx rfl (pc0 := 186) (pc' := 190) rfl (hb hby own_d1_186) (by decide) (by decide) k) ?_
        show own_Ends _ _ _ _ (TT.setTop (mkF m 190 #[.val (.int u0)] [(.int (1 : Int32))]))
        exact own_retN XX hx (t := .boolean) Bd.returns (by simp) (hb hby own_d1_190) hlk rfl eT (hG _ NN) (by decide) (by decide)
  have J0 : ∀ (G : Option Value → Heap → List Loc → Prop) (hG : ∀ L, Fr n0 L → G (some (.int (if p0 < (65 : Int32) then (own_base_12 p0) else (if (90 : Int32) < p0 then (own_base_12 p0) else (1 : Int32))))) h0 L), own_Ends p e below (own_Fin s G ({ frames := 0, cells := 0, slots := 0, locals := 0 } : Room).cells ({ frames := 0, cells := 0, slots := 0, locals := 0 } : Room).slots) (s₁.setTop (mkF m 0 #[.val (.int p0)] [])) := by
    intro G hG
    show own_Ends _ _ _ _ (s₁.setTop (mkF m 0 #[.val (.int p0)] []))
    refine own_pre (fun t k => XS.iloadN X0.here hx rfl (hb hby own_d1_0) rfl k) ?_
    show own_Ends _ _ _ _ (s₁.setTop (mkF m 1 #[.val (.int p0)] [(.int p0)]))
    refine own_pre (fun t k => XS.bipush X0.here hx rfl (hb hby own_d1_1) k) ?_
    show own_Ends _ _ _ _ (s₁.setTop (mkF m 3 #[.val (.int p0)] [(.int (65 : Int32)), (.int p0)]))
    by_cases hc27 : p0 < (65 : Int32)
    · skip
      rw [if_pos hc27] at hG
      refine own_pre (fun t k => XS.icmpYes X0.here hx rfl (pc0 := 3) (pc' := 12) rfl (hb hby own_d1_3) rfl (tlt hc27).1 (by decide) (by decide) k) ?_
      show own_Ends _ _ _ _ (s₁.setTop (mkF m 12 #[.val (.int p0)] []))
      exact J12 _ _ X0 e0 N0 p0 _ hG
    · skip
      rw [if_neg hc27] at hG
      refine own_pre (fun t k => XS.icmpNo X0.here hx rfl (hb hby own_d1_3) rfl (flt hc27).1 k) ?_
      show own_Ends _ _ _ _ (s₁.setTop (mkF m 6 #[.val (.int p0)] []))
      refine own_pre (fun t k => XS.iloadN X0.here hx rfl (hb hby own_d1_6) rfl k) ?_
      show own_Ends _ _ _ _ (s₁.setTop (mkF m 7 #[.val (.int p0)] [(.int p0)]))
      refine own_pre (fun t k => XS.bipush X0.here hx rfl (hb hby own_d1_7) k) ?_
      show own_Ends _ _ _ _ (s₁.setTop (mkF m 9 #[.val (.int p0)] [(.int (90 : Int32)), (.int p0)]))
      by_cases hc28 : (90 : Int32) < p0
      · skip
        rw [if_pos hc28] at hG
        refine own_pre (fun t k => XS.icmpNo X0.here hx rfl (hb hby own_d1_9) rfl (tlt hc28).2.2.2 k) ?_
        show own_Ends _ _ _ _ (s₁.setTop (mkF m 12 #[.val (.int p0)] []))
        exact J12 _ _ X0 e0 N0 p0 _ hG
      · skip
        rw [if_neg hc28] at hG
        refine own_pre (fun t k => XS.icmpYes X0.here hx rfl (pc0 := 9) (pc' := 185) rfl (hb hby own_d1_9) rfl (flt hc28).2.2.2 (by decide) (by decide) k) ?_
        show own_Ends _ _ _ _ (s₁.setTop (mkF m 185 #[.val (.int p0)] []))
        refine own_pre (fun t k => XS.iconst X0.here hx rfl (hb hby own_d1_185) k) ?_
        show own_Ends _ _ _ _ (s₁.setTop (mkF m 186 #[.val (.int p0)] [(.int (1 : Int32))]))
        refine own_pre (fun t k => XS.goto X0.here hx rfl (pc0 := 186) (pc' := 190) rfl (hb hby own_d1_186) (by decide) (by decide) k) ?_
        show own_Ends _ _ _ _ (s₁.setTop (mkF m 190 #[.val (.int p0)] [(.int (1 : Int32))]))
        exact own_retN X0 hx (t := .boolean) Bd.returns (by simp) (hb hby own_d1_190) hlk rfl e0 (hG _ N0) (by decide) (by decide)
  exact J0 _ fun L q => ⟨rfl, q, rfl⟩
theorem own_d2_0 : decode method_2_code 0 = .ok (.iload_n 0, 1) := by decide +kernel
theorem own_d2_1 : decode method_2_code 1 = .ok (.bipush 65, 2) := by decide +kernel
theorem own_d2_3 : decode method_2_code 3 = .ok (.if_icmp .ge 5, 3) := by decide +kernel
theorem own_d2_6 : decode method_2_code 6 = .ok (.iconst 1, 1) := by decide +kernel
theorem own_d2_7 : decode method_2_code 7 = .ok (.ireturn, 1) := by decide +kernel
theorem own_d2_8 : decode method_2_code 8 = .ok (.iload_n 0, 1) := by decide +kernel
theorem own_d2_9 : decode method_2_code 9 = .ok (.bipush 91, 2) := by decide +kernel
theorem own_d2_11 : decode method_2_code 11 = .ok (.if_icmp .lt 11, 3) := by decide +kernel
theorem own_d2_14 : decode method_2_code 14 = .ok (.iload_n 0, 1) := by decide +kernel
theorem own_d2_15 : decode method_2_code 15 = .ok (.bipush 96, 2) := by decide +kernel
theorem own_d2_17 : decode method_2_code 17 = .ok (.if_icmp .gt 5, 3) := by decide +kernel
theorem own_d2_20 : decode method_2_code 20 = .ok (.iconst 1, 1) := by decide +kernel
theorem own_d2_21 : decode method_2_code 21 = .ok (.ireturn, 1) := by decide +kernel
theorem own_d2_22 : decode method_2_code 22 = .ok (.iload_n 0, 1) := by decide +kernel
theorem own_d2_23 : decode method_2_code 23 = .ok (.bipush 123, 2) := by decide +kernel
theorem own_d2_25 : decode method_2_code 25 = .ok (.if_icmp .lt 12, 3) := by decide +kernel
theorem own_d2_28 : decode method_2_code 28 = .ok (.iload_n 0, 1) := by decide +kernel
theorem own_d2_29 : decode method_2_code 29 = .ok (.sipush 191, 3) := by decide +kernel
theorem own_d2_32 : decode method_2_code 32 = .ok (.if_icmp .gt 5, 3) := by decide +kernel
theorem own_d2_35 : decode method_2_code 35 = .ok (.iconst 1, 1) := by decide +kernel
theorem own_d2_36 : decode method_2_code 36 = .ok (.ireturn, 1) := by decide +kernel
theorem own_d2_37 : decode method_2_code 37 = .ok (.iload_n 0, 1) := by decide +kernel
theorem own_d2_38 : decode method_2_code 38 = .ok (.sipush 215, 3) := by decide +kernel
theorem own_d2_41 : decode method_2_code 41 = .ok (.if_icmp .eq 10, 3) := by decide +kernel
theorem own_d2_44 : decode method_2_code 44 = .ok (.iload_n 0, 1) := by decide +kernel
theorem own_d2_45 : decode method_2_code 45 = .ok (.sipush 247, 3) := by decide +kernel
theorem own_d2_48 : decode method_2_code 48 = .ok (.if_icmp .ne 5, 3) := by decide +kernel
theorem own_d2_51 : decode method_2_code 51 = .ok (.iconst 1, 1) := by decide +kernel
theorem own_d2_52 : decode method_2_code 52 = .ok (.ireturn, 1) := by decide +kernel
theorem own_d2_53 : decode method_2_code 53 = .ok (.iload_n 0, 1) := by decide +kernel
theorem own_d2_54 : decode method_2_code 54 = .ok (.sipush 768, 3) := by decide +kernel
theorem own_d2_57 : decode method_2_code 57 = .ok (.if_icmp .lt 12, 3) := by decide +kernel
theorem own_d2_60 : decode method_2_code 60 = .ok (.iload_n 0, 1) := by decide +kernel
theorem own_d2_61 : decode method_2_code 61 = .ok (.sipush 879, 3) := by decide +kernel
theorem own_d2_64 : decode method_2_code 64 = .ok (.if_icmp .gt 5, 3) := by decide +kernel
theorem own_d2_67 : decode method_2_code 67 = .ok (.iconst 1, 1) := by decide +kernel
theorem own_d2_68 : decode method_2_code 68 = .ok (.ireturn, 1) := by decide +kernel
theorem own_d2_69 : decode method_2_code 69 = .ok (.iload_n 0, 1) := by decide +kernel
theorem own_d2_70 : decode method_2_code 70 = .ok (.sipush 894, 3) := by decide +kernel
theorem own_d2_73 : decode method_2_code 73 = .ok (.if_icmp .ne 5, 3) := by decide +kernel
theorem own_d2_76 : decode method_2_code 76 = .ok (.iconst 1, 1) := by decide +kernel
theorem own_d2_77 : decode method_2_code 77 = .ok (.ireturn, 1) := by decide +kernel
theorem own_d2_78 : decode method_2_code 78 = .ok (.iload_n 0, 1) := by decide +kernel
theorem own_d2_79 : decode method_2_code 79 = .ok (.sipush 8192, 3) := by decide +kernel
theorem own_d2_82 : decode method_2_code 82 = .ok (.if_icmp .lt 12, 3) := by decide +kernel
theorem own_d2_85 : decode method_2_code 85 = .ok (.iload_n 0, 1) := by decide +kernel
theorem own_d2_86 : decode method_2_code 86 = .ok (.sipush 8203, 3) := by decide +kernel
theorem own_d2_89 : decode method_2_code 89 = .ok (.if_icmp .gt 5, 3) := by decide +kernel
theorem own_d2_92 : decode method_2_code 92 = .ok (.iconst 1, 1) := by decide +kernel
theorem own_d2_93 : decode method_2_code 93 = .ok (.ireturn, 1) := by decide +kernel
theorem own_d2_94 : decode method_2_code 94 = .ok (.iload_n 0, 1) := by decide +kernel
theorem own_d2_95 : decode method_2_code 95 = .ok (.sipush 8206, 3) := by decide +kernel
theorem own_d2_98 : decode method_2_code 98 = .ok (.if_icmp .lt 12, 3) := by decide +kernel
theorem own_d2_101 : decode method_2_code 101 = .ok (.iload_n 0, 1) := by decide +kernel
theorem own_d2_102 : decode method_2_code 102 = .ok (.sipush 8303, 3) := by decide +kernel
theorem own_d2_105 : decode method_2_code 105 = .ok (.if_icmp .gt 5, 3) := by decide +kernel
theorem own_d2_108 : decode method_2_code 108 = .ok (.iconst 1, 1) := by decide +kernel
theorem own_d2_109 : decode method_2_code 109 = .ok (.ireturn, 1) := by decide +kernel
theorem own_d2_110 : decode method_2_code 110 = .ok (.iload_n 0, 1) := by decide +kernel
theorem own_d2_111 : decode method_2_code 111 = .ok (.sipush 8592, 3) := by decide +kernel
theorem own_d2_114 : decode method_2_code 114 = .ok (.if_icmp .lt 12, 3) := by decide +kernel
theorem own_d2_117 : decode method_2_code 117 = .ok (.iload_n 0, 1) := by decide +kernel
theorem own_d2_118 : decode method_2_code 118 = .ok (.sipush 11263, 3) := by decide +kernel
theorem own_d2_121 : decode method_2_code 121 = .ok (.if_icmp .gt 5, 3) := by decide +kernel
theorem own_d2_124 : decode method_2_code 124 = .ok (.iconst 1, 1) := by decide +kernel
theorem own_d2_125 : decode method_2_code 125 = .ok (.ireturn, 1) := by decide +kernel
theorem own_d2_126 : decode method_2_code 126 = .ok (.iload_n 0, 1) := by decide +kernel
theorem own_d2_127 : decode method_2_code 127 = .ok (.sipush 12272, 3) := by decide +kernel
theorem own_d2_130 : decode method_2_code 130 = .ok (.if_icmp .lt 12, 3) := by decide +kernel
theorem own_d2_133 : decode method_2_code 133 = .ok (.iload_n 0, 1) := by decide +kernel
theorem own_d2_134 : decode method_2_code 134 = .ok (.sipush 12288, 3) := by decide +kernel
theorem own_d2_137 : decode method_2_code 137 = .ok (.if_icmp .gt 5, 3) := by decide +kernel
theorem own_d2_140 : decode method_2_code 140 = .ok (.iconst 1, 1) := by decide +kernel
theorem own_d2_141 : decode method_2_code 141 = .ok (.ireturn, 1) := by decide +kernel
theorem own_d2_142 : decode method_2_code 142 = .ok (.iload_n 0, 1) := by decide +kernel
theorem own_d2_143 : decode method_2_code 143 = .ok (.ldc 7, 2) := by decide +kernel
theorem own_d2_145 : decode method_2_code 145 = .ok (.if_icmp .lt 11, 3) := by decide +kernel
theorem own_d2_148 : decode method_2_code 148 = .ok (.iload_n 0, 1) := by decide +kernel
theorem own_d2_149 : decode method_2_code 149 = .ok (.ldc 8, 2) := by decide +kernel
theorem own_d2_151 : decode method_2_code 151 = .ok (.if_icmp .gt 5, 3) := by decide +kernel
theorem own_d2_154 : decode method_2_code 154 = .ok (.iconst 1, 1) := by decide +kernel
theorem own_d2_155 : decode method_2_code 155 = .ok (.ireturn, 1) := by decide +kernel
theorem own_d2_156 : decode method_2_code 156 = .ok (.iload_n 0, 1) := by decide +kernel
theorem own_d2_157 : decode method_2_code 157 = .ok (.ldc 9, 2) := by decide +kernel
theorem own_d2_159 : decode method_2_code 159 = .ok (.if_icmp .lt 11, 3) := by decide +kernel
theorem own_d2_162 : decode method_2_code 162 = .ok (.iload_n 0, 1) := by decide +kernel
theorem own_d2_163 : decode method_2_code 163 = .ok (.ldc 10, 2) := by decide +kernel
theorem own_d2_165 : decode method_2_code 165 = .ok (.if_icmp .gt 5, 3) := by decide +kernel
theorem own_d2_168 : decode method_2_code 168 = .ok (.iconst 1, 1) := by decide +kernel
theorem own_d2_169 : decode method_2_code 169 = .ok (.ireturn, 1) := by decide +kernel
theorem own_d2_170 : decode method_2_code 170 = .ok (.iload_n 0, 1) := by decide +kernel
theorem own_d2_171 : decode method_2_code 171 = .ok (.ldc 11, 2) := by decide +kernel
theorem own_d2_173 : decode method_2_code 173 = .ok (.if_icmp .eq 9, 3) := by decide +kernel
theorem own_d2_176 : decode method_2_code 176 = .ok (.iload_n 0, 1) := by decide +kernel
theorem own_d2_177 : decode method_2_code 177 = .ok (.ldc 12, 2) := by decide +kernel
theorem own_d2_179 : decode method_2_code 179 = .ok (.if_icmp .ne 5, 3) := by decide +kernel
theorem own_d2_182 : decode method_2_code 182 = .ok (.iconst 1, 1) := by decide +kernel
theorem own_d2_183 : decode method_2_code 183 = .ok (.ireturn, 1) := by decide +kernel
theorem own_d2_184 : decode method_2_code 184 = .ok (.iload_n 0, 1) := by decide +kernel
theorem own_d2_185 : decode method_2_code 185 = .ok (.ldc 13, 2) := by decide +kernel
theorem own_d2_187 : decode method_2_code 187 = .ok (.if_icmp .le 7, 3) := by decide +kernel
theorem own_d2_190 : decode method_2_code 190 = .ok (.iconst 1, 1) := by decide +kernel
theorem own_d2_191 : decode method_2_code 191 = .ok (.goto 4, 3) := by decide +kernel
theorem own_d2_194 : decode method_2_code 194 = .ok (.iconst 0, 1) := by decide +kernel
theorem own_d2_195 : decode method_2_code 195 = .ok (.ireturn, 1) := by decide +kernel
def own_notb_170 (u0 : Int32) : Int32 := if u0 = (65534 : Int32) then (1 : Int32) else (if u0 = (65535 : Int32) then (1 : Int32) else (if (983039 : Int32) < u0 then (1 : Int32) else (0 : Int32)))
def own_notb_156 (u0 : Int32) : Int32 := if u0 < (64976 : Int32) then (own_notb_170 u0) else (if (65007 : Int32) < u0 then (own_notb_170 u0) else (1 : Int32))
def own_notb_142 (u0 : Int32) : Int32 := if u0 < (55296 : Int32) then (own_notb_156 u0) else (if (63743 : Int32) < u0 then (own_notb_156 u0) else (1 : Int32))
def own_notb_126 (u0 : Int32) : Int32 := if u0 < (12272 : Int32) then (own_notb_142 u0) else (if (12288 : Int32) < u0 then (own_notb_142 u0) else (1 : Int32))
def own_notb_110 (u0 : Int32) : Int32 := if u0 < (8592 : Int32) then (own_notb_126 u0) else (if (11263 : Int32) < u0 then (own_notb_126 u0) else (1 : Int32))
def own_notb_94 (u0 : Int32) : Int32 := if u0 < (8206 : Int32) then (own_notb_110 u0) else (if (8303 : Int32) < u0 then (own_notb_110 u0) else (1 : Int32))
def own_notb_69 (u0 : Int32) : Int32 := if u0 = (894 : Int32) then (1 : Int32) else (if u0 < (8192 : Int32) then (own_notb_94 u0) else (if (8203 : Int32) < u0 then (own_notb_94 u0) else (1 : Int32)))
def own_notb_37 (u0 : Int32) : Int32 := if u0 = (215 : Int32) then (1 : Int32) else (if u0 = (247 : Int32) then (1 : Int32) else (if u0 < (768 : Int32) then (own_notb_69 u0) else (if (879 : Int32) < u0 then (own_notb_69 u0) else (1 : Int32))))
def own_notb_22 (u0 : Int32) : Int32 := if u0 < (123 : Int32) then (own_notb_37 u0) else (if (191 : Int32) < u0 then (own_notb_37 u0) else (1 : Int32))
def own_notb (p0 : Int32) : Int32 := if p0 < (65 : Int32) then (1 : Int32) else (if p0 < (91 : Int32) then (own_notb_22 p0) else (if (96 : Int32) < p0 then (own_notb_22 p0) else (1 : Int32)))
theorem own_pn1 : plainName "com/example/triweave/triweave/core/NameCharsIsBasePinLaw" = true := by first | (simp [plainName, overriddenIn]; done) | decide +kernel
theorem own_ef_rm2 (m : MethodId) (x0 : Int32) : entryFrame m #[(.int x0)] 1 = mkF m 0 #[.val (.int x0)] [] := by first | (simp [entryFrame, mkF, argsToLocals, Value.category]; done) | rfl
def own_Q_rm2 (Z : State) (p0 : Int32) (h0 : Heap) (n0 : Nat) (v : Option Value) (h : Heap) (L : List Loc) : Prop := v = some (.int (own_notb p0)) ∧ Fr n0 L ∧ h = h0
set_option maxRecDepth 65536 in
set_option maxHeartbeats 40000000 in
theorem rm2 (l : Launch) (Z : State) (a0 : Array Value) (hw : ∀ d ∈ tables_1, d.before a0 Z = true) (ws : List Jvm.Cond) (p0 : Int32) (h0 : Heap) (n0 : Nat) (Z0 : n0 ≤ h0.size) :
    MetFree l (⟨"com/example/triweave/triweave/core/NameCharsIsBasePinLaw", "notBase", "(I)Z"⟩ : MethodName) (head1 (Jvm.Cond.code (⟨"com/example/triweave/triweave/core/NameCharsIsBasePinLaw", "notBase", "(I)Z"⟩ : MethodName) method_2_code 1 (some .boolean) :: ws) ({ frames := 0, cells := 0, slots := 0, locals := 0 } : Room)) (fun a U => a = #[(.int p0)] ∧ Z.Warmed39 U.vm ∧ U.heap = h0) (fun _ _ _ _ _ => True) (fun _ U o U' => ∃ v L, o = .returned v ∧ (own_Q_rm2 Z p0 h0 n0) v U'.heap L ∧ FrameEnd U o U' L ({ frames := 0, cells := 0, slots := 0, locals := 0 } : Room).cells ({ frames := 0, cells := 0, slots := 0, locals := 0 } : Room).slots) := by
  refine MetFree.of_bodySF (plainFor_of_name own_pn1) hisR ?_
  intro p e s m args below meth c s₁ Bd hml0 hP hK
  obtain ⟨rfl, hZ, hh⟩ := hP
  have hx := Bd.exec
  have hby := Bd.bytes
  have hml : c.maxLocals = 1 := hml0
  have hown : s.vm.findClass "com/example/triweave/triweave/core/NameCharsIsBasePinLaw" = some m.cls := findClass_of_methodNamed Bd.named
  have hnm := (name_of_methodNamed Bd.named Bd.method).1
  have hlk : meth.locks = false := BodyLoose.notSynchronized Bd
  have X0 : Stand p l e ({ frames := 0, cells := 0, slots := 0, locals := 0 } : Room) s m #[(.int p0)] below meth c s₁ [] 0 0 := Stand.of_body Bd
  have e0 : s₁.heap = h0 := by rw [← hh, Bd.state]; rfl
  have N0 := Fr.nil n0
  show own_Ends p e below (own_Fin s (own_Q_rm2 Z p0 h0 n0) ({ frames := 0, cells := 0, slots := 0, locals := 0 } : Room).cells ({ frames := 0, cells := 0, slots := 0, locals := 0 } : Room).slots) _
  refine own_pre (fun t k => castTop (own_ef_rm2 m p0) k) ?_
  have J170 : ∀ (TT : State) (LL : List Loc) (XX : Stand p l e ({ frames := 0, cells := 0, slots := 0, locals := 0 } : Room) s m #[(.int p0)] below meth c TT LL 0 0) (eT : TT.heap = h0) (NN : Fr n0 LL) (u0 : Int32) (G : Option Value → Heap → List Loc → Prop) (hG : ∀ L, Fr n0 L → G (some (.int (own_notb_170 u0))) h0 L), own_Ends p e below (own_Fin s G ({ frames := 0, cells := 0, slots := 0, locals := 0 } : Room).cells ({ frames := 0, cells := 0, slots := 0, locals := 0 } : Room).slots) (TT.setTop (mkF m 170 #[.val (.int u0)] [])) := by
    intro TT LL XX eT NN u0 G hG
    have hG : ∀ L, Fr n0 L → G (some (.int (if u0 = (65534 : Int32) then (1 : Int32) else (if u0 = (65535 : Int32) then (1 : Int32) else (if (983039 : Int32) < u0 then (1 : Int32) else (0 : Int32)))))) h0 L := hG
    show own_Ends _ _ _ _ (TT.setTop (mkF m 170 #[.val (.int u0)] []))
    refine own_pre (fun t k => XS.iloadN XX.here hx rfl (hb hby own_d2_170) rfl k) ?_
    show own_Ends _ _ _ _ (TT.setTop (mkF m 171 #[.val (.int u0)] [(.int u0)]))
    refine own_pre (fun t k => XX.ldcInt hx hown (mvT hZ (hw _ (List.mem_of_getElem? (i := 22) rfl))) (g := (mkF m 171 #[.val (.int u0)] [(.int u0)])) rfl (hb hby own_d2_171) _ k) ?_
    show own_Ends _ _ _ _ (TT.setTop (mkF m 173 #[.val (.int u0)] [(.int (65534 : Int32)), (.int u0)]))
    by_cases hc29 : u0 = (65534 : Int32)
    · skip
      rw [if_pos hc29] at hG
      refine own_pre (fun t k => XS.icmpYes XX.here hx rfl (pc0 := 173) (pc' := 182) rfl (hb hby own_d2_173) rfl (teq hc29).1 (by decide) (by decide) k) ?_
      show own_Ends _ _ _ _ (TT.setTop (mkF m 182 #[.val (.int u0)] []))
      refine own_pre (fun t k => XS.iconst XX.here hx rfl (hb hby own_d2_182) k) ?_
      show own_Ends _ _ _ _ (TT.setTop (mkF m 183 #[.val (.int u0)] [(.int (1 : Int32))]))
      exact own_retN XX hx (t := .boolean) Bd.returns (by simp) (hb hby own_d2_183) hlk rfl eT (hG _ NN) (by decide) (by decide)
    · skip
      rw [if_neg hc29] at hG
      refine own_pre (fun t k => XS.icmpNo XX.here hx rfl (hb hby own_d2_173) rfl (feq hc29).1 k) ?_
      show own_Ends _ _ _ _ (TT.setTop (mkF m 176 #[.val (.int u0)] []))
      refine own_pre (fun t k => XS.iloadN XX.here hx rfl (hb hby own_d2_176) rfl k) ?_
      show own_Ends _ _ _ _ (TT.setTop (mkF m 177 #[.val (.int u0)] [(.int u0)]))
      refine own_pre (fun t k => XX.ldcInt hx hown (mvT hZ (hw _ (List.mem_of_getElem? (i := 8) rfl))) (g := (mkF m 177 #[.val (.int u0)] [(.int u0)])) rfl (hb hby own_d2_177) _ k) ?_
      show own_Ends _ _ _ _ (TT.setTop (mkF m 179 #[.val (.int u0)] [(.int (65535 : Int32)), (.int u0)]))
      by_cases hc30 : u0 = (65535 : Int32)
      · skip
        rw [if_pos hc30] at hG
        refine own_pre (fun t k => XS.icmpNo XX.here hx rfl (hb hby own_d2_179) rfl (teq hc30).2 k) ?_
        show own_Ends _ _ _ _ (TT.setTop (mkF m 182 #[.val (.int u0)] []))
        refine own_pre (fun t k => XS.iconst XX.here hx rfl (hb hby own_d2_182) k) ?_
        show own_Ends _ _ _ _ (TT.setTop (mkF m 183 #[.val (.int u0)] [(.int (1 : Int32))]))
        exact own_retN XX hx (t := .boolean) Bd.returns (by simp) (hb hby own_d2_183) hlk rfl eT (hG _ NN) (by decide) (by decide)
      · skip
        rw [if_neg hc30] at hG
        refine own_pre (fun t k => XS.icmpYes XX.here hx rfl (pc0 := 179) (pc' := 184) rfl (hb hby own_d2_179) rfl (feq hc30).2 (by decide) (by decide) k) ?_
        show own_Ends _ _ _ _ (TT.setTop (mkF m 184 #[.val (.int u0)] []))
        refine own_pre (fun t k => XS.iloadN XX.here hx rfl (hb hby own_d2_184) rfl k) ?_
        show own_Ends _ _ _ _ (TT.setTop (mkF m 185 #[.val (.int u0)] [(.int u0)]))
        refine own_pre (fun t k => XX.ldcInt hx hown (mvT hZ (hw _ (List.mem_of_getElem? (i := 7) rfl))) (g := (mkF m 185 #[.val (.int u0)] [(.int u0)])) rfl (hb hby own_d2_185) _ k) ?_
        show own_Ends _ _ _ _ (TT.setTop (mkF m 187 #[.val (.int u0)] [(.int (983039 : Int32)), (.int u0)]))
        by_cases hc31 : (983039 : Int32) < u0
        · skip
          rw [if_pos hc31] at hG
          refine own_pre (fun t k => XS.icmpNo XX.here hx rfl (hb hby own_d2_187) rfl (tlt hc31).2.2.2 k) ?_
          show own_Ends _ _ _ _ (TT.setTop (mkF m 190 #[.val (.int u0)] []))
          refine own_pre (fun t k => XS.iconst XX.here hx rfl (hb hby own_d2_190) k) ?_
          show own_Ends _ _ _ _ (TT.setTop (mkF m 191 #[.val (.int u0)] [(.int (1 : Int32))]))
          refine own_pre (fun t k => XS.goto XX.here hx rfl (pc0 := 191) (pc' := 195) rfl (hb hby own_d2_191) (by decide) (by decide) k) ?_
          show own_Ends _ _ _ _ (TT.setTop (mkF m 195 #[.val (.int u0)] [(.int (1 : Int32))]))
          exact own_retN XX hx (t := .boolean) Bd.returns (by simp) (hb hby own_d2_195) hlk rfl eT (hG _ NN) (by decide) (by decide)
        · skip
          rw [if_neg hc31] at hG
          refine own_pre (fun t k => XS.icmpYes XX.here hx rfl (pc0 := 187) (pc' := 194) rfl (hb hby own_d2_187) rfl (flt hc31).2.2.2 (by decide) (by decide) k) ?_
          show own_Ends _ _ _ _ (TT.setTop (mkF m 194 #[.val (.int u0)] []))
          refine own_pre (fun t k => XS.iconst XX.here hx rfl (hb hby own_d2_194) k) ?_
          show own_Ends _ _ _ _ (TT.setTop (mkF m 195 #[.val (.int u0)] [(.int (0 : Int32))]))
          exact own_retN XX hx (t := .boolean) Bd.returns (by simp) (hb hby own_d2_195) hlk rfl eT (hG _ NN) (by decide) (by decide)
  have J156 : ∀ (TT : State) (LL : List Loc) (XX : Stand p l e ({ frames := 0, cells := 0, slots := 0, locals := 0 } : Room) s m #[(.int p0)] below meth c TT LL 0 0) (eT : TT.heap = h0) (NN : Fr n0 LL) (u0 : Int32) (G : Option Value → Heap → List Loc → Prop) (hG : ∀ L, Fr n0 L → G (some (.int (own_notb_156 u0))) h0 L), own_Ends p e below (own_Fin s G ({ frames := 0, cells := 0, slots := 0, locals := 0 } : Room).cells ({ frames := 0, cells := 0, slots := 0, locals := 0 } : Room).slots) (TT.setTop (mkF m 156 #[.val (.int u0)] [])) := by
    intro TT LL XX eT NN u0 G hG
    have hG : ∀ L, Fr n0 L → G (some (.int (if u0 < (64976 : Int32) then (own_notb_170 u0) else (if (65007 : Int32) < u0 then (own_notb_170 u0) else (1 : Int32))))) h0 L := hG
    show own_Ends _ _ _ _ (TT.setTop (mkF m 156 #[.val (.int u0)] []))
    refine own_pre (fun t k => XS.iloadN XX.here hx rfl (hb hby own_d2_156) rfl k) ?_
    show own_Ends _ _ _ _ (TT.setTop (mkF m 157 #[.val (.int u0)] [(.int u0)]))
    refine own_pre (fun t k => XX.ldcInt hx hown (mvT hZ (hw _ (List.mem_of_getElem? (i := 21) rfl))) (g := (mkF m 157 #[.val (.int u0)] [(.int u0)])) rfl (hb hby own_d2_157) _ k) ?_
    show own_Ends _ _ _ _ (TT.setTop (mkF m 159 #[.val (.int u0)] [(.int (64976 : Int32)), (.int u0)]))
    by_cases hc32 : u0 < (64976 : Int32)
    · skip
      rw [if_pos hc32] at hG
      refine own_pre (fun t k => XS.icmpYes XX.here hx rfl (pc0 := 159) (pc' := 170) rfl (hb hby own_d2_159) rfl (tlt hc32).1 (by decide) (by decide) k) ?_
      show own_Ends _ _ _ _ (TT.setTop (mkF m 170 #[.val (.int u0)] []))
      exact J170 _ _ XX eT NN u0 _ hG
    · skip
      rw [if_neg hc32] at hG
      refine own_pre (fun t k => XS.icmpNo XX.here hx rfl (hb hby own_d2_159) rfl (flt hc32).1 k) ?_
      show own_Ends _ _ _ _ (TT.setTop (mkF m 162 #[.val (.int u0)] []))
      refine own_pre (fun t k => XS.iloadN XX.here hx rfl (hb hby own_d2_162) rfl k) ?_
      show own_Ends _ _ _ _ (TT.setTop (mkF m 163 #[.val (.int u0)] [(.int u0)]))
      refine own_pre (fun t k => XX.ldcInt hx hown (mvT hZ (hw _ (List.mem_of_getElem? (i := 28) rfl))) (g := (mkF m 163 #[.val (.int u0)] [(.int u0)])) rfl (hb hby own_d2_163) _ k) ?_
      show own_Ends _ _ _ _ (TT.setTop (mkF m 165 #[.val (.int u0)] [(.int (65007 : Int32)), (.int u0)]))
      by_cases hc33 : (65007 : Int32) < u0
      · skip
        rw [if_pos hc33] at hG
        refine own_pre (fun t k => XS.icmpYes XX.here hx rfl (pc0 := 165) (pc' := 170) rfl (hb hby own_d2_165) rfl (tlt hc33).2.2.1 (by decide) (by decide) k) ?_
        show own_Ends _ _ _ _ (TT.setTop (mkF m 170 #[.val (.int u0)] []))
        exact J170 _ _ XX eT NN u0 _ hG
      · skip
        rw [if_neg hc33] at hG
        refine own_pre (fun t k => XS.icmpNo XX.here hx rfl (hb hby own_d2_165) rfl (flt hc33).2.2.1 k) ?_
        show own_Ends _ _ _ _ (TT.setTop (mkF m 168 #[.val (.int u0)] []))
        refine own_pre (fun t k => XS.iconst XX.here hx rfl (hb hby own_d2_168) k) ?_
        show own_Ends _ _ _ _ (TT.setTop (mkF m 169 #[.val (.int u0)] [(.int (1 : Int32))]))
        exact own_retN XX hx (t := .boolean) Bd.returns (by simp) (hb hby own_d2_169) hlk rfl eT (hG _ NN) (by decide) (by decide)
  have J142 : ∀ (TT : State) (LL : List Loc) (XX : Stand p l e ({ frames := 0, cells := 0, slots := 0, locals := 0 } : Room) s m #[(.int p0)] below meth c TT LL 0 0) (eT : TT.heap = h0) (NN : Fr n0 LL) (u0 : Int32) (G : Option Value → Heap → List Loc → Prop) (hG : ∀ L, Fr n0 L → G (some (.int (own_notb_142 u0))) h0 L), own_Ends p e below (own_Fin s G ({ frames := 0, cells := 0, slots := 0, locals := 0 } : Room).cells ({ frames := 0, cells := 0, slots := 0, locals := 0 } : Room).slots) (TT.setTop (mkF m 142 #[.val (.int u0)] [])) := by
    intro TT LL XX eT NN u0 G hG
    have hG : ∀ L, Fr n0 L → G (some (.int (if u0 < (55296 : Int32) then (own_notb_156 u0) else (if (63743 : Int32) < u0 then (own_notb_156 u0) else (1 : Int32))))) h0 L := hG
    show own_Ends _ _ _ _ (TT.setTop (mkF m 142 #[.val (.int u0)] []))
    refine own_pre (fun t k => XS.iloadN XX.here hx rfl (hb hby own_d2_142) rfl k) ?_
    show own_Ends _ _ _ _ (TT.setTop (mkF m 143 #[.val (.int u0)] [(.int u0)]))
    refine own_pre (fun t k => XX.ldcInt hx hown (mvT hZ (hw _ (List.mem_of_getElem? (i := 20) rfl))) (g := (mkF m 143 #[.val (.int u0)] [(.int u0)])) rfl (hb hby own_d2_143) _ k) ?_
    show own_Ends _ _ _ _ (TT.setTop (mkF m 145 #[.val (.int u0)] [(.int (55296 : Int32)), (.int u0)]))
    by_cases hc34 : u0 < (55296 : Int32)
    · skip
      rw [if_pos hc34] at hG
      refine own_pre (fun t k => XS.icmpYes XX.here hx rfl (pc0 := 145) (pc' := 156) rfl (hb hby own_d2_145) rfl (tlt hc34).1 (by decide) (by decide) k) ?_
      show own_Ends _ _ _ _ (TT.setTop (mkF m 156 #[.val (.int u0)] []))
      exact J156 _ _ XX eT NN u0 _ hG
    · skip
      rw [if_neg hc34] at hG
      refine own_pre (fun t k => XS.icmpNo XX.here hx rfl (hb hby own_d2_145) rfl (flt hc34).1 k) ?_
      show own_Ends _ _ _ _ (TT.setTop (mkF m 148 #[.val (.int u0)] []))
      refine own_pre (fun t k => XS.iloadN XX.here hx rfl (hb hby own_d2_148) rfl k) ?_
      show own_Ends _ _ _ _ (TT.setTop (mkF m 149 #[.val (.int u0)] [(.int u0)]))
      refine own_pre (fun t k => XX.ldcInt hx hown (mvT hZ (hw _ (List.mem_of_getElem? (i := 24) rfl))) (g := (mkF m 149 #[.val (.int u0)] [(.int u0)])) rfl (hb hby own_d2_149) _ k) ?_
      show own_Ends _ _ _ _ (TT.setTop (mkF m 151 #[.val (.int u0)] [(.int (63743 : Int32)), (.int u0)]))
      by_cases hc35 : (63743 : Int32) < u0
      · skip
        rw [if_pos hc35] at hG
        refine own_pre (fun t k => XS.icmpYes XX.here hx rfl (pc0 := 151) (pc' := 156) rfl (hb hby own_d2_151) rfl (tlt hc35).2.2.1 (by decide) (by decide) k) ?_
        show own_Ends _ _ _ _ (TT.setTop (mkF m 156 #[.val (.int u0)] []))
        exact J156 _ _ XX eT NN u0 _ hG
      · skip
        rw [if_neg hc35] at hG
        refine own_pre (fun t k => XS.icmpNo XX.here hx rfl (hb hby own_d2_151) rfl (flt hc35).2.2.1 k) ?_
        show own_Ends _ _ _ _ (TT.setTop (mkF m 154 #[.val (.int u0)] []))
        refine own_pre (fun t k => XS.iconst XX.here hx rfl (hb hby own_d2_154) k) ?_
        show own_Ends _ _ _ _ (TT.setTop (mkF m 155 #[.val (.int u0)] [(.int (1 : Int32))]))
        exact own_retN XX hx (t := .boolean) Bd.returns (by simp) (hb hby own_d2_155) hlk rfl eT (hG _ NN) (by decide) (by decide)
  have J126 : ∀ (TT : State) (LL : List Loc) (XX : Stand p l e ({ frames := 0, cells := 0, slots := 0, locals := 0 } : Room) s m #[(.int p0)] below meth c TT LL 0 0) (eT : TT.heap = h0) (NN : Fr n0 LL) (u0 : Int32) (G : Option Value → Heap → List Loc → Prop) (hG : ∀ L, Fr n0 L → G (some (.int (own_notb_126 u0))) h0 L), own_Ends p e below (own_Fin s G ({ frames := 0, cells := 0, slots := 0, locals := 0 } : Room).cells ({ frames := 0, cells := 0, slots := 0, locals := 0 } : Room).slots) (TT.setTop (mkF m 126 #[.val (.int u0)] [])) := by
    intro TT LL XX eT NN u0 G hG
    have hG : ∀ L, Fr n0 L → G (some (.int (if u0 < (12272 : Int32) then (own_notb_142 u0) else (if (12288 : Int32) < u0 then (own_notb_142 u0) else (1 : Int32))))) h0 L := hG
    show own_Ends _ _ _ _ (TT.setTop (mkF m 126 #[.val (.int u0)] []))
    refine own_pre (fun t k => XS.iloadN XX.here hx rfl (hb hby own_d2_126) rfl k) ?_
    show own_Ends _ _ _ _ (TT.setTop (mkF m 127 #[.val (.int u0)] [(.int u0)]))
    refine own_pre (fun t k => XS.sipush XX.here hx rfl (hb hby own_d2_127) k) ?_
    show own_Ends _ _ _ _ (TT.setTop (mkF m 130 #[.val (.int u0)] [(.int (12272 : Int32)), (.int u0)]))
    by_cases hc36 : u0 < (12272 : Int32)
    · skip
      rw [if_pos hc36] at hG
      refine own_pre (fun t k => XS.icmpYes XX.here hx rfl (pc0 := 130) (pc' := 142) rfl (hb hby own_d2_130) rfl (tlt hc36).1 (by decide) (by decide) k) ?_
      show own_Ends _ _ _ _ (TT.setTop (mkF m 142 #[.val (.int u0)] []))
      exact J142 _ _ XX eT NN u0 _ hG
    · skip
      rw [if_neg hc36] at hG
      refine own_pre (fun t k => XS.icmpNo XX.here hx rfl (hb hby own_d2_130) rfl (flt hc36).1 k) ?_
      show own_Ends _ _ _ _ (TT.setTop (mkF m 133 #[.val (.int u0)] []))
      refine own_pre (fun t k => XS.iloadN XX.here hx rfl (hb hby own_d2_133) rfl k) ?_
      show own_Ends _ _ _ _ (TT.setTop (mkF m 134 #[.val (.int u0)] [(.int u0)]))
      refine own_pre (fun t k => XS.sipush XX.here hx rfl (hb hby own_d2_134) k) ?_
      show own_Ends _ _ _ _ (TT.setTop (mkF m 137 #[.val (.int u0)] [(.int (12288 : Int32)), (.int u0)]))
      by_cases hc37 : (12288 : Int32) < u0
      · skip
        rw [if_pos hc37] at hG
        refine own_pre (fun t k => XS.icmpYes XX.here hx rfl (pc0 := 137) (pc' := 142) rfl (hb hby own_d2_137) rfl (tlt hc37).2.2.1 (by decide) (by decide) k) ?_
        show own_Ends _ _ _ _ (TT.setTop (mkF m 142 #[.val (.int u0)] []))
        exact J142 _ _ XX eT NN u0 _ hG
      · skip
        rw [if_neg hc37] at hG
        refine own_pre (fun t k => XS.icmpNo XX.here hx rfl (hb hby own_d2_137) rfl (flt hc37).2.2.1 k) ?_
        show own_Ends _ _ _ _ (TT.setTop (mkF m 140 #[.val (.int u0)] []))
        refine own_pre (fun t k => XS.iconst XX.here hx rfl (hb hby own_d2_140) k) ?_
        show own_Ends _ _ _ _ (TT.setTop (mkF m 141 #[.val (.int u0)] [(.int (1 : Int32))]))
        exact own_retN XX hx (t := .boolean) Bd.returns (by simp) (hb hby own_d2_141) hlk rfl eT (hG _ NN) (by decide) (by decide)
  have J110 : ∀ (TT : State) (LL : List Loc) (XX : Stand p l e ({ frames := 0, cells := 0, slots := 0, locals := 0 } : Room) s m #[(.int p0)] below meth c TT LL 0 0) (eT : TT.heap = h0) (NN : Fr n0 LL) (u0 : Int32) (G : Option Value → Heap → List Loc → Prop) (hG : ∀ L, Fr n0 L → G (some (.int (own_notb_110 u0))) h0 L), own_Ends p e below (own_Fin s G ({ frames := 0, cells := 0, slots := 0, locals := 0 } : Room).cells ({ frames := 0, cells := 0, slots := 0, locals := 0 } : Room).slots) (TT.setTop (mkF m 110 #[.val (.int u0)] [])) := by
    intro TT LL XX eT NN u0 G hG
    have hG : ∀ L, Fr n0 L → G (some (.int (if u0 < (8592 : Int32) then (own_notb_126 u0) else (if (11263 : Int32) < u0 then (own_notb_126 u0) else (1 : Int32))))) h0 L := hG
    show own_Ends _ _ _ _ (TT.setTop (mkF m 110 #[.val (.int u0)] []))
    refine own_pre (fun t k => XS.iloadN XX.here hx rfl (hb hby own_d2_110) rfl k) ?_
    show own_Ends _ _ _ _ (TT.setTop (mkF m 111 #[.val (.int u0)] [(.int u0)]))
    refine own_pre (fun t k => XS.sipush XX.here hx rfl (hb hby own_d2_111) k) ?_
    show own_Ends _ _ _ _ (TT.setTop (mkF m 114 #[.val (.int u0)] [(.int (8592 : Int32)), (.int u0)]))
    by_cases hc38 : u0 < (8592 : Int32)
    · skip
      rw [if_pos hc38] at hG
      refine own_pre (fun t k => XS.icmpYes XX.here hx rfl (pc0 := 114) (pc' := 126) rfl (hb hby own_d2_114) rfl (tlt hc38).1 (by decide) (by decide) k) ?_
      show own_Ends _ _ _ _ (TT.setTop (mkF m 126 #[.val (.int u0)] []))
      exact J126 _ _ XX eT NN u0 _ hG
    · skip
      rw [if_neg hc38] at hG
      refine own_pre (fun t k => XS.icmpNo XX.here hx rfl (hb hby own_d2_114) rfl (flt hc38).1 k) ?_
      show own_Ends _ _ _ _ (TT.setTop (mkF m 117 #[.val (.int u0)] []))
      refine own_pre (fun t k => XS.iloadN XX.here hx rfl (hb hby own_d2_117) rfl k) ?_
      show own_Ends _ _ _ _ (TT.setTop (mkF m 118 #[.val (.int u0)] [(.int u0)]))
      refine own_pre (fun t k => XS.sipush XX.here hx rfl (hb hby own_d2_118) k) ?_
      show own_Ends _ _ _ _ (TT.setTop (mkF m 121 #[.val (.int u0)] [(.int (11263 : Int32)), (.int u0)]))
      by_cases hc39 : (11263 : Int32) < u0
      · skip
        rw [if_pos hc39] at hG
        refine own_pre (fun t k => XS.icmpYes XX.here hx rfl (pc0 := 121) (pc' := 126) rfl (hb hby own_d2_121) rfl (tlt hc39).2.2.1 (by decide) (by decide) k) ?_
        show own_Ends _ _ _ _ (TT.setTop (mkF m 126 #[.val (.int u0)] []))
        exact J126 _ _ XX eT NN u0 _ hG
      · skip
        rw [if_neg hc39] at hG
        refine own_pre (fun t k => XS.icmpNo XX.here hx rfl (hb hby own_d2_121) rfl (flt hc39).2.2.1 k) ?_
        show own_Ends _ _ _ _ (TT.setTop (mkF m 124 #[.val (.int u0)] []))
        refine own_pre (fun t k => XS.iconst XX.here hx rfl (hb hby own_d2_124) k) ?_
        show own_Ends _ _ _ _ (TT.setTop (mkF m 125 #[.val (.int u0)] [(.int (1 : Int32))]))
        exact own_retN XX hx (t := .boolean) Bd.returns (by simp) (hb hby own_d2_125) hlk rfl eT (hG _ NN) (by decide) (by decide)
  have J94 : ∀ (TT : State) (LL : List Loc) (XX : Stand p l e ({ frames := 0, cells := 0, slots := 0, locals := 0 } : Room) s m #[(.int p0)] below meth c TT LL 0 0) (eT : TT.heap = h0) (NN : Fr n0 LL) (u0 : Int32) (G : Option Value → Heap → List Loc → Prop) (hG : ∀ L, Fr n0 L → G (some (.int (own_notb_94 u0))) h0 L), own_Ends p e below (own_Fin s G ({ frames := 0, cells := 0, slots := 0, locals := 0 } : Room).cells ({ frames := 0, cells := 0, slots := 0, locals := 0 } : Room).slots) (TT.setTop (mkF m 94 #[.val (.int u0)] [])) := by
    intro TT LL XX eT NN u0 G hG
    have hG : ∀ L, Fr n0 L → G (some (.int (if u0 < (8206 : Int32) then (own_notb_110 u0) else (if (8303 : Int32) < u0 then (own_notb_110 u0) else (1 : Int32))))) h0 L := hG
    show own_Ends _ _ _ _ (TT.setTop (mkF m 94 #[.val (.int u0)] []))
    refine own_pre (fun t k => XS.iloadN XX.here hx rfl (hb hby own_d2_94) rfl k) ?_
    show own_Ends _ _ _ _ (TT.setTop (mkF m 95 #[.val (.int u0)] [(.int u0)]))
    refine own_pre (fun t k => XS.sipush XX.here hx rfl (hb hby own_d2_95) k) ?_
    show own_Ends _ _ _ _ (TT.setTop (mkF m 98 #[.val (.int u0)] [(.int (8206 : Int32)), (.int u0)]))
    by_cases hc40 : u0 < (8206 : Int32)
    · skip
      rw [if_pos hc40] at hG
      refine own_pre (fun t k => XS.icmpYes XX.here hx rfl (pc0 := 98) (pc' := 110) rfl (hb hby own_d2_98) rfl (tlt hc40).1 (by decide) (by decide) k) ?_
      show own_Ends _ _ _ _ (TT.setTop (mkF m 110 #[.val (.int u0)] []))
      exact J110 _ _ XX eT NN u0 _ hG
    · skip
      rw [if_neg hc40] at hG
      refine own_pre (fun t k => XS.icmpNo XX.here hx rfl (hb hby own_d2_98) rfl (flt hc40).1 k) ?_
      show own_Ends _ _ _ _ (TT.setTop (mkF m 101 #[.val (.int u0)] []))
      refine own_pre (fun t k => XS.iloadN XX.here hx rfl (hb hby own_d2_101) rfl k) ?_
      show own_Ends _ _ _ _ (TT.setTop (mkF m 102 #[.val (.int u0)] [(.int u0)]))
      refine own_pre (fun t k => XS.sipush XX.here hx rfl (hb hby own_d2_102) k) ?_
      show own_Ends _ _ _ _ (TT.setTop (mkF m 105 #[.val (.int u0)] [(.int (8303 : Int32)), (.int u0)]))
      by_cases hc41 : (8303 : Int32) < u0
      · skip
        rw [if_pos hc41] at hG
        refine own_pre (fun t k => XS.icmpYes XX.here hx rfl (pc0 := 105) (pc' := 110) rfl (hb hby own_d2_105) rfl (tlt hc41).2.2.1 (by decide) (by decide) k) ?_
        show own_Ends _ _ _ _ (TT.setTop (mkF m 110 #[.val (.int u0)] []))
        exact J110 _ _ XX eT NN u0 _ hG
      · skip
        rw [if_neg hc41] at hG
        refine own_pre (fun t k => XS.icmpNo XX.here hx rfl (hb hby own_d2_105) rfl (flt hc41).2.2.1 k) ?_
        show own_Ends _ _ _ _ (TT.setTop (mkF m 108 #[.val (.int u0)] []))
        refine own_pre (fun t k => XS.iconst XX.here hx rfl (hb hby own_d2_108) k) ?_
        show own_Ends _ _ _ _ (TT.setTop (mkF m 109 #[.val (.int u0)] [(.int (1 : Int32))]))
        exact own_retN XX hx (t := .boolean) Bd.returns (by simp) (hb hby own_d2_109) hlk rfl eT (hG _ NN) (by decide) (by decide)
  have J69 : ∀ (TT : State) (LL : List Loc) (XX : Stand p l e ({ frames := 0, cells := 0, slots := 0, locals := 0 } : Room) s m #[(.int p0)] below meth c TT LL 0 0) (eT : TT.heap = h0) (NN : Fr n0 LL) (u0 : Int32) (G : Option Value → Heap → List Loc → Prop) (hG : ∀ L, Fr n0 L → G (some (.int (own_notb_69 u0))) h0 L), own_Ends p e below (own_Fin s G ({ frames := 0, cells := 0, slots := 0, locals := 0 } : Room).cells ({ frames := 0, cells := 0, slots := 0, locals := 0 } : Room).slots) (TT.setTop (mkF m 69 #[.val (.int u0)] [])) := by
    intro TT LL XX eT NN u0 G hG
    have hG : ∀ L, Fr n0 L → G (some (.int (if u0 = (894 : Int32) then (1 : Int32) else (if u0 < (8192 : Int32) then (own_notb_94 u0) else (if (8203 : Int32) < u0 then (own_notb_94 u0) else (1 : Int32)))))) h0 L := hG
    show own_Ends _ _ _ _ (TT.setTop (mkF m 69 #[.val (.int u0)] []))
    refine own_pre (fun t k => XS.iloadN XX.here hx rfl (hb hby own_d2_69) rfl k) ?_
    show own_Ends _ _ _ _ (TT.setTop (mkF m 70 #[.val (.int u0)] [(.int u0)]))
    refine own_pre (fun t k => XS.sipush XX.here hx rfl (hb hby own_d2_70) k) ?_
    show own_Ends _ _ _ _ (TT.setTop (mkF m 73 #[.val (.int u0)] [(.int (894 : Int32)), (.int u0)]))
    by_cases hc42 : u0 = (894 : Int32)
    · skip
      rw [if_pos hc42] at hG
      refine own_pre (fun t k => XS.icmpNo XX.here hx rfl (hb hby own_d2_73) rfl (teq hc42).2 k) ?_
      show own_Ends _ _ _ _ (TT.setTop (mkF m 76 #[.val (.int u0)] []))
      refine own_pre (fun t k => XS.iconst XX.here hx rfl (hb hby own_d2_76) k) ?_
      show own_Ends _ _ _ _ (TT.setTop (mkF m 77 #[.val (.int u0)] [(.int (1 : Int32))]))
      exact own_retN XX hx (t := .boolean) Bd.returns (by simp) (hb hby own_d2_77) hlk rfl eT (hG _ NN) (by decide) (by decide)
    · skip
      rw [if_neg hc42] at hG
      refine own_pre (fun t k => XS.icmpYes XX.here hx rfl (pc0 := 73) (pc' := 78) rfl (hb hby own_d2_73) rfl (feq hc42).2 (by decide) (by decide) k) ?_
      show own_Ends _ _ _ _ (TT.setTop (mkF m 78 #[.val (.int u0)] []))
      refine own_pre (fun t k => XS.iloadN XX.here hx rfl (hb hby own_d2_78) rfl k) ?_
      show own_Ends _ _ _ _ (TT.setTop (mkF m 79 #[.val (.int u0)] [(.int u0)]))
      refine own_pre (fun t k => XS.sipush XX.here hx rfl (hb hby own_d2_79) k) ?_
      show own_Ends _ _ _ _ (TT.setTop (mkF m 82 #[.val (.int u0)] [(.int (8192 : Int32)), (.int u0)]))
      by_cases hc43 : u0 < (8192 : Int32)
      · skip
        rw [if_pos hc43] at hG
        refine own_pre (fun t k => XS.icmpYes XX.here hx rfl (pc0 := 82) (pc' := 94) rfl (hb hby own_d2_82) rfl (tlt hc43).1 (by decide) (by decide) k) ?_
        show own_Ends _ _ _ _ (TT.setTop (mkF m 94 #[.val (.int u0)] []))
        exact J94 _ _ XX eT NN u0 _ hG
      · skip
        rw [if_neg hc43] at hG
        refine own_pre (fun t k => XS.icmpNo XX.here hx rfl (hb hby own_d2_82) rfl (flt hc43).1 k) ?_
        show own_Ends _ _ _ _ (TT.setTop (mkF m 85 #[.val (.int u0)] []))
        refine own_pre (fun t k => XS.iloadN XX.here hx rfl (hb hby own_d2_85) rfl k) ?_
        show own_Ends _ _ _ _ (TT.setTop (mkF m 86 #[.val (.int u0)] [(.int u0)]))
        refine own_pre (fun t k => XS.sipush XX.here hx rfl (hb hby own_d2_86) k) ?_
        show own_Ends _ _ _ _ (TT.setTop (mkF m 89 #[.val (.int u0)] [(.int (8203 : Int32)), (.int u0)]))
        by_cases hc44 : (8203 : Int32) < u0
        · skip
          rw [if_pos hc44] at hG
          refine own_pre (fun t k => XS.icmpYes XX.here hx rfl (pc0 := 89) (pc' := 94) rfl (hb hby own_d2_89) rfl (tlt hc44).2.2.1 (by decide) (by decide) k) ?_
          show own_Ends _ _ _ _ (TT.setTop (mkF m 94 #[.val (.int u0)] []))
          exact J94 _ _ XX eT NN u0 _ hG
        · skip
          rw [if_neg hc44] at hG
          refine own_pre (fun t k => XS.icmpNo XX.here hx rfl (hb hby own_d2_89) rfl (flt hc44).2.2.1 k) ?_
          show own_Ends _ _ _ _ (TT.setTop (mkF m 92 #[.val (.int u0)] []))
          refine own_pre (fun t k => XS.iconst XX.here hx rfl (hb hby own_d2_92) k) ?_
          show own_Ends _ _ _ _ (TT.setTop (mkF m 93 #[.val (.int u0)] [(.int (1 : Int32))]))
          exact own_retN XX hx (t := .boolean) Bd.returns (by simp) (hb hby own_d2_93) hlk rfl eT (hG _ NN) (by decide) (by decide)
  have J37 : ∀ (TT : State) (LL : List Loc) (XX : Stand p l e ({ frames := 0, cells := 0, slots := 0, locals := 0 } : Room) s m #[(.int p0)] below meth c TT LL 0 0) (eT : TT.heap = h0) (NN : Fr n0 LL) (u0 : Int32) (G : Option Value → Heap → List Loc → Prop) (hG : ∀ L, Fr n0 L → G (some (.int (own_notb_37 u0))) h0 L), own_Ends p e below (own_Fin s G ({ frames := 0, cells := 0, slots := 0, locals := 0 } : Room).cells ({ frames := 0, cells := 0, slots := 0, locals := 0 } : Room).slots) (TT.setTop (mkF m 37 #[.val (.int u0)] [])) := by
    intro TT LL XX eT NN u0 G hG
    have hG : ∀ L, Fr n0 L → G (some (.int (if u0 = (215 : Int32) then (1 : Int32) else (if u0 = (247 : Int32) then (1 : Int32) else (if u0 < (768 : Int32) then (own_notb_69 u0) else (if (879 : Int32) < u0 then (own_notb_69 u0) else (1 : Int32))))))) h0 L := hG
    show own_Ends _ _ _ _ (TT.setTop (mkF m 37 #[.val (.int u0)] []))
    refine own_pre (fun t k => XS.iloadN XX.here hx rfl (hb hby own_d2_37) rfl k) ?_
    show own_Ends _ _ _ _ (TT.setTop (mkF m 38 #[.val (.int u0)] [(.int u0)]))
    refine own_pre (fun t k => XS.sipush XX.here hx rfl (hb hby own_d2_38) k) ?_
    show own_Ends _ _ _ _ (TT.setTop (mkF m 41 #[.val (.int u0)] [(.int (215 : Int32)), (.int u0)]))
    by_cases hc45 : u0 = (215 : Int32)
    · skip
      rw [if_pos hc45] at hG
      refine own_pre (fun t k => XS.icmpYes XX.here hx rfl (pc0 := 41) (pc' := 51) rfl (hb hby own_d2_41) rfl (teq hc45).1 (by decide) (by decide) k) ?_
      show own_Ends _ _ _ _ (TT.setTop (mkF m 51 #[.val (.int u0)] []))
      refine own_pre (fun t k => XS.iconst XX.here hx rfl (hb hby own_d2_51) k) ?_
      show own_Ends _ _ _ _ (TT.setTop (mkF m 52 #[.val (.int u0)] [(.int (1 : Int32))]))
      exact own_retN XX hx (t := .boolean) Bd.returns (by simp) (hb hby own_d2_52) hlk rfl eT (hG _ NN) (by decide) (by decide)
    · skip
      rw [if_neg hc45] at hG
      refine own_pre (fun t k => XS.icmpNo XX.here hx rfl (hb hby own_d2_41) rfl (feq hc45).1 k) ?_
      show own_Ends _ _ _ _ (TT.setTop (mkF m 44 #[.val (.int u0)] []))
      refine own_pre (fun t k => XS.iloadN XX.here hx rfl (hb hby own_d2_44) rfl k) ?_
      show own_Ends _ _ _ _ (TT.setTop (mkF m 45 #[.val (.int u0)] [(.int u0)]))
      refine own_pre (fun t k => XS.sipush XX.here hx rfl (hb hby own_d2_45) k) ?_
      show own_Ends _ _ _ _ (TT.setTop (mkF m 48 #[.val (.int u0)] [(.int (247 : Int32)), (.int u0)]))
      by_cases hc46 : u0 = (247 : Int32)
      · skip
        rw [if_pos hc46] at hG
        refine own_pre (fun t k => XS.icmpNo XX.here hx rfl (hb hby own_d2_48) rfl (teq hc46).2 k) ?_
        show own_Ends _ _ _ _ (TT.setTop (mkF m 51 #[.val (.int u0)] []))
        refine own_pre (fun t k => XS.iconst XX.here hx rfl (hb hby own_d2_51) k) ?_
        show own_Ends _ _ _ _ (TT.setTop (mkF m 52 #[.val (.int u0)] [(.int (1 : Int32))]))
        exact own_retN XX hx (t := .boolean) Bd.returns (by simp) (hb hby own_d2_52) hlk rfl eT (hG _ NN) (by decide) (by decide)
      · skip
        rw [if_neg hc46] at hG
        refine own_pre (fun t k => XS.icmpYes XX.here hx rfl (pc0 := 48) (pc' := 53) rfl (hb hby own_d2_48) rfl (feq hc46).2 (by decide) (by decide) k) ?_
        show own_Ends _ _ _ _ (TT.setTop (mkF m 53 #[.val (.int u0)] []))
        refine own_pre (fun t k => XS.iloadN XX.here hx rfl (hb hby own_d2_53) rfl k) ?_
        show own_Ends _ _ _ _ (TT.setTop (mkF m 54 #[.val (.int u0)] [(.int u0)]))
        refine own_pre (fun t k => XS.sipush XX.here hx rfl (hb hby own_d2_54) k) ?_
        show own_Ends _ _ _ _ (TT.setTop (mkF m 57 #[.val (.int u0)] [(.int (768 : Int32)), (.int u0)]))
        by_cases hc47 : u0 < (768 : Int32)
        · skip
          rw [if_pos hc47] at hG
          refine own_pre (fun t k => XS.icmpYes XX.here hx rfl (pc0 := 57) (pc' := 69) rfl (hb hby own_d2_57) rfl (tlt hc47).1 (by decide) (by decide) k) ?_
          show own_Ends _ _ _ _ (TT.setTop (mkF m 69 #[.val (.int u0)] []))
          exact J69 _ _ XX eT NN u0 _ hG
        · skip
          rw [if_neg hc47] at hG
          refine own_pre (fun t k => XS.icmpNo XX.here hx rfl (hb hby own_d2_57) rfl (flt hc47).1 k) ?_
          show own_Ends _ _ _ _ (TT.setTop (mkF m 60 #[.val (.int u0)] []))
          refine own_pre (fun t k => XS.iloadN XX.here hx rfl (hb hby own_d2_60) rfl k) ?_
          show own_Ends _ _ _ _ (TT.setTop (mkF m 61 #[.val (.int u0)] [(.int u0)]))
          refine own_pre (fun t k => XS.sipush XX.here hx rfl (hb hby own_d2_61) k) ?_
          show own_Ends _ _ _ _ (TT.setTop (mkF m 64 #[.val (.int u0)] [(.int (879 : Int32)), (.int u0)]))
          by_cases hc48 : (879 : Int32) < u0
          · skip
            rw [if_pos hc48] at hG
            refine own_pre (fun t k => XS.icmpYes XX.here hx rfl (pc0 := 64) (pc' := 69) rfl (hb hby own_d2_64) rfl (tlt hc48).2.2.1 (by decide) (by decide) k) ?_
            show own_Ends _ _ _ _ (TT.setTop (mkF m 69 #[.val (.int u0)] []))
            exact J69 _ _ XX eT NN u0 _ hG
          · skip
            rw [if_neg hc48] at hG
            refine own_pre (fun t k => XS.icmpNo XX.here hx rfl (hb hby own_d2_64) rfl (flt hc48).2.2.1 k) ?_
            show own_Ends _ _ _ _ (TT.setTop (mkF m 67 #[.val (.int u0)] []))
            refine own_pre (fun t k => XS.iconst XX.here hx rfl (hb hby own_d2_67) k) ?_
            show own_Ends _ _ _ _ (TT.setTop (mkF m 68 #[.val (.int u0)] [(.int (1 : Int32))]))
            exact own_retN XX hx (t := .boolean) Bd.returns (by simp) (hb hby own_d2_68) hlk rfl eT (hG _ NN) (by decide) (by decide)
  have J22 : ∀ (TT : State) (LL : List Loc) (XX : Stand p l e ({ frames := 0, cells := 0, slots := 0, locals := 0 } : Room) s m #[(.int p0)] below meth c TT LL 0 0) (eT : TT.heap = h0) (NN : Fr n0 LL) (u0 : Int32) (G : Option Value → Heap → List Loc → Prop) (hG : ∀ L, Fr n0 L → G (some (.int (own_notb_22 u0))) h0 L), own_Ends p e below (own_Fin s G ({ frames := 0, cells := 0, slots := 0, locals := 0 } : Room).cells ({ frames := 0, cells := 0, slots := 0, locals := 0 } : Room).slots) (TT.setTop (mkF m 22 #[.val (.int u0)] [])) := by
    intro TT LL XX eT NN u0 G hG
    have hG : ∀ L, Fr n0 L → G (some (.int (if u0 < (123 : Int32) then (own_notb_37 u0) else (if (191 : Int32) < u0 then (own_notb_37 u0) else (1 : Int32))))) h0 L := hG
    show own_Ends _ _ _ _ (TT.setTop (mkF m 22 #[.val (.int u0)] []))
    refine own_pre (fun t k => XS.iloadN XX.here hx rfl (hb hby own_d2_22) rfl k) ?_
    show own_Ends _ _ _ _ (TT.setTop (mkF m 23 #[.val (.int u0)] [(.int u0)]))
    refine own_pre (fun t k => XS.bipush XX.here hx rfl (hb hby own_d2_23) k) ?_
    show own_Ends _ _ _ _ (TT.setTop (mkF m 25 #[.val (.int u0)] [(.int (123 : Int32)), (.int u0)]))
    by_cases hc49 : u0 < (123 : Int32)
    · skip
      rw [if_pos hc49] at hG
      refine own_pre (fun t k => XS.icmpYes XX.here hx rfl (pc0 := 25) (pc' := 37) rfl (hb hby own_d2_25) rfl (tlt hc49).1 (by decide) (by decide) k) ?_
      show own_Ends _ _ _ _ (TT.setTop (mkF m 37 #[.val (.int u0)] []))
      exact J37 _ _ XX eT NN u0 _ hG
    · skip
      rw [if_neg hc49] at hG
      refine own_pre (fun t k => XS.icmpNo XX.here hx rfl (hb hby own_d2_25) rfl (flt hc49).1 k) ?_
      show own_Ends _ _ _ _ (TT.setTop (mkF m 28 #[.val (.int u0)] []))
      refine own_pre (fun t k => XS.iloadN XX.here hx rfl (hb hby own_d2_28) rfl k) ?_
      show own_Ends _ _ _ _ (TT.setTop (mkF m 29 #[.val (.int u0)] [(.int u0)]))
      refine own_pre (fun t k => XS.sipush XX.here hx rfl (hb hby own_d2_29) k) ?_
      show own_Ends _ _ _ _ (TT.setTop (mkF m 32 #[.val (.int u0)] [(.int (191 : Int32)), (.int u0)]))
      by_cases hc50 : (191 : Int32) < u0
      · skip
        rw [if_pos hc50] at hG
        refine own_pre (fun t k => XS.icmpYes XX.here hx rfl (pc0 := 32) (pc' := 37) rfl (hb hby own_d2_32) rfl (tlt hc50).2.2.1 (by decide) (by decide) k) ?_
        show own_Ends _ _ _ _ (TT.setTop (mkF m 37 #[.val (.int u0)] []))
        exact J37 _ _ XX eT NN u0 _ hG
      · skip
        rw [if_neg hc50] at hG
        refine own_pre (fun t k => XS.icmpNo XX.here hx rfl (hb hby own_d2_32) rfl (flt hc50).2.2.1 k) ?_
        show own_Ends _ _ _ _ (TT.setTop (mkF m 35 #[.val (.int u0)] []))
        refine own_pre (fun t k => XS.iconst XX.here hx rfl (hb hby own_d2_35) k) ?_
        show own_Ends _ _ _ _ (TT.setTop (mkF m 36 #[.val (.int u0)] [(.int (1 : Int32))]))
        exact own_retN XX hx (t := .boolean) Bd.returns (by simp) (hb hby own_d2_36) hlk rfl eT (hG _ NN) (by decide) (by decide)
  have J0 : ∀ (G : Option Value → Heap → List Loc → Prop) (hG : ∀ L, Fr n0 L → G (some (.int (if p0 < (65 : Int32) then (1 : Int32) else (if p0 < (91 : Int32) then (own_notb_22 p0) else (if (96 : Int32) < p0 then (own_notb_22 p0) else (1 : Int32)))))) h0 L), own_Ends p e below (own_Fin s G ({ frames := 0, cells := 0, slots := 0, locals := 0 } : Room).cells ({ frames := 0, cells := 0, slots := 0, locals := 0 } : Room).slots) (s₁.setTop (mkF m 0 #[.val (.int p0)] [])) := by
    intro G hG
    show own_Ends _ _ _ _ (s₁.setTop (mkF m 0 #[.val (.int p0)] []))
    refine own_pre (fun t k => XS.iloadN X0.here hx rfl (hb hby own_d2_0) rfl k) ?_
    show own_Ends _ _ _ _ (s₁.setTop (mkF m 1 #[.val (.int p0)] [(.int p0)]))
    refine own_pre (fun t k => XS.bipush X0.here hx rfl (hb hby own_d2_1) k) ?_
    show own_Ends _ _ _ _ (s₁.setTop (mkF m 3 #[.val (.int p0)] [(.int (65 : Int32)), (.int p0)]))
    by_cases hc51 : p0 < (65 : Int32)
    · skip
      rw [if_pos hc51] at hG
      refine own_pre (fun t k => XS.icmpNo X0.here hx rfl (hb hby own_d2_3) rfl (tlt hc51).2.1 k) ?_
      show own_Ends _ _ _ _ (s₁.setTop (mkF m 6 #[.val (.int p0)] []))
      refine own_pre (fun t k => XS.iconst X0.here hx rfl (hb hby own_d2_6) k) ?_
      show own_Ends _ _ _ _ (s₁.setTop (mkF m 7 #[.val (.int p0)] [(.int (1 : Int32))]))
      exact own_retN X0 hx (t := .boolean) Bd.returns (by simp) (hb hby own_d2_7) hlk rfl e0 (hG _ N0) (by decide) (by decide)
    · skip
      rw [if_neg hc51] at hG
      refine own_pre (fun t k => XS.icmpYes X0.here hx rfl (pc0 := 3) (pc' := 8) rfl (hb hby own_d2_3) rfl (flt hc51).2.1 (by decide) (by decide) k) ?_
      show own_Ends _ _ _ _ (s₁.setTop (mkF m 8 #[.val (.int p0)] []))
      refine own_pre (fun t k => XS.iloadN X0.here hx rfl (hb hby own_d2_8) rfl k) ?_
      show own_Ends _ _ _ _ (s₁.setTop (mkF m 9 #[.val (.int p0)] [(.int p0)]))
      refine own_pre (fun t k => XS.bipush X0.here hx rfl (hb hby own_d2_9) k) ?_
      show own_Ends _ _ _ _ (s₁.setTop (mkF m 11 #[.val (.int p0)] [(.int (91 : Int32)), (.int p0)]))
      by_cases hc52 : p0 < (91 : Int32)
      · skip
        rw [if_pos hc52] at hG
        refine own_pre (fun t k => XS.icmpYes X0.here hx rfl (pc0 := 11) (pc' := 22) rfl (hb hby own_d2_11) rfl (tlt hc52).1 (by decide) (by decide) k) ?_
        show own_Ends _ _ _ _ (s₁.setTop (mkF m 22 #[.val (.int p0)] []))
        exact J22 _ _ X0 e0 N0 p0 _ hG
      · skip
        rw [if_neg hc52] at hG
        refine own_pre (fun t k => XS.icmpNo X0.here hx rfl (hb hby own_d2_11) rfl (flt hc52).1 k) ?_
        show own_Ends _ _ _ _ (s₁.setTop (mkF m 14 #[.val (.int p0)] []))
        refine own_pre (fun t k => XS.iloadN X0.here hx rfl (hb hby own_d2_14) rfl k) ?_
        show own_Ends _ _ _ _ (s₁.setTop (mkF m 15 #[.val (.int p0)] [(.int p0)]))
        refine own_pre (fun t k => XS.bipush X0.here hx rfl (hb hby own_d2_15) k) ?_
        show own_Ends _ _ _ _ (s₁.setTop (mkF m 17 #[.val (.int p0)] [(.int (96 : Int32)), (.int p0)]))
        by_cases hc53 : (96 : Int32) < p0
        · skip
          rw [if_pos hc53] at hG
          refine own_pre (fun t k => XS.icmpYes X0.here hx rfl (pc0 := 17) (pc' := 22) rfl (hb hby own_d2_17) rfl (tlt hc53).2.2.1 (by decide) (by decide) k) ?_
          show own_Ends _ _ _ _ (s₁.setTop (mkF m 22 #[.val (.int p0)] []))
          exact J22 _ _ X0 e0 N0 p0 _ hG
        · skip
          rw [if_neg hc53] at hG
          refine own_pre (fun t k => XS.icmpNo X0.here hx rfl (hb hby own_d2_17) rfl (flt hc53).2.2.1 k) ?_
          show own_Ends _ _ _ _ (s₁.setTop (mkF m 20 #[.val (.int p0)] []))
          refine own_pre (fun t k => XS.iconst X0.here hx rfl (hb hby own_d2_20) k) ?_
          show own_Ends _ _ _ _ (s₁.setTop (mkF m 21 #[.val (.int p0)] [(.int (1 : Int32))]))
          exact own_retN X0 hx (t := .boolean) Bd.returns (by simp) (hb hby own_d2_21) hlk rfl e0 (hG _ N0) (by decide) (by decide)
  exact J0 _ fun L q => ⟨rfl, q, rfl⟩
theorem own_rng {u A B f : Int32} {a b : Int} {P : Prop} (hA : A.toInt = a) (hB : B.toInt = b) (hf : f = 1 ↔ P) : (if u < A then f else (if B < u then f else 1)) = 1 ↔ ((a ≤ u.toInt ∧ u.toInt ≤ b) ∨ P) := by
  subst hA hB
  by_cases h1 : u < A
  · rw [if_pos h1, hf]; rw [Int32.lt_iff_toInt_lt] at h1
    exact ⟨Or.inr, fun h => h.elim (fun q => absurd q.1 (by omega)) id⟩
  · rw [if_neg h1]
    by_cases h2 : B < u
    · rw [if_pos h2, hf]; rw [Int32.lt_iff_toInt_lt] at h2
      exact ⟨Or.inr, fun h => h.elim (fun q => absurd q.2 (by omega)) id⟩
    · rw [if_neg h2]; rw [Int32.lt_iff_toInt_lt] at h1 h2
      exact ⟨fun _ => Or.inl ⟨by omega, by omega⟩, fun _ => rfl⟩
theorem own_one {u A f : Int32} {a : Int} {P : Prop} (hA : A.toInt = a) (hf : f = 1 ↔ P) : (if u = A then 1 else f) = 1 ↔ (u.toInt = a ∨ P) := by
  subst hA
  by_cases h : u = A
  · rw [if_pos h]; exact ⟨fun _ => Or.inl (by rw [h]), fun _ => rfl⟩
  · rw [if_neg h, hf]; exact ⟨Or.inr, fun q => q.elim (fun z => absurd (Int32.toInt_inj.mp z) h) id⟩
theorem own_less {u A f : Int32} {a : Int} {P : Prop} (hA : A.toInt = a) (hf : f = 1 ↔ P) : (if u < A then 1 else f) = 1 ↔ (u.toInt < a ∨ P) := by
  subst hA
  by_cases h : u < A
  · rw [if_pos h]; rw [Int32.lt_iff_toInt_lt] at h; exact ⟨fun _ => Or.inl h, fun _ => rfl⟩
  · rw [if_neg h, hf]; rw [Int32.lt_iff_toInt_lt] at h; exact ⟨Or.inr, fun q => q.elim (fun z => absurd z h) id⟩
theorem own_more {u A f : Int32} {a : Int} {P : Prop} (hA : A.toInt = a) (hf : f = 1 ↔ P) : (if A < u then 1 else f) = 1 ↔ (a < u.toInt ∨ P) := by
  subst hA
  by_cases h : A < u
  · rw [if_pos h]; rw [Int32.lt_iff_toInt_lt] at h; exact ⟨fun _ => Or.inl h, fun _ => rfl⟩
  · rw [if_neg h, hf]; rw [Int32.lt_iff_toInt_lt] at h; exact ⟨Or.inr, fun q => q.elim (fun z => absurd z h) id⟩
theorem own_zero : (0 : Int32) = 1 ↔ False := by decide
theorem own_b01 {c : Prop} [Decidable c] {a b : Int32} (ha : a = 0 ∨ a = 1) (hb : b = 0 ∨ b = 1) : (if c then a else b) = 0 ∨ (if c then a else b) = 1 := by
  by_cases h : c
  · rw [if_pos h]; exact ha
  · rw [if_neg h]; exact hb
theorem own_o : (1 : Int32) = 0 ∨ (1 : Int32) = 1 := Or.inr rfl
theorem own_z : (0 : Int32) = 0 ∨ (0 : Int32) = 1 := Or.inl rfl
theorem own_base_173_iff (u0 : Int32) : own_base_173 u0 = 1 ↔ ((65536 ≤ u0.toInt ∧ u0.toInt ≤ 983039) ∨ False) := (own_rng rfl rfl own_zero)
theorem own_base_173_01 (u0 : Int32) : own_base_173 u0 = 0 ∨ own_base_173 u0 = 1 := (own_b01 own_z (own_b01 own_z own_o))
theorem own_base_161_iff (u0 : Int32) : own_base_161 u0 = 1 ↔ ((65008 ≤ u0.toInt ∧ u0.toInt ≤ 65533) ∨ ((65536 ≤ u0.toInt ∧ u0.toInt ≤ 983039) ∨ False)) := (own_rng rfl rfl (own_base_173_iff _))
theorem own_base_161_01 (u0 : Int32) : own_base_161 u0 = 0 ∨ own_base_161 u0 = 1 := (own_b01 (own_base_173_01 _) (own_b01 (own_base_173_01 _) own_o))
theorem own_base_149_iff (u0 : Int32) : own_base_149 u0 = 1 ↔ ((63744 ≤ u0.toInt ∧ u0.toInt ≤ 64975) ∨ ((65008 ≤ u0.toInt ∧ u0.toInt ≤ 65533) ∨ ((65536 ≤ u0.toInt ∧ u0.toInt ≤ 983039) ∨ False))) := (own_rng rfl rfl (own_base_161_iff _))
theorem own_base_149_01 (u0 : Int32) : own_base_149 u0 = 0 ∨ own_base_149 u0 = 1 := (own_b01 (own_base_161_01 _) (own_b01 (own_base_161_01 _) own_o))
theorem own_base_136_iff (u0 : Int32) : own_base_136 u0 = 1 ↔ ((12289 ≤ u0.toInt ∧ u0.toInt ≤ 55295) ∨ ((63744 ≤ u0.toInt ∧ u0.toInt ≤ 64975) ∨ ((65008 ≤ u0.toInt ∧ u0.toInt ≤ 65533) ∨ ((65536 ≤ u0.toInt ∧ u0.toInt ≤ 983039) ∨ False)))) := (own_rng rfl rfl (own_base_149_iff _))
theorem own_base_136_01 (u0 : Int32) : own_base_136 u0 = 0 ∨ own_base_136 u0 = 1 := (own_b01 (own_base_149_01 _) (own_b01 (own_base_149_01 _) own_o))
theorem own_base_122_iff (u0 : Int32) : own_base_122 u0 = 1 ↔ ((11264 ≤ u0.toInt ∧ u0.toInt ≤ 12271) ∨ ((12289 ≤ u0.toInt ∧ u0.toInt ≤ 55295) ∨ ((63744 ≤ u0.toInt ∧ u0.toInt ≤ 64975) ∨ ((65008 ≤ u0.toInt ∧ u0.toInt ≤ 65533) ∨ ((65536 ≤ u0.toInt ∧ u0.toInt ≤ 983039) ∨ False))))) := (own_rng rfl rfl (own_base_136_iff _))
theorem own_base_122_01 (u0 : Int32) : own_base_122 u0 = 0 ∨ own_base_122 u0 = 1 := (own_b01 (own_base_136_01 _) (own_b01 (own_base_136_01 _) own_o))
theorem own_base_108_iff (u0 : Int32) : own_base_108 u0 = 1 ↔ ((8304 ≤ u0.toInt ∧ u0.toInt ≤ 8591) ∨ ((11264 ≤ u0.toInt ∧ u0.toInt ≤ 12271) ∨ ((12289 ≤ u0.toInt ∧ u0.toInt ≤ 55295) ∨ ((63744 ≤ u0.toInt ∧ u0.toInt ≤ 64975) ∨ ((65008 ≤ u0.toInt ∧ u0.toInt ≤ 65533) ∨ ((65536 ≤ u0.toInt ∧ u0.toInt ≤ 983039) ∨ False)))))) := (own_rng rfl rfl (own_base_122_iff _))
theorem own_base_108_01 (u0 : Int32) : own_base_108 u0 = 0 ∨ own_base_108 u0 = 1 := (own_b01 (own_base_122_01 _) (own_b01 (own_base_122_01 _) own_o))
theorem own_base_94_iff (u0 : Int32) : own_base_94 u0 = 1 ↔ ((8204 ≤ u0.toInt ∧ u0.toInt ≤ 8205) ∨ ((8304 ≤ u0.toInt ∧ u0.toInt ≤ 8591) ∨ ((11264 ≤ u0.toInt ∧ u0.toInt ≤ 12271) ∨ ((12289 ≤ u0.toInt ∧ u0.toInt ≤ 55295) ∨ ((63744 ≤ u0.toInt ∧ u0.toInt ≤ 64975) ∨ ((65008 ≤ u0.toInt ∧ u0.toInt ≤ 65533) ∨ ((65536 ≤ u0.toInt ∧ u0.toInt ≤ 983039) ∨ False))))))) := (own_rng rfl rfl (own_base_108_iff _))
theorem own_base_94_01 (u0 : Int32) : own_base_94 u0 = 0 ∨ own_base_94 u0 = 1 := (own_b01 (own_base_108_01 _) (own_b01 (own_base_108_01 _) own_o))
theorem own_base_80_iff (u0 : Int32) : own_base_80 u0 = 1 ↔ ((895 ≤ u0.toInt ∧ u0.toInt ≤ 8191) ∨ ((8204 ≤ u0.toInt ∧ u0.toInt ≤ 8205) ∨ ((8304 ≤ u0.toInt ∧ u0.toInt ≤ 8591) ∨ ((11264 ≤ u0.toInt ∧ u0.toInt ≤ 12271) ∨ ((12289 ≤ u0.toInt ∧ u0.toInt ≤ 55295) ∨ ((63744 ≤ u0.toInt ∧ u0.toInt ≤ 64975) ∨ ((65008 ≤ u0.toInt ∧ u0.toInt ≤ 65533) ∨ ((65536 ≤ u0.toInt ∧ u0.toInt ≤ 983039) ∨ False)))))))) := (own_rng rfl rfl (own_base_94_iff _))
theorem own_base_80_01 (u0 : Int32) : own_base_80 u0 = 0 ∨ own_base_80 u0 = 1 := (own_b01 (own_base_94_01 _) (own_b01 (own_base_94_01 _) own_o))
theorem own_base_66_iff (u0 : Int32) : own_base_66 u0 = 1 ↔ ((880 ≤ u0.toInt ∧ u0.toInt ≤ 893) ∨ ((895 ≤ u0.toInt ∧ u0.toInt ≤ 8191) ∨ ((8204 ≤ u0.toInt ∧ u0.toInt ≤ 8205) ∨ ((8304 ≤ u0.toInt ∧ u0.toInt ≤ 8591) ∨ ((11264 ≤ u0.toInt ∧ u0.toInt ≤ 12271) ∨ ((12289 ≤ u0.toInt ∧ u0.toInt ≤ 55295) ∨ ((63744 ≤ u0.toInt ∧ u0.toInt ≤ 64975) ∨ ((65008 ≤ u0.toInt ∧ u0.toInt ≤ 65533) ∨ ((65536 ≤ u0.toInt ∧ u0.toInt ≤ 983039) ∨ False))))))))) := (own_rng rfl rfl (own_base_80_iff _))
theorem own_base_66_01 (u0 : Int32) : own_base_66 u0 = 0 ∨ own_base_66 u0 = 1 := (own_b01 (own_base_80_01 _) (own_b01 (own_base_80_01 _) own_o))
theorem own_base_52_iff (u0 : Int32) : own_base_52 u0 = 1 ↔ ((248 ≤ u0.toInt ∧ u0.toInt ≤ 767) ∨ ((880 ≤ u0.toInt ∧ u0.toInt ≤ 893) ∨ ((895 ≤ u0.toInt ∧ u0.toInt ≤ 8191) ∨ ((8204 ≤ u0.toInt ∧ u0.toInt ≤ 8205) ∨ ((8304 ≤ u0.toInt ∧ u0.toInt ≤ 8591) ∨ ((11264 ≤ u0.toInt ∧ u0.toInt ≤ 12271) ∨ ((12289 ≤ u0.toInt ∧ u0.toInt ≤ 55295) ∨ ((63744 ≤ u0.toInt ∧ u0.toInt ≤ 64975) ∨ ((65008 ≤ u0.toInt ∧ u0.toInt ≤ 65533) ∨ ((65536 ≤ u0.toInt ∧ u0.toInt ≤ 983039) ∨ False)))))))))) := (own_rng rfl rfl (own_base_66_iff _))
theorem own_base_52_01 (u0 : Int32) : own_base_52 u0 = 0 ∨ own_base_52 u0 = 1 := (own_b01 (own_base_66_01 _) (own_b01 (own_base_66_01 _) own_o))
theorem own_base_38_iff (u0 : Int32) : own_base_38 u0 = 1 ↔ ((216 ≤ u0.toInt ∧ u0.toInt ≤ 246) ∨ ((248 ≤ u0.toInt ∧ u0.toInt ≤ 767) ∨ ((880 ≤ u0.toInt ∧ u0.toInt ≤ 893) ∨ ((895 ≤ u0.toInt ∧ u0.toInt ≤ 8191) ∨ ((8204 ≤ u0.toInt ∧ u0.toInt ≤ 8205) ∨ ((8304 ≤ u0.toInt ∧ u0.toInt ≤ 8591) ∨ ((11264 ≤ u0.toInt ∧ u0.toInt ≤ 12271) ∨ ((12289 ≤ u0.toInt ∧ u0.toInt ≤ 55295) ∨ ((63744 ≤ u0.toInt ∧ u0.toInt ≤ 64975) ∨ ((65008 ≤ u0.toInt ∧ u0.toInt ≤ 65533) ∨ ((65536 ≤ u0.toInt ∧ u0.toInt ≤ 983039) ∨ False))))))))))) := (own_rng rfl rfl (own_base_52_iff _))
theorem own_base_38_01 (u0 : Int32) : own_base_38 u0 = 0 ∨ own_base_38 u0 = 1 := (own_b01 (own_base_52_01 _) (own_b01 (own_base_52_01 _) own_o))
theorem own_base_24_iff (u0 : Int32) : own_base_24 u0 = 1 ↔ ((192 ≤ u0.toInt ∧ u0.toInt ≤ 214) ∨ ((216 ≤ u0.toInt ∧ u0.toInt ≤ 246) ∨ ((248 ≤ u0.toInt ∧ u0.toInt ≤ 767) ∨ ((880 ≤ u0.toInt ∧ u0.toInt ≤ 893) ∨ ((895 ≤ u0.toInt ∧ u0.toInt ≤ 8191) ∨ ((8204 ≤ u0.toInt ∧ u0.toInt ≤ 8205) ∨ ((8304 ≤ u0.toInt ∧ u0.toInt ≤ 8591) ∨ ((11264 ≤ u0.toInt ∧ u0.toInt ≤ 12271) ∨ ((12289 ≤ u0.toInt ∧ u0.toInt ≤ 55295) ∨ ((63744 ≤ u0.toInt ∧ u0.toInt ≤ 64975) ∨ ((65008 ≤ u0.toInt ∧ u0.toInt ≤ 65533) ∨ ((65536 ≤ u0.toInt ∧ u0.toInt ≤ 983039) ∨ False)))))))))))) := (own_rng rfl rfl (own_base_38_iff _))
theorem own_base_24_01 (u0 : Int32) : own_base_24 u0 = 0 ∨ own_base_24 u0 = 1 := (own_b01 (own_base_38_01 _) (own_b01 (own_base_38_01 _) own_o))
theorem own_base_12_iff (u0 : Int32) : own_base_12 u0 = 1 ↔ ((97 ≤ u0.toInt ∧ u0.toInt ≤ 122) ∨ ((192 ≤ u0.toInt ∧ u0.toInt ≤ 214) ∨ ((216 ≤ u0.toInt ∧ u0.toInt ≤ 246) ∨ ((248 ≤ u0.toInt ∧ u0.toInt ≤ 767) ∨ ((880 ≤ u0.toInt ∧ u0.toInt ≤ 893) ∨ ((895 ≤ u0.toInt ∧ u0.toInt ≤ 8191) ∨ ((8204 ≤ u0.toInt ∧ u0.toInt ≤ 8205) ∨ ((8304 ≤ u0.toInt ∧ u0.toInt ≤ 8591) ∨ ((11264 ≤ u0.toInt ∧ u0.toInt ≤ 12271) ∨ ((12289 ≤ u0.toInt ∧ u0.toInt ≤ 55295) ∨ ((63744 ≤ u0.toInt ∧ u0.toInt ≤ 64975) ∨ ((65008 ≤ u0.toInt ∧ u0.toInt ≤ 65533) ∨ ((65536 ≤ u0.toInt ∧ u0.toInt ≤ 983039) ∨ False))))))))))))) := (own_rng rfl rfl (own_base_24_iff _))
theorem own_base_12_01 (u0 : Int32) : own_base_12 u0 = 0 ∨ own_base_12 u0 = 1 := (own_b01 (own_base_24_01 _) (own_b01 (own_base_24_01 _) own_o))
theorem own_base_iff (p0 : Int32) : own_base p0 = 1 ↔ ((65 ≤ p0.toInt ∧ p0.toInt ≤ 90) ∨ ((97 ≤ p0.toInt ∧ p0.toInt ≤ 122) ∨ ((192 ≤ p0.toInt ∧ p0.toInt ≤ 214) ∨ ((216 ≤ p0.toInt ∧ p0.toInt ≤ 246) ∨ ((248 ≤ p0.toInt ∧ p0.toInt ≤ 767) ∨ ((880 ≤ p0.toInt ∧ p0.toInt ≤ 893) ∨ ((895 ≤ p0.toInt ∧ p0.toInt ≤ 8191) ∨ ((8204 ≤ p0.toInt ∧ p0.toInt ≤ 8205) ∨ ((8304 ≤ p0.toInt ∧ p0.toInt ≤ 8591) ∨ ((11264 ≤ p0.toInt ∧ p0.toInt ≤ 12271) ∨ ((12289 ≤ p0.toInt ∧ p0.toInt ≤ 55295) ∨ ((63744 ≤ p0.toInt ∧ p0.toInt ≤ 64975) ∨ ((65008 ≤ p0.toInt ∧ p0.toInt ≤ 65533) ∨ ((65536 ≤ p0.toInt ∧ p0.toInt ≤ 983039) ∨ False)))))))))))))) := (own_rng rfl rfl (own_base_12_iff _))
theorem own_base_01 (p0 : Int32) : own_base p0 = 0 ∨ own_base p0 = 1 := (own_b01 (own_base_12_01 _) (own_b01 (own_base_12_01 _) own_o))
theorem own_notb_170_iff (u0 : Int32) : own_notb_170 u0 = 1 ↔ (u0.toInt = 65534 ∨ (u0.toInt = 65535 ∨ (983039 < u0.toInt ∨ False))) := (own_one rfl (own_one rfl (own_more rfl own_zero)))
theorem own_notb_170_01 (u0 : Int32) : own_notb_170 u0 = 0 ∨ own_notb_170 u0 = 1 := (own_b01 own_o (own_b01 own_o (own_b01 own_o own_z)))
theorem own_notb_156_iff (u0 : Int32) : own_notb_156 u0 = 1 ↔ ((64976 ≤ u0.toInt ∧ u0.toInt ≤ 65007) ∨ (u0.toInt = 65534 ∨ (u0.toInt = 65535 ∨ (983039 < u0.toInt ∨ False)))) := (own_rng rfl rfl (own_notb_170_iff _))
theorem own_notb_156_01 (u0 : Int32) : own_notb_156 u0 = 0 ∨ own_notb_156 u0 = 1 := (own_b01 (own_notb_170_01 _) (own_b01 (own_notb_170_01 _) own_o))
theorem own_notb_142_iff (u0 : Int32) : own_notb_142 u0 = 1 ↔ ((55296 ≤ u0.toInt ∧ u0.toInt ≤ 63743) ∨ ((64976 ≤ u0.toInt ∧ u0.toInt ≤ 65007) ∨ (u0.toInt = 65534 ∨ (u0.toInt = 65535 ∨ (983039 < u0.toInt ∨ False))))) := (own_rng rfl rfl (own_notb_156_iff _))
theorem own_notb_142_01 (u0 : Int32) : own_notb_142 u0 = 0 ∨ own_notb_142 u0 = 1 := (own_b01 (own_notb_156_01 _) (own_b01 (own_notb_156_01 _) own_o))
theorem own_notb_126_iff (u0 : Int32) : own_notb_126 u0 = 1 ↔ ((12272 ≤ u0.toInt ∧ u0.toInt ≤ 12288) ∨ ((55296 ≤ u0.toInt ∧ u0.toInt ≤ 63743) ∨ ((64976 ≤ u0.toInt ∧ u0.toInt ≤ 65007) ∨ (u0.toInt = 65534 ∨ (u0.toInt = 65535 ∨ (983039 < u0.toInt ∨ False)))))) := (own_rng rfl rfl (own_notb_142_iff _))
theorem own_notb_126_01 (u0 : Int32) : own_notb_126 u0 = 0 ∨ own_notb_126 u0 = 1 := (own_b01 (own_notb_142_01 _) (own_b01 (own_notb_142_01 _) own_o))
theorem own_notb_110_iff (u0 : Int32) : own_notb_110 u0 = 1 ↔ ((8592 ≤ u0.toInt ∧ u0.toInt ≤ 11263) ∨ ((12272 ≤ u0.toInt ∧ u0.toInt ≤ 12288) ∨ ((55296 ≤ u0.toInt ∧ u0.toInt ≤ 63743) ∨ ((64976 ≤ u0.toInt ∧ u0.toInt ≤ 65007) ∨ (u0.toInt = 65534 ∨ (u0.toInt = 65535 ∨ (983039 < u0.toInt ∨ False))))))) := (own_rng rfl rfl (own_notb_126_iff _))
theorem own_notb_110_01 (u0 : Int32) : own_notb_110 u0 = 0 ∨ own_notb_110 u0 = 1 := (own_b01 (own_notb_126_01 _) (own_b01 (own_notb_126_01 _) own_o))
theorem own_notb_94_iff (u0 : Int32) : own_notb_94 u0 = 1 ↔ ((8206 ≤ u0.toInt ∧ u0.toInt ≤ 8303) ∨ ((8592 ≤ u0.toInt ∧ u0.toInt ≤ 11263) ∨ ((12272 ≤ u0.toInt ∧ u0.toInt ≤ 12288) ∨ ((55296 ≤ u0.toInt ∧ u0.toInt ≤ 63743) ∨ ((64976 ≤ u0.toInt ∧ u0.toInt ≤ 65007) ∨ (u0.toInt = 65534 ∨ (u0.toInt = 65535 ∨ (983039 < u0.toInt ∨ False)))))))) := (own_rng rfl rfl (own_notb_110_iff _))
theorem own_notb_94_01 (u0 : Int32) : own_notb_94 u0 = 0 ∨ own_notb_94 u0 = 1 := (own_b01 (own_notb_110_01 _) (own_b01 (own_notb_110_01 _) own_o))
theorem own_notb_69_iff (u0 : Int32) : own_notb_69 u0 = 1 ↔ (u0.toInt = 894 ∨ ((8192 ≤ u0.toInt ∧ u0.toInt ≤ 8203) ∨ ((8206 ≤ u0.toInt ∧ u0.toInt ≤ 8303) ∨ ((8592 ≤ u0.toInt ∧ u0.toInt ≤ 11263) ∨ ((12272 ≤ u0.toInt ∧ u0.toInt ≤ 12288) ∨ ((55296 ≤ u0.toInt ∧ u0.toInt ≤ 63743) ∨ ((64976 ≤ u0.toInt ∧ u0.toInt ≤ 65007) ∨ (u0.toInt = 65534 ∨ (u0.toInt = 65535 ∨ (983039 < u0.toInt ∨ False)))))))))) := (own_one rfl (own_rng rfl rfl (own_notb_94_iff _)))
theorem own_notb_69_01 (u0 : Int32) : own_notb_69 u0 = 0 ∨ own_notb_69 u0 = 1 := (own_b01 own_o (own_b01 (own_notb_94_01 _) (own_b01 (own_notb_94_01 _) own_o)))
theorem own_notb_37_iff (u0 : Int32) : own_notb_37 u0 = 1 ↔ (u0.toInt = 215 ∨ (u0.toInt = 247 ∨ ((768 ≤ u0.toInt ∧ u0.toInt ≤ 879) ∨ (u0.toInt = 894 ∨ ((8192 ≤ u0.toInt ∧ u0.toInt ≤ 8203) ∨ ((8206 ≤ u0.toInt ∧ u0.toInt ≤ 8303) ∨ ((8592 ≤ u0.toInt ∧ u0.toInt ≤ 11263) ∨ ((12272 ≤ u0.toInt ∧ u0.toInt ≤ 12288) ∨ ((55296 ≤ u0.toInt ∧ u0.toInt ≤ 63743) ∨ ((64976 ≤ u0.toInt ∧ u0.toInt ≤ 65007) ∨ (u0.toInt = 65534 ∨ (u0.toInt = 65535 ∨ (983039 < u0.toInt ∨ False))))))))))))) := (own_one rfl (own_one rfl (own_rng rfl rfl (own_notb_69_iff _))))
theorem own_notb_37_01 (u0 : Int32) : own_notb_37 u0 = 0 ∨ own_notb_37 u0 = 1 := (own_b01 own_o (own_b01 own_o (own_b01 (own_notb_69_01 _) (own_b01 (own_notb_69_01 _) own_o))))
theorem own_notb_22_iff (u0 : Int32) : own_notb_22 u0 = 1 ↔ ((123 ≤ u0.toInt ∧ u0.toInt ≤ 191) ∨ (u0.toInt = 215 ∨ (u0.toInt = 247 ∨ ((768 ≤ u0.toInt ∧ u0.toInt ≤ 879) ∨ (u0.toInt = 894 ∨ ((8192 ≤ u0.toInt ∧ u0.toInt ≤ 8203) ∨ ((8206 ≤ u0.toInt ∧ u0.toInt ≤ 8303) ∨ ((8592 ≤ u0.toInt ∧ u0.toInt ≤ 11263) ∨ ((12272 ≤ u0.toInt ∧ u0.toInt ≤ 12288) ∨ ((55296 ≤ u0.toInt ∧ u0.toInt ≤ 63743) ∨ ((64976 ≤ u0.toInt ∧ u0.toInt ≤ 65007) ∨ (u0.toInt = 65534 ∨ (u0.toInt = 65535 ∨ (983039 < u0.toInt ∨ False)))))))))))))) := (own_rng rfl rfl (own_notb_37_iff _))
theorem own_notb_22_01 (u0 : Int32) : own_notb_22 u0 = 0 ∨ own_notb_22 u0 = 1 := (own_b01 (own_notb_37_01 _) (own_b01 (own_notb_37_01 _) own_o))
theorem own_notb_iff (p0 : Int32) : own_notb p0 = 1 ↔ (p0.toInt < 65 ∨ ((91 ≤ p0.toInt ∧ p0.toInt ≤ 96) ∨ ((123 ≤ p0.toInt ∧ p0.toInt ≤ 191) ∨ (p0.toInt = 215 ∨ (p0.toInt = 247 ∨ ((768 ≤ p0.toInt ∧ p0.toInt ≤ 879) ∨ (p0.toInt = 894 ∨ ((8192 ≤ p0.toInt ∧ p0.toInt ≤ 8203) ∨ ((8206 ≤ p0.toInt ∧ p0.toInt ≤ 8303) ∨ ((8592 ≤ p0.toInt ∧ p0.toInt ≤ 11263) ∨ ((12272 ≤ p0.toInt ∧ p0.toInt ≤ 12288) ∨ ((55296 ≤ p0.toInt ∧ p0.toInt ≤ 63743) ∨ ((64976 ≤ p0.toInt ∧ p0.toInt ≤ 65007) ∨ (p0.toInt = 65534 ∨ (p0.toInt = 65535 ∨ (983039 < p0.toInt ∨ False)))))))))))))))) := (own_less rfl (own_rng rfl rfl (own_notb_22_iff _)))
theorem own_notb_01 (p0 : Int32) : own_notb p0 = 0 ∨ own_notb p0 = 1 := (own_b01 own_o (own_b01 (own_notb_22_01 _) (own_b01 (own_notb_22_01 _) own_o)))
theorem own_yes (c : Int32) (h : own_notb c = 0) : own_base c = 1 := by
  have h1 : ¬ (own_notb c = 1) := by rw [h]; decide
  rw [own_notb_iff] at h1
  rw [own_base_iff]
  omega
theorem own_no (c : Int32) (h : ¬ own_notb c = 0) : own_base c = 0 := by
  have h1 := (own_notb_01 c).resolve_left h
  rw [own_notb_iff] at h1
  refine (own_base_01 c).resolve_right fun q => ?_
  rw [own_base_iff] at q
  rcases q with q | q | q | q | q | q | q | q | q | q | q | q | q | q | q <;> rcases h1 with h1 | h1 | h1 | h1 | h1 | h1 | h1 | h1 | h1 | h1 | h1 | h1 | h1 | h1 | h1 | h1 | h1 <;> omega
theorem own_idx (k : Int32) : ¬ (k &&& 65535) % 28 < 0 ∧ (k &&& 65535) % 28 < 28 := by
  have e1 : (k &&& 65535).toInt = k.toInt % 2 ^ 16 := Jvm.Kit.i32_mask k 65535 (by decide) (by decide)
  have e2 : ((k &&& 65535) % 28).toInt = (k &&& 65535).toInt % (28 : Int32).toInt := Jvm.Kit.i32_rem_nonneg (by rw [e1]; omega)
  have e3 : (28 : Int32).toInt = 28 := rfl
  have e4 : (0 : Int32).toInt = 0 := rfl
  rw [Int32.lt_iff_toInt_lt, Int32.lt_iff_toInt_lt, e2, e3, e4]
  omega
theorem own_pd0 : parseMethodDescriptor "(I)Z" = some ⟨[.int], some .boolean⟩ := by decide +kernel
theorem own_ef_rm0 (m : MethodId) (x0 : Int32) (x1 : Int32) : entryFrame m #[(.int x0), (.int x1)] maxLocals = mkF m 0 #[.val (.int x0), .val (.int x1), .unset, .unset, .unset, .unset, .unset, .unset] [] := by first | (simp [entryFrame, mkF, argsToLocals, Value.category, maxLocals]; done) | rfl
def own_Q_rm0 (Z : State) (p0 : Int32) (p1 : Int32) (h0 : Heap) (n0 : Nat) (v : Option Value) (h : Heap) (L : List Loc) : Prop := v = some (.int 1) ∧ Fr n0 L
set_option maxRecDepth 65536 in
set_option maxHeartbeats 40000000 in
theorem rm0 (l : Launch) (Z : State) (a0 : Array Value) (hw : ∀ d ∈ tables_1, d.before a0 Z = true) (ws : List Jvm.Cond) (p0 : Int32) (p1 : Int32) (h0 : Heap) (n0 : Nat) (Z0 : n0 ≤ h0.size) :
    MetFree l x (head1 (Jvm.Cond.code x code maxLocals ret :: ws) room_1) (fun a U => a = #[(.int p0), (.int p1)] ∧ Z.Warmed39 U.vm ∧ U.heap = h0) (fun _ _ _ _ _ => True) (fun _ U o U' => ∃ v L, o = .returned v ∧ (own_Q_rm0 Z p0 p1 h0 n0) v U'.heap L ∧ FrameEnd U o U' L 16 128) := by
  refine MetFree.of_bodySF (plainFor_of_name own_pn1) hisR ?_
  intro p e s m args below meth c s₁ Bd hml0 hP hK
  obtain ⟨rfl, hZ, hh⟩ := hP
  have hx := Bd.exec
  have hby := Bd.bytes
  have hml : c.maxLocals = 8 := hml0
  have hown : s.vm.findClass "com/example/triweave/triweave/core/NameCharsIsBasePinLaw" = some m.cls := findClass_of_methodNamed Bd.named
  have hnm := (name_of_methodNamed Bd.named Bd.method).1
  have hlk : meth.locks = false := BodyLoose.notSynchronized Bd
  have X0 : Stand p l e room_1 s m #[(.int p0), (.int p1)] below meth c s₁ [] 0 0 := Stand.of_body Bd
  have e0 : s₁.heap = h0 := by rw [← hh, Bd.state]; rfl
  have N0 := Fr.nil n0
  show own_Ends p e below (own_Fin s (own_Q_rm0 Z p0 p1 h0 n0) 16 128) _
  refine own_pre (fun t k => castTop (own_ef_rm0 m p0 p1) k) ?_
  show own_Ends _ _ _ _ (s₁.setTop (mkF m 0 #[.val (.int p0), .val (.int p1), .unset, .unset, .unset, .unset, .unset, .unset] []))
  refine own_pre (fun t k => XS.bipush X0.here hx rfl (hb hby at_0) k) ?_
  show own_Ends _ _ _ _ (s₁.setTop (mkF m 2 #[.val (.int p0), .val (.int p1), .unset, .unset, .unset, .unset, .unset, .unset] [(.int (28 : Int32))]))
  obtain ⟨T54, h54, k54, X54, e54, E54, A54, st54⟩ := newP X0 hx hZ (hw _ (List.mem_of_getElem? (i := 0) rfl)) e0 (g := (mkF m 2 #[.val (.int p0), .val (.int p1), .unset, .unset, .unset, .unset, .unset, .unset] [(.int (28 : Int32))])) rfl (hb hby at_2) rfl (by decide) (cap := 28) (by decide) (by decide) (by decide) (by decide)
  obtain ⟨b54, g54⟩ : ∃ z, z = h0.size := ⟨_, rfl⟩
  rw [← g54] at A54 st54
  refine own_pre st54 ?_
  have L55 : n0 ≤ b54 := Nat.le_trans Z0 (Nat.le_of_eq g54.symm)
  have Zn56 : n0 ≤ h54.size := Nat.le_trans Z0 E54.1
  have f57 : Arv Z h54 b54 k54 .int (28 : Int32) [(.int (0 : Int32)), (.int (0 : Int32)), (.int (0 : Int32)), (.int (0 : Int32)), (.int (0 : Int32)), (.int (0 : Int32)), (.int (0 : Int32)), (.int (0 : Int32)), (.int (0 : Int32)), (.int (0 : Int32)), (.int (0 : Int32)), (.int (0 : Int32)), (.int (0 : Int32)), (.int (0 : Int32)), (.int (0 : Int32)), (.int (0 : Int32)), (.int (0 : Int32)), (.int (0 : Int32)), (.int (0 : Int32)), (.int (0 : Int32)), (.int (0 : Int32)), (.int (0 : Int32)), (.int (0 : Int32)), (.int (0 : Int32)), (.int (0 : Int32)), (.int (0 : Int32)), (.int (0 : Int32)), (.int (0 : Int32))] (.int (0 : Int32)) := (Arv.new A54 (by decide)).pad (pad_rep [] (.int (0 : Int32)) 28)
  show own_Ends _ _ _ _ (T54.setTop (mkF m 4 #[.val (.int p0), .val (.int p1), .unset, .unset, .unset, .unset, .unset, .unset] [(.ref b54)]))
  refine own_pre (fun t k => XS.dup X54.here hx rfl (hb hby at_4) rfl rfl k) ?_
  show own_Ends _ _ _ _ (T54.setTop (mkF m 5 #[.val (.int p0), .val (.int p1), .unset, .unset, .unset, .unset, .unset, .unset] [(.ref b54), (.ref b54)]))
  refine own_pre (fun t k => XS.iconst X54.here hx rfl (hb hby at_5) k) ?_
  show own_Ends _ _ _ _ (T54.setTop (mkF m 6 #[.val (.int p0), .val (.int p1), .unset, .unset, .unset, .unset, .unset, .unset] [(.int (0 : Int32)), (.ref b54), (.ref b54)]))
  refine own_pre (fun t k => XS.bipush X54.here hx rfl (hb hby at_6) k) ?_
  show own_Ends _ _ _ _ (T54.setTop (mkF m 8 #[.val (.int p0), .val (.int p1), .unset, .unset, .unset, .unset, .unset, .unset] [(.int (65 : Int32)), (.int (0 : Int32)), (.ref b54), (.ref b54)]))
  obtain ⟨cl58, Ar58, q58, S58, M58, H58, G58⟩ := id (f57)
  have hin58 : ¬ ((0 : Int32) < 0 ∨ cl58.slots.size ≤ ((0 : Int32)).toNatClampNeg) := inb_of S58 ⟨by decide, by decide⟩
  obtain ⟨T58, h58, X58, e58, W58, st58⟩ := stI X54 hx hZ e54 Ar58 (j := (0 : Int32)) hin58 (g := (mkF m 8 #[.val (.int p0), .val (.int p1), .unset, .unset, .unset, .unset, .unset, .unset] [(.int (65 : Int32)), (.int (0 : Int32)), (.ref b54), (.ref b54)])) rfl rfl (hb hby at_8)
  refine own_pre st58 ?_
  have f59x := Arv.set Ar58 q58 S58 M58 H58 G58 (show fits .int (.int (65 : Int32)) = true from rfl) W58 0 rfl (Nat.le_of_ble_eq_true rfl)
  have f59 : Arv Z h58 b54 k54 .int (28 : Int32) [(.int (65 : Int32)), (.int (0 : Int32)), (.int (0 : Int32)), (.int (0 : Int32)), (.int (0 : Int32)), (.int (0 : Int32)), (.int (0 : Int32)), (.int (0 : Int32)), (.int (0 : Int32)), (.int (0 : Int32)), (.int (0 : Int32)), (.int (0 : Int32)), (.int (0 : Int32)), (.int (0 : Int32)), (.int (0 : Int32)), (.int (0 : Int32)), (.int (0 : Int32)), (.int (0 : Int32)), (.int (0 : Int32)), (.int (0 : Int32)), (.int (0 : Int32)), (.int (0 : Int32)), (.int (0 : Int32)), (.int (0 : Int32)), (.int (0 : Int32)), (.int (0 : Int32)), (.int (0 : Int32)), (.int (0 : Int32))] (.int (0 : Int32)) := f59x
  have N60 := Fr.snoc X58 N0 L55
  obtain ⟨LL58, X58, N60⟩ := own_hide X58 N60
  have Zn61 : n0 ≤ h58.size := by rw [W58.size]; exact Zn56
  show own_Ends _ _ _ _ (T58.setTop (mkF m 9 #[.val (.int p0), .val (.int p1), .unset, .unset, .unset, .unset, .unset, .unset] [(.ref b54)]))
  refine own_pre (fun t k => XS.dup X58.here hx rfl (hb hby at_9) rfl rfl k) ?_
  show own_Ends _ _ _ _ (T58.setTop (mkF m 10 #[.val (.int p0), .val (.int p1), .unset, .unset, .unset, .unset, .unset, .unset] [(.ref b54), (.ref b54)]))
  refine own_pre (fun t k => XS.iconst X58.here hx rfl (hb hby at_10) k) ?_
  show own_Ends _ _ _ _ (T58.setTop (mkF m 11 #[.val (.int p0), .val (.int p1), .unset, .unset, .unset, .unset, .unset, .unset] [(.int (1 : Int32)), (.ref b54), (.ref b54)]))
  refine own_pre (fun t k => XS.bipush X58.here hx rfl (hb hby at_11) k) ?_
  show own_Ends _ _ _ _ (T58.setTop (mkF m 13 #[.val (.int p0), .val (.int p1), .unset, .unset, .unset, .unset, .unset, .unset] [(.int (90 : Int32)), (.int (1 : Int32)), (.ref b54), (.ref b54)]))
  obtain ⟨cl62, Ar62, q62, S62, M62, H62, G62⟩ := id (f59)
  have hin62 : ¬ ((1 : Int32) < 0 ∨ cl62.slots.size ≤ ((1 : Int32)).toNatClampNeg) := inb_of S62 ⟨by decide, by decide⟩
  obtain ⟨T62, h62, X62, e62, W62, st62⟩ := stI X58 hx hZ e58 Ar62 (j := (1 : Int32)) hin62 (g := (mkF m 13 #[.val (.int p0), .val (.int p1), .unset, .unset, .unset, .unset, .unset, .unset] [(.int (90 : Int32)), (.int (1 : Int32)), (.ref b54), (.ref b54)])) rfl rfl (hb hby at_13)
  refine own_pre st62 ?_
  have f63x := Arv.set Ar62 q62 S62 M62 H62 G62 (show fits .int (.int (90 : Int32)) = true from rfl) W62 1 rfl (Nat.le_of_ble_eq_true rfl)
  have f63 : Arv Z h62 b54 k54 .int (28 : Int32) [(.int (65 : Int32)), (.int (90 : Int32)), (.int (0 : Int32)), (.int (0 : Int32)), (.int (0 : Int32)), (.int (0 : Int32)), (.int (0 : Int32)), (.int (0 : Int32)), (.int (0 : Int32)), (.int (0 : Int32)), (.int (0 : Int32)), (.int (0 : Int32)), (.int (0 : Int32)), (.int (0 : Int32)), (.int (0 : Int32)), (.int (0 : Int32)), (.int (0 : Int32)), (.int (0 : Int32)), (.int (0 : Int32)), (.int (0 : Int32)), (.int (0 : Int32)), (.int (0 : Int32)), (.int (0 : Int32)), (.int (0 : Int32)), (.int (0 : Int32)), (.int (0 : Int32)), (.int (0 : Int32)), (.int (0 : Int32))] (.int (0 : Int32)) := f63x
  have N64 := Fr.snoc X62 N60 L55
  obtain ⟨LL62, X62, N64⟩ := own_hide X62 N64
  have Zn65 : n0 ≤ h62.size := by rw [W62.size]; exact Zn61
  show own_Ends _ _ _ _ (T62.setTop (mkF m 14 #[.val (.int p0), .val (.int p1), .unset, .unset, .unset, .unset, .unset, .unset] [(.ref b54)]))
  refine own_pre (fun t k => XS.dup X62.here hx rfl (hb hby at_14) rfl rfl k) ?_
  show own_Ends _ _ _ _ (T62.setTop (mkF m 15 #[.val (.int p0), .val (.int p1), .unset, .unset, .unset, .unset, .unset, .unset] [(.ref b54), (.ref b54)]))
  refine own_pre (fun t k => XS.iconst X62.here hx rfl (hb hby at_15) k) ?_
  show own_Ends _ _ _ _ (T62.setTop (mkF m 16 #[.val (.int p0), .val (.int p1), .unset, .unset, .unset, .unset, .unset, .unset] [(.int (2 : Int32)), (.ref b54), (.ref b54)]))
  refine own_pre (fun t k => XS.bipush X62.here hx rfl (hb hby at_16) k) ?_
  show own_Ends _ _ _ _ (T62.setTop (mkF m 18 #[.val (.int p0), .val (.int p1), .unset, .unset, .unset, .unset, .unset, .unset] [(.int (97 : Int32)), (.int (2 : Int32)), (.ref b54), (.ref b54)]))
  obtain ⟨cl66, Ar66, q66, S66, M66, H66, G66⟩ := id (f63)
  have hin66 : ¬ ((2 : Int32) < 0 ∨ cl66.slots.size ≤ ((2 : Int32)).toNatClampNeg) := inb_of S66 ⟨by decide, by decide⟩
  obtain ⟨T66, h66, X66, e66, W66, st66⟩ := stI X62 hx hZ e62 Ar66 (j := (2 : Int32)) hin66 (g := (mkF m 18 #[.val (.int p0), .val (.int p1), .unset, .unset, .unset, .unset, .unset, .unset] [(.int (97 : Int32)), (.int (2 : Int32)), (.ref b54), (.ref b54)])) rfl rfl (hb hby at_18)
  refine own_pre st66 ?_
  have f67x := Arv.set Ar66 q66 S66 M66 H66 G66 (show fits .int (.int (97 : Int32)) = true from rfl) W66 2 rfl (Nat.le_of_ble_eq_true rfl)
  have f67 : Arv Z h66 b54 k54 .int (28 : Int32) [(.int (65 : Int32)), (.int (90 : Int32)), (.int (97 : Int32)), (.int (0 : Int32)), (.int (0 : Int32)), (.int (0 : Int32)), (.int (0 : Int32)), (.int (0 : Int32)), (.int (0 : Int32)), (.int (0 : Int32)), (.int (0 : Int32)), (.int (0 : Int32)), (.int (0 : Int32)), (.int (0 : Int32)), (.int (0 : Int32)), (.int (0 : Int32)), (.int (0 : Int32)), (.int (0 : Int32)), (.int (0 : Int32)), (.int (0 : Int32)), (.int (0 : Int32)), (.int (0 : Int32)), (.int (0 : Int32)), (.int (0 : Int32)), (.int (0 : Int32)), (.int (0 : Int32)), (.int (0 : Int32)), (.int (0 : Int32))] (.int (0 : Int32)) := f67x
  have N68 := Fr.snoc X66 N64 L55
  obtain ⟨LL66, X66, N68⟩ := own_hide X66 N68
  have Zn69 : n0 ≤ h66.size := by rw [W66.size]; exact Zn65
  show own_Ends _ _ _ _ (T66.setTop (mkF m 19 #[.val (.int p0), .val (.int p1), .unset, .unset, .unset, .unset, .unset, .unset] [(.ref b54)]))
  refine own_pre (fun t k => XS.dup X66.here hx rfl (hb hby at_19) rfl rfl k) ?_
  show own_Ends _ _ _ _ (T66.setTop (mkF m 20 #[.val (.int p0), .val (.int p1), .unset, .unset, .unset, .unset, .unset, .unset] [(.ref b54), (.ref b54)]))
  refine own_pre (fun t k => XS.iconst X66.here hx rfl (hb hby at_20) k) ?_
  show own_Ends _ _ _ _ (T66.setTop (mkF m 21 #[.val (.int p0), .val (.int p1), .unset, .unset, .unset, .unset, .unset, .unset] [(.int (3 : Int32)), (.ref b54), (.ref b54)]))
  refine own_pre (fun t k => XS.bipush X66.here hx rfl (hb hby at_21) k) ?_
  show own_Ends _ _ _ _ (T66.setTop (mkF m 23 #[.val (.int p0), .val (.int p1), .unset, .unset, .unset, .unset, .unset, .unset] [(.int (122 : Int32)), (.int (3 : Int32)), (.ref b54), (.ref b54)]))
  obtain ⟨cl70, Ar70, q70, S70, M70, H70, G70⟩ := id (f67)
  have hin70 : ¬ ((3 : Int32) < 0 ∨ cl70.slots.size ≤ ((3 : Int32)).toNatClampNeg) := inb_of S70 ⟨by decide, by decide⟩
  obtain ⟨T70, h70, X70, e70, W70, st70⟩ := stI X66 hx hZ e66 Ar70 (j := (3 : Int32)) hin70 (g := (mkF m 23 #[.val (.int p0), .val (.int p1), .unset, .unset, .unset, .unset, .unset, .unset] [(.int (122 : Int32)), (.int (3 : Int32)), (.ref b54), (.ref b54)])) rfl rfl (hb hby at_23)
  refine own_pre st70 ?_
  have f71x := Arv.set Ar70 q70 S70 M70 H70 G70 (show fits .int (.int (122 : Int32)) = true from rfl) W70 3 rfl (Nat.le_of_ble_eq_true rfl)
  have f71 : Arv Z h70 b54 k54 .int (28 : Int32) [(.int (65 : Int32)), (.int (90 : Int32)), (.int (97 : Int32)), (.int (122 : Int32)), (.int (0 : Int32)), (.int (0 : Int32)), (.int (0 : Int32)), (.int (0 : Int32)), (.int (0 : Int32)), (.int (0 : Int32)), (.int (0 : Int32)), (.int (0 : Int32)), (.int (0 : Int32)), (.int (0 : Int32)), (.int (0 : Int32)), (.int (0 : Int32)), (.int (0 : Int32)), (.int (0 : Int32)), (.int (0 : Int32)), (.int (0 : Int32)), (.int (0 : Int32)), (.int (0 : Int32)), (.int (0 : Int32)), (.int (0 : Int32)), (.int (0 : Int32)), (.int (0 : Int32)), (.int (0 : Int32)), (.int (0 : Int32))] (.int (0 : Int32)) := f71x
  have N72 := Fr.snoc X70 N68 L55
  obtain ⟨LL70, X70, N72⟩ := own_hide X70 N72
  have Zn73 : n0 ≤ h70.size := by rw [W70.size]; exact Zn69
  show own_Ends _ _ _ _ (T70.setTop (mkF m 24 #[.val (.int p0), .val (.int p1), .unset, .unset, .unset, .unset, .unset, .unset] [(.ref b54)]))
  refine own_pre (fun t k => XS.dup X70.here hx rfl (hb hby at_24) rfl rfl k) ?_
  show own_Ends _ _ _ _ (T70.setTop (mkF m 25 #[.val (.int p0), .val (.int p1), .unset, .unset, .unset, .unset, .unset, .unset] [(.ref b54), (.ref b54)]))
  refine own_pre (fun t k => XS.iconst X70.here hx rfl (hb hby at_25) k) ?_
  show own_Ends _ _ _ _ (T70.setTop (mkF m 26 #[.val (.int p0), .val (.int p1), .unset, .unset, .unset, .unset, .unset, .unset] [(.int (4 : Int32)), (.ref b54), (.ref b54)]))
  refine own_pre (fun t k => XS.sipush X70.here hx rfl (hb hby at_26) k) ?_
  show own_Ends _ _ _ _ (T70.setTop (mkF m 29 #[.val (.int p0), .val (.int p1), .unset, .unset, .unset, .unset, .unset, .unset] [(.int (192 : Int32)), (.int (4 : Int32)), (.ref b54), (.ref b54)]))
  obtain ⟨cl74, Ar74, q74, S74, M74, H74, G74⟩ := id (f71)
  have hin74 : ¬ ((4 : Int32) < 0 ∨ cl74.slots.size ≤ ((4 : Int32)).toNatClampNeg) := inb_of S74 ⟨by decide, by decide⟩
  obtain ⟨T74, h74, X74, e74, W74, st74⟩ := stI X70 hx hZ e70 Ar74 (j := (4 : Int32)) hin74 (g := (mkF m 29 #[.val (.int p0), .val (.int p1), .unset, .unset, .unset, .unset, .unset, .unset] [(.int (192 : Int32)), (.int (4 : Int32)), (.ref b54), (.ref b54)])) rfl rfl (hb hby at_29)
  refine own_pre st74 ?_
  have f75x := Arv.set Ar74 q74 S74 M74 H74 G74 (show fits .int (.int (192 : Int32)) = true from rfl) W74 4 rfl (Nat.le_of_ble_eq_true rfl)
  have f75 : Arv Z h74 b54 k54 .int (28 : Int32) [(.int (65 : Int32)), (.int (90 : Int32)), (.int (97 : Int32)), (.int (122 : Int32)), (.int (192 : Int32)), (.int (0 : Int32)), (.int (0 : Int32)), (.int (0 : Int32)), (.int (0 : Int32)), (.int (0 : Int32)), (.int (0 : Int32)), (.int (0 : Int32)), (.int (0 : Int32)), (.int (0 : Int32)), (.int (0 : Int32)), (.int (0 : Int32)), (.int (0 : Int32)), (.int (0 : Int32)), (.int (0 : Int32)), (.int (0 : Int32)), (.int (0 : Int32)), (.int (0 : Int32)), (.int (0 : Int32)), (.int (0 : Int32)), (.int (0 : Int32)), (.int (0 : Int32)), (.int (0 : Int32)), (.int (0 : Int32))] (.int (0 : Int32)) := f75x
  have N76 := Fr.snoc X74 N72 L55
  obtain ⟨LL74, X74, N76⟩ := own_hide X74 N76
  have Zn77 : n0 ≤ h74.size := by rw [W74.size]; exact Zn73
  show own_Ends _ _ _ _ (T74.setTop (mkF m 30 #[.val (.int p0), .val (.int p1), .unset, .unset, .unset, .unset, .unset, .unset] [(.ref b54)]))
  refine own_pre (fun t k => XS.dup X74.here hx rfl (hb hby at_30) rfl rfl k) ?_
  show own_Ends _ _ _ _ (T74.setTop (mkF m 31 #[.val (.int p0), .val (.int p1), .unset, .unset, .unset, .unset, .unset, .unset] [(.ref b54), (.ref b54)]))
  refine own_pre (fun t k => XS.iconst X74.here hx rfl (hb hby at_31) k) ?_
  show own_Ends _ _ _ _ (T74.setTop (mkF m 32 #[.val (.int p0), .val (.int p1), .unset, .unset, .unset, .unset, .unset, .unset] [(.int (5 : Int32)), (.ref b54), (.ref b54)]))
  refine own_pre (fun t k => XS.sipush X74.here hx rfl (hb hby at_32) k) ?_
  show own_Ends _ _ _ _ (T74.setTop (mkF m 35 #[.val (.int p0), .val (.int p1), .unset, .unset, .unset, .unset, .unset, .unset] [(.int (214 : Int32)), (.int (5 : Int32)), (.ref b54), (.ref b54)]))
  obtain ⟨cl78, Ar78, q78, S78, M78, H78, G78⟩ := id (f75)
  have hin78 : ¬ ((5 : Int32) < 0 ∨ cl78.slots.size ≤ ((5 : Int32)).toNatClampNeg) := inb_of S78 ⟨by decide, by decide⟩
  obtain ⟨T78, h78, X78, e78, W78, st78⟩ := stI X74 hx hZ e74 Ar78 (j := (5 : Int32)) hin78 (g := (mkF m 35 #[.val (.int p0), .val (.int p1), .unset, .unset, .unset, .unset, .unset, .unset] [(.int (214 : Int32)), (.int (5 : Int32)), (.ref b54), (.ref b54)])) rfl rfl (hb hby at_35)
  refine own_pre st78 ?_
  have f79x := Arv.set Ar78 q78 S78 M78 H78 G78 (show fits .int (.int (214 : Int32)) = true from rfl) W78 5 rfl (Nat.le_of_ble_eq_true rfl)
  have f79 : Arv Z h78 b54 k54 .int (28 : Int32) [(.int (65 : Int32)), (.int (90 : Int32)), (.int (97 : Int32)), (.int (122 : Int32)), (.int (192 : Int32)), (.int (214 : Int32)), (.int (0 : Int32)), (.int (0 : Int32)), (.int (0 : Int32)), (.int (0 : Int32)), (.int (0 : Int32)), (.int (0 : Int32)), (.int (0 : Int32)), (.int (0 : Int32)), (.int (0 : Int32)), (.int (0 : Int32)), (.int (0 : Int32)), (.int (0 : Int32)), (.int (0 : Int32)), (.int (0 : Int32)), (.int (0 : Int32)), (.int (0 : Int32)), (.int (0 : Int32)), (.int (0 : Int32)), (.int (0 : Int32)), (.int (0 : Int32)), (.int (0 : Int32)), (.int (0 : Int32))] (.int (0 : Int32)) := f79x
  have N80 := Fr.snoc X78 N76 L55
  obtain ⟨LL78, X78, N80⟩ := own_hide X78 N80
  have Zn81 : n0 ≤ h78.size := by rw [W78.size]; exact Zn77
  show own_Ends _ _ _ _ (T78.setTop (mkF m 36 #[.val (.int p0), .val (.int p1), .unset, .unset, .unset, .unset, .unset, .unset] [(.ref b54)]))
  refine own_pre (fun t k => XS.dup X78.here hx rfl (hb hby at_36) rfl rfl k) ?_
  show own_Ends _ _ _ _ (T78.setTop (mkF m 37 #[.val (.int p0), .val (.int p1), .unset, .unset, .unset, .unset, .unset, .unset] [(.ref b54), (.ref b54)]))
  refine own_pre (fun t k => XS.bipush X78.here hx rfl (hb hby at_37) k) ?_
  show own_Ends _ _ _ _ (T78.setTop (mkF m 39 #[.val (.int p0), .val (.int p1), .unset, .unset, .unset, .unset, .unset, .unset] [(.int (6 : Int32)), (.ref b54), (.ref b54)]))
  refine own_pre (fun t k => XS.sipush X78.here hx rfl (hb hby at_39) k) ?_
  show own_Ends _ _ _ _ (T78.setTop (mkF m 42 #[.val (.int p0), .val (.int p1), .unset, .unset, .unset, .unset, .unset, .unset] [(.int (216 : Int32)), (.int (6 : Int32)), (.ref b54), (.ref b54)]))
  obtain ⟨cl82, Ar82, q82, S82, M82, H82, G82⟩ := id (f79)
  have hin82 : ¬ ((6 : Int32) < 0 ∨ cl82.slots.size ≤ ((6 : Int32)).toNatClampNeg) := inb_of S82 ⟨by decide, by decide⟩
  obtain ⟨T82, h82, X82, e82, W82, st82⟩ := stI X78 hx hZ e78 Ar82 (j := (6 : Int32)) hin82 (g := (mkF m 42 #[.val (.int p0), .val (.int p1), .unset, .unset, .unset, .unset, .unset, .unset] [(.int (216 : Int32)), (.int (6 : Int32)), (.ref b54), (.ref b54)])) rfl rfl (hb hby at_42)
  refine own_pre st82 ?_
  have f83x := Arv.set Ar82 q82 S82 M82 H82 G82 (show fits .int (.int (216 : Int32)) = true from rfl) W82 6 rfl (Nat.le_of_ble_eq_true rfl)
  have f83 : Arv Z h82 b54 k54 .int (28 : Int32) [(.int (65 : Int32)), (.int (90 : Int32)), (.int (97 : Int32)), (.int (122 : Int32)), (.int (192 : Int32)), (.int (214 : Int32)), (.int (216 : Int32)), (.int (0 : Int32)), (.int (0 : Int32)), (.int (0 : Int32)), (.int (0 : Int32)), (.int (0 : Int32)), (.int (0 : Int32)), (.int (0 : Int32)), (.int (0 : Int32)), (.int (0 : Int32)), (.int (0 : Int32)), (.int (0 : Int32)), (.int (0 : Int32)), (.int (0 : Int32)), (.int (0 : Int32)), (.int (0 : Int32)), (.int (0 : Int32)), (.int (0 : Int32)), (.int (0 : Int32)), (.int (0 : Int32)), (.int (0 : Int32)), (.int (0 : Int32))] (.int (0 : Int32)) := f83x
  have N84 := Fr.snoc X82 N80 L55
  obtain ⟨LL82, X82, N84⟩ := own_hide X82 N84
  have Zn85 : n0 ≤ h82.size := by rw [W82.size]; exact Zn81
  show own_Ends _ _ _ _ (T82.setTop (mkF m 43 #[.val (.int p0), .val (.int p1), .unset, .unset, .unset, .unset, .unset, .unset] [(.ref b54)]))
  refine own_pre (fun t k => XS.dup X82.here hx rfl (hb hby at_43) rfl rfl k) ?_
  show own_Ends _ _ _ _ (T82.setTop (mkF m 44 #[.val (.int p0), .val (.int p1), .unset, .unset, .unset, .unset, .unset, .unset] [(.ref b54), (.ref b54)]))
  refine own_pre (fun t k => XS.bipush X82.here hx rfl (hb hby at_44) k) ?_
  show own_Ends _ _ _ _ (T82.setTop (mkF m 46 #[.val (.int p0), .val (.int p1), .unset, .unset, .unset, .unset, .unset, .unset] [(.int (7 : Int32)), (.ref b54), (.ref b54)]))
  refine own_pre (fun t k => XS.sipush X82.here hx rfl (hb hby at_46) k) ?_
  show own_Ends _ _ _ _ (T82.setTop (mkF m 49 #[.val (.int p0), .val (.int p1), .unset, .unset, .unset, .unset, .unset, .unset] [(.int (246 : Int32)), (.int (7 : Int32)), (.ref b54), (.ref b54)]))
  obtain ⟨cl86, Ar86, q86, S86, M86, H86, G86⟩ := id (f83)
  have hin86 : ¬ ((7 : Int32) < 0 ∨ cl86.slots.size ≤ ((7 : Int32)).toNatClampNeg) := inb_of S86 ⟨by decide, by decide⟩
  obtain ⟨T86, h86, X86, e86, W86, st86⟩ := stI X82 hx hZ e82 Ar86 (j := (7 : Int32)) hin86 (g := (mkF m 49 #[.val (.int p0), .val (.int p1), .unset, .unset, .unset, .unset, .unset, .unset] [(.int (246 : Int32)), (.int (7 : Int32)), (.ref b54), (.ref b54)])) rfl rfl (hb hby at_49)
  refine own_pre st86 ?_
  have f87x := Arv.set Ar86 q86 S86 M86 H86 G86 (show fits .int (.int (246 : Int32)) = true from rfl) W86 7 rfl (Nat.le_of_ble_eq_true rfl)
  have f87 : Arv Z h86 b54 k54 .int (28 : Int32) [(.int (65 : Int32)), (.int (90 : Int32)), (.int (97 : Int32)), (.int (122 : Int32)), (.int (192 : Int32)), (.int (214 : Int32)), (.int (216 : Int32)), (.int (246 : Int32)), (.int (0 : Int32)), (.int (0 : Int32)), (.int (0 : Int32)), (.int (0 : Int32)), (.int (0 : Int32)), (.int (0 : Int32)), (.int (0 : Int32)), (.int (0 : Int32)), (.int (0 : Int32)), (.int (0 : Int32)), (.int (0 : Int32)), (.int (0 : Int32)), (.int (0 : Int32)), (.int (0 : Int32)), (.int (0 : Int32)), (.int (0 : Int32)), (.int (0 : Int32)), (.int (0 : Int32)), (.int (0 : Int32)), (.int (0 : Int32))] (.int (0 : Int32)) := f87x
  have N88 := Fr.snoc X86 N84 L55
  obtain ⟨LL86, X86, N88⟩ := own_hide X86 N88
  have Zn89 : n0 ≤ h86.size := by rw [W86.size]; exact Zn85
  show own_Ends _ _ _ _ (T86.setTop (mkF m 50 #[.val (.int p0), .val (.int p1), .unset, .unset, .unset, .unset, .unset, .unset] [(.ref b54)]))
  refine own_pre (fun t k => XS.dup X86.here hx rfl (hb hby at_50) rfl rfl k) ?_
  show own_Ends _ _ _ _ (T86.setTop (mkF m 51 #[.val (.int p0), .val (.int p1), .unset, .unset, .unset, .unset, .unset, .unset] [(.ref b54), (.ref b54)]))
  refine own_pre (fun t k => XS.bipush X86.here hx rfl (hb hby at_51) k) ?_
  show own_Ends _ _ _ _ (T86.setTop (mkF m 53 #[.val (.int p0), .val (.int p1), .unset, .unset, .unset, .unset, .unset, .unset] [(.int (8 : Int32)), (.ref b54), (.ref b54)]))
  refine own_pre (fun t k => XS.sipush X86.here hx rfl (hb hby at_53) k) ?_
  show own_Ends _ _ _ _ (T86.setTop (mkF m 56 #[.val (.int p0), .val (.int p1), .unset, .unset, .unset, .unset, .unset, .unset] [(.int (248 : Int32)), (.int (8 : Int32)), (.ref b54), (.ref b54)]))
  obtain ⟨cl90, Ar90, q90, S90, M90, H90, G90⟩ := id (f87)
  have hin90 : ¬ ((8 : Int32) < 0 ∨ cl90.slots.size ≤ ((8 : Int32)).toNatClampNeg) := inb_of S90 ⟨by decide, by decide⟩
  obtain ⟨T90, h90, X90, e90, W90, st90⟩ := stI X86 hx hZ e86 Ar90 (j := (8 : Int32)) hin90 (g := (mkF m 56 #[.val (.int p0), .val (.int p1), .unset, .unset, .unset, .unset, .unset, .unset] [(.int (248 : Int32)), (.int (8 : Int32)), (.ref b54), (.ref b54)])) rfl rfl (hb hby at_56)
  refine own_pre st90 ?_
  have f91x := Arv.set Ar90 q90 S90 M90 H90 G90 (show fits .int (.int (248 : Int32)) = true from rfl) W90 8 rfl (Nat.le_of_ble_eq_true rfl)
  have f91 : Arv Z h90 b54 k54 .int (28 : Int32) [(.int (65 : Int32)), (.int (90 : Int32)), (.int (97 : Int32)), (.int (122 : Int32)), (.int (192 : Int32)), (.int (214 : Int32)), (.int (216 : Int32)), (.int (246 : Int32)), (.int (248 : Int32)), (.int (0 : Int32)), (.int (0 : Int32)), (.int (0 : Int32)), (.int (0 : Int32)), (.int (0 : Int32)), (.int (0 : Int32)), (.int (0 : Int32)), (.int (0 : Int32)), (.int (0 : Int32)), (.int (0 : Int32)), (.int (0 : Int32)), (.int (0 : Int32)), (.int (0 : Int32)), (.int (0 : Int32)), (.int (0 : Int32)), (.int (0 : Int32)), (.int (0 : Int32)), (.int (0 : Int32)), (.int (0 : Int32))] (.int (0 : Int32)) := f91x
  have N92 := Fr.snoc X90 N88 L55
  obtain ⟨LL90, X90, N92⟩ := own_hide X90 N92
  have Zn93 : n0 ≤ h90.size := by rw [W90.size]; exact Zn89
  show own_Ends _ _ _ _ (T90.setTop (mkF m 57 #[.val (.int p0), .val (.int p1), .unset, .unset, .unset, .unset, .unset, .unset] [(.ref b54)]))
  refine own_pre (fun t k => XS.dup X90.here hx rfl (hb hby at_57) rfl rfl k) ?_
  show own_Ends _ _ _ _ (T90.setTop (mkF m 58 #[.val (.int p0), .val (.int p1), .unset, .unset, .unset, .unset, .unset, .unset] [(.ref b54), (.ref b54)]))
  refine own_pre (fun t k => XS.bipush X90.here hx rfl (hb hby at_58) k) ?_
  show own_Ends _ _ _ _ (T90.setTop (mkF m 60 #[.val (.int p0), .val (.int p1), .unset, .unset, .unset, .unset, .unset, .unset] [(.int (9 : Int32)), (.ref b54), (.ref b54)]))
  refine own_pre (fun t k => XS.sipush X90.here hx rfl (hb hby at_60) k) ?_
  show own_Ends _ _ _ _ (T90.setTop (mkF m 63 #[.val (.int p0), .val (.int p1), .unset, .unset, .unset, .unset, .unset, .unset] [(.int (767 : Int32)), (.int (9 : Int32)), (.ref b54), (.ref b54)]))
  obtain ⟨cl94, Ar94, q94, S94, M94, H94, G94⟩ := id (f91)
  have hin94 : ¬ ((9 : Int32) < 0 ∨ cl94.slots.size ≤ ((9 : Int32)).toNatClampNeg) := inb_of S94 ⟨by decide, by decide⟩
  obtain ⟨T94, h94, X94, e94, W94, st94⟩ := stI X90 hx hZ e90 Ar94 (j := (9 : Int32)) hin94 (g := (mkF m 63 #[.val (.int p0), .val (.int p1), .unset, .unset, .unset, .unset, .unset, .unset] [(.int (767 : Int32)), (.int (9 : Int32)), (.ref b54), (.ref b54)])) rfl rfl (hb hby at_63)
  refine own_pre st94 ?_
  have f95x := Arv.set Ar94 q94 S94 M94 H94 G94 (show fits .int (.int (767 : Int32)) = true from rfl) W94 9 rfl (Nat.le_of_ble_eq_true rfl)
  have f95 : Arv Z h94 b54 k54 .int (28 : Int32) [(.int (65 : Int32)), (.int (90 : Int32)), (.int (97 : Int32)), (.int (122 : Int32)), (.int (192 : Int32)), (.int (214 : Int32)), (.int (216 : Int32)), (.int (246 : Int32)), (.int (248 : Int32)), (.int (767 : Int32)), (.int (0 : Int32)), (.int (0 : Int32)), (.int (0 : Int32)), (.int (0 : Int32)), (.int (0 : Int32)), (.int (0 : Int32)), (.int (0 : Int32)), (.int (0 : Int32)), (.int (0 : Int32)), (.int (0 : Int32)), (.int (0 : Int32)), (.int (0 : Int32)), (.int (0 : Int32)), (.int (0 : Int32)), (.int (0 : Int32)), (.int (0 : Int32)), (.int (0 : Int32)), (.int (0 : Int32))] (.int (0 : Int32)) := f95x
  have N96 := Fr.snoc X94 N92 L55
  obtain ⟨LL94, X94, N96⟩ := own_hide X94 N96
  have Zn97 : n0 ≤ h94.size := by rw [W94.size]; exact Zn93
  show own_Ends _ _ _ _ (T94.setTop (mkF m 64 #[.val (.int p0), .val (.int p1), .unset, .unset, .unset, .unset, .unset, .unset] [(.ref b54)]))
  refine own_pre (fun t k => XS.dup X94.here hx rfl (hb hby at_64) rfl rfl k) ?_
  show own_Ends _ _ _ _ (T94.setTop (mkF m 65 #[.val (.int p0), .val (.int p1), .unset, .unset, .unset, .unset, .unset, .unset] [(.ref b54), (.ref b54)]))
  refine own_pre (fun t k => XS.bipush X94.here hx rfl (hb hby at_65) k) ?_
  show own_Ends _ _ _ _ (T94.setTop (mkF m 67 #[.val (.int p0), .val (.int p1), .unset, .unset, .unset, .unset, .unset, .unset] [(.int (10 : Int32)), (.ref b54), (.ref b54)]))
  refine own_pre (fun t k => XS.sipush X94.here hx rfl (hb hby at_67) k) ?_
  show own_Ends _ _ _ _ (T94.setTop (mkF m 70 #[.val (.int p0), .val (.int p1), .unset, .unset, .unset, .unset, .unset, .unset] [(.int (880 : Int32)), (.int (10 : Int32)), (.ref b54), (.ref b54)]))
  obtain ⟨cl98, Ar98, q98, S98, M98, H98, G98⟩ := id (f95)
  have hin98 : ¬ ((10 : Int32) < 0 ∨ cl98.slots.size ≤ ((10 : Int32)).toNatClampNeg) := inb_of S98 ⟨by decide, by decide⟩
  obtain ⟨T98, h98, X98, e98, W98, st98⟩ := stI X94 hx hZ e94 Ar98 (j := (10 : Int32)) hin98 (g := (mkF m 70 #[.val (.int p0), .val (.int p1), .unset, .unset, .unset, .unset, .unset, .unset] [(.int (880 : Int32)), (.int (10 : Int32)), (.ref b54), (.ref b54)])) rfl rfl (hb hby at_70)
  refine own_pre st98 ?_
  have f99x := Arv.set Ar98 q98 S98 M98 H98 G98 (show fits .int (.int (880 : Int32)) = true from rfl) W98 10 rfl (Nat.le_of_ble_eq_true rfl)
  have f99 : Arv Z h98 b54 k54 .int (28 : Int32) [(.int (65 : Int32)), (.int (90 : Int32)), (.int (97 : Int32)), (.int (122 : Int32)), (.int (192 : Int32)), (.int (214 : Int32)), (.int (216 : Int32)), (.int (246 : Int32)), (.int (248 : Int32)), (.int (767 : Int32)), (.int (880 : Int32)), (.int (0 : Int32)), (.int (0 : Int32)), (.int (0 : Int32)), (.int (0 : Int32)), (.int (0 : Int32)), (.int (0 : Int32)), (.int (0 : Int32)), (.int (0 : Int32)), (.int (0 : Int32)), (.int (0 : Int32)), (.int (0 : Int32)), (.int (0 : Int32)), (.int (0 : Int32)), (.int (0 : Int32)), (.int (0 : Int32)), (.int (0 : Int32)), (.int (0 : Int32))] (.int (0 : Int32)) := f99x
  have N100 := Fr.snoc X98 N96 L55
  obtain ⟨LL98, X98, N100⟩ := own_hide X98 N100
  have Zn101 : n0 ≤ h98.size := by rw [W98.size]; exact Zn97
  show own_Ends _ _ _ _ (T98.setTop (mkF m 71 #[.val (.int p0), .val (.int p1), .unset, .unset, .unset, .unset, .unset, .unset] [(.ref b54)]))
  refine own_pre (fun t k => XS.dup X98.here hx rfl (hb hby at_71) rfl rfl k) ?_
  show own_Ends _ _ _ _ (T98.setTop (mkF m 72 #[.val (.int p0), .val (.int p1), .unset, .unset, .unset, .unset, .unset, .unset] [(.ref b54), (.ref b54)]))
  refine own_pre (fun t k => XS.bipush X98.here hx rfl (hb hby at_72) k) ?_
  show own_Ends _ _ _ _ (T98.setTop (mkF m 74 #[.val (.int p0), .val (.int p1), .unset, .unset, .unset, .unset, .unset, .unset] [(.int (11 : Int32)), (.ref b54), (.ref b54)]))
  refine own_pre (fun t k => XS.sipush X98.here hx rfl (hb hby at_74) k) ?_
  show own_Ends _ _ _ _ (T98.setTop (mkF m 77 #[.val (.int p0), .val (.int p1), .unset, .unset, .unset, .unset, .unset, .unset] [(.int (893 : Int32)), (.int (11 : Int32)), (.ref b54), (.ref b54)]))
  obtain ⟨cl102, Ar102, q102, S102, M102, H102, G102⟩ := id (f99)
  have hin102 : ¬ ((11 : Int32) < 0 ∨ cl102.slots.size ≤ ((11 : Int32)).toNatClampNeg) := inb_of S102 ⟨by decide, by decide⟩
  obtain ⟨T102, h102, X102, e102, W102, st102⟩ := stI X98 hx hZ e98 Ar102 (j := (11 : Int32)) hin102 (g := (mkF m 77 #[.val (.int p0), .val (.int p1), .unset, .unset, .unset, .unset, .unset, .unset] [(.int (893 : Int32)), (.int (11 : Int32)), (.ref b54), (.ref b54)])) rfl rfl (hb hby at_77)
  refine own_pre st102 ?_
  have f103x := Arv.set Ar102 q102 S102 M102 H102 G102 (show fits .int (.int (893 : Int32)) = true from rfl) W102 11 rfl (Nat.le_of_ble_eq_true rfl)
  have f103 : Arv Z h102 b54 k54 .int (28 : Int32) [(.int (65 : Int32)), (.int (90 : Int32)), (.int (97 : Int32)), (.int (122 : Int32)), (.int (192 : Int32)), (.int (214 : Int32)), (.int (216 : Int32)), (.int (246 : Int32)), (.int (248 : Int32)), (.int (767 : Int32)), (.int (880 : Int32)), (.int (893 : Int32)), (.int (0 : Int32)), (.int (0 : Int32)), (.int (0 : Int32)), (.int (0 : Int32)), (.int (0 : Int32)), (.int (0 : Int32)), (.int (0 : Int32)), (.int (0 : Int32)), (.int (0 : Int32)), (.int (0 : Int32)), (.int (0 : Int32)), (.int (0 : Int32)), (.int (0 : Int32)), (.int (0 : Int32)), (.int (0 : Int32)), (.int (0 : Int32))] (.int (0 : Int32)) := f103x
  have N104 := Fr.snoc X102 N100 L55
  obtain ⟨LL102, X102, N104⟩ := own_hide X102 N104
  have Zn105 : n0 ≤ h102.size := by rw [W102.size]; exact Zn101
  show own_Ends _ _ _ _ (T102.setTop (mkF m 78 #[.val (.int p0), .val (.int p1), .unset, .unset, .unset, .unset, .unset, .unset] [(.ref b54)]))
  refine own_pre (fun t k => XS.dup X102.here hx rfl (hb hby at_78) rfl rfl k) ?_
  show own_Ends _ _ _ _ (T102.setTop (mkF m 79 #[.val (.int p0), .val (.int p1), .unset, .unset, .unset, .unset, .unset, .unset] [(.ref b54), (.ref b54)]))
  refine own_pre (fun t k => XS.bipush X102.here hx rfl (hb hby at_79) k) ?_
  show own_Ends _ _ _ _ (T102.setTop (mkF m 81 #[.val (.int p0), .val (.int p1), .unset, .unset, .unset, .unset, .unset, .unset] [(.int (12 : Int32)), (.ref b54), (.ref b54)]))
  refine own_pre (fun t k => XS.sipush X102.here hx rfl (hb hby at_81) k) ?_
  show own_Ends _ _ _ _ (T102.setTop (mkF m 84 #[.val (.int p0), .val (.int p1), .unset, .unset, .unset, .unset, .unset, .unset] [(.int (895 : Int32)), (.int (12 : Int32)), (.ref b54), (.ref b54)]))
  obtain ⟨cl106, Ar106, q106, S106, M106, H106, G106⟩ := id (f103)
  have hin106 : ¬ ((12 : Int32) < 0 ∨ cl106.slots.size ≤ ((12 : Int32)).toNatClampNeg) := inb_of S106 ⟨by decide, by decide⟩
  obtain ⟨T106, h106, X106, e106, W106, st106⟩ := stI X102 hx hZ e102 Ar106 (j := (12 : Int32)) hin106 (g := (mkF m 84 #[.val (.int p0), .val (.int p1), .unset, .unset, .unset, .unset, .unset, .unset] [(.int (895 : Int32)), (.int (12 : Int32)), (.ref b54), (.ref b54)])) rfl rfl (hb hby at_84)
  refine own_pre st106 ?_
  have f107x := Arv.set Ar106 q106 S106 M106 H106 G106 (show fits .int (.int (895 : Int32)) = true from rfl) W106 12 rfl (Nat.le_of_ble_eq_true rfl)
  have f107 : Arv Z h106 b54 k54 .int (28 : Int32) [(.int (65 : Int32)), (.int (90 : Int32)), (.int (97 : Int32)), (.int (122 : Int32)), (.int (192 : Int32)), (.int (214 : Int32)), (.int (216 : Int32)), (.int (246 : Int32)), (.int (248 : Int32)), (.int (767 : Int32)), (.int (880 : Int32)), (.int (893 : Int32)), (.int (895 : Int32)), (.int (0 : Int32)), (.int (0 : Int32)), (.int (0 : Int32)), (.int (0 : Int32)), (.int (0 : Int32)), (.int (0 : Int32)), (.int (0 : Int32)), (.int (0 : Int32)), (.int (0 : Int32)), (.int (0 : Int32)), (.int (0 : Int32)), (.int (0 : Int32)), (.int (0 : Int32)), (.int (0 : Int32)), (.int (0 : Int32))] (.int (0 : Int32)) := f107x
  have N108 := Fr.snoc X106 N104 L55
  obtain ⟨LL106, X106, N108⟩ := own_hide X106 N108
  have Zn109 : n0 ≤ h106.size := by rw [W106.size]; exact Zn105
  show own_Ends _ _ _ _ (T106.setTop (mkF m 85 #[.val (.int p0), .val (.int p1), .unset, .unset, .unset, .unset, .unset, .unset] [(.ref b54)]))
  refine own_pre (fun t k => XS.dup X106.here hx rfl (hb hby at_85) rfl rfl k) ?_
  show own_Ends _ _ _ _ (T106.setTop (mkF m 86 #[.val (.int p0), .val (.int p1), .unset, .unset, .unset, .unset, .unset, .unset] [(.ref b54), (.ref b54)]))
  refine own_pre (fun t k => XS.bipush X106.here hx rfl (hb hby at_86) k) ?_
  show own_Ends _ _ _ _ (T106.setTop (mkF m 88 #[.val (.int p0), .val (.int p1), .unset, .unset, .unset, .unset, .unset, .unset] [(.int (13 : Int32)), (.ref b54), (.ref b54)]))
  refine own_pre (fun t k => XS.sipush X106.here hx rfl (hb hby at_88) k) ?_
  show own_Ends _ _ _ _ (T106.setTop (mkF m 91 #[.val (.int p0), .val (.int p1), .unset, .unset, .unset, .unset, .unset, .unset] [(.int (8191 : Int32)), (.int (13 : Int32)), (.ref b54), (.ref b54)]))
  obtain ⟨cl110, Ar110, q110, S110, M110, H110, G110⟩ := id (f107)
  have hin110 : ¬ ((13 : Int32) < 0 ∨ cl110.slots.size ≤ ((13 : Int32)).toNatClampNeg) := inb_of S110 ⟨by decide, by decide⟩
  obtain ⟨T110, h110, X110, e110, W110, st110⟩ := stI X106 hx hZ e106 Ar110 (j := (13 : Int32)) hin110 (g := (mkF m 91 #[.val (.int p0), .val (.int p1), .unset, .unset, .unset, .unset, .unset, .unset] [(.int (8191 : Int32)), (.int (13 : Int32)), (.ref b54), (.ref b54)])) rfl rfl (hb hby at_91)
  refine own_pre st110 ?_
  have f111x := Arv.set Ar110 q110 S110 M110 H110 G110 (show fits .int (.int (8191 : Int32)) = true from rfl) W110 13 rfl (Nat.le_of_ble_eq_true rfl)
  have f111 : Arv Z h110 b54 k54 .int (28 : Int32) [(.int (65 : Int32)), (.int (90 : Int32)), (.int (97 : Int32)), (.int (122 : Int32)), (.int (192 : Int32)), (.int (214 : Int32)), (.int (216 : Int32)), (.int (246 : Int32)), (.int (248 : Int32)), (.int (767 : Int32)), (.int (880 : Int32)), (.int (893 : Int32)), (.int (895 : Int32)), (.int (8191 : Int32)), (.int (0 : Int32)), (.int (0 : Int32)), (.int (0 : Int32)), (.int (0 : Int32)), (.int (0 : Int32)), (.int (0 : Int32)), (.int (0 : Int32)), (.int (0 : Int32)), (.int (0 : Int32)), (.int (0 : Int32)), (.int (0 : Int32)), (.int (0 : Int32)), (.int (0 : Int32)), (.int (0 : Int32))] (.int (0 : Int32)) := f111x
  have N112 := Fr.snoc X110 N108 L55
  obtain ⟨LL110, X110, N112⟩ := own_hide X110 N112
  have Zn113 : n0 ≤ h110.size := by rw [W110.size]; exact Zn109
  show own_Ends _ _ _ _ (T110.setTop (mkF m 92 #[.val (.int p0), .val (.int p1), .unset, .unset, .unset, .unset, .unset, .unset] [(.ref b54)]))
  refine own_pre (fun t k => XS.dup X110.here hx rfl (hb hby at_92) rfl rfl k) ?_
  show own_Ends _ _ _ _ (T110.setTop (mkF m 93 #[.val (.int p0), .val (.int p1), .unset, .unset, .unset, .unset, .unset, .unset] [(.ref b54), (.ref b54)]))
  refine own_pre (fun t k => XS.bipush X110.here hx rfl (hb hby at_93) k) ?_
  show own_Ends _ _ _ _ (T110.setTop (mkF m 95 #[.val (.int p0), .val (.int p1), .unset, .unset, .unset, .unset, .unset, .unset] [(.int (14 : Int32)), (.ref b54), (.ref b54)]))
  refine own_pre (fun t k => XS.sipush X110.here hx rfl (hb hby at_95) k) ?_
  show own_Ends _ _ _ _ (T110.setTop (mkF m 98 #[.val (.int p0), .val (.int p1), .unset, .unset, .unset, .unset, .unset, .unset] [(.int (8204 : Int32)), (.int (14 : Int32)), (.ref b54), (.ref b54)]))
  obtain ⟨cl114, Ar114, q114, S114, M114, H114, G114⟩ := id (f111)
  have hin114 : ¬ ((14 : Int32) < 0 ∨ cl114.slots.size ≤ ((14 : Int32)).toNatClampNeg) := inb_of S114 ⟨by decide, by decide⟩
  obtain ⟨T114, h114, X114, e114, W114, st114⟩ := stI X110 hx hZ e110 Ar114 (j := (14 : Int32)) hin114 (g := (mkF m 98 #[.val (.int p0), .val (.int p1), .unset, .unset, .unset, .unset, .unset, .unset] [(.int (8204 : Int32)), (.int (14 : Int32)), (.ref b54), (.ref b54)])) rfl rfl (hb hby at_98)
  refine own_pre st114 ?_
  have f115x := Arv.set Ar114 q114 S114 M114 H114 G114 (show fits .int (.int (8204 : Int32)) = true from rfl) W114 14 rfl (Nat.le_of_ble_eq_true rfl)
  have f115 : Arv Z h114 b54 k54 .int (28 : Int32) [(.int (65 : Int32)), (.int (90 : Int32)), (.int (97 : Int32)), (.int (122 : Int32)), (.int (192 : Int32)), (.int (214 : Int32)), (.int (216 : Int32)), (.int (246 : Int32)), (.int (248 : Int32)), (.int (767 : Int32)), (.int (880 : Int32)), (.int (893 : Int32)), (.int (895 : Int32)), (.int (8191 : Int32)), (.int (8204 : Int32)), (.int (0 : Int32)), (.int (0 : Int32)), (.int (0 : Int32)), (.int (0 : Int32)), (.int (0 : Int32)), (.int (0 : Int32)), (.int (0 : Int32)), (.int (0 : Int32)), (.int (0 : Int32)), (.int (0 : Int32)), (.int (0 : Int32)), (.int (0 : Int32)), (.int (0 : Int32))] (.int (0 : Int32)) := f115x
  have N116 := Fr.snoc X114 N112 L55
  obtain ⟨LL114, X114, N116⟩ := own_hide X114 N116
  have Zn117 : n0 ≤ h114.size := by rw [W114.size]; exact Zn113
  show own_Ends _ _ _ _ (T114.setTop (mkF m 99 #[.val (.int p0), .val (.int p1), .unset, .unset, .unset, .unset, .unset, .unset] [(.ref b54)]))
  refine own_pre (fun t k => XS.dup X114.here hx rfl (hb hby at_99) rfl rfl k) ?_
  show own_Ends _ _ _ _ (T114.setTop (mkF m 100 #[.val (.int p0), .val (.int p1), .unset, .unset, .unset, .unset, .unset, .unset] [(.ref b54), (.ref b54)]))
  refine own_pre (fun t k => XS.bipush X114.here hx rfl (hb hby at_100) k) ?_
  show own_Ends _ _ _ _ (T114.setTop (mkF m 102 #[.val (.int p0), .val (.int p1), .unset, .unset, .unset, .unset, .unset, .unset] [(.int (15 : Int32)), (.ref b54), (.ref b54)]))
  refine own_pre (fun t k => XS.sipush X114.here hx rfl (hb hby at_102) k) ?_
  show own_Ends _ _ _ _ (T114.setTop (mkF m 105 #[.val (.int p0), .val (.int p1), .unset, .unset, .unset, .unset, .unset, .unset] [(.int (8205 : Int32)), (.int (15 : Int32)), (.ref b54), (.ref b54)]))
  obtain ⟨cl118, Ar118, q118, S118, M118, H118, G118⟩ := id (f115)
  have hin118 : ¬ ((15 : Int32) < 0 ∨ cl118.slots.size ≤ ((15 : Int32)).toNatClampNeg) := inb_of S118 ⟨by decide, by decide⟩
  obtain ⟨T118, h118, X118, e118, W118, st118⟩ := stI X114 hx hZ e114 Ar118 (j := (15 : Int32)) hin118 (g := (mkF m 105 #[.val (.int p0), .val (.int p1), .unset, .unset, .unset, .unset, .unset, .unset] [(.int (8205 : Int32)), (.int (15 : Int32)), (.ref b54), (.ref b54)])) rfl rfl (hb hby at_105)
  refine own_pre st118 ?_
  have f119x := Arv.set Ar118 q118 S118 M118 H118 G118 (show fits .int (.int (8205 : Int32)) = true from rfl) W118 15 rfl (Nat.le_of_ble_eq_true rfl)
  have f119 : Arv Z h118 b54 k54 .int (28 : Int32) [(.int (65 : Int32)), (.int (90 : Int32)), (.int (97 : Int32)), (.int (122 : Int32)), (.int (192 : Int32)), (.int (214 : Int32)), (.int (216 : Int32)), (.int (246 : Int32)), (.int (248 : Int32)), (.int (767 : Int32)), (.int (880 : Int32)), (.int (893 : Int32)), (.int (895 : Int32)), (.int (8191 : Int32)), (.int (8204 : Int32)), (.int (8205 : Int32)), (.int (0 : Int32)), (.int (0 : Int32)), (.int (0 : Int32)), (.int (0 : Int32)), (.int (0 : Int32)), (.int (0 : Int32)), (.int (0 : Int32)), (.int (0 : Int32)), (.int (0 : Int32)), (.int (0 : Int32)), (.int (0 : Int32)), (.int (0 : Int32))] (.int (0 : Int32)) := f119x
  have N120 := Fr.snoc X118 N116 L55
  obtain ⟨LL118, X118, N120⟩ := own_hide X118 N120
  have Zn121 : n0 ≤ h118.size := by rw [W118.size]; exact Zn117
  show own_Ends _ _ _ _ (T118.setTop (mkF m 106 #[.val (.int p0), .val (.int p1), .unset, .unset, .unset, .unset, .unset, .unset] [(.ref b54)]))
  refine own_pre (fun t k => XS.dup X118.here hx rfl (hb hby at_106) rfl rfl k) ?_
  show own_Ends _ _ _ _ (T118.setTop (mkF m 107 #[.val (.int p0), .val (.int p1), .unset, .unset, .unset, .unset, .unset, .unset] [(.ref b54), (.ref b54)]))
  refine own_pre (fun t k => XS.bipush X118.here hx rfl (hb hby at_107) k) ?_
  show own_Ends _ _ _ _ (T118.setTop (mkF m 109 #[.val (.int p0), .val (.int p1), .unset, .unset, .unset, .unset, .unset, .unset] [(.int (16 : Int32)), (.ref b54), (.ref b54)]))
  refine own_pre (fun t k => XS.sipush X118.here hx rfl (hb hby at_109) k) ?_
  show own_Ends _ _ _ _ (T118.setTop (mkF m 112 #[.val (.int p0), .val (.int p1), .unset, .unset, .unset, .unset, .unset, .unset] [(.int (8304 : Int32)), (.int (16 : Int32)), (.ref b54), (.ref b54)]))
  obtain ⟨cl122, Ar122, q122, S122, M122, H122, G122⟩ := id (f119)
  have hin122 : ¬ ((16 : Int32) < 0 ∨ cl122.slots.size ≤ ((16 : Int32)).toNatClampNeg) := inb_of S122 ⟨by decide, by decide⟩
  obtain ⟨T122, h122, X122, e122, W122, st122⟩ := stI X118 hx hZ e118 Ar122 (j := (16 : Int32)) hin122 (g := (mkF m 112 #[.val (.int p0), .val (.int p1), .unset, .unset, .unset, .unset, .unset, .unset] [(.int (8304 : Int32)), (.int (16 : Int32)), (.ref b54), (.ref b54)])) rfl rfl (hb hby at_112)
  refine own_pre st122 ?_
  have f123x := Arv.set Ar122 q122 S122 M122 H122 G122 (show fits .int (.int (8304 : Int32)) = true from rfl) W122 16 rfl (Nat.le_of_ble_eq_true rfl)
  have f123 : Arv Z h122 b54 k54 .int (28 : Int32) [(.int (65 : Int32)), (.int (90 : Int32)), (.int (97 : Int32)), (.int (122 : Int32)), (.int (192 : Int32)), (.int (214 : Int32)), (.int (216 : Int32)), (.int (246 : Int32)), (.int (248 : Int32)), (.int (767 : Int32)), (.int (880 : Int32)), (.int (893 : Int32)), (.int (895 : Int32)), (.int (8191 : Int32)), (.int (8204 : Int32)), (.int (8205 : Int32)), (.int (8304 : Int32)), (.int (0 : Int32)), (.int (0 : Int32)), (.int (0 : Int32)), (.int (0 : Int32)), (.int (0 : Int32)), (.int (0 : Int32)), (.int (0 : Int32)), (.int (0 : Int32)), (.int (0 : Int32)), (.int (0 : Int32)), (.int (0 : Int32))] (.int (0 : Int32)) := f123x
  have N124 := Fr.snoc X122 N120 L55
  obtain ⟨LL122, X122, N124⟩ := own_hide X122 N124
  have Zn125 : n0 ≤ h122.size := by rw [W122.size]; exact Zn121
  show own_Ends _ _ _ _ (T122.setTop (mkF m 113 #[.val (.int p0), .val (.int p1), .unset, .unset, .unset, .unset, .unset, .unset] [(.ref b54)]))
  refine own_pre (fun t k => XS.dup X122.here hx rfl (hb hby at_113) rfl rfl k) ?_
  show own_Ends _ _ _ _ (T122.setTop (mkF m 114 #[.val (.int p0), .val (.int p1), .unset, .unset, .unset, .unset, .unset, .unset] [(.ref b54), (.ref b54)]))
  refine own_pre (fun t k => XS.bipush X122.here hx rfl (hb hby at_114) k) ?_
  show own_Ends _ _ _ _ (T122.setTop (mkF m 116 #[.val (.int p0), .val (.int p1), .unset, .unset, .unset, .unset, .unset, .unset] [(.int (17 : Int32)), (.ref b54), (.ref b54)]))
  refine own_pre (fun t k => XS.sipush X122.here hx rfl (hb hby at_116) k) ?_
  show own_Ends _ _ _ _ (T122.setTop (mkF m 119 #[.val (.int p0), .val (.int p1), .unset, .unset, .unset, .unset, .unset, .unset] [(.int (8591 : Int32)), (.int (17 : Int32)), (.ref b54), (.ref b54)]))
  obtain ⟨cl126, Ar126, q126, S126, M126, H126, G126⟩ := id (f123)
  have hin126 : ¬ ((17 : Int32) < 0 ∨ cl126.slots.size ≤ ((17 : Int32)).toNatClampNeg) := inb_of S126 ⟨by decide, by decide⟩
  obtain ⟨T126, h126, X126, e126, W126, st126⟩ := stI X122 hx hZ e122 Ar126 (j := (17 : Int32)) hin126 (g := (mkF m 119 #[.val (.int p0), .val (.int p1), .unset, .unset, .unset, .unset, .unset, .unset] [(.int (8591 : Int32)), (.int (17 : Int32)), (.ref b54), (.ref b54)])) rfl rfl (hb hby at_119)
  refine own_pre st126 ?_
  have f127x := Arv.set Ar126 q126 S126 M126 H126 G126 (show fits .int (.int (8591 : Int32)) = true from rfl) W126 17 rfl (Nat.le_of_ble_eq_true rfl)
  have f127 : Arv Z h126 b54 k54 .int (28 : Int32) [(.int (65 : Int32)), (.int (90 : Int32)), (.int (97 : Int32)), (.int (122 : Int32)), (.int (192 : Int32)), (.int (214 : Int32)), (.int (216 : Int32)), (.int (246 : Int32)), (.int (248 : Int32)), (.int (767 : Int32)), (.int (880 : Int32)), (.int (893 : Int32)), (.int (895 : Int32)), (.int (8191 : Int32)), (.int (8204 : Int32)), (.int (8205 : Int32)), (.int (8304 : Int32)), (.int (8591 : Int32)), (.int (0 : Int32)), (.int (0 : Int32)), (.int (0 : Int32)), (.int (0 : Int32)), (.int (0 : Int32)), (.int (0 : Int32)), (.int (0 : Int32)), (.int (0 : Int32)), (.int (0 : Int32)), (.int (0 : Int32))] (.int (0 : Int32)) := f127x
  have N128 := Fr.snoc X126 N124 L55
  obtain ⟨LL126, X126, N128⟩ := own_hide X126 N128
  have Zn129 : n0 ≤ h126.size := by rw [W126.size]; exact Zn125
  show own_Ends _ _ _ _ (T126.setTop (mkF m 120 #[.val (.int p0), .val (.int p1), .unset, .unset, .unset, .unset, .unset, .unset] [(.ref b54)]))
  refine own_pre (fun t k => XS.dup X126.here hx rfl (hb hby at_120) rfl rfl k) ?_
  show own_Ends _ _ _ _ (T126.setTop (mkF m 121 #[.val (.int p0), .val (.int p1), .unset, .unset, .unset, .unset, .unset, .unset] [(.ref b54), (.ref b54)]))
  refine own_pre (fun t k => XS.bipush X126.here hx rfl (hb hby at_121) k) ?_
  show own_Ends _ _ _ _ (T126.setTop (mkF m 123 #[.val (.int p0), .val (.int p1), .unset, .unset, .unset, .unset, .unset, .unset] [(.int (18 : Int32)), (.ref b54), (.ref b54)]))
  refine own_pre (fun t k => XS.sipush X126.here hx rfl (hb hby at_123) k) ?_
  show own_Ends _ _ _ _ (T126.setTop (mkF m 126 #[.val (.int p0), .val (.int p1), .unset, .unset, .unset, .unset, .unset, .unset] [(.int (11264 : Int32)), (.int (18 : Int32)), (.ref b54), (.ref b54)]))
  obtain ⟨cl130, Ar130, q130, S130, M130, H130, G130⟩ := id (f127)
  have hin130 : ¬ ((18 : Int32) < 0 ∨ cl130.slots.size ≤ ((18 : Int32)).toNatClampNeg) := inb_of S130 ⟨by decide, by decide⟩
  obtain ⟨T130, h130, X130, e130, W130, st130⟩ := stI X126 hx hZ e126 Ar130 (j := (18 : Int32)) hin130 (g := (mkF m 126 #[.val (.int p0), .val (.int p1), .unset, .unset, .unset, .unset, .unset, .unset] [(.int (11264 : Int32)), (.int (18 : Int32)), (.ref b54), (.ref b54)])) rfl rfl (hb hby at_126)
  refine own_pre st130 ?_
  have f131x := Arv.set Ar130 q130 S130 M130 H130 G130 (show fits .int (.int (11264 : Int32)) = true from rfl) W130 18 rfl (Nat.le_of_ble_eq_true rfl)
  have f131 : Arv Z h130 b54 k54 .int (28 : Int32) [(.int (65 : Int32)), (.int (90 : Int32)), (.int (97 : Int32)), (.int (122 : Int32)), (.int (192 : Int32)), (.int (214 : Int32)), (.int (216 : Int32)), (.int (246 : Int32)), (.int (248 : Int32)), (.int (767 : Int32)), (.int (880 : Int32)), (.int (893 : Int32)), (.int (895 : Int32)), (.int (8191 : Int32)), (.int (8204 : Int32)), (.int (8205 : Int32)), (.int (8304 : Int32)), (.int (8591 : Int32)), (.int (11264 : Int32)), (.int (0 : Int32)), (.int (0 : Int32)), (.int (0 : Int32)), (.int (0 : Int32)), (.int (0 : Int32)), (.int (0 : Int32)), (.int (0 : Int32)), (.int (0 : Int32)), (.int (0 : Int32))] (.int (0 : Int32)) := f131x
  have N132 := Fr.snoc X130 N128 L55
  obtain ⟨LL130, X130, N132⟩ := own_hide X130 N132
  have Zn133 : n0 ≤ h130.size := by rw [W130.size]; exact Zn129
  show own_Ends _ _ _ _ (T130.setTop (mkF m 127 #[.val (.int p0), .val (.int p1), .unset, .unset, .unset, .unset, .unset, .unset] [(.ref b54)]))
  refine own_pre (fun t k => XS.dup X130.here hx rfl (hb hby at_127) rfl rfl k) ?_
  show own_Ends _ _ _ _ (T130.setTop (mkF m 128 #[.val (.int p0), .val (.int p1), .unset, .unset, .unset, .unset, .unset, .unset] [(.ref b54), (.ref b54)]))
  refine own_pre (fun t k => XS.bipush X130.here hx rfl (hb hby at_128) k) ?_
  show own_Ends _ _ _ _ (T130.setTop (mkF m 130 #[.val (.int p0), .val (.int p1), .unset, .unset, .unset, .unset, .unset, .unset] [(.int (19 : Int32)), (.ref b54), (.ref b54)]))
  refine own_pre (fun t k => XS.sipush X130.here hx rfl (hb hby at_130) k) ?_
  show own_Ends _ _ _ _ (T130.setTop (mkF m 133 #[.val (.int p0), .val (.int p1), .unset, .unset, .unset, .unset, .unset, .unset] [(.int (12271 : Int32)), (.int (19 : Int32)), (.ref b54), (.ref b54)]))
  obtain ⟨cl134, Ar134, q134, S134, M134, H134, G134⟩ := id (f131)
  have hin134 : ¬ ((19 : Int32) < 0 ∨ cl134.slots.size ≤ ((19 : Int32)).toNatClampNeg) := inb_of S134 ⟨by decide, by decide⟩
  obtain ⟨T134, h134, X134, e134, W134, st134⟩ := stI X130 hx hZ e130 Ar134 (j := (19 : Int32)) hin134 (g := (mkF m 133 #[.val (.int p0), .val (.int p1), .unset, .unset, .unset, .unset, .unset, .unset] [(.int (12271 : Int32)), (.int (19 : Int32)), (.ref b54), (.ref b54)])) rfl rfl (hb hby at_133)
  refine own_pre st134 ?_
  have f135x := Arv.set Ar134 q134 S134 M134 H134 G134 (show fits .int (.int (12271 : Int32)) = true from rfl) W134 19 rfl (Nat.le_of_ble_eq_true rfl)
  have f135 : Arv Z h134 b54 k54 .int (28 : Int32) [(.int (65 : Int32)), (.int (90 : Int32)), (.int (97 : Int32)), (.int (122 : Int32)), (.int (192 : Int32)), (.int (214 : Int32)), (.int (216 : Int32)), (.int (246 : Int32)), (.int (248 : Int32)), (.int (767 : Int32)), (.int (880 : Int32)), (.int (893 : Int32)), (.int (895 : Int32)), (.int (8191 : Int32)), (.int (8204 : Int32)), (.int (8205 : Int32)), (.int (8304 : Int32)), (.int (8591 : Int32)), (.int (11264 : Int32)), (.int (12271 : Int32)), (.int (0 : Int32)), (.int (0 : Int32)), (.int (0 : Int32)), (.int (0 : Int32)), (.int (0 : Int32)), (.int (0 : Int32)), (.int (0 : Int32)), (.int (0 : Int32))] (.int (0 : Int32)) := f135x
  have N136 := Fr.snoc X134 N132 L55
  obtain ⟨LL134, X134, N136⟩ := own_hide X134 N136
  have Zn137 : n0 ≤ h134.size := by rw [W134.size]; exact Zn133
  show own_Ends _ _ _ _ (T134.setTop (mkF m 134 #[.val (.int p0), .val (.int p1), .unset, .unset, .unset, .unset, .unset, .unset] [(.ref b54)]))
  refine own_pre (fun t k => XS.dup X134.here hx rfl (hb hby at_134) rfl rfl k) ?_
  show own_Ends _ _ _ _ (T134.setTop (mkF m 135 #[.val (.int p0), .val (.int p1), .unset, .unset, .unset, .unset, .unset, .unset] [(.ref b54), (.ref b54)]))
  refine own_pre (fun t k => XS.bipush X134.here hx rfl (hb hby at_135) k) ?_
  show own_Ends _ _ _ _ (T134.setTop (mkF m 137 #[.val (.int p0), .val (.int p1), .unset, .unset, .unset, .unset, .unset, .unset] [(.int (20 : Int32)), (.ref b54), (.ref b54)]))
  refine own_pre (fun t k => XS.sipush X134.here hx rfl (hb hby at_137) k) ?_
  show own_Ends _ _ _ _ (T134.setTop (mkF m 140 #[.val (.int p0), .val (.int p1), .unset, .unset, .unset, .unset, .unset, .unset] [(.int (12289 : Int32)), (.int (20 : Int32)), (.ref b54), (.ref b54)]))
  obtain ⟨cl138, Ar138, q138, S138, M138, H138, G138⟩ := id (f135)
  have hin138 : ¬ ((20 : Int32) < 0 ∨ cl138.slots.size ≤ ((20 : Int32)).toNatClampNeg) := inb_of S138 ⟨by decide, by decide⟩
  obtain ⟨T138, h138, X138, e138, W138, st138⟩ := stI X134 hx hZ e134 Ar138 (j := (20 : Int32)) hin138 (g := (mkF m 140 #[.val (.int p0), .val (.int p1), .unset, .unset, .unset, .unset, .unset, .unset] [(.int (12289 : Int32)), (.int (20 : Int32)), (.ref b54), (.ref b54)])) rfl rfl (hb hby at_140)
  refine own_pre st138 ?_
  have f139x := Arv.set Ar138 q138 S138 M138 H138 G138 (show fits .int (.int (12289 : Int32)) = true from rfl) W138 20 rfl (Nat.le_of_ble_eq_true rfl)
  have f139 : Arv Z h138 b54 k54 .int (28 : Int32) [(.int (65 : Int32)), (.int (90 : Int32)), (.int (97 : Int32)), (.int (122 : Int32)), (.int (192 : Int32)), (.int (214 : Int32)), (.int (216 : Int32)), (.int (246 : Int32)), (.int (248 : Int32)), (.int (767 : Int32)), (.int (880 : Int32)), (.int (893 : Int32)), (.int (895 : Int32)), (.int (8191 : Int32)), (.int (8204 : Int32)), (.int (8205 : Int32)), (.int (8304 : Int32)), (.int (8591 : Int32)), (.int (11264 : Int32)), (.int (12271 : Int32)), (.int (12289 : Int32)), (.int (0 : Int32)), (.int (0 : Int32)), (.int (0 : Int32)), (.int (0 : Int32)), (.int (0 : Int32)), (.int (0 : Int32)), (.int (0 : Int32))] (.int (0 : Int32)) := f139x
  have N140 := Fr.snoc X138 N136 L55
  obtain ⟨LL138, X138, N140⟩ := own_hide X138 N140
  have Zn141 : n0 ≤ h138.size := by rw [W138.size]; exact Zn137
  show own_Ends _ _ _ _ (T138.setTop (mkF m 141 #[.val (.int p0), .val (.int p1), .unset, .unset, .unset, .unset, .unset, .unset] [(.ref b54)]))
  refine own_pre (fun t k => XS.dup X138.here hx rfl (hb hby at_141) rfl rfl k) ?_
  show own_Ends _ _ _ _ (T138.setTop (mkF m 142 #[.val (.int p0), .val (.int p1), .unset, .unset, .unset, .unset, .unset, .unset] [(.ref b54), (.ref b54)]))
  refine own_pre (fun t k => XS.bipush X138.here hx rfl (hb hby at_142) k) ?_
  show own_Ends _ _ _ _ (T138.setTop (mkF m 144 #[.val (.int p0), .val (.int p1), .unset, .unset, .unset, .unset, .unset, .unset] [(.int (21 : Int32)), (.ref b54), (.ref b54)]))
  refine own_pre (fun t k => X138.ldcInt hx hown (mvT hZ (hw _ (List.mem_of_getElem? (i := 1) rfl))) (g := (mkF m 144 #[.val (.int p0), .val (.int p1), .unset, .unset, .unset, .unset, .unset, .unset] [(.int (21 : Int32)), (.ref b54), (.ref b54)])) rfl (hb hby at_144) _ k) ?_
  show own_Ends _ _ _ _ (T138.setTop (mkF m 146 #[.val (.int p0), .val (.int p1), .unset, .unset, .unset, .unset, .unset, .unset] [(.int (55295 : Int32)), (.int (21 : Int32)), (.ref b54), (.ref b54)]))
  obtain ⟨cl142, Ar142, q142, S142, M142, H142, G142⟩ := id (f139)
  have hin142 : ¬ ((21 : Int32) < 0 ∨ cl142.slots.size ≤ ((21 : Int32)).toNatClampNeg) := inb_of S142 ⟨by decide, by decide⟩
  obtain ⟨T142, h142, X142, e142, W142, st142⟩ := stI X138 hx hZ e138 Ar142 (j := (21 : Int32)) hin142 (g := (mkF m 146 #[.val (.int p0), .val (.int p1), .unset, .unset, .unset, .unset, .unset, .unset] [(.int (55295 : Int32)), (.int (21 : Int32)), (.ref b54), (.ref b54)])) rfl rfl (hb hby at_146)
  refine own_pre st142 ?_
  have f143x := Arv.set Ar142 q142 S142 M142 H142 G142 (show fits .int (.int (55295 : Int32)) = true from rfl) W142 21 rfl (Nat.le_of_ble_eq_true rfl)
  have f143 : Arv Z h142 b54 k54 .int (28 : Int32) [(.int (65 : Int32)), (.int (90 : Int32)), (.int (97 : Int32)), (.int (122 : Int32)), (.int (192 : Int32)), (.int (214 : Int32)), (.int (216 : Int32)), (.int (246 : Int32)), (.int (248 : Int32)), (.int (767 : Int32)), (.int (880 : Int32)), (.int (893 : Int32)), (.int (895 : Int32)), (.int (8191 : Int32)), (.int (8204 : Int32)), (.int (8205 : Int32)), (.int (8304 : Int32)), (.int (8591 : Int32)), (.int (11264 : Int32)), (.int (12271 : Int32)), (.int (12289 : Int32)), (.int (55295 : Int32)), (.int (0 : Int32)), (.int (0 : Int32)), (.int (0 : Int32)), (.int (0 : Int32)), (.int (0 : Int32)), (.int (0 : Int32))] (.int (0 : Int32)) := f143x
  have N144 := Fr.snoc X142 N140 L55
  obtain ⟨LL142, X142, N144⟩ := own_hide X142 N144
  have Zn145 : n0 ≤ h142.size := by rw [W142.size]; exact Zn141
  show own_Ends _ _ _ _ (T142.setTop (mkF m 147 #[.val (.int p0), .val (.int p1), .unset, .unset, .unset, .unset, .unset, .unset] [(.ref b54)]))
  refine own_pre (fun t k => XS.dup X142.here hx rfl (hb hby at_147) rfl rfl k) ?_
  show own_Ends _ _ _ _ (T142.setTop (mkF m 148 #[.val (.int p0), .val (.int p1), .unset, .unset, .unset, .unset, .unset, .unset] [(.ref b54), (.ref b54)]))
  refine own_pre (fun t k => XS.bipush X142.here hx rfl (hb hby at_148) k) ?_
  show own_Ends _ _ _ _ (T142.setTop (mkF m 150 #[.val (.int p0), .val (.int p1), .unset, .unset, .unset, .unset, .unset, .unset] [(.int (22 : Int32)), (.ref b54), (.ref b54)]))
  refine own_pre (fun t k => X142.ldcInt hx hown (mvT hZ (hw _ (List.mem_of_getElem? (i := 2) rfl))) (g := (mkF m 150 #[.val (.int p0), .val (.int p1), .unset, .unset, .unset, .unset, .unset, .unset] [(.int (22 : Int32)), (.ref b54), (.ref b54)])) rfl (hb hby at_150) _ k) ?_
  show own_Ends _ _ _ _ (T142.setTop (mkF m 152 #[.val (.int p0), .val (.int p1), .unset, .unset, .unset, .unset, .unset, .unset] [(.int (63744 : Int32)), (.int (22 : Int32)), (.ref b54), (.ref b54)]))
  obtain ⟨cl146, Ar146, q146, S146, M146, H146, G146⟩ := id (f143)
  have hin146 : ¬ ((22 : Int32) < 0 ∨ cl146.slots.size ≤ ((22 : Int32)).toNatClampNeg) := inb_of S146 ⟨by decide, by decide⟩
  obtain ⟨T146, h146, X146, e146, W146, st146⟩ := stI X142 hx hZ e142 Ar146 (j := (22 : Int32)) hin146 (g := (mkF m 152 #[.val (.int p0), .val (.int p1), .unset, .unset, .unset, .unset, .unset, .unset] [(.int (63744 : Int32)), (.int (22 : Int32)), (.ref b54), (.ref b54)])) rfl rfl (hb hby at_152)
  refine own_pre st146 ?_
  have f147x := Arv.set Ar146 q146 S146 M146 H146 G146 (show fits .int (.int (63744 : Int32)) = true from rfl) W146 22 rfl (Nat.le_of_ble_eq_true rfl)
  have f147 : Arv Z h146 b54 k54 .int (28 : Int32) [(.int (65 : Int32)), (.int (90 : Int32)), (.int (97 : Int32)), (.int (122 : Int32)), (.int (192 : Int32)), (.int (214 : Int32)), (.int (216 : Int32)), (.int (246 : Int32)), (.int (248 : Int32)), (.int (767 : Int32)), (.int (880 : Int32)), (.int (893 : Int32)), (.int (895 : Int32)), (.int (8191 : Int32)), (.int (8204 : Int32)), (.int (8205 : Int32)), (.int (8304 : Int32)), (.int (8591 : Int32)), (.int (11264 : Int32)), (.int (12271 : Int32)), (.int (12289 : Int32)), (.int (55295 : Int32)), (.int (63744 : Int32)), (.int (0 : Int32)), (.int (0 : Int32)), (.int (0 : Int32)), (.int (0 : Int32)), (.int (0 : Int32))] (.int (0 : Int32)) := f147x
  have N148 := Fr.snoc X146 N144 L55
  obtain ⟨LL146, X146, N148⟩ := own_hide X146 N148
  have Zn149 : n0 ≤ h146.size := by rw [W146.size]; exact Zn145
  show own_Ends _ _ _ _ (T146.setTop (mkF m 153 #[.val (.int p0), .val (.int p1), .unset, .unset, .unset, .unset, .unset, .unset] [(.ref b54)]))
  refine own_pre (fun t k => XS.dup X146.here hx rfl (hb hby at_153) rfl rfl k) ?_
  show own_Ends _ _ _ _ (T146.setTop (mkF m 154 #[.val (.int p0), .val (.int p1), .unset, .unset, .unset, .unset, .unset, .unset] [(.ref b54), (.ref b54)]))
  refine own_pre (fun t k => XS.bipush X146.here hx rfl (hb hby at_154) k) ?_
  show own_Ends _ _ _ _ (T146.setTop (mkF m 156 #[.val (.int p0), .val (.int p1), .unset, .unset, .unset, .unset, .unset, .unset] [(.int (23 : Int32)), (.ref b54), (.ref b54)]))
  refine own_pre (fun t k => X146.ldcInt hx hown (mvT hZ (hw _ (List.mem_of_getElem? (i := 3) rfl))) (g := (mkF m 156 #[.val (.int p0), .val (.int p1), .unset, .unset, .unset, .unset, .unset, .unset] [(.int (23 : Int32)), (.ref b54), (.ref b54)])) rfl (hb hby at_156) _ k) ?_
  show own_Ends _ _ _ _ (T146.setTop (mkF m 158 #[.val (.int p0), .val (.int p1), .unset, .unset, .unset, .unset, .unset, .unset] [(.int (64975 : Int32)), (.int (23 : Int32)), (.ref b54), (.ref b54)]))
  obtain ⟨cl150, Ar150, q150, S150, M150, H150, G150⟩ := id (f147)
  have hin150 : ¬ ((23 : Int32) < 0 ∨ cl150.slots.size ≤ ((23 : Int32)).toNatClampNeg) := inb_of S150 ⟨by decide, by decide⟩
  obtain ⟨T150, h150, X150, e150, W150, st150⟩ := stI X146 hx hZ e146 Ar150 (j := (23 : Int32)) hin150 (g := (mkF m 158 #[.val (.int p0), .val (.int p1), .unset, .unset, .unset, .unset, .unset, .unset] [(.int (64975 : Int32)), (.int (23 : Int32)), (.ref b54), (.ref b54)])) rfl rfl (hb hby at_158)
  refine own_pre st150 ?_
  have f151x := Arv.set Ar150 q150 S150 M150 H150 G150 (show fits .int (.int (64975 : Int32)) = true from rfl) W150 23 rfl (Nat.le_of_ble_eq_true rfl)
  have f151 : Arv Z h150 b54 k54 .int (28 : Int32) [(.int (65 : Int32)), (.int (90 : Int32)), (.int (97 : Int32)), (.int (122 : Int32)), (.int (192 : Int32)), (.int (214 : Int32)), (.int (216 : Int32)), (.int (246 : Int32)), (.int (248 : Int32)), (.int (767 : Int32)), (.int (880 : Int32)), (.int (893 : Int32)), (.int (895 : Int32)), (.int (8191 : Int32)), (.int (8204 : Int32)), (.int (8205 : Int32)), (.int (8304 : Int32)), (.int (8591 : Int32)), (.int (11264 : Int32)), (.int (12271 : Int32)), (.int (12289 : Int32)), (.int (55295 : Int32)), (.int (63744 : Int32)), (.int (64975 : Int32)), (.int (0 : Int32)), (.int (0 : Int32)), (.int (0 : Int32)), (.int (0 : Int32))] (.int (0 : Int32)) := f151x
  have N152 := Fr.snoc X150 N148 L55
  obtain ⟨LL150, X150, N152⟩ := own_hide X150 N152
  have Zn153 : n0 ≤ h150.size := by rw [W150.size]; exact Zn149
  show own_Ends _ _ _ _ (T150.setTop (mkF m 159 #[.val (.int p0), .val (.int p1), .unset, .unset, .unset, .unset, .unset, .unset] [(.ref b54)]))
  refine own_pre (fun t k => XS.dup X150.here hx rfl (hb hby at_159) rfl rfl k) ?_
  show own_Ends _ _ _ _ (T150.setTop (mkF m 160 #[.val (.int p0), .val (.int p1), .unset, .unset, .unset, .unset, .unset, .unset] [(.ref b54), (.ref b54)]))
  refine own_pre (fun t k => XS.bipush X150.here hx rfl (hb hby at_160) k) ?_
  show own_Ends _ _ _ _ (T150.setTop (mkF m 162 #[.val (.int p0), .val (.int p1), .unset, .unset, .unset, .unset, .unset, .unset] [(.int (24 : Int32)), (.ref b54), (.ref b54)]))
  refine own_pre (fun t k => X150.ldcInt hx hown (mvT hZ (hw _ (List.mem_of_getElem? (i := 4) rfl))) (g := (mkF m 162 #[.val (.int p0), .val (.int p1), .unset, .unset, .unset, .unset, .unset, .unset] [(.int (24 : Int32)), (.ref b54), (.ref b54)])) rfl (hb hby at_162) _ k) ?_
  show own_Ends _ _ _ _ (T150.setTop (mkF m 164 #[.val (.int p0), .val (.int p1), .unset, .unset, .unset, .unset, .unset, .unset] [(.int (65008 : Int32)), (.int (24 : Int32)), (.ref b54), (.ref b54)]))
  obtain ⟨cl154, Ar154, q154, S154, M154, H154, G154⟩ := id (f151)
  have hin154 : ¬ ((24 : Int32) < 0 ∨ cl154.slots.size ≤ ((24 : Int32)).toNatClampNeg) := inb_of S154 ⟨by decide, by decide⟩
  obtain ⟨T154, h154, X154, e154, W154, st154⟩ := stI X150 hx hZ e150 Ar154 (j := (24 : Int32)) hin154 (g := (mkF m 164 #[.val (.int p0), .val (.int p1), .unset, .unset, .unset, .unset, .unset, .unset] [(.int (65008 : Int32)), (.int (24 : Int32)), (.ref b54), (.ref b54)])) rfl rfl (hb hby at_164)
  refine own_pre st154 ?_
  have f155x := Arv.set Ar154 q154 S154 M154 H154 G154 (show fits .int (.int (65008 : Int32)) = true from rfl) W154 24 rfl (Nat.le_of_ble_eq_true rfl)
  have f155 : Arv Z h154 b54 k54 .int (28 : Int32) [(.int (65 : Int32)), (.int (90 : Int32)), (.int (97 : Int32)), (.int (122 : Int32)), (.int (192 : Int32)), (.int (214 : Int32)), (.int (216 : Int32)), (.int (246 : Int32)), (.int (248 : Int32)), (.int (767 : Int32)), (.int (880 : Int32)), (.int (893 : Int32)), (.int (895 : Int32)), (.int (8191 : Int32)), (.int (8204 : Int32)), (.int (8205 : Int32)), (.int (8304 : Int32)), (.int (8591 : Int32)), (.int (11264 : Int32)), (.int (12271 : Int32)), (.int (12289 : Int32)), (.int (55295 : Int32)), (.int (63744 : Int32)), (.int (64975 : Int32)), (.int (65008 : Int32)), (.int (0 : Int32)), (.int (0 : Int32)), (.int (0 : Int32))] (.int (0 : Int32)) := f155x
  have N156 := Fr.snoc X154 N152 L55
  obtain ⟨LL154, X154, N156⟩ := own_hide X154 N156
  have Zn157 : n0 ≤ h154.size := by rw [W154.size]; exact Zn153
  show own_Ends _ _ _ _ (T154.setTop (mkF m 165 #[.val (.int p0), .val (.int p1), .unset, .unset, .unset, .unset, .unset, .unset] [(.ref b54)]))
  refine own_pre (fun t k => XS.dup X154.here hx rfl (hb hby at_165) rfl rfl k) ?_
  show own_Ends _ _ _ _ (T154.setTop (mkF m 166 #[.val (.int p0), .val (.int p1), .unset, .unset, .unset, .unset, .unset, .unset] [(.ref b54), (.ref b54)]))
  refine own_pre (fun t k => XS.bipush X154.here hx rfl (hb hby at_166) k) ?_
  show own_Ends _ _ _ _ (T154.setTop (mkF m 168 #[.val (.int p0), .val (.int p1), .unset, .unset, .unset, .unset, .unset, .unset] [(.int (25 : Int32)), (.ref b54), (.ref b54)]))
  refine own_pre (fun t k => X154.ldcInt hx hown (mvT hZ (hw _ (List.mem_of_getElem? (i := 5) rfl))) (g := (mkF m 168 #[.val (.int p0), .val (.int p1), .unset, .unset, .unset, .unset, .unset, .unset] [(.int (25 : Int32)), (.ref b54), (.ref b54)])) rfl (hb hby at_168) _ k) ?_
  show own_Ends _ _ _ _ (T154.setTop (mkF m 170 #[.val (.int p0), .val (.int p1), .unset, .unset, .unset, .unset, .unset, .unset] [(.int (65533 : Int32)), (.int (25 : Int32)), (.ref b54), (.ref b54)]))
  obtain ⟨cl158, Ar158, q158, S158, M158, H158, G158⟩ := id (f155)
  have hin158 : ¬ ((25 : Int32) < 0 ∨ cl158.slots.size ≤ ((25 : Int32)).toNatClampNeg) := inb_of S158 ⟨by decide, by decide⟩
  obtain ⟨T158, h158, X158, e158, W158, st158⟩ := stI X154 hx hZ e154 Ar158 (j := (25 : Int32)) hin158 (g := (mkF m 170 #[.val (.int p0), .val (.int p1), .unset, .unset, .unset, .unset, .unset, .unset] [(.int (65533 : Int32)), (.int (25 : Int32)), (.ref b54), (.ref b54)])) rfl rfl (hb hby at_170)
  refine own_pre st158 ?_
  have f159x := Arv.set Ar158 q158 S158 M158 H158 G158 (show fits .int (.int (65533 : Int32)) = true from rfl) W158 25 rfl (Nat.le_of_ble_eq_true rfl)
  have f159 : Arv Z h158 b54 k54 .int (28 : Int32) [(.int (65 : Int32)), (.int (90 : Int32)), (.int (97 : Int32)), (.int (122 : Int32)), (.int (192 : Int32)), (.int (214 : Int32)), (.int (216 : Int32)), (.int (246 : Int32)), (.int (248 : Int32)), (.int (767 : Int32)), (.int (880 : Int32)), (.int (893 : Int32)), (.int (895 : Int32)), (.int (8191 : Int32)), (.int (8204 : Int32)), (.int (8205 : Int32)), (.int (8304 : Int32)), (.int (8591 : Int32)), (.int (11264 : Int32)), (.int (12271 : Int32)), (.int (12289 : Int32)), (.int (55295 : Int32)), (.int (63744 : Int32)), (.int (64975 : Int32)), (.int (65008 : Int32)), (.int (65533 : Int32)), (.int (0 : Int32)), (.int (0 : Int32))] (.int (0 : Int32)) := f159x
  have N160 := Fr.snoc X158 N156 L55
  obtain ⟨LL158, X158, N160⟩ := own_hide X158 N160
  have Zn161 : n0 ≤ h158.size := by rw [W158.size]; exact Zn157
  show own_Ends _ _ _ _ (T158.setTop (mkF m 171 #[.val (.int p0), .val (.int p1), .unset, .unset, .unset, .unset, .unset, .unset] [(.ref b54)]))
  refine own_pre (fun t k => XS.dup X158.here hx rfl (hb hby at_171) rfl rfl k) ?_
  show own_Ends _ _ _ _ (T158.setTop (mkF m 172 #[.val (.int p0), .val (.int p1), .unset, .unset, .unset, .unset, .unset, .unset] [(.ref b54), (.ref b54)]))
  refine own_pre (fun t k => XS.bipush X158.here hx rfl (hb hby at_172) k) ?_
  show own_Ends _ _ _ _ (T158.setTop (mkF m 174 #[.val (.int p0), .val (.int p1), .unset, .unset, .unset, .unset, .unset, .unset] [(.int (26 : Int32)), (.ref b54), (.ref b54)]))
  refine own_pre (fun t k => X158.ldcInt hx hown (mvT hZ (hw _ (List.mem_of_getElem? (i := 6) rfl))) (g := (mkF m 174 #[.val (.int p0), .val (.int p1), .unset, .unset, .unset, .unset, .unset, .unset] [(.int (26 : Int32)), (.ref b54), (.ref b54)])) rfl (hb hby at_174) _ k) ?_
  show own_Ends _ _ _ _ (T158.setTop (mkF m 176 #[.val (.int p0), .val (.int p1), .unset, .unset, .unset, .unset, .unset, .unset] [(.int (65536 : Int32)), (.int (26 : Int32)), (.ref b54), (.ref b54)]))
  obtain ⟨cl162, Ar162, q162, S162, M162, H162, G162⟩ := id (f159)
  have hin162 : ¬ ((26 : Int32) < 0 ∨ cl162.slots.size ≤ ((26 : Int32)).toNatClampNeg) := inb_of S162 ⟨by decide, by decide⟩
  obtain ⟨T162, h162, X162, e162, W162, st162⟩ := stI X158 hx hZ e158 Ar162 (j := (26 : Int32)) hin162 (g := (mkF m 176 #[.val (.int p0), .val (.int p1), .unset, .unset, .unset, .unset, .unset, .unset] [(.int (65536 : Int32)), (.int (26 : Int32)), (.ref b54), (.ref b54)])) rfl rfl (hb hby at_176)
  refine own_pre st162 ?_
  have f163x := Arv.set Ar162 q162 S162 M162 H162 G162 (show fits .int (.int (65536 : Int32)) = true from rfl) W162 26 rfl (Nat.le_of_ble_eq_true rfl)
  have f163 : Arv Z h162 b54 k54 .int (28 : Int32) [(.int (65 : Int32)), (.int (90 : Int32)), (.int (97 : Int32)), (.int (122 : Int32)), (.int (192 : Int32)), (.int (214 : Int32)), (.int (216 : Int32)), (.int (246 : Int32)), (.int (248 : Int32)), (.int (767 : Int32)), (.int (880 : Int32)), (.int (893 : Int32)), (.int (895 : Int32)), (.int (8191 : Int32)), (.int (8204 : Int32)), (.int (8205 : Int32)), (.int (8304 : Int32)), (.int (8591 : Int32)), (.int (11264 : Int32)), (.int (12271 : Int32)), (.int (12289 : Int32)), (.int (55295 : Int32)), (.int (63744 : Int32)), (.int (64975 : Int32)), (.int (65008 : Int32)), (.int (65533 : Int32)), (.int (65536 : Int32)), (.int (0 : Int32))] (.int (0 : Int32)) := f163x
  have N164 := Fr.snoc X162 N160 L55
  obtain ⟨LL162, X162, N164⟩ := own_hide X162 N164
  have Zn165 : n0 ≤ h162.size := by rw [W162.size]; exact Zn161
  show own_Ends _ _ _ _ (T162.setTop (mkF m 177 #[.val (.int p0), .val (.int p1), .unset, .unset, .unset, .unset, .unset, .unset] [(.ref b54)]))
  refine own_pre (fun t k => XS.dup X162.here hx rfl (hb hby at_177) rfl rfl k) ?_
  show own_Ends _ _ _ _ (T162.setTop (mkF m 178 #[.val (.int p0), .val (.int p1), .unset, .unset, .unset, .unset, .unset, .unset] [(.ref b54), (.ref b54)]))
  refine own_pre (fun t k => XS.bipush X162.here hx rfl (hb hby at_178) k) ?_
  show own_Ends _ _ _ _ (T162.setTop (mkF m 180 #[.val (.int p0), .val (.int p1), .unset, .unset, .unset, .unset, .unset, .unset] [(.int (27 : Int32)), (.ref b54), (.ref b54)]))
  refine own_pre (fun t k => X162.ldcInt hx hown (mvT hZ (hw _ (List.mem_of_getElem? (i := 7) rfl))) (g := (mkF m 180 #[.val (.int p0), .val (.int p1), .unset, .unset, .unset, .unset, .unset, .unset] [(.int (27 : Int32)), (.ref b54), (.ref b54)])) rfl (hb hby at_180) _ k) ?_
  show own_Ends _ _ _ _ (T162.setTop (mkF m 182 #[.val (.int p0), .val (.int p1), .unset, .unset, .unset, .unset, .unset, .unset] [(.int (983039 : Int32)), (.int (27 : Int32)), (.ref b54), (.ref b54)]))
  obtain ⟨cl166, Ar166, q166, S166, M166, H166, G166⟩ := id (f163)
  have hin166 : ¬ ((27 : Int32) < 0 ∨ cl166.slots.size ≤ ((27 : Int32)).toNatClampNeg) := inb_of S166 ⟨by decide, by decide⟩
  obtain ⟨T166, h166, X166, e166, W166, st166⟩ := stI X162 hx hZ e162 Ar166 (j := (27 : Int32)) hin166 (g := (mkF m 182 #[.val (.int p0), .val (.int p1), .unset, .unset, .unset, .unset, .unset, .unset] [(.int (983039 : Int32)), (.int (27 : Int32)), (.ref b54), (.ref b54)])) rfl rfl (hb hby at_182)
  refine own_pre st166 ?_
  have f167x := Arv.set Ar166 q166 S166 M166 H166 G166 (show fits .int (.int (983039 : Int32)) = true from rfl) W166 27 rfl (Nat.le_of_ble_eq_true rfl)
  have f167 : Arv Z h166 b54 k54 .int (28 : Int32) [(.int (65 : Int32)), (.int (90 : Int32)), (.int (97 : Int32)), (.int (122 : Int32)), (.int (192 : Int32)), (.int (214 : Int32)), (.int (216 : Int32)), (.int (246 : Int32)), (.int (248 : Int32)), (.int (767 : Int32)), (.int (880 : Int32)), (.int (893 : Int32)), (.int (895 : Int32)), (.int (8191 : Int32)), (.int (8204 : Int32)), (.int (8205 : Int32)), (.int (8304 : Int32)), (.int (8591 : Int32)), (.int (11264 : Int32)), (.int (12271 : Int32)), (.int (12289 : Int32)), (.int (55295 : Int32)), (.int (63744 : Int32)), (.int (64975 : Int32)), (.int (65008 : Int32)), (.int (65533 : Int32)), (.int (65536 : Int32)), (.int (983039 : Int32))] (.int (0 : Int32)) := f167x
  have N168 := Fr.snoc X166 N164 L55
  obtain ⟨LL166, X166, N168⟩ := own_hide X166 N168
  have Zn169 : n0 ≤ h166.size := by rw [W166.size]; exact Zn165
  show own_Ends _ _ _ _ (T166.setTop (mkF m 183 #[.val (.int p0), .val (.int p1), .unset, .unset, .unset, .unset, .unset, .unset] [(.ref b54)]))
  refine own_pre (fun t k => XS.astoreN X166.here hx rfl (hb hby at_183) rfl rfl (l' := #[.val (.int p0), .val (.int p1), .val (.ref b54), .unset, .unset, .unset, .unset, .unset]) rfl k) ?_
  show own_Ends _ _ _ _ (T166.setTop (mkF m 184 #[.val (.int p0), .val (.int p1), .val (.ref b54), .unset, .unset, .unset, .unset, .unset] []))
  refine own_pre (fun t k => XS.iloadN X166.here hx rfl (hb hby at_184) rfl k) ?_
  show own_Ends _ _ _ _ (T166.setTop (mkF m 185 #[.val (.int p0), .val (.int p1), .val (.ref b54), .unset, .unset, .unset, .unset, .unset] [(.int p1)]))
  refine own_pre (fun t k => X166.ldcInt hx hown (mvT hZ (hw _ (List.mem_of_getElem? (i := 8) rfl))) (g := (mkF m 185 #[.val (.int p0), .val (.int p1), .val (.ref b54), .unset, .unset, .unset, .unset, .unset] [(.int p1)])) rfl (hb hby at_185) _ k) ?_
  show own_Ends _ _ _ _ (T166.setTop (mkF m 187 #[.val (.int p0), .val (.int p1), .val (.ref b54), .unset, .unset, .unset, .unset, .unset] [(.int (65535 : Int32)), (.int p1)]))
  refine own_pre (fun t k => XS.iand X166.here hx rfl (hb hby at_187) rfl k) ?_
  show own_Ends _ _ _ _ (T166.setTop (mkF m 188 #[.val (.int p0), .val (.int p1), .val (.ref b54), .unset, .unset, .unset, .unset, .unset] [(.int (p1 &&& (65535 : Int32)))]))
  refine own_pre (fun t k => XS.bipush X166.here hx rfl (hb hby at_188) k) ?_
  show own_Ends _ _ _ _ (T166.setTop (mkF m 190 #[.val (.int p0), .val (.int p1), .val (.ref b54), .unset, .unset, .unset, .unset, .unset] [(.int (28 : Int32)), (.int (p1 &&& (65535 : Int32)))]))
  refine own_pre (fun t k => iremM X166 hx rfl (hb hby at_190) rfl (by decide) k) ?_
  show own_Ends _ _ _ _ (T166.setTop (mkF m 191 #[.val (.int p0), .val (.int p1), .val (.ref b54), .unset, .unset, .unset, .unset, .unset] [(.int ((p1 &&& (65535 : Int32)) % (28 : Int32)))]))
  refine own_pre (fun t k => XS.istoreN X166.here hx rfl (hb hby at_191) rfl (l' := #[.val (.int p0), .val (.int p1), .val (.ref b54), .val (.int ((p1 &&& (65535 : Int32)) % (28 : Int32))), .unset, .unset, .unset, .unset]) rfl k) ?_
  show own_Ends _ _ _ _ (T166.setTop (mkF m 192 #[.val (.int p0), .val (.int p1), .val (.ref b54), .val (.int ((p1 &&& (65535 : Int32)) % (28 : Int32))), .unset, .unset, .unset, .unset] []))
  generalize hx3 : ((p1 &&& (65535 : Int32)) % (28 : Int32)) = x3
  show own_Ends _ _ _ _ (T166.setTop (mkF m 192 #[.val (.int p0), .val (.int p1), .val (.ref b54), .val (.int x3), .unset, .unset, .unset, .unset] []))
  refine own_pre (fun t k => XS.iloadN X166.here hx rfl (hb hby at_192) rfl k) ?_
  show own_Ends _ _ _ _ (T166.setTop (mkF m 193 #[.val (.int p0), .val (.int p1), .val (.ref b54), .val (.int x3), .unset, .unset, .unset, .unset] [(.int p1)]))
  refine own_pre (fun t k => XS.bipush X166.here hx rfl (hb hby at_193) k) ?_
  show own_Ends _ _ _ _ (T166.setTop (mkF m 195 #[.val (.int p0), .val (.int p1), .val (.ref b54), .val (.int x3), .unset, .unset, .unset, .unset] [(.int (16 : Int32)), (.int p1)]))
  refine own_pre (fun t k => XS.iushr X166.here hx rfl (hb hby at_195) rfl k) ?_
  show own_Ends _ _ _ _ (T166.setTop (mkF m 196 #[.val (.int p0), .val (.int p1), .val (.ref b54), .val (.int x3), .unset, .unset, .unset, .unset] [(.int (own_ushr p1 (16 : Int32)))]))
  refine own_pre (fun t k => XS.iconst X166.here hx rfl (hb hby at_196) k) ?_
  show own_Ends _ _ _ _ (T166.setTop (mkF m 197 #[.val (.int p0), .val (.int p1), .val (.ref b54), .val (.int x3), .unset, .unset, .unset, .unset] [(.int (5 : Int32)), (.int (own_ushr p1 (16 : Int32)))]))
  refine own_pre (fun t k => iremM X166 hx rfl (hb hby at_197) rfl (by decide) k) ?_
  show own_Ends _ _ _ _ (T166.setTop (mkF m 198 #[.val (.int p0), .val (.int p1), .val (.ref b54), .val (.int x3), .unset, .unset, .unset, .unset] [(.int ((own_ushr p1 (16 : Int32)) % (5 : Int32)))]))
  refine own_pre (fun t k => XS.iconst X166.here hx rfl (hb hby at_198) k) ?_
  show own_Ends _ _ _ _ (T166.setTop (mkF m 199 #[.val (.int p0), .val (.int p1), .val (.ref b54), .val (.int x3), .unset, .unset, .unset, .unset] [(.int (2 : Int32)), (.int ((own_ushr p1 (16 : Int32)) % (5 : Int32)))]))
  refine own_pre (fun t k => XS.isub X166.here hx rfl (hb hby at_199) rfl k) ?_
  show own_Ends _ _ _ _ (T166.setTop (mkF m 200 #[.val (.int p0), .val (.int p1), .val (.ref b54), .val (.int x3), .unset, .unset, .unset, .unset] [(.int (((own_ushr p1 (16 : Int32)) % (5 : Int32)) - (2 : Int32)))]))
  refine own_pre (fun t k => XS.istore X166.here hx rfl (hb hby at_200) rfl (l' := #[.val (.int p0), .val (.int p1), .val (.ref b54), .val (.int x3), .val (.int (((own_ushr p1 (16 : Int32)) % (5 : Int32)) - (2 : Int32))), .unset, .unset, .unset]) rfl k) ?_
  show own_Ends _ _ _ _ (T166.setTop (mkF m 202 #[.val (.int p0), .val (.int p1), .val (.ref b54), .val (.int x3), .val (.int (((own_ushr p1 (16 : Int32)) % (5 : Int32)) - (2 : Int32))), .unset, .unset, .unset] []))
  generalize hx4 : (((own_ushr p1 (16 : Int32)) % (5 : Int32)) - (2 : Int32)) = x4
  show own_Ends _ _ _ _ (T166.setTop (mkF m 202 #[.val (.int p0), .val (.int p1), .val (.ref b54), .val (.int x3), .val (.int x4), .unset, .unset, .unset] []))
  refine own_pre (fun t k => XS.aloadN X166.here hx rfl (hb hby at_202) rfl rfl k) ?_
  show own_Ends _ _ _ _ (T166.setTop (mkF m 203 #[.val (.int p0), .val (.int p1), .val (.ref b54), .val (.int x3), .val (.int x4), .unset, .unset, .unset] [(.ref b54)]))
  refine own_pre (fun t k => XS.iloadN X166.here hx rfl (hb hby at_203) rfl k) ?_
  show own_Ends _ _ _ _ (T166.setTop (mkF m 204 #[.val (.int p0), .val (.int p1), .val (.ref b54), .val (.int x3), .val (.int x4), .unset, .unset, .unset] [(.int x3), (.ref b54)]))
  obtain ⟨cl170, Ar170, q170, S170, M170, H170, G170⟩ := id (f167)
  have hin170 : ¬ (x3 < 0 ∨ cl170.slots.size ≤ (x3).toNatClampNeg) := inb_of S170 (hx3 ▸ own_idx p1)
  obtain ⟨xv170, hxv170⟩ := fit_I (G170 _ (Nat.lt_of_not_le fun q => hin170 (Or.inr q))) (by simp)
  have hat170 : cl170.slots[(x3).toNatClampNeg]? = some (.int xv170) := H170.at hin170 hxv170
  refine own_pre (fun t k => X166.iaload hx (j := x3) (v := (.int xv170)) (by rw [e166]; exact Ar170.1) (State.isArrayOf_alike hZ.alike Ar170.2.1) Ar170.2.2 hin170 hat170 (g := (mkF m 204 #[.val (.int p0), .val (.int p1), .val (.ref b54), .val (.int x3), .val (.int x4), .unset, .unset, .unset] [(.int x3), (.ref b54)])) rfl rfl (hb hby at_204) _ k) ?_
  show own_Ends _ _ _ _ (T166.setTop (mkF m 205 #[.val (.int p0), .val (.int p1), .val (.ref b54), .val (.int x3), .val (.int x4), .unset, .unset, .unset] [(.int xv170)]))
  refine own_pre (fun t k => XS.iload X166.here hx rfl (hb hby at_205) rfl k) ?_
  show own_Ends _ _ _ _ (T166.setTop (mkF m 207 #[.val (.int p0), .val (.int p1), .val (.ref b54), .val (.int x3), .val (.int x4), .unset, .unset, .unset] [(.int x4), (.int xv170)]))
  refine own_pre (fun t k => XS.iadd X166.here hx rfl (hb hby at_207) rfl k) ?_
  show own_Ends _ _ _ _ (T166.setTop (mkF m 208 #[.val (.int p0), .val (.int p1), .val (.ref b54), .val (.int x3), .val (.int x4), .unset, .unset, .unset] [(.int (xv170 + x4))]))
  refine own_pre (fun t k => XS.istore X166.here hx rfl (hb hby at_208) rfl (l' := #[.val (.int p0), .val (.int p1), .val (.ref b54), .val (.int x3), .val (.int x4), .val (.int (xv170 + x4)), .unset, .unset]) rfl k) ?_
  show own_Ends _ _ _ _ (T166.setTop (mkF m 210 #[.val (.int p0), .val (.int p1), .val (.ref b54), .val (.int x3), .val (.int x4), .val (.int (xv170 + x4)), .unset, .unset] []))
  generalize hd5 : (xv170 + x4) = d5
  show own_Ends _ _ _ _ (T166.setTop (mkF m 210 #[.val (.int p0), .val (.int p1), .val (.ref b54), .val (.int x3), .val (.int x4), .val (.int d5), .unset, .unset] []))
  refine own_pre (fun t k => XS.iloadN X166.here hx rfl (hb hby at_210) rfl k) ?_
  show own_Ends _ _ _ _ (T166.setTop (mkF m 211 #[.val (.int p0), .val (.int p1), .val (.ref b54), .val (.int x3), .val (.int x4), .val (.int d5), .unset, .unset] [(.int p0)]))
  obtain ⟨_, _, ⟨T171, L171, k171, n171⟩, -, X171, ⟨Lc171, hQ171, l171, y171, z171⟩, st171⟩ := Jvm.LawKit.callS X166 hx (y := (⟨"com/example/triweave/triweave/core/NameChars", "isBase", "(I)Z"⟩ : MethodName)) hown (mvT hZ (hw _ (List.mem_of_getElem? (i := 9) rfl))) (mvT hZ (hw _ (List.mem_of_getElem? (i := 10) rfl))) (mvT hZ (hw _ (List.mem_of_getElem? (i := 11) rfl))) (mvT hZ (hw _ (List.mem_of_getElem? (i := 12) rfl))) (by decide) (backOf (W := 0) (rm1 l Z a0 hw [] p0 h166 n0 Zn169) hZ (hw _ (List.mem_of_getElem? (i := 12) rfl)) (hw _ (List.mem_of_getElem? (i := 11) rfl)) (by decide) (by decide)) (g := (mkF m 211 #[.val (.int p0), .val (.int p1), .val (.ref b54), .val (.int x3), .val (.int x4), .val (.int d5), .unset, .unset] [(.int p0)])) rfl (by rw [hml]; rfl) (argsL := [(.int p0)]) (rest := []) (lenOf own_pd0 rfl) rfl (by show 2 * 0 + _ ≤ _; exact Nat.le_of_eq rfl) (hb hby at_211) (fun _ _ => ⟨rfl, e166, (by decide : 1 + 0 ≤ _), (by decide : 28 + 0 ≤ _)⟩)
  dsimp only [Pt.U, Pt.locs, Pt.cells, Pt.slots] at X171 l171 y171 z171 st171 hQ171
  subst l171 y171 z171
  obtain ⟨rfl, Nq171, e171⟩ := hQ171
  have N171 := Fr.app N168 Nq171
  obtain ⟨LL171, X171, N171⟩ := own_hide X171 N171
  refine own_pre st171 ?_
  show own_Ends _ _ _ _ (T171.setTop (mkF m 214 #[.val (.int p0), .val (.int p1), .val (.ref b54), .val (.int x3), .val (.int x4), .val (.int d5), .unset, .unset] [(.int (own_base p0))]))
  refine own_pre (fun t k => XS.iloadN X171.here hx rfl (hb hby at_214) rfl k) ?_
  show own_Ends _ _ _ _ (T171.setTop (mkF m 215 #[.val (.int p0), .val (.int p1), .val (.ref b54), .val (.int x3), .val (.int x4), .val (.int d5), .unset, .unset] [(.int p0), (.int (own_base p0))]))
  obtain ⟨_, _, ⟨T172, L172, k172, n172⟩, -, X172, ⟨Lc172, hQ172, l172, y172, z172⟩, st172⟩ := Jvm.LawKit.callS X171 hx (y := (⟨"com/example/triweave/triweave/core/NameCharsIsBasePinLaw", "notBase", "(I)Z"⟩ : MethodName)) hown (mvT hZ (hw _ (List.mem_of_getElem? (i := 16) rfl))) (mvT hZ (hw _ (List.mem_of_getElem? (i := 17) rfl))) (mvT hZ (hw _ (List.mem_of_getElem? (i := 18) rfl))) (mvT hZ (hw _ (List.mem_of_getElem? (i := 19) rfl))) (by decide) (backOf (W := 1) (rm2 l Z a0 hw [] p0 h166 n0 Zn169) hZ (hw _ (List.mem_of_getElem? (i := 19) rfl)) (hw _ (List.mem_of_getElem? (i := 18) rfl)) (by decide) (by decide)) (g := (mkF m 215 #[.val (.int p0), .val (.int p1), .val (.ref b54), .val (.int x3), .val (.int x4), .val (.int d5), .unset, .unset] [(.int p0), (.int (own_base p0))])) rfl (by rw [hml]; rfl) (argsL := [(.int p0)]) (rest := [(.int (own_base p0))]) (lenOf own_pd0 rfl) rfl (by show 2 * 0 + _ ≤ _; exact Nat.le_of_eq rfl) (hb hby at_215) (fun _ _ => ⟨rfl, e171, (by decide : 1 + 0 ≤ _), (by decide : 28 + 0 ≤ _)⟩)
  dsimp only [Pt.U, Pt.locs, Pt.cells, Pt.slots] at X172 l172 y172 z172 st172 hQ172
  subst l172 y172 z172
  obtain ⟨rfl, Nq172, e172⟩ := hQ172
  have N172 := Fr.app N171 Nq172
  obtain ⟨LL172, X172, N172⟩ := own_hide X172 N172
  refine own_pre st172 ?_
  show own_Ends _ _ _ _ (T172.setTop (mkF m 218 #[.val (.int p0), .val (.int p1), .val (.ref b54), .val (.int x3), .val (.int x4), .val (.int d5), .unset, .unset] [(.int (own_notb p0)), (.int (own_base p0))]))
  by_cases hc173 : (own_notb p0) = (0 : Int32)
  · skip
    refine own_pre (fun t k => XS.ifNo X172.here hx rfl (hb hby at_218) rfl ((if0 _ _).trans (teq hc173).2) k) ?_
    show own_Ends _ _ _ _ (T172.setTop (mkF m 221 #[.val (.int p0), .val (.int p1), .val (.ref b54), .val (.int x3), .val (.int x4), .val (.int d5), .unset, .unset] [(.int (own_base p0))]))
    refine own_pre (fun t k => XS.iconst X172.here hx rfl (hb hby at_221) k) ?_
    show own_Ends _ _ _ _ (T172.setTop (mkF m 222 #[.val (.int p0), .val (.int p1), .val (.ref b54), .val (.int x3), .val (.int x4), .val (.int d5), .unset, .unset] [(.int (1 : Int32)), (.int (own_base p0))]))
    refine own_pre (fun t k => XS.goto X172.here hx rfl (pc0 := 222) (pc' := 226) rfl (hb hby at_222) (by decide) (by decide) k) ?_
    show own_Ends _ _ _ _ (T172.setTop (mkF m 226 #[.val (.int p0), .val (.int p1), .val (.ref b54), .val (.int x3), .val (.int x4), .val (.int d5), .unset, .unset] [(.int (1 : Int32)), (.int (own_base p0))]))
    refine own_pre (fun t k => XS.icmpNo X172.here hx rfl (hb hby at_226) rfl (teq (own_yes _ hc173 : (own_base p0) = (1 : Int32))).2 k) ?_
    show own_Ends _ _ _ _ (T172.setTop (mkF m 229 #[.val (.int p0), .val (.int p1), .val (.ref b54), .val (.int x3), .val (.int x4), .val (.int d5), .unset, .unset] []))
    refine own_pre (fun t k => XS.iconst X172.here hx rfl (hb hby at_229) k) ?_
    show own_Ends _ _ _ _ (T172.setTop (mkF m 230 #[.val (.int p0), .val (.int p1), .val (.ref b54), .val (.int x3), .val (.int x4), .val (.int d5), .unset, .unset] [(.int (1 : Int32))]))
    refine own_pre (fun t k => XS.goto X172.here hx rfl (pc0 := 230) (pc' := 234) rfl (hb hby at_230) (by decide) (by decide) k) ?_
    show own_Ends _ _ _ _ (T172.setTop (mkF m 234 #[.val (.int p0), .val (.int p1), .val (.ref b54), .val (.int x3), .val (.int x4), .val (.int d5), .unset, .unset] [(.int (1 : Int32))]))
    refine own_pre (fun t k => XS.istore X172.here hx rfl (hb hby at_234) rfl (l' := #[.val (.int p0), .val (.int p1), .val (.ref b54), .val (.int x3), .val (.int x4), .val (.int d5), .val (.int (1 : Int32)), .unset]) rfl k) ?_
    show own_Ends _ _ _ _ (T172.setTop (mkF m 236 #[.val (.int p0), .val (.int p1), .val (.ref b54), .val (.int x3), .val (.int x4), .val (.int d5), .val (.int (1 : Int32)), .unset] []))
    refine own_pre (fun t k => XS.iload X172.here hx rfl (hb hby at_236) rfl k) ?_
    show own_Ends _ _ _ _ (T172.setTop (mkF m 238 #[.val (.int p0), .val (.int p1), .val (.ref b54), .val (.int x3), .val (.int x4), .val (.int d5), .val (.int (1 : Int32)), .unset] [(.int d5)]))
    obtain ⟨_, _, ⟨T174, L174, k174, n174⟩, -, X174, ⟨Lc174, hQ174, l174, y174, z174⟩, st174⟩ := Jvm.LawKit.callS X172 hx (y := (⟨"com/example/triweave/triweave/core/NameChars", "isBase", "(I)Z"⟩ : MethodName)) hown (mvT hZ (hw _ (List.mem_of_getElem? (i := 9) rfl))) (mvT hZ (hw _ (List.mem_of_getElem? (i := 10) rfl))) (mvT hZ (hw _ (List.mem_of_getElem? (i := 11) rfl))) (mvT hZ (hw _ (List.mem_of_getElem? (i := 12) rfl))) (by decide) (backOf (W := 0) (rm1 l Z a0 hw [] d5 h166 n0 Zn169) hZ (hw _ (List.mem_of_getElem? (i := 12) rfl)) (hw _ (List.mem_of_getElem? (i := 11) rfl)) (by decide) (by decide)) (g := (mkF m 238 #[.val (.int p0), .val (.int p1), .val (.ref b54), .val (.int x3), .val (.int x4), .val (.int d5), .val (.int (1 : Int32)), .unset] [(.int d5)])) rfl (by rw [hml]; rfl) (argsL := [(.int d5)]) (rest := []) (lenOf own_pd0 rfl) rfl (by show 2 * 0 + _ ≤ _; exact Nat.le_of_eq rfl) (hb hby at_238) (fun _ _ => ⟨rfl, e172, (by decide : 1 + 0 ≤ _), (by decide : 28 + 0 ≤ _)⟩)
    dsimp only [Pt.U, Pt.locs, Pt.cells, Pt.slots] at X174 l174 y174 z174 st174 hQ174
    subst l174 y174 z174
    obtain ⟨rfl, Nq174, e174⟩ := hQ174
    have N174 := Fr.app N172 Nq174
    obtain ⟨LL174, X174, N174⟩ := own_hide X174 N174
    refine own_pre st174 ?_
    show own_Ends _ _ _ _ (T174.setTop (mkF m 241 #[.val (.int p0), .val (.int p1), .val (.ref b54), .val (.int x3), .val (.int x4), .val (.int d5), .val (.int (1 : Int32)), .unset] [(.int (own_base d5))]))
    refine own_pre (fun t k => XS.iload X174.here hx rfl (hb hby at_241) rfl k) ?_
    show own_Ends _ _ _ _ (T174.setTop (mkF m 243 #[.val (.int p0), .val (.int p1), .val (.ref b54), .val (.int x3), .val (.int x4), .val (.int d5), .val (.int (1 : Int32)), .unset] [(.int d5), (.int (own_base d5))]))
    obtain ⟨_, _, ⟨T175, L175, k175, n175⟩, -, X175, ⟨Lc175, hQ175, l175, y175, z175⟩, st175⟩ := Jvm.LawKit.callS X174 hx (y := (⟨"com/example/triweave/triweave/core/NameCharsIsBasePinLaw", "notBase", "(I)Z"⟩ : MethodName)) hown (mvT hZ (hw _ (List.mem_of_getElem? (i := 16) rfl))) (mvT hZ (hw _ (List.mem_of_getElem? (i := 17) rfl))) (mvT hZ (hw _ (List.mem_of_getElem? (i := 18) rfl))) (mvT hZ (hw _ (List.mem_of_getElem? (i := 19) rfl))) (by decide) (backOf (W := 1) (rm2 l Z a0 hw [] d5 h166 n0 Zn169) hZ (hw _ (List.mem_of_getElem? (i := 19) rfl)) (hw _ (List.mem_of_getElem? (i := 18) rfl)) (by decide) (by decide)) (g := (mkF m 243 #[.val (.int p0), .val (.int p1), .val (.ref b54), .val (.int x3), .val (.int x4), .val (.int d5), .val (.int (1 : Int32)), .unset] [(.int d5), (.int (own_base d5))])) rfl (by rw [hml]; rfl) (argsL := [(.int d5)]) (rest := [(.int (own_base d5))]) (lenOf own_pd0 rfl) rfl (by show 2 * 0 + _ ≤ _; exact Nat.le_of_eq rfl) (hb hby at_243) (fun _ _ => ⟨rfl, e174, (by decide : 1 + 0 ≤ _), (by decide : 28 + 0 ≤ _)⟩)
    dsimp only [Pt.U, Pt.locs, Pt.cells, Pt.slots] at X175 l175 y175 z175 st175 hQ175
    subst l175 y175 z175
    obtain ⟨rfl, Nq175, e175⟩ := hQ175
    have N175 := Fr.app N174 Nq175
    obtain ⟨LL175, X175, N175⟩ := own_hide X175 N175
    refine own_pre st175 ?_
    show own_Ends _ _ _ _ (T175.setTop (mkF m 246 #[.val (.int p0), .val (.int p1), .val (.ref b54), .val (.int x3), .val (.int x4), .val (.int d5), .val (.int (1 : Int32)), .unset] [(.int (own_notb d5)), (.int (own_base d5))]))
    by_cases hc176 : (own_notb d5) = (0 : Int32)
    · skip
      refine own_pre (fun t k => XS.ifNo X175.here hx rfl (hb hby at_246) rfl ((if0 _ _).trans (teq hc176).2) k) ?_
      show own_Ends _ _ _ _ (T175.setTop (mkF m 249 #[.val (.int p0), .val (.int p1), .val (.ref b54), .val (.int x3), .val (.int x4), .val (.int d5), .val (.int (1 : Int32)), .unset] [(.int (own_base d5))]))
      refine own_pre (fun t k => XS.iconst X175.here hx rfl (hb hby at_249) k) ?_
      show own_Ends _ _ _ _ (T175.setTop (mkF m 250 #[.val (.int p0), .val (.int p1), .val (.ref b54), .val (.int x3), .val (.int x4), .val (.int d5), .val (.int (1 : Int32)), .unset] [(.int (1 : Int32)), (.int (own_base d5))]))
      refine own_pre (fun t k => XS.goto X175.here hx rfl (pc0 := 250) (pc' := 254) rfl (hb hby at_250) (by decide) (by decide) k) ?_
      show own_Ends _ _ _ _ (T175.setTop (mkF m 254 #[.val (.int p0), .val (.int p1), .val (.ref b54), .val (.int x3), .val (.int x4), .val (.int d5), .val (.int (1 : Int32)), .unset] [(.int (1 : Int32)), (.int (own_base d5))]))
      refine own_pre (fun t k => XS.icmpNo X175.here hx rfl (hb hby at_254) rfl (teq (own_yes _ hc176 : (own_base d5) = (1 : Int32))).2 k) ?_
      show own_Ends _ _ _ _ (T175.setTop (mkF m 257 #[.val (.int p0), .val (.int p1), .val (.ref b54), .val (.int x3), .val (.int x4), .val (.int d5), .val (.int (1 : Int32)), .unset] []))
      refine own_pre (fun t k => XS.iconst X175.here hx rfl (hb hby at_257) k) ?_
      show own_Ends _ _ _ _ (T175.setTop (mkF m 258 #[.val (.int p0), .val (.int p1), .val (.ref b54), .val (.int x3), .val (.int x4), .val (.int d5), .val (.int (1 : Int32)), .unset] [(.int (1 : Int32))]))
      refine own_pre (fun t k => XS.goto X175.here hx rfl (pc0 := 258) (pc' := 262) rfl (hb hby at_258) (by decide) (by decide) k) ?_
      show own_Ends _ _ _ _ (T175.setTop (mkF m 262 #[.val (.int p0), .val (.int p1), .val (.ref b54), .val (.int x3), .val (.int x4), .val (.int d5), .val (.int (1 : Int32)), .unset] [(.int (1 : Int32))]))
      refine own_pre (fun t k => XS.istore X175.here hx rfl (hb hby at_262) rfl (l' := #[.val (.int p0), .val (.int p1), .val (.ref b54), .val (.int x3), .val (.int x4), .val (.int d5), .val (.int (1 : Int32)), .val (.int (1 : Int32))]) rfl k) ?_
      show own_Ends _ _ _ _ (T175.setTop (mkF m 264 #[.val (.int p0), .val (.int p1), .val (.ref b54), .val (.int x3), .val (.int x4), .val (.int d5), .val (.int (1 : Int32)), .val (.int (1 : Int32))] []))
      refine own_pre (fun t k => XS.iload X175.here hx rfl (hb hby at_264) rfl k) ?_
      show own_Ends _ _ _ _ (T175.setTop (mkF m 266 #[.val (.int p0), .val (.int p1), .val (.ref b54), .val (.int x3), .val (.int x4), .val (.int d5), .val (.int (1 : Int32)), .val (.int (1 : Int32))] [(.int (1 : Int32))]))
      refine own_pre (fun t k => XS.ifNo X175.here hx rfl (hb hby at_266) rfl ((if0 _ _).trans (feq ((by decide) : ¬ ((1 : Int32) = (0 : Int32)))).1) k) ?_
      show own_Ends _ _ _ _ (T175.setTop (mkF m 269 #[.val (.int p0), .val (.int p1), .val (.ref b54), .val (.int x3), .val (.int x4), .val (.int d5), .val (.int (1 : Int32)), .val (.int (1 : Int32))] []))
      refine own_pre (fun t k => XS.iload X175.here hx rfl (hb hby at_269) rfl k) ?_
      show own_Ends _ _ _ _ (T175.setTop (mkF m 271 #[.val (.int p0), .val (.int p1), .val (.ref b54), .val (.int x3), .val (.int x4), .val (.int d5), .val (.int (1 : Int32)), .val (.int (1 : Int32))] [(.int (1 : Int32))]))
      refine own_pre (fun t k => XS.ifNo X175.here hx rfl (hb hby at_271) rfl ((if0 _ _).trans (feq ((by decide) : ¬ ((1 : Int32) = (0 : Int32)))).1) k) ?_
      show own_Ends _ _ _ _ (T175.setTop (mkF m 274 #[.val (.int p0), .val (.int p1), .val (.ref b54), .val (.int x3), .val (.int x4), .val (.int d5), .val (.int (1 : Int32)), .val (.int (1 : Int32))] []))
      refine own_pre (fun t k => XS.iconst X175.here hx rfl (hb hby at_274) k) ?_
      show own_Ends _ _ _ _ (T175.setTop (mkF m 275 #[.val (.int p0), .val (.int p1), .val (.ref b54), .val (.int x3), .val (.int x4), .val (.int d5), .val (.int (1 : Int32)), .val (.int (1 : Int32))] [(.int (1 : Int32))]))
      refine own_pre (fun t k => XS.goto X175.here hx rfl (pc0 := 275) (pc' := 279) rfl (hb hby at_275) (by decide) (by decide) k) ?_
      show own_Ends _ _ _ _ (T175.setTop (mkF m 279 #[.val (.int p0), .val (.int p1), .val (.ref b54), .val (.int x3), .val (.int x4), .val (.int d5), .val (.int (1 : Int32)), .val (.int (1 : Int32))] [(.int (1 : Int32))]))
      exact own_retN X175 hx (t := .boolean) Bd.returns (by simp) (hb hby at_279) hlk rfl e175 ⟨rfl, N175⟩ (by decide) (by decide)
    · skip
      refine own_pre (fun t k => XS.ifYes X175.here hx rfl (pc0 := 246) (pc' := 253) rfl (hb hby at_246) rfl ((if0 _ _).trans (feq hc176).2) (by decide) (by decide) k) ?_
      show own_Ends _ _ _ _ (T175.setTop (mkF m 253 #[.val (.int p0), .val (.int p1), .val (.ref b54), .val (.int x3), .val (.int x4), .val (.int d5), .val (.int (1 : Int32)), .unset] [(.int (own_base d5))]))
      refine own_pre (fun t k => XS.iconst X175.here hx rfl (hb hby at_253) k) ?_
      show own_Ends _ _ _ _ (T175.setTop (mkF m 254 #[.val (.int p0), .val (.int p1), .val (.ref b54), .val (.int x3), .val (.int x4), .val (.int d5), .val (.int (1 : Int32)), .unset] [(.int (0 : Int32)), (.int (own_base d5))]))
      refine own_pre (fun t k => XS.icmpNo X175.here hx rfl (hb hby at_254) rfl (teq (own_no _ hc176 : (own_base d5) = (0 : Int32))).2 k) ?_
      show own_Ends _ _ _ _ (T175.setTop (mkF m 257 #[.val (.int p0), .val (.int p1), .val (.ref b54), .val (.int x3), .val (.int x4), .val (.int d5), .val (.int (1 : Int32)), .unset] []))
      refine own_pre (fun t k => XS.iconst X175.here hx rfl (hb hby at_257) k) ?_
      show own_Ends _ _ _ _ (T175.setTop (mkF m 258 #[.val (.int p0), .val (.int p1), .val (.ref b54), .val (.int x3), .val (.int x4), .val (.int d5), .val (.int (1 : Int32)), .unset] [(.int (1 : Int32))]))
      refine own_pre (fun t k => XS.goto X175.here hx rfl (pc0 := 258) (pc' := 262) rfl (hb hby at_258) (by decide) (by decide) k) ?_
      show own_Ends _ _ _ _ (T175.setTop (mkF m 262 #[.val (.int p0), .val (.int p1), .val (.ref b54), .val (.int x3), .val (.int x4), .val (.int d5), .val (.int (1 : Int32)), .unset] [(.int (1 : Int32))]))
      refine own_pre (fun t k => XS.istore X175.here hx rfl (hb hby at_262) rfl (l' := #[.val (.int p0), .val (.int p1), .val (.ref b54), .val (.int x3), .val (.int x4), .val (.int d5), .val (.int (1 : Int32)), .val (.int (1 : Int32))]) rfl k) ?_
      show own_Ends _ _ _ _ (T175.setTop (mkF m 264 #[.val (.int p0), .val (.int p1), .val (.ref b54), .val (.int x3), .val (.int x4), .val (.int d5), .val (.int (1 : Int32)), .val (.int (1 : Int32))] []))
      refine own_pre (fun t k => XS.iload X175.here hx rfl (hb hby at_264) rfl k) ?_
      show own_Ends _ _ _ _ (T175.setTop (mkF m 266 #[.val (.int p0), .val (.int p1), .val (.ref b54), .val (.int x3), .val (.int x4), .val (.int d5), .val (.int (1 : Int32)), .val (.int (1 : Int32))] [(.int (1 : Int32))]))
      refine own_pre (fun t k => XS.ifNo X175.here hx rfl (hb hby at_266) rfl ((if0 _ _).trans (feq ((by decide) : ¬ ((1 : Int32) = (0 : Int32)))).1) k) ?_
      show own_Ends _ _ _ _ (T175.setTop (mkF m 269 #[.val (.int p0), .val (.int p1), .val (.ref b54), .val (.int x3), .val (.int x4), .val (.int d5), .val (.int (1 : Int32)), .val (.int (1 : Int32))] []))
      refine own_pre (fun t k => XS.iload X175.here hx rfl (hb hby at_269) rfl k) ?_
      show own_Ends _ _ _ _ (T175.setTop (mkF m 271 #[.val (.int p0), .val (.int p1), .val (.ref b54), .val (.int x3), .val (.int x4), .val (.int d5), .val (.int (1 : Int32)), .val (.int (1 : Int32))] [(.int (1 : Int32))]))
      refine own_pre (fun t k => XS.ifNo X175.here hx rfl (hb hby at_271) rfl ((if0 _ _).trans (feq ((by decide) : ¬ ((1 : Int32) = (0 : Int32)))).1) k) ?_
      show own_Ends _ _ _ _ (T175.setTop (mkF m 274 #[.val (.int p0), .val (.int p1), .val (.ref b54), .val (.int x3), .val (.int x4), .val (.int d5), .val (.int (1 : Int32)), .val (.int (1 : Int32))] []))
      refine own_pre (fun t k => XS.iconst X175.here hx rfl (hb hby at_274) k) ?_
      show own_Ends _ _ _ _ (T175.setTop (mkF m 275 #[.val (.int p0), .val (.int p1), .val (.ref b54), .val (.int x3), .val (.int x4), .val (.int d5), .val (.int (1 : Int32)), .val (.int (1 : Int32))] [(.int (1 : Int32))]))
      refine own_pre (fun t k => XS.goto X175.here hx rfl (pc0 := 275) (pc' := 279) rfl (hb hby at_275) (by decide) (by decide) k) ?_
      show own_Ends _ _ _ _ (T175.setTop (mkF m 279 #[.val (.int p0), .val (.int p1), .val (.ref b54), .val (.int x3), .val (.int x4), .val (.int d5), .val (.int (1 : Int32)), .val (.int (1 : Int32))] [(.int (1 : Int32))]))
      exact own_retN X175 hx (t := .boolean) Bd.returns (by simp) (hb hby at_279) hlk rfl e175 ⟨rfl, N175⟩ (by decide) (by decide)
  · skip
    refine own_pre (fun t k => XS.ifYes X172.here hx rfl (pc0 := 218) (pc' := 225) rfl (hb hby at_218) rfl ((if0 _ _).trans (feq hc173).2) (by decide) (by decide) k) ?_
    show own_Ends _ _ _ _ (T172.setTop (mkF m 225 #[.val (.int p0), .val (.int p1), .val (.ref b54), .val (.int x3), .val (.int x4), .val (.int d5), .unset, .unset] [(.int (own_base p0))]))
    refine own_pre (fun t k => XS.iconst X172.here hx rfl (hb hby at_225) k) ?_
    show own_Ends _ _ _ _ (T172.setTop (mkF m 226 #[.val (.int p0), .val (.int p1), .val (.ref b54), .val (.int x3), .val (.int x4), .val (.int d5), .unset, .unset] [(.int (0 : Int32)), (.int (own_base p0))]))
    refine own_pre (fun t k => XS.icmpNo X172.here hx rfl (hb hby at_226) rfl (teq (own_no _ hc173 : (own_base p0) = (0 : Int32))).2 k) ?_
    show own_Ends _ _ _ _ (T172.setTop (mkF m 229 #[.val (.int p0), .val (.int p1), .val (.ref b54), .val (.int x3), .val (.int x4), .val (.int d5), .unset, .unset] []))
    refine own_pre (fun t k => XS.iconst X172.here hx rfl (hb hby at_229) k) ?_
    show own_Ends _ _ _ _ (T172.setTop (mkF m 230 #[.val (.int p0), .val (.int p1), .val (.ref b54), .val (.int x3), .val (.int x4), .val (.int d5), .unset, .unset] [(.int (1 : Int32))]))
    refine own_pre (fun t k => XS.goto X172.here hx rfl (pc0 := 230) (pc' := 234) rfl (hb hby at_230) (by decide) (by decide) k) ?_
    show own_Ends _ _ _ _ (T172.setTop (mkF m 234 #[.val (.int p0), .val (.int p1), .val (.ref b54), .val (.int x3), .val (.int x4), .val (.int d5), .unset, .unset] [(.int (1 : Int32))]))
    refine own_pre (fun t k => XS.istore X172.here hx rfl (hb hby at_234) rfl (l' := #[.val (.int p0), .val (.int p1), .val (.ref b54), .val (.int x3), .val (.int x4), .val (.int d5), .val (.int (1 : Int32)), .unset]) rfl k) ?_
    show own_Ends _ _ _ _ (T172.setTop (mkF m 236 #[.val (.int p0), .val (.int p1), .val (.ref b54), .val (.int x3), .val (.int x4), .val (.int d5), .val (.int (1 : Int32)), .unset] []))
    refine own_pre (fun t k => XS.iload X172.here hx rfl (hb hby at_236) rfl k) ?_
    show own_Ends _ _ _ _ (T172.setTop (mkF m 238 #[.val (.int p0), .val (.int p1), .val (.ref b54), .val (.int x3), .val (.int x4), .val (.int d5), .val (.int (1 : Int32)), .unset] [(.int d5)]))
    obtain ⟨_, _, ⟨T177, L177, k177, n177⟩, -, X177, ⟨Lc177, hQ177, l177, y177, z177⟩, st177⟩ := Jvm.LawKit.callS X172 hx (y := (⟨"com/example/triweave/triweave/core/NameChars", "isBase", "(I)Z"⟩ : MethodName)) hown (mvT hZ (hw _ (List.mem_of_getElem? (i := 9) rfl))) (mvT hZ (hw _ (List.mem_of_getElem? (i := 10) rfl))) (mvT hZ (hw _ (List.mem_of_getElem? (i := 11) rfl))) (mvT hZ (hw _ (List.mem_of_getElem? (i := 12) rfl))) (by decide) (backOf (W := 0) (rm1 l Z a0 hw [] d5 h166 n0 Zn169) hZ (hw _ (List.mem_of_getElem? (i := 12) rfl)) (hw _ (List.mem_of_getElem? (i := 11) rfl)) (by decide) (by decide)) (g := (mkF m 238 #[.val (.int p0), .val (.int p1), .val (.ref b54), .val (.int x3), .val (.int x4), .val (.int d5), .val (.int (1 : Int32)), .unset] [(.int d5)])) rfl (by rw [hml]; rfl) (argsL := [(.int d5)]) (rest := []) (lenOf own_pd0 rfl) rfl (by show 2 * 0 + _ ≤ _; exact Nat.le_of_eq rfl) (hb hby at_238) (fun _ _ => ⟨rfl, e172, (by decide : 1 + 0 ≤ _), (by decide : 28 + 0 ≤ _)⟩)
    dsimp only [Pt.U, Pt.locs, Pt.cells, Pt.slots] at X177 l177 y177 z177 st177 hQ177
    subst l177 y177 z177
    obtain ⟨rfl, Nq177, e177⟩ := hQ177
    have N177 := Fr.app N172 Nq177
    obtain ⟨LL177, X177, N177⟩ := own_hide X177 N177
    refine own_pre st177 ?_
    show own_Ends _ _ _ _ (T177.setTop (mkF m 241 #[.val (.int p0), .val (.int p1), .val (.ref b54), .val (.int x3), .val (.int x4), .val (.int d5), .val (.int (1 : Int32)), .unset] [(.int (own_base d5))]))
    refine own_pre (fun t k => XS.iload X177.here hx rfl (hb hby at_241) rfl k) ?_
    show own_Ends _ _ _ _ (T177.setTop (mkF m 243 #[.val (.int p0), .val (.int p1), .val (.ref b54), .val (.int x3), .val (.int x4), .val (.int d5), .val (.int (1 : Int32)), .unset] [(.int d5), (.int (own_base d5))]))
    obtain ⟨_, _, ⟨T178, L178, k178, n178⟩, -, X178, ⟨Lc178, hQ178, l178, y178, z178⟩, st178⟩ := Jvm.LawKit.callS X177 hx (y := (⟨"com/example/triweave/triweave/core/NameCharsIsBasePinLaw", "notBase", "(I)Z"⟩ : MethodName)) hown (mvT hZ (hw _ (List.mem_of_getElem? (i := 16) rfl))) (mvT hZ (hw _ (List.mem_of_getElem? (i := 17) rfl))) (mvT hZ (hw _ (List.mem_of_getElem? (i := 18) rfl))) (mvT hZ (hw _ (List.mem_of_getElem? (i := 19) rfl))) (by decide) (backOf (W := 1) (rm2 l Z a0 hw [] d5 h166 n0 Zn169) hZ (hw _ (List.mem_of_getElem? (i := 19) rfl)) (hw _ (List.mem_of_getElem? (i := 18) rfl)) (by decide) (by decide)) (g := (mkF m 243 #[.val (.int p0), .val (.int p1), .val (.ref b54), .val (.int x3), .val (.int x4), .val (.int d5), .val (.int (1 : Int32)), .unset] [(.int d5), (.int (own_base d5))])) rfl (by rw [hml]; rfl) (argsL := [(.int d5)]) (rest := [(.int (own_base d5))]) (lenOf own_pd0 rfl) rfl (by show 2 * 0 + _ ≤ _; exact Nat.le_of_eq rfl) (hb hby at_243) (fun _ _ => ⟨rfl, e177, (by decide : 1 + 0 ≤ _), (by decide : 28 + 0 ≤ _)⟩)
    dsimp only [Pt.U, Pt.locs, Pt.cells, Pt.slots] at X178 l178 y178 z178 st178 hQ178
    subst l178 y178 z178
    obtain ⟨rfl, Nq178, e178⟩ := hQ178
    have N178 := Fr.app N177 Nq178
    obtain ⟨LL178, X178, N178⟩ := own_hide X178 N178
    refine own_pre st178 ?_
    show own_Ends _ _ _ _ (T178.setTop (mkF m 246 #[.val (.int p0), .val (.int p1), .val (.ref b54), .val (.int x3), .val (.int x4), .val (.int d5), .val (.int (1 : Int32)), .unset] [(.int (own_notb d5)), (.int (own_base d5))]))
    by_cases hc179 : (own_notb d5) = (0 : Int32)
    · skip
      refine own_pre (fun t k => XS.ifNo X178.here hx rfl (hb hby at_246) rfl ((if0 _ _).trans (teq hc179).2) k) ?_
      show own_Ends _ _ _ _ (T178.setTop (mkF m 249 #[.val (.int p0), .val (.int p1), .val (.ref b54), .val (.int x3), .val (.int x4), .val (.int d5), .val (.int (1 : Int32)), .unset] [(.int (own_base d5))]))
      refine own_pre (fun t k => XS.iconst X178.here hx rfl (hb hby at_249) k) ?_
      show own_Ends _ _ _ _ (T178.setTop (mkF m 250 #[.val (.int p0), .val (.int p1), .val (.ref b54), .val (.int x3), .val (.int x4), .val (.int d5), .val (.int (1 : Int32)), .unset] [(.int (1 : Int32)), (.int (own_base d5))]))
      refine own_pre (fun t k => XS.goto X178.here hx rfl (pc0 := 250) (pc' := 254) rfl (hb hby at_250) (by decide) (by decide) k) ?_
      show own_Ends _ _ _ _ (T178.setTop (mkF m 254 #[.val (.int p0), .val (.int p1), .val (.ref b54), .val (.int x3), .val (.int x4), .val (.int d5), .val (.int (1 : Int32)), .unset] [(.int (1 : Int32)), (.int (own_base d5))]))
      refine own_pre (fun t k => XS.icmpNo X178.here hx rfl (hb hby at_254) rfl (teq (own_yes _ hc179 : (own_base d5) = (1 : Int32))).2 k) ?_
      show own_Ends _ _ _ _ (T178.setTop (mkF m 257 #[.val (.int p0), .val (.int p1), .val (.ref b54), .val (.int x3), .val (.int x4), .val (.int d5), .val (.int (1 : Int32)), .unset] []))
      refine own_pre (fun t k => XS.iconst X178.here hx rfl (hb hby at_257) k) ?_
      show own_Ends _ _ _ _ (T178.setTop (mkF m 258 #[.val (.int p0), .val (.int p1), .val (.ref b54), .val (.int x3), .val (.int x4), .val (.int d5), .val (.int (1 : Int32)), .unset] [(.int (1 : Int32))]))
      refine own_pre (fun t k => XS.goto X178.here hx rfl (pc0 := 258) (pc' := 262) rfl (hb hby at_258) (by decide) (by decide) k) ?_
      show own_Ends _ _ _ _ (T178.setTop (mkF m 262 #[.val (.int p0), .val (.int p1), .val (.ref b54), .val (.int x3), .val (.int x4), .val (.int d5), .val (.int (1 : Int32)), .unset] [(.int (1 : Int32))]))
      refine own_pre (fun t k => XS.istore X178.here hx rfl (hb hby at_262) rfl (l' := #[.val (.int p0), .val (.int p1), .val (.ref b54), .val (.int x3), .val (.int x4), .val (.int d5), .val (.int (1 : Int32)), .val (.int (1 : Int32))]) rfl k) ?_
      show own_Ends _ _ _ _ (T178.setTop (mkF m 264 #[.val (.int p0), .val (.int p1), .val (.ref b54), .val (.int x3), .val (.int x4), .val (.int d5), .val (.int (1 : Int32)), .val (.int (1 : Int32))] []))
      refine own_pre (fun t k => XS.iload X178.here hx rfl (hb hby at_264) rfl k) ?_
      show own_Ends _ _ _ _ (T178.setTop (mkF m 266 #[.val (.int p0), .val (.int p1), .val (.ref b54), .val (.int x3), .val (.int x4), .val (.int d5), .val (.int (1 : Int32)), .val (.int (1 : Int32))] [(.int (1 : Int32))]))
      refine own_pre (fun t k => XS.ifNo X178.here hx rfl (hb hby at_266) rfl ((if0 _ _).trans (feq ((by decide) : ¬ ((1 : Int32) = (0 : Int32)))).1) k) ?_
      show own_Ends _ _ _ _ (T178.setTop (mkF m 269 #[.val (.int p0), .val (.int p1), .val (.ref b54), .val (.int x3), .val (.int x4), .val (.int d5), .val (.int (1 : Int32)), .val (.int (1 : Int32))] []))
      refine own_pre (fun t k => XS.iload X178.here hx rfl (hb hby at_269) rfl k) ?_
      show own_Ends _ _ _ _ (T178.setTop (mkF m 271 #[.val (.int p0), .val (.int p1), .val (.ref b54), .val (.int x3), .val (.int x4), .val (.int d5), .val (.int (1 : Int32)), .val (.int (1 : Int32))] [(.int (1 : Int32))]))
      refine own_pre (fun t k => XS.ifNo X178.here hx rfl (hb hby at_271) rfl ((if0 _ _).trans (feq ((by decide) : ¬ ((1 : Int32) = (0 : Int32)))).1) k) ?_
      show own_Ends _ _ _ _ (T178.setTop (mkF m 274 #[.val (.int p0), .val (.int p1), .val (.ref b54), .val (.int x3), .val (.int x4), .val (.int d5), .val (.int (1 : Int32)), .val (.int (1 : Int32))] []))
      refine own_pre (fun t k => XS.iconst X178.here hx rfl (hb hby at_274) k) ?_
      show own_Ends _ _ _ _ (T178.setTop (mkF m 275 #[.val (.int p0), .val (.int p1), .val (.ref b54), .val (.int x3), .val (.int x4), .val (.int d5), .val (.int (1 : Int32)), .val (.int (1 : Int32))] [(.int (1 : Int32))]))
      refine own_pre (fun t k => XS.goto X178.here hx rfl (pc0 := 275) (pc' := 279) rfl (hb hby at_275) (by decide) (by decide) k) ?_
      show own_Ends _ _ _ _ (T178.setTop (mkF m 279 #[.val (.int p0), .val (.int p1), .val (.ref b54), .val (.int x3), .val (.int x4), .val (.int d5), .val (.int (1 : Int32)), .val (.int (1 : Int32))] [(.int (1 : Int32))]))
      exact own_retN X178 hx (t := .boolean) Bd.returns (by simp) (hb hby at_279) hlk rfl e178 ⟨rfl, N178⟩ (by decide) (by decide)
    · skip
      refine own_pre (fun t k => XS.ifYes X178.here hx rfl (pc0 := 246) (pc' := 253) rfl (hb hby at_246) rfl ((if0 _ _).trans (feq hc179).2) (by decide) (by decide) k) ?_
      show own_Ends _ _ _ _ (T178.setTop (mkF m 253 #[.val (.int p0), .val (.int p1), .val (.ref b54), .val (.int x3), .val (.int x4), .val (.int d5), .val (.int (1 : Int32)), .unset] [(.int (own_base d5))]))
      refine own_pre (fun t k => XS.iconst X178.here hx rfl (hb hby at_253) k) ?_
      show own_Ends _ _ _ _ (T178.setTop (mkF m 254 #[.val (.int p0), .val (.int p1), .val (.ref b54), .val (.int x3), .val (.int x4), .val (.int d5), .val (.int (1 : Int32)), .unset] [(.int (0 : Int32)), (.int (own_base d5))]))
      refine own_pre (fun t k => XS.icmpNo X178.here hx rfl (hb hby at_254) rfl (teq (own_no _ hc179 : (own_base d5) = (0 : Int32))).2 k) ?_
      show own_Ends _ _ _ _ (T178.setTop (mkF m 257 #[.val (.int p0), .val (.int p1), .val (.ref b54), .val (.int x3), .val (.int x4), .val (.int d5), .val (.int (1 : Int32)), .unset] []))
      refine own_pre (fun t k => XS.iconst X178.here hx rfl (hb hby at_257) k) ?_
      show own_Ends _ _ _ _ (T178.setTop (mkF m 258 #[.val (.int p0), .val (.int p1), .val (.ref b54), .val (.int x3), .val (.int x4), .val (.int d5), .val (.int (1 : Int32)), .unset] [(.int (1 : Int32))]))
      refine own_pre (fun t k => XS.goto X178.here hx rfl (pc0 := 258) (pc' := 262) rfl (hb hby at_258) (by decide) (by decide) k) ?_
      show own_Ends _ _ _ _ (T178.setTop (mkF m 262 #[.val (.int p0), .val (.int p1), .val (.ref b54), .val (.int x3), .val (.int x4), .val (.int d5), .val (.int (1 : Int32)), .unset] [(.int (1 : Int32))]))
      refine own_pre (fun t k => XS.istore X178.here hx rfl (hb hby at_262) rfl (l' := #[.val (.int p0), .val (.int p1), .val (.ref b54), .val (.int x3), .val (.int x4), .val (.int d5), .val (.int (1 : Int32)), .val (.int (1 : Int32))]) rfl k) ?_
      show own_Ends _ _ _ _ (T178.setTop (mkF m 264 #[.val (.int p0), .val (.int p1), .val (.ref b54), .val (.int x3), .val (.int x4), .val (.int d5), .val (.int (1 : Int32)), .val (.int (1 : Int32))] []))
      refine own_pre (fun t k => XS.iload X178.here hx rfl (hb hby at_264) rfl k) ?_
      show own_Ends _ _ _ _ (T178.setTop (mkF m 266 #[.val (.int p0), .val (.int p1), .val (.ref b54), .val (.int x3), .val (.int x4), .val (.int d5), .val (.int (1 : Int32)), .val (.int (1 : Int32))] [(.int (1 : Int32))]))
      refine own_pre (fun t k => XS.ifNo X178.here hx rfl (hb hby at_266) rfl ((if0 _ _).trans (feq ((by decide) : ¬ ((1 : Int32) = (0 : Int32)))).1) k) ?_
      show own_Ends _ _ _ _ (T178.setTop (mkF m 269 #[.val (.int p0), .val (.int p1), .val (.ref b54), .val (.int x3), .val (.int x4), .val (.int d5), .val (.int (1 : Int32)), .val (.int (1 : Int32))] []))
      refine own_pre (fun t k => XS.iload X178.here hx rfl (hb hby at_269) rfl k) ?_
      show own_Ends _ _ _ _ (T178.setTop (mkF m 271 #[.val (.int p0), .val (.int p1), .val (.ref b54), .val (.int x3), .val (.int x4), .val (.int d5), .val (.int (1 : Int32)), .val (.int (1 : Int32))] [(.int (1 : Int32))]))
      refine own_pre (fun t k => XS.ifNo X178.here hx rfl (hb hby at_271) rfl ((if0 _ _).trans (feq ((by decide) : ¬ ((1 : Int32) = (0 : Int32)))).1) k) ?_
      show own_Ends _ _ _ _ (T178.setTop (mkF m 274 #[.val (.int p0), .val (.int p1), .val (.ref b54), .val (.int x3), .val (.int x4), .val (.int d5), .val (.int (1 : Int32)), .val (.int (1 : Int32))] []))
      refine own_pre (fun t k => XS.iconst X178.here hx rfl (hb hby at_274) k) ?_
      show own_Ends _ _ _ _ (T178.setTop (mkF m 275 #[.val (.int p0), .val (.int p1), .val (.ref b54), .val (.int x3), .val (.int x4), .val (.int d5), .val (.int (1 : Int32)), .val (.int (1 : Int32))] [(.int (1 : Int32))]))
      refine own_pre (fun t k => XS.goto X178.here hx rfl (pc0 := 275) (pc' := 279) rfl (hb hby at_275) (by decide) (by decide) k) ?_
      show own_Ends _ _ _ _ (T178.setTop (mkF m 279 #[.val (.int p0), .val (.int p1), .val (.ref b54), .val (.int x3), .val (.int x4), .val (.int d5), .val (.int (1 : Int32)), .val (.int (1 : Int32))] [(.int (1 : Int32))]))
      exact own_retN X178 hx (t := .boolean) Bd.returns (by simp) (hb hby at_279) hlk rfl e178 ⟨rfl, N178⟩ (by decide) (by decide)
set_option maxRecDepth 65536 in
set_option maxHeartbeats 40000000 in
theorem own_comes {Post : Tables → Env → Array Value → State → Outcome → State → Prop} (hpost : ∀ tb e args s v u, (limb_1_1.after args s (.returned v) u = true ∧ limb_1_2.after args s (.returned v) u = true ∧ True) → FrameEnd s (.returned v) u (Jvm.fieldLocs frame_1_writes args s ++ Jvm.arrayLocs frame_1_arrays args s ++ Jvm.staticLocs frame_1_statics s) 16 128 → Post tb e args s (.returned v) u) :
    ArmFor flags0 classFile x code maxLocals ret World_1 tables_1 room_1 Calls_1 rest_1 Pre_1 Post := by
  intro l hfl _ _ p e ha hc hk s m args below hf hA hF happ hP
  obtain ⟨hcalls, hrest, hpre⟩ := hP
  obtain ⟨-, -, -, hnamed, -, -, -, hat⟩ := (Spec.applies_iff hf).mp happ
  obtain ⟨hg, hn⟩ := and_e (Cond.before_iff.mp (show (Jvm.Cond.and given_1 narrow_1).before args s = true from hpre))
  obtain ⟨hcount, g0⟩ := and_e hg
  obtain ⟨hk0, g1⟩ := and_e g0
  obtain ⟨w0, w1, rfl⟩ : ∃ w0 w1 : Value, args = #[w0, w1] := by
    have hs : args.size = 2 := by simpa [Cond.value, given_1] using hcount
    obtain ⟨L⟩ := args
    match L, hs with
    | [w0, w1], _ => exact ⟨w0, w1, rfl⟩
  have hw := fun d (hd : d ∈ tables_1) => atoms_spec (ws := Jvm.Cond.code x code maxLocals ret :: tables_1) hat d (List.mem_cons_of_mem _ hd)
  have hfit : Fit s := fun {y c} hc i hi => by
    obtain ⟨ha, rfl⟩ := Array.getElem?_eq_some_iff.mp hc
    have q := List.all_eq_true.mp ((Array.all_eq_true_iff_forall_mem.mp hF) _ (Array.getElem_mem ha)) i (List.mem_range.mpr hi)
    simpa [Array.getElem?_eq_getElem hi] using q
  obtain ⟨i0, ei0⟩ := is_v hk0
  obtain rfl : w0 = (.int i0) := Option.some.inj ei0
  obtain ⟨i1, ei1⟩ := is_v g1
  obtain rfl : w1 = (.int i1) := Option.some.inj ei1
  obtain ⟨n, o, h1, h2, h3, _, L, rfl, ⟨rfl, N⟩, hq⟩ := rm0 l s _ hw tables_1 i0 i1 s.heap s.heap.size (Nat.le_refl _)  p e ha hc hk s m _ below hf ((Spec.applies_iff_loose hf).mp happ).1 ⟨rfl, State.Warmed39.refl s, rfl⟩ trivial
  refine ⟨n, _, h1, h2, h3, hpost _ _ _ _ _ _ ⟨Cond.after_iff.mpr rfl, Cond.after_iff.mpr (eq_i res_at (Term.int_eval (1)) rfl), trivial⟩ ⟨hq.1, hq.2.1, (hq.2.2.sift fun y hy => Or.inr (N y hy)).mono (by decide) (by decide)⟩⟩
theorem main_1_1 : Claimed_1_1 := own_comes fun _ _ _ _ _ _ h hF => ⟨h.1, hF⟩
theorem main_1_2 : Claimed_1_2 := own_comes fun _ _ _ _ _ _ h hF => ⟨h.2.1, hF⟩
end Jvm.Pilot.@@N@@
namespace Jvm.Pilot.@@N@@
open Jvm Jvm.ClassFile Sem Op Lib Jvm.Free Jvm.Stand Jvm.Pilot.@@N@@.Jvm.D
/-! MADE BY PROGRAM (witnessworld.py) out of the Statement's table words and the real class files: 9 classes; the members and pool entries that the words name. The judged class is class 1, her method 2. -/
namespace start1
open Jvm.ClassFile
def u (s : String) : CpInfo := .utf8 (stringToUtf16 s)
/-- a pool by its gaps: so many unusable entries, then the entry; so many at the end -/
def gap : Nat → List CpInfo → List CpInfo
  | 0, r => r
  | n + 1, r => .unusable :: gap n r
def poolList (es : List (Nat × CpInfo)) (last : Nat) : List CpInfo := es.foldr (fun e r => gap e.1 (e.2 :: r)) (gap last [])
def pool (es : List (Nat × CpInfo)) (last : Nat) : Array CpInfo := ⟨poolList es last⟩
def fileOf (pool : Array CpInfo) (this : Nat) (attrs : Array Attribute := #[]) (ms : Array MethodInfo := #[]) (fl : Nat := 33) (sup : Nat := 0) (ifs : Array Nat := #[]) (fds : Array FieldInfo := #[]) : ClassFile where
  minorVersion := 0
  majorVersion := 65
  constantPool := pool
  accessFlags := fl
  thisClass := this
  superClass := sup
  interfaces := ifs
  fields := fds
  methods := ms
  attributes := attrs
def plain (name : String) (sup : Option ClassId) : Class where
  name := name
  kind := .ordinary
  loader := none
  accessFlags := 33
  super := sup
  interfaces := #[]
  cf := none
  fields := #[]
  methods := #[]
  instanceTypes := #[]
  staticTypes := #[]
  resolved := #[]
  callSites := []
  init := .initialized
  statics := none
  mirror := none

def pool0 : Array CpInfo := pool [(5, u "<init>"), (0, u "()V"), (1, .class_ 10), (1, u "java/lang/Object")] 113

def k0m0 : Method := { name := "<init>", desc := "()V", sig := { parameters := [], returnType := none }, accessFlags := 1, code := none }
/-- java/lang/Object -/
def k0 : Class := { plain "java/lang/Object" none with
  accessFlags := 33
  interfaces := #[]
  cf := some (fileOf pool0 8 #[] #[{ accessFlags := 1, nameIndex := 5, descriptorIndex := 6, attributes := #[] }] 33 0 #[] #[])
  fields := #[]
  methods := #[k0m0]
  instanceTypes := #[]
  staticTypes := #[]
  resolved := Array.replicate 124 none
  statics := none }

def pool1 : Array CpInfo := pool [(2, .class_ 4), (1, u "java/lang/Object"), (0, u "<init>"), (0, u "()V"), (0, .integer 55296), (0, .integer 63743), (0, .integer 64976), (0, .integer 65007), (0, .integer 65534), (0, .integer 65535), (0, .integer 983039), (0, .integer 55295), (0, .integer 63744), (0, .integer 64975), (0, .integer 65008), (0, .integer 65533), (0, .integer 65536), (0, .methodref 21 22), (0, .class_ 23), (0, .nameAndType 24 25), (0, u "com/example/triweave/triweave/core/NameChars"), (0, u "isBase"), (0, u "(I)Z"), (0, .methodref 27 28), (0, .class_ 29), (0, .nameAndType 30 25), (0, u "com/example/triweave/triweave/core/NameCharsIsBasePinLaw"), (0, u "notBase"), (3, u "law"), (0, u "(II)Z")] 4

def k1m0 : Method := { name := "<init>", desc := "()V", sig := { parameters := [], returnType := none }, accessFlags := 2, code := none }
def k1c1 : Code := { maxStack := 2, maxLocals := 1, code := method_2_code, exceptionTable := #[], attributes := #[] }
def k1m1 : Method := { name := "notBase", desc := "(I)Z", sig := { parameters := [.int], returnType := some .boolean }, accessFlags := 10, code := some k1c1 }
def k1c2 : Code := { maxStack := 4, maxLocals := 8, code := code, exceptionTable := #[], attributes := #[] }
def k1m2 : Method := { name := "law", desc := "(II)Z", sig := { parameters := [.int, .int], returnType := some .boolean }, accessFlags := 9, code := some k1c2 }
/-- com/example/triweave/triweave/core/NameCharsIsBasePinLaw -/
def k1 : Class := { plain "com/example/triweave/triweave/core/NameCharsIsBasePinLaw" (some 0) with
  accessFlags := 49
  interfaces := #[]
  cf := some (fileOf pool1 27 #[] #[{ accessFlags := 2, nameIndex := 5, descriptorIndex := 6, attributes := #[] }, { accessFlags := 10, nameIndex := 30, descriptorIndex := 25, attributes := #[] }, { accessFlags := 9, nameIndex := 34, descriptorIndex := 35, attributes := #[] }] 49 2 #[] #[])
  fields := #[]
  methods := #[k1m0, k1m1, k1m2]
  instanceTypes := #[]
  staticTypes := #[]
  resolved := Array.replicate 40 none
  statics := none }

def pool2 : Array CpInfo := pool [(2, .class_ 4), (1, u "java/lang/Object"), (0, u "<init>"), (0, u "()V"), (0, .integer 55295), (0, .integer 63744), (0, .integer 64975), (0, .integer 65008), (0, .integer 65533), (0, .integer 65536), (0, .integer 983039), (1, .class_ 17), (1, u "com/example/triweave/triweave/core/NameChars"), (0, u "isBase"), (0, u "(I)Z")] 9

def k2m0 : Method := { name := "<init>", desc := "()V", sig := { parameters := [], returnType := none }, accessFlags := 2, code := none }
def k2c1 : Code := { maxStack := 2, maxLocals := 1, code := prog_29_method_2_code, exceptionTable := #[], attributes := #[] }
def k2m1 : Method := { name := "isBase", desc := "(I)Z", sig := { parameters := [.int], returnType := some .boolean }, accessFlags := 9, code := some k2c1 }
/-- com/example/triweave/triweave/core/NameChars -/
def k2 : Class := { plain "com/example/triweave/triweave/core/NameChars" (some 0) with
  accessFlags := 49
  interfaces := #[]
  cf := some (fileOf pool2 15 #[] #[{ accessFlags := 2, nameIndex := 5, descriptorIndex := 6, attributes := #[] }, { accessFlags := 9, nameIndex := 18, descriptorIndex := 19, attributes := #[] }] 49 2 #[] #[])
  fields := #[]
  methods := #[k2m0, k2m1]
  instanceTypes := #[]
  staticTypes := #[]
  resolved := Array.replicate 29 none
  statics := none }

def pool3 : Array CpInfo := pool [(1, u "java/lang/Cloneable"), (0, .class_ 1), (0, u "java/lang/Object"), (0, .class_ 3)] 3

/-- java/lang/Cloneable -/
def k3 : Class := { plain "java/lang/Cloneable" (some 0) with
  accessFlags := 1537
  interfaces := #[]
  cf := some (fileOf pool3 2 #[] #[] 1537 4 #[] #[])
  fields := #[]
  methods := #[]
  instanceTypes := #[]
  staticTypes := #[]
  resolved := Array.replicate 8 none
  statics := none }

def pool4 : Array CpInfo := pool [(1, u "java/io/Serializable"), (0, .class_ 1), (0, u "java/lang/Object"), (0, .class_ 3)] 3

/-- java/io/Serializable -/
def k4 : Class := { plain "java/io/Serializable" (some 0) with
  accessFlags := 1537
  interfaces := #[]
  cf := some (fileOf pool4 2 #[] #[] 1537 4 #[] #[])
  fields := #[]
  methods := #[]
  instanceTypes := #[]
  staticTypes := #[]
  resolved := Array.replicate 8 none
  statics := none }

/-- the primitive byte -/
def k5 : Class := { plain "byte" none with kind := .primitive 'B', accessFlags := 0x411 }
/-- [B -/
def k6 : Class := { plain "[B" (some 0) with kind := .array 5 .byte, interfaces := #[3, 4], accessFlags := 1041 }

/-- the primitive int -/
def k7 : Class := { plain "int" none with kind := .primitive 'I', accessFlags := 0x411 }
/-- [I -/
def k8 : Class := { plain "[I" (some 0) with kind := .array 7 .int, interfaces := #[3, 4], accessFlags := 1041 }

def heap : Heap := #[]
def classes : Array Class := #[k0, k1, k2, k3, k4, k5, k6, k7, k8]
def interned : List (Array UInt16 × Addr) := []
def slotsUsed : Nat := 0
def theMethod : MethodId := ⟨1, 2⟩
def args0 : Array Value := #[.int 65, .int 7]
def aboutOver (below : List Frame) : State where
  vm := { classes := classes, interned := interned.toArray }
  heap := heap
  slotsUsed := slotsUsed
  threads := #[{ frames := .invoking theMethod args0 :: below }]
def below0 : List Frame := [.native { method := ⟨0, 0⟩, args := #[] }]
def about1 : State := aboutOver below0
def p0 : Program := .bare "" "" ""
def e0 : Env := launch0.env 0 0 0
theorem w_frames : about1.frames = Frame.invoking theMethod args0 :: below0 := rfl
set_option maxRecDepth 65536 in
theorem w_args : argsFit about1.vm theMethod args0 = true := by decide +kernel
set_option maxRecDepth 65536 in
theorem w_heap : heapFits about1 = true := by decide +kernel
set_option maxRecDepth 65536 in
theorem w_runnable : about1.curStatus? = some .runnable := by decide +kernel
set_option maxRecDepth 65536 in
theorem w_alone : about1.alone = true := by decide +kernel
set_option maxRecDepth 65536 in
theorem w_named : about1.methodNamed? x = some theMethod := by decide +kernel
set_option maxRecDepth 65536 in
theorem w_hears : about1.hears theMethod below0 = true := by decide +kernel
set_option maxRecDepth 65536 in
theorem w_ripe : about1.ripe theMethod args0 below0 = true := by decide +kernel
theorem w_running : about1.status = .running := rfl
set_option maxRecDepth 65536 in
theorem w_room : about1.hasRoom e0.platform room_1 = true :=
  launch0.hasRoom_least _ room_1 (by decide +kernel) (by decide +kernel) (by decide +kernel) (by decide +kernel) (by decide +kernel) (by decide +kernel)
theorem allAtoms_all (ts : List Jvm.Cond) (a : Array Jvm.Value) (st : Jvm.State) : (allAtoms ts).before a st = ts.all (fun c => c.before a st) := by
  induction ts with
  | nil => rfl
  | cons c t ih =>
    show (Jvm.Cond.and c (allAtoms t)).before a st = _
    rw [Jvm.Cond.before_and, ih, List.all_cons]
def words1 : List Jvm.Cond := Jvm.Cond.code x code maxLocals ret :: tables_1
/-- a 'code' word, met by the world's own term for the bytes: nothing is compared byte by byte -/
theorem code_word {y : MethodName} {bytes : ByteArray} {mx : Nat} {rt : Option FieldType} {a : Array Value} {s : State} {m : MethodId} {meth : Method} {c : Code} (h1 : s.methodNamed? y = some m) (h2 : s.vm.method? m = some meth) (h3 : meth.code = some c) (h4 : c.code = bytes)
    (h5 : (c.maxLocals == mx && c.exceptionTable.isEmpty && decide (c.maxStack ≤ mostOperands) && decide (meth.sig.returnType = rt) && !meth.locks && decide (parseMethodDescriptor y.desc = some meth.sig)) = true) : (Jvm.Cond.code y bytes mx rt).before a s = true := by
  simp only [Bool.and_eq_true, beq_iff_eq, Bool.not_eq_true', decide_eq_true_eq] at h5
  obtain ⟨⟨⟨⟨⟨g1, g2⟩, g3⟩, g4⟩, g5⟩, g6⟩ := h5
  simp [Cond.before, Cond.holds, Cond.value, h1, h2, h3, h4, g1, g2, g3, g4, g5, g6]
def isCode : Jvm.Cond → Bool
  | .code _ _ _ _ => true
  | _ => false
theorem all_split {L : List Jvm.Cond} {P : Jvm.Cond → Bool} (h1 : L.all (fun c => isCode c || P c) = true) (h2 : ∀ c ∈ L.filter isCode, P c = true) : L.all P = true := by
  refine List.all_eq_true.mpr fun c hc => ?_
  have h := List.all_eq_true.mp h1 c hc
  rcases Bool.eq_false_or_eq_true (isCode c) with hi | hi
  · exact h2 c (List.mem_filter.mpr ⟨hc, hi⟩)
  · simpa [hi] using h
set_option maxRecDepth 65536 in
theorem w_c0 : (Jvm.Cond.code x code maxLocals ret).before args0 about1 = true := code_word (m := ⟨1, 2⟩) (meth := k1m2) (c := k1c2) (by decide +kernel) rfl rfl rfl (by decide +kernel)
set_option maxRecDepth 65536 in
theorem w_c1 : (Jvm.Cond.code ({ cls := "com/example/triweave/triweave/core/NameChars", name := "isBase", desc := "(I)Z" } : Jvm.MethodName) prog_29_method_2_code (1 : Nat) (Option.some Jvm.ClassFile.FieldType.boolean)).before args0 about1 = true := code_word (m := ⟨2, 1⟩) (meth := k2m1) (c := k2c1) (by decide +kernel) rfl rfl rfl (by decide +kernel)
set_option maxRecDepth 65536 in
theorem w_c2 : (Jvm.Cond.code ({ cls := "com/example/triweave/triweave/core/NameCharsIsBasePinLaw", name := "notBase", desc := "(I)Z" } : Jvm.MethodName) method_2_code (1 : Nat) (Option.some Jvm.ClassFile.FieldType.boolean)).before args0 about1 = true := code_word (m := ⟨1, 1⟩) (meth := k1m1) (c := k1c1) (by decide +kernel) rfl rfl rfl (by decide +kernel)
def codes1 : List Jvm.Cond := [Jvm.Cond.code x code maxLocals ret, Jvm.Cond.code ({ cls := "com/example/triweave/triweave/core/NameChars", name := "isBase", desc := "(I)Z" } : Jvm.MethodName) prog_29_method_2_code (1 : Nat) (Option.some Jvm.ClassFile.FieldType.boolean), Jvm.Cond.code ({ cls := "com/example/triweave/triweave/core/NameCharsIsBasePinLaw", name := "notBase", desc := "(I)Z" } : Jvm.MethodName) method_2_code (1 : Nat) (Option.some Jvm.ClassFile.FieldType.boolean)]
set_option maxRecDepth 65536 in
theorem codes_eq : words1.filter isCode = codes1 := rfl
theorem w_codes : ∀ c ∈ words1.filter isCode, c.before args0 about1 = true := by
  rw [codes_eq]
  intro c hc
  simp only [codes1, List.mem_cons, List.not_mem_nil, or_false] at hc
  rcases hc with rfl | rfl | rfl
  · exact w_c0
  · exact w_c1
  · exact w_c2
set_option maxRecDepth 65536 in
theorem w_t1 : (words1.take 24).all (fun c => isCode c || c.before args0 about1) = true := by decide +kernel
set_option maxRecDepth 65536 in
theorem w_t2 : (words1.drop 24).all (fun c => isCode c || c.before args0 about1) = true := by decide +kernel
theorem w_tables : (allAtoms (Jvm.Cond.code x code maxLocals ret :: tables_1)).before args0 about1 = true := by
  rw [allAtoms_all]
  show words1.all (fun c => c.before args0 about1) = true
  refine all_split ?_ w_codes
  rw [← List.take_append_drop 24 words1, List.all_append, w_t1, w_t2]
  rfl
set_option maxRecDepth 65536 in
theorem w_case : (Jvm.Cond.and given_1 narrow_1).before args0 about1 = true := by decide +kernel
theorem w_applies : (headSpec (Jvm.Cond.code x code maxLocals ret :: tables_1) room_1).applies x e0.platform about1 = true :=
  (Spec.applies_iff w_frames).mpr ⟨w_running, w_runnable, w_alone, w_named, w_hears, w_ripe, w_room, w_tables⟩
theorem atStart : AtStart classFile x code maxLocals ret World_1 tables_1 room_1 Calls_1 rest_1 Pre_1 launch0 p0 e0 about1 theMethod args0 below0 :=
  ⟨lists_1, trivial, launch0.admits_env _ _ _, launch0.least_env, fairChoices_fair.cas, fairChoices_fair.clock, w_frames, w_args, w_heap, w_applies, trivial, trivial, w_case⟩
end start1
theorem witness_1 : WitnessClaimed_1 := ⟨start1.p0, start1.e0, start1.about1, start1.theMethod, start1.args0, start1.below0, start1.atStart⟩
end Jvm.Pilot.@@N@@

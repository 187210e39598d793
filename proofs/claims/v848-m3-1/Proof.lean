import JvmDerived
import JvmDerived.Pilot.@@N@@Statement
import JvmDerived.Pilot.@@N@@Code
set_option linter.unusedVariables false
set_option linter.unusedSimpArgs false
namespace Jvm.RoadKit
open Sem ClassFile Op Lib Jvm.Stand Jvm.Free Jvm.LawKit
section New
variable {p : Program} {l : Launch} {e : Env} {R : Room} {s : State} {m : MethodId} {args : Array Value} {below : List Frame} {meth : Method} {c : Code} {T : State} {locs : List Loc} {cells slots : Nat}
theorem retI (X : Stand p l e R s m args below meth c T locs cells slots) (hx : p.tables.exec = Jvm.exec) {pc : Nat} {Ls : Array Slot} {z : Int32} {rest : List Value} (hret : meth.sig.returnType = some .int) (hd : decode c.code pc = .ok (.ireturn, 1)) {fs : List Frame}
    (hl : ∀ (f : JFrame) (acts : List Action), f.method = m → f.locked = none → f.entered = [] → (doReturn e (T.setTop f) acts (some (.int z))).1 = T.setFrames fs) : Steps p.tables e below (T.setTop (mkF m pc Ls (.int z :: rest))) (T.setFrames fs) := by
  have hm' : T.vm.method? m = some meth := X.method'
  have hn : narrow .int (.int z) = .int z := rfl
  show Steps p.tables e below (T.setTop { method := m, pc := pc, locals := Ls, stack := _ :: rest, locked := none }) _
  jvm_step X.here [X.here.top, hx, hd, hm', hret, hn]
  first | (intro acts; rw [hl _ acts rfl rfl rfl]) | rw [hl _ _ rfl rfl rfl]
  exact Steps.refl _
end New
end Jvm.RoadKit
namespace Jvm.Pilot.@@N@@
open Jvm Jvm.ClassFile Sem Op Lib Jvm.Free Jvm.Stand Jvm.LawKit Jvm.RoadKit Bundle Jvm.Pilot.@@N@@.Jvm.D
section OwnKit
variable {p : Program} {l : Launch} {e : Env} {R : Room} {s : State} {m : MethodId} {args : Array Value} {below : List Frame} {meth : Method} {c : Code} {T : State} {locs : List Loc} {cells slots : Nat}
/-- what a body owes from the state A on: it comes to its return, and what it returned, the heap and the written places satisfy Q -/
def own_Fin (p : Program) (e : Env) (below : List Frame) (s : State) (Q : Option Value → Heap → List Loc → Prop) (rc rs : Nat) (A : State) : Prop :=
  ∃ s₂ o, Steps p.tables e below A s₂ ∧ s₂.status = .running ∧ Ended s₂ below o ∧ ∃ v L, o = .returned v ∧ Q v s₂.heap L ∧ FrameEnd s o s₂ L rc rs
theorem own_step {Q : Option Value → Heap → List Loc → Prop} {rc rs : Nat} {A B : State} (k : ∀ t, Steps p.tables e below B t → Steps p.tables e below A t) (h : own_Fin p e below s Q rc rs B) : own_Fin p e below s Q rc rs A := by
  obtain ⟨s₂, o, h1, h2⟩ := h
  exact ⟨s₂, o, k _ h1, h2⟩
theorem own_retN (X : Stand p l e R s m args below meth c T locs cells slots) (hx : p.tables.exec = Jvm.exec) (hlk : meth.locks = false) {Q : Option Value → Heap → List Loc → Prop} {rc rs n0 : Nat} {h : Heap} {pc : Nat} {Ls : Array Slot} {z v : Int32} {t : FieldType} {rest : List Value} (hret : meth.sig.returnType = some t) (ht : t = .boolean ∨ t = .byte ∨ t = .char ∨ t = .short)
    (hd : decode c.code pc = .ok (.ireturn, 1)) (hc : cells ≤ rc) (hs : slots ≤ rs) (eT : T.heap = h) (N : Fr n0 locs) (hQ : ∀ L', Fr n0 L' → Q (some (.int v)) h L') (hv : v = nar t z) :
    own_Fin p e below s Q rc rs (T.setTop (mkF m pc Ls (.int z :: rest))) := by
  subst hv
  obtain ⟨fs, hr, hrun, hended, hW, hsame⟩ := X.leave (v := some (.int (nar t z))) (fun h => by rw [hret] at h; cases h) hlk
  refine ⟨_, _, retN X hx hret ht hd hr, hrun, hended, _, _, rfl, ?_, ⟨_, rfl⟩, hW, hsame.mono hc hs⟩
  show Q _ T.heap _
  rw [eT]
  exact hQ _ N
theorem own_retI (X : Stand p l e R s m args below meth c T locs cells slots) (hx : p.tables.exec = Jvm.exec) (hlk : meth.locks = false) {Q : Option Value → Heap → List Loc → Prop} {rc rs n0 : Nat} {h : Heap} {pc : Nat} {Ls : Array Slot} {z v : Int32} {rest : List Value} (hret : meth.sig.returnType = some .int)
    (hd : decode c.code pc = .ok (.ireturn, 1)) (hc : cells ≤ rc) (hs : slots ≤ rs) (eT : T.heap = h) (N : Fr n0 locs) (hQ : ∀ L', Fr n0 L' → Q (some (.int v)) h L') (hv : v = z) :
    own_Fin p e below s Q rc rs (T.setTop (mkF m pc Ls (.int z :: rest))) := by
  subst hv
  obtain ⟨fs, hr, hrun, hended, hW, hsame⟩ := X.leave (v := some (.int v)) (fun h => by rw [hret] at h; cases h) hlk
  refine ⟨_, _, retI X hx hret hd hr, hrun, hended, _, _, rfl, ?_, ⟨_, rfl⟩, hW, hsame.mono hc hs⟩
  show Q _ T.heap _
  rw [eT]
  exact hQ _ N
theorem own_ret0 (X : Stand p l e R s m args below meth c T locs cells slots) (hx : p.tables.exec = Jvm.exec) (hlk : meth.locks = false) {Q : Option Value → Heap → List Loc → Prop} {rc rs : Nat} {h : Heap} {pc : Nat} {Ls : Array Slot} (hret : meth.sig.returnType = none)
    (hd : decode c.code pc = .ok (.return_, 1)) (hc : cells ≤ rc) (hs : slots ≤ rs) (eT : T.heap = h) (hQ : Q none h locs) :
    own_Fin p e below s Q rc rs (T.setTop (mkF m pc Ls [])) := by
  obtain ⟨fs, hr, hrun, hended, hW, hsame⟩ := X.leave (v := none) (fun _ => rfl) hlk
  refine ⟨_, _, X.returnOut hx hret hd hr, hrun, hended, _, _, rfl, ?_, ⟨_, rfl⟩, hW, hsame.mono hc hs⟩
  show Q _ T.heap _
  rw [eT]
  exact hQ
end OwnKit
/-- an array of n ints (bytes, ..) at a: its i-th is g i -/
def own_AF (Z : State) (h : Heap) (a : Addr) (ty : FieldType) (n : Nat) (g : Nat → Int32) : Prop := ∃ c : Cell, Arr Z h a c ty ∧ c.slots.size = n ∧ ∀ i, i < n → c.slots[i]? = some (.int (g i))
def own_In (n : Nat) (j : Int32) : Prop := ¬ (j < 0 ∨ n ≤ j.toNatClampNeg)
theorem own_AF.lt {Z : State} {h : Heap} {a : Addr} {ty : FieldType} {n : Nat} {g : Nat → Int32} (F : own_AF Z h a ty n g) : a < h.size := by obtain ⟨c, A, -⟩ := F; exact A.lt
theorem own_AFext {Z : State} {h h' : Heap} {a : Addr} {ty : FieldType} {n : Nat} {g : Nat → Int32} (F : own_AF Z h a ty n g) (E : Ext h h') : own_AF Z h' a ty n g := by obtain ⟨c, A, r⟩ := F; exact ⟨c, A.ext E, r⟩
theorem own_AFoth {Z : State} {h h' : Heap} {a b : Addr} {sl : Nat} {v : Value} {ty : FieldType} {n : Nat} {g : Nat → Int32} (F : own_AF Z h b ty n g) (W : Wr h h' a sl v) (q : b ≠ a) : own_AF Z h' b ty n g := by obtain ⟨c, A, r⟩ := F; exact ⟨c, A.other W q, r⟩
theorem own_AFkeep {Z : State} {h h' : Heap} {a : Addr} {ws : List Addr} {ty : FieldType} {n : Nat} {g : Nat → Int32} (F : own_AF Z h a ty n g) (K : Keep h h' ws) (q : a ∉ ws) : own_AF Z h' a ty n g := by obtain ⟨c, A, r⟩ := F; exact ⟨c, ⟨K.2.1 a c A.1 q, A.2⟩, r⟩
theorem own_AFset {Z : State} {h h' : Heap} {a : Addr} {ty : FieldType} {n k : Nat} {g : Nat → Int32} {c : Cell} {x : Int32} (A : Arr Z h a c ty) (S : c.slots.size = n) (H : ∀ i, i < n → c.slots[i]? = some (.int (g i))) (W : Wr h h' a k (.int x)) : own_AF Z h' a ty n (fun i => if i = k then x else g i) := by
  obtain ⟨c', e1, e2, e3, e4, e5, e6, e7⟩ := wr_at W A.1
  refine ⟨c', ⟨e1, ?_⟩, e4.trans S, fun i hi => ?_⟩
  · rw [(e7 rfl).1]; exact A.2
  · by_cases q : i = k
    · subst q
      show c'.slots[i]? = some (.int (if i = i then x else g i))
      rw [if_pos rfl]
      exact (e7 rfl).2.1
    · show c'.slots[i]? = some (.int (if i = k then x else g i))
      rw [e6 i q, if_neg q]
      exact H i hi
theorem own_AFnew {Z : State} {h : Heap} {a : Addr} {k : ClassId} {ty : FieldType} {z : Int32} {n : Nat} (A : Arr Z h a (newA k ty z) ty) (hn : z.toNatClampNeg = n) (hd : defaultValue ty = .int 0 := by rfl) : own_AF Z h a ty n (fun _ => 0) :=
  ⟨_, A, (sz_new _ _ _).trans hn, fun i hi => by
    have hs : (newA k ty z).slots = Array.replicate z.toNatClampNeg (defaultValue ty) := rfl
    rw [hs, hn, hd]
    simp [hi]⟩
theorem own_eqi {x y : Int32} {b : Int} (h : y.toInt = b) : x = y ↔ x.toInt = b := by rw [← h]; exact Int32.toInt_inj.symm

theorem d1_0 : decode method_3_code 0 = .ok (.iload_n 0, 1) := by decide +kernel
theorem d1_1 : decode method_3_code 1 = .ok (.bipush 32, 2) := by decide +kernel
theorem d1_3 : decode method_3_code 3 = .ok (.if_icmp .lt 11, 3) := by decide +kernel
theorem d1_6 : decode method_3_code 6 = .ok (.iload_n 0, 1) := by decide +kernel
theorem d1_7 : decode method_3_code 7 = .ok (.ldc 27, 2) := by decide +kernel
theorem d1_9 : decode method_3_code 9 = .ok (.if_icmp .gt 5, 3) := by decide +kernel
theorem d1_12 : decode method_3_code 12 = .ok (.iconst 1, 1) := by decide +kernel
theorem d1_13 : decode method_3_code 13 = .ok (.ireturn, 1) := by decide +kernel
theorem d1_14 : decode method_3_code 14 = .ok (.iload_n 0, 1) := by decide +kernel
theorem d1_15 : decode method_3_code 15 = .ok (.ldc 9, 2) := by decide +kernel
theorem d1_17 : decode method_3_code 17 = .ok (.if_icmp .lt 11, 3) := by decide +kernel
theorem d1_20 : decode method_3_code 20 = .ok (.iload_n 0, 1) := by decide +kernel
theorem d1_21 : decode method_3_code 21 = .ok (.ldc 10, 2) := by decide +kernel
theorem d1_23 : decode method_3_code 23 = .ok (.if_icmp .gt 5, 3) := by decide +kernel
theorem d1_26 : decode method_3_code 26 = .ok (.iconst 1, 1) := by decide +kernel
theorem d1_27 : decode method_3_code 27 = .ok (.ireturn, 1) := by decide +kernel
theorem d1_28 : decode method_3_code 28 = .ok (.iload_n 0, 1) := by decide +kernel
theorem d1_29 : decode method_3_code 29 = .ok (.ldc 13, 2) := by decide +kernel
theorem d1_31 : decode method_3_code 31 = .ok (.if_icmp .lt 11, 3) := by decide +kernel
theorem d1_34 : decode method_3_code 34 = .ok (.iload_n 0, 1) := by decide +kernel
theorem d1_35 : decode method_3_code 35 = .ok (.ldc 14, 2) := by decide +kernel
theorem d1_37 : decode method_3_code 37 = .ok (.if_icmp .gt 5, 3) := by decide +kernel
theorem d1_40 : decode method_3_code 40 = .ok (.iconst 1, 1) := by decide +kernel
theorem d1_41 : decode method_3_code 41 = .ok (.ireturn, 1) := by decide +kernel
theorem d1_42 : decode method_3_code 42 = .ok (.iload_n 0, 1) := by decide +kernel
theorem d1_43 : decode method_3_code 43 = .ok (.bipush 9, 2) := by decide +kernel
theorem d1_45 : decode method_3_code 45 = .ok (.if_icmp .eq 15, 3) := by decide +kernel
theorem d1_48 : decode method_3_code 48 = .ok (.iload_n 0, 1) := by decide +kernel
theorem d1_49 : decode method_3_code 49 = .ok (.bipush 10, 2) := by decide +kernel
theorem d1_51 : decode method_3_code 51 = .ok (.if_icmp .eq 9, 3) := by decide +kernel
theorem d1_54 : decode method_3_code 54 = .ok (.iload_n 0, 1) := by decide +kernel
theorem d1_55 : decode method_3_code 55 = .ok (.bipush 13, 2) := by decide +kernel
theorem d1_57 : decode method_3_code 57 = .ok (.if_icmp .ne 5, 3) := by decide +kernel
theorem d1_60 : decode method_3_code 60 = .ok (.iconst 1, 1) := by decide +kernel
theorem d1_61 : decode method_3_code 61 = .ok (.ireturn, 1) := by decide +kernel
theorem d1_62 : decode method_3_code 62 = .ok (.iload_n 1, 1) := by decide +kernel
theorem d1_63 : decode method_3_code 63 = .ok (.ifCond .eq 16, 3) := by decide +kernel
theorem d1_66 : decode method_3_code 66 = .ok (.iload_n 0, 1) := by decide +kernel
theorem d1_67 : decode method_3_code 67 = .ok (.iconst 1, 1) := by decide +kernel
theorem d1_68 : decode method_3_code 68 = .ok (.if_icmp .lt 11, 3) := by decide +kernel
theorem d1_71 : decode method_3_code 71 = .ok (.iload_n 0, 1) := by decide +kernel
theorem d1_72 : decode method_3_code 72 = .ok (.bipush 31, 2) := by decide +kernel
theorem d1_74 : decode method_3_code 74 = .ok (.if_icmp .gt 5, 3) := by decide +kernel
theorem d1_77 : decode method_3_code 77 = .ok (.iconst 1, 1) := by decide +kernel
theorem d1_78 : decode method_3_code 78 = .ok (.ireturn, 1) := by decide +kernel
theorem d1_79 : decode method_3_code 79 = .ok (.iconst 0, 1) := by decide +kernel
theorem d1_80 : decode method_3_code 80 = .ok (.ireturn, 1) := by decide +kernel
def f1_60 (i0 : Int32) (i1 : Int32) : Int32 := (1 : Int32)
set_option maxRecDepth 65536 in
set_option maxHeartbeats 40000000 in
theorem b1_60 {p : Program} {l : Launch} {e : Env} {s : State} {m : MethodId} {args : Array Value} {below : List Frame} {meth : Method} {c : Code} {T : State} {locs : List Loc} {cells slots : Nat} {Z : State} {a0 : Array Value} {h : Heap} {n0 : Nat} {Q : Option Value → Heap → List Loc → Prop} (i0 : Int32) (i1 : Int32) (hw : ∀ d ∈ tables_1, d.before a0 Z = true) (X : Stand p l e ({ frames := 0, cells := 0, slots := 0, locals := 0 } : Room) s m args below meth c T locs cells slots) (hx : p.tables.exec = Jvm.exec) (hZ : Z.Warmed39 s.vm) (hby : c.code = method_3_code) (hml : c.maxLocals = 2) (hown : s.vm.findClass "com/example/zoria/zoria/xml/XmlScannerIsReferablePinLaw" = some m.cls) (hret : meth.sig.returnType = some .boolean) (hlk : meth.locks = false) (eT : T.heap = h) (N : Fr n0 locs) (hc : cells ≤ 0) (hs : slots ≤ 0) (v : Int32) (hv : v = f1_60 i0 i1) (hQ : ∀ L', Fr n0 L' → Q (some (.int v)) h L') :
    own_Fin p e below s Q 0 0 (T.setTop (mkF m 60 #[.val (.int i0), .val (.int i1)] [])) := by
  refine own_step (fun t k => XS.iconst X.here hx rfl (hb hby d1_60) k) ?_
  show own_Fin p e below s Q 0 0 (T.setTop (mkF m 61 #[.val (.int i0), .val (.int i1)] [(.int (1 : Int32))]))
  exact own_retN X hx hlk hret (by simp) (hb hby d1_61) (by omega) (by omega) eT N hQ (hv)
def f1_79 (i0 : Int32) (i1 : Int32) : Int32 := (0 : Int32)
set_option maxRecDepth 65536 in
set_option maxHeartbeats 40000000 in
theorem b1_79 {p : Program} {l : Launch} {e : Env} {s : State} {m : MethodId} {args : Array Value} {below : List Frame} {meth : Method} {c : Code} {T : State} {locs : List Loc} {cells slots : Nat} {Z : State} {a0 : Array Value} {h : Heap} {n0 : Nat} {Q : Option Value → Heap → List Loc → Prop} (i0 : Int32) (i1 : Int32) (hw : ∀ d ∈ tables_1, d.before a0 Z = true) (X : Stand p l e ({ frames := 0, cells := 0, slots := 0, locals := 0 } : Room) s m args below meth c T locs cells slots) (hx : p.tables.exec = Jvm.exec) (hZ : Z.Warmed39 s.vm) (hby : c.code = method_3_code) (hml : c.maxLocals = 2) (hown : s.vm.findClass "com/example/zoria/zoria/xml/XmlScannerIsReferablePinLaw" = some m.cls) (hret : meth.sig.returnType = some .boolean) (hlk : meth.locks = false) (eT : T.heap = h) (N : Fr n0 locs) (hc : cells ≤ 0) (hs : slots ≤ 0) (v : Int32) (hv : v = f1_79 i0 i1) (hQ : ∀ L', Fr n0 L' → Q (some (.int v)) h L') :
    own_Fin p e below s Q 0 0 (T.setTop (mkF m 79 #[.val (.int i0), .val (.int i1)] [])) := by
  refine own_step (fun t k => XS.iconst X.here hx rfl (hb hby d1_79) k) ?_
  show own_Fin p e below s Q 0 0 (T.setTop (mkF m 80 #[.val (.int i0), .val (.int i1)] [(.int (0 : Int32))]))
  exact own_retN X hx hlk hret (by simp) (hb hby d1_80) (by omega) (by omega) eT N hQ (hv)
def f1_77 (i0 : Int32) (i1 : Int32) : Int32 := (1 : Int32)
set_option maxRecDepth 65536 in
set_option maxHeartbeats 40000000 in
theorem b1_77 {p : Program} {l : Launch} {e : Env} {s : State} {m : MethodId} {args : Array Value} {below : List Frame} {meth : Method} {c : Code} {T : State} {locs : List Loc} {cells slots : Nat} {Z : State} {a0 : Array Value} {h : Heap} {n0 : Nat} {Q : Option Value → Heap → List Loc → Prop} (i0 : Int32) (i1 : Int32) (hw : ∀ d ∈ tables_1, d.before a0 Z = true) (X : Stand p l e ({ frames := 0, cells := 0, slots := 0, locals := 0 } : Room) s m args below meth c T locs cells slots) (hx : p.tables.exec = Jvm.exec) (hZ : Z.Warmed39 s.vm) (hby : c.code = method_3_code) (hml : c.maxLocals = 2) (hown : s.vm.findClass "com/example/zoria/zoria/xml/XmlScannerIsReferablePinLaw" = some m.cls) (hret : meth.sig.returnType = some .boolean) (hlk : meth.locks = false) (eT : T.heap = h) (N : Fr n0 locs) (hc : cells ≤ 0) (hs : slots ≤ 0) (v : Int32) (hv : v = f1_77 i0 i1) (hQ : ∀ L', Fr n0 L' → Q (some (.int v)) h L') :
    own_Fin p e below s Q 0 0 (T.setTop (mkF m 77 #[.val (.int i0), .val (.int i1)] [])) := by
  refine own_step (fun t k => XS.iconst X.here hx rfl (hb hby d1_77) k) ?_
  show own_Fin p e below s Q 0 0 (T.setTop (mkF m 78 #[.val (.int i0), .val (.int i1)] [(.int (1 : Int32))]))
  exact own_retN X hx hlk hret (by simp) (hb hby d1_78) (by omega) (by omega) eT N hQ (hv)
def f1_71 (i0 : Int32) (i1 : Int32) : Int32 := if (31 : Int32) < i0 then f1_79 i0 i1 else f1_77 i0 i1
set_option maxRecDepth 65536 in
set_option maxHeartbeats 40000000 in
theorem b1_71 {p : Program} {l : Launch} {e : Env} {s : State} {m : MethodId} {args : Array Value} {below : List Frame} {meth : Method} {c : Code} {T : State} {locs : List Loc} {cells slots : Nat} {Z : State} {a0 : Array Value} {h : Heap} {n0 : Nat} {Q : Option Value → Heap → List Loc → Prop} (i0 : Int32) (i1 : Int32) (hw : ∀ d ∈ tables_1, d.before a0 Z = true) (X : Stand p l e ({ frames := 0, cells := 0, slots := 0, locals := 0 } : Room) s m args below meth c T locs cells slots) (hx : p.tables.exec = Jvm.exec) (hZ : Z.Warmed39 s.vm) (hby : c.code = method_3_code) (hml : c.maxLocals = 2) (hown : s.vm.findClass "com/example/zoria/zoria/xml/XmlScannerIsReferablePinLaw" = some m.cls) (hret : meth.sig.returnType = some .boolean) (hlk : meth.locks = false) (eT : T.heap = h) (N : Fr n0 locs) (hc : cells ≤ 0) (hs : slots ≤ 0) (v : Int32) (hv : v = f1_71 i0 i1) (hQ : ∀ L', Fr n0 L' → Q (some (.int v)) h L') :
    own_Fin p e below s Q 0 0 (T.setTop (mkF m 71 #[.val (.int i0), .val (.int i1)] [])) := by
  refine own_step (fun t k => XS.iloadN X.here hx rfl (hb hby d1_71) rfl  k) ?_
  show own_Fin p e below s Q 0 0 (T.setTop (mkF m 72 #[.val (.int i0), .val (.int i1)] [(.int i0)]))
  refine own_step (fun t k => XS.bipush X.here hx rfl (hb hby d1_72) k) ?_
  show own_Fin p e below s Q 0 0 (T.setTop (mkF m 74 #[.val (.int i0), .val (.int i1)] [(.int (31 : Int32)), (.int i0)]))
  by_cases hB74_22 : (31 : Int32) < i0
  · refine own_step (fun t k => XS.icmpYes X.here hx rfl (pc0 := 74) (pc' := 79) rfl (hb hby d1_74) rfl (tlt hB74_22).2.2.1 (by decide) (by decide) k) ?_
    exact b1_79 i0 i1 hw X hx hZ hby hml hown hret hlk eT N (by omega) (by omega) v (hv.trans (if_pos hB74_22)) hQ
  · refine own_step (fun t k => XS.icmpNo X.here hx rfl (hb hby d1_74) rfl (flt hB74_22).2.2.1 k) ?_
    exact b1_77 i0 i1 hw X hx hZ hby hml hown hret hlk eT N (by omega) (by omega) v (hv.trans (if_neg hB74_22)) hQ
def f1_66 (i0 : Int32) (i1 : Int32) : Int32 := if i0 < (1 : Int32) then f1_79 i0 i1 else f1_71 i0 i1
set_option maxRecDepth 65536 in
set_option maxHeartbeats 40000000 in
theorem b1_66 {p : Program} {l : Launch} {e : Env} {s : State} {m : MethodId} {args : Array Value} {below : List Frame} {meth : Method} {c : Code} {T : State} {locs : List Loc} {cells slots : Nat} {Z : State} {a0 : Array Value} {h : Heap} {n0 : Nat} {Q : Option Value → Heap → List Loc → Prop} (i0 : Int32) (i1 : Int32) (hw : ∀ d ∈ tables_1, d.before a0 Z = true) (X : Stand p l e ({ frames := 0, cells := 0, slots := 0, locals := 0 } : Room) s m args below meth c T locs cells slots) (hx : p.tables.exec = Jvm.exec) (hZ : Z.Warmed39 s.vm) (hby : c.code = method_3_code) (hml : c.maxLocals = 2) (hown : s.vm.findClass "com/example/zoria/zoria/xml/XmlScannerIsReferablePinLaw" = some m.cls) (hret : meth.sig.returnType = some .boolean) (hlk : meth.locks = false) (eT : T.heap = h) (N : Fr n0 locs) (hc : cells ≤ 0) (hs : slots ≤ 0) (v : Int32) (hv : v = f1_66 i0 i1) (hQ : ∀ L', Fr n0 L' → Q (some (.int v)) h L') :
    own_Fin p e below s Q 0 0 (T.setTop (mkF m 66 #[.val (.int i0), .val (.int i1)] [])) := by
  refine own_step (fun t k => XS.iloadN X.here hx rfl (hb hby d1_66) rfl  k) ?_
  show own_Fin p e below s Q 0 0 (T.setTop (mkF m 67 #[.val (.int i0), .val (.int i1)] [(.int i0)]))
  refine own_step (fun t k => XS.iconst X.here hx rfl (hb hby d1_67) k) ?_
  show own_Fin p e below s Q 0 0 (T.setTop (mkF m 68 #[.val (.int i0), .val (.int i1)] [(.int (1 : Int32)), (.int i0)]))
  by_cases hB68_19 : i0 < (1 : Int32)
  · refine own_step (fun t k => XS.icmpYes X.here hx rfl (pc0 := 68) (pc' := 79) rfl (hb hby d1_68) rfl (tlt hB68_19).1 (by decide) (by decide) k) ?_
    exact b1_79 i0 i1 hw X hx hZ hby hml hown hret hlk eT N (by omega) (by omega) v (hv.trans (if_pos hB68_19)) hQ
  · refine own_step (fun t k => XS.icmpNo X.here hx rfl (hb hby d1_68) rfl (flt hB68_19).1 k) ?_
    exact b1_71 i0 i1 hw X hx hZ hby hml hown hret hlk eT N (by omega) (by omega) v (hv.trans (if_neg hB68_19)) hQ
def f1_62 (i0 : Int32) (i1 : Int32) : Int32 := if i1 = (0 : Int32) then f1_79 i0 i1 else f1_66 i0 i1
set_option maxRecDepth 65536 in
set_option maxHeartbeats 40000000 in
theorem b1_62 {p : Program} {l : Launch} {e : Env} {s : State} {m : MethodId} {args : Array Value} {below : List Frame} {meth : Method} {c : Code} {T : State} {locs : List Loc} {cells slots : Nat} {Z : State} {a0 : Array Value} {h : Heap} {n0 : Nat} {Q : Option Value → Heap → List Loc → Prop} (i0 : Int32) (i1 : Int32) (hw : ∀ d ∈ tables_1, d.before a0 Z = true) (X : Stand p l e ({ frames := 0, cells := 0, slots := 0, locals := 0 } : Room) s m args below meth c T locs cells slots) (hx : p.tables.exec = Jvm.exec) (hZ : Z.Warmed39 s.vm) (hby : c.code = method_3_code) (hml : c.maxLocals = 2) (hown : s.vm.findClass "com/example/zoria/zoria/xml/XmlScannerIsReferablePinLaw" = some m.cls) (hret : meth.sig.returnType = some .boolean) (hlk : meth.locks = false) (eT : T.heap = h) (N : Fr n0 locs) (hc : cells ≤ 0) (hs : slots ≤ 0) (v : Int32) (hv : v = f1_62 i0 i1) (hQ : ∀ L', Fr n0 L' → Q (some (.int v)) h L') :
    own_Fin p e below s Q 0 0 (T.setTop (mkF m 62 #[.val (.int i0), .val (.int i1)] [])) := by
  refine own_step (fun t k => XS.iloadN X.here hx rfl (hb hby d1_62) rfl  k) ?_
  show own_Fin p e below s Q 0 0 (T.setTop (mkF m 63 #[.val (.int i0), .val (.int i1)] [(.int i1)]))
  by_cases hB63_16 : i1 = (0 : Int32)
  · refine own_step (fun t k => XS.ifYes X.here hx rfl (pc0 := 63) (pc' := 79) rfl (hb hby d1_63) rfl ((if0 _ _).trans (teq hB63_16).1) (by decide) (by decide) k) ?_
    exact b1_79 i0 i1 hw X hx hZ hby hml hown hret hlk eT N (by omega) (by omega) v (hv.trans (if_pos hB63_16)) hQ
  · refine own_step (fun t k => XS.ifNo X.here hx rfl (hb hby d1_63) rfl ((if0 _ _).trans (feq hB63_16).1) k) ?_
    exact b1_66 i0 i1 hw X hx hZ hby hml hown hret hlk eT N (by omega) (by omega) v (hv.trans (if_neg hB63_16)) hQ
def f1_54 (i0 : Int32) (i1 : Int32) : Int32 := if i0 = (13 : Int32) then f1_60 i0 i1 else f1_62 i0 i1
set_option maxRecDepth 65536 in
set_option maxHeartbeats 40000000 in
theorem b1_54 {p : Program} {l : Launch} {e : Env} {s : State} {m : MethodId} {args : Array Value} {below : List Frame} {meth : Method} {c : Code} {T : State} {locs : List Loc} {cells slots : Nat} {Z : State} {a0 : Array Value} {h : Heap} {n0 : Nat} {Q : Option Value → Heap → List Loc → Prop} (i0 : Int32) (i1 : Int32) (hw : ∀ d ∈ tables_1, d.before a0 Z = true) (X : Stand p l e ({ frames := 0, cells := 0, slots := 0, locals := 0 } : Room) s m args below meth c T locs cells slots) (hx : p.tables.exec = Jvm.exec) (hZ : Z.Warmed39 s.vm) (hby : c.code = method_3_code) (hml : c.maxLocals = 2) (hown : s.vm.findClass "com/example/zoria/zoria/xml/XmlScannerIsReferablePinLaw" = some m.cls) (hret : meth.sig.returnType = some .boolean) (hlk : meth.locks = false) (eT : T.heap = h) (N : Fr n0 locs) (hc : cells ≤ 0) (hs : slots ≤ 0) (v : Int32) (hv : v = f1_54 i0 i1) (hQ : ∀ L', Fr n0 L' → Q (some (.int v)) h L') :
    own_Fin p e below s Q 0 0 (T.setTop (mkF m 54 #[.val (.int i0), .val (.int i1)] [])) := by
  refine own_step (fun t k => XS.iloadN X.here hx rfl (hb hby d1_54) rfl  k) ?_
  show own_Fin p e below s Q 0 0 (T.setTop (mkF m 55 #[.val (.int i0), .val (.int i1)] [(.int i0)]))
  refine own_step (fun t k => XS.bipush X.here hx rfl (hb hby d1_55) k) ?_
  show own_Fin p e below s Q 0 0 (T.setTop (mkF m 57 #[.val (.int i0), .val (.int i1)] [(.int (13 : Int32)), (.int i0)]))
  by_cases hB57_13 : i0 = (13 : Int32)
  · refine own_step (fun t k => XS.icmpNo X.here hx rfl (hb hby d1_57) rfl (teq hB57_13).2 k) ?_
    exact b1_60 i0 i1 hw X hx hZ hby hml hown hret hlk eT N (by omega) (by omega) v (hv.trans (if_pos hB57_13)) hQ
  · refine own_step (fun t k => XS.icmpYes X.here hx rfl (pc0 := 57) (pc' := 62) rfl (hb hby d1_57) rfl (feq hB57_13).2 (by decide) (by decide) k) ?_
    exact b1_62 i0 i1 hw X hx hZ hby hml hown hret hlk eT N (by omega) (by omega) v (hv.trans (if_neg hB57_13)) hQ
def f1_48 (i0 : Int32) (i1 : Int32) : Int32 := if i0 = (10 : Int32) then f1_60 i0 i1 else f1_54 i0 i1
set_option maxRecDepth 65536 in
set_option maxHeartbeats 40000000 in
theorem b1_48 {p : Program} {l : Launch} {e : Env} {s : State} {m : MethodId} {args : Array Value} {below : List Frame} {meth : Method} {c : Code} {T : State} {locs : List Loc} {cells slots : Nat} {Z : State} {a0 : Array Value} {h : Heap} {n0 : Nat} {Q : Option Value → Heap → List Loc → Prop} (i0 : Int32) (i1 : Int32) (hw : ∀ d ∈ tables_1, d.before a0 Z = true) (X : Stand p l e ({ frames := 0, cells := 0, slots := 0, locals := 0 } : Room) s m args below meth c T locs cells slots) (hx : p.tables.exec = Jvm.exec) (hZ : Z.Warmed39 s.vm) (hby : c.code = method_3_code) (hml : c.maxLocals = 2) (hown : s.vm.findClass "com/example/zoria/zoria/xml/XmlScannerIsReferablePinLaw" = some m.cls) (hret : meth.sig.returnType = some .boolean) (hlk : meth.locks = false) (eT : T.heap = h) (N : Fr n0 locs) (hc : cells ≤ 0) (hs : slots ≤ 0) (v : Int32) (hv : v = f1_48 i0 i1) (hQ : ∀ L', Fr n0 L' → Q (some (.int v)) h L') :
    own_Fin p e below s Q 0 0 (T.setTop (mkF m 48 #[.val (.int i0), .val (.int i1)] [])) := by
  refine own_step (fun t k => XS.iloadN X.here hx rfl (hb hby d1_48) rfl  k) ?_
  show own_Fin p e below s Q 0 0 (T.setTop (mkF m 49 #[.val (.int i0), .val (.int i1)] [(.int i0)]))
  refine own_step (fun t k => XS.bipush X.here hx rfl (hb hby d1_49) k) ?_
  show own_Fin p e below s Q 0 0 (T.setTop (mkF m 51 #[.val (.int i0), .val (.int i1)] [(.int (10 : Int32)), (.int i0)]))
  by_cases hB51_10 : i0 = (10 : Int32)
  · refine own_step (fun t k => XS.icmpYes X.here hx rfl (pc0 := 51) (pc' := 60) rfl (hb hby d1_51) rfl (teq hB51_10).1 (by decide) (by decide) k) ?_
    exact b1_60 i0 i1 hw X hx hZ hby hml hown hret hlk eT N (by omega) (by omega) v (hv.trans (if_pos hB51_10)) hQ
  · refine own_step (fun t k => XS.icmpNo X.here hx rfl (hb hby d1_51) rfl (feq hB51_10).1 k) ?_
    exact b1_54 i0 i1 hw X hx hZ hby hml hown hret hlk eT N (by omega) (by omega) v (hv.trans (if_neg hB51_10)) hQ
def f1_42 (i0 : Int32) (i1 : Int32) : Int32 := if i0 = (9 : Int32) then f1_60 i0 i1 else f1_48 i0 i1
set_option maxRecDepth 65536 in
set_option maxHeartbeats 40000000 in
theorem b1_42 {p : Program} {l : Launch} {e : Env} {s : State} {m : MethodId} {args : Array Value} {below : List Frame} {meth : Method} {c : Code} {T : State} {locs : List Loc} {cells slots : Nat} {Z : State} {a0 : Array Value} {h : Heap} {n0 : Nat} {Q : Option Value → Heap → List Loc → Prop} (i0 : Int32) (i1 : Int32) (hw : ∀ d ∈ tables_1, d.before a0 Z = true) (X : Stand p l e ({ frames := 0, cells := 0, slots := 0, locals := 0 } : Room) s m args below meth c T locs cells slots) (hx : p.tables.exec = Jvm.exec) (hZ : Z.Warmed39 s.vm) (hby : c.code = method_3_code) (hml : c.maxLocals = 2) (hown : s.vm.findClass "com/example/zoria/zoria/xml/XmlScannerIsReferablePinLaw" = some m.cls) (hret : meth.sig.returnType = some .boolean) (hlk : meth.locks = false) (eT : T.heap = h) (N : Fr n0 locs) (hc : cells ≤ 0) (hs : slots ≤ 0) (v : Int32) (hv : v = f1_42 i0 i1) (hQ : ∀ L', Fr n0 L' → Q (some (.int v)) h L') :
    own_Fin p e below s Q 0 0 (T.setTop (mkF m 42 #[.val (.int i0), .val (.int i1)] [])) := by
  refine own_step (fun t k => XS.iloadN X.here hx rfl (hb hby d1_42) rfl  k) ?_
  show own_Fin p e below s Q 0 0 (T.setTop (mkF m 43 #[.val (.int i0), .val (.int i1)] [(.int i0)]))
  refine own_step (fun t k => XS.bipush X.here hx rfl (hb hby d1_43) k) ?_
  show own_Fin p e below s Q 0 0 (T.setTop (mkF m 45 #[.val (.int i0), .val (.int i1)] [(.int (9 : Int32)), (.int i0)]))
  by_cases hB45_7 : i0 = (9 : Int32)
  · refine own_step (fun t k => XS.icmpYes X.here hx rfl (pc0 := 45) (pc' := 60) rfl (hb hby d1_45) rfl (teq hB45_7).1 (by decide) (by decide) k) ?_
    exact b1_60 i0 i1 hw X hx hZ hby hml hown hret hlk eT N (by omega) (by omega) v (hv.trans (if_pos hB45_7)) hQ
  · refine own_step (fun t k => XS.icmpNo X.here hx rfl (hb hby d1_45) rfl (feq hB45_7).1 k) ?_
    exact b1_48 i0 i1 hw X hx hZ hby hml hown hret hlk eT N (by omega) (by omega) v (hv.trans (if_neg hB45_7)) hQ
def f1_40 (i0 : Int32) (i1 : Int32) : Int32 := (1 : Int32)
set_option maxRecDepth 65536 in
set_option maxHeartbeats 40000000 in
theorem b1_40 {p : Program} {l : Launch} {e : Env} {s : State} {m : MethodId} {args : Array Value} {below : List Frame} {meth : Method} {c : Code} {T : State} {locs : List Loc} {cells slots : Nat} {Z : State} {a0 : Array Value} {h : Heap} {n0 : Nat} {Q : Option Value → Heap → List Loc → Prop} (i0 : Int32) (i1 : Int32) (hw : ∀ d ∈ tables_1, d.before a0 Z = true) (X : Stand p l e ({ frames := 0, cells := 0, slots := 0, locals := 0 } : Room) s m args below meth c T locs cells slots) (hx : p.tables.exec = Jvm.exec) (hZ : Z.Warmed39 s.vm) (hby : c.code = method_3_code) (hml : c.maxLocals = 2) (hown : s.vm.findClass "com/example/zoria/zoria/xml/XmlScannerIsReferablePinLaw" = some m.cls) (hret : meth.sig.returnType = some .boolean) (hlk : meth.locks = false) (eT : T.heap = h) (N : Fr n0 locs) (hc : cells ≤ 0) (hs : slots ≤ 0) (v : Int32) (hv : v = f1_40 i0 i1) (hQ : ∀ L', Fr n0 L' → Q (some (.int v)) h L') :
    own_Fin p e below s Q 0 0 (T.setTop (mkF m 40 #[.val (.int i0), .val (.int i1)] [])) := by
  refine own_step (fun t k => XS.iconst X.here hx rfl (hb hby d1_40) k) ?_
  show own_Fin p e below s Q 0 0 (T.setTop (mkF m 41 #[.val (.int i0), .val (.int i1)] [(.int (1 : Int32))]))
  exact own_retN X hx hlk hret (by simp) (hb hby d1_41) (by omega) (by omega) eT N hQ (hv)
def f1_34 (i0 : Int32) (i1 : Int32) : Int32 := if (1114111 : Int32) < i0 then f1_42 i0 i1 else f1_40 i0 i1
set_option maxRecDepth 65536 in
set_option maxHeartbeats 40000000 in
theorem b1_34 {p : Program} {l : Launch} {e : Env} {s : State} {m : MethodId} {args : Array Value} {below : List Frame} {meth : Method} {c : Code} {T : State} {locs : List Loc} {cells slots : Nat} {Z : State} {a0 : Array Value} {h : Heap} {n0 : Nat} {Q : Option Value → Heap → List Loc → Prop} (i0 : Int32) (i1 : Int32) (hw : ∀ d ∈ tables_1, d.before a0 Z = true) (X : Stand p l e ({ frames := 0, cells := 0, slots := 0, locals := 0 } : Room) s m args below meth c T locs cells slots) (hx : p.tables.exec = Jvm.exec) (hZ : Z.Warmed39 s.vm) (hby : c.code = method_3_code) (hml : c.maxLocals = 2) (hown : s.vm.findClass "com/example/zoria/zoria/xml/XmlScannerIsReferablePinLaw" = some m.cls) (hret : meth.sig.returnType = some .boolean) (hlk : meth.locks = false) (eT : T.heap = h) (N : Fr n0 locs) (hc : cells ≤ 0) (hs : slots ≤ 0) (v : Int32) (hv : v = f1_34 i0 i1) (hQ : ∀ L', Fr n0 L' → Q (some (.int v)) h L') :
    own_Fin p e below s Q 0 0 (T.setTop (mkF m 34 #[.val (.int i0), .val (.int i1)] [])) := by
  refine own_step (fun t k => XS.iloadN X.here hx rfl (hb hby d1_34) rfl  k) ?_
  show own_Fin p e below s Q 0 0 (T.setTop (mkF m 35 #[.val (.int i0), .val (.int i1)] [(.int i0)]))
  refine own_step (X.ldcInt hx hown (mvT hZ (hw _ (List.mem_of_getElem? (i := 8) rfl))) (g := (mkF m 35 #[.val (.int i0), .val (.int i1)] [(.int i0)])) rfl (hb hby d1_35)) ?_
  show own_Fin p e below s Q 0 0 (T.setTop (mkF m 37 #[.val (.int i0), .val (.int i1)] [(.int (1114111 : Int32)), (.int i0)]))
  by_cases hB37_26 : (1114111 : Int32) < i0
  · refine own_step (fun t k => XS.icmpYes X.here hx rfl (pc0 := 37) (pc' := 42) rfl (hb hby d1_37) rfl (tlt hB37_26).2.2.1 (by decide) (by decide) k) ?_
    exact b1_42 i0 i1 hw X hx hZ hby hml hown hret hlk eT N (by omega) (by omega) v (hv.trans (if_pos hB37_26)) hQ
  · refine own_step (fun t k => XS.icmpNo X.here hx rfl (hb hby d1_37) rfl (flt hB37_26).2.2.1 k) ?_
    exact b1_40 i0 i1 hw X hx hZ hby hml hown hret hlk eT N (by omega) (by omega) v (hv.trans (if_neg hB37_26)) hQ
def f1_28 (i0 : Int32) (i1 : Int32) : Int32 := if i0 < (65536 : Int32) then f1_42 i0 i1 else f1_34 i0 i1
set_option maxRecDepth 65536 in
set_option maxHeartbeats 40000000 in
theorem b1_28 {p : Program} {l : Launch} {e : Env} {s : State} {m : MethodId} {args : Array Value} {below : List Frame} {meth : Method} {c : Code} {T : State} {locs : List Loc} {cells slots : Nat} {Z : State} {a0 : Array Value} {h : Heap} {n0 : Nat} {Q : Option Value → Heap → List Loc → Prop} (i0 : Int32) (i1 : Int32) (hw : ∀ d ∈ tables_1, d.before a0 Z = true) (X : Stand p l e ({ frames := 0, cells := 0, slots := 0, locals := 0 } : Room) s m args below meth c T locs cells slots) (hx : p.tables.exec = Jvm.exec) (hZ : Z.Warmed39 s.vm) (hby : c.code = method_3_code) (hml : c.maxLocals = 2) (hown : s.vm.findClass "com/example/zoria/zoria/xml/XmlScannerIsReferablePinLaw" = some m.cls) (hret : meth.sig.returnType = some .boolean) (hlk : meth.locks = false) (eT : T.heap = h) (N : Fr n0 locs) (hc : cells ≤ 0) (hs : slots ≤ 0) (v : Int32) (hv : v = f1_28 i0 i1) (hQ : ∀ L', Fr n0 L' → Q (some (.int v)) h L') :
    own_Fin p e below s Q 0 0 (T.setTop (mkF m 28 #[.val (.int i0), .val (.int i1)] [])) := by
  refine own_step (fun t k => XS.iloadN X.here hx rfl (hb hby d1_28) rfl  k) ?_
  show own_Fin p e below s Q 0 0 (T.setTop (mkF m 29 #[.val (.int i0), .val (.int i1)] [(.int i0)]))
  refine own_step (X.ldcInt hx hown (mvT hZ (hw _ (List.mem_of_getElem? (i := 7) rfl))) (g := (mkF m 29 #[.val (.int i0), .val (.int i1)] [(.int i0)])) rfl (hb hby d1_29)) ?_
  show own_Fin p e below s Q 0 0 (T.setTop (mkF m 31 #[.val (.int i0), .val (.int i1)] [(.int (65536 : Int32)), (.int i0)]))
  by_cases hB31_5 : i0 < (65536 : Int32)
  · refine own_step (fun t k => XS.icmpYes X.here hx rfl (pc0 := 31) (pc' := 42) rfl (hb hby d1_31) rfl (tlt hB31_5).1 (by decide) (by decide) k) ?_
    exact b1_42 i0 i1 hw X hx hZ hby hml hown hret hlk eT N (by omega) (by omega) v (hv.trans (if_pos hB31_5)) hQ
  · refine own_step (fun t k => XS.icmpNo X.here hx rfl (hb hby d1_31) rfl (flt hB31_5).1 k) ?_
    exact b1_34 i0 i1 hw X hx hZ hby hml hown hret hlk eT N (by omega) (by omega) v (hv.trans (if_neg hB31_5)) hQ
def f1_26 (i0 : Int32) (i1 : Int32) : Int32 := (1 : Int32)
set_option maxRecDepth 65536 in
set_option maxHeartbeats 40000000 in
theorem b1_26 {p : Program} {l : Launch} {e : Env} {s : State} {m : MethodId} {args : Array Value} {below : List Frame} {meth : Method} {c : Code} {T : State} {locs : List Loc} {cells slots : Nat} {Z : State} {a0 : Array Value} {h : Heap} {n0 : Nat} {Q : Option Value → Heap → List Loc → Prop} (i0 : Int32) (i1 : Int32) (hw : ∀ d ∈ tables_1, d.before a0 Z = true) (X : Stand p l e ({ frames := 0, cells := 0, slots := 0, locals := 0 } : Room) s m args below meth c T locs cells slots) (hx : p.tables.exec = Jvm.exec) (hZ : Z.Warmed39 s.vm) (hby : c.code = method_3_code) (hml : c.maxLocals = 2) (hown : s.vm.findClass "com/example/zoria/zoria/xml/XmlScannerIsReferablePinLaw" = some m.cls) (hret : meth.sig.returnType = some .boolean) (hlk : meth.locks = false) (eT : T.heap = h) (N : Fr n0 locs) (hc : cells ≤ 0) (hs : slots ≤ 0) (v : Int32) (hv : v = f1_26 i0 i1) (hQ : ∀ L', Fr n0 L' → Q (some (.int v)) h L') :
    own_Fin p e below s Q 0 0 (T.setTop (mkF m 26 #[.val (.int i0), .val (.int i1)] [])) := by
  refine own_step (fun t k => XS.iconst X.here hx rfl (hb hby d1_26) k) ?_
  show own_Fin p e below s Q 0 0 (T.setTop (mkF m 27 #[.val (.int i0), .val (.int i1)] [(.int (1 : Int32))]))
  exact own_retN X hx hlk hret (by simp) (hb hby d1_27) (by omega) (by omega) eT N hQ (hv)
def f1_20 (i0 : Int32) (i1 : Int32) : Int32 := if (65533 : Int32) < i0 then f1_28 i0 i1 else f1_26 i0 i1
set_option maxRecDepth 65536 in
set_option maxHeartbeats 40000000 in
theorem b1_20 {p : Program} {l : Launch} {e : Env} {s : State} {m : MethodId} {args : Array Value} {below : List Frame} {meth : Method} {c : Code} {T : State} {locs : List Loc} {cells slots : Nat} {Z : State} {a0 : Array Value} {h : Heap} {n0 : Nat} {Q : Option Value → Heap → List Loc → Prop} (i0 : Int32) (i1 : Int32) (hw : ∀ d ∈ tables_1, d.before a0 Z = true) (X : Stand p l e ({ frames := 0, cells := 0, slots := 0, locals := 0 } : Room) s m args below meth c T locs cells slots) (hx : p.tables.exec = Jvm.exec) (hZ : Z.Warmed39 s.vm) (hby : c.code = method_3_code) (hml : c.maxLocals = 2) (hown : s.vm.findClass "com/example/zoria/zoria/xml/XmlScannerIsReferablePinLaw" = some m.cls) (hret : meth.sig.returnType = some .boolean) (hlk : meth.locks = false) (eT : T.heap = h) (N : Fr n0 locs) (hc : cells ≤ 0) (hs : slots ≤ 0) (v : Int32) (hv : v = f1_20 i0 i1) (hQ : ∀ L', Fr n0 L' → Q (some (.int v)) h L') :
    own_Fin p e below s Q 0 0 (T.setTop (mkF m 20 #[.val (.int i0), .val (.int i1)] [])) := by
  refine own_step (fun t k => XS.iloadN X.here hx rfl (hb hby d1_20) rfl  k) ?_
  show own_Fin p e below s Q 0 0 (T.setTop (mkF m 21 #[.val (.int i0), .val (.int i1)] [(.int i0)]))
  refine own_step (X.ldcInt hx hown (mvT hZ (hw _ (List.mem_of_getElem? (i := 4) rfl))) (g := (mkF m 21 #[.val (.int i0), .val (.int i1)] [(.int i0)])) rfl (hb hby d1_21)) ?_
  show own_Fin p e below s Q 0 0 (T.setTop (mkF m 23 #[.val (.int i0), .val (.int i1)] [(.int (65533 : Int32)), (.int i0)]))
  by_cases hB23_30 : (65533 : Int32) < i0
  · refine own_step (fun t k => XS.icmpYes X.here hx rfl (pc0 := 23) (pc' := 28) rfl (hb hby d1_23) rfl (tlt hB23_30).2.2.1 (by decide) (by decide) k) ?_
    exact b1_28 i0 i1 hw X hx hZ hby hml hown hret hlk eT N (by omega) (by omega) v (hv.trans (if_pos hB23_30)) hQ
  · refine own_step (fun t k => XS.icmpNo X.here hx rfl (hb hby d1_23) rfl (flt hB23_30).2.2.1 k) ?_
    exact b1_26 i0 i1 hw X hx hZ hby hml hown hret hlk eT N (by omega) (by omega) v (hv.trans (if_neg hB23_30)) hQ
def f1_14 (i0 : Int32) (i1 : Int32) : Int32 := if i0 < (57344 : Int32) then f1_28 i0 i1 else f1_20 i0 i1
set_option maxRecDepth 65536 in
set_option maxHeartbeats 40000000 in
theorem b1_14 {p : Program} {l : Launch} {e : Env} {s : State} {m : MethodId} {args : Array Value} {below : List Frame} {meth : Method} {c : Code} {T : State} {locs : List Loc} {cells slots : Nat} {Z : State} {a0 : Array Value} {h : Heap} {n0 : Nat} {Q : Option Value → Heap → List Loc → Prop} (i0 : Int32) (i1 : Int32) (hw : ∀ d ∈ tables_1, d.before a0 Z = true) (X : Stand p l e ({ frames := 0, cells := 0, slots := 0, locals := 0 } : Room) s m args below meth c T locs cells slots) (hx : p.tables.exec = Jvm.exec) (hZ : Z.Warmed39 s.vm) (hby : c.code = method_3_code) (hml : c.maxLocals = 2) (hown : s.vm.findClass "com/example/zoria/zoria/xml/XmlScannerIsReferablePinLaw" = some m.cls) (hret : meth.sig.returnType = some .boolean) (hlk : meth.locks = false) (eT : T.heap = h) (N : Fr n0 locs) (hc : cells ≤ 0) (hs : slots ≤ 0) (v : Int32) (hv : v = f1_14 i0 i1) (hQ : ∀ L', Fr n0 L' → Q (some (.int v)) h L') :
    own_Fin p e below s Q 0 0 (T.setTop (mkF m 14 #[.val (.int i0), .val (.int i1)] [])) := by
  refine own_step (fun t k => XS.iloadN X.here hx rfl (hb hby d1_14) rfl  k) ?_
  show own_Fin p e below s Q 0 0 (T.setTop (mkF m 15 #[.val (.int i0), .val (.int i1)] [(.int i0)]))
  refine own_step (X.ldcInt hx hown (mvT hZ (hw _ (List.mem_of_getElem? (i := 3) rfl))) (g := (mkF m 15 #[.val (.int i0), .val (.int i1)] [(.int i0)])) rfl (hb hby d1_15)) ?_
  show own_Fin p e below s Q 0 0 (T.setTop (mkF m 17 #[.val (.int i0), .val (.int i1)] [(.int (57344 : Int32)), (.int i0)]))
  by_cases hB17_3 : i0 < (57344 : Int32)
  · refine own_step (fun t k => XS.icmpYes X.here hx rfl (pc0 := 17) (pc' := 28) rfl (hb hby d1_17) rfl (tlt hB17_3).1 (by decide) (by decide) k) ?_
    exact b1_28 i0 i1 hw X hx hZ hby hml hown hret hlk eT N (by omega) (by omega) v (hv.trans (if_pos hB17_3)) hQ
  · refine own_step (fun t k => XS.icmpNo X.here hx rfl (hb hby d1_17) rfl (flt hB17_3).1 k) ?_
    exact b1_20 i0 i1 hw X hx hZ hby hml hown hret hlk eT N (by omega) (by omega) v (hv.trans (if_neg hB17_3)) hQ
def f1_12 (i0 : Int32) (i1 : Int32) : Int32 := (1 : Int32)
set_option maxRecDepth 65536 in
set_option maxHeartbeats 40000000 in
theorem b1_12 {p : Program} {l : Launch} {e : Env} {s : State} {m : MethodId} {args : Array Value} {below : List Frame} {meth : Method} {c : Code} {T : State} {locs : List Loc} {cells slots : Nat} {Z : State} {a0 : Array Value} {h : Heap} {n0 : Nat} {Q : Option Value → Heap → List Loc → Prop} (i0 : Int32) (i1 : Int32) (hw : ∀ d ∈ tables_1, d.before a0 Z = true) (X : Stand p l e ({ frames := 0, cells := 0, slots := 0, locals := 0 } : Room) s m args below meth c T locs cells slots) (hx : p.tables.exec = Jvm.exec) (hZ : Z.Warmed39 s.vm) (hby : c.code = method_3_code) (hml : c.maxLocals = 2) (hown : s.vm.findClass "com/example/zoria/zoria/xml/XmlScannerIsReferablePinLaw" = some m.cls) (hret : meth.sig.returnType = some .boolean) (hlk : meth.locks = false) (eT : T.heap = h) (N : Fr n0 locs) (hc : cells ≤ 0) (hs : slots ≤ 0) (v : Int32) (hv : v = f1_12 i0 i1) (hQ : ∀ L', Fr n0 L' → Q (some (.int v)) h L') :
    own_Fin p e below s Q 0 0 (T.setTop (mkF m 12 #[.val (.int i0), .val (.int i1)] [])) := by
  refine own_step (fun t k => XS.iconst X.here hx rfl (hb hby d1_12) k) ?_
  show own_Fin p e below s Q 0 0 (T.setTop (mkF m 13 #[.val (.int i0), .val (.int i1)] [(.int (1 : Int32))]))
  exact own_retN X hx hlk hret (by simp) (hb hby d1_13) (by omega) (by omega) eT N hQ (hv)
def f1_6 (i0 : Int32) (i1 : Int32) : Int32 := if (55295 : Int32) < i0 then f1_14 i0 i1 else f1_12 i0 i1
set_option maxRecDepth 65536 in
set_option maxHeartbeats 40000000 in
theorem b1_6 {p : Program} {l : Launch} {e : Env} {s : State} {m : MethodId} {args : Array Value} {below : List Frame} {meth : Method} {c : Code} {T : State} {locs : List Loc} {cells slots : Nat} {Z : State} {a0 : Array Value} {h : Heap} {n0 : Nat} {Q : Option Value → Heap → List Loc → Prop} (i0 : Int32) (i1 : Int32) (hw : ∀ d ∈ tables_1, d.before a0 Z = true) (X : Stand p l e ({ frames := 0, cells := 0, slots := 0, locals := 0 } : Room) s m args below meth c T locs cells slots) (hx : p.tables.exec = Jvm.exec) (hZ : Z.Warmed39 s.vm) (hby : c.code = method_3_code) (hml : c.maxLocals = 2) (hown : s.vm.findClass "com/example/zoria/zoria/xml/XmlScannerIsReferablePinLaw" = some m.cls) (hret : meth.sig.returnType = some .boolean) (hlk : meth.locks = false) (eT : T.heap = h) (N : Fr n0 locs) (hc : cells ≤ 0) (hs : slots ≤ 0) (v : Int32) (hv : v = f1_6 i0 i1) (hQ : ∀ L', Fr n0 L' → Q (some (.int v)) h L') :
    own_Fin p e below s Q 0 0 (T.setTop (mkF m 6 #[.val (.int i0), .val (.int i1)] [])) := by
  refine own_step (fun t k => XS.iloadN X.here hx rfl (hb hby d1_6) rfl  k) ?_
  show own_Fin p e below s Q 0 0 (T.setTop (mkF m 7 #[.val (.int i0), .val (.int i1)] [(.int i0)]))
  refine own_step (X.ldcInt hx hown (mvT hZ (hw _ (List.mem_of_getElem? (i := 22) rfl))) (g := (mkF m 7 #[.val (.int i0), .val (.int i1)] [(.int i0)])) rfl (hb hby d1_7)) ?_
  show own_Fin p e below s Q 0 0 (T.setTop (mkF m 9 #[.val (.int i0), .val (.int i1)] [(.int (55295 : Int32)), (.int i0)]))
  by_cases hB9_34 : (55295 : Int32) < i0
  · refine own_step (fun t k => XS.icmpYes X.here hx rfl (pc0 := 9) (pc' := 14) rfl (hb hby d1_9) rfl (tlt hB9_34).2.2.1 (by decide) (by decide) k) ?_
    exact b1_14 i0 i1 hw X hx hZ hby hml hown hret hlk eT N (by omega) (by omega) v (hv.trans (if_pos hB9_34)) hQ
  · refine own_step (fun t k => XS.icmpNo X.here hx rfl (hb hby d1_9) rfl (flt hB9_34).2.2.1 k) ?_
    exact b1_12 i0 i1 hw X hx hZ hby hml hown hret hlk eT N (by omega) (by omega) v (hv.trans (if_neg hB9_34)) hQ
def f1_0 (i0 : Int32) (i1 : Int32) : Int32 := if i0 < (32 : Int32) then f1_14 i0 i1 else f1_6 i0 i1
set_option maxRecDepth 65536 in
set_option maxHeartbeats 40000000 in
theorem b1_0 {p : Program} {l : Launch} {e : Env} {s : State} {m : MethodId} {args : Array Value} {below : List Frame} {meth : Method} {c : Code} {T : State} {locs : List Loc} {cells slots : Nat} {Z : State} {a0 : Array Value} {h : Heap} {n0 : Nat} {Q : Option Value → Heap → List Loc → Prop} (i0 : Int32) (i1 : Int32) (hw : ∀ d ∈ tables_1, d.before a0 Z = true) (X : Stand p l e ({ frames := 0, cells := 0, slots := 0, locals := 0 } : Room) s m args below meth c T locs cells slots) (hx : p.tables.exec = Jvm.exec) (hZ : Z.Warmed39 s.vm) (hby : c.code = method_3_code) (hml : c.maxLocals = 2) (hown : s.vm.findClass "com/example/zoria/zoria/xml/XmlScannerIsReferablePinLaw" = some m.cls) (hret : meth.sig.returnType = some .boolean) (hlk : meth.locks = false) (eT : T.heap = h) (N : Fr n0 locs) (hc : cells ≤ 0) (hs : slots ≤ 0) (v : Int32) (hv : v = f1_0 i0 i1) (hQ : ∀ L', Fr n0 L' → Q (some (.int v)) h L') :
    own_Fin p e below s Q 0 0 (T.setTop (mkF m 0 #[.val (.int i0), .val (.int i1)] [])) := by
  refine own_step (fun t k => XS.iloadN X.here hx rfl (hb hby d1_0) rfl  k) ?_
  show own_Fin p e below s Q 0 0 (T.setTop (mkF m 1 #[.val (.int i0), .val (.int i1)] [(.int i0)]))
  refine own_step (fun t k => XS.bipush X.here hx rfl (hb hby d1_1) k) ?_
  show own_Fin p e below s Q 0 0 (T.setTop (mkF m 3 #[.val (.int i0), .val (.int i1)] [(.int (32 : Int32)), (.int i0)]))
  by_cases hB3_1 : i0 < (32 : Int32)
  · refine own_step (fun t k => XS.icmpYes X.here hx rfl (pc0 := 3) (pc' := 14) rfl (hb hby d1_3) rfl (tlt hB3_1).1 (by decide) (by decide) k) ?_
    exact b1_14 i0 i1 hw X hx hZ hby hml hown hret hlk eT N (by omega) (by omega) v (hv.trans (if_pos hB3_1)) hQ
  · refine own_step (fun t k => XS.icmpNo X.here hx rfl (hb hby d1_3) rfl (flt hB3_1).1 k) ?_
    exact b1_6 i0 i1 hw X hx hZ hby hml hown hret hlk eT N (by omega) (by omega) v (hv.trans (if_neg hB3_1)) hQ
theorem pnm_0 : plainName "com/example/zoria/zoria/xml/XmlScannerIsReferablePinLaw" = true := by first | (simp [plainName, overriddenIn]; done) | decide +kernel
theorem pdm_0 : parseMethodDescriptor "(IZ)Z" = some ⟨[.int, .boolean], some .boolean⟩ := by decide +kernel
theorem ef_1 (m : MethodId) (i0 : Int32) (i1 : Int32) : entryFrame m #[(.int i0), (.int i1)] 2 = (mkF m 0 #[.val (.int i0), .val (.int i1)] []) := by first | (simp [entryFrame, mkF, argsToLocals, Value.category]; done) | rfl
def Q1 (i0 : Int32) (i1 : Int32) (h0 : Heap) (n0 : Nat) (v : Option Value) (h : Heap) (L : List Loc) : Prop := v = some (.int (f1_0 i0 i1)) ∧ Fr n0 L ∧ h = h0
set_option maxRecDepth 65536 in
set_option maxHeartbeats 4000000 in
theorem rm1 (l : Launch) (Z : State) (a0 : Array Value) (hw : ∀ d ∈ tables_1, d.before a0 Z = true) (ws : List Jvm.Cond) (i0 : Int32) (i1 : Int32) (h0 : Heap) (n0 : Nat) :
    MetFree l (⟨"com/example/zoria/zoria/xml/XmlScannerIsReferablePinLaw", "expected", "(IZ)Z"⟩ : MethodName) (head1 (Jvm.Cond.code (⟨"com/example/zoria/zoria/xml/XmlScannerIsReferablePinLaw", "expected", "(IZ)Z"⟩ : MethodName) method_3_code 2 (some .boolean) :: ws) ({ frames := 0, cells := 0, slots := 0, locals := 0 } : Room)) (fun a U => a = #[(.int i0), (.int i1)] ∧ Z.Warmed39 U.vm ∧ U.heap = h0) (fun _ _ _ _ _ => True) (fun _ U o U' => ∃ v L, o = .returned v ∧ Q1 i0 i1 h0 n0 v U'.heap L ∧ FrameEnd U o U' L ({ frames := 0, cells := 0, slots := 0, locals := 0 } : Room).cells ({ frames := 0, cells := 0, slots := 0, locals := 0 } : Room).slots) := by
  refine MetFree.of_bodySF (plainFor_of_name pnm_0) hisR ?_
  intro p e s m args below meth c s₁ Bd hml0 hP hK
  obtain ⟨rfl, hZ, hh⟩ := hP
  have hx := Bd.exec
  have hby := Bd.bytes
  have hml : c.maxLocals = 2 := hml0
  have hown : s.vm.findClass "com/example/zoria/zoria/xml/XmlScannerIsReferablePinLaw" = some m.cls := findClass_of_methodNamed Bd.named
  have X0 : Stand p l e ({ frames := 0, cells := 0, slots := 0, locals := 0 } : Room) s m #[(.int i0), (.int i1)] below meth c s₁ [] 0 0 := Stand.of_body Bd
  have e0 : s₁.heap = h0 := by rw [← hh, Bd.state]; rfl
  have fin := b1_0 i0 i1 (Q := Q1 i0 i1 h0 n0) hw X0 hx hZ hby hml hown Bd.returns (BodyLoose.notSynchronized Bd) e0 (Fr.nil n0) (Nat.zero_le _) (Nat.zero_le _) _ rfl (fun L' n' => ⟨rfl, n', rfl⟩)
  exact own_step (fun t k => castTop (ef_1 m i0 i1) k) fin
theorem d2_0 : decode prog_134_method_79_code 0 = .ok (.iload_n 0, 1) := by decide +kernel
theorem d2_1 : decode prog_134_method_79_code 1 = .ok (.bipush 9, 2) := by decide +kernel
theorem d2_3 : decode prog_134_method_79_code 3 = .ok (.if_icmp .eq 21, 3) := by decide +kernel
theorem d2_6 : decode prog_134_method_79_code 6 = .ok (.iload_n 0, 1) := by decide +kernel
theorem d2_7 : decode prog_134_method_79_code 7 = .ok (.bipush 10, 2) := by decide +kernel
theorem d2_9 : decode prog_134_method_79_code 9 = .ok (.if_icmp .eq 15, 3) := by decide +kernel
theorem d2_12 : decode prog_134_method_79_code 12 = .ok (.iload_n 0, 1) := by decide +kernel
theorem d2_13 : decode prog_134_method_79_code 13 = .ok (.bipush 13, 2) := by decide +kernel
theorem d2_15 : decode prog_134_method_79_code 15 = .ok (.if_icmp .eq 9, 3) := by decide +kernel
theorem d2_18 : decode prog_134_method_79_code 18 = .ok (.iload_n 0, 1) := by decide +kernel
theorem d2_19 : decode prog_134_method_79_code 19 = .ok (.bipush 32, 2) := by decide +kernel
theorem d2_21 : decode prog_134_method_79_code 21 = .ok (.if_icmp .lt 7, 3) := by decide +kernel
theorem d2_24 : decode prog_134_method_79_code 24 = .ok (.iconst 1, 1) := by decide +kernel
theorem d2_25 : decode prog_134_method_79_code 25 = .ok (.goto 4, 3) := by decide +kernel
theorem d2_28 : decode prog_134_method_79_code 28 = .ok (.iconst 0, 1) := by decide +kernel
theorem d2_29 : decode prog_134_method_79_code 29 = .ok (.istore_n 2, 1) := by decide +kernel
theorem d2_30 : decode prog_134_method_79_code 30 = .ok (.iload_n 2, 1) := by decide +kernel
theorem d2_31 : decode prog_134_method_79_code 31 = .ok (.ifCond .ne 12, 3) := by decide +kernel
theorem d2_34 : decode prog_134_method_79_code 34 = .ok (.iload_n 1, 1) := by decide +kernel
theorem d2_35 : decode prog_134_method_79_code 35 = .ok (.ifCond .eq 12, 3) := by decide +kernel
theorem d2_38 : decode prog_134_method_79_code 38 = .ok (.iload_n 0, 1) := by decide +kernel
theorem d2_39 : decode prog_134_method_79_code 39 = .ok (.iconst 1, 1) := by decide +kernel
theorem d2_40 : decode prog_134_method_79_code 40 = .ok (.if_icmp .lt 7, 3) := by decide +kernel
theorem d2_43 : decode prog_134_method_79_code 43 = .ok (.iconst 1, 1) := by decide +kernel
theorem d2_44 : decode prog_134_method_79_code 44 = .ok (.goto 4, 3) := by decide +kernel
theorem d2_47 : decode prog_134_method_79_code 47 = .ok (.iconst 0, 1) := by decide +kernel
theorem d2_48 : decode prog_134_method_79_code 48 = .ok (.istore_n 3, 1) := by decide +kernel
theorem d2_49 : decode prog_134_method_79_code 49 = .ok (.iload_n 3, 1) := by decide +kernel
theorem d2_50 : decode prog_134_method_79_code 50 = .ok (.ifCond .eq 42, 3) := by decide +kernel
theorem d2_53 : decode prog_134_method_79_code 53 = .ok (.iload_n 0, 1) := by decide +kernel
theorem d2_54 : decode prog_134_method_79_code 54 = .ok (.ldc_w 812, 3) := by decide +kernel
theorem d2_57 : decode prog_134_method_79_code 57 = .ok (.if_icmp .lt 10, 3) := by decide +kernel
theorem d2_60 : decode prog_134_method_79_code 60 = .ok (.iload_n 0, 1) := by decide +kernel
theorem d2_61 : decode prog_134_method_79_code 61 = .ok (.ldc_w 813, 3) := by decide +kernel
theorem d2_64 : decode prog_134_method_79_code 64 = .ok (.if_icmp .le 28, 3) := by decide +kernel
theorem d2_67 : decode prog_134_method_79_code 67 = .ok (.iload_n 0, 1) := by decide +kernel
theorem d2_68 : decode prog_134_method_79_code 68 = .ok (.ldc_w 814, 3) := by decide +kernel
theorem d2_71 : decode prog_134_method_79_code 71 = .ok (.if_icmp .eq 21, 3) := by decide +kernel
theorem d2_74 : decode prog_134_method_79_code 74 = .ok (.iload_n 0, 1) := by decide +kernel
theorem d2_75 : decode prog_134_method_79_code 75 = .ok (.ldc_w 774, 3) := by decide +kernel
theorem d2_78 : decode prog_134_method_79_code 78 = .ok (.if_icmp .eq 14, 3) := by decide +kernel
theorem d2_81 : decode prog_134_method_79_code 81 = .ok (.iload_n 0, 1) := by decide +kernel
theorem d2_82 : decode prog_134_method_79_code 82 = .ok (.ldc_w 815, 3) := by decide +kernel
theorem d2_85 : decode prog_134_method_79_code 85 = .ok (.if_icmp .gt 7, 3) := by decide +kernel
theorem d2_88 : decode prog_134_method_79_code 88 = .ok (.iconst 1, 1) := by decide +kernel
theorem d2_89 : decode prog_134_method_79_code 89 = .ok (.goto 4, 3) := by decide +kernel
theorem d2_92 : decode prog_134_method_79_code 92 = .ok (.iconst 0, 1) := by decide +kernel
theorem d2_93 : decode prog_134_method_79_code 93 = .ok (.ireturn, 1) := by decide +kernel
def f2_93 (i0 : Int32) (i1 : Int32) (i2 : Int32) (i3 : Int32) (is0 : Int32) : Int32 := (nar .boolean is0)
set_option maxRecDepth 65536 in
set_option maxHeartbeats 40000000 in
theorem b2_93 {p : Program} {l : Launch} {e : Env} {s : State} {m : MethodId} {args : Array Value} {below : List Frame} {meth : Method} {c : Code} {T : State} {locs : List Loc} {cells slots : Nat} {Z : State} {a0 : Array Value} {h : Heap} {n0 : Nat} {Q : Option Value → Heap → List Loc → Prop} (i0 : Int32) (i1 : Int32) (i2 : Int32) (i3 : Int32) (is0 : Int32) (hw : ∀ d ∈ tables_1, d.before a0 Z = true) (X : Stand p l e ({ frames := 0, cells := 0, slots := 0, locals := 0 } : Room) s m args below meth c T locs cells slots) (hx : p.tables.exec = Jvm.exec) (hZ : Z.Warmed39 s.vm) (hby : c.code = prog_134_method_79_code) (hml : c.maxLocals = 4) (hown : s.vm.findClass "com/example/zoria/zoria/xml/XmlScanner" = some m.cls) (hret : meth.sig.returnType = some .boolean) (hlk : meth.locks = false) (eT : T.heap = h) (N : Fr n0 locs) (hc : cells ≤ 0) (hs : slots ≤ 0) (v : Int32) (hv : v = f2_93 i0 i1 i2 i3 is0) (hQ : ∀ L', Fr n0 L' → Q (some (.int v)) h L') :
    own_Fin p e below s Q 0 0 (T.setTop (mkF m 93 #[.val (.int i0), .val (.int i1), .val (.int i2), .val (.int i3)] [(.int is0)])) := by
  exact own_retN X hx hlk hret (by simp) (hb hby d2_93) (by omega) (by omega) eT N hQ (hv)
def f2_92 (i0 : Int32) (i1 : Int32) (i2 : Int32) (i3 : Int32) : Int32 := f2_93 i0 i1 i2 i3 (0 : Int32)
set_option maxRecDepth 65536 in
set_option maxHeartbeats 40000000 in
theorem b2_92 {p : Program} {l : Launch} {e : Env} {s : State} {m : MethodId} {args : Array Value} {below : List Frame} {meth : Method} {c : Code} {T : State} {locs : List Loc} {cells slots : Nat} {Z : State} {a0 : Array Value} {h : Heap} {n0 : Nat} {Q : Option Value → Heap → List Loc → Prop} (i0 : Int32) (i1 : Int32) (i2 : Int32) (i3 : Int32) (hw : ∀ d ∈ tables_1, d.before a0 Z = true) (X : Stand p l e ({ frames := 0, cells := 0, slots := 0, locals := 0 } : Room) s m args below meth c T locs cells slots) (hx : p.tables.exec = Jvm.exec) (hZ : Z.Warmed39 s.vm) (hby : c.code = prog_134_method_79_code) (hml : c.maxLocals = 4) (hown : s.vm.findClass "com/example/zoria/zoria/xml/XmlScanner" = some m.cls) (hret : meth.sig.returnType = some .boolean) (hlk : meth.locks = false) (eT : T.heap = h) (N : Fr n0 locs) (hc : cells ≤ 0) (hs : slots ≤ 0) (v : Int32) (hv : v = f2_92 i0 i1 i2 i3) (hQ : ∀ L', Fr n0 L' → Q (some (.int v)) h L') :
    own_Fin p e below s Q 0 0 (T.setTop (mkF m 92 #[.val (.int i0), .val (.int i1), .val (.int i2), .val (.int i3)] [])) := by
  refine own_step (fun t k => XS.iconst X.here hx rfl (hb hby d2_92) k) ?_
  exact b2_93 i0 i1 i2 i3 (0 : Int32) hw X hx hZ hby hml hown hret hlk eT N (by omega) (by omega) v (hv) hQ
def f2_88 (i0 : Int32) (i1 : Int32) (i2 : Int32) (i3 : Int32) : Int32 := f2_93 i0 i1 i2 i3 (1 : Int32)
set_option maxRecDepth 65536 in
set_option maxHeartbeats 40000000 in
theorem b2_88 {p : Program} {l : Launch} {e : Env} {s : State} {m : MethodId} {args : Array Value} {below : List Frame} {meth : Method} {c : Code} {T : State} {locs : List Loc} {cells slots : Nat} {Z : State} {a0 : Array Value} {h : Heap} {n0 : Nat} {Q : Option Value → Heap → List Loc → Prop} (i0 : Int32) (i1 : Int32) (i2 : Int32) (i3 : Int32) (hw : ∀ d ∈ tables_1, d.before a0 Z = true) (X : Stand p l e ({ frames := 0, cells := 0, slots := 0, locals := 0 } : Room) s m args below meth c T locs cells slots) (hx : p.tables.exec = Jvm.exec) (hZ : Z.Warmed39 s.vm) (hby : c.code = prog_134_method_79_code) (hml : c.maxLocals = 4) (hown : s.vm.findClass "com/example/zoria/zoria/xml/XmlScanner" = some m.cls) (hret : meth.sig.returnType = some .boolean) (hlk : meth.locks = false) (eT : T.heap = h) (N : Fr n0 locs) (hc : cells ≤ 0) (hs : slots ≤ 0) (v : Int32) (hv : v = f2_88 i0 i1 i2 i3) (hQ : ∀ L', Fr n0 L' → Q (some (.int v)) h L') :
    own_Fin p e below s Q 0 0 (T.setTop (mkF m 88 #[.val (.int i0), .val (.int i1), .val (.int i2), .val (.int i3)] [])) := by
  refine own_step (fun t k => XS.iconst X.here hx rfl (hb hby d2_88) k) ?_
  show own_Fin p e below s Q 0 0 (T.setTop (mkF m 89 #[.val (.int i0), .val (.int i1), .val (.int i2), .val (.int i3)] [(.int (1 : Int32))]))
  refine own_step (fun t k => XS.goto X.here hx rfl (pc0 := 89) (pc' := 93) rfl (hb hby d2_89) (by decide) (by decide) k) ?_
  exact b2_93 i0 i1 i2 i3 (1 : Int32) hw X hx hZ hby hml hown hret hlk eT N (by omega) (by omega) v (hv) hQ
def f2_81 (i0 : Int32) (i1 : Int32) (i2 : Int32) (i3 : Int32) : Int32 := if (1114111 : Int32) < i0 then f2_92 i0 i1 i2 i3 else f2_88 i0 i1 i2 i3
set_option maxRecDepth 65536 in
set_option maxHeartbeats 40000000 in
theorem b2_81 {p : Program} {l : Launch} {e : Env} {s : State} {m : MethodId} {args : Array Value} {below : List Frame} {meth : Method} {c : Code} {T : State} {locs : List Loc} {cells slots : Nat} {Z : State} {a0 : Array Value} {h : Heap} {n0 : Nat} {Q : Option Value → Heap → List Loc → Prop} (i0 : Int32) (i1 : Int32) (i2 : Int32) (i3 : Int32) (hw : ∀ d ∈ tables_1, d.before a0 Z = true) (X : Stand p l e ({ frames := 0, cells := 0, slots := 0, locals := 0 } : Room) s m args below meth c T locs cells slots) (hx : p.tables.exec = Jvm.exec) (hZ : Z.Warmed39 s.vm) (hby : c.code = prog_134_method_79_code) (hml : c.maxLocals = 4) (hown : s.vm.findClass "com/example/zoria/zoria/xml/XmlScanner" = some m.cls) (hret : meth.sig.returnType = some .boolean) (hlk : meth.locks = false) (eT : T.heap = h) (N : Fr n0 locs) (hc : cells ≤ 0) (hs : slots ≤ 0) (v : Int32) (hv : v = f2_81 i0 i1 i2 i3) (hQ : ∀ L', Fr n0 L' → Q (some (.int v)) h L') :
    own_Fin p e below s Q 0 0 (T.setTop (mkF m 81 #[.val (.int i0), .val (.int i1), .val (.int i2), .val (.int i3)] [])) := by
  refine own_step (fun t k => XS.iloadN X.here hx rfl (hb hby d2_81) rfl  k) ?_
  show own_Fin p e below s Q 0 0 (T.setTop (mkF m 82 #[.val (.int i0), .val (.int i1), .val (.int i2), .val (.int i3)] [(.int i0)]))
  refine own_step (X.ldcwInt hx hown (mvT hZ (hw _ (List.mem_of_getElem? (i := 21) rfl))) (g := (mkF m 82 #[.val (.int i0), .val (.int i1), .val (.int i2), .val (.int i3)] [(.int i0)])) rfl (hb hby d2_82)) ?_
  show own_Fin p e below s Q 0 0 (T.setTop (mkF m 85 #[.val (.int i0), .val (.int i1), .val (.int i2), .val (.int i3)] [(.int (1114111 : Int32)), (.int i0)]))
  by_cases hB85_54 : (1114111 : Int32) < i0
  · refine own_step (fun t k => XS.icmpYes X.here hx rfl (pc0 := 85) (pc' := 92) rfl (hb hby d2_85) rfl (tlt hB85_54).2.2.1 (by decide) (by decide) k) ?_
    exact b2_92 i0 i1 i2 i3 hw X hx hZ hby hml hown hret hlk eT N (by omega) (by omega) v (hv.trans (if_pos hB85_54)) hQ
  · refine own_step (fun t k => XS.icmpNo X.here hx rfl (hb hby d2_85) rfl (flt hB85_54).2.2.1 k) ?_
    exact b2_88 i0 i1 i2 i3 hw X hx hZ hby hml hown hret hlk eT N (by omega) (by omega) v (hv.trans (if_neg hB85_54)) hQ
def f2_74 (i0 : Int32) (i1 : Int32) (i2 : Int32) (i3 : Int32) : Int32 := if i0 = (65535 : Int32) then f2_92 i0 i1 i2 i3 else f2_81 i0 i1 i2 i3
set_option maxRecDepth 65536 in
set_option maxHeartbeats 40000000 in
theorem b2_74 {p : Program} {l : Launch} {e : Env} {s : State} {m : MethodId} {args : Array Value} {below : List Frame} {meth : Method} {c : Code} {T : State} {locs : List Loc} {cells slots : Nat} {Z : State} {a0 : Array Value} {h : Heap} {n0 : Nat} {Q : Option Value → Heap → List Loc → Prop} (i0 : Int32) (i1 : Int32) (i2 : Int32) (i3 : Int32) (hw : ∀ d ∈ tables_1, d.before a0 Z = true) (X : Stand p l e ({ frames := 0, cells := 0, slots := 0, locals := 0 } : Room) s m args below meth c T locs cells slots) (hx : p.tables.exec = Jvm.exec) (hZ : Z.Warmed39 s.vm) (hby : c.code = prog_134_method_79_code) (hml : c.maxLocals = 4) (hown : s.vm.findClass "com/example/zoria/zoria/xml/XmlScanner" = some m.cls) (hret : meth.sig.returnType = some .boolean) (hlk : meth.locks = false) (eT : T.heap = h) (N : Fr n0 locs) (hc : cells ≤ 0) (hs : slots ≤ 0) (v : Int32) (hv : v = f2_74 i0 i1 i2 i3) (hQ : ∀ L', Fr n0 L' → Q (some (.int v)) h L') :
    own_Fin p e below s Q 0 0 (T.setTop (mkF m 74 #[.val (.int i0), .val (.int i1), .val (.int i2), .val (.int i3)] [])) := by
  refine own_step (fun t k => XS.iloadN X.here hx rfl (hb hby d2_74) rfl  k) ?_
  show own_Fin p e below s Q 0 0 (T.setTop (mkF m 75 #[.val (.int i0), .val (.int i1), .val (.int i2), .val (.int i3)] [(.int i0)]))
  refine own_step (X.ldcwInt hx hown (mvT hZ (hw _ (List.mem_of_getElem? (i := 20) rfl))) (g := (mkF m 75 #[.val (.int i0), .val (.int i1), .val (.int i2), .val (.int i3)] [(.int i0)])) rfl (hb hby d2_75)) ?_
  show own_Fin p e below s Q 0 0 (T.setTop (mkF m 78 #[.val (.int i0), .val (.int i1), .val (.int i2), .val (.int i3)] [(.int (65535 : Int32)), (.int i0)]))
  by_cases hB78_51 : i0 = (65535 : Int32)
  · refine own_step (fun t k => XS.icmpYes X.here hx rfl (pc0 := 78) (pc' := 92) rfl (hb hby d2_78) rfl (teq hB78_51).1 (by decide) (by decide) k) ?_
    exact b2_92 i0 i1 i2 i3 hw X hx hZ hby hml hown hret hlk eT N (by omega) (by omega) v (hv.trans (if_pos hB78_51)) hQ
  · refine own_step (fun t k => XS.icmpNo X.here hx rfl (hb hby d2_78) rfl (feq hB78_51).1 k) ?_
    exact b2_81 i0 i1 i2 i3 hw X hx hZ hby hml hown hret hlk eT N (by omega) (by omega) v (hv.trans (if_neg hB78_51)) hQ
def f2_67 (i0 : Int32) (i1 : Int32) (i2 : Int32) (i3 : Int32) : Int32 := if i0 = (65534 : Int32) then f2_92 i0 i1 i2 i3 else f2_74 i0 i1 i2 i3
set_option maxRecDepth 65536 in
set_option maxHeartbeats 40000000 in
theorem b2_67 {p : Program} {l : Launch} {e : Env} {s : State} {m : MethodId} {args : Array Value} {below : List Frame} {meth : Method} {c : Code} {T : State} {locs : List Loc} {cells slots : Nat} {Z : State} {a0 : Array Value} {h : Heap} {n0 : Nat} {Q : Option Value → Heap → List Loc → Prop} (i0 : Int32) (i1 : Int32) (i2 : Int32) (i3 : Int32) (hw : ∀ d ∈ tables_1, d.before a0 Z = true) (X : Stand p l e ({ frames := 0, cells := 0, slots := 0, locals := 0 } : Room) s m args below meth c T locs cells slots) (hx : p.tables.exec = Jvm.exec) (hZ : Z.Warmed39 s.vm) (hby : c.code = prog_134_method_79_code) (hml : c.maxLocals = 4) (hown : s.vm.findClass "com/example/zoria/zoria/xml/XmlScanner" = some m.cls) (hret : meth.sig.returnType = some .boolean) (hlk : meth.locks = false) (eT : T.heap = h) (N : Fr n0 locs) (hc : cells ≤ 0) (hs : slots ≤ 0) (v : Int32) (hv : v = f2_67 i0 i1 i2 i3) (hQ : ∀ L', Fr n0 L' → Q (some (.int v)) h L') :
    own_Fin p e below s Q 0 0 (T.setTop (mkF m 67 #[.val (.int i0), .val (.int i1), .val (.int i2), .val (.int i3)] [])) := by
  refine own_step (fun t k => XS.iloadN X.here hx rfl (hb hby d2_67) rfl  k) ?_
  show own_Fin p e below s Q 0 0 (T.setTop (mkF m 68 #[.val (.int i0), .val (.int i1), .val (.int i2), .val (.int i3)] [(.int i0)]))
  refine own_step (X.ldcwInt hx hown (mvT hZ (hw _ (List.mem_of_getElem? (i := 19) rfl))) (g := (mkF m 68 #[.val (.int i0), .val (.int i1), .val (.int i2), .val (.int i3)] [(.int i0)])) rfl (hb hby d2_68)) ?_
  show own_Fin p e below s Q 0 0 (T.setTop (mkF m 71 #[.val (.int i0), .val (.int i1), .val (.int i2), .val (.int i3)] [(.int (65534 : Int32)), (.int i0)]))
  by_cases hB71_48 : i0 = (65534 : Int32)
  · refine own_step (fun t k => XS.icmpYes X.here hx rfl (pc0 := 71) (pc' := 92) rfl (hb hby d2_71) rfl (teq hB71_48).1 (by decide) (by decide) k) ?_
    exact b2_92 i0 i1 i2 i3 hw X hx hZ hby hml hown hret hlk eT N (by omega) (by omega) v (hv.trans (if_pos hB71_48)) hQ
  · refine own_step (fun t k => XS.icmpNo X.here hx rfl (hb hby d2_71) rfl (feq hB71_48).1 k) ?_
    exact b2_74 i0 i1 i2 i3 hw X hx hZ hby hml hown hret hlk eT N (by omega) (by omega) v (hv.trans (if_neg hB71_48)) hQ
def f2_60 (i0 : Int32) (i1 : Int32) (i2 : Int32) (i3 : Int32) : Int32 := if (57343 : Int32) < i0 then f2_67 i0 i1 i2 i3 else f2_92 i0 i1 i2 i3
set_option maxRecDepth 65536 in
set_option maxHeartbeats 40000000 in
theorem b2_60 {p : Program} {l : Launch} {e : Env} {s : State} {m : MethodId} {args : Array Value} {below : List Frame} {meth : Method} {c : Code} {T : State} {locs : List Loc} {cells slots : Nat} {Z : State} {a0 : Array Value} {h : Heap} {n0 : Nat} {Q : Option Value → Heap → List Loc → Prop} (i0 : Int32) (i1 : Int32) (i2 : Int32) (i3 : Int32) (hw : ∀ d ∈ tables_1, d.before a0 Z = true) (X : Stand p l e ({ frames := 0, cells := 0, slots := 0, locals := 0 } : Room) s m args below meth c T locs cells slots) (hx : p.tables.exec = Jvm.exec) (hZ : Z.Warmed39 s.vm) (hby : c.code = prog_134_method_79_code) (hml : c.maxLocals = 4) (hown : s.vm.findClass "com/example/zoria/zoria/xml/XmlScanner" = some m.cls) (hret : meth.sig.returnType = some .boolean) (hlk : meth.locks = false) (eT : T.heap = h) (N : Fr n0 locs) (hc : cells ≤ 0) (hs : slots ≤ 0) (v : Int32) (hv : v = f2_60 i0 i1 i2 i3) (hQ : ∀ L', Fr n0 L' → Q (some (.int v)) h L') :
    own_Fin p e below s Q 0 0 (T.setTop (mkF m 60 #[.val (.int i0), .val (.int i1), .val (.int i2), .val (.int i3)] [])) := by
  refine own_step (fun t k => XS.iloadN X.here hx rfl (hb hby d2_60) rfl  k) ?_
  show own_Fin p e below s Q 0 0 (T.setTop (mkF m 61 #[.val (.int i0), .val (.int i1), .val (.int i2), .val (.int i3)] [(.int i0)]))
  refine own_step (X.ldcwInt hx hown (mvT hZ (hw _ (List.mem_of_getElem? (i := 23) rfl))) (g := (mkF m 61 #[.val (.int i0), .val (.int i1), .val (.int i2), .val (.int i3)] [(.int i0)])) rfl (hb hby d2_61)) ?_
  show own_Fin p e below s Q 0 0 (T.setTop (mkF m 64 #[.val (.int i0), .val (.int i1), .val (.int i2), .val (.int i3)] [(.int (57343 : Int32)), (.int i0)]))
  by_cases hB64_58 : (57343 : Int32) < i0
  · refine own_step (fun t k => XS.icmpNo X.here hx rfl (hb hby d2_64) rfl (tlt hB64_58).2.2.2 k) ?_
    exact b2_67 i0 i1 i2 i3 hw X hx hZ hby hml hown hret hlk eT N (by omega) (by omega) v (hv.trans (if_pos hB64_58)) hQ
  · refine own_step (fun t k => XS.icmpYes X.here hx rfl (pc0 := 64) (pc' := 92) rfl (hb hby d2_64) rfl (flt hB64_58).2.2.2 (by decide) (by decide) k) ?_
    exact b2_92 i0 i1 i2 i3 hw X hx hZ hby hml hown hret hlk eT N (by omega) (by omega) v (hv.trans (if_neg hB64_58)) hQ
def f2_53 (i0 : Int32) (i1 : Int32) (i2 : Int32) (i3 : Int32) : Int32 := if i0 < (55296 : Int32) then f2_67 i0 i1 i2 i3 else f2_60 i0 i1 i2 i3
set_option maxRecDepth 65536 in
set_option maxHeartbeats 40000000 in
theorem b2_53 {p : Program} {l : Launch} {e : Env} {s : State} {m : MethodId} {args : Array Value} {below : List Frame} {meth : Method} {c : Code} {T : State} {locs : List Loc} {cells slots : Nat} {Z : State} {a0 : Array Value} {h : Heap} {n0 : Nat} {Q : Option Value → Heap → List Loc → Prop} (i0 : Int32) (i1 : Int32) (i2 : Int32) (i3 : Int32) (hw : ∀ d ∈ tables_1, d.before a0 Z = true) (X : Stand p l e ({ frames := 0, cells := 0, slots := 0, locals := 0 } : Room) s m args below meth c T locs cells slots) (hx : p.tables.exec = Jvm.exec) (hZ : Z.Warmed39 s.vm) (hby : c.code = prog_134_method_79_code) (hml : c.maxLocals = 4) (hown : s.vm.findClass "com/example/zoria/zoria/xml/XmlScanner" = some m.cls) (hret : meth.sig.returnType = some .boolean) (hlk : meth.locks = false) (eT : T.heap = h) (N : Fr n0 locs) (hc : cells ≤ 0) (hs : slots ≤ 0) (v : Int32) (hv : v = f2_53 i0 i1 i2 i3) (hQ : ∀ L', Fr n0 L' → Q (some (.int v)) h L') :
    own_Fin p e below s Q 0 0 (T.setTop (mkF m 53 #[.val (.int i0), .val (.int i1), .val (.int i2), .val (.int i3)] [])) := by
  refine own_step (fun t k => XS.iloadN X.here hx rfl (hb hby d2_53) rfl  k) ?_
  show own_Fin p e below s Q 0 0 (T.setTop (mkF m 54 #[.val (.int i0), .val (.int i1), .val (.int i2), .val (.int i3)] [(.int i0)]))
  refine own_step (X.ldcwInt hx hown (mvT hZ (hw _ (List.mem_of_getElem? (i := 18) rfl))) (g := (mkF m 54 #[.val (.int i0), .val (.int i1), .val (.int i2), .val (.int i3)] [(.int i0)])) rfl (hb hby d2_54)) ?_
  show own_Fin p e below s Q 0 0 (T.setTop (mkF m 57 #[.val (.int i0), .val (.int i1), .val (.int i2), .val (.int i3)] [(.int (55296 : Int32)), (.int i0)]))
  by_cases hB57_46 : i0 < (55296 : Int32)
  · refine own_step (fun t k => XS.icmpYes X.here hx rfl (pc0 := 57) (pc' := 67) rfl (hb hby d2_57) rfl (tlt hB57_46).1 (by decide) (by decide) k) ?_
    exact b2_67 i0 i1 i2 i3 hw X hx hZ hby hml hown hret hlk eT N (by omega) (by omega) v (hv.trans (if_pos hB57_46)) hQ
  · refine own_step (fun t k => XS.icmpNo X.here hx rfl (hb hby d2_57) rfl (flt hB57_46).1 k) ?_
    exact b2_60 i0 i1 i2 i3 hw X hx hZ hby hml hown hret hlk eT N (by omega) (by omega) v (hv.trans (if_neg hB57_46)) hQ
def f2_48 (i0 : Int32) (i1 : Int32) (i2 : Int32) (is0 : Int32) : Int32 := if is0 = (0 : Int32) then f2_92 i0 i1 i2 is0 else f2_53 i0 i1 i2 is0
set_option maxRecDepth 65536 in
set_option maxHeartbeats 40000000 in
theorem b2_48 {p : Program} {l : Launch} {e : Env} {s : State} {m : MethodId} {args : Array Value} {below : List Frame} {meth : Method} {c : Code} {T : State} {locs : List Loc} {cells slots : Nat} {Z : State} {a0 : Array Value} {h : Heap} {n0 : Nat} {Q : Option Value → Heap → List Loc → Prop} (i0 : Int32) (i1 : Int32) (i2 : Int32) (is0 : Int32) (hw : ∀ d ∈ tables_1, d.before a0 Z = true) (X : Stand p l e ({ frames := 0, cells := 0, slots := 0, locals := 0 } : Room) s m args below meth c T locs cells slots) (hx : p.tables.exec = Jvm.exec) (hZ : Z.Warmed39 s.vm) (hby : c.code = prog_134_method_79_code) (hml : c.maxLocals = 4) (hown : s.vm.findClass "com/example/zoria/zoria/xml/XmlScanner" = some m.cls) (hret : meth.sig.returnType = some .boolean) (hlk : meth.locks = false) (eT : T.heap = h) (N : Fr n0 locs) (hc : cells ≤ 0) (hs : slots ≤ 0) (v : Int32) (hv : v = f2_48 i0 i1 i2 is0) (hQ : ∀ L', Fr n0 L' → Q (some (.int v)) h L') :
    own_Fin p e below s Q 0 0 (T.setTop (mkF m 48 #[.val (.int i0), .val (.int i1), .val (.int i2), .unset] [(.int is0)])) := by
  refine own_step (fun t k => XS.istoreN X.here hx rfl (hb hby d2_48) rfl (l' := #[.val (.int i0), .val (.int i1), .val (.int i2), .val (.int is0)]) rfl k) ?_
  show own_Fin p e below s Q 0 0 (T.setTop (mkF m 49 #[.val (.int i0), .val (.int i1), .val (.int i2), .val (.int is0)] []))
  refine own_step (fun t k => XS.iloadN X.here hx rfl (hb hby d2_49) rfl  k) ?_
  show own_Fin p e below s Q 0 0 (T.setTop (mkF m 50 #[.val (.int i0), .val (.int i1), .val (.int i2), .val (.int is0)] [(.int is0)]))
  by_cases hB50_43 : is0 = (0 : Int32)
  · refine own_step (fun t k => XS.ifYes X.here hx rfl (pc0 := 50) (pc' := 92) rfl (hb hby d2_50) rfl ((if0 _ _).trans (teq hB50_43).1) (by decide) (by decide) k) ?_
    exact b2_92 i0 i1 i2 is0 hw X hx hZ hby hml hown hret hlk eT N (by omega) (by omega) v (hv.trans (if_pos hB50_43)) hQ
  · refine own_step (fun t k => XS.ifNo X.here hx rfl (hb hby d2_50) rfl ((if0 _ _).trans (feq hB50_43).1) k) ?_
    exact b2_53 i0 i1 i2 is0 hw X hx hZ hby hml hown hret hlk eT N (by omega) (by omega) v (hv.trans (if_neg hB50_43)) hQ
def f2_47 (i0 : Int32) (i1 : Int32) (i2 : Int32) : Int32 := f2_48 i0 i1 i2 (0 : Int32)
set_option maxRecDepth 65536 in
set_option maxHeartbeats 40000000 in
theorem b2_47 {p : Program} {l : Launch} {e : Env} {s : State} {m : MethodId} {args : Array Value} {below : List Frame} {meth : Method} {c : Code} {T : State} {locs : List Loc} {cells slots : Nat} {Z : State} {a0 : Array Value} {h : Heap} {n0 : Nat} {Q : Option Value → Heap → List Loc → Prop} (i0 : Int32) (i1 : Int32) (i2 : Int32) (hw : ∀ d ∈ tables_1, d.before a0 Z = true) (X : Stand p l e ({ frames := 0, cells := 0, slots := 0, locals := 0 } : Room) s m args below meth c T locs cells slots) (hx : p.tables.exec = Jvm.exec) (hZ : Z.Warmed39 s.vm) (hby : c.code = prog_134_method_79_code) (hml : c.maxLocals = 4) (hown : s.vm.findClass "com/example/zoria/zoria/xml/XmlScanner" = some m.cls) (hret : meth.sig.returnType = some .boolean) (hlk : meth.locks = false) (eT : T.heap = h) (N : Fr n0 locs) (hc : cells ≤ 0) (hs : slots ≤ 0) (v : Int32) (hv : v = f2_47 i0 i1 i2) (hQ : ∀ L', Fr n0 L' → Q (some (.int v)) h L') :
    own_Fin p e below s Q 0 0 (T.setTop (mkF m 47 #[.val (.int i0), .val (.int i1), .val (.int i2), .unset] [])) := by
  refine own_step (fun t k => XS.iconst X.here hx rfl (hb hby d2_47) k) ?_
  exact b2_48 i0 i1 i2 (0 : Int32) hw X hx hZ hby hml hown hret hlk eT N (by omega) (by omega) v (hv) hQ
def f2_43 (i0 : Int32) (i1 : Int32) (i2 : Int32) : Int32 := f2_48 i0 i1 i2 (1 : Int32)
set_option maxRecDepth 65536 in
set_option maxHeartbeats 40000000 in
theorem b2_43 {p : Program} {l : Launch} {e : Env} {s : State} {m : MethodId} {args : Array Value} {below : List Frame} {meth : Method} {c : Code} {T : State} {locs : List Loc} {cells slots : Nat} {Z : State} {a0 : Array Value} {h : Heap} {n0 : Nat} {Q : Option Value → Heap → List Loc → Prop} (i0 : Int32) (i1 : Int32) (i2 : Int32) (hw : ∀ d ∈ tables_1, d.before a0 Z = true) (X : Stand p l e ({ frames := 0, cells := 0, slots := 0, locals := 0 } : Room) s m args below meth c T locs cells slots) (hx : p.tables.exec = Jvm.exec) (hZ : Z.Warmed39 s.vm) (hby : c.code = prog_134_method_79_code) (hml : c.maxLocals = 4) (hown : s.vm.findClass "com/example/zoria/zoria/xml/XmlScanner" = some m.cls) (hret : meth.sig.returnType = some .boolean) (hlk : meth.locks = false) (eT : T.heap = h) (N : Fr n0 locs) (hc : cells ≤ 0) (hs : slots ≤ 0) (v : Int32) (hv : v = f2_43 i0 i1 i2) (hQ : ∀ L', Fr n0 L' → Q (some (.int v)) h L') :
    own_Fin p e below s Q 0 0 (T.setTop (mkF m 43 #[.val (.int i0), .val (.int i1), .val (.int i2), .unset] [])) := by
  refine own_step (fun t k => XS.iconst X.here hx rfl (hb hby d2_43) k) ?_
  show own_Fin p e below s Q 0 0 (T.setTop (mkF m 44 #[.val (.int i0), .val (.int i1), .val (.int i2), .unset] [(.int (1 : Int32))]))
  refine own_step (fun t k => XS.goto X.here hx rfl (pc0 := 44) (pc' := 48) rfl (hb hby d2_44) (by decide) (by decide) k) ?_
  exact b2_48 i0 i1 i2 (1 : Int32) hw X hx hZ hby hml hown hret hlk eT N (by omega) (by omega) v (hv) hQ
def f2_38 (i0 : Int32) (i1 : Int32) (i2 : Int32) : Int32 := if i0 < (1 : Int32) then f2_47 i0 i1 i2 else f2_43 i0 i1 i2
set_option maxRecDepth 65536 in
set_option maxHeartbeats 40000000 in
theorem b2_38 {p : Program} {l : Launch} {e : Env} {s : State} {m : MethodId} {args : Array Value} {below : List Frame} {meth : Method} {c : Code} {T : State} {locs : List Loc} {cells slots : Nat} {Z : State} {a0 : Array Value} {h : Heap} {n0 : Nat} {Q : Option Value → Heap → List Loc → Prop} (i0 : Int32) (i1 : Int32) (i2 : Int32) (hw : ∀ d ∈ tables_1, d.before a0 Z = true) (X : Stand p l e ({ frames := 0, cells := 0, slots := 0, locals := 0 } : Room) s m args below meth c T locs cells slots) (hx : p.tables.exec = Jvm.exec) (hZ : Z.Warmed39 s.vm) (hby : c.code = prog_134_method_79_code) (hml : c.maxLocals = 4) (hown : s.vm.findClass "com/example/zoria/zoria/xml/XmlScanner" = some m.cls) (hret : meth.sig.returnType = some .boolean) (hlk : meth.locks = false) (eT : T.heap = h) (N : Fr n0 locs) (hc : cells ≤ 0) (hs : slots ≤ 0) (v : Int32) (hv : v = f2_38 i0 i1 i2) (hQ : ∀ L', Fr n0 L' → Q (some (.int v)) h L') :
    own_Fin p e below s Q 0 0 (T.setTop (mkF m 38 #[.val (.int i0), .val (.int i1), .val (.int i2), .unset] [])) := by
  refine own_step (fun t k => XS.iloadN X.here hx rfl (hb hby d2_38) rfl  k) ?_
  show own_Fin p e below s Q 0 0 (T.setTop (mkF m 39 #[.val (.int i0), .val (.int i1), .val (.int i2), .unset] [(.int i0)]))
  refine own_step (fun t k => XS.iconst X.here hx rfl (hb hby d2_39) k) ?_
  show own_Fin p e below s Q 0 0 (T.setTop (mkF m 40 #[.val (.int i0), .val (.int i1), .val (.int i2), .unset] [(.int (1 : Int32)), (.int i0)]))
  by_cases hB40_62 : i0 < (1 : Int32)
  · refine own_step (fun t k => XS.icmpYes X.here hx rfl (pc0 := 40) (pc' := 47) rfl (hb hby d2_40) rfl (tlt hB40_62).1 (by decide) (by decide) k) ?_
    exact b2_47 i0 i1 i2 hw X hx hZ hby hml hown hret hlk eT N (by omega) (by omega) v (hv.trans (if_pos hB40_62)) hQ
  · refine own_step (fun t k => XS.icmpNo X.here hx rfl (hb hby d2_40) rfl (flt hB40_62).1 k) ?_
    exact b2_43 i0 i1 i2 hw X hx hZ hby hml hown hret hlk eT N (by omega) (by omega) v (hv.trans (if_neg hB40_62)) hQ
def f2_34 (i0 : Int32) (i1 : Int32) (i2 : Int32) : Int32 := if i1 = (0 : Int32) then f2_47 i0 i1 i2 else f2_38 i0 i1 i2
set_option maxRecDepth 65536 in
set_option maxHeartbeats 40000000 in
theorem b2_34 {p : Program} {l : Launch} {e : Env} {s : State} {m : MethodId} {args : Array Value} {below : List Frame} {meth : Method} {c : Code} {T : State} {locs : List Loc} {cells slots : Nat} {Z : State} {a0 : Array Value} {h : Heap} {n0 : Nat} {Q : Option Value → Heap → List Loc → Prop} (i0 : Int32) (i1 : Int32) (i2 : Int32) (hw : ∀ d ∈ tables_1, d.before a0 Z = true) (X : Stand p l e ({ frames := 0, cells := 0, slots := 0, locals := 0 } : Room) s m args below meth c T locs cells slots) (hx : p.tables.exec = Jvm.exec) (hZ : Z.Warmed39 s.vm) (hby : c.code = prog_134_method_79_code) (hml : c.maxLocals = 4) (hown : s.vm.findClass "com/example/zoria/zoria/xml/XmlScanner" = some m.cls) (hret : meth.sig.returnType = some .boolean) (hlk : meth.locks = false) (eT : T.heap = h) (N : Fr n0 locs) (hc : cells ≤ 0) (hs : slots ≤ 0) (v : Int32) (hv : v = f2_34 i0 i1 i2) (hQ : ∀ L', Fr n0 L' → Q (some (.int v)) h L') :
    own_Fin p e below s Q 0 0 (T.setTop (mkF m 34 #[.val (.int i0), .val (.int i1), .val (.int i2), .unset] [])) := by
  refine own_step (fun t k => XS.iloadN X.here hx rfl (hb hby d2_34) rfl  k) ?_
  show own_Fin p e below s Q 0 0 (T.setTop (mkF m 35 #[.val (.int i0), .val (.int i1), .val (.int i2), .unset] [(.int i1)]))
  by_cases hB35_41 : i1 = (0 : Int32)
  · refine own_step (fun t k => XS.ifYes X.here hx rfl (pc0 := 35) (pc' := 47) rfl (hb hby d2_35) rfl ((if0 _ _).trans (teq hB35_41).1) (by decide) (by decide) k) ?_
    exact b2_47 i0 i1 i2 hw X hx hZ hby hml hown hret hlk eT N (by omega) (by omega) v (hv.trans (if_pos hB35_41)) hQ
  · refine own_step (fun t k => XS.ifNo X.here hx rfl (hb hby d2_35) rfl ((if0 _ _).trans (feq hB35_41).1) k) ?_
    exact b2_38 i0 i1 i2 hw X hx hZ hby hml hown hret hlk eT N (by omega) (by omega) v (hv.trans (if_neg hB35_41)) hQ
def f2_29 (i0 : Int32) (i1 : Int32) (is0 : Int32) : Int32 := if is0 = (0 : Int32) then f2_34 i0 i1 is0 else f2_43 i0 i1 is0
set_option maxRecDepth 65536 in
set_option maxHeartbeats 40000000 in
theorem b2_29 {p : Program} {l : Launch} {e : Env} {s : State} {m : MethodId} {args : Array Value} {below : List Frame} {meth : Method} {c : Code} {T : State} {locs : List Loc} {cells slots : Nat} {Z : State} {a0 : Array Value} {h : Heap} {n0 : Nat} {Q : Option Value → Heap → List Loc → Prop} (i0 : Int32) (i1 : Int32) (is0 : Int32) (hw : ∀ d ∈ tables_1, d.before a0 Z = true) (X : Stand p l e ({ frames := 0, cells := 0, slots := 0, locals := 0 } : Room) s m args below meth c T locs cells slots) (hx : p.tables.exec = Jvm.exec) (hZ : Z.Warmed39 s.vm) (hby : c.code = prog_134_method_79_code) (hml : c.maxLocals = 4) (hown : s.vm.findClass "com/example/zoria/zoria/xml/XmlScanner" = some m.cls) (hret : meth.sig.returnType = some .boolean) (hlk : meth.locks = false) (eT : T.heap = h) (N : Fr n0 locs) (hc : cells ≤ 0) (hs : slots ≤ 0) (v : Int32) (hv : v = f2_29 i0 i1 is0) (hQ : ∀ L', Fr n0 L' → Q (some (.int v)) h L') :
    own_Fin p e below s Q 0 0 (T.setTop (mkF m 29 #[.val (.int i0), .val (.int i1), .unset, .unset] [(.int is0)])) := by
  refine own_step (fun t k => XS.istoreN X.here hx rfl (hb hby d2_29) rfl (l' := #[.val (.int i0), .val (.int i1), .val (.int is0), .unset]) rfl k) ?_
  show own_Fin p e below s Q 0 0 (T.setTop (mkF m 30 #[.val (.int i0), .val (.int i1), .val (.int is0), .unset] []))
  refine own_step (fun t k => XS.iloadN X.here hx rfl (hb hby d2_30) rfl  k) ?_
  show own_Fin p e below s Q 0 0 (T.setTop (mkF m 31 #[.val (.int i0), .val (.int i1), .val (.int is0), .unset] [(.int is0)]))
  by_cases hB31_39 : is0 = (0 : Int32)
  · refine own_step (fun t k => XS.ifNo X.here hx rfl (hb hby d2_31) rfl ((if0 _ _).trans (teq hB31_39).2) k) ?_
    exact b2_34 i0 i1 is0 hw X hx hZ hby hml hown hret hlk eT N (by omega) (by omega) v (hv.trans (if_pos hB31_39)) hQ
  · refine own_step (fun t k => XS.ifYes X.here hx rfl (pc0 := 31) (pc' := 43) rfl (hb hby d2_31) rfl ((if0 _ _).trans (feq hB31_39).2) (by decide) (by decide) k) ?_
    exact b2_43 i0 i1 is0 hw X hx hZ hby hml hown hret hlk eT N (by omega) (by omega) v (hv.trans (if_neg hB31_39)) hQ
def f2_24 (i0 : Int32) (i1 : Int32) : Int32 := f2_29 i0 i1 (1 : Int32)
set_option maxRecDepth 65536 in
set_option maxHeartbeats 40000000 in
theorem b2_24 {p : Program} {l : Launch} {e : Env} {s : State} {m : MethodId} {args : Array Value} {below : List Frame} {meth : Method} {c : Code} {T : State} {locs : List Loc} {cells slots : Nat} {Z : State} {a0 : Array Value} {h : Heap} {n0 : Nat} {Q : Option Value → Heap → List Loc → Prop} (i0 : Int32) (i1 : Int32) (hw : ∀ d ∈ tables_1, d.before a0 Z = true) (X : Stand p l e ({ frames := 0, cells := 0, slots := 0, locals := 0 } : Room) s m args below meth c T locs cells slots) (hx : p.tables.exec = Jvm.exec) (hZ : Z.Warmed39 s.vm) (hby : c.code = prog_134_method_79_code) (hml : c.maxLocals = 4) (hown : s.vm.findClass "com/example/zoria/zoria/xml/XmlScanner" = some m.cls) (hret : meth.sig.returnType = some .boolean) (hlk : meth.locks = false) (eT : T.heap = h) (N : Fr n0 locs) (hc : cells ≤ 0) (hs : slots ≤ 0) (v : Int32) (hv : v = f2_24 i0 i1) (hQ : ∀ L', Fr n0 L' → Q (some (.int v)) h L') :
    own_Fin p e below s Q 0 0 (T.setTop (mkF m 24 #[.val (.int i0), .val (.int i1), .unset, .unset] [])) := by
  refine own_step (fun t k => XS.iconst X.here hx rfl (hb hby d2_24) k) ?_
  show own_Fin p e below s Q 0 0 (T.setTop (mkF m 25 #[.val (.int i0), .val (.int i1), .unset, .unset] [(.int (1 : Int32))]))
  refine own_step (fun t k => XS.goto X.here hx rfl (pc0 := 25) (pc' := 29) rfl (hb hby d2_25) (by decide) (by decide) k) ?_
  exact b2_29 i0 i1 (1 : Int32) hw X hx hZ hby hml hown hret hlk eT N (by omega) (by omega) v (hv) hQ
def f2_28 (i0 : Int32) (i1 : Int32) : Int32 := f2_29 i0 i1 (0 : Int32)
set_option maxRecDepth 65536 in
set_option maxHeartbeats 40000000 in
theorem b2_28 {p : Program} {l : Launch} {e : Env} {s : State} {m : MethodId} {args : Array Value} {below : List Frame} {meth : Method} {c : Code} {T : State} {locs : List Loc} {cells slots : Nat} {Z : State} {a0 : Array Value} {h : Heap} {n0 : Nat} {Q : Option Value → Heap → List Loc → Prop} (i0 : Int32) (i1 : Int32) (hw : ∀ d ∈ tables_1, d.before a0 Z = true) (X : Stand p l e ({ frames := 0, cells := 0, slots := 0, locals := 0 } : Room) s m args below meth c T locs cells slots) (hx : p.tables.exec = Jvm.exec) (hZ : Z.Warmed39 s.vm) (hby : c.code = prog_134_method_79_code) (hml : c.maxLocals = 4) (hown : s.vm.findClass "com/example/zoria/zoria/xml/XmlScanner" = some m.cls) (hret : meth.sig.returnType = some .boolean) (hlk : meth.locks = false) (eT : T.heap = h) (N : Fr n0 locs) (hc : cells ≤ 0) (hs : slots ≤ 0) (v : Int32) (hv : v = f2_28 i0 i1) (hQ : ∀ L', Fr n0 L' → Q (some (.int v)) h L') :
    own_Fin p e below s Q 0 0 (T.setTop (mkF m 28 #[.val (.int i0), .val (.int i1), .unset, .unset] [])) := by
  refine own_step (fun t k => XS.iconst X.here hx rfl (hb hby d2_28) k) ?_
  exact b2_29 i0 i1 (0 : Int32) hw X hx hZ hby hml hown hret hlk eT N (by omega) (by omega) v (hv) hQ
def f2_18 (i0 : Int32) (i1 : Int32) : Int32 := if i0 < (32 : Int32) then f2_28 i0 i1 else f2_24 i0 i1
set_option maxRecDepth 65536 in
set_option maxHeartbeats 40000000 in
theorem b2_18 {p : Program} {l : Launch} {e : Env} {s : State} {m : MethodId} {args : Array Value} {below : List Frame} {meth : Method} {c : Code} {T : State} {locs : List Loc} {cells slots : Nat} {Z : State} {a0 : Array Value} {h : Heap} {n0 : Nat} {Q : Option Value → Heap → List Loc → Prop} (i0 : Int32) (i1 : Int32) (hw : ∀ d ∈ tables_1, d.before a0 Z = true) (X : Stand p l e ({ frames := 0, cells := 0, slots := 0, locals := 0 } : Room) s m args below meth c T locs cells slots) (hx : p.tables.exec = Jvm.exec) (hZ : Z.Warmed39 s.vm) (hby : c.code = prog_134_method_79_code) (hml : c.maxLocals = 4) (hown : s.vm.findClass "com/example/zoria/zoria/xml/XmlScanner" = some m.cls) (hret : meth.sig.returnType = some .boolean) (hlk : meth.locks = false) (eT : T.heap = h) (N : Fr n0 locs) (hc : cells ≤ 0) (hs : slots ≤ 0) (v : Int32) (hv : v = f2_18 i0 i1) (hQ : ∀ L', Fr n0 L' → Q (some (.int v)) h L') :
    own_Fin p e below s Q 0 0 (T.setTop (mkF m 18 #[.val (.int i0), .val (.int i1), .unset, .unset] [])) := by
  refine own_step (fun t k => XS.iloadN X.here hx rfl (hb hby d2_18) rfl  k) ?_
  show own_Fin p e below s Q 0 0 (T.setTop (mkF m 19 #[.val (.int i0), .val (.int i1), .unset, .unset] [(.int i0)]))
  refine own_step (fun t k => XS.bipush X.here hx rfl (hb hby d2_19) k) ?_
  show own_Fin p e below s Q 0 0 (T.setTop (mkF m 21 #[.val (.int i0), .val (.int i1), .unset, .unset] [(.int (32 : Int32)), (.int i0)]))
  by_cases hB21_73 : i0 < (32 : Int32)
  · refine own_step (fun t k => XS.icmpYes X.here hx rfl (pc0 := 21) (pc' := 28) rfl (hb hby d2_21) rfl (tlt hB21_73).1 (by decide) (by decide) k) ?_
    exact b2_28 i0 i1 hw X hx hZ hby hml hown hret hlk eT N (by omega) (by omega) v (hv.trans (if_pos hB21_73)) hQ
  · refine own_step (fun t k => XS.icmpNo X.here hx rfl (hb hby d2_21) rfl (flt hB21_73).1 k) ?_
    exact b2_24 i0 i1 hw X hx hZ hby hml hown hret hlk eT N (by omega) (by omega) v (hv.trans (if_neg hB21_73)) hQ
def f2_12 (i0 : Int32) (i1 : Int32) : Int32 := if i0 = (13 : Int32) then f2_24 i0 i1 else f2_18 i0 i1
set_option maxRecDepth 65536 in
set_option maxHeartbeats 40000000 in
theorem b2_12 {p : Program} {l : Launch} {e : Env} {s : State} {m : MethodId} {args : Array Value} {below : List Frame} {meth : Method} {c : Code} {T : State} {locs : List Loc} {cells slots : Nat} {Z : State} {a0 : Array Value} {h : Heap} {n0 : Nat} {Q : Option Value → Heap → List Loc → Prop} (i0 : Int32) (i1 : Int32) (hw : ∀ d ∈ tables_1, d.before a0 Z = true) (X : Stand p l e ({ frames := 0, cells := 0, slots := 0, locals := 0 } : Room) s m args below meth c T locs cells slots) (hx : p.tables.exec = Jvm.exec) (hZ : Z.Warmed39 s.vm) (hby : c.code = prog_134_method_79_code) (hml : c.maxLocals = 4) (hown : s.vm.findClass "com/example/zoria/zoria/xml/XmlScanner" = some m.cls) (hret : meth.sig.returnType = some .boolean) (hlk : meth.locks = false) (eT : T.heap = h) (N : Fr n0 locs) (hc : cells ≤ 0) (hs : slots ≤ 0) (v : Int32) (hv : v = f2_12 i0 i1) (hQ : ∀ L', Fr n0 L' → Q (some (.int v)) h L') :
    own_Fin p e below s Q 0 0 (T.setTop (mkF m 12 #[.val (.int i0), .val (.int i1), .unset, .unset] [])) := by
  refine own_step (fun t k => XS.iloadN X.here hx rfl (hb hby d2_12) rfl  k) ?_
  show own_Fin p e below s Q 0 0 (T.setTop (mkF m 13 #[.val (.int i0), .val (.int i1), .unset, .unset] [(.int i0)]))
  refine own_step (fun t k => XS.bipush X.here hx rfl (hb hby d2_13) k) ?_
  show own_Fin p e below s Q 0 0 (T.setTop (mkF m 15 #[.val (.int i0), .val (.int i1), .unset, .unset] [(.int (13 : Int32)), (.int i0)]))
  by_cases hB15_70 : i0 = (13 : Int32)
  · refine own_step (fun t k => XS.icmpYes X.here hx rfl (pc0 := 15) (pc' := 24) rfl (hb hby d2_15) rfl (teq hB15_70).1 (by decide) (by decide) k) ?_
    exact b2_24 i0 i1 hw X hx hZ hby hml hown hret hlk eT N (by omega) (by omega) v (hv.trans (if_pos hB15_70)) hQ
  · refine own_step (fun t k => XS.icmpNo X.here hx rfl (hb hby d2_15) rfl (feq hB15_70).1 k) ?_
    exact b2_18 i0 i1 hw X hx hZ hby hml hown hret hlk eT N (by omega) (by omega) v (hv.trans (if_neg hB15_70)) hQ
def f2_6 (i0 : Int32) (i1 : Int32) : Int32 := if i0 = (10 : Int32) then f2_24 i0 i1 else f2_12 i0 i1
set_option maxRecDepth 65536 in
set_option maxHeartbeats 40000000 in
theorem b2_6 {p : Program} {l : Launch} {e : Env} {s : State} {m : MethodId} {args : Array Value} {below : List Frame} {meth : Method} {c : Code} {T : State} {locs : List Loc} {cells slots : Nat} {Z : State} {a0 : Array Value} {h : Heap} {n0 : Nat} {Q : Option Value → Heap → List Loc → Prop} (i0 : Int32) (i1 : Int32) (hw : ∀ d ∈ tables_1, d.before a0 Z = true) (X : Stand p l e ({ frames := 0, cells := 0, slots := 0, locals := 0 } : Room) s m args below meth c T locs cells slots) (hx : p.tables.exec = Jvm.exec) (hZ : Z.Warmed39 s.vm) (hby : c.code = prog_134_method_79_code) (hml : c.maxLocals = 4) (hown : s.vm.findClass "com/example/zoria/zoria/xml/XmlScanner" = some m.cls) (hret : meth.sig.returnType = some .boolean) (hlk : meth.locks = false) (eT : T.heap = h) (N : Fr n0 locs) (hc : cells ≤ 0) (hs : slots ≤ 0) (v : Int32) (hv : v = f2_6 i0 i1) (hQ : ∀ L', Fr n0 L' → Q (some (.int v)) h L') :
    own_Fin p e below s Q 0 0 (T.setTop (mkF m 6 #[.val (.int i0), .val (.int i1), .unset, .unset] [])) := by
  refine own_step (fun t k => XS.iloadN X.here hx rfl (hb hby d2_6) rfl  k) ?_
  show own_Fin p e below s Q 0 0 (T.setTop (mkF m 7 #[.val (.int i0), .val (.int i1), .unset, .unset] [(.int i0)]))
  refine own_step (fun t k => XS.bipush X.here hx rfl (hb hby d2_7) k) ?_
  show own_Fin p e below s Q 0 0 (T.setTop (mkF m 9 #[.val (.int i0), .val (.int i1), .unset, .unset] [(.int (10 : Int32)), (.int i0)]))
  by_cases hB9_67 : i0 = (10 : Int32)
  · refine own_step (fun t k => XS.icmpYes X.here hx rfl (pc0 := 9) (pc' := 24) rfl (hb hby d2_9) rfl (teq hB9_67).1 (by decide) (by decide) k) ?_
    exact b2_24 i0 i1 hw X hx hZ hby hml hown hret hlk eT N (by omega) (by omega) v (hv.trans (if_pos hB9_67)) hQ
  · refine own_step (fun t k => XS.icmpNo X.here hx rfl (hb hby d2_9) rfl (feq hB9_67).1 k) ?_
    exact b2_12 i0 i1 hw X hx hZ hby hml hown hret hlk eT N (by omega) (by omega) v (hv.trans (if_neg hB9_67)) hQ
def f2_0 (i0 : Int32) (i1 : Int32) : Int32 := if i0 = (9 : Int32) then f2_24 i0 i1 else f2_6 i0 i1
set_option maxRecDepth 65536 in
set_option maxHeartbeats 40000000 in
theorem b2_0 {p : Program} {l : Launch} {e : Env} {s : State} {m : MethodId} {args : Array Value} {below : List Frame} {meth : Method} {c : Code} {T : State} {locs : List Loc} {cells slots : Nat} {Z : State} {a0 : Array Value} {h : Heap} {n0 : Nat} {Q : Option Value → Heap → List Loc → Prop} (i0 : Int32) (i1 : Int32) (hw : ∀ d ∈ tables_1, d.before a0 Z = true) (X : Stand p l e ({ frames := 0, cells := 0, slots := 0, locals := 0 } : Room) s m args below meth c T locs cells slots) (hx : p.tables.exec = Jvm.exec) (hZ : Z.Warmed39 s.vm) (hby : c.code = prog_134_method_79_code) (hml : c.maxLocals = 4) (hown : s.vm.findClass "com/example/zoria/zoria/xml/XmlScanner" = some m.cls) (hret : meth.sig.returnType = some .boolean) (hlk : meth.locks = false) (eT : T.heap = h) (N : Fr n0 locs) (hc : cells ≤ 0) (hs : slots ≤ 0) (v : Int32) (hv : v = f2_0 i0 i1) (hQ : ∀ L', Fr n0 L' → Q (some (.int v)) h L') :
    own_Fin p e below s Q 0 0 (T.setTop (mkF m 0 #[.val (.int i0), .val (.int i1), .unset, .unset] [])) := by
  refine own_step (fun t k => XS.iloadN X.here hx rfl (hb hby d2_0) rfl  k) ?_
  show own_Fin p e below s Q 0 0 (T.setTop (mkF m 1 #[.val (.int i0), .val (.int i1), .unset, .unset] [(.int i0)]))
  refine own_step (fun t k => XS.bipush X.here hx rfl (hb hby d2_1) k) ?_
  show own_Fin p e below s Q 0 0 (T.setTop (mkF m 3 #[.val (.int i0), .val (.int i1), .unset, .unset] [(.int (9 : Int32)), (.int i0)]))
  by_cases hB3_37 : i0 = (9 : Int32)
  · refine own_step (fun t k => XS.icmpYes X.here hx rfl (pc0 := 3) (pc' := 24) rfl (hb hby d2_3) rfl (teq hB3_37).1 (by decide) (by decide) k) ?_
    exact b2_24 i0 i1 hw X hx hZ hby hml hown hret hlk eT N (by omega) (by omega) v (hv.trans (if_pos hB3_37)) hQ
  · refine own_step (fun t k => XS.icmpNo X.here hx rfl (hb hby d2_3) rfl (feq hB3_37).1 k) ?_
    exact b2_6 i0 i1 hw X hx hZ hby hml hown hret hlk eT N (by omega) (by omega) v (hv.trans (if_neg hB3_37)) hQ
theorem pnm_1 : plainName "com/example/zoria/zoria/xml/XmlScanner" = true := by first | (simp [plainName, overriddenIn]; done) | decide +kernel
theorem ef_2 (m : MethodId) (i0 : Int32) (i1 : Int32) : entryFrame m #[(.int i0), (.int i1)] 4 = (mkF m 0 #[.val (.int i0), .val (.int i1), .unset, .unset] []) := by first | (simp [entryFrame, mkF, argsToLocals, Value.category]; done) | rfl
def Q2 (i0 : Int32) (i1 : Int32) (h0 : Heap) (n0 : Nat) (v : Option Value) (h : Heap) (L : List Loc) : Prop := v = some (.int (f2_0 i0 i1)) ∧ Fr n0 L ∧ h = h0
set_option maxRecDepth 65536 in
set_option maxHeartbeats 4000000 in
theorem rm2 (l : Launch) (Z : State) (a0 : Array Value) (hw : ∀ d ∈ tables_1, d.before a0 Z = true) (ws : List Jvm.Cond) (i0 : Int32) (i1 : Int32) (h0 : Heap) (n0 : Nat) :
    MetFree l (⟨"com/example/zoria/zoria/xml/XmlScanner", "isReferable", "(IZ)Z"⟩ : MethodName) (head1 (Jvm.Cond.code (⟨"com/example/zoria/zoria/xml/XmlScanner", "isReferable", "(IZ)Z"⟩ : MethodName) prog_134_method_79_code 4 (some .boolean) :: ws) ({ frames := 0, cells := 0, slots := 0, locals := 0 } : Room)) (fun a U => a = #[(.int i0), (.int i1)] ∧ Z.Warmed39 U.vm ∧ U.heap = h0) (fun _ _ _ _ _ => True) (fun _ U o U' => ∃ v L, o = .returned v ∧ Q2 i0 i1 h0 n0 v U'.heap L ∧ FrameEnd U o U' L ({ frames := 0, cells := 0, slots := 0, locals := 0 } : Room).cells ({ frames := 0, cells := 0, slots := 0, locals := 0 } : Room).slots) := by
  refine MetFree.of_bodySF (plainFor_of_name pnm_1) hisR ?_
  intro p e s m args below meth c s₁ Bd hml0 hP hK
  obtain ⟨rfl, hZ, hh⟩ := hP
  have hx := Bd.exec
  have hby := Bd.bytes
  have hml : c.maxLocals = 4 := hml0
  have hown : s.vm.findClass "com/example/zoria/zoria/xml/XmlScanner" = some m.cls := findClass_of_methodNamed Bd.named
  have X0 : Stand p l e ({ frames := 0, cells := 0, slots := 0, locals := 0 } : Room) s m #[(.int i0), (.int i1)] below meth c s₁ [] 0 0 := Stand.of_body Bd
  have e0 : s₁.heap = h0 := by rw [← hh, Bd.state]; rfl
  have fin := b2_0 i0 i1 (Q := Q2 i0 i1 h0 n0) hw X0 hx hZ hby hml hown Bd.returns (BodyLoose.notSynchronized Bd) e0 (Fr.nil n0) (Nat.zero_le _) (Nat.zero_le _) _ rfl (fun L' n' => ⟨rfl, n', rfl⟩)
  exact own_step (fun t k => castTop (ef_2 m i0 i1) k) fin
theorem own_c1_60_0 (x : Int32) : (True → f1_60 x (0 : Int32) = 1) ∧ (¬ (True) → f1_60 x (0 : Int32) = 0) := by
  exact ⟨fun d => rfl, fun d => absurd trivial d⟩
theorem own_c1_79_0 (x : Int32) : (False → f1_79 x (0 : Int32) = 1) ∧ (¬ (False) → f1_79 x (0 : Int32) = 0) := by
  exact ⟨fun d => False.elim d, fun d => rfl⟩
theorem own_c1_62_0 (x : Int32) : (False → f1_62 x (0 : Int32) = 1) ∧ (¬ (False) → f1_62 x (0 : Int32) = 0) := by
  exact ⟨fun d => (if_pos (by decide) : f1_62 x (0 : Int32) = _).trans ((own_c1_79_0 x).1 d), fun d => (if_pos (by decide) : f1_62 x (0 : Int32) = _).trans ((own_c1_79_0 x).2 d)⟩
theorem own_c1_54_0 (x : Int32) : (x.toInt = 13 → f1_54 x (0 : Int32) = 1) ∧ (¬ (x.toInt = 13) → f1_54 x (0 : Int32) = 0) := by
  have hi : (x = (13 : Int32)) ↔ x.toInt = 13 := own_eqi (by decide)
  have r1 := Int32.le_toInt x
  have r2 := Int32.toInt_lt x
  by_cases hB : x = (13 : Int32)
  · have hb : x.toInt = 13 := hi.mp hB
    exact ⟨fun d => ((if_pos hB) : f1_54 x (0 : Int32) = _).trans ((own_c1_60_0 x).1 (by first | exact trivial | exact not_false | omega)), fun d => ((if_pos hB) : f1_54 x (0 : Int32) = _).trans ((own_c1_60_0 x).2 (by first | exact trivial | exact not_false | omega))⟩
  · have hb : ¬ (x.toInt = 13) := fun y => hB (hi.mpr y)
    exact ⟨fun d => ((if_neg hB) : f1_54 x (0 : Int32) = _).trans ((own_c1_62_0 x).1 (by first | exact trivial | exact not_false | omega)), fun d => ((if_neg hB) : f1_54 x (0 : Int32) = _).trans ((own_c1_62_0 x).2 (by first | exact trivial | exact not_false | omega))⟩
theorem own_c1_48_0 (x : Int32) : (x.toInt = 10 ∨ x.toInt = 13 → f1_48 x (0 : Int32) = 1) ∧ (¬ (x.toInt = 10 ∨ x.toInt = 13) → f1_48 x (0 : Int32) = 0) := by
  have hi : (x = (10 : Int32)) ↔ x.toInt = 10 := own_eqi (by decide)
  have r1 := Int32.le_toInt x
  have r2 := Int32.toInt_lt x
  by_cases hB : x = (10 : Int32)
  · have hb : x.toInt = 10 := hi.mp hB
    exact ⟨fun d => ((if_pos hB) : f1_48 x (0 : Int32) = _).trans ((own_c1_60_0 x).1 (by first | exact trivial | exact not_false | omega)), fun d => ((if_pos hB) : f1_48 x (0 : Int32) = _).trans ((own_c1_60_0 x).2 (by first | exact trivial | exact not_false | omega))⟩
  · have hb : ¬ (x.toInt = 10) := fun y => hB (hi.mpr y)
    exact ⟨fun d => ((if_neg hB) : f1_48 x (0 : Int32) = _).trans ((own_c1_54_0 x).1 (by first | exact trivial | exact not_false | omega)), fun d => ((if_neg hB) : f1_48 x (0 : Int32) = _).trans ((own_c1_54_0 x).2 (by first | exact trivial | exact not_false | omega))⟩
theorem own_c1_42_0 (x : Int32) : ((9 ≤ x.toInt ∧ x.toInt ≤ 10) ∨ x.toInt = 13 → f1_42 x (0 : Int32) = 1) ∧ (¬ ((9 ≤ x.toInt ∧ x.toInt ≤ 10) ∨ x.toInt = 13) → f1_42 x (0 : Int32) = 0) := by
  have hi : (x = (9 : Int32)) ↔ x.toInt = 9 := own_eqi (by decide)
  have r1 := Int32.le_toInt x
  have r2 := Int32.toInt_lt x
  by_cases hB : x = (9 : Int32)
  · have hb : x.toInt = 9 := hi.mp hB
    exact ⟨fun d => ((if_pos hB) : f1_42 x (0 : Int32) = _).trans ((own_c1_60_0 x).1 (by first | exact trivial | exact not_false | omega)), fun d => ((if_pos hB) : f1_42 x (0 : Int32) = _).trans ((own_c1_60_0 x).2 (by first | exact trivial | exact not_false | omega))⟩
  · have hb : ¬ (x.toInt = 9) := fun y => hB (hi.mpr y)
    exact ⟨fun d => ((if_neg hB) : f1_42 x (0 : Int32) = _).trans ((own_c1_48_0 x).1 (by first | exact trivial | exact not_false | omega)), fun d => ((if_neg hB) : f1_42 x (0 : Int32) = _).trans ((own_c1_48_0 x).2 (by first | exact trivial | exact not_false | omega))⟩
theorem own_c1_40_0 (x : Int32) : (True → f1_40 x (0 : Int32) = 1) ∧ (¬ (True) → f1_40 x (0 : Int32) = 0) := by
  exact ⟨fun d => rfl, fun d => absurd trivial d⟩
theorem own_c1_34_0 (x : Int32) : (x.toInt ≤ 1114111 → f1_34 x (0 : Int32) = 1) ∧ (¬ (x.toInt ≤ 1114111) → f1_34 x (0 : Int32) = 0) := by
  have hi : ((1114111 : Int32) < x) ↔ 1114111 < x.toInt := Int32.lt_iff_toInt_lt
  have r1 := Int32.le_toInt x
  have r2 := Int32.toInt_lt x
  by_cases hB : (1114111 : Int32) < x
  · have hb : 1114111 < x.toInt := hi.mp hB
    exact ⟨fun d => ((if_pos hB) : f1_34 x (0 : Int32) = _).trans ((own_c1_42_0 x).1 (by first | exact trivial | exact not_false | omega)), fun d => ((if_pos hB) : f1_34 x (0 : Int32) = _).trans ((own_c1_42_0 x).2 (by first | exact trivial | exact not_false | omega))⟩
  · have hb : ¬ (1114111 < x.toInt) := fun y => hB (hi.mpr y)
    exact ⟨fun d => ((if_neg hB) : f1_34 x (0 : Int32) = _).trans ((own_c1_40_0 x).1 (by first | exact trivial | exact not_false | omega)), fun d => ((if_neg hB) : f1_34 x (0 : Int32) = _).trans ((own_c1_40_0 x).2 (by first | exact trivial | exact not_false | omega))⟩
theorem own_c1_28_0 (x : Int32) : ((9 ≤ x.toInt ∧ x.toInt ≤ 10) ∨ x.toInt = 13 ∨ (65536 ≤ x.toInt ∧ x.toInt ≤ 1114111) → f1_28 x (0 : Int32) = 1) ∧ (¬ ((9 ≤ x.toInt ∧ x.toInt ≤ 10) ∨ x.toInt = 13 ∨ (65536 ≤ x.toInt ∧ x.toInt ≤ 1114111)) → f1_28 x (0 : Int32) = 0) := by
  have hi : (x < (65536 : Int32)) ↔ x.toInt < 65536 := Int32.lt_iff_toInt_lt
  have r1 := Int32.le_toInt x
  have r2 := Int32.toInt_lt x
  by_cases hB : x < (65536 : Int32)
  · have hb : x.toInt < 65536 := hi.mp hB
    exact ⟨fun d => ((if_pos hB) : f1_28 x (0 : Int32) = _).trans ((own_c1_42_0 x).1 (by first | exact trivial | exact not_false | omega)), fun d => ((if_pos hB) : f1_28 x (0 : Int32) = _).trans ((own_c1_42_0 x).2 (by first | exact trivial | exact not_false | omega))⟩
  · have hb : ¬ (x.toInt < 65536) := fun y => hB (hi.mpr y)
    exact ⟨fun d => ((if_neg hB) : f1_28 x (0 : Int32) = _).trans ((own_c1_34_0 x).1 (by first | exact trivial | exact not_false | omega)), fun d => ((if_neg hB) : f1_28 x (0 : Int32) = _).trans ((own_c1_34_0 x).2 (by first | exact trivial | exact not_false | omega))⟩
theorem own_c1_26_0 (x : Int32) : (True → f1_26 x (0 : Int32) = 1) ∧ (¬ (True) → f1_26 x (0 : Int32) = 0) := by
  exact ⟨fun d => rfl, fun d => absurd trivial d⟩
theorem own_c1_20_0 (x : Int32) : (x.toInt ≤ 65533 ∨ (65536 ≤ x.toInt ∧ x.toInt ≤ 1114111) → f1_20 x (0 : Int32) = 1) ∧ (¬ (x.toInt ≤ 65533 ∨ (65536 ≤ x.toInt ∧ x.toInt ≤ 1114111)) → f1_20 x (0 : Int32) = 0) := by
  have hi : ((65533 : Int32) < x) ↔ 65533 < x.toInt := Int32.lt_iff_toInt_lt
  have r1 := Int32.le_toInt x
  have r2 := Int32.toInt_lt x
  by_cases hB : (65533 : Int32) < x
  · have hb : 65533 < x.toInt := hi.mp hB
    exact ⟨fun d => ((if_pos hB) : f1_20 x (0 : Int32) = _).trans ((own_c1_28_0 x).1 (by first | exact trivial | exact not_false | omega)), fun d => ((if_pos hB) : f1_20 x (0 : Int32) = _).trans ((own_c1_28_0 x).2 (by first | exact trivial | exact not_false | omega))⟩
  · have hb : ¬ (65533 < x.toInt) := fun y => hB (hi.mpr y)
    exact ⟨fun d => ((if_neg hB) : f1_20 x (0 : Int32) = _).trans ((own_c1_26_0 x).1 (by first | exact trivial | exact not_false | omega)), fun d => ((if_neg hB) : f1_20 x (0 : Int32) = _).trans ((own_c1_26_0 x).2 (by first | exact trivial | exact not_false | omega))⟩
theorem own_c1_14_0 (x : Int32) : ((9 ≤ x.toInt ∧ x.toInt ≤ 10) ∨ x.toInt = 13 ∨ (57344 ≤ x.toInt ∧ x.toInt ≤ 65533) ∨ (65536 ≤ x.toInt ∧ x.toInt ≤ 1114111) → f1_14 x (0 : Int32) = 1) ∧ (¬ ((9 ≤ x.toInt ∧ x.toInt ≤ 10) ∨ x.toInt = 13 ∨ (57344 ≤ x.toInt ∧ x.toInt ≤ 65533) ∨ (65536 ≤ x.toInt ∧ x.toInt ≤ 1114111)) → f1_14 x (0 : Int32) = 0) := by
  have hi : (x < (57344 : Int32)) ↔ x.toInt < 57344 := Int32.lt_iff_toInt_lt
  have r1 := Int32.le_toInt x
  have r2 := Int32.toInt_lt x
  by_cases hB : x < (57344 : Int32)
  · have hb : x.toInt < 57344 := hi.mp hB
    exact ⟨fun d => ((if_pos hB) : f1_14 x (0 : Int32) = _).trans ((own_c1_28_0 x).1 (by first | exact trivial | exact not_false | omega)), fun d => ((if_pos hB) : f1_14 x (0 : Int32) = _).trans ((own_c1_28_0 x).2 (by first | exact trivial | exact not_false | omega))⟩
  · have hb : ¬ (x.toInt < 57344) := fun y => hB (hi.mpr y)
    exact ⟨fun d => ((if_neg hB) : f1_14 x (0 : Int32) = _).trans ((own_c1_20_0 x).1 (by first | exact trivial | exact not_false | omega)), fun d => ((if_neg hB) : f1_14 x (0 : Int32) = _).trans ((own_c1_20_0 x).2 (by first | exact trivial | exact not_false | omega))⟩
theorem own_c1_12_0 (x : Int32) : (True → f1_12 x (0 : Int32) = 1) ∧ (¬ (True) → f1_12 x (0 : Int32) = 0) := by
  exact ⟨fun d => rfl, fun d => absurd trivial d⟩
theorem own_c1_6_0 (x : Int32) : (x.toInt ≤ 55295 ∨ (57344 ≤ x.toInt ∧ x.toInt ≤ 65533) ∨ (65536 ≤ x.toInt ∧ x.toInt ≤ 1114111) → f1_6 x (0 : Int32) = 1) ∧ (¬ (x.toInt ≤ 55295 ∨ (57344 ≤ x.toInt ∧ x.toInt ≤ 65533) ∨ (65536 ≤ x.toInt ∧ x.toInt ≤ 1114111)) → f1_6 x (0 : Int32) = 0) := by
  have hi : ((55295 : Int32) < x) ↔ 55295 < x.toInt := Int32.lt_iff_toInt_lt
  have r1 := Int32.le_toInt x
  have r2 := Int32.toInt_lt x
  by_cases hB : (55295 : Int32) < x
  · have hb : 55295 < x.toInt := hi.mp hB
    exact ⟨fun d => ((if_pos hB) : f1_6 x (0 : Int32) = _).trans ((own_c1_14_0 x).1 (by first | exact trivial | exact not_false | omega)), fun d => ((if_pos hB) : f1_6 x (0 : Int32) = _).trans ((own_c1_14_0 x).2 (by first | exact trivial | exact not_false | omega))⟩
  · have hb : ¬ (55295 < x.toInt) := fun y => hB (hi.mpr y)
    exact ⟨fun d => ((if_neg hB) : f1_6 x (0 : Int32) = _).trans ((own_c1_12_0 x).1 (by first | exact trivial | exact not_false | omega)), fun d => ((if_neg hB) : f1_6 x (0 : Int32) = _).trans ((own_c1_12_0 x).2 (by first | exact trivial | exact not_false | omega))⟩
theorem own_c1_0_0 (x : Int32) : ((9 ≤ x.toInt ∧ x.toInt ≤ 10) ∨ x.toInt = 13 ∨ (32 ≤ x.toInt ∧ x.toInt ≤ 55295) ∨ (57344 ≤ x.toInt ∧ x.toInt ≤ 65533) ∨ (65536 ≤ x.toInt ∧ x.toInt ≤ 1114111) → f1_0 x (0 : Int32) = 1) ∧ (¬ ((9 ≤ x.toInt ∧ x.toInt ≤ 10) ∨ x.toInt = 13 ∨ (32 ≤ x.toInt ∧ x.toInt ≤ 55295) ∨ (57344 ≤ x.toInt ∧ x.toInt ≤ 65533) ∨ (65536 ≤ x.toInt ∧ x.toInt ≤ 1114111)) → f1_0 x (0 : Int32) = 0) := by
  have hi : (x < (32 : Int32)) ↔ x.toInt < 32 := Int32.lt_iff_toInt_lt
  have r1 := Int32.le_toInt x
  have r2 := Int32.toInt_lt x
  by_cases hB : x < (32 : Int32)
  · have hb : x.toInt < 32 := hi.mp hB
    exact ⟨fun d => ((if_pos hB) : f1_0 x (0 : Int32) = _).trans ((own_c1_14_0 x).1 (by first | exact trivial | exact not_false | omega)), fun d => ((if_pos hB) : f1_0 x (0 : Int32) = _).trans ((own_c1_14_0 x).2 (by first | exact trivial | exact not_false | omega))⟩
  · have hb : ¬ (x.toInt < 32) := fun y => hB (hi.mpr y)
    exact ⟨fun d => ((if_neg hB) : f1_0 x (0 : Int32) = _).trans ((own_c1_6_0 x).1 (by first | exact trivial | exact not_false | omega)), fun d => ((if_neg hB) : f1_0 x (0 : Int32) = _).trans ((own_c1_6_0 x).2 (by first | exact trivial | exact not_false | omega))⟩
theorem own_c2_93_0_1_1_0 (x : Int32) : (False → f2_93 x (0 : Int32) (1 : Int32) (1 : Int32) (0 : Int32) = 1) ∧ (¬ (False) → f2_93 x (0 : Int32) (1 : Int32) (1 : Int32) (0 : Int32) = 0) := by
  exact ⟨fun d => False.elim d, fun d => rfl⟩
theorem own_c2_92_0_1_1 (x : Int32) : (False → f2_92 x (0 : Int32) (1 : Int32) (1 : Int32) = 1) ∧ (¬ (False) → f2_92 x (0 : Int32) (1 : Int32) (1 : Int32) = 0) := by
  exact own_c2_93_0_1_1_0 x
theorem own_c2_93_0_1_1_1 (x : Int32) : (True → f2_93 x (0 : Int32) (1 : Int32) (1 : Int32) (1 : Int32) = 1) ∧ (¬ (True) → f2_93 x (0 : Int32) (1 : Int32) (1 : Int32) (1 : Int32) = 0) := by
  exact ⟨fun d => rfl, fun d => absurd trivial d⟩
theorem own_c2_88_0_1_1 (x : Int32) : (True → f2_88 x (0 : Int32) (1 : Int32) (1 : Int32) = 1) ∧ (¬ (True) → f2_88 x (0 : Int32) (1 : Int32) (1 : Int32) = 0) := by
  exact own_c2_93_0_1_1_1 x
theorem own_c2_81_0_1_1 (x : Int32) : (x.toInt ≤ 1114111 → f2_81 x (0 : Int32) (1 : Int32) (1 : Int32) = 1) ∧ (¬ (x.toInt ≤ 1114111) → f2_81 x (0 : Int32) (1 : Int32) (1 : Int32) = 0) := by
  have hi : ((1114111 : Int32) < x) ↔ 1114111 < x.toInt := Int32.lt_iff_toInt_lt
  have r1 := Int32.le_toInt x
  have r2 := Int32.toInt_lt x
  by_cases hB : (1114111 : Int32) < x
  · have hb : 1114111 < x.toInt := hi.mp hB
    exact ⟨fun d => ((if_pos hB) : f2_81 x (0 : Int32) (1 : Int32) (1 : Int32) = _).trans ((own_c2_92_0_1_1 x).1 (by first | exact trivial | exact not_false | omega)), fun d => ((if_pos hB) : f2_81 x (0 : Int32) (1 : Int32) (1 : Int32) = _).trans ((own_c2_92_0_1_1 x).2 (by first | exact trivial | exact not_false | omega))⟩
  · have hb : ¬ (1114111 < x.toInt) := fun y => hB (hi.mpr y)
    exact ⟨fun d => ((if_neg hB) : f2_81 x (0 : Int32) (1 : Int32) (1 : Int32) = _).trans ((own_c2_88_0_1_1 x).1 (by first | exact trivial | exact not_false | omega)), fun d => ((if_neg hB) : f2_81 x (0 : Int32) (1 : Int32) (1 : Int32) = _).trans ((own_c2_88_0_1_1 x).2 (by first | exact trivial | exact not_false | omega))⟩
theorem own_c2_74_0_1_1 (x : Int32) : (x.toInt ≤ 65534 ∨ (65536 ≤ x.toInt ∧ x.toInt ≤ 1114111) → f2_74 x (0 : Int32) (1 : Int32) (1 : Int32) = 1) ∧ (¬ (x.toInt ≤ 65534 ∨ (65536 ≤ x.toInt ∧ x.toInt ≤ 1114111)) → f2_74 x (0 : Int32) (1 : Int32) (1 : Int32) = 0) := by
  have hi : (x = (65535 : Int32)) ↔ x.toInt = 65535 := own_eqi (by decide)
  have r1 := Int32.le_toInt x
  have r2 := Int32.toInt_lt x
  by_cases hB : x = (65535 : Int32)
  · have hb : x.toInt = 65535 := hi.mp hB
    exact ⟨fun d => ((if_pos hB) : f2_74 x (0 : Int32) (1 : Int32) (1 : Int32) = _).trans ((own_c2_92_0_1_1 x).1 (by first | exact trivial | exact not_false | omega)), fun d => ((if_pos hB) : f2_74 x (0 : Int32) (1 : Int32) (1 : Int32) = _).trans ((own_c2_92_0_1_1 x).2 (by first | exact trivial | exact not_false | omega))⟩
  · have hb : ¬ (x.toInt = 65535) := fun y => hB (hi.mpr y)
    exact ⟨fun d => ((if_neg hB) : f2_74 x (0 : Int32) (1 : Int32) (1 : Int32) = _).trans ((own_c2_81_0_1_1 x).1 (by first | exact trivial | exact not_false | omega)), fun d => ((if_neg hB) : f2_74 x (0 : Int32) (1 : Int32) (1 : Int32) = _).trans ((own_c2_81_0_1_1 x).2 (by first | exact trivial | exact not_false | omega))⟩
theorem own_c2_67_0_1_1 (x : Int32) : (x.toInt ≤ 65533 ∨ (65536 ≤ x.toInt ∧ x.toInt ≤ 1114111) → f2_67 x (0 : Int32) (1 : Int32) (1 : Int32) = 1) ∧ (¬ (x.toInt ≤ 65533 ∨ (65536 ≤ x.toInt ∧ x.toInt ≤ 1114111)) → f2_67 x (0 : Int32) (1 : Int32) (1 : Int32) = 0) := by
  have hi : (x = (65534 : Int32)) ↔ x.toInt = 65534 := own_eqi (by decide)
  have r1 := Int32.le_toInt x
  have r2 := Int32.toInt_lt x
  by_cases hB : x = (65534 : Int32)
  · have hb : x.toInt = 65534 := hi.mp hB
    exact ⟨fun d => ((if_pos hB) : f2_67 x (0 : Int32) (1 : Int32) (1 : Int32) = _).trans ((own_c2_92_0_1_1 x).1 (by first | exact trivial | exact not_false | omega)), fun d => ((if_pos hB) : f2_67 x (0 : Int32) (1 : Int32) (1 : Int32) = _).trans ((own_c2_92_0_1_1 x).2 (by first | exact trivial | exact not_false | omega))⟩
  · have hb : ¬ (x.toInt = 65534) := fun y => hB (hi.mpr y)
    exact ⟨fun d => ((if_neg hB) : f2_67 x (0 : Int32) (1 : Int32) (1 : Int32) = _).trans ((own_c2_74_0_1_1 x).1 (by first | exact trivial | exact not_false | omega)), fun d => ((if_neg hB) : f2_67 x (0 : Int32) (1 : Int32) (1 : Int32) = _).trans ((own_c2_74_0_1_1 x).2 (by first | exact trivial | exact not_false | omega))⟩
theorem own_c2_60_0_1_1 (x : Int32) : ((57344 ≤ x.toInt ∧ x.toInt ≤ 65533) ∨ (65536 ≤ x.toInt ∧ x.toInt ≤ 1114111) → f2_60 x (0 : Int32) (1 : Int32) (1 : Int32) = 1) ∧ (¬ ((57344 ≤ x.toInt ∧ x.toInt ≤ 65533) ∨ (65536 ≤ x.toInt ∧ x.toInt ≤ 1114111)) → f2_60 x (0 : Int32) (1 : Int32) (1 : Int32) = 0) := by
  have hi : ((57343 : Int32) < x) ↔ 57343 < x.toInt := Int32.lt_iff_toInt_lt
  have r1 := Int32.le_toInt x
  have r2 := Int32.toInt_lt x
  by_cases hB : (57343 : Int32) < x
  · have hb : 57343 < x.toInt := hi.mp hB
    exact ⟨fun d => ((if_pos hB) : f2_60 x (0 : Int32) (1 : Int32) (1 : Int32) = _).trans ((own_c2_67_0_1_1 x).1 (by first | exact trivial | exact not_false | omega)), fun d => ((if_pos hB) : f2_60 x (0 : Int32) (1 : Int32) (1 : Int32) = _).trans ((own_c2_67_0_1_1 x).2 (by first | exact trivial | exact not_false | omega))⟩
  · have hb : ¬ (57343 < x.toInt) := fun y => hB (hi.mpr y)
    exact ⟨fun d => ((if_neg hB) : f2_60 x (0 : Int32) (1 : Int32) (1 : Int32) = _).trans ((own_c2_92_0_1_1 x).1 (by first | exact trivial | exact not_false | omega)), fun d => ((if_neg hB) : f2_60 x (0 : Int32) (1 : Int32) (1 : Int32) = _).trans ((own_c2_92_0_1_1 x).2 (by first | exact trivial | exact not_false | omega))⟩
theorem own_c2_53_0_1_1 (x : Int32) : (x.toInt ≤ 55295 ∨ (57344 ≤ x.toInt ∧ x.toInt ≤ 65533) ∨ (65536 ≤ x.toInt ∧ x.toInt ≤ 1114111) → f2_53 x (0 : Int32) (1 : Int32) (1 : Int32) = 1) ∧ (¬ (x.toInt ≤ 55295 ∨ (57344 ≤ x.toInt ∧ x.toInt ≤ 65533) ∨ (65536 ≤ x.toInt ∧ x.toInt ≤ 1114111)) → f2_53 x (0 : Int32) (1 : Int32) (1 : Int32) = 0) := by
  have hi : (x < (55296 : Int32)) ↔ x.toInt < 55296 := Int32.lt_iff_toInt_lt
  have r1 := Int32.le_toInt x
  have r2 := Int32.toInt_lt x
  by_cases hB : x < (55296 : Int32)
  · have hb : x.toInt < 55296 := hi.mp hB
    exact ⟨fun d => ((if_pos hB) : f2_53 x (0 : Int32) (1 : Int32) (1 : Int32) = _).trans ((own_c2_67_0_1_1 x).1 (by first | exact trivial | exact not_false | omega)), fun d => ((if_pos hB) : f2_53 x (0 : Int32) (1 : Int32) (1 : Int32) = _).trans ((own_c2_67_0_1_1 x).2 (by first | exact trivial | exact not_false | omega))⟩
  · have hb : ¬ (x.toInt < 55296) := fun y => hB (hi.mpr y)
    exact ⟨fun d => ((if_neg hB) : f2_53 x (0 : Int32) (1 : Int32) (1 : Int32) = _).trans ((own_c2_60_0_1_1 x).1 (by first | exact trivial | exact not_false | omega)), fun d => ((if_neg hB) : f2_53 x (0 : Int32) (1 : Int32) (1 : Int32) = _).trans ((own_c2_60_0_1_1 x).2 (by first | exact trivial | exact not_false | omega))⟩
theorem own_c2_48_0_1_1 (x : Int32) : (x.toInt ≤ 55295 ∨ (57344 ≤ x.toInt ∧ x.toInt ≤ 65533) ∨ (65536 ≤ x.toInt ∧ x.toInt ≤ 1114111) → f2_48 x (0 : Int32) (1 : Int32) (1 : Int32) = 1) ∧ (¬ (x.toInt ≤ 55295 ∨ (57344 ≤ x.toInt ∧ x.toInt ≤ 65533) ∨ (65536 ≤ x.toInt ∧ x.toInt ≤ 1114111)) → f2_48 x (0 : Int32) (1 : Int32) (1 : Int32) = 0) := by
  exact ⟨fun d => (if_neg (by decide) : f2_48 x (0 : Int32) (1 : Int32) (1 : Int32) = _).trans ((own_c2_53_0_1_1 x).1 d), fun d => (if_neg (by decide) : f2_48 x (0 : Int32) (1 : Int32) (1 : Int32) = _).trans ((own_c2_53_0_1_1 x).2 d)⟩
theorem own_c2_43_0_1 (x : Int32) : (x.toInt ≤ 55295 ∨ (57344 ≤ x.toInt ∧ x.toInt ≤ 65533) ∨ (65536 ≤ x.toInt ∧ x.toInt ≤ 1114111) → f2_43 x (0 : Int32) (1 : Int32) = 1) ∧ (¬ (x.toInt ≤ 55295 ∨ (57344 ≤ x.toInt ∧ x.toInt ≤ 65533) ∨ (65536 ≤ x.toInt ∧ x.toInt ≤ 1114111)) → f2_43 x (0 : Int32) (1 : Int32) = 0) := by
  exact own_c2_48_0_1_1 x
theorem own_c2_29_0_1 (x : Int32) : (x.toInt ≤ 55295 ∨ (57344 ≤ x.toInt ∧ x.toInt ≤ 65533) ∨ (65536 ≤ x.toInt ∧ x.toInt ≤ 1114111) → f2_29 x (0 : Int32) (1 : Int32) = 1) ∧ (¬ (x.toInt ≤ 55295 ∨ (57344 ≤ x.toInt ∧ x.toInt ≤ 65533) ∨ (65536 ≤ x.toInt ∧ x.toInt ≤ 1114111)) → f2_29 x (0 : Int32) (1 : Int32) = 0) := by
  exact ⟨fun d => (if_neg (by decide) : f2_29 x (0 : Int32) (1 : Int32) = _).trans ((own_c2_43_0_1 x).1 d), fun d => (if_neg (by decide) : f2_29 x (0 : Int32) (1 : Int32) = _).trans ((own_c2_43_0_1 x).2 d)⟩
theorem own_c2_24_0 (x : Int32) : (x.toInt ≤ 55295 ∨ (57344 ≤ x.toInt ∧ x.toInt ≤ 65533) ∨ (65536 ≤ x.toInt ∧ x.toInt ≤ 1114111) → f2_24 x (0 : Int32) = 1) ∧ (¬ (x.toInt ≤ 55295 ∨ (57344 ≤ x.toInt ∧ x.toInt ≤ 65533) ∨ (65536 ≤ x.toInt ∧ x.toInt ≤ 1114111)) → f2_24 x (0 : Int32) = 0) := by
  exact own_c2_29_0_1 x
theorem own_c2_93_0_0_0_0 (x : Int32) : (False → f2_93 x (0 : Int32) (0 : Int32) (0 : Int32) (0 : Int32) = 1) ∧ (¬ (False) → f2_93 x (0 : Int32) (0 : Int32) (0 : Int32) (0 : Int32) = 0) := by
  exact ⟨fun d => False.elim d, fun d => rfl⟩
theorem own_c2_92_0_0_0 (x : Int32) : (False → f2_92 x (0 : Int32) (0 : Int32) (0 : Int32) = 1) ∧ (¬ (False) → f2_92 x (0 : Int32) (0 : Int32) (0 : Int32) = 0) := by
  exact own_c2_93_0_0_0_0 x
theorem own_c2_48_0_0_0 (x : Int32) : (False → f2_48 x (0 : Int32) (0 : Int32) (0 : Int32) = 1) ∧ (¬ (False) → f2_48 x (0 : Int32) (0 : Int32) (0 : Int32) = 0) := by
  exact ⟨fun d => (if_pos (by decide) : f2_48 x (0 : Int32) (0 : Int32) (0 : Int32) = _).trans ((own_c2_92_0_0_0 x).1 d), fun d => (if_pos (by decide) : f2_48 x (0 : Int32) (0 : Int32) (0 : Int32) = _).trans ((own_c2_92_0_0_0 x).2 d)⟩
theorem own_c2_47_0_0 (x : Int32) : (False → f2_47 x (0 : Int32) (0 : Int32) = 1) ∧ (¬ (False) → f2_47 x (0 : Int32) (0 : Int32) = 0) := by
  exact own_c2_48_0_0_0 x
theorem own_c2_34_0_0 (x : Int32) : (False → f2_34 x (0 : Int32) (0 : Int32) = 1) ∧ (¬ (False) → f2_34 x (0 : Int32) (0 : Int32) = 0) := by
  exact ⟨fun d => (if_pos (by decide) : f2_34 x (0 : Int32) (0 : Int32) = _).trans ((own_c2_47_0_0 x).1 d), fun d => (if_pos (by decide) : f2_34 x (0 : Int32) (0 : Int32) = _).trans ((own_c2_47_0_0 x).2 d)⟩
theorem own_c2_29_0_0 (x : Int32) : (False → f2_29 x (0 : Int32) (0 : Int32) = 1) ∧ (¬ (False) → f2_29 x (0 : Int32) (0 : Int32) = 0) := by
  exact ⟨fun d => (if_pos (by decide) : f2_29 x (0 : Int32) (0 : Int32) = _).trans ((own_c2_34_0_0 x).1 d), fun d => (if_pos (by decide) : f2_29 x (0 : Int32) (0 : Int32) = _).trans ((own_c2_34_0_0 x).2 d)⟩
theorem own_c2_28_0 (x : Int32) : (False → f2_28 x (0 : Int32) = 1) ∧ (¬ (False) → f2_28 x (0 : Int32) = 0) := by
  exact own_c2_29_0_0 x
theorem own_c2_18_0 (x : Int32) : ((32 ≤ x.toInt ∧ x.toInt ≤ 55295) ∨ (57344 ≤ x.toInt ∧ x.toInt ≤ 65533) ∨ (65536 ≤ x.toInt ∧ x.toInt ≤ 1114111) → f2_18 x (0 : Int32) = 1) ∧ (¬ ((32 ≤ x.toInt ∧ x.toInt ≤ 55295) ∨ (57344 ≤ x.toInt ∧ x.toInt ≤ 65533) ∨ (65536 ≤ x.toInt ∧ x.toInt ≤ 1114111)) → f2_18 x (0 : Int32) = 0) := by
  have hi : (x < (32 : Int32)) ↔ x.toInt < 32 := Int32.lt_iff_toInt_lt
  have r1 := Int32.le_toInt x
  have r2 := Int32.toInt_lt x
  by_cases hB : x < (32 : Int32)
  · have hb : x.toInt < 32 := hi.mp hB
    exact ⟨fun d => ((if_pos hB) : f2_18 x (0 : Int32) = _).trans ((own_c2_28_0 x).1 (by first | exact trivial | exact not_false | omega)), fun d => ((if_pos hB) : f2_18 x (0 : Int32) = _).trans ((own_c2_28_0 x).2 (by first | exact trivial | exact not_false | omega))⟩
  · have hb : ¬ (x.toInt < 32) := fun y => hB (hi.mpr y)
    exact ⟨fun d => ((if_neg hB) : f2_18 x (0 : Int32) = _).trans ((own_c2_24_0 x).1 (by first | exact trivial | exact not_false | omega)), fun d => ((if_neg hB) : f2_18 x (0 : Int32) = _).trans ((own_c2_24_0 x).2 (by first | exact trivial | exact not_false | omega))⟩
theorem own_c2_12_0 (x : Int32) : (x.toInt = 13 ∨ (32 ≤ x.toInt ∧ x.toInt ≤ 55295) ∨ (57344 ≤ x.toInt ∧ x.toInt ≤ 65533) ∨ (65536 ≤ x.toInt ∧ x.toInt ≤ 1114111) → f2_12 x (0 : Int32) = 1) ∧ (¬ (x.toInt = 13 ∨ (32 ≤ x.toInt ∧ x.toInt ≤ 55295) ∨ (57344 ≤ x.toInt ∧ x.toInt ≤ 65533) ∨ (65536 ≤ x.toInt ∧ x.toInt ≤ 1114111)) → f2_12 x (0 : Int32) = 0) := by
  have hi : (x = (13 : Int32)) ↔ x.toInt = 13 := own_eqi (by decide)
  have r1 := Int32.le_toInt x
  have r2 := Int32.toInt_lt x
  by_cases hB : x = (13 : Int32)
  · have hb : x.toInt = 13 := hi.mp hB
    exact ⟨fun d => ((if_pos hB) : f2_12 x (0 : Int32) = _).trans ((own_c2_24_0 x).1 (by first | exact trivial | exact not_false | omega)), fun d => ((if_pos hB) : f2_12 x (0 : Int32) = _).trans ((own_c2_24_0 x).2 (by first | exact trivial | exact not_false | omega))⟩
  · have hb : ¬ (x.toInt = 13) := fun y => hB (hi.mpr y)
    exact ⟨fun d => ((if_neg hB) : f2_12 x (0 : Int32) = _).trans ((own_c2_18_0 x).1 (by first | exact trivial | exact not_false | omega)), fun d => ((if_neg hB) : f2_12 x (0 : Int32) = _).trans ((own_c2_18_0 x).2 (by first | exact trivial | exact not_false | omega))⟩
theorem own_c2_6_0 (x : Int32) : (x.toInt = 10 ∨ x.toInt = 13 ∨ (32 ≤ x.toInt ∧ x.toInt ≤ 55295) ∨ (57344 ≤ x.toInt ∧ x.toInt ≤ 65533) ∨ (65536 ≤ x.toInt ∧ x.toInt ≤ 1114111) → f2_6 x (0 : Int32) = 1) ∧ (¬ (x.toInt = 10 ∨ x.toInt = 13 ∨ (32 ≤ x.toInt ∧ x.toInt ≤ 55295) ∨ (57344 ≤ x.toInt ∧ x.toInt ≤ 65533) ∨ (65536 ≤ x.toInt ∧ x.toInt ≤ 1114111)) → f2_6 x (0 : Int32) = 0) := by
  have hi : (x = (10 : Int32)) ↔ x.toInt = 10 := own_eqi (by decide)
  have r1 := Int32.le_toInt x
  have r2 := Int32.toInt_lt x
  by_cases hB : x = (10 : Int32)
  · have hb : x.toInt = 10 := hi.mp hB
    exact ⟨fun d => ((if_pos hB) : f2_6 x (0 : Int32) = _).trans ((own_c2_24_0 x).1 (by first | exact trivial | exact not_false | omega)), fun d => ((if_pos hB) : f2_6 x (0 : Int32) = _).trans ((own_c2_24_0 x).2 (by first | exact trivial | exact not_false | omega))⟩
  · have hb : ¬ (x.toInt = 10) := fun y => hB (hi.mpr y)
    exact ⟨fun d => ((if_neg hB) : f2_6 x (0 : Int32) = _).trans ((own_c2_12_0 x).1 (by first | exact trivial | exact not_false | omega)), fun d => ((if_neg hB) : f2_6 x (0 : Int32) = _).trans ((own_c2_12_0 x).2 (by first | exact trivial | exact not_false | omega))⟩
theorem own_c2_0_0 (x : Int32) : ((9 ≤ x.toInt ∧ x.toInt ≤ 10) ∨ x.toInt = 13 ∨ (32 ≤ x.toInt ∧ x.toInt ≤ 55295) ∨ (57344 ≤ x.toInt ∧ x.toInt ≤ 65533) ∨ (65536 ≤ x.toInt ∧ x.toInt ≤ 1114111) → f2_0 x (0 : Int32) = 1) ∧ (¬ ((9 ≤ x.toInt ∧ x.toInt ≤ 10) ∨ x.toInt = 13 ∨ (32 ≤ x.toInt ∧ x.toInt ≤ 55295) ∨ (57344 ≤ x.toInt ∧ x.toInt ≤ 65533) ∨ (65536 ≤ x.toInt ∧ x.toInt ≤ 1114111)) → f2_0 x (0 : Int32) = 0) := by
  have hi : (x = (9 : Int32)) ↔ x.toInt = 9 := own_eqi (by decide)
  have r1 := Int32.le_toInt x
  have r2 := Int32.toInt_lt x
  by_cases hB : x = (9 : Int32)
  · have hb : x.toInt = 9 := hi.mp hB
    exact ⟨fun d => ((if_pos hB) : f2_0 x (0 : Int32) = _).trans ((own_c2_24_0 x).1 (by first | exact trivial | exact not_false | omega)), fun d => ((if_pos hB) : f2_0 x (0 : Int32) = _).trans ((own_c2_24_0 x).2 (by first | exact trivial | exact not_false | omega))⟩
  · have hb : ¬ (x.toInt = 9) := fun y => hB (hi.mpr y)
    exact ⟨fun d => ((if_neg hB) : f2_0 x (0 : Int32) = _).trans ((own_c2_6_0 x).1 (by first | exact trivial | exact not_false | omega)), fun d => ((if_neg hB) : f2_0 x (0 : Int32) = _).trans ((own_c2_6_0 x).2 (by first | exact trivial | exact not_false | omega))⟩
theorem own_c1_60_1 (x : Int32) : (True → f1_60 x (1 : Int32) = 1) ∧ (¬ (True) → f1_60 x (1 : Int32) = 0) := by
  exact ⟨fun d => rfl, fun d => absurd trivial d⟩
theorem own_c1_79_1 (x : Int32) : (False → f1_79 x (1 : Int32) = 1) ∧ (¬ (False) → f1_79 x (1 : Int32) = 0) := by
  exact ⟨fun d => False.elim d, fun d => rfl⟩
theorem own_c1_77_1 (x : Int32) : (True → f1_77 x (1 : Int32) = 1) ∧ (¬ (True) → f1_77 x (1 : Int32) = 0) := by
  exact ⟨fun d => rfl, fun d => absurd trivial d⟩
theorem own_c1_71_1 (x : Int32) : (x.toInt ≤ 31 → f1_71 x (1 : Int32) = 1) ∧ (¬ (x.toInt ≤ 31) → f1_71 x (1 : Int32) = 0) := by
  have hi : ((31 : Int32) < x) ↔ 31 < x.toInt := Int32.lt_iff_toInt_lt
  have r1 := Int32.le_toInt x
  have r2 := Int32.toInt_lt x
  by_cases hB : (31 : Int32) < x
  · have hb : 31 < x.toInt := hi.mp hB
    exact ⟨fun d => ((if_pos hB) : f1_71 x (1 : Int32) = _).trans ((own_c1_79_1 x).1 (by first | exact trivial | exact not_false | omega)), fun d => ((if_pos hB) : f1_71 x (1 : Int32) = _).trans ((own_c1_79_1 x).2 (by first | exact trivial | exact not_false | omega))⟩
  · have hb : ¬ (31 < x.toInt) := fun y => hB (hi.mpr y)
    exact ⟨fun d => ((if_neg hB) : f1_71 x (1 : Int32) = _).trans ((own_c1_77_1 x).1 (by first | exact trivial | exact not_false | omega)), fun d => ((if_neg hB) : f1_71 x (1 : Int32) = _).trans ((own_c1_77_1 x).2 (by first | exact trivial | exact not_false | omega))⟩
theorem own_c1_66_1 (x : Int32) : ((1 ≤ x.toInt ∧ x.toInt ≤ 31) → f1_66 x (1 : Int32) = 1) ∧ (¬ ((1 ≤ x.toInt ∧ x.toInt ≤ 31)) → f1_66 x (1 : Int32) = 0) := by
  have hi : (x < (1 : Int32)) ↔ x.toInt < 1 := Int32.lt_iff_toInt_lt
  have r1 := Int32.le_toInt x
  have r2 := Int32.toInt_lt x
  by_cases hB : x < (1 : Int32)
  · have hb : x.toInt < 1 := hi.mp hB
    exact ⟨fun d => ((if_pos hB) : f1_66 x (1 : Int32) = _).trans ((own_c1_79_1 x).1 (by first | exact trivial | exact not_false | omega)), fun d => ((if_pos hB) : f1_66 x (1 : Int32) = _).trans ((own_c1_79_1 x).2 (by first | exact trivial | exact not_false | omega))⟩
  · have hb : ¬ (x.toInt < 1) := fun y => hB (hi.mpr y)
    exact ⟨fun d => ((if_neg hB) : f1_66 x (1 : Int32) = _).trans ((own_c1_71_1 x).1 (by first | exact trivial | exact not_false | omega)), fun d => ((if_neg hB) : f1_66 x (1 : Int32) = _).trans ((own_c1_71_1 x).2 (by first | exact trivial | exact not_false | omega))⟩
theorem own_c1_62_1 (x : Int32) : ((1 ≤ x.toInt ∧ x.toInt ≤ 31) → f1_62 x (1 : Int32) = 1) ∧ (¬ ((1 ≤ x.toInt ∧ x.toInt ≤ 31)) → f1_62 x (1 : Int32) = 0) := by
  exact ⟨fun d => (if_neg (by decide) : f1_62 x (1 : Int32) = _).trans ((own_c1_66_1 x).1 d), fun d => (if_neg (by decide) : f1_62 x (1 : Int32) = _).trans ((own_c1_66_1 x).2 d)⟩
theorem own_c1_54_1 (x : Int32) : ((1 ≤ x.toInt ∧ x.toInt ≤ 31) → f1_54 x (1 : Int32) = 1) ∧ (¬ ((1 ≤ x.toInt ∧ x.toInt ≤ 31)) → f1_54 x (1 : Int32) = 0) := by
  have hi : (x = (13 : Int32)) ↔ x.toInt = 13 := own_eqi (by decide)
  have r1 := Int32.le_toInt x
  have r2 := Int32.toInt_lt x
  by_cases hB : x = (13 : Int32)
  · have hb : x.toInt = 13 := hi.mp hB
    exact ⟨fun d => ((if_pos hB) : f1_54 x (1 : Int32) = _).trans ((own_c1_60_1 x).1 (by first | exact trivial | exact not_false | omega)), fun d => ((if_pos hB) : f1_54 x (1 : Int32) = _).trans ((own_c1_60_1 x).2 (by first | exact trivial | exact not_false | omega))⟩
  · have hb : ¬ (x.toInt = 13) := fun y => hB (hi.mpr y)
    exact ⟨fun d => ((if_neg hB) : f1_54 x (1 : Int32) = _).trans ((own_c1_62_1 x).1 (by first | exact trivial | exact not_false | omega)), fun d => ((if_neg hB) : f1_54 x (1 : Int32) = _).trans ((own_c1_62_1 x).2 (by first | exact trivial | exact not_false | omega))⟩
theorem own_c1_48_1 (x : Int32) : ((1 ≤ x.toInt ∧ x.toInt ≤ 31) → f1_48 x (1 : Int32) = 1) ∧ (¬ ((1 ≤ x.toInt ∧ x.toInt ≤ 31)) → f1_48 x (1 : Int32) = 0) := by
  have hi : (x = (10 : Int32)) ↔ x.toInt = 10 := own_eqi (by decide)
  have r1 := Int32.le_toInt x
  have r2 := Int32.toInt_lt x
  by_cases hB : x = (10 : Int32)
  · have hb : x.toInt = 10 := hi.mp hB
    exact ⟨fun d => ((if_pos hB) : f1_48 x (1 : Int32) = _).trans ((own_c1_60_1 x).1 (by first | exact trivial | exact not_false | omega)), fun d => ((if_pos hB) : f1_48 x (1 : Int32) = _).trans ((own_c1_60_1 x).2 (by first | exact trivial | exact not_false | omega))⟩
  · have hb : ¬ (x.toInt = 10) := fun y => hB (hi.mpr y)
    exact ⟨fun d => ((if_neg hB) : f1_48 x (1 : Int32) = _).trans ((own_c1_54_1 x).1 (by first | exact trivial | exact not_false | omega)), fun d => ((if_neg hB) : f1_48 x (1 : Int32) = _).trans ((own_c1_54_1 x).2 (by first | exact trivial | exact not_false | omega))⟩
theorem own_c1_42_1 (x : Int32) : ((1 ≤ x.toInt ∧ x.toInt ≤ 31) → f1_42 x (1 : Int32) = 1) ∧ (¬ ((1 ≤ x.toInt ∧ x.toInt ≤ 31)) → f1_42 x (1 : Int32) = 0) := by
  have hi : (x = (9 : Int32)) ↔ x.toInt = 9 := own_eqi (by decide)
  have r1 := Int32.le_toInt x
  have r2 := Int32.toInt_lt x
  by_cases hB : x = (9 : Int32)
  · have hb : x.toInt = 9 := hi.mp hB
    exact ⟨fun d => ((if_pos hB) : f1_42 x (1 : Int32) = _).trans ((own_c1_60_1 x).1 (by first | exact trivial | exact not_false | omega)), fun d => ((if_pos hB) : f1_42 x (1 : Int32) = _).trans ((own_c1_60_1 x).2 (by first | exact trivial | exact not_false | omega))⟩
  · have hb : ¬ (x.toInt = 9) := fun y => hB (hi.mpr y)
    exact ⟨fun d => ((if_neg hB) : f1_42 x (1 : Int32) = _).trans ((own_c1_48_1 x).1 (by first | exact trivial | exact not_false | omega)), fun d => ((if_neg hB) : f1_42 x (1 : Int32) = _).trans ((own_c1_48_1 x).2 (by first | exact trivial | exact not_false | omega))⟩
theorem own_c1_40_1 (x : Int32) : (True → f1_40 x (1 : Int32) = 1) ∧ (¬ (True) → f1_40 x (1 : Int32) = 0) := by
  exact ⟨fun d => rfl, fun d => absurd trivial d⟩
theorem own_c1_34_1 (x : Int32) : (x.toInt ≤ 1114111 → f1_34 x (1 : Int32) = 1) ∧ (¬ (x.toInt ≤ 1114111) → f1_34 x (1 : Int32) = 0) := by
  have hi : ((1114111 : Int32) < x) ↔ 1114111 < x.toInt := Int32.lt_iff_toInt_lt
  have r1 := Int32.le_toInt x
  have r2 := Int32.toInt_lt x
  by_cases hB : (1114111 : Int32) < x
  · have hb : 1114111 < x.toInt := hi.mp hB
    exact ⟨fun d => ((if_pos hB) : f1_34 x (1 : Int32) = _).trans ((own_c1_42_1 x).1 (by first | exact trivial | exact not_false | omega)), fun d => ((if_pos hB) : f1_34 x (1 : Int32) = _).trans ((own_c1_42_1 x).2 (by first | exact trivial | exact not_false | omega))⟩
  · have hb : ¬ (1114111 < x.toInt) := fun y => hB (hi.mpr y)
    exact ⟨fun d => ((if_neg hB) : f1_34 x (1 : Int32) = _).trans ((own_c1_40_1 x).1 (by first | exact trivial | exact not_false | omega)), fun d => ((if_neg hB) : f1_34 x (1 : Int32) = _).trans ((own_c1_40_1 x).2 (by first | exact trivial | exact not_false | omega))⟩
theorem own_c1_28_1 (x : Int32) : ((1 ≤ x.toInt ∧ x.toInt ≤ 31) ∨ (65536 ≤ x.toInt ∧ x.toInt ≤ 1114111) → f1_28 x (1 : Int32) = 1) ∧ (¬ ((1 ≤ x.toInt ∧ x.toInt ≤ 31) ∨ (65536 ≤ x.toInt ∧ x.toInt ≤ 1114111)) → f1_28 x (1 : Int32) = 0) := by
  have hi : (x < (65536 : Int32)) ↔ x.toInt < 65536 := Int32.lt_iff_toInt_lt
  have r1 := Int32.le_toInt x
  have r2 := Int32.toInt_lt x
  by_cases hB : x < (65536 : Int32)
  · have hb : x.toInt < 65536 := hi.mp hB
    exact ⟨fun d => ((if_pos hB) : f1_28 x (1 : Int32) = _).trans ((own_c1_42_1 x).1 (by first | exact trivial | exact not_false | omega)), fun d => ((if_pos hB) : f1_28 x (1 : Int32) = _).trans ((own_c1_42_1 x).2 (by first | exact trivial | exact not_false | omega))⟩
  · have hb : ¬ (x.toInt < 65536) := fun y => hB (hi.mpr y)
    exact ⟨fun d => ((if_neg hB) : f1_28 x (1 : Int32) = _).trans ((own_c1_34_1 x).1 (by first | exact trivial | exact not_false | omega)), fun d => ((if_neg hB) : f1_28 x (1 : Int32) = _).trans ((own_c1_34_1 x).2 (by first | exact trivial | exact not_false | omega))⟩
theorem own_c1_26_1 (x : Int32) : (True → f1_26 x (1 : Int32) = 1) ∧ (¬ (True) → f1_26 x (1 : Int32) = 0) := by
  exact ⟨fun d => rfl, fun d => absurd trivial d⟩
theorem own_c1_20_1 (x : Int32) : (x.toInt ≤ 65533 ∨ (65536 ≤ x.toInt ∧ x.toInt ≤ 1114111) → f1_20 x (1 : Int32) = 1) ∧ (¬ (x.toInt ≤ 65533 ∨ (65536 ≤ x.toInt ∧ x.toInt ≤ 1114111)) → f1_20 x (1 : Int32) = 0) := by
  have hi : ((65533 : Int32) < x) ↔ 65533 < x.toInt := Int32.lt_iff_toInt_lt
  have r1 := Int32.le_toInt x
  have r2 := Int32.toInt_lt x
  by_cases hB : (65533 : Int32) < x
  · have hb : 65533 < x.toInt := hi.mp hB
    exact ⟨fun d => ((if_pos hB) : f1_20 x (1 : Int32) = _).trans ((own_c1_28_1 x).1 (by first | exact trivial | exact not_false | omega)), fun d => ((if_pos hB) : f1_20 x (1 : Int32) = _).trans ((own_c1_28_1 x).2 (by first | exact trivial | exact not_false | omega))⟩
  · have hb : ¬ (65533 < x.toInt) := fun y => hB (hi.mpr y)
    exact ⟨fun d => ((if_neg hB) : f1_20 x (1 : Int32) = _).trans ((own_c1_26_1 x).1 (by first | exact trivial | exact not_false | omega)), fun d => ((if_neg hB) : f1_20 x (1 : Int32) = _).trans ((own_c1_26_1 x).2 (by first | exact trivial | exact not_false | omega))⟩
theorem own_c1_14_1 (x : Int32) : ((1 ≤ x.toInt ∧ x.toInt ≤ 31) ∨ (57344 ≤ x.toInt ∧ x.toInt ≤ 65533) ∨ (65536 ≤ x.toInt ∧ x.toInt ≤ 1114111) → f1_14 x (1 : Int32) = 1) ∧ (¬ ((1 ≤ x.toInt ∧ x.toInt ≤ 31) ∨ (57344 ≤ x.toInt ∧ x.toInt ≤ 65533) ∨ (65536 ≤ x.toInt ∧ x.toInt ≤ 1114111)) → f1_14 x (1 : Int32) = 0) := by
  have hi : (x < (57344 : Int32)) ↔ x.toInt < 57344 := Int32.lt_iff_toInt_lt
  have r1 := Int32.le_toInt x
  have r2 := Int32.toInt_lt x
  by_cases hB : x < (57344 : Int32)
  · have hb : x.toInt < 57344 := hi.mp hB
    exact ⟨fun d => ((if_pos hB) : f1_14 x (1 : Int32) = _).trans ((own_c1_28_1 x).1 (by first | exact trivial | exact not_false | omega)), fun d => ((if_pos hB) : f1_14 x (1 : Int32) = _).trans ((own_c1_28_1 x).2 (by first | exact trivial | exact not_false | omega))⟩
  · have hb : ¬ (x.toInt < 57344) := fun y => hB (hi.mpr y)
    exact ⟨fun d => ((if_neg hB) : f1_14 x (1 : Int32) = _).trans ((own_c1_20_1 x).1 (by first | exact trivial | exact not_false | omega)), fun d => ((if_neg hB) : f1_14 x (1 : Int32) = _).trans ((own_c1_20_1 x).2 (by first | exact trivial | exact not_false | omega))⟩
theorem own_c1_12_1 (x : Int32) : (True → f1_12 x (1 : Int32) = 1) ∧ (¬ (True) → f1_12 x (1 : Int32) = 0) := by
  exact ⟨fun d => rfl, fun d => absurd trivial d⟩
theorem own_c1_6_1 (x : Int32) : (x.toInt ≤ 55295 ∨ (57344 ≤ x.toInt ∧ x.toInt ≤ 65533) ∨ (65536 ≤ x.toInt ∧ x.toInt ≤ 1114111) → f1_6 x (1 : Int32) = 1) ∧ (¬ (x.toInt ≤ 55295 ∨ (57344 ≤ x.toInt ∧ x.toInt ≤ 65533) ∨ (65536 ≤ x.toInt ∧ x.toInt ≤ 1114111)) → f1_6 x (1 : Int32) = 0) := by
  have hi : ((55295 : Int32) < x) ↔ 55295 < x.toInt := Int32.lt_iff_toInt_lt
  have r1 := Int32.le_toInt x
  have r2 := Int32.toInt_lt x
  by_cases hB : (55295 : Int32) < x
  · have hb : 55295 < x.toInt := hi.mp hB
    exact ⟨fun d => ((if_pos hB) : f1_6 x (1 : Int32) = _).trans ((own_c1_14_1 x).1 (by first | exact trivial | exact not_false | omega)), fun d => ((if_pos hB) : f1_6 x (1 : Int32) = _).trans ((own_c1_14_1 x).2 (by first | exact trivial | exact not_false | omega))⟩
  · have hb : ¬ (55295 < x.toInt) := fun y => hB (hi.mpr y)
    exact ⟨fun d => ((if_neg hB) : f1_6 x (1 : Int32) = _).trans ((own_c1_12_1 x).1 (by first | exact trivial | exact not_false | omega)), fun d => ((if_neg hB) : f1_6 x (1 : Int32) = _).trans ((own_c1_12_1 x).2 (by first | exact trivial | exact not_false | omega))⟩
theorem own_c1_0_1 (x : Int32) : ((1 ≤ x.toInt ∧ x.toInt ≤ 55295) ∨ (57344 ≤ x.toInt ∧ x.toInt ≤ 65533) ∨ (65536 ≤ x.toInt ∧ x.toInt ≤ 1114111) → f1_0 x (1 : Int32) = 1) ∧ (¬ ((1 ≤ x.toInt ∧ x.toInt ≤ 55295) ∨ (57344 ≤ x.toInt ∧ x.toInt ≤ 65533) ∨ (65536 ≤ x.toInt ∧ x.toInt ≤ 1114111)) → f1_0 x (1 : Int32) = 0) := by
  have hi : (x < (32 : Int32)) ↔ x.toInt < 32 := Int32.lt_iff_toInt_lt
  have r1 := Int32.le_toInt x
  have r2 := Int32.toInt_lt x
  by_cases hB : x < (32 : Int32)
  · have hb : x.toInt < 32 := hi.mp hB
    exact ⟨fun d => ((if_pos hB) : f1_0 x (1 : Int32) = _).trans ((own_c1_14_1 x).1 (by first | exact trivial | exact not_false | omega)), fun d => ((if_pos hB) : f1_0 x (1 : Int32) = _).trans ((own_c1_14_1 x).2 (by first | exact trivial | exact not_false | omega))⟩
  · have hb : ¬ (x.toInt < 32) := fun y => hB (hi.mpr y)
    exact ⟨fun d => ((if_neg hB) : f1_0 x (1 : Int32) = _).trans ((own_c1_6_1 x).1 (by first | exact trivial | exact not_false | omega)), fun d => ((if_neg hB) : f1_0 x (1 : Int32) = _).trans ((own_c1_6_1 x).2 (by first | exact trivial | exact not_false | omega))⟩
theorem own_c2_93_1_1_1_0 (x : Int32) : (False → f2_93 x (1 : Int32) (1 : Int32) (1 : Int32) (0 : Int32) = 1) ∧ (¬ (False) → f2_93 x (1 : Int32) (1 : Int32) (1 : Int32) (0 : Int32) = 0) := by
  exact ⟨fun d => False.elim d, fun d => rfl⟩
theorem own_c2_92_1_1_1 (x : Int32) : (False → f2_92 x (1 : Int32) (1 : Int32) (1 : Int32) = 1) ∧ (¬ (False) → f2_92 x (1 : Int32) (1 : Int32) (1 : Int32) = 0) := by
  exact own_c2_93_1_1_1_0 x
theorem own_c2_93_1_1_1_1 (x : Int32) : (True → f2_93 x (1 : Int32) (1 : Int32) (1 : Int32) (1 : Int32) = 1) ∧ (¬ (True) → f2_93 x (1 : Int32) (1 : Int32) (1 : Int32) (1 : Int32) = 0) := by
  exact ⟨fun d => rfl, fun d => absurd trivial d⟩
theorem own_c2_88_1_1_1 (x : Int32) : (True → f2_88 x (1 : Int32) (1 : Int32) (1 : Int32) = 1) ∧ (¬ (True) → f2_88 x (1 : Int32) (1 : Int32) (1 : Int32) = 0) := by
  exact own_c2_93_1_1_1_1 x
theorem own_c2_81_1_1_1 (x : Int32) : (x.toInt ≤ 1114111 → f2_81 x (1 : Int32) (1 : Int32) (1 : Int32) = 1) ∧ (¬ (x.toInt ≤ 1114111) → f2_81 x (1 : Int32) (1 : Int32) (1 : Int32) = 0) := by
  have hi : ((1114111 : Int32) < x) ↔ 1114111 < x.toInt := Int32.lt_iff_toInt_lt
  have r1 := Int32.le_toInt x
  have r2 := Int32.toInt_lt x
  by_cases hB : (1114111 : Int32) < x
  · have hb : 1114111 < x.toInt := hi.mp hB
    exact ⟨fun d => ((if_pos hB) : f2_81 x (1 : Int32) (1 : Int32) (1 : Int32) = _).trans ((own_c2_92_1_1_1 x).1 (by first | exact trivial | exact not_false | omega)), fun d => ((if_pos hB) : f2_81 x (1 : Int32) (1 : Int32) (1 : Int32) = _).trans ((own_c2_92_1_1_1 x).2 (by first | exact trivial | exact not_false | omega))⟩
  · have hb : ¬ (1114111 < x.toInt) := fun y => hB (hi.mpr y)
    exact ⟨fun d => ((if_neg hB) : f2_81 x (1 : Int32) (1 : Int32) (1 : Int32) = _).trans ((own_c2_88_1_1_1 x).1 (by first | exact trivial | exact not_false | omega)), fun d => ((if_neg hB) : f2_81 x (1 : Int32) (1 : Int32) (1 : Int32) = _).trans ((own_c2_88_1_1_1 x).2 (by first | exact trivial | exact not_false | omega))⟩
theorem own_c2_74_1_1_1 (x : Int32) : (x.toInt ≤ 65534 ∨ (65536 ≤ x.toInt ∧ x.toInt ≤ 1114111) → f2_74 x (1 : Int32) (1 : Int32) (1 : Int32) = 1) ∧ (¬ (x.toInt ≤ 65534 ∨ (65536 ≤ x.toInt ∧ x.toInt ≤ 1114111)) → f2_74 x (1 : Int32) (1 : Int32) (1 : Int32) = 0) := by
  have hi : (x = (65535 : Int32)) ↔ x.toInt = 65535 := own_eqi (by decide)
  have r1 := Int32.le_toInt x
  have r2 := Int32.toInt_lt x
  by_cases hB : x = (65535 : Int32)
  · have hb : x.toInt = 65535 := hi.mp hB
    exact ⟨fun d => ((if_pos hB) : f2_74 x (1 : Int32) (1 : Int32) (1 : Int32) = _).trans ((own_c2_92_1_1_1 x).1 (by first | exact trivial | exact not_false | omega)), fun d => ((if_pos hB) : f2_74 x (1 : Int32) (1 : Int32) (1 : Int32) = _).trans ((own_c2_92_1_1_1 x).2 (by first | exact trivial | exact not_false | omega))⟩
  · have hb : ¬ (x.toInt = 65535) := fun y => hB (hi.mpr y)
    exact ⟨fun d => ((if_neg hB) : f2_74 x (1 : Int32) (1 : Int32) (1 : Int32) = _).trans ((own_c2_81_1_1_1 x).1 (by first | exact trivial | exact not_false | omega)), fun d => ((if_neg hB) : f2_74 x (1 : Int32) (1 : Int32) (1 : Int32) = _).trans ((own_c2_81_1_1_1 x).2 (by first | exact trivial | exact not_false | omega))⟩
theorem own_c2_67_1_1_1 (x : Int32) : (x.toInt ≤ 65533 ∨ (65536 ≤ x.toInt ∧ x.toInt ≤ 1114111) → f2_67 x (1 : Int32) (1 : Int32) (1 : Int32) = 1) ∧ (¬ (x.toInt ≤ 65533 ∨ (65536 ≤ x.toInt ∧ x.toInt ≤ 1114111)) → f2_67 x (1 : Int32) (1 : Int32) (1 : Int32) = 0) := by
  have hi : (x = (65534 : Int32)) ↔ x.toInt = 65534 := own_eqi (by decide)
  have r1 := Int32.le_toInt x
  have r2 := Int32.toInt_lt x
  by_cases hB : x = (65534 : Int32)
  · have hb : x.toInt = 65534 := hi.mp hB
    exact ⟨fun d => ((if_pos hB) : f2_67 x (1 : Int32) (1 : Int32) (1 : Int32) = _).trans ((own_c2_92_1_1_1 x).1 (by first | exact trivial | exact not_false | omega)), fun d => ((if_pos hB) : f2_67 x (1 : Int32) (1 : Int32) (1 : Int32) = _).trans ((own_c2_92_1_1_1 x).2 (by first | exact trivial | exact not_false | omega))⟩
  · have hb : ¬ (x.toInt = 65534) := fun y => hB (hi.mpr y)
    exact ⟨fun d => ((if_neg hB) : f2_67 x (1 : Int32) (1 : Int32) (1 : Int32) = _).trans ((own_c2_74_1_1_1 x).1 (by first | exact trivial | exact not_false | omega)), fun d => ((if_neg hB) : f2_67 x (1 : Int32) (1 : Int32) (1 : Int32) = _).trans ((own_c2_74_1_1_1 x).2 (by first | exact trivial | exact not_false | omega))⟩
theorem own_c2_60_1_1_1 (x : Int32) : ((57344 ≤ x.toInt ∧ x.toInt ≤ 65533) ∨ (65536 ≤ x.toInt ∧ x.toInt ≤ 1114111) → f2_60 x (1 : Int32) (1 : Int32) (1 : Int32) = 1) ∧ (¬ ((57344 ≤ x.toInt ∧ x.toInt ≤ 65533) ∨ (65536 ≤ x.toInt ∧ x.toInt ≤ 1114111)) → f2_60 x (1 : Int32) (1 : Int32) (1 : Int32) = 0) := by
  have hi : ((57343 : Int32) < x) ↔ 57343 < x.toInt := Int32.lt_iff_toInt_lt
  have r1 := Int32.le_toInt x
  have r2 := Int32.toInt_lt x
  by_cases hB : (57343 : Int32) < x
  · have hb : 57343 < x.toInt := hi.mp hB
    exact ⟨fun d => ((if_pos hB) : f2_60 x (1 : Int32) (1 : Int32) (1 : Int32) = _).trans ((own_c2_67_1_1_1 x).1 (by first | exact trivial | exact not_false | omega)), fun d => ((if_pos hB) : f2_60 x (1 : Int32) (1 : Int32) (1 : Int32) = _).trans ((own_c2_67_1_1_1 x).2 (by first | exact trivial | exact not_false | omega))⟩
  · have hb : ¬ (57343 < x.toInt) := fun y => hB (hi.mpr y)
    exact ⟨fun d => ((if_neg hB) : f2_60 x (1 : Int32) (1 : Int32) (1 : Int32) = _).trans ((own_c2_92_1_1_1 x).1 (by first | exact trivial | exact not_false | omega)), fun d => ((if_neg hB) : f2_60 x (1 : Int32) (1 : Int32) (1 : Int32) = _).trans ((own_c2_92_1_1_1 x).2 (by first | exact trivial | exact not_false | omega))⟩
theorem own_c2_53_1_1_1 (x : Int32) : (x.toInt ≤ 55295 ∨ (57344 ≤ x.toInt ∧ x.toInt ≤ 65533) ∨ (65536 ≤ x.toInt ∧ x.toInt ≤ 1114111) → f2_53 x (1 : Int32) (1 : Int32) (1 : Int32) = 1) ∧ (¬ (x.toInt ≤ 55295 ∨ (57344 ≤ x.toInt ∧ x.toInt ≤ 65533) ∨ (65536 ≤ x.toInt ∧ x.toInt ≤ 1114111)) → f2_53 x (1 : Int32) (1 : Int32) (1 : Int32) = 0) := by
  have hi : (x < (55296 : Int32)) ↔ x.toInt < 55296 := Int32.lt_iff_toInt_lt
  have r1 := Int32.le_toInt x
  have r2 := Int32.toInt_lt x
  by_cases hB : x < (55296 : Int32)
  · have hb : x.toInt < 55296 := hi.mp hB
    exact ⟨fun d => ((if_pos hB) : f2_53 x (1 : Int32) (1 : Int32) (1 : Int32) = _).trans ((own_c2_67_1_1_1 x).1 (by first | exact trivial | exact not_false | omega)), fun d => ((if_pos hB) : f2_53 x (1 : Int32) (1 : Int32) (1 : Int32) = _).trans ((own_c2_67_1_1_1 x).2 (by first | exact trivial | exact not_false | omega))⟩
  · have hb : ¬ (x.toInt < 55296) := fun y => hB (hi.mpr y)
    exact ⟨fun d => ((if_neg hB) : f2_53 x (1 : Int32) (1 : Int32) (1 : Int32) = _).trans ((own_c2_60_1_1_1 x).1 (by first | exact trivial | exact not_false | omega)), fun d => ((if_neg hB) : f2_53 x (1 : Int32) (1 : Int32) (1 : Int32) = _).trans ((own_c2_60_1_1_1 x).2 (by first | exact trivial | exact not_false | omega))⟩
theorem own_c2_48_1_1_1 (x : Int32) : (x.toInt ≤ 55295 ∨ (57344 ≤ x.toInt ∧ x.toInt ≤ 65533) ∨ (65536 ≤ x.toInt ∧ x.toInt ≤ 1114111) → f2_48 x (1 : Int32) (1 : Int32) (1 : Int32) = 1) ∧ (¬ (x.toInt ≤ 55295 ∨ (57344 ≤ x.toInt ∧ x.toInt ≤ 65533) ∨ (65536 ≤ x.toInt ∧ x.toInt ≤ 1114111)) → f2_48 x (1 : Int32) (1 : Int32) (1 : Int32) = 0) := by
  exact ⟨fun d => (if_neg (by decide) : f2_48 x (1 : Int32) (1 : Int32) (1 : Int32) = _).trans ((own_c2_53_1_1_1 x).1 d), fun d => (if_neg (by decide) : f2_48 x (1 : Int32) (1 : Int32) (1 : Int32) = _).trans ((own_c2_53_1_1_1 x).2 d)⟩
theorem own_c2_43_1_1 (x : Int32) : (x.toInt ≤ 55295 ∨ (57344 ≤ x.toInt ∧ x.toInt ≤ 65533) ∨ (65536 ≤ x.toInt ∧ x.toInt ≤ 1114111) → f2_43 x (1 : Int32) (1 : Int32) = 1) ∧ (¬ (x.toInt ≤ 55295 ∨ (57344 ≤ x.toInt ∧ x.toInt ≤ 65533) ∨ (65536 ≤ x.toInt ∧ x.toInt ≤ 1114111)) → f2_43 x (1 : Int32) (1 : Int32) = 0) := by
  exact own_c2_48_1_1_1 x
theorem own_c2_29_1_1 (x : Int32) : (x.toInt ≤ 55295 ∨ (57344 ≤ x.toInt ∧ x.toInt ≤ 65533) ∨ (65536 ≤ x.toInt ∧ x.toInt ≤ 1114111) → f2_29 x (1 : Int32) (1 : Int32) = 1) ∧ (¬ (x.toInt ≤ 55295 ∨ (57344 ≤ x.toInt ∧ x.toInt ≤ 65533) ∨ (65536 ≤ x.toInt ∧ x.toInt ≤ 1114111)) → f2_29 x (1 : Int32) (1 : Int32) = 0) := by
  exact ⟨fun d => (if_neg (by decide) : f2_29 x (1 : Int32) (1 : Int32) = _).trans ((own_c2_43_1_1 x).1 d), fun d => (if_neg (by decide) : f2_29 x (1 : Int32) (1 : Int32) = _).trans ((own_c2_43_1_1 x).2 d)⟩
theorem own_c2_24_1 (x : Int32) : (x.toInt ≤ 55295 ∨ (57344 ≤ x.toInt ∧ x.toInt ≤ 65533) ∨ (65536 ≤ x.toInt ∧ x.toInt ≤ 1114111) → f2_24 x (1 : Int32) = 1) ∧ (¬ (x.toInt ≤ 55295 ∨ (57344 ≤ x.toInt ∧ x.toInt ≤ 65533) ∨ (65536 ≤ x.toInt ∧ x.toInt ≤ 1114111)) → f2_24 x (1 : Int32) = 0) := by
  exact own_c2_29_1_1 x
theorem own_c2_93_1_0_0_0 (x : Int32) : (False → f2_93 x (1 : Int32) (0 : Int32) (0 : Int32) (0 : Int32) = 1) ∧ (¬ (False) → f2_93 x (1 : Int32) (0 : Int32) (0 : Int32) (0 : Int32) = 0) := by
  exact ⟨fun d => False.elim d, fun d => rfl⟩
theorem own_c2_92_1_0_0 (x : Int32) : (False → f2_92 x (1 : Int32) (0 : Int32) (0 : Int32) = 1) ∧ (¬ (False) → f2_92 x (1 : Int32) (0 : Int32) (0 : Int32) = 0) := by
  exact own_c2_93_1_0_0_0 x
theorem own_c2_48_1_0_0 (x : Int32) : (False → f2_48 x (1 : Int32) (0 : Int32) (0 : Int32) = 1) ∧ (¬ (False) → f2_48 x (1 : Int32) (0 : Int32) (0 : Int32) = 0) := by
  exact ⟨fun d => (if_pos (by decide) : f2_48 x (1 : Int32) (0 : Int32) (0 : Int32) = _).trans ((own_c2_92_1_0_0 x).1 d), fun d => (if_pos (by decide) : f2_48 x (1 : Int32) (0 : Int32) (0 : Int32) = _).trans ((own_c2_92_1_0_0 x).2 d)⟩
theorem own_c2_47_1_0 (x : Int32) : (False → f2_47 x (1 : Int32) (0 : Int32) = 1) ∧ (¬ (False) → f2_47 x (1 : Int32) (0 : Int32) = 0) := by
  exact own_c2_48_1_0_0 x
theorem own_c2_93_1_0_1_0 (x : Int32) : (False → f2_93 x (1 : Int32) (0 : Int32) (1 : Int32) (0 : Int32) = 1) ∧ (¬ (False) → f2_93 x (1 : Int32) (0 : Int32) (1 : Int32) (0 : Int32) = 0) := by
  exact ⟨fun d => False.elim d, fun d => rfl⟩
theorem own_c2_92_1_0_1 (x : Int32) : (False → f2_92 x (1 : Int32) (0 : Int32) (1 : Int32) = 1) ∧ (¬ (False) → f2_92 x (1 : Int32) (0 : Int32) (1 : Int32) = 0) := by
  exact own_c2_93_1_0_1_0 x
theorem own_c2_93_1_0_1_1 (x : Int32) : (True → f2_93 x (1 : Int32) (0 : Int32) (1 : Int32) (1 : Int32) = 1) ∧ (¬ (True) → f2_93 x (1 : Int32) (0 : Int32) (1 : Int32) (1 : Int32) = 0) := by
  exact ⟨fun d => rfl, fun d => absurd trivial d⟩
theorem own_c2_88_1_0_1 (x : Int32) : (True → f2_88 x (1 : Int32) (0 : Int32) (1 : Int32) = 1) ∧ (¬ (True) → f2_88 x (1 : Int32) (0 : Int32) (1 : Int32) = 0) := by
  exact own_c2_93_1_0_1_1 x
theorem own_c2_81_1_0_1 (x : Int32) : (x.toInt ≤ 1114111 → f2_81 x (1 : Int32) (0 : Int32) (1 : Int32) = 1) ∧ (¬ (x.toInt ≤ 1114111) → f2_81 x (1 : Int32) (0 : Int32) (1 : Int32) = 0) := by
  have hi : ((1114111 : Int32) < x) ↔ 1114111 < x.toInt := Int32.lt_iff_toInt_lt
  have r1 := Int32.le_toInt x
  have r2 := Int32.toInt_lt x
  by_cases hB : (1114111 : Int32) < x
  · have hb : 1114111 < x.toInt := hi.mp hB
    exact ⟨fun d => ((if_pos hB) : f2_81 x (1 : Int32) (0 : Int32) (1 : Int32) = _).trans ((own_c2_92_1_0_1 x).1 (by first | exact trivial | exact not_false | omega)), fun d => ((if_pos hB) : f2_81 x (1 : Int32) (0 : Int32) (1 : Int32) = _).trans ((own_c2_92_1_0_1 x).2 (by first | exact trivial | exact not_false | omega))⟩
  · have hb : ¬ (1114111 < x.toInt) := fun y => hB (hi.mpr y)
    exact ⟨fun d => ((if_neg hB) : f2_81 x (1 : Int32) (0 : Int32) (1 : Int32) = _).trans ((own_c2_88_1_0_1 x).1 (by first | exact trivial | exact not_false | omega)), fun d => ((if_neg hB) : f2_81 x (1 : Int32) (0 : Int32) (1 : Int32) = _).trans ((own_c2_88_1_0_1 x).2 (by first | exact trivial | exact not_false | omega))⟩
theorem own_c2_74_1_0_1 (x : Int32) : (x.toInt ≤ 65534 ∨ (65536 ≤ x.toInt ∧ x.toInt ≤ 1114111) → f2_74 x (1 : Int32) (0 : Int32) (1 : Int32) = 1) ∧ (¬ (x.toInt ≤ 65534 ∨ (65536 ≤ x.toInt ∧ x.toInt ≤ 1114111)) → f2_74 x (1 : Int32) (0 : Int32) (1 : Int32) = 0) := by
  have hi : (x = (65535 : Int32)) ↔ x.toInt = 65535 := own_eqi (by decide)
  have r1 := Int32.le_toInt x
  have r2 := Int32.toInt_lt x
  by_cases hB : x = (65535 : Int32)
  · have hb : x.toInt = 65535 := hi.mp hB
    exact ⟨fun d => ((if_pos hB) : f2_74 x (1 : Int32) (0 : Int32) (1 : Int32) = _).trans ((own_c2_92_1_0_1 x).1 (by first | exact trivial | exact not_false | omega)), fun d => ((if_pos hB) : f2_74 x (1 : Int32) (0 : Int32) (1 : Int32) = _).trans ((own_c2_92_1_0_1 x).2 (by first | exact trivial | exact not_false | omega))⟩
  · have hb : ¬ (x.toInt = 65535) := fun y => hB (hi.mpr y)
    exact ⟨fun d => ((if_neg hB) : f2_74 x (1 : Int32) (0 : Int32) (1 : Int32) = _).trans ((own_c2_81_1_0_1 x).1 (by first | exact trivial | exact not_false | omega)), fun d => ((if_neg hB) : f2_74 x (1 : Int32) (0 : Int32) (1 : Int32) = _).trans ((own_c2_81_1_0_1 x).2 (by first | exact trivial | exact not_false | omega))⟩
theorem own_c2_67_1_0_1 (x : Int32) : (x.toInt ≤ 65533 ∨ (65536 ≤ x.toInt ∧ x.toInt ≤ 1114111) → f2_67 x (1 : Int32) (0 : Int32) (1 : Int32) = 1) ∧ (¬ (x.toInt ≤ 65533 ∨ (65536 ≤ x.toInt ∧ x.toInt ≤ 1114111)) → f2_67 x (1 : Int32) (0 : Int32) (1 : Int32) = 0) := by
  have hi : (x = (65534 : Int32)) ↔ x.toInt = 65534 := own_eqi (by decide)
  have r1 := Int32.le_toInt x
  have r2 := Int32.toInt_lt x
  by_cases hB : x = (65534 : Int32)
  · have hb : x.toInt = 65534 := hi.mp hB
    exact ⟨fun d => ((if_pos hB) : f2_67 x (1 : Int32) (0 : Int32) (1 : Int32) = _).trans ((own_c2_92_1_0_1 x).1 (by first | exact trivial | exact not_false | omega)), fun d => ((if_pos hB) : f2_67 x (1 : Int32) (0 : Int32) (1 : Int32) = _).trans ((own_c2_92_1_0_1 x).2 (by first | exact trivial | exact not_false | omega))⟩
  · have hb : ¬ (x.toInt = 65534) := fun y => hB (hi.mpr y)
    exact ⟨fun d => ((if_neg hB) : f2_67 x (1 : Int32) (0 : Int32) (1 : Int32) = _).trans ((own_c2_74_1_0_1 x).1 (by first | exact trivial | exact not_false | omega)), fun d => ((if_neg hB) : f2_67 x (1 : Int32) (0 : Int32) (1 : Int32) = _).trans ((own_c2_74_1_0_1 x).2 (by first | exact trivial | exact not_false | omega))⟩
theorem own_c2_60_1_0_1 (x : Int32) : ((57344 ≤ x.toInt ∧ x.toInt ≤ 65533) ∨ (65536 ≤ x.toInt ∧ x.toInt ≤ 1114111) → f2_60 x (1 : Int32) (0 : Int32) (1 : Int32) = 1) ∧ (¬ ((57344 ≤ x.toInt ∧ x.toInt ≤ 65533) ∨ (65536 ≤ x.toInt ∧ x.toInt ≤ 1114111)) → f2_60 x (1 : Int32) (0 : Int32) (1 : Int32) = 0) := by
  have hi : ((57343 : Int32) < x) ↔ 57343 < x.toInt := Int32.lt_iff_toInt_lt
  have r1 := Int32.le_toInt x
  have r2 := Int32.toInt_lt x
  by_cases hB : (57343 : Int32) < x
  · have hb : 57343 < x.toInt := hi.mp hB
    exact ⟨fun d => ((if_pos hB) : f2_60 x (1 : Int32) (0 : Int32) (1 : Int32) = _).trans ((own_c2_67_1_0_1 x).1 (by first | exact trivial | exact not_false | omega)), fun d => ((if_pos hB) : f2_60 x (1 : Int32) (0 : Int32) (1 : Int32) = _).trans ((own_c2_67_1_0_1 x).2 (by first | exact trivial | exact not_false | omega))⟩
  · have hb : ¬ (57343 < x.toInt) := fun y => hB (hi.mpr y)
    exact ⟨fun d => ((if_neg hB) : f2_60 x (1 : Int32) (0 : Int32) (1 : Int32) = _).trans ((own_c2_92_1_0_1 x).1 (by first | exact trivial | exact not_false | omega)), fun d => ((if_neg hB) : f2_60 x (1 : Int32) (0 : Int32) (1 : Int32) = _).trans ((own_c2_92_1_0_1 x).2 (by first | exact trivial | exact not_false | omega))⟩
theorem own_c2_53_1_0_1 (x : Int32) : (x.toInt ≤ 55295 ∨ (57344 ≤ x.toInt ∧ x.toInt ≤ 65533) ∨ (65536 ≤ x.toInt ∧ x.toInt ≤ 1114111) → f2_53 x (1 : Int32) (0 : Int32) (1 : Int32) = 1) ∧ (¬ (x.toInt ≤ 55295 ∨ (57344 ≤ x.toInt ∧ x.toInt ≤ 65533) ∨ (65536 ≤ x.toInt ∧ x.toInt ≤ 1114111)) → f2_53 x (1 : Int32) (0 : Int32) (1 : Int32) = 0) := by
  have hi : (x < (55296 : Int32)) ↔ x.toInt < 55296 := Int32.lt_iff_toInt_lt
  have r1 := Int32.le_toInt x
  have r2 := Int32.toInt_lt x
  by_cases hB : x < (55296 : Int32)
  · have hb : x.toInt < 55296 := hi.mp hB
    exact ⟨fun d => ((if_pos hB) : f2_53 x (1 : Int32) (0 : Int32) (1 : Int32) = _).trans ((own_c2_67_1_0_1 x).1 (by first | exact trivial | exact not_false | omega)), fun d => ((if_pos hB) : f2_53 x (1 : Int32) (0 : Int32) (1 : Int32) = _).trans ((own_c2_67_1_0_1 x).2 (by first | exact trivial | exact not_false | omega))⟩
  · have hb : ¬ (x.toInt < 55296) := fun y => hB (hi.mpr y)
    exact ⟨fun d => ((if_neg hB) : f2_53 x (1 : Int32) (0 : Int32) (1 : Int32) = _).trans ((own_c2_60_1_0_1 x).1 (by first | exact trivial | exact not_false | omega)), fun d => ((if_neg hB) : f2_53 x (1 : Int32) (0 : Int32) (1 : Int32) = _).trans ((own_c2_60_1_0_1 x).2 (by first | exact trivial | exact not_false | omega))⟩
theorem own_c2_48_1_0_1 (x : Int32) : (x.toInt ≤ 55295 ∨ (57344 ≤ x.toInt ∧ x.toInt ≤ 65533) ∨ (65536 ≤ x.toInt ∧ x.toInt ≤ 1114111) → f2_48 x (1 : Int32) (0 : Int32) (1 : Int32) = 1) ∧ (¬ (x.toInt ≤ 55295 ∨ (57344 ≤ x.toInt ∧ x.toInt ≤ 65533) ∨ (65536 ≤ x.toInt ∧ x.toInt ≤ 1114111)) → f2_48 x (1 : Int32) (0 : Int32) (1 : Int32) = 0) := by
  exact ⟨fun d => (if_neg (by decide) : f2_48 x (1 : Int32) (0 : Int32) (1 : Int32) = _).trans ((own_c2_53_1_0_1 x).1 d), fun d => (if_neg (by decide) : f2_48 x (1 : Int32) (0 : Int32) (1 : Int32) = _).trans ((own_c2_53_1_0_1 x).2 d)⟩
theorem own_c2_43_1_0 (x : Int32) : (x.toInt ≤ 55295 ∨ (57344 ≤ x.toInt ∧ x.toInt ≤ 65533) ∨ (65536 ≤ x.toInt ∧ x.toInt ≤ 1114111) → f2_43 x (1 : Int32) (0 : Int32) = 1) ∧ (¬ (x.toInt ≤ 55295 ∨ (57344 ≤ x.toInt ∧ x.toInt ≤ 65533) ∨ (65536 ≤ x.toInt ∧ x.toInt ≤ 1114111)) → f2_43 x (1 : Int32) (0 : Int32) = 0) := by
  exact own_c2_48_1_0_1 x
theorem own_c2_38_1_0 (x : Int32) : ((1 ≤ x.toInt ∧ x.toInt ≤ 55295) ∨ (57344 ≤ x.toInt ∧ x.toInt ≤ 65533) ∨ (65536 ≤ x.toInt ∧ x.toInt ≤ 1114111) → f2_38 x (1 : Int32) (0 : Int32) = 1) ∧ (¬ ((1 ≤ x.toInt ∧ x.toInt ≤ 55295) ∨ (57344 ≤ x.toInt ∧ x.toInt ≤ 65533) ∨ (65536 ≤ x.toInt ∧ x.toInt ≤ 1114111)) → f2_38 x (1 : Int32) (0 : Int32) = 0) := by
  have hi : (x < (1 : Int32)) ↔ x.toInt < 1 := Int32.lt_iff_toInt_lt
  have r1 := Int32.le_toInt x
  have r2 := Int32.toInt_lt x
  by_cases hB : x < (1 : Int32)
  · have hb : x.toInt < 1 := hi.mp hB
    exact ⟨fun d => ((if_pos hB) : f2_38 x (1 : Int32) (0 : Int32) = _).trans ((own_c2_47_1_0 x).1 (by first | exact trivial | exact not_false | omega)), fun d => ((if_pos hB) : f2_38 x (1 : Int32) (0 : Int32) = _).trans ((own_c2_47_1_0 x).2 (by first | exact trivial | exact not_false | omega))⟩
  · have hb : ¬ (x.toInt < 1) := fun y => hB (hi.mpr y)
    exact ⟨fun d => ((if_neg hB) : f2_38 x (1 : Int32) (0 : Int32) = _).trans ((own_c2_43_1_0 x).1 (by first | exact trivial | exact not_false | omega)), fun d => ((if_neg hB) : f2_38 x (1 : Int32) (0 : Int32) = _).trans ((own_c2_43_1_0 x).2 (by first | exact trivial | exact not_false | omega))⟩
theorem own_c2_34_1_0 (x : Int32) : ((1 ≤ x.toInt ∧ x.toInt ≤ 55295) ∨ (57344 ≤ x.toInt ∧ x.toInt ≤ 65533) ∨ (65536 ≤ x.toInt ∧ x.toInt ≤ 1114111) → f2_34 x (1 : Int32) (0 : Int32) = 1) ∧ (¬ ((1 ≤ x.toInt ∧ x.toInt ≤ 55295) ∨ (57344 ≤ x.toInt ∧ x.toInt ≤ 65533) ∨ (65536 ≤ x.toInt ∧ x.toInt ≤ 1114111)) → f2_34 x (1 : Int32) (0 : Int32) = 0) := by
  exact ⟨fun d => (if_neg (by decide) : f2_34 x (1 : Int32) (0 : Int32) = _).trans ((own_c2_38_1_0 x).1 d), fun d => (if_neg (by decide) : f2_34 x (1 : Int32) (0 : Int32) = _).trans ((own_c2_38_1_0 x).2 d)⟩
theorem own_c2_29_1_0 (x : Int32) : ((1 ≤ x.toInt ∧ x.toInt ≤ 55295) ∨ (57344 ≤ x.toInt ∧ x.toInt ≤ 65533) ∨ (65536 ≤ x.toInt ∧ x.toInt ≤ 1114111) → f2_29 x (1 : Int32) (0 : Int32) = 1) ∧ (¬ ((1 ≤ x.toInt ∧ x.toInt ≤ 55295) ∨ (57344 ≤ x.toInt ∧ x.toInt ≤ 65533) ∨ (65536 ≤ x.toInt ∧ x.toInt ≤ 1114111)) → f2_29 x (1 : Int32) (0 : Int32) = 0) := by
  exact ⟨fun d => (if_pos (by decide) : f2_29 x (1 : Int32) (0 : Int32) = _).trans ((own_c2_34_1_0 x).1 d), fun d => (if_pos (by decide) : f2_29 x (1 : Int32) (0 : Int32) = _).trans ((own_c2_34_1_0 x).2 d)⟩
theorem own_c2_28_1 (x : Int32) : ((1 ≤ x.toInt ∧ x.toInt ≤ 55295) ∨ (57344 ≤ x.toInt ∧ x.toInt ≤ 65533) ∨ (65536 ≤ x.toInt ∧ x.toInt ≤ 1114111) → f2_28 x (1 : Int32) = 1) ∧ (¬ ((1 ≤ x.toInt ∧ x.toInt ≤ 55295) ∨ (57344 ≤ x.toInt ∧ x.toInt ≤ 65533) ∨ (65536 ≤ x.toInt ∧ x.toInt ≤ 1114111)) → f2_28 x (1 : Int32) = 0) := by
  exact own_c2_29_1_0 x
theorem own_c2_18_1 (x : Int32) : ((1 ≤ x.toInt ∧ x.toInt ≤ 55295) ∨ (57344 ≤ x.toInt ∧ x.toInt ≤ 65533) ∨ (65536 ≤ x.toInt ∧ x.toInt ≤ 1114111) → f2_18 x (1 : Int32) = 1) ∧ (¬ ((1 ≤ x.toInt ∧ x.toInt ≤ 55295) ∨ (57344 ≤ x.toInt ∧ x.toInt ≤ 65533) ∨ (65536 ≤ x.toInt ∧ x.toInt ≤ 1114111)) → f2_18 x (1 : Int32) = 0) := by
  have hi : (x < (32 : Int32)) ↔ x.toInt < 32 := Int32.lt_iff_toInt_lt
  have r1 := Int32.le_toInt x
  have r2 := Int32.toInt_lt x
  by_cases hB : x < (32 : Int32)
  · have hb : x.toInt < 32 := hi.mp hB
    exact ⟨fun d => ((if_pos hB) : f2_18 x (1 : Int32) = _).trans ((own_c2_28_1 x).1 (by first | exact trivial | exact not_false | omega)), fun d => ((if_pos hB) : f2_18 x (1 : Int32) = _).trans ((own_c2_28_1 x).2 (by first | exact trivial | exact not_false | omega))⟩
  · have hb : ¬ (x.toInt < 32) := fun y => hB (hi.mpr y)
    exact ⟨fun d => ((if_neg hB) : f2_18 x (1 : Int32) = _).trans ((own_c2_24_1 x).1 (by first | exact trivial | exact not_false | omega)), fun d => ((if_neg hB) : f2_18 x (1 : Int32) = _).trans ((own_c2_24_1 x).2 (by first | exact trivial | exact not_false | omega))⟩
theorem own_c2_12_1 (x : Int32) : ((1 ≤ x.toInt ∧ x.toInt ≤ 55295) ∨ (57344 ≤ x.toInt ∧ x.toInt ≤ 65533) ∨ (65536 ≤ x.toInt ∧ x.toInt ≤ 1114111) → f2_12 x (1 : Int32) = 1) ∧ (¬ ((1 ≤ x.toInt ∧ x.toInt ≤ 55295) ∨ (57344 ≤ x.toInt ∧ x.toInt ≤ 65533) ∨ (65536 ≤ x.toInt ∧ x.toInt ≤ 1114111)) → f2_12 x (1 : Int32) = 0) := by
  have hi : (x = (13 : Int32)) ↔ x.toInt = 13 := own_eqi (by decide)
  have r1 := Int32.le_toInt x
  have r2 := Int32.toInt_lt x
  by_cases hB : x = (13 : Int32)
  · have hb : x.toInt = 13 := hi.mp hB
    exact ⟨fun d => ((if_pos hB) : f2_12 x (1 : Int32) = _).trans ((own_c2_24_1 x).1 (by first | exact trivial | exact not_false | omega)), fun d => ((if_pos hB) : f2_12 x (1 : Int32) = _).trans ((own_c2_24_1 x).2 (by first | exact trivial | exact not_false | omega))⟩
  · have hb : ¬ (x.toInt = 13) := fun y => hB (hi.mpr y)
    exact ⟨fun d => ((if_neg hB) : f2_12 x (1 : Int32) = _).trans ((own_c2_18_1 x).1 (by first | exact trivial | exact not_false | omega)), fun d => ((if_neg hB) : f2_12 x (1 : Int32) = _).trans ((own_c2_18_1 x).2 (by first | exact trivial | exact not_false | omega))⟩
theorem own_c2_6_1 (x : Int32) : ((1 ≤ x.toInt ∧ x.toInt ≤ 55295) ∨ (57344 ≤ x.toInt ∧ x.toInt ≤ 65533) ∨ (65536 ≤ x.toInt ∧ x.toInt ≤ 1114111) → f2_6 x (1 : Int32) = 1) ∧ (¬ ((1 ≤ x.toInt ∧ x.toInt ≤ 55295) ∨ (57344 ≤ x.toInt ∧ x.toInt ≤ 65533) ∨ (65536 ≤ x.toInt ∧ x.toInt ≤ 1114111)) → f2_6 x (1 : Int32) = 0) := by
  have hi : (x = (10 : Int32)) ↔ x.toInt = 10 := own_eqi (by decide)
  have r1 := Int32.le_toInt x
  have r2 := Int32.toInt_lt x
  by_cases hB : x = (10 : Int32)
  · have hb : x.toInt = 10 := hi.mp hB
    exact ⟨fun d => ((if_pos hB) : f2_6 x (1 : Int32) = _).trans ((own_c2_24_1 x).1 (by first | exact trivial | exact not_false | omega)), fun d => ((if_pos hB) : f2_6 x (1 : Int32) = _).trans ((own_c2_24_1 x).2 (by first | exact trivial | exact not_false | omega))⟩
  · have hb : ¬ (x.toInt = 10) := fun y => hB (hi.mpr y)
    exact ⟨fun d => ((if_neg hB) : f2_6 x (1 : Int32) = _).trans ((own_c2_12_1 x).1 (by first | exact trivial | exact not_false | omega)), fun d => ((if_neg hB) : f2_6 x (1 : Int32) = _).trans ((own_c2_12_1 x).2 (by first | exact trivial | exact not_false | omega))⟩
theorem own_c2_0_1 (x : Int32) : ((1 ≤ x.toInt ∧ x.toInt ≤ 55295) ∨ (57344 ≤ x.toInt ∧ x.toInt ≤ 65533) ∨ (65536 ≤ x.toInt ∧ x.toInt ≤ 1114111) → f2_0 x (1 : Int32) = 1) ∧ (¬ ((1 ≤ x.toInt ∧ x.toInt ≤ 55295) ∨ (57344 ≤ x.toInt ∧ x.toInt ≤ 65533) ∨ (65536 ≤ x.toInt ∧ x.toInt ≤ 1114111)) → f2_0 x (1 : Int32) = 0) := by
  have hi : (x = (9 : Int32)) ↔ x.toInt = 9 := own_eqi (by decide)
  have r1 := Int32.le_toInt x
  have r2 := Int32.toInt_lt x
  by_cases hB : x = (9 : Int32)
  · have hb : x.toInt = 9 := hi.mp hB
    exact ⟨fun d => ((if_pos hB) : f2_0 x (1 : Int32) = _).trans ((own_c2_24_1 x).1 (by first | exact trivial | exact not_false | omega)), fun d => ((if_pos hB) : f2_0 x (1 : Int32) = _).trans ((own_c2_24_1 x).2 (by first | exact trivial | exact not_false | omega))⟩
  · have hb : ¬ (x.toInt = 9) := fun y => hB (hi.mpr y)
    exact ⟨fun d => ((if_neg hB) : f2_0 x (1 : Int32) = _).trans ((own_c2_6_1 x).1 (by first | exact trivial | exact not_false | omega)), fun d => ((if_neg hB) : f2_0 x (1 : Int32) = _).trans ((own_c2_6_1 x).2 (by first | exact trivial | exact not_false | omega))⟩
theorem own_eq0 (x : Int32) : f2_0 x (0 : Int32) = f1_0 x (0 : Int32) := by
  have h1 := own_c1_0_0 x
  have h2 := own_c2_0_0 x
  by_cases d : (9 ≤ x.toInt ∧ x.toInt ≤ 10) ∨ x.toInt = 13 ∨ (32 ≤ x.toInt ∧ x.toInt ≤ 55295) ∨ (57344 ≤ x.toInt ∧ x.toInt ≤ 65533) ∨ (65536 ≤ x.toInt ∧ x.toInt ≤ 1114111)
  · rw [h1.1 d, h2.1 (by omega)]
  · rw [h1.2 d, h2.2 (by omega)]
theorem own_eq1 (x : Int32) : f2_0 x (1 : Int32) = f1_0 x (1 : Int32) := by
  have h1 := own_c1_0_1 x
  have h2 := own_c2_0_1 x
  by_cases d : (1 ≤ x.toInt ∧ x.toInt ≤ 55295) ∨ (57344 ≤ x.toInt ∧ x.toInt ≤ 65533) ∨ (65536 ≤ x.toInt ∧ x.toInt ≤ 1114111)
  · rw [h1.1 d, h2.1 (by omega)]
  · rw [h1.2 d, h2.2 (by omega)]
theorem own_in (k : Int32) (h : k < (14 : Int32)) (h0 : ¬ k < (0 : Int32)) : own_In 14 k := by
  have e2 := nat_of h0
  have q2 : (14 : Int32).toInt = 14 := by decide
  have h' := Int32.lt_iff_toInt_lt.mp h
  intro q
  rcases q with q | q
  · exact h0 q
  · omega
theorem own_k (m : Int32) : ¬ (((m.toUInt32 >>> ((1 : Int32) &&& 31).toUInt32).toInt32) &&& (15 : Int32)) < (0 : Int32) := by
  intro q
  have q' := Int32.lt_iff_toInt_lt.mp q
  have q2 : (0 : Int32).toInt = 0 := by decide
  have e0 := (c_and ((m.toUInt32 >>> ((1 : Int32) &&& 31).toUInt32).toInt32) 15 (by decide)).1
  omega
set_option maxRecDepth 65536 in
set_option maxHeartbeats 40000000 in
theorem b0_0 {p : Program} {l : Launch} {e : Env} {s : State} {m : MethodId} {args : Array Value} {below : List Frame} {meth : Method} {c : Code} {T : State} {locs : List Loc} {cells slots : Nat} {Z : State} {a0 : Array Value} {h : Heap} {n0 : Nat} {Q : Option Value → Heap → List Loc → Prop} (i0 : Int32) (i1 : Int32) (hw : ∀ d ∈ tables_1, d.before a0 Z = true) (X : Stand p l e room_1 s m args below meth c T locs cells slots) (hx : p.tables.exec = Jvm.exec) (hZ : Z.Warmed39 s.vm) (hby : c.code = code) (hml : c.maxLocals = 7) (hown : s.vm.findClass "com/example/zoria/zoria/xml/XmlScannerIsReferablePinLaw" = some m.cls) (hret : meth.sig.returnType = some .boolean) (hlk : meth.locks = false) (eT : T.heap = h) (N : Fr n0 locs) (hc : cells ≤ 0) (hs : slots ≤ 0) (Z0 : n0 ≤ h.size) (hQ : ∀ H' L', Fr n0 L' → Q (some (.int 1)) H' L') :
    own_Fin p e below s Q 16 128 (T.setTop (mkF m 0 #[.val (.int i0), .val (.int i1), .unset, .unset, .unset, .unset, .unset] [])) := by
  refine own_step (fun t k => XS.iloadN X.here hx rfl (hb hby at_0) rfl  k) ?_
  show own_Fin p e below s Q 16 128 (T.setTop (mkF m 1 #[.val (.int i0), .val (.int i1), .unset, .unset, .unset, .unset, .unset] [(.int i1)]))
  refine own_step (fun t k => XS.iconst X.here hx rfl (hb hby at_1) k) ?_
  show own_Fin p e below s Q 16 128 (T.setTop (mkF m 2 #[.val (.int i0), .val (.int i1), .unset, .unset, .unset, .unset, .unset] [(.int (1 : Int32)), (.int i1)]))
  refine own_step (fun t k => XS.iand X.here hx rfl (hb hby at_2) rfl k) ?_
  show own_Fin p e below s Q 16 128 (T.setTop (mkF m 3 #[.val (.int i0), .val (.int i1), .unset, .unset, .unset, .unset, .unset] [(.int (i1 &&& (1 : Int32)))]))
  by_cases hB3_76 : (i1 &&& (1 : Int32)) = (0 : Int32)
  · refine own_step (fun t k => XS.ifYes X.here hx rfl (pc0 := 3) (pc' := 10) rfl (hb hby at_3) rfl ((if0 _ _).trans (teq hB3_76).1) (by decide) (by decide) k) ?_
    show own_Fin p e below s Q 16 128 (T.setTop (mkF m 10 #[.val (.int i0), .val (.int i1), .unset, .unset, .unset, .unset, .unset] []))
    refine own_step (fun t k => XS.iconst X.here hx rfl (hb hby at_10) k) ?_
    show own_Fin p e below s Q 16 128 (T.setTop (mkF m 11 #[.val (.int i0), .val (.int i1), .unset, .unset, .unset, .unset, .unset] [(.int (0 : Int32))]))
    refine own_step (fun t k => XS.istoreN X.here hx rfl (hb hby at_11) rfl (l' := #[.val (.int i0), .val (.int i1), .val (.int (0 : Int32)), .unset, .unset, .unset, .unset]) rfl k) ?_
    show own_Fin p e below s Q 16 128 (T.setTop (mkF m 12 #[.val (.int i0), .val (.int i1), .val (.int (0 : Int32)), .unset, .unset, .unset, .unset] []))
    refine own_step (fun t k => XS.iloadN X.here hx rfl (hb hby at_12) rfl  k) ?_
    show own_Fin p e below s Q 16 128 (T.setTop (mkF m 13 #[.val (.int i0), .val (.int i1), .val (.int (0 : Int32)), .unset, .unset, .unset, .unset] [(.int i1)]))
    refine own_step (fun t k => XS.iconst X.here hx rfl (hb hby at_13) k) ?_
    show own_Fin p e below s Q 16 128 (T.setTop (mkF m 14 #[.val (.int i0), .val (.int i1), .val (.int (0 : Int32)), .unset, .unset, .unset, .unset] [(.int (1 : Int32)), (.int i1)]))
    refine own_step (fun t k => XS.iushr X.here hx rfl (hb hby at_14) rfl k) ?_
    show own_Fin p e below s Q 16 128 (T.setTop (mkF m 15 #[.val (.int i0), .val (.int i1), .val (.int (0 : Int32)), .unset, .unset, .unset, .unset] [(.int ((i1.toUInt32 >>> ((1 : Int32) &&& 31).toUInt32).toInt32))]))
    refine own_step (fun t k => XS.bipush X.here hx rfl (hb hby at_15) k) ?_
    show own_Fin p e below s Q 16 128 (T.setTop (mkF m 17 #[.val (.int i0), .val (.int i1), .val (.int (0 : Int32)), .unset, .unset, .unset, .unset] [(.int (15 : Int32)), (.int ((i1.toUInt32 >>> ((1 : Int32) &&& 31).toUInt32).toInt32))]))
    refine own_step (fun t k => XS.iand X.here hx rfl (hb hby at_17) rfl k) ?_
    show own_Fin p e below s Q 16 128 (T.setTop (mkF m 18 #[.val (.int i0), .val (.int i1), .val (.int (0 : Int32)), .unset, .unset, .unset, .unset] [(.int (((i1.toUInt32 >>> ((1 : Int32) &&& 31).toUInt32).toInt32) &&& (15 : Int32)))]))
    refine own_step (fun t k => XS.istoreN X.here hx rfl (hb hby at_18) rfl (l' := #[.val (.int i0), .val (.int i1), .val (.int (0 : Int32)), .val (.int (((i1.toUInt32 >>> ((1 : Int32) &&& 31).toUInt32).toInt32) &&& (15 : Int32))), .unset, .unset, .unset]) rfl k) ?_
    show own_Fin p e below s Q 16 128 (T.setTop (mkF m 19 #[.val (.int i0), .val (.int i1), .val (.int (0 : Int32)), .val (.int (((i1.toUInt32 >>> ((1 : Int32) &&& 31).toUInt32).toInt32) &&& (15 : Int32))), .unset, .unset, .unset] []))
    refine own_step (fun t k => XS.bipush X.here hx rfl (hb hby at_19) k) ?_
    show own_Fin p e below s Q 16 128 (T.setTop (mkF m 21 #[.val (.int i0), .val (.int i1), .val (.int (0 : Int32)), .val (.int (((i1.toUInt32 >>> ((1 : Int32) &&& 31).toUInt32).toInt32) &&& (15 : Int32))), .unset, .unset, .unset] [(.int (14 : Int32))]))
    obtain ⟨T77, h77, k77, X77, e77, E77, AA77, st77⟩ := newP X hx hZ (hw _ (List.mem_of_getElem? (i := 0) rfl)) eT (g := (mkF m 21 #[.val (.int i0), .val (.int i1), .val (.int (0 : Int32)), .val (.int (((i1.toUInt32 >>> ((1 : Int32) &&& 31).toUInt32).toInt32) &&& (15 : Int32))), .unset, .unset, .unset] [(.int (14 : Int32))])) rfl (hb hby at_21) rfl (by decide) (cap := 14) (by decide) (by decide) (by show cells + 1 ≤ 16; omega) (by show slots + 14 ≤ 128; omega)
    obtain ⟨b77, gg77⟩ : ∃ z, z = h.size := ⟨_, rfl⟩
    rw [← gg77] at AA77 st77
    have V77 : own_AF Z h77 b77 .int 14 (fun _ => 0) := own_AFnew AA77 (by decide)
    have fr77 : n0 ≤ b77 := Nat.le_trans Z0 (Nat.le_of_eq gg77.symm)
    have Z077 : n0 ≤ h77.size := Nat.le_trans Z0 E77.1
    refine own_step st77 ?_
    show own_Fin p e below s Q 16 128 (T77.setTop (mkF m 23 #[.val (.int i0), .val (.int i1), .val (.int (0 : Int32)), .val (.int (((i1.toUInt32 >>> ((1 : Int32) &&& 31).toUInt32).toInt32) &&& (15 : Int32))), .unset, .unset, .unset] [(.ref b77)]))
    refine own_step (fun t k => XS.dup X77.here hx rfl (hb hby at_23) rfl rfl k) ?_
    show own_Fin p e below s Q 16 128 (T77.setTop (mkF m 24 #[.val (.int i0), .val (.int i1), .val (.int (0 : Int32)), .val (.int (((i1.toUInt32 >>> ((1 : Int32) &&& 31).toUInt32).toInt32) &&& (15 : Int32))), .unset, .unset, .unset] [(.ref b77), (.ref b77)]))
    refine own_step (fun t k => XS.iconst X77.here hx rfl (hb hby at_24) k) ?_
    show own_Fin p e below s Q 16 128 (T77.setTop (mkF m 25 #[.val (.int i0), .val (.int i1), .val (.int (0 : Int32)), .val (.int (((i1.toUInt32 >>> ((1 : Int32) &&& 31).toUInt32).toInt32) &&& (15 : Int32))), .unset, .unset, .unset] [(.int (0 : Int32)), (.ref b77), (.ref b77)]))
    refine own_step (fun t k => XS.iconst X77.here hx rfl (hb hby at_25) k) ?_
    show own_Fin p e below s Q 16 128 (T77.setTop (mkF m 26 #[.val (.int i0), .val (.int i1), .val (.int (0 : Int32)), .val (.int (((i1.toUInt32 >>> ((1 : Int32) &&& 31).toUInt32).toInt32) &&& (15 : Int32))), .unset, .unset, .unset] [(.int (0 : Int32)), (.int (0 : Int32)), (.ref b77), (.ref b77)]))
    obtain ⟨ca78, Ar78, Sz78, Ht78⟩ := id V77
    have hin78 : ¬ ((0 : Int32) < 0 ∨ ca78.slots.size ≤ ((0 : Int32)).toNatClampNeg) := by rw [Sz78]; exact (by decide)
    obtain ⟨T78, h78, X78, e78, W78, st78⟩ := stI X77 hx hZ e77 Ar78 (j := (0 : Int32)) hin78 (g := (mkF m 26 #[.val (.int i0), .val (.int i1), .val (.int (0 : Int32)), .val (.int (((i1.toUInt32 >>> ((1 : Int32) &&& 31).toUInt32).toInt32) &&& (15 : Int32))), .unset, .unset, .unset] [(.int (0 : Int32)), (.int (0 : Int32)), (.ref b77), (.ref b77)])) rfl rfl (hb hby at_26)
    have V78 : own_AF Z h78 b77 .int 14 (fun i => if i = 0 then (0 : Int32) else (fun _ => 0) i) := own_AFset Ar78 Sz78 Ht78 W78
    obtain ⟨gf78, hgf78⟩ : ∃ g' : Nat → Int32, g' = (fun i => if i = 0 then (0 : Int32) else (fun _ => 0) i) := ⟨_, rfl⟩
    rw [← hgf78] at V78
    have N78 := Fr.snoc X78 N fr77
    have Z078 : n0 ≤ h78.size := Nat.le_trans Z077 (Nat.le_of_eq W78.size.symm)
    refine own_step st78 ?_
    show own_Fin p e below s Q 16 128 (T78.setTop (mkF m 27 #[.val (.int i0), .val (.int i1), .val (.int (0 : Int32)), .val (.int (((i1.toUInt32 >>> ((1 : Int32) &&& 31).toUInt32).toInt32) &&& (15 : Int32))), .unset, .unset, .unset] [(.ref b77)]))
    refine own_step (fun t k => XS.dup X78.here hx rfl (hb hby at_27) rfl rfl k) ?_
    show own_Fin p e below s Q 16 128 (T78.setTop (mkF m 28 #[.val (.int i0), .val (.int i1), .val (.int (0 : Int32)), .val (.int (((i1.toUInt32 >>> ((1 : Int32) &&& 31).toUInt32).toInt32) &&& (15 : Int32))), .unset, .unset, .unset] [(.ref b77), (.ref b77)]))
    refine own_step (fun t k => XS.iconst X78.here hx rfl (hb hby at_28) k) ?_
    show own_Fin p e below s Q 16 128 (T78.setTop (mkF m 29 #[.val (.int i0), .val (.int i1), .val (.int (0 : Int32)), .val (.int (((i1.toUInt32 >>> ((1 : Int32) &&& 31).toUInt32).toInt32) &&& (15 : Int32))), .unset, .unset, .unset] [(.int (1 : Int32)), (.ref b77), (.ref b77)]))
    refine own_step (fun t k => XS.bipush X78.here hx rfl (hb hby at_29) k) ?_
    show own_Fin p e below s Q 16 128 (T78.setTop (mkF m 31 #[.val (.int i0), .val (.int i1), .val (.int (0 : Int32)), .val (.int (((i1.toUInt32 >>> ((1 : Int32) &&& 31).toUInt32).toInt32) &&& (15 : Int32))), .unset, .unset, .unset] [(.int (9 : Int32)), (.int (1 : Int32)), (.ref b77), (.ref b77)]))
    obtain ⟨ca79, Ar79, Sz79, Ht79⟩ := id V78
    have hin79 : ¬ ((1 : Int32) < 0 ∨ ca79.slots.size ≤ ((1 : Int32)).toNatClampNeg) := by rw [Sz79]; exact (by decide)
    obtain ⟨T79, h79, X79, e79, W79, st79⟩ := stI X78 hx hZ e78 Ar79 (j := (1 : Int32)) hin79 (g := (mkF m 31 #[.val (.int i0), .val (.int i1), .val (.int (0 : Int32)), .val (.int (((i1.toUInt32 >>> ((1 : Int32) &&& 31).toUInt32).toInt32) &&& (15 : Int32))), .unset, .unset, .unset] [(.int (9 : Int32)), (.int (1 : Int32)), (.ref b77), (.ref b77)])) rfl rfl (hb hby at_31)
    have V79 : own_AF Z h79 b77 .int 14 (fun i => if i = 1 then (9 : Int32) else gf78 i) := own_AFset Ar79 Sz79 Ht79 W79
    obtain ⟨gf79, hgf79⟩ : ∃ g' : Nat → Int32, g' = (fun i => if i = 1 then (9 : Int32) else gf78 i) := ⟨_, rfl⟩
    rw [← hgf79] at V79
    have N79 := Fr.snoc X79 N78 fr77
    have Z079 : n0 ≤ h79.size := Nat.le_trans Z078 (Nat.le_of_eq W79.size.symm)
    refine own_step st79 ?_
    show own_Fin p e below s Q 16 128 (T79.setTop (mkF m 32 #[.val (.int i0), .val (.int i1), .val (.int (0 : Int32)), .val (.int (((i1.toUInt32 >>> ((1 : Int32) &&& 31).toUInt32).toInt32) &&& (15 : Int32))), .unset, .unset, .unset] [(.ref b77)]))
    refine own_step (fun t k => XS.dup X79.here hx rfl (hb hby at_32) rfl rfl k) ?_
    show own_Fin p e below s Q 16 128 (T79.setTop (mkF m 33 #[.val (.int i0), .val (.int i1), .val (.int (0 : Int32)), .val (.int (((i1.toUInt32 >>> ((1 : Int32) &&& 31).toUInt32).toInt32) &&& (15 : Int32))), .unset, .unset, .unset] [(.ref b77), (.ref b77)]))
    refine own_step (fun t k => XS.iconst X79.here hx rfl (hb hby at_33) k) ?_
    show own_Fin p e below s Q 16 128 (T79.setTop (mkF m 34 #[.val (.int i0), .val (.int i1), .val (.int (0 : Int32)), .val (.int (((i1.toUInt32 >>> ((1 : Int32) &&& 31).toUInt32).toInt32) &&& (15 : Int32))), .unset, .unset, .unset] [(.int (2 : Int32)), (.ref b77), (.ref b77)]))
    refine own_step (fun t k => XS.bipush X79.here hx rfl (hb hby at_34) k) ?_
    show own_Fin p e below s Q 16 128 (T79.setTop (mkF m 36 #[.val (.int i0), .val (.int i1), .val (.int (0 : Int32)), .val (.int (((i1.toUInt32 >>> ((1 : Int32) &&& 31).toUInt32).toInt32) &&& (15 : Int32))), .unset, .unset, .unset] [(.int (10 : Int32)), (.int (2 : Int32)), (.ref b77), (.ref b77)]))
    obtain ⟨ca80, Ar80, Sz80, Ht80⟩ := id V79
    have hin80 : ¬ ((2 : Int32) < 0 ∨ ca80.slots.size ≤ ((2 : Int32)).toNatClampNeg) := by rw [Sz80]; exact (by decide)
    obtain ⟨T80, h80, X80, e80, W80, st80⟩ := stI X79 hx hZ e79 Ar80 (j := (2 : Int32)) hin80 (g := (mkF m 36 #[.val (.int i0), .val (.int i1), .val (.int (0 : Int32)), .val (.int (((i1.toUInt32 >>> ((1 : Int32) &&& 31).toUInt32).toInt32) &&& (15 : Int32))), .unset, .unset, .unset] [(.int (10 : Int32)), (.int (2 : Int32)), (.ref b77), (.ref b77)])) rfl rfl (hb hby at_36)
    have V80 : own_AF Z h80 b77 .int 14 (fun i => if i = 2 then (10 : Int32) else gf79 i) := own_AFset Ar80 Sz80 Ht80 W80
    obtain ⟨gf80, hgf80⟩ : ∃ g' : Nat → Int32, g' = (fun i => if i = 2 then (10 : Int32) else gf79 i) := ⟨_, rfl⟩
    rw [← hgf80] at V80
    have N80 := Fr.snoc X80 N79 fr77
    have Z080 : n0 ≤ h80.size := Nat.le_trans Z079 (Nat.le_of_eq W80.size.symm)
    refine own_step st80 ?_
    show own_Fin p e below s Q 16 128 (T80.setTop (mkF m 37 #[.val (.int i0), .val (.int i1), .val (.int (0 : Int32)), .val (.int (((i1.toUInt32 >>> ((1 : Int32) &&& 31).toUInt32).toInt32) &&& (15 : Int32))), .unset, .unset, .unset] [(.ref b77)]))
    refine own_step (fun t k => XS.dup X80.here hx rfl (hb hby at_37) rfl rfl k) ?_
    show own_Fin p e below s Q 16 128 (T80.setTop (mkF m 38 #[.val (.int i0), .val (.int i1), .val (.int (0 : Int32)), .val (.int (((i1.toUInt32 >>> ((1 : Int32) &&& 31).toUInt32).toInt32) &&& (15 : Int32))), .unset, .unset, .unset] [(.ref b77), (.ref b77)]))
    refine own_step (fun t k => XS.iconst X80.here hx rfl (hb hby at_38) k) ?_
    show own_Fin p e below s Q 16 128 (T80.setTop (mkF m 39 #[.val (.int i0), .val (.int i1), .val (.int (0 : Int32)), .val (.int (((i1.toUInt32 >>> ((1 : Int32) &&& 31).toUInt32).toInt32) &&& (15 : Int32))), .unset, .unset, .unset] [(.int (3 : Int32)), (.ref b77), (.ref b77)]))
    refine own_step (fun t k => XS.bipush X80.here hx rfl (hb hby at_39) k) ?_
    show own_Fin p e below s Q 16 128 (T80.setTop (mkF m 41 #[.val (.int i0), .val (.int i1), .val (.int (0 : Int32)), .val (.int (((i1.toUInt32 >>> ((1 : Int32) &&& 31).toUInt32).toInt32) &&& (15 : Int32))), .unset, .unset, .unset] [(.int (13 : Int32)), (.int (3 : Int32)), (.ref b77), (.ref b77)]))
    obtain ⟨ca81, Ar81, Sz81, Ht81⟩ := id V80
    have hin81 : ¬ ((3 : Int32) < 0 ∨ ca81.slots.size ≤ ((3 : Int32)).toNatClampNeg) := by rw [Sz81]; exact (by decide)
    obtain ⟨T81, h81, X81, e81, W81, st81⟩ := stI X80 hx hZ e80 Ar81 (j := (3 : Int32)) hin81 (g := (mkF m 41 #[.val (.int i0), .val (.int i1), .val (.int (0 : Int32)), .val (.int (((i1.toUInt32 >>> ((1 : Int32) &&& 31).toUInt32).toInt32) &&& (15 : Int32))), .unset, .unset, .unset] [(.int (13 : Int32)), (.int (3 : Int32)), (.ref b77), (.ref b77)])) rfl rfl (hb hby at_41)
    have V81 : own_AF Z h81 b77 .int 14 (fun i => if i = 3 then (13 : Int32) else gf80 i) := own_AFset Ar81 Sz81 Ht81 W81
    obtain ⟨gf81, hgf81⟩ : ∃ g' : Nat → Int32, g' = (fun i => if i = 3 then (13 : Int32) else gf80 i) := ⟨_, rfl⟩
    rw [← hgf81] at V81
    have N81 := Fr.snoc X81 N80 fr77
    have Z081 : n0 ≤ h81.size := Nat.le_trans Z080 (Nat.le_of_eq W81.size.symm)
    refine own_step st81 ?_
    show own_Fin p e below s Q 16 128 (T81.setTop (mkF m 42 #[.val (.int i0), .val (.int i1), .val (.int (0 : Int32)), .val (.int (((i1.toUInt32 >>> ((1 : Int32) &&& 31).toUInt32).toInt32) &&& (15 : Int32))), .unset, .unset, .unset] [(.ref b77)]))
    refine own_step (fun t k => XS.dup X81.here hx rfl (hb hby at_42) rfl rfl k) ?_
    show own_Fin p e below s Q 16 128 (T81.setTop (mkF m 43 #[.val (.int i0), .val (.int i1), .val (.int (0 : Int32)), .val (.int (((i1.toUInt32 >>> ((1 : Int32) &&& 31).toUInt32).toInt32) &&& (15 : Int32))), .unset, .unset, .unset] [(.ref b77), (.ref b77)]))
    refine own_step (fun t k => XS.iconst X81.here hx rfl (hb hby at_43) k) ?_
    show own_Fin p e below s Q 16 128 (T81.setTop (mkF m 44 #[.val (.int i0), .val (.int i1), .val (.int (0 : Int32)), .val (.int (((i1.toUInt32 >>> ((1 : Int32) &&& 31).toUInt32).toInt32) &&& (15 : Int32))), .unset, .unset, .unset] [(.int (4 : Int32)), (.ref b77), (.ref b77)]))
    refine own_step (fun t k => XS.bipush X81.here hx rfl (hb hby at_44) k) ?_
    show own_Fin p e below s Q 16 128 (T81.setTop (mkF m 46 #[.val (.int i0), .val (.int i1), .val (.int (0 : Int32)), .val (.int (((i1.toUInt32 >>> ((1 : Int32) &&& 31).toUInt32).toInt32) &&& (15 : Int32))), .unset, .unset, .unset] [(.int (32 : Int32)), (.int (4 : Int32)), (.ref b77), (.ref b77)]))
    obtain ⟨ca82, Ar82, Sz82, Ht82⟩ := id V81
    have hin82 : ¬ ((4 : Int32) < 0 ∨ ca82.slots.size ≤ ((4 : Int32)).toNatClampNeg) := by rw [Sz82]; exact (by decide)
    obtain ⟨T82, h82, X82, e82, W82, st82⟩ := stI X81 hx hZ e81 Ar82 (j := (4 : Int32)) hin82 (g := (mkF m 46 #[.val (.int i0), .val (.int i1), .val (.int (0 : Int32)), .val (.int (((i1.toUInt32 >>> ((1 : Int32) &&& 31).toUInt32).toInt32) &&& (15 : Int32))), .unset, .unset, .unset] [(.int (32 : Int32)), (.int (4 : Int32)), (.ref b77), (.ref b77)])) rfl rfl (hb hby at_46)
    have V82 : own_AF Z h82 b77 .int 14 (fun i => if i = 4 then (32 : Int32) else gf81 i) := own_AFset Ar82 Sz82 Ht82 W82
    obtain ⟨gf82, hgf82⟩ : ∃ g' : Nat → Int32, g' = (fun i => if i = 4 then (32 : Int32) else gf81 i) := ⟨_, rfl⟩
    rw [← hgf82] at V82
    have N82 := Fr.snoc X82 N81 fr77
    have Z082 : n0 ≤ h82.size := Nat.le_trans Z081 (Nat.le_of_eq W82.size.symm)
    refine own_step st82 ?_
    show own_Fin p e below s Q 16 128 (T82.setTop (mkF m 47 #[.val (.int i0), .val (.int i1), .val (.int (0 : Int32)), .val (.int (((i1.toUInt32 >>> ((1 : Int32) &&& 31).toUInt32).toInt32) &&& (15 : Int32))), .unset, .unset, .unset] [(.ref b77)]))
    refine own_step (fun t k => XS.dup X82.here hx rfl (hb hby at_47) rfl rfl k) ?_
    show own_Fin p e below s Q 16 128 (T82.setTop (mkF m 48 #[.val (.int i0), .val (.int i1), .val (.int (0 : Int32)), .val (.int (((i1.toUInt32 >>> ((1 : Int32) &&& 31).toUInt32).toInt32) &&& (15 : Int32))), .unset, .unset, .unset] [(.ref b77), (.ref b77)]))
    refine own_step (fun t k => XS.iconst X82.here hx rfl (hb hby at_48) k) ?_
    show own_Fin p e below s Q 16 128 (T82.setTop (mkF m 49 #[.val (.int i0), .val (.int i1), .val (.int (0 : Int32)), .val (.int (((i1.toUInt32 >>> ((1 : Int32) &&& 31).toUInt32).toInt32) &&& (15 : Int32))), .unset, .unset, .unset] [(.int (5 : Int32)), (.ref b77), (.ref b77)]))
    refine own_step (X82.ldcInt hx hown (mvT hZ (hw _ (List.mem_of_getElem? (i := 1) rfl))) (g := (mkF m 49 #[.val (.int i0), .val (.int i1), .val (.int (0 : Int32)), .val (.int (((i1.toUInt32 >>> ((1 : Int32) &&& 31).toUInt32).toInt32) &&& (15 : Int32))), .unset, .unset, .unset] [(.int (5 : Int32)), (.ref b77), (.ref b77)])) rfl (hb hby at_49)) ?_
    show own_Fin p e below s Q 16 128 (T82.setTop (mkF m 51 #[.val (.int i0), .val (.int i1), .val (.int (0 : Int32)), .val (.int (((i1.toUInt32 >>> ((1 : Int32) &&& 31).toUInt32).toInt32) &&& (15 : Int32))), .unset, .unset, .unset] [(.int (55296 : Int32)), (.int (5 : Int32)), (.ref b77), (.ref b77)]))
    obtain ⟨ca83, Ar83, Sz83, Ht83⟩ := id V82
    have hin83 : ¬ ((5 : Int32) < 0 ∨ ca83.slots.size ≤ ((5 : Int32)).toNatClampNeg) := by rw [Sz83]; exact (by decide)
    obtain ⟨T83, h83, X83, e83, W83, st83⟩ := stI X82 hx hZ e82 Ar83 (j := (5 : Int32)) hin83 (g := (mkF m 51 #[.val (.int i0), .val (.int i1), .val (.int (0 : Int32)), .val (.int (((i1.toUInt32 >>> ((1 : Int32) &&& 31).toUInt32).toInt32) &&& (15 : Int32))), .unset, .unset, .unset] [(.int (55296 : Int32)), (.int (5 : Int32)), (.ref b77), (.ref b77)])) rfl rfl (hb hby at_51)
    have V83 : own_AF Z h83 b77 .int 14 (fun i => if i = 5 then (55296 : Int32) else gf82 i) := own_AFset Ar83 Sz83 Ht83 W83
    obtain ⟨gf83, hgf83⟩ : ∃ g' : Nat → Int32, g' = (fun i => if i = 5 then (55296 : Int32) else gf82 i) := ⟨_, rfl⟩
    rw [← hgf83] at V83
    have N83 := Fr.snoc X83 N82 fr77
    have Z083 : n0 ≤ h83.size := Nat.le_trans Z082 (Nat.le_of_eq W83.size.symm)
    refine own_step st83 ?_
    show own_Fin p e below s Q 16 128 (T83.setTop (mkF m 52 #[.val (.int i0), .val (.int i1), .val (.int (0 : Int32)), .val (.int (((i1.toUInt32 >>> ((1 : Int32) &&& 31).toUInt32).toInt32) &&& (15 : Int32))), .unset, .unset, .unset] [(.ref b77)]))
    refine own_step (fun t k => XS.dup X83.here hx rfl (hb hby at_52) rfl rfl k) ?_
    show own_Fin p e below s Q 16 128 (T83.setTop (mkF m 53 #[.val (.int i0), .val (.int i1), .val (.int (0 : Int32)), .val (.int (((i1.toUInt32 >>> ((1 : Int32) &&& 31).toUInt32).toInt32) &&& (15 : Int32))), .unset, .unset, .unset] [(.ref b77), (.ref b77)]))
    refine own_step (fun t k => XS.bipush X83.here hx rfl (hb hby at_53) k) ?_
    show own_Fin p e below s Q 16 128 (T83.setTop (mkF m 55 #[.val (.int i0), .val (.int i1), .val (.int (0 : Int32)), .val (.int (((i1.toUInt32 >>> ((1 : Int32) &&& 31).toUInt32).toInt32) &&& (15 : Int32))), .unset, .unset, .unset] [(.int (6 : Int32)), (.ref b77), (.ref b77)]))
    refine own_step (X83.ldcInt hx hown (mvT hZ (hw _ (List.mem_of_getElem? (i := 2) rfl))) (g := (mkF m 55 #[.val (.int i0), .val (.int i1), .val (.int (0 : Int32)), .val (.int (((i1.toUInt32 >>> ((1 : Int32) &&& 31).toUInt32).toInt32) &&& (15 : Int32))), .unset, .unset, .unset] [(.int (6 : Int32)), (.ref b77), (.ref b77)])) rfl (hb hby at_55)) ?_
    show own_Fin p e below s Q 16 128 (T83.setTop (mkF m 57 #[.val (.int i0), .val (.int i1), .val (.int (0 : Int32)), .val (.int (((i1.toUInt32 >>> ((1 : Int32) &&& 31).toUInt32).toInt32) &&& (15 : Int32))), .unset, .unset, .unset] [(.int (57343 : Int32)), (.int (6 : Int32)), (.ref b77), (.ref b77)]))
    obtain ⟨ca84, Ar84, Sz84, Ht84⟩ := id V83
    have hin84 : ¬ ((6 : Int32) < 0 ∨ ca84.slots.size ≤ ((6 : Int32)).toNatClampNeg) := by rw [Sz84]; exact (by decide)
    obtain ⟨T84, h84, X84, e84, W84, st84⟩ := stI X83 hx hZ e83 Ar84 (j := (6 : Int32)) hin84 (g := (mkF m 57 #[.val (.int i0), .val (.int i1), .val (.int (0 : Int32)), .val (.int (((i1.toUInt32 >>> ((1 : Int32) &&& 31).toUInt32).toInt32) &&& (15 : Int32))), .unset, .unset, .unset] [(.int (57343 : Int32)), (.int (6 : Int32)), (.ref b77), (.ref b77)])) rfl rfl (hb hby at_57)
    have V84 : own_AF Z h84 b77 .int 14 (fun i => if i = 6 then (57343 : Int32) else gf83 i) := own_AFset Ar84 Sz84 Ht84 W84
    obtain ⟨gf84, hgf84⟩ : ∃ g' : Nat → Int32, g' = (fun i => if i = 6 then (57343 : Int32) else gf83 i) := ⟨_, rfl⟩
    rw [← hgf84] at V84
    have N84 := Fr.snoc X84 N83 fr77
    have Z084 : n0 ≤ h84.size := Nat.le_trans Z083 (Nat.le_of_eq W84.size.symm)
    refine own_step st84 ?_
    show own_Fin p e below s Q 16 128 (T84.setTop (mkF m 58 #[.val (.int i0), .val (.int i1), .val (.int (0 : Int32)), .val (.int (((i1.toUInt32 >>> ((1 : Int32) &&& 31).toUInt32).toInt32) &&& (15 : Int32))), .unset, .unset, .unset] [(.ref b77)]))
    refine own_step (fun t k => XS.dup X84.here hx rfl (hb hby at_58) rfl rfl k) ?_
    show own_Fin p e below s Q 16 128 (T84.setTop (mkF m 59 #[.val (.int i0), .val (.int i1), .val (.int (0 : Int32)), .val (.int (((i1.toUInt32 >>> ((1 : Int32) &&& 31).toUInt32).toInt32) &&& (15 : Int32))), .unset, .unset, .unset] [(.ref b77), (.ref b77)]))
    refine own_step (fun t k => XS.bipush X84.here hx rfl (hb hby at_59) k) ?_
    show own_Fin p e below s Q 16 128 (T84.setTop (mkF m 61 #[.val (.int i0), .val (.int i1), .val (.int (0 : Int32)), .val (.int (((i1.toUInt32 >>> ((1 : Int32) &&& 31).toUInt32).toInt32) &&& (15 : Int32))), .unset, .unset, .unset] [(.int (7 : Int32)), (.ref b77), (.ref b77)]))
    refine own_step (X84.ldcInt hx hown (mvT hZ (hw _ (List.mem_of_getElem? (i := 3) rfl))) (g := (mkF m 61 #[.val (.int i0), .val (.int i1), .val (.int (0 : Int32)), .val (.int (((i1.toUInt32 >>> ((1 : Int32) &&& 31).toUInt32).toInt32) &&& (15 : Int32))), .unset, .unset, .unset] [(.int (7 : Int32)), (.ref b77), (.ref b77)])) rfl (hb hby at_61)) ?_
    show own_Fin p e below s Q 16 128 (T84.setTop (mkF m 63 #[.val (.int i0), .val (.int i1), .val (.int (0 : Int32)), .val (.int (((i1.toUInt32 >>> ((1 : Int32) &&& 31).toUInt32).toInt32) &&& (15 : Int32))), .unset, .unset, .unset] [(.int (57344 : Int32)), (.int (7 : Int32)), (.ref b77), (.ref b77)]))
    obtain ⟨ca85, Ar85, Sz85, Ht85⟩ := id V84
    have hin85 : ¬ ((7 : Int32) < 0 ∨ ca85.slots.size ≤ ((7 : Int32)).toNatClampNeg) := by rw [Sz85]; exact (by decide)
    obtain ⟨T85, h85, X85, e85, W85, st85⟩ := stI X84 hx hZ e84 Ar85 (j := (7 : Int32)) hin85 (g := (mkF m 63 #[.val (.int i0), .val (.int i1), .val (.int (0 : Int32)), .val (.int (((i1.toUInt32 >>> ((1 : Int32) &&& 31).toUInt32).toInt32) &&& (15 : Int32))), .unset, .unset, .unset] [(.int (57344 : Int32)), (.int (7 : Int32)), (.ref b77), (.ref b77)])) rfl rfl (hb hby at_63)
    have V85 : own_AF Z h85 b77 .int 14 (fun i => if i = 7 then (57344 : Int32) else gf84 i) := own_AFset Ar85 Sz85 Ht85 W85
    obtain ⟨gf85, hgf85⟩ : ∃ g' : Nat → Int32, g' = (fun i => if i = 7 then (57344 : Int32) else gf84 i) := ⟨_, rfl⟩
    rw [← hgf85] at V85
    have N85 := Fr.snoc X85 N84 fr77
    have Z085 : n0 ≤ h85.size := Nat.le_trans Z084 (Nat.le_of_eq W85.size.symm)
    refine own_step st85 ?_
    show own_Fin p e below s Q 16 128 (T85.setTop (mkF m 64 #[.val (.int i0), .val (.int i1), .val (.int (0 : Int32)), .val (.int (((i1.toUInt32 >>> ((1 : Int32) &&& 31).toUInt32).toInt32) &&& (15 : Int32))), .unset, .unset, .unset] [(.ref b77)]))
    refine own_step (fun t k => XS.dup X85.here hx rfl (hb hby at_64) rfl rfl k) ?_
    show own_Fin p e below s Q 16 128 (T85.setTop (mkF m 65 #[.val (.int i0), .val (.int i1), .val (.int (0 : Int32)), .val (.int (((i1.toUInt32 >>> ((1 : Int32) &&& 31).toUInt32).toInt32) &&& (15 : Int32))), .unset, .unset, .unset] [(.ref b77), (.ref b77)]))
    refine own_step (fun t k => XS.bipush X85.here hx rfl (hb hby at_65) k) ?_
    show own_Fin p e below s Q 16 128 (T85.setTop (mkF m 67 #[.val (.int i0), .val (.int i1), .val (.int (0 : Int32)), .val (.int (((i1.toUInt32 >>> ((1 : Int32) &&& 31).toUInt32).toInt32) &&& (15 : Int32))), .unset, .unset, .unset] [(.int (8 : Int32)), (.ref b77), (.ref b77)]))
    refine own_step (X85.ldcInt hx hown (mvT hZ (hw _ (List.mem_of_getElem? (i := 4) rfl))) (g := (mkF m 67 #[.val (.int i0), .val (.int i1), .val (.int (0 : Int32)), .val (.int (((i1.toUInt32 >>> ((1 : Int32) &&& 31).toUInt32).toInt32) &&& (15 : Int32))), .unset, .unset, .unset] [(.int (8 : Int32)), (.ref b77), (.ref b77)])) rfl (hb hby at_67)) ?_
    show own_Fin p e below s Q 16 128 (T85.setTop (mkF m 69 #[.val (.int i0), .val (.int i1), .val (.int (0 : Int32)), .val (.int (((i1.toUInt32 >>> ((1 : Int32) &&& 31).toUInt32).toInt32) &&& (15 : Int32))), .unset, .unset, .unset] [(.int (65533 : Int32)), (.int (8 : Int32)), (.ref b77), (.ref b77)]))
    obtain ⟨ca86, Ar86, Sz86, Ht86⟩ := id V85
    have hin86 : ¬ ((8 : Int32) < 0 ∨ ca86.slots.size ≤ ((8 : Int32)).toNatClampNeg) := by rw [Sz86]; exact (by decide)
    obtain ⟨T86, h86, X86, e86, W86, st86⟩ := stI X85 hx hZ e85 Ar86 (j := (8 : Int32)) hin86 (g := (mkF m 69 #[.val (.int i0), .val (.int i1), .val (.int (0 : Int32)), .val (.int (((i1.toUInt32 >>> ((1 : Int32) &&& 31).toUInt32).toInt32) &&& (15 : Int32))), .unset, .unset, .unset] [(.int (65533 : Int32)), (.int (8 : Int32)), (.ref b77), (.ref b77)])) rfl rfl (hb hby at_69)
    have V86 : own_AF Z h86 b77 .int 14 (fun i => if i = 8 then (65533 : Int32) else gf85 i) := own_AFset Ar86 Sz86 Ht86 W86
    obtain ⟨gf86, hgf86⟩ : ∃ g' : Nat → Int32, g' = (fun i => if i = 8 then (65533 : Int32) else gf85 i) := ⟨_, rfl⟩
    rw [← hgf86] at V86
    have N86 := Fr.snoc X86 N85 fr77
    have Z086 : n0 ≤ h86.size := Nat.le_trans Z085 (Nat.le_of_eq W86.size.symm)
    refine own_step st86 ?_
    show own_Fin p e below s Q 16 128 (T86.setTop (mkF m 70 #[.val (.int i0), .val (.int i1), .val (.int (0 : Int32)), .val (.int (((i1.toUInt32 >>> ((1 : Int32) &&& 31).toUInt32).toInt32) &&& (15 : Int32))), .unset, .unset, .unset] [(.ref b77)]))
    refine own_step (fun t k => XS.dup X86.here hx rfl (hb hby at_70) rfl rfl k) ?_
    show own_Fin p e below s Q 16 128 (T86.setTop (mkF m 71 #[.val (.int i0), .val (.int i1), .val (.int (0 : Int32)), .val (.int (((i1.toUInt32 >>> ((1 : Int32) &&& 31).toUInt32).toInt32) &&& (15 : Int32))), .unset, .unset, .unset] [(.ref b77), (.ref b77)]))
    refine own_step (fun t k => XS.bipush X86.here hx rfl (hb hby at_71) k) ?_
    show own_Fin p e below s Q 16 128 (T86.setTop (mkF m 73 #[.val (.int i0), .val (.int i1), .val (.int (0 : Int32)), .val (.int (((i1.toUInt32 >>> ((1 : Int32) &&& 31).toUInt32).toInt32) &&& (15 : Int32))), .unset, .unset, .unset] [(.int (9 : Int32)), (.ref b77), (.ref b77)]))
    refine own_step (X86.ldcInt hx hown (mvT hZ (hw _ (List.mem_of_getElem? (i := 5) rfl))) (g := (mkF m 73 #[.val (.int i0), .val (.int i1), .val (.int (0 : Int32)), .val (.int (((i1.toUInt32 >>> ((1 : Int32) &&& 31).toUInt32).toInt32) &&& (15 : Int32))), .unset, .unset, .unset] [(.int (9 : Int32)), (.ref b77), (.ref b77)])) rfl (hb hby at_73)) ?_
    show own_Fin p e below s Q 16 128 (T86.setTop (mkF m 75 #[.val (.int i0), .val (.int i1), .val (.int (0 : Int32)), .val (.int (((i1.toUInt32 >>> ((1 : Int32) &&& 31).toUInt32).toInt32) &&& (15 : Int32))), .unset, .unset, .unset] [(.int (65534 : Int32)), (.int (9 : Int32)), (.ref b77), (.ref b77)]))
    obtain ⟨ca87, Ar87, Sz87, Ht87⟩ := id V86
    have hin87 : ¬ ((9 : Int32) < 0 ∨ ca87.slots.size ≤ ((9 : Int32)).toNatClampNeg) := by rw [Sz87]; exact (by decide)
    obtain ⟨T87, h87, X87, e87, W87, st87⟩ := stI X86 hx hZ e86 Ar87 (j := (9 : Int32)) hin87 (g := (mkF m 75 #[.val (.int i0), .val (.int i1), .val (.int (0 : Int32)), .val (.int (((i1.toUInt32 >>> ((1 : Int32) &&& 31).toUInt32).toInt32) &&& (15 : Int32))), .unset, .unset, .unset] [(.int (65534 : Int32)), (.int (9 : Int32)), (.ref b77), (.ref b77)])) rfl rfl (hb hby at_75)
    have V87 : own_AF Z h87 b77 .int 14 (fun i => if i = 9 then (65534 : Int32) else gf86 i) := own_AFset Ar87 Sz87 Ht87 W87
    obtain ⟨gf87, hgf87⟩ : ∃ g' : Nat → Int32, g' = (fun i => if i = 9 then (65534 : Int32) else gf86 i) := ⟨_, rfl⟩
    rw [← hgf87] at V87
    have N87 := Fr.snoc X87 N86 fr77
    have Z087 : n0 ≤ h87.size := Nat.le_trans Z086 (Nat.le_of_eq W87.size.symm)
    refine own_step st87 ?_
    show own_Fin p e below s Q 16 128 (T87.setTop (mkF m 76 #[.val (.int i0), .val (.int i1), .val (.int (0 : Int32)), .val (.int (((i1.toUInt32 >>> ((1 : Int32) &&& 31).toUInt32).toInt32) &&& (15 : Int32))), .unset, .unset, .unset] [(.ref b77)]))
    refine own_step (fun t k => XS.dup X87.here hx rfl (hb hby at_76) rfl rfl k) ?_
    show own_Fin p e below s Q 16 128 (T87.setTop (mkF m 77 #[.val (.int i0), .val (.int i1), .val (.int (0 : Int32)), .val (.int (((i1.toUInt32 >>> ((1 : Int32) &&& 31).toUInt32).toInt32) &&& (15 : Int32))), .unset, .unset, .unset] [(.ref b77), (.ref b77)]))
    refine own_step (fun t k => XS.bipush X87.here hx rfl (hb hby at_77) k) ?_
    show own_Fin p e below s Q 16 128 (T87.setTop (mkF m 79 #[.val (.int i0), .val (.int i1), .val (.int (0 : Int32)), .val (.int (((i1.toUInt32 >>> ((1 : Int32) &&& 31).toUInt32).toInt32) &&& (15 : Int32))), .unset, .unset, .unset] [(.int (10 : Int32)), (.ref b77), (.ref b77)]))
    refine own_step (X87.ldcInt hx hown (mvT hZ (hw _ (List.mem_of_getElem? (i := 6) rfl))) (g := (mkF m 79 #[.val (.int i0), .val (.int i1), .val (.int (0 : Int32)), .val (.int (((i1.toUInt32 >>> ((1 : Int32) &&& 31).toUInt32).toInt32) &&& (15 : Int32))), .unset, .unset, .unset] [(.int (10 : Int32)), (.ref b77), (.ref b77)])) rfl (hb hby at_79)) ?_
    show own_Fin p e below s Q 16 128 (T87.setTop (mkF m 81 #[.val (.int i0), .val (.int i1), .val (.int (0 : Int32)), .val (.int (((i1.toUInt32 >>> ((1 : Int32) &&& 31).toUInt32).toInt32) &&& (15 : Int32))), .unset, .unset, .unset] [(.int (65535 : Int32)), (.int (10 : Int32)), (.ref b77), (.ref b77)]))
    obtain ⟨ca88, Ar88, Sz88, Ht88⟩ := id V87
    have hin88 : ¬ ((10 : Int32) < 0 ∨ ca88.slots.size ≤ ((10 : Int32)).toNatClampNeg) := by rw [Sz88]; exact (by decide)
    obtain ⟨T88, h88, X88, e88, W88, st88⟩ := stI X87 hx hZ e87 Ar88 (j := (10 : Int32)) hin88 (g := (mkF m 81 #[.val (.int i0), .val (.int i1), .val (.int (0 : Int32)), .val (.int (((i1.toUInt32 >>> ((1 : Int32) &&& 31).toUInt32).toInt32) &&& (15 : Int32))), .unset, .unset, .unset] [(.int (65535 : Int32)), (.int (10 : Int32)), (.ref b77), (.ref b77)])) rfl rfl (hb hby at_81)
    have V88 : own_AF Z h88 b77 .int 14 (fun i => if i = 10 then (65535 : Int32) else gf87 i) := own_AFset Ar88 Sz88 Ht88 W88
    obtain ⟨gf88, hgf88⟩ : ∃ g' : Nat → Int32, g' = (fun i => if i = 10 then (65535 : Int32) else gf87 i) := ⟨_, rfl⟩
    rw [← hgf88] at V88
    have N88 := Fr.snoc X88 N87 fr77
    have Z088 : n0 ≤ h88.size := Nat.le_trans Z087 (Nat.le_of_eq W88.size.symm)
    refine own_step st88 ?_
    show own_Fin p e below s Q 16 128 (T88.setTop (mkF m 82 #[.val (.int i0), .val (.int i1), .val (.int (0 : Int32)), .val (.int (((i1.toUInt32 >>> ((1 : Int32) &&& 31).toUInt32).toInt32) &&& (15 : Int32))), .unset, .unset, .unset] [(.ref b77)]))
    refine own_step (fun t k => XS.dup X88.here hx rfl (hb hby at_82) rfl rfl k) ?_
    show own_Fin p e below s Q 16 128 (T88.setTop (mkF m 83 #[.val (.int i0), .val (.int i1), .val (.int (0 : Int32)), .val (.int (((i1.toUInt32 >>> ((1 : Int32) &&& 31).toUInt32).toInt32) &&& (15 : Int32))), .unset, .unset, .unset] [(.ref b77), (.ref b77)]))
    refine own_step (fun t k => XS.bipush X88.here hx rfl (hb hby at_83) k) ?_
    show own_Fin p e below s Q 16 128 (T88.setTop (mkF m 85 #[.val (.int i0), .val (.int i1), .val (.int (0 : Int32)), .val (.int (((i1.toUInt32 >>> ((1 : Int32) &&& 31).toUInt32).toInt32) &&& (15 : Int32))), .unset, .unset, .unset] [(.int (11 : Int32)), (.ref b77), (.ref b77)]))
    refine own_step (X88.ldcInt hx hown (mvT hZ (hw _ (List.mem_of_getElem? (i := 7) rfl))) (g := (mkF m 85 #[.val (.int i0), .val (.int i1), .val (.int (0 : Int32)), .val (.int (((i1.toUInt32 >>> ((1 : Int32) &&& 31).toUInt32).toInt32) &&& (15 : Int32))), .unset, .unset, .unset] [(.int (11 : Int32)), (.ref b77), (.ref b77)])) rfl (hb hby at_85)) ?_
    show own_Fin p e below s Q 16 128 (T88.setTop (mkF m 87 #[.val (.int i0), .val (.int i1), .val (.int (0 : Int32)), .val (.int (((i1.toUInt32 >>> ((1 : Int32) &&& 31).toUInt32).toInt32) &&& (15 : Int32))), .unset, .unset, .unset] [(.int (65536 : Int32)), (.int (11 : Int32)), (.ref b77), (.ref b77)]))
    obtain ⟨ca89, Ar89, Sz89, Ht89⟩ := id V88
    have hin89 : ¬ ((11 : Int32) < 0 ∨ ca89.slots.size ≤ ((11 : Int32)).toNatClampNeg) := by rw [Sz89]; exact (by decide)
    obtain ⟨T89, h89, X89, e89, W89, st89⟩ := stI X88 hx hZ e88 Ar89 (j := (11 : Int32)) hin89 (g := (mkF m 87 #[.val (.int i0), .val (.int i1), .val (.int (0 : Int32)), .val (.int (((i1.toUInt32 >>> ((1 : Int32) &&& 31).toUInt32).toInt32) &&& (15 : Int32))), .unset, .unset, .unset] [(.int (65536 : Int32)), (.int (11 : Int32)), (.ref b77), (.ref b77)])) rfl rfl (hb hby at_87)
    have V89 : own_AF Z h89 b77 .int 14 (fun i => if i = 11 then (65536 : Int32) else gf88 i) := own_AFset Ar89 Sz89 Ht89 W89
    obtain ⟨gf89, hgf89⟩ : ∃ g' : Nat → Int32, g' = (fun i => if i = 11 then (65536 : Int32) else gf88 i) := ⟨_, rfl⟩
    rw [← hgf89] at V89
    have N89 := Fr.snoc X89 N88 fr77
    have Z089 : n0 ≤ h89.size := Nat.le_trans Z088 (Nat.le_of_eq W89.size.symm)
    refine own_step st89 ?_
    show own_Fin p e below s Q 16 128 (T89.setTop (mkF m 88 #[.val (.int i0), .val (.int i1), .val (.int (0 : Int32)), .val (.int (((i1.toUInt32 >>> ((1 : Int32) &&& 31).toUInt32).toInt32) &&& (15 : Int32))), .unset, .unset, .unset] [(.ref b77)]))
    refine own_step (fun t k => XS.dup X89.here hx rfl (hb hby at_88) rfl rfl k) ?_
    show own_Fin p e below s Q 16 128 (T89.setTop (mkF m 89 #[.val (.int i0), .val (.int i1), .val (.int (0 : Int32)), .val (.int (((i1.toUInt32 >>> ((1 : Int32) &&& 31).toUInt32).toInt32) &&& (15 : Int32))), .unset, .unset, .unset] [(.ref b77), (.ref b77)]))
    refine own_step (fun t k => XS.bipush X89.here hx rfl (hb hby at_89) k) ?_
    show own_Fin p e below s Q 16 128 (T89.setTop (mkF m 91 #[.val (.int i0), .val (.int i1), .val (.int (0 : Int32)), .val (.int (((i1.toUInt32 >>> ((1 : Int32) &&& 31).toUInt32).toInt32) &&& (15 : Int32))), .unset, .unset, .unset] [(.int (12 : Int32)), (.ref b77), (.ref b77)]))
    refine own_step (X89.ldcInt hx hown (mvT hZ (hw _ (List.mem_of_getElem? (i := 8) rfl))) (g := (mkF m 91 #[.val (.int i0), .val (.int i1), .val (.int (0 : Int32)), .val (.int (((i1.toUInt32 >>> ((1 : Int32) &&& 31).toUInt32).toInt32) &&& (15 : Int32))), .unset, .unset, .unset] [(.int (12 : Int32)), (.ref b77), (.ref b77)])) rfl (hb hby at_91)) ?_
    show own_Fin p e below s Q 16 128 (T89.setTop (mkF m 93 #[.val (.int i0), .val (.int i1), .val (.int (0 : Int32)), .val (.int (((i1.toUInt32 >>> ((1 : Int32) &&& 31).toUInt32).toInt32) &&& (15 : Int32))), .unset, .unset, .unset] [(.int (1114111 : Int32)), (.int (12 : Int32)), (.ref b77), (.ref b77)]))
    obtain ⟨ca90, Ar90, Sz90, Ht90⟩ := id V89
    have hin90 : ¬ ((12 : Int32) < 0 ∨ ca90.slots.size ≤ ((12 : Int32)).toNatClampNeg) := by rw [Sz90]; exact (by decide)
    obtain ⟨T90, h90, X90, e90, W90, st90⟩ := stI X89 hx hZ e89 Ar90 (j := (12 : Int32)) hin90 (g := (mkF m 93 #[.val (.int i0), .val (.int i1), .val (.int (0 : Int32)), .val (.int (((i1.toUInt32 >>> ((1 : Int32) &&& 31).toUInt32).toInt32) &&& (15 : Int32))), .unset, .unset, .unset] [(.int (1114111 : Int32)), (.int (12 : Int32)), (.ref b77), (.ref b77)])) rfl rfl (hb hby at_93)
    have V90 : own_AF Z h90 b77 .int 14 (fun i => if i = 12 then (1114111 : Int32) else gf89 i) := own_AFset Ar90 Sz90 Ht90 W90
    obtain ⟨gf90, hgf90⟩ : ∃ g' : Nat → Int32, g' = (fun i => if i = 12 then (1114111 : Int32) else gf89 i) := ⟨_, rfl⟩
    rw [← hgf90] at V90
    have N90 := Fr.snoc X90 N89 fr77
    have Z090 : n0 ≤ h90.size := Nat.le_trans Z089 (Nat.le_of_eq W90.size.symm)
    refine own_step st90 ?_
    show own_Fin p e below s Q 16 128 (T90.setTop (mkF m 94 #[.val (.int i0), .val (.int i1), .val (.int (0 : Int32)), .val (.int (((i1.toUInt32 >>> ((1 : Int32) &&& 31).toUInt32).toInt32) &&& (15 : Int32))), .unset, .unset, .unset] [(.ref b77)]))
    refine own_step (fun t k => XS.dup X90.here hx rfl (hb hby at_94) rfl rfl k) ?_
    show own_Fin p e below s Q 16 128 (T90.setTop (mkF m 95 #[.val (.int i0), .val (.int i1), .val (.int (0 : Int32)), .val (.int (((i1.toUInt32 >>> ((1 : Int32) &&& 31).toUInt32).toInt32) &&& (15 : Int32))), .unset, .unset, .unset] [(.ref b77), (.ref b77)]))
    refine own_step (fun t k => XS.bipush X90.here hx rfl (hb hby at_95) k) ?_
    show own_Fin p e below s Q 16 128 (T90.setTop (mkF m 97 #[.val (.int i0), .val (.int i1), .val (.int (0 : Int32)), .val (.int (((i1.toUInt32 >>> ((1 : Int32) &&& 31).toUInt32).toInt32) &&& (15 : Int32))), .unset, .unset, .unset] [(.int (13 : Int32)), (.ref b77), (.ref b77)]))
    refine own_step (X90.ldcInt hx hown (mvT hZ (hw _ (List.mem_of_getElem? (i := 9) rfl))) (g := (mkF m 97 #[.val (.int i0), .val (.int i1), .val (.int (0 : Int32)), .val (.int (((i1.toUInt32 >>> ((1 : Int32) &&& 31).toUInt32).toInt32) &&& (15 : Int32))), .unset, .unset, .unset] [(.int (13 : Int32)), (.ref b77), (.ref b77)])) rfl (hb hby at_97)) ?_
    show own_Fin p e below s Q 16 128 (T90.setTop (mkF m 99 #[.val (.int i0), .val (.int i1), .val (.int (0 : Int32)), .val (.int (((i1.toUInt32 >>> ((1 : Int32) &&& 31).toUInt32).toInt32) &&& (15 : Int32))), .unset, .unset, .unset] [(.int (1114112 : Int32)), (.int (13 : Int32)), (.ref b77), (.ref b77)]))
    obtain ⟨ca91, Ar91, Sz91, Ht91⟩ := id V90
    have hin91 : ¬ ((13 : Int32) < 0 ∨ ca91.slots.size ≤ ((13 : Int32)).toNatClampNeg) := by rw [Sz91]; exact (by decide)
    obtain ⟨T91, h91, X91, e91, W91, st91⟩ := stI X90 hx hZ e90 Ar91 (j := (13 : Int32)) hin91 (g := (mkF m 99 #[.val (.int i0), .val (.int i1), .val (.int (0 : Int32)), .val (.int (((i1.toUInt32 >>> ((1 : Int32) &&& 31).toUInt32).toInt32) &&& (15 : Int32))), .unset, .unset, .unset] [(.int (1114112 : Int32)), (.int (13 : Int32)), (.ref b77), (.ref b77)])) rfl rfl (hb hby at_99)
    have V91 : own_AF Z h91 b77 .int 14 (fun i => if i = 13 then (1114112 : Int32) else gf90 i) := own_AFset Ar91 Sz91 Ht91 W91
    obtain ⟨gf91, hgf91⟩ : ∃ g' : Nat → Int32, g' = (fun i => if i = 13 then (1114112 : Int32) else gf90 i) := ⟨_, rfl⟩
    rw [← hgf91] at V91
    have N91 := Fr.snoc X91 N90 fr77
    have Z091 : n0 ≤ h91.size := Nat.le_trans Z090 (Nat.le_of_eq W91.size.symm)
    refine own_step st91 ?_
    show own_Fin p e below s Q 16 128 (T91.setTop (mkF m 100 #[.val (.int i0), .val (.int i1), .val (.int (0 : Int32)), .val (.int (((i1.toUInt32 >>> ((1 : Int32) &&& 31).toUInt32).toInt32) &&& (15 : Int32))), .unset, .unset, .unset] [(.ref b77)]))
    refine own_step (fun t k => XS.astore X91.here hx rfl (hb hby at_100) rfl rfl (l' := #[.val (.int i0), .val (.int i1), .val (.int (0 : Int32)), .val (.int (((i1.toUInt32 >>> ((1 : Int32) &&& 31).toUInt32).toInt32) &&& (15 : Int32))), .val (.ref b77), .unset, .unset]) rfl k) ?_
    show own_Fin p e below s Q 16 128 (T91.setTop (mkF m 102 #[.val (.int i0), .val (.int i1), .val (.int (0 : Int32)), .val (.int (((i1.toUInt32 >>> ((1 : Int32) &&& 31).toUInt32).toInt32) &&& (15 : Int32))), .val (.ref b77), .unset, .unset] []))
    refine own_step (fun t k => XS.iloadN X91.here hx rfl (hb hby at_102) rfl  k) ?_
    show own_Fin p e below s Q 16 128 (T91.setTop (mkF m 103 #[.val (.int i0), .val (.int i1), .val (.int (0 : Int32)), .val (.int (((i1.toUInt32 >>> ((1 : Int32) &&& 31).toUInt32).toInt32) &&& (15 : Int32))), .val (.ref b77), .unset, .unset] [(.int i0)]))
    refine own_step (fun t k => XS.istore X91.here hx rfl (hb hby at_103) rfl (l' := #[.val (.int i0), .val (.int i1), .val (.int (0 : Int32)), .val (.int (((i1.toUInt32 >>> ((1 : Int32) &&& 31).toUInt32).toInt32) &&& (15 : Int32))), .val (.ref b77), .val (.int i0), .unset]) rfl k) ?_
    show own_Fin p e below s Q 16 128 (T91.setTop (mkF m 105 #[.val (.int i0), .val (.int i1), .val (.int (0 : Int32)), .val (.int (((i1.toUInt32 >>> ((1 : Int32) &&& 31).toUInt32).toInt32) &&& (15 : Int32))), .val (.ref b77), .val (.int i0), .unset] []))
    refine own_step (fun t k => XS.iloadN X91.here hx rfl (hb hby at_105) rfl  k) ?_
    show own_Fin p e below s Q 16 128 (T91.setTop (mkF m 106 #[.val (.int i0), .val (.int i1), .val (.int (0 : Int32)), .val (.int (((i1.toUInt32 >>> ((1 : Int32) &&& 31).toUInt32).toInt32) &&& (15 : Int32))), .val (.ref b77), .val (.int i0), .unset] [(.int (((i1.toUInt32 >>> ((1 : Int32) &&& 31).toUInt32).toInt32) &&& (15 : Int32)))]))
    refine own_step (fun t k => XS.bipush X91.here hx rfl (hb hby at_106) k) ?_
    show own_Fin p e below s Q 16 128 (T91.setTop (mkF m 108 #[.val (.int i0), .val (.int i1), .val (.int (0 : Int32)), .val (.int (((i1.toUInt32 >>> ((1 : Int32) &&& 31).toUInt32).toInt32) &&& (15 : Int32))), .val (.ref b77), .val (.int i0), .unset] [(.int (14 : Int32)), (.int (((i1.toUInt32 >>> ((1 : Int32) &&& 31).toUInt32).toInt32) &&& (15 : Int32)))]))
    by_cases hB108_92 : (((i1.toUInt32 >>> ((1 : Int32) &&& 31).toUInt32).toInt32) &&& (15 : Int32)) < (14 : Int32)
    · refine own_step (fun t k => XS.icmpNo X91.here hx rfl (hb hby at_108) rfl (tlt hB108_92).2.1 k) ?_
      show own_Fin p e below s Q 16 128 (T91.setTop (mkF m 111 #[.val (.int i0), .val (.int i1), .val (.int (0 : Int32)), .val (.int (((i1.toUInt32 >>> ((1 : Int32) &&& 31).toUInt32).toInt32) &&& (15 : Int32))), .val (.ref b77), .val (.int i0), .unset] []))
      refine own_step (fun t k => XS.aload X91.here hx rfl (hb hby at_111) rfl rfl k) ?_
      show own_Fin p e below s Q 16 128 (T91.setTop (mkF m 113 #[.val (.int i0), .val (.int i1), .val (.int (0 : Int32)), .val (.int (((i1.toUInt32 >>> ((1 : Int32) &&& 31).toUInt32).toInt32) &&& (15 : Int32))), .val (.ref b77), .val (.int i0), .unset] [(.ref b77)]))
      refine own_step (fun t k => XS.iloadN X91.here hx rfl (hb hby at_113) rfl  k) ?_
      show own_Fin p e below s Q 16 128 (T91.setTop (mkF m 114 #[.val (.int i0), .val (.int i1), .val (.int (0 : Int32)), .val (.int (((i1.toUInt32 >>> ((1 : Int32) &&& 31).toUInt32).toInt32) &&& (15 : Int32))), .val (.ref b77), .val (.int i0), .unset] [(.int (((i1.toUInt32 >>> ((1 : Int32) &&& 31).toUInt32).toInt32) &&& (15 : Int32))), (.ref b77)]))
      obtain ⟨ca114, Ar114, Sz114, Ht114⟩ := id V91
      have hin114 : ¬ ((((i1.toUInt32 >>> ((1 : Int32) &&& 31).toUInt32).toInt32) &&& (15 : Int32)) < 0 ∨ ca114.slots.size ≤ ((((i1.toUInt32 >>> ((1 : Int32) &&& 31).toUInt32).toInt32) &&& (15 : Int32))).toNatClampNeg) := by rw [Sz114]; exact own_in _ hB108_92 (own_k i1)
      refine own_step (X91.iaload hx (j := (((i1.toUInt32 >>> ((1 : Int32) &&& 31).toUInt32).toInt32) &&& (15 : Int32))) (v := (.int (gf91 ((((i1.toUInt32 >>> ((1 : Int32) &&& 31).toUInt32).toInt32) &&& (15 : Int32))).toNatClampNeg))) (by rw [e91]; exact Ar114.1) (State.isArrayOf_alike hZ.alike Ar114.2.1) Ar114.2.2 hin114 (Ht114 _ (by rw [← Sz114]; exact Nat.lt_of_not_le fun y => hin114 (Or.inr y))) (g := (mkF m 114 #[.val (.int i0), .val (.int i1), .val (.int (0 : Int32)), .val (.int (((i1.toUInt32 >>> ((1 : Int32) &&& 31).toUInt32).toInt32) &&& (15 : Int32))), .val (.ref b77), .val (.int i0), .unset] [(.int (((i1.toUInt32 >>> ((1 : Int32) &&& 31).toUInt32).toInt32) &&& (15 : Int32))), (.ref b77)])) rfl rfl (hb hby at_114)) ?_
      show own_Fin p e below s Q 16 128 (T91.setTop (mkF m 115 #[.val (.int i0), .val (.int i1), .val (.int (0 : Int32)), .val (.int (((i1.toUInt32 >>> ((1 : Int32) &&& 31).toUInt32).toInt32) &&& (15 : Int32))), .val (.ref b77), .val (.int i0), .unset] [(.int (gf91 ((((i1.toUInt32 >>> ((1 : Int32) &&& 31).toUInt32).toInt32) &&& (15 : Int32))).toNatClampNeg))]))
      refine own_step (fun t k => XS.iloadN X91.here hx rfl (hb hby at_115) rfl  k) ?_
      show own_Fin p e below s Q 16 128 (T91.setTop (mkF m 116 #[.val (.int i0), .val (.int i1), .val (.int (0 : Int32)), .val (.int (((i1.toUInt32 >>> ((1 : Int32) &&& 31).toUInt32).toInt32) &&& (15 : Int32))), .val (.ref b77), .val (.int i0), .unset] [(.int i0), (.int (gf91 ((((i1.toUInt32 >>> ((1 : Int32) &&& 31).toUInt32).toInt32) &&& (15 : Int32))).toNatClampNeg))]))
      refine own_step (fun t k => XS.iconst X91.here hx rfl (hb hby at_116) k) ?_
      show own_Fin p e below s Q 16 128 (T91.setTop (mkF m 117 #[.val (.int i0), .val (.int i1), .val (.int (0 : Int32)), .val (.int (((i1.toUInt32 >>> ((1 : Int32) &&& 31).toUInt32).toInt32) &&& (15 : Int32))), .val (.ref b77), .val (.int i0), .unset] [(.int (2 : Int32)), (.int i0), (.int (gf91 ((((i1.toUInt32 >>> ((1 : Int32) &&& 31).toUInt32).toInt32) &&& (15 : Int32))).toNatClampNeg))]))
      refine own_step (fun t k => XS.irem X91.here hx rfl (hb hby at_117) rfl (by decide) k) ?_
      rw [irem_eq_mod i0 (2 : Int32)]
      show own_Fin p e below s Q 16 128 (T91.setTop (mkF m 118 #[.val (.int i0), .val (.int i1), .val (.int (0 : Int32)), .val (.int (((i1.toUInt32 >>> ((1 : Int32) &&& 31).toUInt32).toInt32) &&& (15 : Int32))), .val (.ref b77), .val (.int i0), .unset] [(.int (i0 % (2 : Int32))), (.int (gf91 ((((i1.toUInt32 >>> ((1 : Int32) &&& 31).toUInt32).toInt32) &&& (15 : Int32))).toNatClampNeg))]))
      refine own_step (fun t k => XS.iadd X91.here hx rfl (hb hby at_118) rfl k) ?_
      show own_Fin p e below s Q 16 128 (T91.setTop (mkF m 119 #[.val (.int i0), .val (.int i1), .val (.int (0 : Int32)), .val (.int (((i1.toUInt32 >>> ((1 : Int32) &&& 31).toUInt32).toInt32) &&& (15 : Int32))), .val (.ref b77), .val (.int i0), .unset] [(.int ((gf91 ((((i1.toUInt32 >>> ((1 : Int32) &&& 31).toUInt32).toInt32) &&& (15 : Int32))).toNatClampNeg) + (i0 % (2 : Int32))))]))
      refine own_step (fun t k => XS.istore X91.here hx rfl (hb hby at_119) rfl (l' := #[.val (.int i0), .val (.int i1), .val (.int (0 : Int32)), .val (.int (((i1.toUInt32 >>> ((1 : Int32) &&& 31).toUInt32).toInt32) &&& (15 : Int32))), .val (.ref b77), .val (.int ((gf91 ((((i1.toUInt32 >>> ((1 : Int32) &&& 31).toUInt32).toInt32) &&& (15 : Int32))).toNatClampNeg) + (i0 % (2 : Int32)))), .unset]) rfl k) ?_
      show own_Fin p e below s Q 16 128 (T91.setTop (mkF m 121 #[.val (.int i0), .val (.int i1), .val (.int (0 : Int32)), .val (.int (((i1.toUInt32 >>> ((1 : Int32) &&& 31).toUInt32).toInt32) &&& (15 : Int32))), .val (.ref b77), .val (.int ((gf91 ((((i1.toUInt32 >>> ((1 : Int32) &&& 31).toUInt32).toInt32) &&& (15 : Int32))).toNatClampNeg) + (i0 % (2 : Int32)))), .unset] []))
      refine own_step (fun t k => XS.iload X91.here hx rfl (hb hby at_121) rfl  k) ?_
      show own_Fin p e below s Q 16 128 (T91.setTop (mkF m 123 #[.val (.int i0), .val (.int i1), .val (.int (0 : Int32)), .val (.int (((i1.toUInt32 >>> ((1 : Int32) &&& 31).toUInt32).toInt32) &&& (15 : Int32))), .val (.ref b77), .val (.int ((gf91 ((((i1.toUInt32 >>> ((1 : Int32) &&& 31).toUInt32).toInt32) &&& (15 : Int32))).toNatClampNeg) + (i0 % (2 : Int32)))), .unset] [(.int ((gf91 ((((i1.toUInt32 >>> ((1 : Int32) &&& 31).toUInt32).toInt32) &&& (15 : Int32))).toNatClampNeg) + (i0 % (2 : Int32))))]))
      refine own_step (fun t k => XS.iloadN X91.here hx rfl (hb hby at_123) rfl  k) ?_
      show own_Fin p e below s Q 16 128 (T91.setTop (mkF m 124 #[.val (.int i0), .val (.int i1), .val (.int (0 : Int32)), .val (.int (((i1.toUInt32 >>> ((1 : Int32) &&& 31).toUInt32).toInt32) &&& (15 : Int32))), .val (.ref b77), .val (.int ((gf91 ((((i1.toUInt32 >>> ((1 : Int32) &&& 31).toUInt32).toInt32) &&& (15 : Int32))).toNatClampNeg) + (i0 % (2 : Int32)))), .unset] [(.int (0 : Int32)), (.int ((gf91 ((((i1.toUInt32 >>> ((1 : Int32) &&& 31).toUInt32).toInt32) &&& (15 : Int32))).toNatClampNeg) + (i0 % (2 : Int32))))]))
      obtain ⟨_, _, ⟨T93, L93, k93, n93⟩, -, X93, ⟨Lc93, hQ93, l93, y93, z93⟩, st93⟩ := Jvm.LawKit.callS X91 hx (y := (⟨"com/example/zoria/zoria/xml/XmlScannerIsReferablePinLaw", "expected", "(IZ)Z"⟩ : MethodName)) hown (mvT hZ (hw _ (List.mem_of_getElem? (i := 10) rfl))) (mvT hZ (hw _ (List.mem_of_getElem? (i := 11) rfl))) (mvT hZ (hw _ (List.mem_of_getElem? (i := 12) rfl))) (mvT hZ (hw _ (List.mem_of_getElem? (i := 13) rfl))) (by decide) (backOf (W := 0) (rm1 l Z a0 hw [] ((gf91 ((((i1.toUInt32 >>> ((1 : Int32) &&& 31).toUInt32).toInt32) &&& (15 : Int32))).toNatClampNeg) + (i0 % (2 : Int32))) (0 : Int32) h91 n0) hZ (hw _ (List.mem_of_getElem? (i := 13) rfl)) (hw _ (List.mem_of_getElem? (i := 12) rfl)) (by decide) (by decide)) (g := (mkF m 124 #[.val (.int i0), .val (.int i1), .val (.int (0 : Int32)), .val (.int (((i1.toUInt32 >>> ((1 : Int32) &&& 31).toUInt32).toInt32) &&& (15 : Int32))), .val (.ref b77), .val (.int ((gf91 ((((i1.toUInt32 >>> ((1 : Int32) &&& 31).toUInt32).toInt32) &&& (15 : Int32))).toNatClampNeg) + (i0 % (2 : Int32)))), .unset] [(.int (0 : Int32)), (.int ((gf91 ((((i1.toUInt32 >>> ((1 : Int32) &&& 31).toUInt32).toInt32) &&& (15 : Int32))).toNatClampNeg) + (i0 % (2 : Int32))))])) rfl (by rw [hml]; rfl) (argsL := [(.int ((gf91 ((((i1.toUInt32 >>> ((1 : Int32) &&& 31).toUInt32).toInt32) &&& (15 : Int32))).toNatClampNeg) + (i0 % (2 : Int32)))), (.int (0 : Int32))]) (rest := []) (lenOf pdm_0 rfl) rfl (by show 2 * 0 + _ ≤ _; exact Nat.le_of_eq rfl) (hb hby at_124) (fun _ _ => ⟨rfl, e91, (by show cells + 1 + 0 ≤ 16; omega), (by show slots + 14 + 0 ≤ 128; omega)⟩)
      dsimp only [Pt.U, Pt.locs, Pt.cells, Pt.slots] at X93 l93 y93 z93 st93 hQ93
      subst l93 y93 z93
      obtain ⟨rfl, N93q, e93⟩ := hQ93
      have N93 := Fr.app N91 N93q
      refine own_step st93 ?_
      show own_Fin p e below s Q 16 128 (T93.setTop (mkF m 127 #[.val (.int i0), .val (.int i1), .val (.int (0 : Int32)), .val (.int (((i1.toUInt32 >>> ((1 : Int32) &&& 31).toUInt32).toInt32) &&& (15 : Int32))), .val (.ref b77), .val (.int ((gf91 ((((i1.toUInt32 >>> ((1 : Int32) &&& 31).toUInt32).toInt32) &&& (15 : Int32))).toNatClampNeg) + (i0 % (2 : Int32)))), .unset] [(.int (f1_0 ((gf91 ((((i1.toUInt32 >>> ((1 : Int32) &&& 31).toUInt32).toInt32) &&& (15 : Int32))).toNatClampNeg) + (i0 % (2 : Int32))) (0 : Int32)))]))
      refine own_step (fun t k => XS.istore X93.here hx rfl (hb hby at_127) rfl (l' := #[.val (.int i0), .val (.int i1), .val (.int (0 : Int32)), .val (.int (((i1.toUInt32 >>> ((1 : Int32) &&& 31).toUInt32).toInt32) &&& (15 : Int32))), .val (.ref b77), .val (.int ((gf91 ((((i1.toUInt32 >>> ((1 : Int32) &&& 31).toUInt32).toInt32) &&& (15 : Int32))).toNatClampNeg) + (i0 % (2 : Int32)))), .val (.int (f1_0 ((gf91 ((((i1.toUInt32 >>> ((1 : Int32) &&& 31).toUInt32).toInt32) &&& (15 : Int32))).toNatClampNeg) + (i0 % (2 : Int32))) (0 : Int32)))]) rfl k) ?_
      show own_Fin p e below s Q 16 128 (T93.setTop (mkF m 129 #[.val (.int i0), .val (.int i1), .val (.int (0 : Int32)), .val (.int (((i1.toUInt32 >>> ((1 : Int32) &&& 31).toUInt32).toInt32) &&& (15 : Int32))), .val (.ref b77), .val (.int ((gf91 ((((i1.toUInt32 >>> ((1 : Int32) &&& 31).toUInt32).toInt32) &&& (15 : Int32))).toNatClampNeg) + (i0 % (2 : Int32)))), .val (.int (f1_0 ((gf91 ((((i1.toUInt32 >>> ((1 : Int32) &&& 31).toUInt32).toInt32) &&& (15 : Int32))).toNatClampNeg) + (i0 % (2 : Int32))) (0 : Int32)))] []))
      refine own_step (fun t k => XS.iload X93.here hx rfl (hb hby at_129) rfl  k) ?_
      show own_Fin p e below s Q 16 128 (T93.setTop (mkF m 131 #[.val (.int i0), .val (.int i1), .val (.int (0 : Int32)), .val (.int (((i1.toUInt32 >>> ((1 : Int32) &&& 31).toUInt32).toInt32) &&& (15 : Int32))), .val (.ref b77), .val (.int ((gf91 ((((i1.toUInt32 >>> ((1 : Int32) &&& 31).toUInt32).toInt32) &&& (15 : Int32))).toNatClampNeg) + (i0 % (2 : Int32)))), .val (.int (f1_0 ((gf91 ((((i1.toUInt32 >>> ((1 : Int32) &&& 31).toUInt32).toInt32) &&& (15 : Int32))).toNatClampNeg) + (i0 % (2 : Int32))) (0 : Int32)))] [(.int ((gf91 ((((i1.toUInt32 >>> ((1 : Int32) &&& 31).toUInt32).toInt32) &&& (15 : Int32))).toNatClampNeg) + (i0 % (2 : Int32))))]))
      refine own_step (fun t k => XS.iloadN X93.here hx rfl (hb hby at_131) rfl  k) ?_
      show own_Fin p e below s Q 16 128 (T93.setTop (mkF m 132 #[.val (.int i0), .val (.int i1), .val (.int (0 : Int32)), .val (.int (((i1.toUInt32 >>> ((1 : Int32) &&& 31).toUInt32).toInt32) &&& (15 : Int32))), .val (.ref b77), .val (.int ((gf91 ((((i1.toUInt32 >>> ((1 : Int32) &&& 31).toUInt32).toInt32) &&& (15 : Int32))).toNatClampNeg) + (i0 % (2 : Int32)))), .val (.int (f1_0 ((gf91 ((((i1.toUInt32 >>> ((1 : Int32) &&& 31).toUInt32).toInt32) &&& (15 : Int32))).toNatClampNeg) + (i0 % (2 : Int32))) (0 : Int32)))] [(.int (0 : Int32)), (.int ((gf91 ((((i1.toUInt32 >>> ((1 : Int32) &&& 31).toUInt32).toInt32) &&& (15 : Int32))).toNatClampNeg) + (i0 % (2 : Int32))))]))
      obtain ⟨_, _, ⟨T94, L94, k94, n94⟩, -, X94, ⟨Lc94, hQ94, l94, y94, z94⟩, st94⟩ := Jvm.LawKit.callS X93 hx (y := (⟨"com/example/zoria/zoria/xml/XmlScanner", "isReferable", "(IZ)Z"⟩ : MethodName)) hown (mvT hZ (hw _ (List.mem_of_getElem? (i := 14) rfl))) (mvT hZ (hw _ (List.mem_of_getElem? (i := 15) rfl))) (mvT hZ (hw _ (List.mem_of_getElem? (i := 16) rfl))) (mvT hZ (hw _ (List.mem_of_getElem? (i := 17) rfl))) (by decide) (backOf (W := 0) (rm2 l Z a0 hw [] ((gf91 ((((i1.toUInt32 >>> ((1 : Int32) &&& 31).toUInt32).toInt32) &&& (15 : Int32))).toNatClampNeg) + (i0 % (2 : Int32))) (0 : Int32) h91 n0) hZ (hw _ (List.mem_of_getElem? (i := 17) rfl)) (hw _ (List.mem_of_getElem? (i := 16) rfl)) (by decide) (by decide)) (g := (mkF m 132 #[.val (.int i0), .val (.int i1), .val (.int (0 : Int32)), .val (.int (((i1.toUInt32 >>> ((1 : Int32) &&& 31).toUInt32).toInt32) &&& (15 : Int32))), .val (.ref b77), .val (.int ((gf91 ((((i1.toUInt32 >>> ((1 : Int32) &&& 31).toUInt32).toInt32) &&& (15 : Int32))).toNatClampNeg) + (i0 % (2 : Int32)))), .val (.int (f1_0 ((gf91 ((((i1.toUInt32 >>> ((1 : Int32) &&& 31).toUInt32).toInt32) &&& (15 : Int32))).toNatClampNeg) + (i0 % (2 : Int32))) (0 : Int32)))] [(.int (0 : Int32)), (.int ((gf91 ((((i1.toUInt32 >>> ((1 : Int32) &&& 31).toUInt32).toInt32) &&& (15 : Int32))).toNatClampNeg) + (i0 % (2 : Int32))))])) rfl (by rw [hml]; rfl) (argsL := [(.int ((gf91 ((((i1.toUInt32 >>> ((1 : Int32) &&& 31).toUInt32).toInt32) &&& (15 : Int32))).toNatClampNeg) + (i0 % (2 : Int32)))), (.int (0 : Int32))]) (rest := []) (lenOf pdm_0 rfl) rfl (by show 2 * 0 + _ ≤ _; exact Nat.le_of_eq rfl) (hb hby at_132) (fun _ _ => ⟨rfl, e93, (by show cells + 1 + 0 + 0 ≤ 16; omega), (by show slots + 14 + 0 + 0 ≤ 128; omega)⟩)
      dsimp only [Pt.U, Pt.locs, Pt.cells, Pt.slots] at X94 l94 y94 z94 st94 hQ94
      subst l94 y94 z94
      obtain ⟨rfl, N94q, e94⟩ := hQ94
      have N94 := Fr.app N93 N94q
      refine own_step st94 ?_
      show own_Fin p e below s Q 16 128 (T94.setTop (mkF m 135 #[.val (.int i0), .val (.int i1), .val (.int (0 : Int32)), .val (.int (((i1.toUInt32 >>> ((1 : Int32) &&& 31).toUInt32).toInt32) &&& (15 : Int32))), .val (.ref b77), .val (.int ((gf91 ((((i1.toUInt32 >>> ((1 : Int32) &&& 31).toUInt32).toInt32) &&& (15 : Int32))).toNatClampNeg) + (i0 % (2 : Int32)))), .val (.int (f1_0 ((gf91 ((((i1.toUInt32 >>> ((1 : Int32) &&& 31).toUInt32).toInt32) &&& (15 : Int32))).toNatClampNeg) + (i0 % (2 : Int32))) (0 : Int32)))] [(.int (f2_0 ((gf91 ((((i1.toUInt32 >>> ((1 : Int32) &&& 31).toUInt32).toInt32) &&& (15 : Int32))).toNatClampNeg) + (i0 % (2 : Int32))) (0 : Int32)))]))
      refine own_step (fun t k => XS.iload X94.here hx rfl (hb hby at_135) rfl  k) ?_
      show own_Fin p e below s Q 16 128 (T94.setTop (mkF m 137 #[.val (.int i0), .val (.int i1), .val (.int (0 : Int32)), .val (.int (((i1.toUInt32 >>> ((1 : Int32) &&& 31).toUInt32).toInt32) &&& (15 : Int32))), .val (.ref b77), .val (.int ((gf91 ((((i1.toUInt32 >>> ((1 : Int32) &&& 31).toUInt32).toInt32) &&& (15 : Int32))).toNatClampNeg) + (i0 % (2 : Int32)))), .val (.int (f1_0 ((gf91 ((((i1.toUInt32 >>> ((1 : Int32) &&& 31).toUInt32).toInt32) &&& (15 : Int32))).toNatClampNeg) + (i0 % (2 : Int32))) (0 : Int32)))] [(.int (f1_0 ((gf91 ((((i1.toUInt32 >>> ((1 : Int32) &&& 31).toUInt32).toInt32) &&& (15 : Int32))).toNatClampNeg) + (i0 % (2 : Int32))) (0 : Int32))), (.int (f2_0 ((gf91 ((((i1.toUInt32 >>> ((1 : Int32) &&& 31).toUInt32).toInt32) &&& (15 : Int32))).toNatClampNeg) + (i0 % (2 : Int32))) (0 : Int32)))]))
      refine own_step (fun t k => XS.icmpNo X94.here hx rfl (hb hby at_137) rfl (teq (own_eq0 _)).2 k) ?_
      show own_Fin p e below s Q 16 128 (T94.setTop (mkF m 140 #[.val (.int i0), .val (.int i1), .val (.int (0 : Int32)), .val (.int (((i1.toUInt32 >>> ((1 : Int32) &&& 31).toUInt32).toInt32) &&& (15 : Int32))), .val (.ref b77), .val (.int ((gf91 ((((i1.toUInt32 >>> ((1 : Int32) &&& 31).toUInt32).toInt32) &&& (15 : Int32))).toNatClampNeg) + (i0 % (2 : Int32)))), .val (.int (f1_0 ((gf91 ((((i1.toUInt32 >>> ((1 : Int32) &&& 31).toUInt32).toInt32) &&& (15 : Int32))).toNatClampNeg) + (i0 % (2 : Int32))) (0 : Int32)))] []))
      refine own_step (fun t k => XS.iconst X94.here hx rfl (hb hby at_140) k) ?_
      show own_Fin p e below s Q 16 128 (T94.setTop (mkF m 141 #[.val (.int i0), .val (.int i1), .val (.int (0 : Int32)), .val (.int (((i1.toUInt32 >>> ((1 : Int32) &&& 31).toUInt32).toInt32) &&& (15 : Int32))), .val (.ref b77), .val (.int ((gf91 ((((i1.toUInt32 >>> ((1 : Int32) &&& 31).toUInt32).toInt32) &&& (15 : Int32))).toNatClampNeg) + (i0 % (2 : Int32)))), .val (.int (f1_0 ((gf91 ((((i1.toUInt32 >>> ((1 : Int32) &&& 31).toUInt32).toInt32) &&& (15 : Int32))).toNatClampNeg) + (i0 % (2 : Int32))) (0 : Int32)))] [(.int (1 : Int32))]))
      refine own_step (fun t k => XS.goto X94.here hx rfl (pc0 := 141) (pc' := 145) rfl (hb hby at_141) (by decide) (by decide) k) ?_
      show own_Fin p e below s Q 16 128 (T94.setTop (mkF m 145 #[.val (.int i0), .val (.int i1), .val (.int (0 : Int32)), .val (.int (((i1.toUInt32 >>> ((1 : Int32) &&& 31).toUInt32).toInt32) &&& (15 : Int32))), .val (.ref b77), .val (.int ((gf91 ((((i1.toUInt32 >>> ((1 : Int32) &&& 31).toUInt32).toInt32) &&& (15 : Int32))).toNatClampNeg) + (i0 % (2 : Int32)))), .val (.int (f1_0 ((gf91 ((((i1.toUInt32 >>> ((1 : Int32) &&& 31).toUInt32).toInt32) &&& (15 : Int32))).toNatClampNeg) + (i0 % (2 : Int32))) (0 : Int32)))] [(.int (1 : Int32))]))
      exact own_retN X94 hx hlk hret (by simp) (hb hby at_145) (by omega) (by omega) rfl N94 (fun L' n' => hQ _ L' n') (rfl)
    · refine own_step (fun t k => XS.icmpYes X91.here hx rfl (pc0 := 108) (pc' := 121) rfl (hb hby at_108) rfl (flt hB108_92).2.1 (by decide) (by decide) k) ?_
      show own_Fin p e below s Q 16 128 (T91.setTop (mkF m 121 #[.val (.int i0), .val (.int i1), .val (.int (0 : Int32)), .val (.int (((i1.toUInt32 >>> ((1 : Int32) &&& 31).toUInt32).toInt32) &&& (15 : Int32))), .val (.ref b77), .val (.int i0), .unset] []))
      refine own_step (fun t k => XS.iload X91.here hx rfl (hb hby at_121) rfl  k) ?_
      show own_Fin p e below s Q 16 128 (T91.setTop (mkF m 123 #[.val (.int i0), .val (.int i1), .val (.int (0 : Int32)), .val (.int (((i1.toUInt32 >>> ((1 : Int32) &&& 31).toUInt32).toInt32) &&& (15 : Int32))), .val (.ref b77), .val (.int i0), .unset] [(.int i0)]))
      refine own_step (fun t k => XS.iloadN X91.here hx rfl (hb hby at_123) rfl  k) ?_
      show own_Fin p e below s Q 16 128 (T91.setTop (mkF m 124 #[.val (.int i0), .val (.int i1), .val (.int (0 : Int32)), .val (.int (((i1.toUInt32 >>> ((1 : Int32) &&& 31).toUInt32).toInt32) &&& (15 : Int32))), .val (.ref b77), .val (.int i0), .unset] [(.int (0 : Int32)), (.int i0)]))
      obtain ⟨_, _, ⟨T95, L95, k95, n95⟩, -, X95, ⟨Lc95, hQ95, l95, y95, z95⟩, st95⟩ := Jvm.LawKit.callS X91 hx (y := (⟨"com/example/zoria/zoria/xml/XmlScannerIsReferablePinLaw", "expected", "(IZ)Z"⟩ : MethodName)) hown (mvT hZ (hw _ (List.mem_of_getElem? (i := 10) rfl))) (mvT hZ (hw _ (List.mem_of_getElem? (i := 11) rfl))) (mvT hZ (hw _ (List.mem_of_getElem? (i := 12) rfl))) (mvT hZ (hw _ (List.mem_of_getElem? (i := 13) rfl))) (by decide) (backOf (W := 0) (rm1 l Z a0 hw [] i0 (0 : Int32) h91 n0) hZ (hw _ (List.mem_of_getElem? (i := 13) rfl)) (hw _ (List.mem_of_getElem? (i := 12) rfl)) (by decide) (by decide)) (g := (mkF m 124 #[.val (.int i0), .val (.int i1), .val (.int (0 : Int32)), .val (.int (((i1.toUInt32 >>> ((1 : Int32) &&& 31).toUInt32).toInt32) &&& (15 : Int32))), .val (.ref b77), .val (.int i0), .unset] [(.int (0 : Int32)), (.int i0)])) rfl (by rw [hml]; rfl) (argsL := [(.int i0), (.int (0 : Int32))]) (rest := []) (lenOf pdm_0 rfl) rfl (by show 2 * 0 + _ ≤ _; exact Nat.le_of_eq rfl) (hb hby at_124) (fun _ _ => ⟨rfl, e91, (by show cells + 1 + 0 ≤ 16; omega), (by show slots + 14 + 0 ≤ 128; omega)⟩)
      dsimp only [Pt.U, Pt.locs, Pt.cells, Pt.slots] at X95 l95 y95 z95 st95 hQ95
      subst l95 y95 z95
      obtain ⟨rfl, N95q, e95⟩ := hQ95
      have N95 := Fr.app N91 N95q
      refine own_step st95 ?_
      show own_Fin p e below s Q 16 128 (T95.setTop (mkF m 127 #[.val (.int i0), .val (.int i1), .val (.int (0 : Int32)), .val (.int (((i1.toUInt32 >>> ((1 : Int32) &&& 31).toUInt32).toInt32) &&& (15 : Int32))), .val (.ref b77), .val (.int i0), .unset] [(.int (f1_0 i0 (0 : Int32)))]))
      refine own_step (fun t k => XS.istore X95.here hx rfl (hb hby at_127) rfl (l' := #[.val (.int i0), .val (.int i1), .val (.int (0 : Int32)), .val (.int (((i1.toUInt32 >>> ((1 : Int32) &&& 31).toUInt32).toInt32) &&& (15 : Int32))), .val (.ref b77), .val (.int i0), .val (.int (f1_0 i0 (0 : Int32)))]) rfl k) ?_
      show own_Fin p e below s Q 16 128 (T95.setTop (mkF m 129 #[.val (.int i0), .val (.int i1), .val (.int (0 : Int32)), .val (.int (((i1.toUInt32 >>> ((1 : Int32) &&& 31).toUInt32).toInt32) &&& (15 : Int32))), .val (.ref b77), .val (.int i0), .val (.int (f1_0 i0 (0 : Int32)))] []))
      refine own_step (fun t k => XS.iload X95.here hx rfl (hb hby at_129) rfl  k) ?_
      show own_Fin p e below s Q 16 128 (T95.setTop (mkF m 131 #[.val (.int i0), .val (.int i1), .val (.int (0 : Int32)), .val (.int (((i1.toUInt32 >>> ((1 : Int32) &&& 31).toUInt32).toInt32) &&& (15 : Int32))), .val (.ref b77), .val (.int i0), .val (.int (f1_0 i0 (0 : Int32)))] [(.int i0)]))
      refine own_step (fun t k => XS.iloadN X95.here hx rfl (hb hby at_131) rfl  k) ?_
      show own_Fin p e below s Q 16 128 (T95.setTop (mkF m 132 #[.val (.int i0), .val (.int i1), .val (.int (0 : Int32)), .val (.int (((i1.toUInt32 >>> ((1 : Int32) &&& 31).toUInt32).toInt32) &&& (15 : Int32))), .val (.ref b77), .val (.int i0), .val (.int (f1_0 i0 (0 : Int32)))] [(.int (0 : Int32)), (.int i0)]))
      obtain ⟨_, _, ⟨T96, L96, k96, n96⟩, -, X96, ⟨Lc96, hQ96, l96, y96, z96⟩, st96⟩ := Jvm.LawKit.callS X95 hx (y := (⟨"com/example/zoria/zoria/xml/XmlScanner", "isReferable", "(IZ)Z"⟩ : MethodName)) hown (mvT hZ (hw _ (List.mem_of_getElem? (i := 14) rfl))) (mvT hZ (hw _ (List.mem_of_getElem? (i := 15) rfl))) (mvT hZ (hw _ (List.mem_of_getElem? (i := 16) rfl))) (mvT hZ (hw _ (List.mem_of_getElem? (i := 17) rfl))) (by decide) (backOf (W := 0) (rm2 l Z a0 hw [] i0 (0 : Int32) h91 n0) hZ (hw _ (List.mem_of_getElem? (i := 17) rfl)) (hw _ (List.mem_of_getElem? (i := 16) rfl)) (by decide) (by decide)) (g := (mkF m 132 #[.val (.int i0), .val (.int i1), .val (.int (0 : Int32)), .val (.int (((i1.toUInt32 >>> ((1 : Int32) &&& 31).toUInt32).toInt32) &&& (15 : Int32))), .val (.ref b77), .val (.int i0), .val (.int (f1_0 i0 (0 : Int32)))] [(.int (0 : Int32)), (.int i0)])) rfl (by rw [hml]; rfl) (argsL := [(.int i0), (.int (0 : Int32))]) (rest := []) (lenOf pdm_0 rfl) rfl (by show 2 * 0 + _ ≤ _; exact Nat.le_of_eq rfl) (hb hby at_132) (fun _ _ => ⟨rfl, e95, (by show cells + 1 + 0 + 0 ≤ 16; omega), (by show slots + 14 + 0 + 0 ≤ 128; omega)⟩)
      dsimp only [Pt.U, Pt.locs, Pt.cells, Pt.slots] at X96 l96 y96 z96 st96 hQ96
      subst l96 y96 z96
      obtain ⟨rfl, N96q, e96⟩ := hQ96
      have N96 := Fr.app N95 N96q
      refine own_step st96 ?_
      show own_Fin p e below s Q 16 128 (T96.setTop (mkF m 135 #[.val (.int i0), .val (.int i1), .val (.int (0 : Int32)), .val (.int (((i1.toUInt32 >>> ((1 : Int32) &&& 31).toUInt32).toInt32) &&& (15 : Int32))), .val (.ref b77), .val (.int i0), .val (.int (f1_0 i0 (0 : Int32)))] [(.int (f2_0 i0 (0 : Int32)))]))
      refine own_step (fun t k => XS.iload X96.here hx rfl (hb hby at_135) rfl  k) ?_
      show own_Fin p e below s Q 16 128 (T96.setTop (mkF m 137 #[.val (.int i0), .val (.int i1), .val (.int (0 : Int32)), .val (.int (((i1.toUInt32 >>> ((1 : Int32) &&& 31).toUInt32).toInt32) &&& (15 : Int32))), .val (.ref b77), .val (.int i0), .val (.int (f1_0 i0 (0 : Int32)))] [(.int (f1_0 i0 (0 : Int32))), (.int (f2_0 i0 (0 : Int32)))]))
      refine own_step (fun t k => XS.icmpNo X96.here hx rfl (hb hby at_137) rfl (teq (own_eq0 _)).2 k) ?_
      show own_Fin p e below s Q 16 128 (T96.setTop (mkF m 140 #[.val (.int i0), .val (.int i1), .val (.int (0 : Int32)), .val (.int (((i1.toUInt32 >>> ((1 : Int32) &&& 31).toUInt32).toInt32) &&& (15 : Int32))), .val (.ref b77), .val (.int i0), .val (.int (f1_0 i0 (0 : Int32)))] []))
      refine own_step (fun t k => XS.iconst X96.here hx rfl (hb hby at_140) k) ?_
      show own_Fin p e below s Q 16 128 (T96.setTop (mkF m 141 #[.val (.int i0), .val (.int i1), .val (.int (0 : Int32)), .val (.int (((i1.toUInt32 >>> ((1 : Int32) &&& 31).toUInt32).toInt32) &&& (15 : Int32))), .val (.ref b77), .val (.int i0), .val (.int (f1_0 i0 (0 : Int32)))] [(.int (1 : Int32))]))
      refine own_step (fun t k => XS.goto X96.here hx rfl (pc0 := 141) (pc' := 145) rfl (hb hby at_141) (by decide) (by decide) k) ?_
      show own_Fin p e below s Q 16 128 (T96.setTop (mkF m 145 #[.val (.int i0), .val (.int i1), .val (.int (0 : Int32)), .val (.int (((i1.toUInt32 >>> ((1 : Int32) &&& 31).toUInt32).toInt32) &&& (15 : Int32))), .val (.ref b77), .val (.int i0), .val (.int (f1_0 i0 (0 : Int32)))] [(.int (1 : Int32))]))
      exact own_retN X96 hx hlk hret (by simp) (hb hby at_145) (by omega) (by omega) rfl N96 (fun L' n' => hQ _ L' n') (rfl)
  · refine own_step (fun t k => XS.ifNo X.here hx rfl (hb hby at_3) rfl ((if0 _ _).trans (feq hB3_76).1) k) ?_
    show own_Fin p e below s Q 16 128 (T.setTop (mkF m 6 #[.val (.int i0), .val (.int i1), .unset, .unset, .unset, .unset, .unset] []))
    refine own_step (fun t k => XS.iconst X.here hx rfl (hb hby at_6) k) ?_
    show own_Fin p e below s Q 16 128 (T.setTop (mkF m 7 #[.val (.int i0), .val (.int i1), .unset, .unset, .unset, .unset, .unset] [(.int (1 : Int32))]))
    refine own_step (fun t k => XS.goto X.here hx rfl (pc0 := 7) (pc' := 11) rfl (hb hby at_7) (by decide) (by decide) k) ?_
    show own_Fin p e below s Q 16 128 (T.setTop (mkF m 11 #[.val (.int i0), .val (.int i1), .unset, .unset, .unset, .unset, .unset] [(.int (1 : Int32))]))
    refine own_step (fun t k => XS.istoreN X.here hx rfl (hb hby at_11) rfl (l' := #[.val (.int i0), .val (.int i1), .val (.int (1 : Int32)), .unset, .unset, .unset, .unset]) rfl k) ?_
    show own_Fin p e below s Q 16 128 (T.setTop (mkF m 12 #[.val (.int i0), .val (.int i1), .val (.int (1 : Int32)), .unset, .unset, .unset, .unset] []))
    refine own_step (fun t k => XS.iloadN X.here hx rfl (hb hby at_12) rfl  k) ?_
    show own_Fin p e below s Q 16 128 (T.setTop (mkF m 13 #[.val (.int i0), .val (.int i1), .val (.int (1 : Int32)), .unset, .unset, .unset, .unset] [(.int i1)]))
    refine own_step (fun t k => XS.iconst X.here hx rfl (hb hby at_13) k) ?_
    show own_Fin p e below s Q 16 128 (T.setTop (mkF m 14 #[.val (.int i0), .val (.int i1), .val (.int (1 : Int32)), .unset, .unset, .unset, .unset] [(.int (1 : Int32)), (.int i1)]))
    refine own_step (fun t k => XS.iushr X.here hx rfl (hb hby at_14) rfl k) ?_
    show own_Fin p e below s Q 16 128 (T.setTop (mkF m 15 #[.val (.int i0), .val (.int i1), .val (.int (1 : Int32)), .unset, .unset, .unset, .unset] [(.int ((i1.toUInt32 >>> ((1 : Int32) &&& 31).toUInt32).toInt32))]))
    refine own_step (fun t k => XS.bipush X.here hx rfl (hb hby at_15) k) ?_
    show own_Fin p e below s Q 16 128 (T.setTop (mkF m 17 #[.val (.int i0), .val (.int i1), .val (.int (1 : Int32)), .unset, .unset, .unset, .unset] [(.int (15 : Int32)), (.int ((i1.toUInt32 >>> ((1 : Int32) &&& 31).toUInt32).toInt32))]))
    refine own_step (fun t k => XS.iand X.here hx rfl (hb hby at_17) rfl k) ?_
    show own_Fin p e below s Q 16 128 (T.setTop (mkF m 18 #[.val (.int i0), .val (.int i1), .val (.int (1 : Int32)), .unset, .unset, .unset, .unset] [(.int (((i1.toUInt32 >>> ((1 : Int32) &&& 31).toUInt32).toInt32) &&& (15 : Int32)))]))
    refine own_step (fun t k => XS.istoreN X.here hx rfl (hb hby at_18) rfl (l' := #[.val (.int i0), .val (.int i1), .val (.int (1 : Int32)), .val (.int (((i1.toUInt32 >>> ((1 : Int32) &&& 31).toUInt32).toInt32) &&& (15 : Int32))), .unset, .unset, .unset]) rfl k) ?_
    show own_Fin p e below s Q 16 128 (T.setTop (mkF m 19 #[.val (.int i0), .val (.int i1), .val (.int (1 : Int32)), .val (.int (((i1.toUInt32 >>> ((1 : Int32) &&& 31).toUInt32).toInt32) &&& (15 : Int32))), .unset, .unset, .unset] []))
    refine own_step (fun t k => XS.bipush X.here hx rfl (hb hby at_19) k) ?_
    show own_Fin p e below s Q 16 128 (T.setTop (mkF m 21 #[.val (.int i0), .val (.int i1), .val (.int (1 : Int32)), .val (.int (((i1.toUInt32 >>> ((1 : Int32) &&& 31).toUInt32).toInt32) &&& (15 : Int32))), .unset, .unset, .unset] [(.int (14 : Int32))]))
    obtain ⟨T97, h97, k97, X97, e97, E97, AA97, st97⟩ := newP X hx hZ (hw _ (List.mem_of_getElem? (i := 0) rfl)) eT (g := (mkF m 21 #[.val (.int i0), .val (.int i1), .val (.int (1 : Int32)), .val (.int (((i1.toUInt32 >>> ((1 : Int32) &&& 31).toUInt32).toInt32) &&& (15 : Int32))), .unset, .unset, .unset] [(.int (14 : Int32))])) rfl (hb hby at_21) rfl (by decide) (cap := 14) (by decide) (by decide) (by show cells + 1 ≤ 16; omega) (by show slots + 14 ≤ 128; omega)
    obtain ⟨b97, gg97⟩ : ∃ z, z = h.size := ⟨_, rfl⟩
    rw [← gg97] at AA97 st97
    have V97 : own_AF Z h97 b97 .int 14 (fun _ => 0) := own_AFnew AA97 (by decide)
    have fr97 : n0 ≤ b97 := Nat.le_trans Z0 (Nat.le_of_eq gg97.symm)
    have Z097 : n0 ≤ h97.size := Nat.le_trans Z0 E97.1
    refine own_step st97 ?_
    show own_Fin p e below s Q 16 128 (T97.setTop (mkF m 23 #[.val (.int i0), .val (.int i1), .val (.int (1 : Int32)), .val (.int (((i1.toUInt32 >>> ((1 : Int32) &&& 31).toUInt32).toInt32) &&& (15 : Int32))), .unset, .unset, .unset] [(.ref b97)]))
    refine own_step (fun t k => XS.dup X97.here hx rfl (hb hby at_23) rfl rfl k) ?_
    show own_Fin p e below s Q 16 128 (T97.setTop (mkF m 24 #[.val (.int i0), .val (.int i1), .val (.int (1 : Int32)), .val (.int (((i1.toUInt32 >>> ((1 : Int32) &&& 31).toUInt32).toInt32) &&& (15 : Int32))), .unset, .unset, .unset] [(.ref b97), (.ref b97)]))
    refine own_step (fun t k => XS.iconst X97.here hx rfl (hb hby at_24) k) ?_
    show own_Fin p e below s Q 16 128 (T97.setTop (mkF m 25 #[.val (.int i0), .val (.int i1), .val (.int (1 : Int32)), .val (.int (((i1.toUInt32 >>> ((1 : Int32) &&& 31).toUInt32).toInt32) &&& (15 : Int32))), .unset, .unset, .unset] [(.int (0 : Int32)), (.ref b97), (.ref b97)]))
    refine own_step (fun t k => XS.iconst X97.here hx rfl (hb hby at_25) k) ?_
    show own_Fin p e below s Q 16 128 (T97.setTop (mkF m 26 #[.val (.int i0), .val (.int i1), .val (.int (1 : Int32)), .val (.int (((i1.toUInt32 >>> ((1 : Int32) &&& 31).toUInt32).toInt32) &&& (15 : Int32))), .unset, .unset, .unset] [(.int (0 : Int32)), (.int (0 : Int32)), (.ref b97), (.ref b97)]))
    obtain ⟨ca98, Ar98, Sz98, Ht98⟩ := id V97
    have hin98 : ¬ ((0 : Int32) < 0 ∨ ca98.slots.size ≤ ((0 : Int32)).toNatClampNeg) := by rw [Sz98]; exact (by decide)
    obtain ⟨T98, h98, X98, e98, W98, st98⟩ := stI X97 hx hZ e97 Ar98 (j := (0 : Int32)) hin98 (g := (mkF m 26 #[.val (.int i0), .val (.int i1), .val (.int (1 : Int32)), .val (.int (((i1.toUInt32 >>> ((1 : Int32) &&& 31).toUInt32).toInt32) &&& (15 : Int32))), .unset, .unset, .unset] [(.int (0 : Int32)), (.int (0 : Int32)), (.ref b97), (.ref b97)])) rfl rfl (hb hby at_26)
    have V98 : own_AF Z h98 b97 .int 14 (fun i => if i = 0 then (0 : Int32) else (fun _ => 0) i) := own_AFset Ar98 Sz98 Ht98 W98
    obtain ⟨gf98, hgf98⟩ : ∃ g' : Nat → Int32, g' = (fun i => if i = 0 then (0 : Int32) else (fun _ => 0) i) := ⟨_, rfl⟩
    rw [← hgf98] at V98
    have N98 := Fr.snoc X98 N fr97
    have Z098 : n0 ≤ h98.size := Nat.le_trans Z097 (Nat.le_of_eq W98.size.symm)
    refine own_step st98 ?_
    show own_Fin p e below s Q 16 128 (T98.setTop (mkF m 27 #[.val (.int i0), .val (.int i1), .val (.int (1 : Int32)), .val (.int (((i1.toUInt32 >>> ((1 : Int32) &&& 31).toUInt32).toInt32) &&& (15 : Int32))), .unset, .unset, .unset] [(.ref b97)]))
    refine own_step (fun t k => XS.dup X98.here hx rfl (hb hby at_27) rfl rfl k) ?_
    show own_Fin p e below s Q 16 128 (T98.setTop (mkF m 28 #[.val (.int i0), .val (.int i1), .val (.int (1 : Int32)), .val (.int (((i1.toUInt32 >>> ((1 : Int32) &&& 31).toUInt32).toInt32) &&& (15 : Int32))), .unset, .unset, .unset] [(.ref b97), (.ref b97)]))
    refine own_step (fun t k => XS.iconst X98.here hx rfl (hb hby at_28) k) ?_
    show own_Fin p e below s Q 16 128 (T98.setTop (mkF m 29 #[.val (.int i0), .val (.int i1), .val (.int (1 : Int32)), .val (.int (((i1.toUInt32 >>> ((1 : Int32) &&& 31).toUInt32).toInt32) &&& (15 : Int32))), .unset, .unset, .unset] [(.int (1 : Int32)), (.ref b97), (.ref b97)]))
    refine own_step (fun t k => XS.bipush X98.here hx rfl (hb hby at_29) k) ?_
    show own_Fin p e below s Q 16 128 (T98.setTop (mkF m 31 #[.val (.int i0), .val (.int i1), .val (.int (1 : Int32)), .val (.int (((i1.toUInt32 >>> ((1 : Int32) &&& 31).toUInt32).toInt32) &&& (15 : Int32))), .unset, .unset, .unset] [(.int (9 : Int32)), (.int (1 : Int32)), (.ref b97), (.ref b97)]))
    obtain ⟨ca99, Ar99, Sz99, Ht99⟩ := id V98
    have hin99 : ¬ ((1 : Int32) < 0 ∨ ca99.slots.size ≤ ((1 : Int32)).toNatClampNeg) := by rw [Sz99]; exact (by decide)
    obtain ⟨T99, h99, X99, e99, W99, st99⟩ := stI X98 hx hZ e98 Ar99 (j := (1 : Int32)) hin99 (g := (mkF m 31 #[.val (.int i0), .val (.int i1), .val (.int (1 : Int32)), .val (.int (((i1.toUInt32 >>> ((1 : Int32) &&& 31).toUInt32).toInt32) &&& (15 : Int32))), .unset, .unset, .unset] [(.int (9 : Int32)), (.int (1 : Int32)), (.ref b97), (.ref b97)])) rfl rfl (hb hby at_31)
    have V99 : own_AF Z h99 b97 .int 14 (fun i => if i = 1 then (9 : Int32) else gf98 i) := own_AFset Ar99 Sz99 Ht99 W99
    obtain ⟨gf99, hgf99⟩ : ∃ g' : Nat → Int32, g' = (fun i => if i = 1 then (9 : Int32) else gf98 i) := ⟨_, rfl⟩
    rw [← hgf99] at V99
    have N99 := Fr.snoc X99 N98 fr97
    have Z099 : n0 ≤ h99.size := Nat.le_trans Z098 (Nat.le_of_eq W99.size.symm)
    refine own_step st99 ?_
    show own_Fin p e below s Q 16 128 (T99.setTop (mkF m 32 #[.val (.int i0), .val (.int i1), .val (.int (1 : Int32)), .val (.int (((i1.toUInt32 >>> ((1 : Int32) &&& 31).toUInt32).toInt32) &&& (15 : Int32))), .unset, .unset, .unset] [(.ref b97)]))
    refine own_step (fun t k => XS.dup X99.here hx rfl (hb hby at_32) rfl rfl k) ?_
    show own_Fin p e below s Q 16 128 (T99.setTop (mkF m 33 #[.val (.int i0), .val (.int i1), .val (.int (1 : Int32)), .val (.int (((i1.toUInt32 >>> ((1 : Int32) &&& 31).toUInt32).toInt32) &&& (15 : Int32))), .unset, .unset, .unset] [(.ref b97), (.ref b97)]))
    refine own_step (fun t k => XS.iconst X99.here hx rfl (hb hby at_33) k) ?_
    show own_Fin p e below s Q 16 128 (T99.setTop (mkF m 34 #[.val (.int i0), .val (.int i1), .val (.int (1 : Int32)), .val (.int (((i1.toUInt32 >>> ((1 : Int32) &&& 31).toUInt32).toInt32) &&& (15 : Int32))), .unset, .unset, .unset] [(.int (2 : Int32)), (.ref b97), (.ref b97)]))
    refine own_step (fun t k => XS.bipush X99.here hx rfl (hb hby at_34) k) ?_
    show own_Fin p e below s Q 16 128 (T99.setTop (mkF m 36 #[.val (.int i0), .val (.int i1), .val (.int (1 : Int32)), .val (.int (((i1.toUInt32 >>> ((1 : Int32) &&& 31).toUInt32).toInt32) &&& (15 : Int32))), .unset, .unset, .unset] [(.int (10 : Int32)), (.int (2 : Int32)), (.ref b97), (.ref b97)]))
    obtain ⟨ca100, Ar100, Sz100, Ht100⟩ := id V99
    have hin100 : ¬ ((2 : Int32) < 0 ∨ ca100.slots.size ≤ ((2 : Int32)).toNatClampNeg) := by rw [Sz100]; exact (by decide)
    obtain ⟨T100, h100, X100, e100, W100, st100⟩ := stI X99 hx hZ e99 Ar100 (j := (2 : Int32)) hin100 (g := (mkF m 36 #[.val (.int i0), .val (.int i1), .val (.int (1 : Int32)), .val (.int (((i1.toUInt32 >>> ((1 : Int32) &&& 31).toUInt32).toInt32) &&& (15 : Int32))), .unset, .unset, .unset] [(.int (10 : Int32)), (.int (2 : Int32)), (.ref b97), (.ref b97)])) rfl rfl (hb hby at_36)
    have V100 : own_AF Z h100 b97 .int 14 (fun i => if i = 2 then (10 : Int32) else gf99 i) := own_AFset Ar100 Sz100 Ht100 W100
    obtain ⟨gf100, hgf100⟩ : ∃ g' : Nat → Int32, g' = (fun i => if i = 2 then (10 : Int32) else gf99 i) := ⟨_, rfl⟩
    rw [← hgf100] at V100
    have N100 := Fr.snoc X100 N99 fr97
    have Z0100 : n0 ≤ h100.size := Nat.le_trans Z099 (Nat.le_of_eq W100.size.symm)
    refine own_step st100 ?_
    show own_Fin p e below s Q 16 128 (T100.setTop (mkF m 37 #[.val (.int i0), .val (.int i1), .val (.int (1 : Int32)), .val (.int (((i1.toUInt32 >>> ((1 : Int32) &&& 31).toUInt32).toInt32) &&& (15 : Int32))), .unset, .unset, .unset] [(.ref b97)]))
    refine own_step (fun t k => XS.dup X100.here hx rfl (hb hby at_37) rfl rfl k) ?_
    show own_Fin p e below s Q 16 128 (T100.setTop (mkF m 38 #[.val (.int i0), .val (.int i1), .val (.int (1 : Int32)), .val (.int (((i1.toUInt32 >>> ((1 : Int32) &&& 31).toUInt32).toInt32) &&& (15 : Int32))), .unset, .unset, .unset] [(.ref b97), (.ref b97)]))
    refine own_step (fun t k => XS.iconst X100.here hx rfl (hb hby at_38) k) ?_
    show own_Fin p e below s Q 16 128 (T100.setTop (mkF m 39 #[.val (.int i0), .val (.int i1), .val (.int (1 : Int32)), .val (.int (((i1.toUInt32 >>> ((1 : Int32) &&& 31).toUInt32).toInt32) &&& (15 : Int32))), .unset, .unset, .unset] [(.int (3 : Int32)), (.ref b97), (.ref b97)]))
    refine own_step (fun t k => XS.bipush X100.here hx rfl (hb hby at_39) k) ?_
    show own_Fin p e below s Q 16 128 (T100.setTop (mkF m 41 #[.val (.int i0), .val (.int i1), .val (.int (1 : Int32)), .val (.int (((i1.toUInt32 >>> ((1 : Int32) &&& 31).toUInt32).toInt32) &&& (15 : Int32))), .unset, .unset, .unset] [(.int (13 : Int32)), (.int (3 : Int32)), (.ref b97), (.ref b97)]))
    obtain ⟨ca101, Ar101, Sz101, Ht101⟩ := id V100
    have hin101 : ¬ ((3 : Int32) < 0 ∨ ca101.slots.size ≤ ((3 : Int32)).toNatClampNeg) := by rw [Sz101]; exact (by decide)
    obtain ⟨T101, h101, X101, e101, W101, st101⟩ := stI X100 hx hZ e100 Ar101 (j := (3 : Int32)) hin101 (g := (mkF m 41 #[.val (.int i0), .val (.int i1), .val (.int (1 : Int32)), .val (.int (((i1.toUInt32 >>> ((1 : Int32) &&& 31).toUInt32).toInt32) &&& (15 : Int32))), .unset, .unset, .unset] [(.int (13 : Int32)), (.int (3 : Int32)), (.ref b97), (.ref b97)])) rfl rfl (hb hby at_41)
    have V101 : own_AF Z h101 b97 .int 14 (fun i => if i = 3 then (13 : Int32) else gf100 i) := own_AFset Ar101 Sz101 Ht101 W101
    obtain ⟨gf101, hgf101⟩ : ∃ g' : Nat → Int32, g' = (fun i => if i = 3 then (13 : Int32) else gf100 i) := ⟨_, rfl⟩
    rw [← hgf101] at V101
    have N101 := Fr.snoc X101 N100 fr97
    have Z0101 : n0 ≤ h101.size := Nat.le_trans Z0100 (Nat.le_of_eq W101.size.symm)
    refine own_step st101 ?_
    show own_Fin p e below s Q 16 128 (T101.setTop (mkF m 42 #[.val (.int i0), .val (.int i1), .val (.int (1 : Int32)), .val (.int (((i1.toUInt32 >>> ((1 : Int32) &&& 31).toUInt32).toInt32) &&& (15 : Int32))), .unset, .unset, .unset] [(.ref b97)]))
    refine own_step (fun t k => XS.dup X101.here hx rfl (hb hby at_42) rfl rfl k) ?_
    show own_Fin p e below s Q 16 128 (T101.setTop (mkF m 43 #[.val (.int i0), .val (.int i1), .val (.int (1 : Int32)), .val (.int (((i1.toUInt32 >>> ((1 : Int32) &&& 31).toUInt32).toInt32) &&& (15 : Int32))), .unset, .unset, .unset] [(.ref b97), (.ref b97)]))
    refine own_step (fun t k => XS.iconst X101.here hx rfl (hb hby at_43) k) ?_
    show own_Fin p e below s Q 16 128 (T101.setTop (mkF m 44 #[.val (.int i0), .val (.int i1), .val (.int (1 : Int32)), .val (.int (((i1.toUInt32 >>> ((1 : Int32) &&& 31).toUInt32).toInt32) &&& (15 : Int32))), .unset, .unset, .unset] [(.int (4 : Int32)), (.ref b97), (.ref b97)]))
    refine own_step (fun t k => XS.bipush X101.here hx rfl (hb hby at_44) k) ?_
    show own_Fin p e below s Q 16 128 (T101.setTop (mkF m 46 #[.val (.int i0), .val (.int i1), .val (.int (1 : Int32)), .val (.int (((i1.toUInt32 >>> ((1 : Int32) &&& 31).toUInt32).toInt32) &&& (15 : Int32))), .unset, .unset, .unset] [(.int (32 : Int32)), (.int (4 : Int32)), (.ref b97), (.ref b97)]))
    obtain ⟨ca102, Ar102, Sz102, Ht102⟩ := id V101
    have hin102 : ¬ ((4 : Int32) < 0 ∨ ca102.slots.size ≤ ((4 : Int32)).toNatClampNeg) := by rw [Sz102]; exact (by decide)
    obtain ⟨T102, h102, X102, e102, W102, st102⟩ := stI X101 hx hZ e101 Ar102 (j := (4 : Int32)) hin102 (g := (mkF m 46 #[.val (.int i0), .val (.int i1), .val (.int (1 : Int32)), .val (.int (((i1.toUInt32 >>> ((1 : Int32) &&& 31).toUInt32).toInt32) &&& (15 : Int32))), .unset, .unset, .unset] [(.int (32 : Int32)), (.int (4 : Int32)), (.ref b97), (.ref b97)])) rfl rfl (hb hby at_46)
    have V102 : own_AF Z h102 b97 .int 14 (fun i => if i = 4 then (32 : Int32) else gf101 i) := own_AFset Ar102 Sz102 Ht102 W102
    obtain ⟨gf102, hgf102⟩ : ∃ g' : Nat → Int32, g' = (fun i => if i = 4 then (32 : Int32) else gf101 i) := ⟨_, rfl⟩
    rw [← hgf102] at V102
    have N102 := Fr.snoc X102 N101 fr97
    have Z0102 : n0 ≤ h102.size := Nat.le_trans Z0101 (Nat.le_of_eq W102.size.symm)
    refine own_step st102 ?_
    show own_Fin p e below s Q 16 128 (T102.setTop (mkF m 47 #[.val (.int i0), .val (.int i1), .val (.int (1 : Int32)), .val (.int (((i1.toUInt32 >>> ((1 : Int32) &&& 31).toUInt32).toInt32) &&& (15 : Int32))), .unset, .unset, .unset] [(.ref b97)]))
    refine own_step (fun t k => XS.dup X102.here hx rfl (hb hby at_47) rfl rfl k) ?_
    show own_Fin p e below s Q 16 128 (T102.setTop (mkF m 48 #[.val (.int i0), .val (.int i1), .val (.int (1 : Int32)), .val (.int (((i1.toUInt32 >>> ((1 : Int32) &&& 31).toUInt32).toInt32) &&& (15 : Int32))), .unset, .unset, .unset] [(.ref b97), (.ref b97)]))
    refine own_step (fun t k => XS.iconst X102.here hx rfl (hb hby at_48) k) ?_
    show own_Fin p e below s Q 16 128 (T102.setTop (mkF m 49 #[.val (.int i0), .val (.int i1), .val (.int (1 : Int32)), .val (.int (((i1.toUInt32 >>> ((1 : Int32) &&& 31).toUInt32).toInt32) &&& (15 : Int32))), .unset, .unset, .unset] [(.int (5 : Int32)), (.ref b97), (.ref b97)]))
    refine own_step (X102.ldcInt hx hown (mvT hZ (hw _ (List.mem_of_getElem? (i := 1) rfl))) (g := (mkF m 49 #[.val (.int i0), .val (.int i1), .val (.int (1 : Int32)), .val (.int (((i1.toUInt32 >>> ((1 : Int32) &&& 31).toUInt32).toInt32) &&& (15 : Int32))), .unset, .unset, .unset] [(.int (5 : Int32)), (.ref b97), (.ref b97)])) rfl (hb hby at_49)) ?_
    show own_Fin p e below s Q 16 128 (T102.setTop (mkF m 51 #[.val (.int i0), .val (.int i1), .val (.int (1 : Int32)), .val (.int (((i1.toUInt32 >>> ((1 : Int32) &&& 31).toUInt32).toInt32) &&& (15 : Int32))), .unset, .unset, .unset] [(.int (55296 : Int32)), (.int (5 : Int32)), (.ref b97), (.ref b97)]))
    obtain ⟨ca103, Ar103, Sz103, Ht103⟩ := id V102
    have hin103 : ¬ ((5 : Int32) < 0 ∨ ca103.slots.size ≤ ((5 : Int32)).toNatClampNeg) := by rw [Sz103]; exact (by decide)
    obtain ⟨T103, h103, X103, e103, W103, st103⟩ := stI X102 hx hZ e102 Ar103 (j := (5 : Int32)) hin103 (g := (mkF m 51 #[.val (.int i0), .val (.int i1), .val (.int (1 : Int32)), .val (.int (((i1.toUInt32 >>> ((1 : Int32) &&& 31).toUInt32).toInt32) &&& (15 : Int32))), .unset, .unset, .unset] [(.int (55296 : Int32)), (.int (5 : Int32)), (.ref b97), (.ref b97)])) rfl rfl (hb hby at_51)
    have V103 : own_AF Z h103 b97 .int 14 (fun i => if i = 5 then (55296 : Int32) else gf102 i) := own_AFset Ar103 Sz103 Ht103 W103
    obtain ⟨gf103, hgf103⟩ : ∃ g' : Nat → Int32, g' = (fun i => if i = 5 then (55296 : Int32) else gf102 i) := ⟨_, rfl⟩
    rw [← hgf103] at V103
    have N103 := Fr.snoc X103 N102 fr97
    have Z0103 : n0 ≤ h103.size := Nat.le_trans Z0102 (Nat.le_of_eq W103.size.symm)
    refine own_step st103 ?_
    show own_Fin p e below s Q 16 128 (T103.setTop (mkF m 52 #[.val (.int i0), .val (.int i1), .val (.int (1 : Int32)), .val (.int (((i1.toUInt32 >>> ((1 : Int32) &&& 31).toUInt32).toInt32) &&& (15 : Int32))), .unset, .unset, .unset] [(.ref b97)]))
    refine own_step (fun t k => XS.dup X103.here hx rfl (hb hby at_52) rfl rfl k) ?_
    show own_Fin p e below s Q 16 128 (T103.setTop (mkF m 53 #[.val (.int i0), .val (.int i1), .val (.int (1 : Int32)), .val (.int (((i1.toUInt32 >>> ((1 : Int32) &&& 31).toUInt32).toInt32) &&& (15 : Int32))), .unset, .unset, .unset] [(.ref b97), (.ref b97)]))
    refine own_step (fun t k => XS.bipush X103.here hx rfl (hb hby at_53) k) ?_
    show own_Fin p e below s Q 16 128 (T103.setTop (mkF m 55 #[.val (.int i0), .val (.int i1), .val (.int (1 : Int32)), .val (.int (((i1.toUInt32 >>> ((1 : Int32) &&& 31).toUInt32).toInt32) &&& (15 : Int32))), .unset, .unset, .unset] [(.int (6 : Int32)), (.ref b97), (.ref b97)]))
    refine own_step (X103.ldcInt hx hown (mvT hZ (hw _ (List.mem_of_getElem? (i := 2) rfl))) (g := (mkF m 55 #[.val (.int i0), .val (.int i1), .val (.int (1 : Int32)), .val (.int (((i1.toUInt32 >>> ((1 : Int32) &&& 31).toUInt32).toInt32) &&& (15 : Int32))), .unset, .unset, .unset] [(.int (6 : Int32)), (.ref b97), (.ref b97)])) rfl (hb hby at_55)) ?_
    show own_Fin p e below s Q 16 128 (T103.setTop (mkF m 57 #[.val (.int i0), .val (.int i1), .val (.int (1 : Int32)), .val (.int (((i1.toUInt32 >>> ((1 : Int32) &&& 31).toUInt32).toInt32) &&& (15 : Int32))), .unset, .unset, .unset] [(.int (57343 : Int32)), (.int (6 : Int32)), (.ref b97), (.ref b97)]))
    obtain ⟨ca104, Ar104, Sz104, Ht104⟩ := id V103
    have hin104 : ¬ ((6 : Int32) < 0 ∨ ca104.slots.size ≤ ((6 : Int32)).toNatClampNeg) := by rw [Sz104]; exact (by decide)
    obtain ⟨T104, h104, X104, e104, W104, st104⟩ := stI X103 hx hZ e103 Ar104 (j := (6 : Int32)) hin104 (g := (mkF m 57 #[.val (.int i0), .val (.int i1), .val (.int (1 : Int32)), .val (.int (((i1.toUInt32 >>> ((1 : Int32) &&& 31).toUInt32).toInt32) &&& (15 : Int32))), .unset, .unset, .unset] [(.int (57343 : Int32)), (.int (6 : Int32)), (.ref b97), (.ref b97)])) rfl rfl (hb hby at_57)
    have V104 : own_AF Z h104 b97 .int 14 (fun i => if i = 6 then (57343 : Int32) else gf103 i) := own_AFset Ar104 Sz104 Ht104 W104
    obtain ⟨gf104, hgf104⟩ : ∃ g' : Nat → Int32, g' = (fun i => if i = 6 then (57343 : Int32) else gf103 i) := ⟨_, rfl⟩
    rw [← hgf104] at V104
    have N104 := Fr.snoc X104 N103 fr97
    have Z0104 : n0 ≤ h104.size := Nat.le_trans Z0103 (Nat.le_of_eq W104.size.symm)
    refine own_step st104 ?_
    show own_Fin p e below s Q 16 128 (T104.setTop (mkF m 58 #[.val (.int i0), .val (.int i1), .val (.int (1 : Int32)), .val (.int (((i1.toUInt32 >>> ((1 : Int32) &&& 31).toUInt32).toInt32) &&& (15 : Int32))), .unset, .unset, .unset] [(.ref b97)]))
    refine own_step (fun t k => XS.dup X104.here hx rfl (hb hby at_58) rfl rfl k) ?_
    show own_Fin p e below s Q 16 128 (T104.setTop (mkF m 59 #[.val (.int i0), .val (.int i1), .val (.int (1 : Int32)), .val (.int (((i1.toUInt32 >>> ((1 : Int32) &&& 31).toUInt32).toInt32) &&& (15 : Int32))), .unset, .unset, .unset] [(.ref b97), (.ref b97)]))
    refine own_step (fun t k => XS.bipush X104.here hx rfl (hb hby at_59) k) ?_
    show own_Fin p e below s Q 16 128 (T104.setTop (mkF m 61 #[.val (.int i0), .val (.int i1), .val (.int (1 : Int32)), .val (.int (((i1.toUInt32 >>> ((1 : Int32) &&& 31).toUInt32).toInt32) &&& (15 : Int32))), .unset, .unset, .unset] [(.int (7 : Int32)), (.ref b97), (.ref b97)]))
    refine own_step (X104.ldcInt hx hown (mvT hZ (hw _ (List.mem_of_getElem? (i := 3) rfl))) (g := (mkF m 61 #[.val (.int i0), .val (.int i1), .val (.int (1 : Int32)), .val (.int (((i1.toUInt32 >>> ((1 : Int32) &&& 31).toUInt32).toInt32) &&& (15 : Int32))), .unset, .unset, .unset] [(.int (7 : Int32)), (.ref b97), (.ref b97)])) rfl (hb hby at_61)) ?_
    show own_Fin p e below s Q 16 128 (T104.setTop (mkF m 63 #[.val (.int i0), .val (.int i1), .val (.int (1 : Int32)), .val (.int (((i1.toUInt32 >>> ((1 : Int32) &&& 31).toUInt32).toInt32) &&& (15 : Int32))), .unset, .unset, .unset] [(.int (57344 : Int32)), (.int (7 : Int32)), (.ref b97), (.ref b97)]))
    obtain ⟨ca105, Ar105, Sz105, Ht105⟩ := id V104
    have hin105 : ¬ ((7 : Int32) < 0 ∨ ca105.slots.size ≤ ((7 : Int32)).toNatClampNeg) := by rw [Sz105]; exact (by decide)
    obtain ⟨T105, h105, X105, e105, W105, st105⟩ := stI X104 hx hZ e104 Ar105 (j := (7 : Int32)) hin105 (g := (mkF m 63 #[.val (.int i0), .val (.int i1), .val (.int (1 : Int32)), .val (.int (((i1.toUInt32 >>> ((1 : Int32) &&& 31).toUInt32).toInt32) &&& (15 : Int32))), .unset, .unset, .unset] [(.int (57344 : Int32)), (.int (7 : Int32)), (.ref b97), (.ref b97)])) rfl rfl (hb hby at_63)
    have V105 : own_AF Z h105 b97 .int 14 (fun i => if i = 7 then (57344 : Int32) else gf104 i) := own_AFset Ar105 Sz105 Ht105 W105
    obtain ⟨gf105, hgf105⟩ : ∃ g' : Nat → Int32, g' = (fun i => if i = 7 then (57344 : Int32) else gf104 i) := ⟨_, rfl⟩
    rw [← hgf105] at V105
    have N105 := Fr.snoc X105 N104 fr97
    have Z0105 : n0 ≤ h105.size := Nat.le_trans Z0104 (Nat.le_of_eq W105.size.symm)
    refine own_step st105 ?_
    show own_Fin p e below s Q 16 128 (T105.setTop (mkF m 64 #[.val (.int i0), .val (.int i1), .val (.int (1 : Int32)), .val (.int (((i1.toUInt32 >>> ((1 : Int32) &&& 31).toUInt32).toInt32) &&& (15 : Int32))), .unset, .unset, .unset] [(.ref b97)]))
    refine own_step (fun t k => XS.dup X105.here hx rfl (hb hby at_64) rfl rfl k) ?_
    show own_Fin p e below s Q 16 128 (T105.setTop (mkF m 65 #[.val (.int i0), .val (.int i1), .val (.int (1 : Int32)), .val (.int (((i1.toUInt32 >>> ((1 : Int32) &&& 31).toUInt32).toInt32) &&& (15 : Int32))), .unset, .unset, .unset] [(.ref b97), (.ref b97)]))
    refine own_step (fun t k => XS.bipush X105.here hx rfl (hb hby at_65) k) ?_
    show own_Fin p e below s Q 16 128 (T105.setTop (mkF m 67 #[.val (.int i0), .val (.int i1), .val (.int (1 : Int32)), .val (.int (((i1.toUInt32 >>> ((1 : Int32) &&& 31).toUInt32).toInt32) &&& (15 : Int32))), .unset, .unset, .unset] [(.int (8 : Int32)), (.ref b97), (.ref b97)]))
    refine own_step (X105.ldcInt hx hown (mvT hZ (hw _ (List.mem_of_getElem? (i := 4) rfl))) (g := (mkF m 67 #[.val (.int i0), .val (.int i1), .val (.int (1 : Int32)), .val (.int (((i1.toUInt32 >>> ((1 : Int32) &&& 31).toUInt32).toInt32) &&& (15 : Int32))), .unset, .unset, .unset] [(.int (8 : Int32)), (.ref b97), (.ref b97)])) rfl (hb hby at_67)) ?_
    show own_Fin p e below s Q 16 128 (T105.setTop (mkF m 69 #[.val (.int i0), .val (.int i1), .val (.int (1 : Int32)), .val (.int (((i1.toUInt32 >>> ((1 : Int32) &&& 31).toUInt32).toInt32) &&& (15 : Int32))), .unset, .unset, .unset] [(.int (65533 : Int32)), (.int (8 : Int32)), (.ref b97), (.ref b97)]))
    obtain ⟨ca106, Ar106, Sz106, Ht106⟩ := id V105
    have hin106 : ¬ ((8 : Int32) < 0 ∨ ca106.slots.size ≤ ((8 : Int32)).toNatClampNeg) := by rw [Sz106]; exact (by decide)
    obtain ⟨T106, h106, X106, e106, W106, st106⟩ := stI X105 hx hZ e105 Ar106 (j := (8 : Int32)) hin106 (g := (mkF m 69 #[.val (.int i0), .val (.int i1), .val (.int (1 : Int32)), .val (.int (((i1.toUInt32 >>> ((1 : Int32) &&& 31).toUInt32).toInt32) &&& (15 : Int32))), .unset, .unset, .unset] [(.int (65533 : Int32)), (.int (8 : Int32)), (.ref b97), (.ref b97)])) rfl rfl (hb hby at_69)
    have V106 : own_AF Z h106 b97 .int 14 (fun i => if i = 8 then (65533 : Int32) else gf105 i) := own_AFset Ar106 Sz106 Ht106 W106
    obtain ⟨gf106, hgf106⟩ : ∃ g' : Nat → Int32, g' = (fun i => if i = 8 then (65533 : Int32) else gf105 i) := ⟨_, rfl⟩
    rw [← hgf106] at V106
    have N106 := Fr.snoc X106 N105 fr97
    have Z0106 : n0 ≤ h106.size := Nat.le_trans Z0105 (Nat.le_of_eq W106.size.symm)
    refine own_step st106 ?_
    show own_Fin p e below s Q 16 128 (T106.setTop (mkF m 70 #[.val (.int i0), .val (.int i1), .val (.int (1 : Int32)), .val (.int (((i1.toUInt32 >>> ((1 : Int32) &&& 31).toUInt32).toInt32) &&& (15 : Int32))), .unset, .unset, .unset] [(.ref b97)]))
    refine own_step (fun t k => XS.dup X106.here hx rfl (hb hby at_70) rfl rfl k) ?_
    show own_Fin p e below s Q 16 128 (T106.setTop (mkF m 71 #[.val (.int i0), .val (.int i1), .val (.int (1 : Int32)), .val (.int (((i1.toUInt32 >>> ((1 : Int32) &&& 31).toUInt32).toInt32) &&& (15 : Int32))), .unset, .unset, .unset] [(.ref b97), (.ref b97)]))
    refine own_step (fun t k => XS.bipush X106.here hx rfl (hb hby at_71) k) ?_
    show own_Fin p e below s Q 16 128 (T106.setTop (mkF m 73 #[.val (.int i0), .val (.int i1), .val (.int (1 : Int32)), .val (.int (((i1.toUInt32 >>> ((1 : Int32) &&& 31).toUInt32).toInt32) &&& (15 : Int32))), .unset, .unset, .unset] [(.int (9 : Int32)), (.ref b97), (.ref b97)]))
    refine own_step (X106.ldcInt hx hown (mvT hZ (hw _ (List.mem_of_getElem? (i := 5) rfl))) (g := (mkF m 73 #[.val (.int i0), .val (.int i1), .val (.int (1 : Int32)), .val (.int (((i1.toUInt32 >>> ((1 : Int32) &&& 31).toUInt32).toInt32) &&& (15 : Int32))), .unset, .unset, .unset] [(.int (9 : Int32)), (.ref b97), (.ref b97)])) rfl (hb hby at_73)) ?_
    show own_Fin p e below s Q 16 128 (T106.setTop (mkF m 75 #[.val (.int i0), .val (.int i1), .val (.int (1 : Int32)), .val (.int (((i1.toUInt32 >>> ((1 : Int32) &&& 31).toUInt32).toInt32) &&& (15 : Int32))), .unset, .unset, .unset] [(.int (65534 : Int32)), (.int (9 : Int32)), (.ref b97), (.ref b97)]))
    obtain ⟨ca107, Ar107, Sz107, Ht107⟩ := id V106
    have hin107 : ¬ ((9 : Int32) < 0 ∨ ca107.slots.size ≤ ((9 : Int32)).toNatClampNeg) := by rw [Sz107]; exact (by decide)
    obtain ⟨T107, h107, X107, e107, W107, st107⟩ := stI X106 hx hZ e106 Ar107 (j := (9 : Int32)) hin107 (g := (mkF m 75 #[.val (.int i0), .val (.int i1), .val (.int (1 : Int32)), .val (.int (((i1.toUInt32 >>> ((1 : Int32) &&& 31).toUInt32).toInt32) &&& (15 : Int32))), .unset, .unset, .unset] [(.int (65534 : Int32)), (.int (9 : Int32)), (.ref b97), (.ref b97)])) rfl rfl (hb hby at_75)
    have V107 : own_AF Z h107 b97 .int 14 (fun i => if i = 9 then (65534 : Int32) else gf106 i) := own_AFset Ar107 Sz107 Ht107 W107
    obtain ⟨gf107, hgf107⟩ : ∃ g' : Nat → Int32, g' = (fun i => if i = 9 then (65534 : Int32) else gf106 i) := ⟨_, rfl⟩
    rw [← hgf107] at V107
    have N107 := Fr.snoc X107 N106 fr97
    have Z0107 : n0 ≤ h107.size := Nat.le_trans Z0106 (Nat.le_of_eq W107.size.symm)
    refine own_step st107 ?_
    show own_Fin p e below s Q 16 128 (T107.setTop (mkF m 76 #[.val (.int i0), .val (.int i1), .val (.int (1 : Int32)), .val (.int (((i1.toUInt32 >>> ((1 : Int32) &&& 31).toUInt32).toInt32) &&& (15 : Int32))), .unset, .unset, .unset] [(.ref b97)]))
    refine own_step (fun t k => XS.dup X107.here hx rfl (hb hby at_76) rfl rfl k) ?_
    show own_Fin p e below s Q 16 128 (T107.setTop (mkF m 77 #[.val (.int i0), .val (.int i1), .val (.int (1 : Int32)), .val (.int (((i1.toUInt32 >>> ((1 : Int32) &&& 31).toUInt32).toInt32) &&& (15 : Int32))), .unset, .unset, .unset] [(.ref b97), (.ref b97)]))
    refine own_step (fun t k => XS.bipush X107.here hx rfl (hb hby at_77) k) ?_
    show own_Fin p e below s Q 16 128 (T107.setTop (mkF m 79 #[.val (.int i0), .val (.int i1), .val (.int (1 : Int32)), .val (.int (((i1.toUInt32 >>> ((1 : Int32) &&& 31).toUInt32).toInt32) &&& (15 : Int32))), .unset, .unset, .unset] [(.int (10 : Int32)), (.ref b97), (.ref b97)]))
    refine own_step (X107.ldcInt hx hown (mvT hZ (hw _ (List.mem_of_getElem? (i := 6) rfl))) (g := (mkF m 79 #[.val (.int i0), .val (.int i1), .val (.int (1 : Int32)), .val (.int (((i1.toUInt32 >>> ((1 : Int32) &&& 31).toUInt32).toInt32) &&& (15 : Int32))), .unset, .unset, .unset] [(.int (10 : Int32)), (.ref b97), (.ref b97)])) rfl (hb hby at_79)) ?_
    show own_Fin p e below s Q 16 128 (T107.setTop (mkF m 81 #[.val (.int i0), .val (.int i1), .val (.int (1 : Int32)), .val (.int (((i1.toUInt32 >>> ((1 : Int32) &&& 31).toUInt32).toInt32) &&& (15 : Int32))), .unset, .unset, .unset] [(.int (65535 : Int32)), (.int (10 : Int32)), (.ref b97), (.ref b97)]))
    obtain ⟨ca108, Ar108, Sz108, Ht108⟩ := id V107
    have hin108 : ¬ ((10 : Int32) < 0 ∨ ca108.slots.size ≤ ((10 : Int32)).toNatClampNeg) := by rw [Sz108]; exact (by decide)
    obtain ⟨T108, h108, X108, e108, W108, st108⟩ := stI X107 hx hZ e107 Ar108 (j := (10 : Int32)) hin108 (g := (mkF m 81 #[.val (.int i0), .val (.int i1), .val (.int (1 : Int32)), .val (.int (((i1.toUInt32 >>> ((1 : Int32) &&& 31).toUInt32).toInt32) &&& (15 : Int32))), .unset, .unset, .unset] [(.int (65535 : Int32)), (.int (10 : Int32)), (.ref b97), (.ref b97)])) rfl rfl (hb hby at_81)
    have V108 : own_AF Z h108 b97 .int 14 (fun i => if i = 10 then (65535 : Int32) else gf107 i) := own_AFset Ar108 Sz108 Ht108 W108
    obtain ⟨gf108, hgf108⟩ : ∃ g' : Nat → Int32, g' = (fun i => if i = 10 then (65535 : Int32) else gf107 i) := ⟨_, rfl⟩
    rw [← hgf108] at V108
    have N108 := Fr.snoc X108 N107 fr97
    have Z0108 : n0 ≤ h108.size := Nat.le_trans Z0107 (Nat.le_of_eq W108.size.symm)
    refine own_step st108 ?_
    show own_Fin p e below s Q 16 128 (T108.setTop (mkF m 82 #[.val (.int i0), .val (.int i1), .val (.int (1 : Int32)), .val (.int (((i1.toUInt32 >>> ((1 : Int32) &&& 31).toUInt32).toInt32) &&& (15 : Int32))), .unset, .unset, .unset] [(.ref b97)]))
    refine own_step (fun t k => XS.dup X108.here hx rfl (hb hby at_82) rfl rfl k) ?_
    show own_Fin p e below s Q 16 128 (T108.setTop (mkF m 83 #[.val (.int i0), .val (.int i1), .val (.int (1 : Int32)), .val (.int (((i1.toUInt32 >>> ((1 : Int32) &&& 31).toUInt32).toInt32) &&& (15 : Int32))), .unset, .unset, .unset] [(.ref b97), (.ref b97)]))
    refine own_step (fun t k => XS.bipush X108.here hx rfl (hb hby at_83) k) ?_
    show own_Fin p e below s Q 16 128 (T108.setTop (mkF m 85 #[.val (.int i0), .val (.int i1), .val (.int (1 : Int32)), .val (.int (((i1.toUInt32 >>> ((1 : Int32) &&& 31).toUInt32).toInt32) &&& (15 : Int32))), .unset, .unset, .unset] [(.int (11 : Int32)), (.ref b97), (.ref b97)]))
    refine own_step (X108.ldcInt hx hown (mvT hZ (hw _ (List.mem_of_getElem? (i := 7) rfl))) (g := (mkF m 85 #[.val (.int i0), .val (.int i1), .val (.int (1 : Int32)), .val (.int (((i1.toUInt32 >>> ((1 : Int32) &&& 31).toUInt32).toInt32) &&& (15 : Int32))), .unset, .unset, .unset] [(.int (11 : Int32)), (.ref b97), (.ref b97)])) rfl (hb hby at_85)) ?_
    show own_Fin p e below s Q 16 128 (T108.setTop (mkF m 87 #[.val (.int i0), .val (.int i1), .val (.int (1 : Int32)), .val (.int (((i1.toUInt32 >>> ((1 : Int32) &&& 31).toUInt32).toInt32) &&& (15 : Int32))), .unset, .unset, .unset] [(.int (65536 : Int32)), (.int (11 : Int32)), (.ref b97), (.ref b97)]))
    obtain ⟨ca109, Ar109, Sz109, Ht109⟩ := id V108
    have hin109 : ¬ ((11 : Int32) < 0 ∨ ca109.slots.size ≤ ((11 : Int32)).toNatClampNeg) := by rw [Sz109]; exact (by decide)
    obtain ⟨T109, h109, X109, e109, W109, st109⟩ := stI X108 hx hZ e108 Ar109 (j := (11 : Int32)) hin109 (g := (mkF m 87 #[.val (.int i0), .val (.int i1), .val (.int (1 : Int32)), .val (.int (((i1.toUInt32 >>> ((1 : Int32) &&& 31).toUInt32).toInt32) &&& (15 : Int32))), .unset, .unset, .unset] [(.int (65536 : Int32)), (.int (11 : Int32)), (.ref b97), (.ref b97)])) rfl rfl (hb hby at_87)
    have V109 : own_AF Z h109 b97 .int 14 (fun i => if i = 11 then (65536 : Int32) else gf108 i) := own_AFset Ar109 Sz109 Ht109 W109
    obtain ⟨gf109, hgf109⟩ : ∃ g' : Nat → Int32, g' = (fun i => if i = 11 then (65536 : Int32) else gf108 i) := ⟨_, rfl⟩
    rw [← hgf109] at V109
    have N109 := Fr.snoc X109 N108 fr97
    have Z0109 : n0 ≤ h109.size := Nat.le_trans Z0108 (Nat.le_of_eq W109.size.symm)
    refine own_step st109 ?_
    show own_Fin p e below s Q 16 128 (T109.setTop (mkF m 88 #[.val (.int i0), .val (.int i1), .val (.int (1 : Int32)), .val (.int (((i1.toUInt32 >>> ((1 : Int32) &&& 31).toUInt32).toInt32) &&& (15 : Int32))), .unset, .unset, .unset] [(.ref b97)]))
    refine own_step (fun t k => XS.dup X109.here hx rfl (hb hby at_88) rfl rfl k) ?_
    show own_Fin p e below s Q 16 128 (T109.setTop (mkF m 89 #[.val (.int i0), .val (.int i1), .val (.int (1 : Int32)), .val (.int (((i1.toUInt32 >>> ((1 : Int32) &&& 31).toUInt32).toInt32) &&& (15 : Int32))), .unset, .unset, .unset] [(.ref b97), (.ref b97)]))
    refine own_step (fun t k => XS.bipush X109.here hx rfl (hb hby at_89) k) ?_
    show own_Fin p e below s Q 16 128 (T109.setTop (mkF m 91 #[.val (.int i0), .val (.int i1), .val (.int (1 : Int32)), .val (.int (((i1.toUInt32 >>> ((1 : Int32) &&& 31).toUInt32).toInt32) &&& (15 : Int32))), .unset, .unset, .unset] [(.int (12 : Int32)), (.ref b97), (.ref b97)]))
    refine own_step (X109.ldcInt hx hown (mvT hZ (hw _ (List.mem_of_getElem? (i := 8) rfl))) (g := (mkF m 91 #[.val (.int i0), .val (.int i1), .val (.int (1 : Int32)), .val (.int (((i1.toUInt32 >>> ((1 : Int32) &&& 31).toUInt32).toInt32) &&& (15 : Int32))), .unset, .unset, .unset] [(.int (12 : Int32)), (.ref b97), (.ref b97)])) rfl (hb hby at_91)) ?_
    show own_Fin p e below s Q 16 128 (T109.setTop (mkF m 93 #[.val (.int i0), .val (.int i1), .val (.int (1 : Int32)), .val (.int (((i1.toUInt32 >>> ((1 : Int32) &&& 31).toUInt32).toInt32) &&& (15 : Int32))), .unset, .unset, .unset] [(.int (1114111 : Int32)), (.int (12 : Int32)), (.ref b97), (.ref b97)]))
    obtain ⟨ca110, Ar110, Sz110, Ht110⟩ := id V109
    have hin110 : ¬ ((12 : Int32) < 0 ∨ ca110.slots.size ≤ ((12 : Int32)).toNatClampNeg) := by rw [Sz110]; exact (by decide)
    obtain ⟨T110, h110, X110, e110, W110, st110⟩ := stI X109 hx hZ e109 Ar110 (j := (12 : Int32)) hin110 (g := (mkF m 93 #[.val (.int i0), .val (.int i1), .val (.int (1 : Int32)), .val (.int (((i1.toUInt32 >>> ((1 : Int32) &&& 31).toUInt32).toInt32) &&& (15 : Int32))), .unset, .unset, .unset] [(.int (1114111 : Int32)), (.int (12 : Int32)), (.ref b97), (.ref b97)])) rfl rfl (hb hby at_93)
    have V110 : own_AF Z h110 b97 .int 14 (fun i => if i = 12 then (1114111 : Int32) else gf109 i) := own_AFset Ar110 Sz110 Ht110 W110
    obtain ⟨gf110, hgf110⟩ : ∃ g' : Nat → Int32, g' = (fun i => if i = 12 then (1114111 : Int32) else gf109 i) := ⟨_, rfl⟩
    rw [← hgf110] at V110
    have N110 := Fr.snoc X110 N109 fr97
    have Z0110 : n0 ≤ h110.size := Nat.le_trans Z0109 (Nat.le_of_eq W110.size.symm)
    refine own_step st110 ?_
    show own_Fin p e below s Q 16 128 (T110.setTop (mkF m 94 #[.val (.int i0), .val (.int i1), .val (.int (1 : Int32)), .val (.int (((i1.toUInt32 >>> ((1 : Int32) &&& 31).toUInt32).toInt32) &&& (15 : Int32))), .unset, .unset, .unset] [(.ref b97)]))
    refine own_step (fun t k => XS.dup X110.here hx rfl (hb hby at_94) rfl rfl k) ?_
    show own_Fin p e below s Q 16 128 (T110.setTop (mkF m 95 #[.val (.int i0), .val (.int i1), .val (.int (1 : Int32)), .val (.int (((i1.toUInt32 >>> ((1 : Int32) &&& 31).toUInt32).toInt32) &&& (15 : Int32))), .unset, .unset, .unset] [(.ref b97), (.ref b97)]))
    refine own_step (fun t k => XS.bipush X110.here hx rfl (hb hby at_95) k) ?_
    show own_Fin p e below s Q 16 128 (T110.setTop (mkF m 97 #[.val (.int i0), .val (.int i1), .val (.int (1 : Int32)), .val (.int (((i1.toUInt32 >>> ((1 : Int32) &&& 31).toUInt32).toInt32) &&& (15 : Int32))), .unset, .unset, .unset] [(.int (13 : Int32)), (.ref b97), (.ref b97)]))
    refine own_step (X110.ldcInt hx hown (mvT hZ (hw _ (List.mem_of_getElem? (i := 9) rfl))) (g := (mkF m 97 #[.val (.int i0), .val (.int i1), .val (.int (1 : Int32)), .val (.int (((i1.toUInt32 >>> ((1 : Int32) &&& 31).toUInt32).toInt32) &&& (15 : Int32))), .unset, .unset, .unset] [(.int (13 : Int32)), (.ref b97), (.ref b97)])) rfl (hb hby at_97)) ?_
    show own_Fin p e below s Q 16 128 (T110.setTop (mkF m 99 #[.val (.int i0), .val (.int i1), .val (.int (1 : Int32)), .val (.int (((i1.toUInt32 >>> ((1 : Int32) &&& 31).toUInt32).toInt32) &&& (15 : Int32))), .unset, .unset, .unset] [(.int (1114112 : Int32)), (.int (13 : Int32)), (.ref b97), (.ref b97)]))
    obtain ⟨ca111, Ar111, Sz111, Ht111⟩ := id V110
    have hin111 : ¬ ((13 : Int32) < 0 ∨ ca111.slots.size ≤ ((13 : Int32)).toNatClampNeg) := by rw [Sz111]; exact (by decide)
    obtain ⟨T111, h111, X111, e111, W111, st111⟩ := stI X110 hx hZ e110 Ar111 (j := (13 : Int32)) hin111 (g := (mkF m 99 #[.val (.int i0), .val (.int i1), .val (.int (1 : Int32)), .val (.int (((i1.toUInt32 >>> ((1 : Int32) &&& 31).toUInt32).toInt32) &&& (15 : Int32))), .unset, .unset, .unset] [(.int (1114112 : Int32)), (.int (13 : Int32)), (.ref b97), (.ref b97)])) rfl rfl (hb hby at_99)
    have V111 : own_AF Z h111 b97 .int 14 (fun i => if i = 13 then (1114112 : Int32) else gf110 i) := own_AFset Ar111 Sz111 Ht111 W111
    obtain ⟨gf111, hgf111⟩ : ∃ g' : Nat → Int32, g' = (fun i => if i = 13 then (1114112 : Int32) else gf110 i) := ⟨_, rfl⟩
    rw [← hgf111] at V111
    have N111 := Fr.snoc X111 N110 fr97
    have Z0111 : n0 ≤ h111.size := Nat.le_trans Z0110 (Nat.le_of_eq W111.size.symm)
    refine own_step st111 ?_
    show own_Fin p e below s Q 16 128 (T111.setTop (mkF m 100 #[.val (.int i0), .val (.int i1), .val (.int (1 : Int32)), .val (.int (((i1.toUInt32 >>> ((1 : Int32) &&& 31).toUInt32).toInt32) &&& (15 : Int32))), .unset, .unset, .unset] [(.ref b97)]))
    refine own_step (fun t k => XS.astore X111.here hx rfl (hb hby at_100) rfl rfl (l' := #[.val (.int i0), .val (.int i1), .val (.int (1 : Int32)), .val (.int (((i1.toUInt32 >>> ((1 : Int32) &&& 31).toUInt32).toInt32) &&& (15 : Int32))), .val (.ref b97), .unset, .unset]) rfl k) ?_
    show own_Fin p e below s Q 16 128 (T111.setTop (mkF m 102 #[.val (.int i0), .val (.int i1), .val (.int (1 : Int32)), .val (.int (((i1.toUInt32 >>> ((1 : Int32) &&& 31).toUInt32).toInt32) &&& (15 : Int32))), .val (.ref b97), .unset, .unset] []))
    refine own_step (fun t k => XS.iloadN X111.here hx rfl (hb hby at_102) rfl  k) ?_
    show own_Fin p e below s Q 16 128 (T111.setTop (mkF m 103 #[.val (.int i0), .val (.int i1), .val (.int (1 : Int32)), .val (.int (((i1.toUInt32 >>> ((1 : Int32) &&& 31).toUInt32).toInt32) &&& (15 : Int32))), .val (.ref b97), .unset, .unset] [(.int i0)]))
    refine own_step (fun t k => XS.istore X111.here hx rfl (hb hby at_103) rfl (l' := #[.val (.int i0), .val (.int i1), .val (.int (1 : Int32)), .val (.int (((i1.toUInt32 >>> ((1 : Int32) &&& 31).toUInt32).toInt32) &&& (15 : Int32))), .val (.ref b97), .val (.int i0), .unset]) rfl k) ?_
    show own_Fin p e below s Q 16 128 (T111.setTop (mkF m 105 #[.val (.int i0), .val (.int i1), .val (.int (1 : Int32)), .val (.int (((i1.toUInt32 >>> ((1 : Int32) &&& 31).toUInt32).toInt32) &&& (15 : Int32))), .val (.ref b97), .val (.int i0), .unset] []))
    refine own_step (fun t k => XS.iloadN X111.here hx rfl (hb hby at_105) rfl  k) ?_
    show own_Fin p e below s Q 16 128 (T111.setTop (mkF m 106 #[.val (.int i0), .val (.int i1), .val (.int (1 : Int32)), .val (.int (((i1.toUInt32 >>> ((1 : Int32) &&& 31).toUInt32).toInt32) &&& (15 : Int32))), .val (.ref b97), .val (.int i0), .unset] [(.int (((i1.toUInt32 >>> ((1 : Int32) &&& 31).toUInt32).toInt32) &&& (15 : Int32)))]))
    refine own_step (fun t k => XS.bipush X111.here hx rfl (hb hby at_106) k) ?_
    show own_Fin p e below s Q 16 128 (T111.setTop (mkF m 108 #[.val (.int i0), .val (.int i1), .val (.int (1 : Int32)), .val (.int (((i1.toUInt32 >>> ((1 : Int32) &&& 31).toUInt32).toInt32) &&& (15 : Int32))), .val (.ref b97), .val (.int i0), .unset] [(.int (14 : Int32)), (.int (((i1.toUInt32 >>> ((1 : Int32) &&& 31).toUInt32).toInt32) &&& (15 : Int32)))]))
    by_cases hB108_112 : (((i1.toUInt32 >>> ((1 : Int32) &&& 31).toUInt32).toInt32) &&& (15 : Int32)) < (14 : Int32)
    · refine own_step (fun t k => XS.icmpNo X111.here hx rfl (hb hby at_108) rfl (tlt hB108_112).2.1 k) ?_
      show own_Fin p e below s Q 16 128 (T111.setTop (mkF m 111 #[.val (.int i0), .val (.int i1), .val (.int (1 : Int32)), .val (.int (((i1.toUInt32 >>> ((1 : Int32) &&& 31).toUInt32).toInt32) &&& (15 : Int32))), .val (.ref b97), .val (.int i0), .unset] []))
      refine own_step (fun t k => XS.aload X111.here hx rfl (hb hby at_111) rfl rfl k) ?_
      show own_Fin p e below s Q 16 128 (T111.setTop (mkF m 113 #[.val (.int i0), .val (.int i1), .val (.int (1 : Int32)), .val (.int (((i1.toUInt32 >>> ((1 : Int32) &&& 31).toUInt32).toInt32) &&& (15 : Int32))), .val (.ref b97), .val (.int i0), .unset] [(.ref b97)]))
      refine own_step (fun t k => XS.iloadN X111.here hx rfl (hb hby at_113) rfl  k) ?_
      show own_Fin p e below s Q 16 128 (T111.setTop (mkF m 114 #[.val (.int i0), .val (.int i1), .val (.int (1 : Int32)), .val (.int (((i1.toUInt32 >>> ((1 : Int32) &&& 31).toUInt32).toInt32) &&& (15 : Int32))), .val (.ref b97), .val (.int i0), .unset] [(.int (((i1.toUInt32 >>> ((1 : Int32) &&& 31).toUInt32).toInt32) &&& (15 : Int32))), (.ref b97)]))
      obtain ⟨ca114, Ar114, Sz114, Ht114⟩ := id V111
      have hin114 : ¬ ((((i1.toUInt32 >>> ((1 : Int32) &&& 31).toUInt32).toInt32) &&& (15 : Int32)) < 0 ∨ ca114.slots.size ≤ ((((i1.toUInt32 >>> ((1 : Int32) &&& 31).toUInt32).toInt32) &&& (15 : Int32))).toNatClampNeg) := by rw [Sz114]; exact own_in _ hB108_112 (own_k i1)
      refine own_step (X111.iaload hx (j := (((i1.toUInt32 >>> ((1 : Int32) &&& 31).toUInt32).toInt32) &&& (15 : Int32))) (v := (.int (gf111 ((((i1.toUInt32 >>> ((1 : Int32) &&& 31).toUInt32).toInt32) &&& (15 : Int32))).toNatClampNeg))) (by rw [e111]; exact Ar114.1) (State.isArrayOf_alike hZ.alike Ar114.2.1) Ar114.2.2 hin114 (Ht114 _ (by rw [← Sz114]; exact Nat.lt_of_not_le fun y => hin114 (Or.inr y))) (g := (mkF m 114 #[.val (.int i0), .val (.int i1), .val (.int (1 : Int32)), .val (.int (((i1.toUInt32 >>> ((1 : Int32) &&& 31).toUInt32).toInt32) &&& (15 : Int32))), .val (.ref b97), .val (.int i0), .unset] [(.int (((i1.toUInt32 >>> ((1 : Int32) &&& 31).toUInt32).toInt32) &&& (15 : Int32))), (.ref b97)])) rfl rfl (hb hby at_114)) ?_
      show own_Fin p e below s Q 16 128 (T111.setTop (mkF m 115 #[.val (.int i0), .val (.int i1), .val (.int (1 : Int32)), .val (.int (((i1.toUInt32 >>> ((1 : Int32) &&& 31).toUInt32).toInt32) &&& (15 : Int32))), .val (.ref b97), .val (.int i0), .unset] [(.int (gf111 ((((i1.toUInt32 >>> ((1 : Int32) &&& 31).toUInt32).toInt32) &&& (15 : Int32))).toNatClampNeg))]))
      refine own_step (fun t k => XS.iloadN X111.here hx rfl (hb hby at_115) rfl  k) ?_
      show own_Fin p e below s Q 16 128 (T111.setTop (mkF m 116 #[.val (.int i0), .val (.int i1), .val (.int (1 : Int32)), .val (.int (((i1.toUInt32 >>> ((1 : Int32) &&& 31).toUInt32).toInt32) &&& (15 : Int32))), .val (.ref b97), .val (.int i0), .unset] [(.int i0), (.int (gf111 ((((i1.toUInt32 >>> ((1 : Int32) &&& 31).toUInt32).toInt32) &&& (15 : Int32))).toNatClampNeg))]))
      refine own_step (fun t k => XS.iconst X111.here hx rfl (hb hby at_116) k) ?_
      show own_Fin p e below s Q 16 128 (T111.setTop (mkF m 117 #[.val (.int i0), .val (.int i1), .val (.int (1 : Int32)), .val (.int (((i1.toUInt32 >>> ((1 : Int32) &&& 31).toUInt32).toInt32) &&& (15 : Int32))), .val (.ref b97), .val (.int i0), .unset] [(.int (2 : Int32)), (.int i0), (.int (gf111 ((((i1.toUInt32 >>> ((1 : Int32) &&& 31).toUInt32).toInt32) &&& (15 : Int32))).toNatClampNeg))]))
      refine own_step (fun t k => XS.irem X111.here hx rfl (hb hby at_117) rfl (by decide) k) ?_
      rw [irem_eq_mod i0 (2 : Int32)]
      show own_Fin p e below s Q 16 128 (T111.setTop (mkF m 118 #[.val (.int i0), .val (.int i1), .val (.int (1 : Int32)), .val (.int (((i1.toUInt32 >>> ((1 : Int32) &&& 31).toUInt32).toInt32) &&& (15 : Int32))), .val (.ref b97), .val (.int i0), .unset] [(.int (i0 % (2 : Int32))), (.int (gf111 ((((i1.toUInt32 >>> ((1 : Int32) &&& 31).toUInt32).toInt32) &&& (15 : Int32))).toNatClampNeg))]))
      refine own_step (fun t k => XS.iadd X111.here hx rfl (hb hby at_118) rfl k) ?_
      show own_Fin p e below s Q 16 128 (T111.setTop (mkF m 119 #[.val (.int i0), .val (.int i1), .val (.int (1 : Int32)), .val (.int (((i1.toUInt32 >>> ((1 : Int32) &&& 31).toUInt32).toInt32) &&& (15 : Int32))), .val (.ref b97), .val (.int i0), .unset] [(.int ((gf111 ((((i1.toUInt32 >>> ((1 : Int32) &&& 31).toUInt32).toInt32) &&& (15 : Int32))).toNatClampNeg) + (i0 % (2 : Int32))))]))
      refine own_step (fun t k => XS.istore X111.here hx rfl (hb hby at_119) rfl (l' := #[.val (.int i0), .val (.int i1), .val (.int (1 : Int32)), .val (.int (((i1.toUInt32 >>> ((1 : Int32) &&& 31).toUInt32).toInt32) &&& (15 : Int32))), .val (.ref b97), .val (.int ((gf111 ((((i1.toUInt32 >>> ((1 : Int32) &&& 31).toUInt32).toInt32) &&& (15 : Int32))).toNatClampNeg) + (i0 % (2 : Int32)))), .unset]) rfl k) ?_
      show own_Fin p e below s Q 16 128 (T111.setTop (mkF m 121 #[.val (.int i0), .val (.int i1), .val (.int (1 : Int32)), .val (.int (((i1.toUInt32 >>> ((1 : Int32) &&& 31).toUInt32).toInt32) &&& (15 : Int32))), .val (.ref b97), .val (.int ((gf111 ((((i1.toUInt32 >>> ((1 : Int32) &&& 31).toUInt32).toInt32) &&& (15 : Int32))).toNatClampNeg) + (i0 % (2 : Int32)))), .unset] []))
      refine own_step (fun t k => XS.iload X111.here hx rfl (hb hby at_121) rfl  k) ?_
      show own_Fin p e below s Q 16 128 (T111.setTop (mkF m 123 #[.val (.int i0), .val (.int i1), .val (.int (1 : Int32)), .val (.int (((i1.toUInt32 >>> ((1 : Int32) &&& 31).toUInt32).toInt32) &&& (15 : Int32))), .val (.ref b97), .val (.int ((gf111 ((((i1.toUInt32 >>> ((1 : Int32) &&& 31).toUInt32).toInt32) &&& (15 : Int32))).toNatClampNeg) + (i0 % (2 : Int32)))), .unset] [(.int ((gf111 ((((i1.toUInt32 >>> ((1 : Int32) &&& 31).toUInt32).toInt32) &&& (15 : Int32))).toNatClampNeg) + (i0 % (2 : Int32))))]))
      refine own_step (fun t k => XS.iloadN X111.here hx rfl (hb hby at_123) rfl  k) ?_
      show own_Fin p e below s Q 16 128 (T111.setTop (mkF m 124 #[.val (.int i0), .val (.int i1), .val (.int (1 : Int32)), .val (.int (((i1.toUInt32 >>> ((1 : Int32) &&& 31).toUInt32).toInt32) &&& (15 : Int32))), .val (.ref b97), .val (.int ((gf111 ((((i1.toUInt32 >>> ((1 : Int32) &&& 31).toUInt32).toInt32) &&& (15 : Int32))).toNatClampNeg) + (i0 % (2 : Int32)))), .unset] [(.int (1 : Int32)), (.int ((gf111 ((((i1.toUInt32 >>> ((1 : Int32) &&& 31).toUInt32).toInt32) &&& (15 : Int32))).toNatClampNeg) + (i0 % (2 : Int32))))]))
      obtain ⟨_, _, ⟨T113, L113, k113, n113⟩, -, X113, ⟨Lc113, hQ113, l113, y113, z113⟩, st113⟩ := Jvm.LawKit.callS X111 hx (y := (⟨"com/example/zoria/zoria/xml/XmlScannerIsReferablePinLaw", "expected", "(IZ)Z"⟩ : MethodName)) hown (mvT hZ (hw _ (List.mem_of_getElem? (i := 10) rfl))) (mvT hZ (hw _ (List.mem_of_getElem? (i := 11) rfl))) (mvT hZ (hw _ (List.mem_of_getElem? (i := 12) rfl))) (mvT hZ (hw _ (List.mem_of_getElem? (i := 13) rfl))) (by decide) (backOf (W := 0) (rm1 l Z a0 hw [] ((gf111 ((((i1.toUInt32 >>> ((1 : Int32) &&& 31).toUInt32).toInt32) &&& (15 : Int32))).toNatClampNeg) + (i0 % (2 : Int32))) (1 : Int32) h111 n0) hZ (hw _ (List.mem_of_getElem? (i := 13) rfl)) (hw _ (List.mem_of_getElem? (i := 12) rfl)) (by decide) (by decide)) (g := (mkF m 124 #[.val (.int i0), .val (.int i1), .val (.int (1 : Int32)), .val (.int (((i1.toUInt32 >>> ((1 : Int32) &&& 31).toUInt32).toInt32) &&& (15 : Int32))), .val (.ref b97), .val (.int ((gf111 ((((i1.toUInt32 >>> ((1 : Int32) &&& 31).toUInt32).toInt32) &&& (15 : Int32))).toNatClampNeg) + (i0 % (2 : Int32)))), .unset] [(.int (1 : Int32)), (.int ((gf111 ((((i1.toUInt32 >>> ((1 : Int32) &&& 31).toUInt32).toInt32) &&& (15 : Int32))).toNatClampNeg) + (i0 % (2 : Int32))))])) rfl (by rw [hml]; rfl) (argsL := [(.int ((gf111 ((((i1.toUInt32 >>> ((1 : Int32) &&& 31).toUInt32).toInt32) &&& (15 : Int32))).toNatClampNeg) + (i0 % (2 : Int32)))), (.int (1 : Int32))]) (rest := []) (lenOf pdm_0 rfl) rfl (by show 2 * 0 + _ ≤ _; exact Nat.le_of_eq rfl) (hb hby at_124) (fun _ _ => ⟨rfl, e111, (by show cells + 1 + 0 ≤ 16; omega), (by show slots + 14 + 0 ≤ 128; omega)⟩)
      dsimp only [Pt.U, Pt.locs, Pt.cells, Pt.slots] at X113 l113 y113 z113 st113 hQ113
      subst l113 y113 z113
      obtain ⟨rfl, N113q, e113⟩ := hQ113
      have N113 := Fr.app N111 N113q
      refine own_step st113 ?_
      show own_Fin p e below s Q 16 128 (T113.setTop (mkF m 127 #[.val (.int i0), .val (.int i1), .val (.int (1 : Int32)), .val (.int (((i1.toUInt32 >>> ((1 : Int32) &&& 31).toUInt32).toInt32) &&& (15 : Int32))), .val (.ref b97), .val (.int ((gf111 ((((i1.toUInt32 >>> ((1 : Int32) &&& 31).toUInt32).toInt32) &&& (15 : Int32))).toNatClampNeg) + (i0 % (2 : Int32)))), .unset] [(.int (f1_0 ((gf111 ((((i1.toUInt32 >>> ((1 : Int32) &&& 31).toUInt32).toInt32) &&& (15 : Int32))).toNatClampNeg) + (i0 % (2 : Int32))) (1 : Int32)))]))
      refine own_step (fun t k => XS.istore X113.here hx rfl (hb hby at_127) rfl (l' := #[.val (.int i0), .val (.int i1), .val (.int (1 : Int32)), .val (.int (((i1.toUInt32 >>> ((1 : Int32) &&& 31).toUInt32).toInt32) &&& (15 : Int32))), .val (.ref b97), .val (.int ((gf111 ((((i1.toUInt32 >>> ((1 : Int32) &&& 31).toUInt32).toInt32) &&& (15 : Int32))).toNatClampNeg) + (i0 % (2 : Int32)))), .val (.int (f1_0 ((gf111 ((((i1.toUInt32 >>> ((1 : Int32) &&& 31).toUInt32).toInt32) &&& (15 : Int32))).toNatClampNeg) + (i0 % (2 : Int32))) (1 : Int32)))]) rfl k) ?_
      show own_Fin p e below s Q 16 128 (T113.setTop (mkF m 129 #[.val (.int i0), .val (.int i1), .val (.int (1 : Int32)), .val (.int (((i1.toUInt32 >>> ((1 : Int32) &&& 31).toUInt32).toInt32) &&& (15 : Int32))), .val (.ref b97), .val (.int ((gf111 ((((i1.toUInt32 >>> ((1 : Int32) &&& 31).toUInt32).toInt32) &&& (15 : Int32))).toNatClampNeg) + (i0 % (2 : Int32)))), .val (.int (f1_0 ((gf111 ((((i1.toUInt32 >>> ((1 : Int32) &&& 31).toUInt32).toInt32) &&& (15 : Int32))).toNatClampNeg) + (i0 % (2 : Int32))) (1 : Int32)))] []))
      refine own_step (fun t k => XS.iload X113.here hx rfl (hb hby at_129) rfl  k) ?_
      show own_Fin p e below s Q 16 128 (T113.setTop (mkF m 131 #[.val (.int i0), .val (.int i1), .val (.int (1 : Int32)), .val (.int (((i1.toUInt32 >>> ((1 : Int32) &&& 31).toUInt32).toInt32) &&& (15 : Int32))), .val (.ref b97), .val (.int ((gf111 ((((i1.toUInt32 >>> ((1 : Int32) &&& 31).toUInt32).toInt32) &&& (15 : Int32))).toNatClampNeg) + (i0 % (2 : Int32)))), .val (.int (f1_0 ((gf111 ((((i1.toUInt32 >>> ((1 : Int32) &&& 31).toUInt32).toInt32) &&& (15 : Int32))).toNatClampNeg) + (i0 % (2 : Int32))) (1 : Int32)))] [(.int ((gf111 ((((i1.toUInt32 >>> ((1 : Int32) &&& 31).toUInt32).toInt32) &&& (15 : Int32))).toNatClampNeg) + (i0 % (2 : Int32))))]))
      refine own_step (fun t k => XS.iloadN X113.here hx rfl (hb hby at_131) rfl  k) ?_
      show own_Fin p e below s Q 16 128 (T113.setTop (mkF m 132 #[.val (.int i0), .val (.int i1), .val (.int (1 : Int32)), .val (.int (((i1.toUInt32 >>> ((1 : Int32) &&& 31).toUInt32).toInt32) &&& (15 : Int32))), .val (.ref b97), .val (.int ((gf111 ((((i1.toUInt32 >>> ((1 : Int32) &&& 31).toUInt32).toInt32) &&& (15 : Int32))).toNatClampNeg) + (i0 % (2 : Int32)))), .val (.int (f1_0 ((gf111 ((((i1.toUInt32 >>> ((1 : Int32) &&& 31).toUInt32).toInt32) &&& (15 : Int32))).toNatClampNeg) + (i0 % (2 : Int32))) (1 : Int32)))] [(.int (1 : Int32)), (.int ((gf111 ((((i1.toUInt32 >>> ((1 : Int32) &&& 31).toUInt32).toInt32) &&& (15 : Int32))).toNatClampNeg) + (i0 % (2 : Int32))))]))
      obtain ⟨_, _, ⟨T114, L114, k114, n114⟩, -, X114, ⟨Lc114, hQ114, l114, y114, z114⟩, st114⟩ := Jvm.LawKit.callS X113 hx (y := (⟨"com/example/zoria/zoria/xml/XmlScanner", "isReferable", "(IZ)Z"⟩ : MethodName)) hown (mvT hZ (hw _ (List.mem_of_getElem? (i := 14) rfl))) (mvT hZ (hw _ (List.mem_of_getElem? (i := 15) rfl))) (mvT hZ (hw _ (List.mem_of_getElem? (i := 16) rfl))) (mvT hZ (hw _ (List.mem_of_getElem? (i := 17) rfl))) (by decide) (backOf (W := 0) (rm2 l Z a0 hw [] ((gf111 ((((i1.toUInt32 >>> ((1 : Int32) &&& 31).toUInt32).toInt32) &&& (15 : Int32))).toNatClampNeg) + (i0 % (2 : Int32))) (1 : Int32) h111 n0) hZ (hw _ (List.mem_of_getElem? (i := 17) rfl)) (hw _ (List.mem_of_getElem? (i := 16) rfl)) (by decide) (by decide)) (g := (mkF m 132 #[.val (.int i0), .val (.int i1), .val (.int (1 : Int32)), .val (.int (((i1.toUInt32 >>> ((1 : Int32) &&& 31).toUInt32).toInt32) &&& (15 : Int32))), .val (.ref b97), .val (.int ((gf111 ((((i1.toUInt32 >>> ((1 : Int32) &&& 31).toUInt32).toInt32) &&& (15 : Int32))).toNatClampNeg) + (i0 % (2 : Int32)))), .val (.int (f1_0 ((gf111 ((((i1.toUInt32 >>> ((1 : Int32) &&& 31).toUInt32).toInt32) &&& (15 : Int32))).toNatClampNeg) + (i0 % (2 : Int32))) (1 : Int32)))] [(.int (1 : Int32)), (.int ((gf111 ((((i1.toUInt32 >>> ((1 : Int32) &&& 31).toUInt32).toInt32) &&& (15 : Int32))).toNatClampNeg) + (i0 % (2 : Int32))))])) rfl (by rw [hml]; rfl) (argsL := [(.int ((gf111 ((((i1.toUInt32 >>> ((1 : Int32) &&& 31).toUInt32).toInt32) &&& (15 : Int32))).toNatClampNeg) + (i0 % (2 : Int32)))), (.int (1 : Int32))]) (rest := []) (lenOf pdm_0 rfl) rfl (by show 2 * 0 + _ ≤ _; exact Nat.le_of_eq rfl) (hb hby at_132) (fun _ _ => ⟨rfl, e113, (by show cells + 1 + 0 + 0 ≤ 16; omega), (by show slots + 14 + 0 + 0 ≤ 128; omega)⟩)
      dsimp only [Pt.U, Pt.locs, Pt.cells, Pt.slots] at X114 l114 y114 z114 st114 hQ114
      subst l114 y114 z114
      obtain ⟨rfl, N114q, e114⟩ := hQ114
      have N114 := Fr.app N113 N114q
      refine own_step st114 ?_
      show own_Fin p e below s Q 16 128 (T114.setTop (mkF m 135 #[.val (.int i0), .val (.int i1), .val (.int (1 : Int32)), .val (.int (((i1.toUInt32 >>> ((1 : Int32) &&& 31).toUInt32).toInt32) &&& (15 : Int32))), .val (.ref b97), .val (.int ((gf111 ((((i1.toUInt32 >>> ((1 : Int32) &&& 31).toUInt32).toInt32) &&& (15 : Int32))).toNatClampNeg) + (i0 % (2 : Int32)))), .val (.int (f1_0 ((gf111 ((((i1.toUInt32 >>> ((1 : Int32) &&& 31).toUInt32).toInt32) &&& (15 : Int32))).toNatClampNeg) + (i0 % (2 : Int32))) (1 : Int32)))] [(.int (f2_0 ((gf111 ((((i1.toUInt32 >>> ((1 : Int32) &&& 31).toUInt32).toInt32) &&& (15 : Int32))).toNatClampNeg) + (i0 % (2 : Int32))) (1 : Int32)))]))
      refine own_step (fun t k => XS.iload X114.here hx rfl (hb hby at_135) rfl  k) ?_
      show own_Fin p e below s Q 16 128 (T114.setTop (mkF m 137 #[.val (.int i0), .val (.int i1), .val (.int (1 : Int32)), .val (.int (((i1.toUInt32 >>> ((1 : Int32) &&& 31).toUInt32).toInt32) &&& (15 : Int32))), .val (.ref b97), .val (.int ((gf111 ((((i1.toUInt32 >>> ((1 : Int32) &&& 31).toUInt32).toInt32) &&& (15 : Int32))).toNatClampNeg) + (i0 % (2 : Int32)))), .val (.int (f1_0 ((gf111 ((((i1.toUInt32 >>> ((1 : Int32) &&& 31).toUInt32).toInt32) &&& (15 : Int32))).toNatClampNeg) + (i0 % (2 : Int32))) (1 : Int32)))] [(.int (f1_0 ((gf111 ((((i1.toUInt32 >>> ((1 : Int32) &&& 31).toUInt32).toInt32) &&& (15 : Int32))).toNatClampNeg) + (i0 % (2 : Int32))) (1 : Int32))), (.int (f2_0 ((gf111 ((((i1.toUInt32 >>> ((1 : Int32) &&& 31).toUInt32).toInt32) &&& (15 : Int32))).toNatClampNeg) + (i0 % (2 : Int32))) (1 : Int32)))]))
      refine own_step (fun t k => XS.icmpNo X114.here hx rfl (hb hby at_137) rfl (teq (own_eq1 _)).2 k) ?_
      show own_Fin p e below s Q 16 128 (T114.setTop (mkF m 140 #[.val (.int i0), .val (.int i1), .val (.int (1 : Int32)), .val (.int (((i1.toUInt32 >>> ((1 : Int32) &&& 31).toUInt32).toInt32) &&& (15 : Int32))), .val (.ref b97), .val (.int ((gf111 ((((i1.toUInt32 >>> ((1 : Int32) &&& 31).toUInt32).toInt32) &&& (15 : Int32))).toNatClampNeg) + (i0 % (2 : Int32)))), .val (.int (f1_0 ((gf111 ((((i1.toUInt32 >>> ((1 : Int32) &&& 31).toUInt32).toInt32) &&& (15 : Int32))).toNatClampNeg) + (i0 % (2 : Int32))) (1 : Int32)))] []))
      refine own_step (fun t k => XS.iconst X114.here hx rfl (hb hby at_140) k) ?_
      show own_Fin p e below s Q 16 128 (T114.setTop (mkF m 141 #[.val (.int i0), .val (.int i1), .val (.int (1 : Int32)), .val (.int (((i1.toUInt32 >>> ((1 : Int32) &&& 31).toUInt32).toInt32) &&& (15 : Int32))), .val (.ref b97), .val (.int ((gf111 ((((i1.toUInt32 >>> ((1 : Int32) &&& 31).toUInt32).toInt32) &&& (15 : Int32))).toNatClampNeg) + (i0 % (2 : Int32)))), .val (.int (f1_0 ((gf111 ((((i1.toUInt32 >>> ((1 : Int32) &&& 31).toUInt32).toInt32) &&& (15 : Int32))).toNatClampNeg) + (i0 % (2 : Int32))) (1 : Int32)))] [(.int (1 : Int32))]))
      refine own_step (fun t k => XS.goto X114.here hx rfl (pc0 := 141) (pc' := 145) rfl (hb hby at_141) (by decide) (by decide) k) ?_
      show own_Fin p e below s Q 16 128 (T114.setTop (mkF m 145 #[.val (.int i0), .val (.int i1), .val (.int (1 : Int32)), .val (.int (((i1.toUInt32 >>> ((1 : Int32) &&& 31).toUInt32).toInt32) &&& (15 : Int32))), .val (.ref b97), .val (.int ((gf111 ((((i1.toUInt32 >>> ((1 : Int32) &&& 31).toUInt32).toInt32) &&& (15 : Int32))).toNatClampNeg) + (i0 % (2 : Int32)))), .val (.int (f1_0 ((gf111 ((((i1.toUInt32 >>> ((1 : Int32) &&& 31).toUInt32).toInt32) &&& (15 : Int32))).toNatClampNeg) + (i0 % (2 : Int32))) (1 : Int32)))] [(.int (1 : Int32))]))
      exact own_retN X114 hx hlk hret (by simp) (hb hby at_145) (by omega) (by omega) rfl N114 (fun L' n' => hQ _ L' n') (rfl)
    · refine own_step (fun t k => XS.icmpYes X111.here hx rfl (pc0 := 108) (pc' := 121) rfl (hb hby at_108) rfl (flt hB108_112).2.1 (by decide) (by decide) k) ?_
      show own_Fin p e below s Q 16 128 (T111.setTop (mkF m 121 #[.val (.int i0), .val (.int i1), .val (.int (1 : Int32)), .val (.int (((i1.toUInt32 >>> ((1 : Int32) &&& 31).toUInt32).toInt32) &&& (15 : Int32))), .val (.ref b97), .val (.int i0), .unset] []))
      refine own_step (fun t k => XS.iload X111.here hx rfl (hb hby at_121) rfl  k) ?_
      show own_Fin p e below s Q 16 128 (T111.setTop (mkF m 123 #[.val (.int i0), .val (.int i1), .val (.int (1 : Int32)), .val (.int (((i1.toUInt32 >>> ((1 : Int32) &&& 31).toUInt32).toInt32) &&& (15 : Int32))), .val (.ref b97), .val (.int i0), .unset] [(.int i0)]))
      refine own_step (fun t k => XS.iloadN X111.here hx rfl (hb hby at_123) rfl  k) ?_
      show own_Fin p e below s Q 16 128 (T111.setTop (mkF m 124 #[.val (.int i0), .val (.int i1), .val (.int (1 : Int32)), .val (.int (((i1.toUInt32 >>> ((1 : Int32) &&& 31).toUInt32).toInt32) &&& (15 : Int32))), .val (.ref b97), .val (.int i0), .unset] [(.int (1 : Int32)), (.int i0)]))
      obtain ⟨_, _, ⟨T115, L115, k115, n115⟩, -, X115, ⟨Lc115, hQ115, l115, y115, z115⟩, st115⟩ := Jvm.LawKit.callS X111 hx (y := (⟨"com/example/zoria/zoria/xml/XmlScannerIsReferablePinLaw", "expected", "(IZ)Z"⟩ : MethodName)) hown (mvT hZ (hw _ (List.mem_of_getElem? (i := 10) rfl))) (mvT hZ (hw _ (List.mem_of_getElem? (i := 11) rfl))) (mvT hZ (hw _ (List.mem_of_getElem? (i := 12) rfl))) (mvT hZ (hw _ (List.mem_of_getElem? (i := 13) rfl))) (by decide) (backOf (W := 0) (rm1 l Z a0 hw [] i0 (1 : Int32) h111 n0) hZ (hw _ (List.mem_of_getElem? (i := 13) rfl)) (hw _ (List.mem_of_getElem? (i := 12) rfl)) (by decide) (by decide)) (g := (mkF m 124 #[.val (.int i0), .val (.int i1), .val (.int (1 : Int32)), .val (.int (((i1.toUInt32 >>> ((1 : Int32) &&& 31).toUInt32).toInt32) &&& (15 : Int32))), .val (.ref b97), .val (.int i0), .unset] [(.int (1 : Int32)), (.int i0)])) rfl (by rw [hml]; rfl) (argsL := [(.int i0), (.int (1 : Int32))]) (rest := []) (lenOf pdm_0 rfl) rfl (by show 2 * 0 + _ ≤ _; exact Nat.le_of_eq rfl) (hb hby at_124) (fun _ _ => ⟨rfl, e111, (by show cells + 1 + 0 ≤ 16; omega), (by show slots + 14 + 0 ≤ 128; omega)⟩)
      dsimp only [Pt.U, Pt.locs, Pt.cells, Pt.slots] at X115 l115 y115 z115 st115 hQ115
      subst l115 y115 z115
      obtain ⟨rfl, N115q, e115⟩ := hQ115
      have N115 := Fr.app N111 N115q
      refine own_step st115 ?_
      show own_Fin p e below s Q 16 128 (T115.setTop (mkF m 127 #[.val (.int i0), .val (.int i1), .val (.int (1 : Int32)), .val (.int (((i1.toUInt32 >>> ((1 : Int32) &&& 31).toUInt32).toInt32) &&& (15 : Int32))), .val (.ref b97), .val (.int i0), .unset] [(.int (f1_0 i0 (1 : Int32)))]))
      refine own_step (fun t k => XS.istore X115.here hx rfl (hb hby at_127) rfl (l' := #[.val (.int i0), .val (.int i1), .val (.int (1 : Int32)), .val (.int (((i1.toUInt32 >>> ((1 : Int32) &&& 31).toUInt32).toInt32) &&& (15 : Int32))), .val (.ref b97), .val (.int i0), .val (.int (f1_0 i0 (1 : Int32)))]) rfl k) ?_
      show own_Fin p e below s Q 16 128 (T115.setTop (mkF m 129 #[.val (.int i0), .val (.int i1), .val (.int (1 : Int32)), .val (.int (((i1.toUInt32 >>> ((1 : Int32) &&& 31).toUInt32).toInt32) &&& (15 : Int32))), .val (.ref b97), .val (.int i0), .val (.int (f1_0 i0 (1 : Int32)))] []))
      refine own_step (fun t k => XS.iload X115.here hx rfl (hb hby at_129) rfl  k) ?_
      show own_Fin p e below s Q 16 128 (T115.setTop (mkF m 131 #[.val (.int i0), .val (.int i1), .val (.int (1 : Int32)), .val (.int (((i1.toUInt32 >>> ((1 : Int32) &&& 31).toUInt32).toInt32) &&& (15 : Int32))), .val (.ref b97), .val (.int i0), .val (.int (f1_0 i0 (1 : Int32)))] [(.int i0)]))
      refine own_step (fun t k => XS.iloadN X115.here hx rfl (hb hby at_131) rfl  k) ?_
      show own_Fin p e below s Q 16 128 (T115.setTop (mkF m 132 #[.val (.int i0), .val (.int i1), .val (.int (1 : Int32)), .val (.int (((i1.toUInt32 >>> ((1 : Int32) &&& 31).toUInt32).toInt32) &&& (15 : Int32))), .val (.ref b97), .val (.int i0), .val (.int (f1_0 i0 (1 : Int32)))] [(.int (1 : Int32)), (.int i0)]))
      obtain ⟨_, _, ⟨T116, L116, k116, n116⟩, -, X116, ⟨Lc116, hQ116, l116, y116, z116⟩, st116⟩ := Jvm.LawKit.callS X115 hx (y := (⟨"com/example/zoria/zoria/xml/XmlScanner", "isReferable", "(IZ)Z"⟩ : MethodName)) hown (mvT hZ (hw _ (List.mem_of_getElem? (i := 14) rfl))) (mvT hZ (hw _ (List.mem_of_getElem? (i := 15) rfl))) (mvT hZ (hw _ (List.mem_of_getElem? (i := 16) rfl))) (mvT hZ (hw _ (List.mem_of_getElem? (i := 17) rfl))) (by decide) (backOf (W := 0) (rm2 l Z a0 hw [] i0 (1 : Int32) h111 n0) hZ (hw _ (List.mem_of_getElem? (i := 17) rfl)) (hw _ (List.mem_of_getElem? (i := 16) rfl)) (by decide) (by decide)) (g := (mkF m 132 #[.val (.int i0), .val (.int i1), .val (.int (1 : Int32)), .val (.int (((i1.toUInt32 >>> ((1 : Int32) &&& 31).toUInt32).toInt32) &&& (15 : Int32))), .val (.ref b97), .val (.int i0), .val (.int (f1_0 i0 (1 : Int32)))] [(.int (1 : Int32)), (.int i0)])) rfl (by rw [hml]; rfl) (argsL := [(.int i0), (.int (1 : Int32))]) (rest := []) (lenOf pdm_0 rfl) rfl (by show 2 * 0 + _ ≤ _; exact Nat.le_of_eq rfl) (hb hby at_132) (fun _ _ => ⟨rfl, e115, (by show cells + 1 + 0 + 0 ≤ 16; omega), (by show slots + 14 + 0 + 0 ≤ 128; omega)⟩)
      dsimp only [Pt.U, Pt.locs, Pt.cells, Pt.slots] at X116 l116 y116 z116 st116 hQ116
      subst l116 y116 z116
      obtain ⟨rfl, N116q, e116⟩ := hQ116
      have N116 := Fr.app N115 N116q
      refine own_step st116 ?_
      show own_Fin p e below s Q 16 128 (T116.setTop (mkF m 135 #[.val (.int i0), .val (.int i1), .val (.int (1 : Int32)), .val (.int (((i1.toUInt32 >>> ((1 : Int32) &&& 31).toUInt32).toInt32) &&& (15 : Int32))), .val (.ref b97), .val (.int i0), .val (.int (f1_0 i0 (1 : Int32)))] [(.int (f2_0 i0 (1 : Int32)))]))
      refine own_step (fun t k => XS.iload X116.here hx rfl (hb hby at_135) rfl  k) ?_
      show own_Fin p e below s Q 16 128 (T116.setTop (mkF m 137 #[.val (.int i0), .val (.int i1), .val (.int (1 : Int32)), .val (.int (((i1.toUInt32 >>> ((1 : Int32) &&& 31).toUInt32).toInt32) &&& (15 : Int32))), .val (.ref b97), .val (.int i0), .val (.int (f1_0 i0 (1 : Int32)))] [(.int (f1_0 i0 (1 : Int32))), (.int (f2_0 i0 (1 : Int32)))]))
      refine own_step (fun t k => XS.icmpNo X116.here hx rfl (hb hby at_137) rfl (teq (own_eq1 _)).2 k) ?_
      show own_Fin p e below s Q 16 128 (T116.setTop (mkF m 140 #[.val (.int i0), .val (.int i1), .val (.int (1 : Int32)), .val (.int (((i1.toUInt32 >>> ((1 : Int32) &&& 31).toUInt32).toInt32) &&& (15 : Int32))), .val (.ref b97), .val (.int i0), .val (.int (f1_0 i0 (1 : Int32)))] []))
      refine own_step (fun t k => XS.iconst X116.here hx rfl (hb hby at_140) k) ?_
      show own_Fin p e below s Q 16 128 (T116.setTop (mkF m 141 #[.val (.int i0), .val (.int i1), .val (.int (1 : Int32)), .val (.int (((i1.toUInt32 >>> ((1 : Int32) &&& 31).toUInt32).toInt32) &&& (15 : Int32))), .val (.ref b97), .val (.int i0), .val (.int (f1_0 i0 (1 : Int32)))] [(.int (1 : Int32))]))
      refine own_step (fun t k => XS.goto X116.here hx rfl (pc0 := 141) (pc' := 145) rfl (hb hby at_141) (by decide) (by decide) k) ?_
      show own_Fin p e below s Q 16 128 (T116.setTop (mkF m 145 #[.val (.int i0), .val (.int i1), .val (.int (1 : Int32)), .val (.int (((i1.toUInt32 >>> ((1 : Int32) &&& 31).toUInt32).toInt32) &&& (15 : Int32))), .val (.ref b97), .val (.int i0), .val (.int (f1_0 i0 (1 : Int32)))] [(.int (1 : Int32))]))
      exact own_retN X116 hx hlk hret (by simp) (hb hby at_145) (by omega) (by omega) rfl N116 (fun L' n' => hQ _ L' n') (rfl)
theorem pdm_1 : parseMethodDescriptor "(II)Z" = some ⟨[.int, .int], some .boolean⟩ := by decide +kernel
theorem ef_0 (m : MethodId) (i0 : Int32) (i1 : Int32) : entryFrame m #[(.int i0), (.int i1)] maxLocals = (mkF m 0 #[.val (.int i0), .val (.int i1), .unset, .unset, .unset, .unset, .unset] []) := by first | (simp [entryFrame, mkF, argsToLocals, Value.category, maxLocals]; done) | rfl
def Q0 (i0 : Int32) (i1 : Int32) (h0 : Heap) (n0 : Nat) (v : Option Value) (h : Heap) (L : List Loc) : Prop := v = some (.int 1) ∧ Fr n0 L
set_option maxRecDepth 65536 in
set_option maxHeartbeats 4000000 in
theorem rm0 (l : Launch) (Z : State) (a0 : Array Value) (hw : ∀ d ∈ tables_1, d.before a0 Z = true) (ws : List Jvm.Cond) (i0 : Int32) (i1 : Int32) (h0 : Heap) (n0 : Nat) (Z0 : n0 ≤ h0.size) :
    MetFree l x (head1 (Jvm.Cond.code x code maxLocals ret :: ws) room_1) (fun a U => a = #[(.int i0), (.int i1)] ∧ Z.Warmed39 U.vm ∧ U.heap = h0) (fun _ _ _ _ _ => True) (fun _ U o U' => ∃ v L, o = .returned v ∧ Q0 i0 i1 h0 n0 v U'.heap L ∧ FrameEnd U o U' L 16 128) := by
  refine MetFree.of_bodySF (plainFor_of_name pnm_0) hisR ?_
  intro p e s m args below meth c s₁ Bd hml0 hP hK
  obtain ⟨rfl, hZ, hh⟩ := hP
  have hx := Bd.exec
  have hby := Bd.bytes
  have hml : c.maxLocals = 7 := hml0
  have hown : s.vm.findClass "com/example/zoria/zoria/xml/XmlScannerIsReferablePinLaw" = some m.cls := findClass_of_methodNamed Bd.named
  have X0 : Stand p l e room_1 s m #[(.int i0), (.int i1)] below meth c s₁ [] 0 0 := Stand.of_body Bd
  have e0 : s₁.heap = h0 := by rw [← hh, Bd.state]; rfl
  have fin := b0_0 i0 i1 (Q := Q0 i0 i1 h0 n0) hw X0 hx hZ hby hml hown Bd.returns (BodyLoose.notSynchronized Bd) e0 (Fr.nil n0) (Nat.zero_le _) (Nat.zero_le _) Z0 (fun H' L' n' => ⟨rfl, n'⟩)
  exact own_step (fun t k => castTop (ef_0 m i0 i1) k) fin
set_option maxRecDepth 65536 in
set_option maxHeartbeats 40000000 in
theorem comes_1 {Post : Tables → Env → Array Value → State → Outcome → State → Prop} (hpost : ∀ tb e args s v u, (limb_1_1.after args s (.returned v) u = true ∧ limb_1_2.after args s (.returned v) u = true ∧ True) → FrameEnd s (.returned v) u (Jvm.fieldLocs frame_1_writes args s ++ Jvm.arrayLocs frame_1_arrays args s ++ Jvm.staticLocs frame_1_statics s) 16 128 → Post tb e args s (.returned v) u) :
    ArmFor flags0 classFile x code maxLocals ret World_1 tables_1 room_1 Calls_1 rest_1 Pre_1 Post := by
  intro l hfl _ _ p e ha hc hk s m args below hf hA hF happ hP
  obtain ⟨hcalls, hrest, hpre⟩ := hP
  obtain ⟨-, -, -, hnamed, -, -, -, hat⟩ := (Spec.applies_iff hf).mp happ
  obtain ⟨hg, hn⟩ := and_e (Cond.before_iff.mp (show (Jvm.Cond.and given_1 narrow_1).before args s = true from hpre))
  obtain ⟨g1, g2⟩ := and_e hg
  obtain ⟨g3, g4⟩ := and_e g2
  obtain ⟨w0, w1, rfl⟩ : ∃ w0 w1 : Value, args = #[w0, w1] := by
    have hs : args.size = 2 := by simpa [Cond.value, given_1] using g1
    obtain ⟨L⟩ := args
    match L, hs with
    | [w0, w1], _ => exact ⟨w0, w1, rfl⟩
  have hw := fun d (hd : d ∈ tables_1) => atoms_spec (ws := Jvm.Cond.code x code maxLocals ret :: tables_1) hat d (List.mem_cons_of_mem _ hd)
  obtain ⟨i0, ei0⟩ := is_v g3
  obtain rfl : w0 = (.int i0) := Option.some.inj ei0
  obtain ⟨i1, ei1⟩ := is_v g4
  obtain rfl : w1 = (.int i1) := Option.some.inj ei1
  obtain ⟨n, o, h1, h2, h3, _, L, rfl, ⟨hval, N⟩, hq⟩ := rm0 l s _ hw tables_1 i0 i1 s.heap s.heap.size (Nat.le_refl _) p e ha hc hk s m _ below hf ((Spec.applies_iff_loose hf).mp happ).1 ⟨rfl, State.Warmed39.refl s, rfl⟩ trivial
  subst hval
  refine ⟨n, _, h1, h2, h3, hpost _ _ _ _ _ _ ⟨Cond.after_iff.mpr rfl, Cond.after_iff.mpr (eq_i res_at (Term.int_eval (1)) rfl), trivial⟩ ⟨hq.1, hq.2.1, (hq.2.2.sift fun y hy => Or.inr (N y hy)).mono (by decide) (by decide)⟩⟩
theorem main_1_1 : Claimed_1_1 := comes_1 fun _ _ _ _ _ _ h hF => ⟨h.1, hF⟩
theorem main_1_2 : Claimed_1_2 := comes_1 fun _ _ _ _ _ _ h hF => ⟨h.2.1, hF⟩
end Jvm.Pilot.@@N@@
namespace Jvm.Pilot.@@N@@
open Jvm Jvm.ClassFile Sem Op Lib Jvm.Free Jvm.Stand Jvm.Pilot.@@N@@.Jvm.D
/-! MADE BY PROGRAM (witnessworld.py) out of the Statement's table words and the real class files: 12 classes; the members and pool entries that the words name. The judged class is class 1, her method 1. -/
namespace start1
open Jvm.ClassFile
def u (s : String) : CpInfo := .utf8 (stringToUtf16 s)
/-- a pool by its gaps: so many unusable entries, then the entry; so many at the end -/
def gap : Nat → List CpInfo → List CpInfo
  | 0, r => r
  | n + 1, r => .unusable :: gap n r
def poolList (es : List (Nat × CpInfo)) (last : Nat) : List CpInfo := es.foldr (fun e r => gap e.1 (e.2 :: r)) (gap last [])
def pool (es : List (Nat × CpInfo)) (last : Nat) : Array CpInfo := ⟨poolList es last⟩
def fileOf (pool : Array CpInfo) (this : Nat) (attrs : Array Attribute := #[]) (ms : Array MethodInfo := #[]) (fl : Nat := 33) (sup : Nat := 0) (ifs : Array Nat := #[]) (fds : Array FieldInfo := #[]) : ClassFile where
  minorVersion := 0
  majorVersion := 65
  constantPool := pool
  accessFlags := fl
  thisClass := this
  superClass := sup
  interfaces := ifs
  fields := fds
  methods := ms
  attributes := attrs
def plain (name : String) (sup : Option ClassId) : Class where
  name := name
  kind := .ordinary
  loader := none
  accessFlags := 33
  super := sup
  interfaces := #[]
  cf := none
  fields := #[]
  methods := #[]
  instanceTypes := #[]
  staticTypes := #[]
  resolved := #[]
  callSites := []
  init := .initialized
  statics := none
  mirror := none

def pool0 : Array CpInfo := pool [(5, u "<init>"), (0, u "()V"), (1, .class_ 10), (1, u "java/lang/Object")] 113

def k0m0 : Method := { name := "<init>", desc := "()V", sig := { parameters := [], returnType := none }, accessFlags := 1, code := none }
/-- java/lang/Object -/
def k0 : Class := { plain "java/lang/Object" none with
  accessFlags := 33
  interfaces := #[]
  cf := some (fileOf pool0 8 #[] #[{ accessFlags := 1, nameIndex := 5, descriptorIndex := 6, attributes := #[] }] 33 0 #[] #[])
  fields := #[]
  methods := #[k0m0]
  instanceTypes := #[]
  staticTypes := #[]
  resolved := Array.replicate 124 none
  statics := none }

def pool1 : Array CpInfo := pool [(2, .class_ 4), (1, u "java/lang/Object"), (0, u "<init>"), (0, u "()V"), (0, .integer 55296), (0, .integer 57343), (0, .integer 57344), (0, .integer 65533), (0, .integer 65534), (0, .integer 65535), (0, .integer 65536), (0, .integer 1114111), (0, .integer 1114112), (0, .methodref 17 18), (0, .class_ 19), (0, .nameAndType 20 21), (0, u "com/example/zoria/zoria/xml/XmlScannerIsReferablePinLaw"), (0, u "expected"), (0, u "(IZ)Z"), (0, .methodref 23 24), (0, .class_ 25), (0, .nameAndType 26 21), (0, u "com/example/zoria/zoria/xml/XmlScanner"), (0, u "isReferable"), (0, .integer 55295), (2, u "law"), (0, u "(II)Z")] 5

def k1m0 : Method := { name := "<init>", desc := "()V", sig := { parameters := [], returnType := none }, accessFlags := 2, code := none }
def k1c1 : Code := { maxStack := 4, maxLocals := 7, code := code, exceptionTable := #[], attributes := #[] }
def k1m1 : Method := { name := "law", desc := "(II)Z", sig := { parameters := [.int, .int], returnType := some .boolean }, accessFlags := 9, code := some k1c1 }
def k1c2 : Code := { maxStack := 2, maxLocals := 2, code := method_3_code, exceptionTable := #[], attributes := #[] }
def k1m2 : Method := { name := "expected", desc := "(IZ)Z", sig := { parameters := [.int, .boolean], returnType := some .boolean }, accessFlags := 10, code := some k1c2 }
/-- com/example/zoria/zoria/xml/XmlScannerIsReferablePinLaw -/
def k1 : Class := { plain "com/example/zoria/zoria/xml/XmlScannerIsReferablePinLaw" (some 0) with
  accessFlags := 49
  interfaces := #[]
  cf := some (fileOf pool1 17 #[] #[{ accessFlags := 2, nameIndex := 5, descriptorIndex := 6, attributes := #[] }, { accessFlags := 9, nameIndex := 30, descriptorIndex := 31, attributes := #[] }, { accessFlags := 10, nameIndex := 20, descriptorIndex := 21, attributes := #[] }] 49 2 #[] #[])
  fields := #[]
  methods := #[k1m0, k1m1, k1m2]
  instanceTypes := #[]
  staticTypes := #[]
  resolved := Array.replicate 37 none
  statics := none }

def pool2 : Array CpInfo := pool [(1, .class_ 2), (0, u "java/lang/AutoCloseable"), (0, .class_ 4), (0, u "java/lang/Object")] 7

/-- java/lang/AutoCloseable -/
def k2 : Class := { plain "java/lang/AutoCloseable" (some 0) with
  accessFlags := 1537
  interfaces := #[]
  cf := some (fileOf pool2 1 #[] #[] 1537 3 #[] #[])
  fields := #[]
  methods := #[]
  instanceTypes := #[]
  staticTypes := #[]
  resolved := Array.replicate 12 none
  statics := none }

def pool3 : Array CpInfo := pool [(1, .class_ 2), (0, u "java/io/Closeable"), (0, .class_ 4), (0, u "java/lang/Object"), (0, .class_ 6), (0, u "java/lang/AutoCloseable")] 7

/-- java/io/Closeable -/
def k3 : Class := { plain "java/io/Closeable" (some 0) with
  accessFlags := 1537
  interfaces := #[2]
  cf := some (fileOf pool3 1 #[] #[] 1537 3 #[5] #[])
  fields := #[]
  methods := #[]
  instanceTypes := #[]
  staticTypes := #[]
  resolved := Array.replicate 14 none
  statics := none }

def pool4 : Array CpInfo := pool [(1, .class_ 2), (0, u "com/example/zoria/zoria/xml/XmlInput"), (1, .class_ 6), (1, u "java/lang/Object"), (5, u "bytes"), (0, u "[B"), (5, u "nameRead"), (0, u "Lcom/example/zoria/zoria/xml/NameRead;"), (4, u "names"), (0, u "[Lcom/example/zoria/zoria/xml/XmlName;"), (2, u "nameBytes"), (2, u "input"), (0, u "Ljava/io/InputStream;"), (2, u "discarded"), (0, u "J"), (7, u "pos"), (0, u "I"), (5, u "xml11"), (0, u "Z"), (29, u "limit"), (60, u "nameCount"), (87, u "inputEnded"), (32, .class_ 266), (0, u "java/io/Closeable"), (0, u "MAX_NAME_LENGTH"), (2, u "BUFFER_SIZE"), (0, u "MAX_CHARACTER_BYTES"), (1, u "MAX_HELD"), (1, u "MAX_KEPT"), (1, u "NOT_UTF8"), (0, u "Ljava/lang/String;"), (0, u "NOT_ALLOWED"), (0, u "NAME_SLOTS"), (1, u "MAX_PROBES")] 50

/-- com/example/zoria/zoria/xml/XmlInput -/
def k4 : Class := { plain "com/example/zoria/zoria/xml/XmlInput" (some 0) with
  accessFlags := 1056
  interfaces := #[3]
  cf := some (fileOf pool4 1 #[] #[] 1056 4 #[265] #[{ accessFlags := 24, nameIndex := 267, descriptorIndex := 46, attributes := #[] }, { accessFlags := 26, nameIndex := 270, descriptorIndex := 46, attributes := #[] }, { accessFlags := 26, nameIndex := 271, descriptorIndex := 46, attributes := #[] }, { accessFlags := 24, nameIndex := 273, descriptorIndex := 46, attributes := #[] }, { accessFlags := 24, nameIndex := 275, descriptorIndex := 46, attributes := #[] }, { accessFlags := 26, nameIndex := 277, descriptorIndex := 278, attributes := #[] }, { accessFlags := 26, nameIndex := 279, descriptorIndex := 278, attributes := #[] }, { accessFlags := 26, nameIndex := 280, descriptorIndex := 46, attributes := #[] }, { accessFlags := 26, nameIndex := 282, descriptorIndex := 46, attributes := #[] }, { accessFlags := 18, nameIndex := 32, descriptorIndex := 33, attributes := #[] }, { accessFlags := 16, nameIndex := 12, descriptorIndex := 13, attributes := #[] }, { accessFlags := 0, nameIndex := 45, descriptorIndex := 46, attributes := #[] }, { accessFlags := 0, nameIndex := 83, descriptorIndex := 46, attributes := #[] }, { accessFlags := 2, nameIndex := 36, descriptorIndex := 37, attributes := #[] }, { accessFlags := 2, nameIndex := 232, descriptorIndex := 53, attributes := #[] }, { accessFlags := 0, nameIndex := 52, descriptorIndex := 53, attributes := #[] }, { accessFlags := 16, nameIndex := 19, descriptorIndex := 20, attributes := #[] }, { accessFlags := 18, nameIndex := 25, descriptorIndex := 26, attributes := #[] }, { accessFlags := 2, nameIndex := 144, descriptorIndex := 46, attributes := #[] }, { accessFlags := 2, nameIndex := 29, descriptorIndex := 13, attributes := #[] }])
  fields := #[{ name := "MAX_NAME_LENGTH", type := .int, accessFlags := 24, slot := 0, constantValue := 0 }, { name := "BUFFER_SIZE", type := .int, accessFlags := 26, slot := 1, constantValue := 0 }, { name := "MAX_CHARACTER_BYTES", type := .int, accessFlags := 26, slot := 2, constantValue := 0 }, { name := "MAX_HELD", type := .int, accessFlags := 24, slot := 3, constantValue := 0 }, { name := "MAX_KEPT", type := .int, accessFlags := 24, slot := 4, constantValue := 0 }, { name := "NOT_UTF8", type := (.object "java/lang/String"), accessFlags := 26, slot := 5, constantValue := 0 }, { name := "NOT_ALLOWED", type := (.object "java/lang/String"), accessFlags := 26, slot := 6, constantValue := 0 }, { name := "NAME_SLOTS", type := .int, accessFlags := 26, slot := 7, constantValue := 0 }, { name := "MAX_PROBES", type := .int, accessFlags := 26, slot := 8, constantValue := 0 }, { name := "input", type := (.object "java/io/InputStream"), accessFlags := 18, slot := 0, constantValue := 0 }, { name := "bytes", type := (.array .byte), accessFlags := 16, slot := 1, constantValue := 0 }, { name := "pos", type := .int, accessFlags := 0, slot := 2, constantValue := 0 }, { name := "limit", type := .int, accessFlags := 0, slot := 3, constantValue := 0 }, { name := "discarded", type := .long, accessFlags := 2, slot := 4, constantValue := 0 }, { name := "inputEnded", type := .boolean, accessFlags := 2, slot := 5, constantValue := 0 }, { name := "xml11", type := .boolean, accessFlags := 0, slot := 6, constantValue := 0 }, { name := "nameRead", type := (.object "com/example/zoria/zoria/xml/NameRead"), accessFlags := 16, slot := 7, constantValue := 0 }, { name := "names", type := (.array (.object "com/example/zoria/zoria/xml/XmlName")), accessFlags := 18, slot := 8, constantValue := 0 }, { name := "nameCount", type := .int, accessFlags := 2, slot := 9, constantValue := 0 }, { name := "nameBytes", type := (.array .byte), accessFlags := 2, slot := 10, constantValue := 0 }]
  methods := #[]
  instanceTypes := #[(.object "java/io/InputStream"), (.array .byte), .int, .int, .long, .boolean, .boolean, (.object "com/example/zoria/zoria/xml/NameRead"), (.array (.object "com/example/zoria/zoria/xml/XmlName")), .int, (.array .byte)]
  staticTypes := #[.int, .int, .int, .int, .int, (.object "java/lang/String"), (.object "java/lang/String"), .int, .int]
  resolved := Array.replicate 333 none
  statics := none }

def pool5 : Array CpInfo := pool [(1, .class_ 2), (0, u "com/example/zoria/zoria/xml/XmlInput"), (7, .class_ 12), (1, u "com/example/zoria/zoria/xml/XmlScanner$Place"), (1, u "Lcom/example/zoria/zoria/xml/XmlScanner$Place;"), (1, .class_ 18), (1, u "com/example/zoria/zoria/xml/XmlScanner"), (0, u "place"), (4, u "openNames"), (0, u "[Lcom/example/zoria/zoria/xml/XmlName;"), (2, u "openBindings"), (0, u "[I"), (2, u "openScopes"), (2, u "passedOver"), (0, u "[Z"), (2, u "heldNames"), (2, u "passedTextIsSpace"), (0, u "Z"), (7, u "declaringTag"), (0, u "Lcom/example/zoria/zoria/xml/DeclaringEmptyTag;"), (2, u "wholeTagStart"), (0, u "I"), (2, u "declaringTagDepth"), (2, u "lateRefusals"), (7, u "scope"), (0, u "Lcom/example/zoria/zoria/xml/NamespaceScope;"), (3, u "heldDeclaration"), (0, u "Lcom/example/zoria/zoria/xml/XmlName;"), (2, u "declaredTag"), (0, u "[B"), (5, u "attributeNames"), (0, u "Lcom/example/zoria/zoria/xml/TextBuffer;"), (2, u "nameEnds"), (2, u "localStarts"), (2, u "attributeBindings"), (2, u "valueEnds"), (3, u "values"), (2, u "attributeTable"), (12, u "key"), (0, u "J"), (2, u "text"), (6, u "showsFilled"), (2, u "depth"), (6, u "named"), (0, u "Lcom/example/zoria/zoria/xml/NameIndex;"), (2, u "namedNamespace"), (0, u "Ljava/lang/String;"), (2, u "namedDepth"), (2, u "startedNamed"), (5, u "stoppedAt"), (0, u "Lcom/example/zoria/zoria/xml/XmlScanner$Event;"), (2, u "endPending"), (19, u "textIsSpace"), (14, u "PLAIN_TEXT"), (10, u "heldSpace"), (10, u "plainTextEnd"), (2, u "plainTextStart"), (8, u "charDataStart"), (47, u "readAsDeclaringTag"), (34, u "binding"), (11, u "steps"), (4, u "attributeCount"), (2, u "name"), (5, u "passedStarts"), (18, u "namespaceTold"), (2, u "namespaceAsked"), (6, u "namespaceToldIsAsked"), (60, u "beyondXml10"), (5, u "BYTE_ORDER_MARK"), (18, .class_ 456), (1, u "com/example/zoria/zoria/xml/XmlScanner$Event"), (102, u "firstNameRepeat"), (2, u "lastDeclaration"), (24, u "declaredTagNameEnd"), (24, u "PLAIN_VALUE"), (17, u "declaredTagLength"), (2, u "declaredTagDeclarations"), (2, u "declaredTagState"), (10, u "declaredTagEmpty"), (39, u "XML_BYTES"), (2, u "XMLNS_BYTES"), (69, u "heldSpaceStart"), (13, .integer 65535), (11, u "PREDEFINED_ENTITIES"), (0, u "[[B"), (20, u "isReferable"), (0, u "(IZ)Z"), (2, .integer 55296), (0, .integer 57343), (0, .integer 65534), (0, .integer 1114111), (2, u "IN_COMMENT"), (26, u "IN_INSTRUCTION"), (16, u "VERSION_NUMBER"), (0, u "[[Z"), (8, u "ENCODING_NAME"), (4, u "STANDALONE"), (73, u "MAX_LEVELS_BELOW_ROOT"), (2, u "MAX_IN_SCOPE"), (0, u "MAX_ATTRIBUTES"), (1, u "MAX_TEXT_LENGTH"), (0, u "MAX_NAMESPACE_LENGTH"), (1, u "XML"), (0, u "SAME_ATTRIBUTES"), (0, u "UNDECLARED_ENTITY"), (0, u "NOT_A_NUMBER"), (0, u "PREDEFINED_CHARACTERS"), (0, u "TEXT_ROOM"), (0, u "ASCII_RUN"), (1, u "PAIRWISE_ATTRIBUTES"), (1, u "LATE_REFUSALS_TRIED"), (1, u "NOT_KNOWN"), (1, u "REPEATED"), (1, u "NOT_REPEATED"), (0, u "DIGITS"), (0, u "LETTERS")] 71

def k5c0 : Code := { maxStack := 2, maxLocals := 4, code := prog_134_method_79_code, exceptionTable := #[], attributes := #[] }
def k5m0 : Method := { name := "isReferable", desc := "(IZ)Z", sig := { parameters := [.int, .boolean], returnType := some .boolean }, accessFlags := 8, code := some k5c0 }
/-- com/example/zoria/zoria/xml/XmlScanner -/
def k5 : Class := { plain "com/example/zoria/zoria/xml/XmlScanner" (some 4) with
  accessFlags := 49
  interfaces := #[]
  cf := some (fileOf pool5 16 #[.nestMembers #[10, 454]] #[{ accessFlags := 8, nameIndex := 808, descriptorIndex := 809, attributes := #[] }] 49 1 #[] #[{ accessFlags := 25, nameIndex := 951, descriptorIndex := 56, attributes := #[] }, { accessFlags := 25, nameIndex := 954, descriptorIndex := 56, attributes := #[] }, { accessFlags := 24, nameIndex := 955, descriptorIndex := 56, attributes := #[] }, { accessFlags := 25, nameIndex := 957, descriptorIndex := 56, attributes := #[] }, { accessFlags := 25, nameIndex := 958, descriptorIndex := 56, attributes := #[] }, { accessFlags := 26, nameIndex := 435, descriptorIndex := 80, attributes := #[] }, { accessFlags := 26, nameIndex := 690, descriptorIndex := 80, attributes := #[] }, { accessFlags := 26, nameIndex := 960, descriptorIndex := 145, attributes := #[] }, { accessFlags := 26, nameIndex := 687, descriptorIndex := 80, attributes := #[] }, { accessFlags := 26, nameIndex := 961, descriptorIndex := 145, attributes := #[] }, { accessFlags := 26, nameIndex := 962, descriptorIndex := 145, attributes := #[] }, { accessFlags := 26, nameIndex := 963, descriptorIndex := 145, attributes := #[] }, { accessFlags := 26, nameIndex := 786, descriptorIndex := 787, attributes := #[] }, { accessFlags := 26, nameIndex := 964, descriptorIndex := 145, attributes := #[] }, { accessFlags := 26, nameIndex := 965, descriptorIndex := 56, attributes := #[] }, { accessFlags := 26, nameIndex := 966, descriptorIndex := 56, attributes := #[] }, { accessFlags := 26, nameIndex := 968, descriptorIndex := 56, attributes := #[] }, { accessFlags := 26, nameIndex := 970, descriptorIndex := 56, attributes := #[] }, { accessFlags := 26, nameIndex := 972, descriptorIndex := 56, attributes := #[] }, { accessFlags := 26, nameIndex := 974, descriptorIndex := 56, attributes := #[] }, { accessFlags := 26, nameIndex := 976, descriptorIndex := 56, attributes := #[] }, { accessFlags := 26, nameIndex := 977, descriptorIndex := 145, attributes := #[] }, { accessFlags := 26, nameIndex := 978, descriptorIndex := 145, attributes := #[] }, { accessFlags := 26, nameIndex := 862, descriptorIndex := 863, attributes := #[] }, { accessFlags := 26, nameIndex := 872, descriptorIndex := 863, attributes := #[] }, { accessFlags := 26, nameIndex := 877, descriptorIndex := 863, attributes := #[] }, { accessFlags := 26, nameIndex := 196, descriptorIndex := 36, attributes := #[] }, { accessFlags := 26, nameIndex := 612, descriptorIndex := 36, attributes := #[] }, { accessFlags := 26, nameIndex := 818, descriptorIndex := 36, attributes := #[] }, { accessFlags := 26, nameIndex := 845, descriptorIndex := 36, attributes := #[] }, { accessFlags := 2, nameIndex := 19, descriptorIndex := 14, attributes := #[] }, { accessFlags := 2, nameIndex := 157, descriptorIndex := 158, attributes := #[] }, { accessFlags := 2, nameIndex := 161, descriptorIndex := 43, attributes := #[] }, { accessFlags := 2, nameIndex := 24, descriptorIndex := 25, attributes := #[] }, { accessFlags := 2, nameIndex := 28, descriptorIndex := 29, attributes := #[] }, { accessFlags := 2, nameIndex := 32, descriptorIndex := 29, attributes := #[] }, { accessFlags := 2, nameIndex := 35, descriptorIndex := 36, attributes := #[] }, { accessFlags := 2, nameIndex := 39, descriptorIndex := 25, attributes := #[] }, { accessFlags := 2, nameIndex := 133, descriptorIndex := 56, attributes := #[] }, { accessFlags := 2, nameIndex := 325, descriptorIndex := 120, attributes := #[] }, { accessFlags := 2, nameIndex := 339, descriptorIndex := 120, attributes := #[] }, { accessFlags := 2, nameIndex := 333, descriptorIndex := 76, attributes := #[] }, { accessFlags := 2, nameIndex := 313, descriptorIndex := 56, attributes := #[] }, { accessFlags := 2, nameIndex := 358, descriptorIndex := 145, attributes := #[] }, { accessFlags := 2, nameIndex := 361, descriptorIndex := 145, attributes := #[] }, { accessFlags := 2, nameIndex := 368, descriptorIndex := 43, attributes := #[] }, { accessFlags := 2, nameIndex := 140, descriptorIndex := 141, attributes := #[] }, { accessFlags := 2, nameIndex := 144, descriptorIndex := 145, attributes := #[] }, { accessFlags := 2, nameIndex := 148, descriptorIndex := 56, attributes := #[] }, { accessFlags := 2, nameIndex := 151, descriptorIndex := 43, attributes := #[] }, { accessFlags := 2, nameIndex := 130, descriptorIndex := 43, attributes := #[] }, { accessFlags := 2, nameIndex := 42, descriptorIndex := 43, attributes := #[] }, { accessFlags := 18, nameIndex := 51, descriptorIndex := 52, attributes := #[] }, { accessFlags := 2, nameIndex := 278, descriptorIndex := 43, attributes := #[] }, { accessFlags := 2, nameIndex := 55, descriptorIndex := 56, attributes := #[] }, { accessFlags := 2, nameIndex := 59, descriptorIndex := 56, attributes := #[] }, { accessFlags := 2, nameIndex := 62, descriptorIndex := 29, attributes := #[] }, { accessFlags := 18, nameIndex := 70, descriptorIndex := 71, attributes := #[] }, { accessFlags := 18, nameIndex := 75, descriptorIndex := 76, attributes := #[] }, { accessFlags := 2, nameIndex := 562, descriptorIndex := 76, attributes := #[] }, { accessFlags := 18, nameIndex := 79, descriptorIndex := 80, attributes := #[] }, { accessFlags := 2, nameIndex := 630, descriptorIndex := 56, attributes := #[] }, { accessFlags := 2, nameIndex := 633, descriptorIndex := 56, attributes := #[] }, { accessFlags := 2, nameIndex := 636, descriptorIndex := 120, attributes := #[] }, { accessFlags := 2, nameIndex := 647, descriptorIndex := 43, attributes := #[] }, { accessFlags := 2, nameIndex := 587, descriptorIndex := 56, attributes := #[] }, { accessFlags := 2, nameIndex := 559, descriptorIndex := 56, attributes := #[] }, { accessFlags := 18, nameIndex := 86, descriptorIndex := 87, attributes := #[] }, { accessFlags := 2, nameIndex := 90, descriptorIndex := 29, attributes := #[] }, { accessFlags := 2, nameIndex := 93, descriptorIndex := 29, attributes := #[] }, { accessFlags := 2, nameIndex := 96, descriptorIndex := 29, attributes := #[] }, { accessFlags := 2, nameIndex := 99, descriptorIndex := 29, attributes := #[] }, { accessFlags := 2, nameIndex := 330, descriptorIndex := 56, attributes := #[] }, { accessFlags := 18, nameIndex := 103, descriptorIndex := 87, attributes := #[] }, { accessFlags := 2, nameIndex := 106, descriptorIndex := 29, attributes := #[] }, { accessFlags := 18, nameIndex := 119, descriptorIndex := 120, attributes := #[] }, { accessFlags := 18, nameIndex := 123, descriptorIndex := 87, attributes := #[] }, { accessFlags := 2, nameIndex := 181, descriptorIndex := 43, attributes := #[] }, { accessFlags := 2, nameIndex := 760, descriptorIndex := 56, attributes := #[] }, { accessFlags := 2, nameIndex := 207, descriptorIndex := 56, attributes := #[] }, { accessFlags := 2, nameIndex := 221, descriptorIndex := 56, attributes := #[] }, { accessFlags := 2, nameIndex := 218, descriptorIndex := 56, attributes := #[] }, { accessFlags := 2, nameIndex := 230, descriptorIndex := 56, attributes := #[] }, { accessFlags := 2, nameIndex := 429, descriptorIndex := 43, attributes := #[] }])
  fields := #[{ name := "MAX_LEVELS_BELOW_ROOT", type := .int, accessFlags := 25, slot := 0, constantValue := 0 }, { name := "MAX_IN_SCOPE", type := .int, accessFlags := 25, slot := 1, constantValue := 0 }, { name := "MAX_ATTRIBUTES", type := .int, accessFlags := 24, slot := 2, constantValue := 0 }, { name := "MAX_TEXT_LENGTH", type := .int, accessFlags := 25, slot := 3, constantValue := 0 }, { name := "MAX_NAMESPACE_LENGTH", type := .int, accessFlags := 25, slot := 4, constantValue := 0 }, { name := "BYTE_ORDER_MARK", type := (.array .byte), accessFlags := 26, slot := 5, constantValue := 0 }, { name := "XMLNS_BYTES", type := (.array .byte), accessFlags := 26, slot := 6, constantValue := 0 }, { name := "XML", type := (.object "java/lang/String"), accessFlags := 26, slot := 7, constantValue := 0 }, { name := "XML_BYTES", type := (.array .byte), accessFlags := 26, slot := 8, constantValue := 0 }, { name := "SAME_ATTRIBUTES", type := (.object "java/lang/String"), accessFlags := 26, slot := 9, constantValue := 0 }, { name := "UNDECLARED_ENTITY", type := (.object "java/lang/String"), accessFlags := 26, slot := 10, constantValue := 0 }, { name := "NOT_A_NUMBER", type := (.object "java/lang/String"), accessFlags := 26, slot := 11, constantValue := 0 }, { name := "PREDEFINED_ENTITIES", type := (.array (.array .byte)), accessFlags := 26, slot := 12, constantValue := 0 }, { name := "PREDEFINED_CHARACTERS", type := (.object "java/lang/String"), accessFlags := 26, slot := 13, constantValue := 0 }, { name := "TEXT_ROOM", type := .int, accessFlags := 26, slot := 14, constantValue := 0 }, { name := "ASCII_RUN", type := .int, accessFlags := 26, slot := 15, constantValue := 0 }, { name := "PAIRWISE_ATTRIBUTES", type := .int, accessFlags := 26, slot := 16, constantValue := 0 }, { name := "LATE_REFUSALS_TRIED", type := .int, accessFlags := 26, slot := 17, constantValue := 0 }, { name := "NOT_KNOWN", type := .int, accessFlags := 26, slot := 18, constantValue := 0 }, { name := "REPEATED", type := .int, accessFlags := 26, slot := 19, constantValue := 0 }, { name := "NOT_REPEATED", type := .int, accessFlags := 26, slot := 20, constantValue := 0 }, { name := "DIGITS", type := (.object "java/lang/String"), accessFlags := 26, slot := 21, constantValue := 0 }, { name := "LETTERS", type := (.object "java/lang/String"), accessFlags := 26, slot := 22, constantValue := 0 }, { name := "VERSION_NUMBER", type := (.array (.array .boolean)), accessFlags := 26, slot := 23, constantValue := 0 }, { name := "ENCODING_NAME", type := (.array (.array .boolean)), accessFlags := 26, slot := 24, constantValue := 0 }, { name := "STANDALONE", type := (.array (.array .boolean)), accessFlags := 26, slot := 25, constantValue := 0 }, { name := "PLAIN_TEXT", type := (.array .boolean), accessFlags := 26, slot := 26, constantValue := 0 }, { name := "PLAIN_VALUE", type := (.array .boolean), accessFlags := 26, slot := 27, constantValue := 0 }, { name := "IN_COMMENT", type := (.array .boolean), accessFlags := 26, slot := 28, constantValue := 0 }, { name := "IN_INSTRUCTION", type := (.array .boolean), accessFlags := 26, slot := 29, constantValue := 0 }, { name := "place", type := (.object "com/example/zoria/zoria/xml/XmlScanner$Place"), accessFlags := 2, slot := 11, constantValue := 0 }, { name := "stoppedAt", type := (.object "com/example/zoria/zoria/xml/XmlScanner$Event"), accessFlags := 2, slot := 12, constantValue := 0 }, { name := "endPending", type := .boolean, accessFlags := 2, slot := 13, constantValue := 0 }, { name := "openNames", type := (.array (.object "com/example/zoria/zoria/xml/XmlName")), accessFlags := 2, slot := 14, constantValue := 0 }, { name := "openBindings", type := (.array .int), accessFlags := 2, slot := 15, constantValue := 0 }, { name := "openScopes", type := (.array .int), accessFlags := 2, slot := 16, constantValue := 0 }, { name := "passedOver", type := (.array .boolean), accessFlags := 2, slot := 17, constantValue := 0 }, { name := "heldNames", type := (.array (.object "com/example/zoria/zoria/xml/XmlName")), accessFlags := 2, slot := 18, constantValue := 0 }, { name := "depth", type := .int, accessFlags := 2, slot := 19, constantValue := 0 }, { name := "steps", type := .long, accessFlags := 2, slot := 20, constantValue := 0 }, { name := "passedStarts", type := .long, accessFlags := 2, slot := 21, constantValue := 0 }, { name := "name", type := (.object "com/example/zoria/zoria/xml/XmlName"), accessFlags := 2, slot := 22, constantValue := 0 }, { name := "binding", type := .int, accessFlags := 2, slot := 23, constantValue := 0 }, { name := "namespaceTold", type := (.object "java/lang/String"), accessFlags := 2, slot := 24, constantValue := 0 }, { name := "namespaceAsked", type := (.object "java/lang/String"), accessFlags := 2, slot := 25, constantValue := 0 }, { name := "namespaceToldIsAsked", type := .boolean, accessFlags := 2, slot := 26, constantValue := 0 }, { name := "named", type := (.object "com/example/zoria/zoria/xml/NameIndex"), accessFlags := 2, slot := 27, constantValue := 0 }, { name := "namedNamespace", type := (.object "java/lang/String"), accessFlags := 2, slot := 28, constantValue := 0 }, { name := "namedDepth", type := .int, accessFlags := 2, slot := 29, constantValue := 0 }, { name := "startedNamed", type := .boolean, accessFlags := 2, slot := 30, constantValue := 0 }, { name := "showsFilled", type := .boolean, accessFlags := 2, slot := 31, constantValue := 0 }, { name := "passedTextIsSpace", type := .boolean, accessFlags := 2, slot := 32, constantValue := 0 }, { name := "declaringTag", type := (.object "com/example/zoria/zoria/xml/DeclaringEmptyTag"), accessFlags := 18, slot := 33, constantValue := 0 }, { name := "readAsDeclaringTag", type := .boolean, accessFlags := 2, slot := 34, constantValue := 0 }, { name := "wholeTagStart", type := .int, accessFlags := 2, slot := 35, constantValue := 0 }, { name := "declaringTagDepth", type := .int, accessFlags := 2, slot := 36, constantValue := 0 }, { name := "lateRefusals", type := (.array .int), accessFlags := 2, slot := 37, constantValue := 0 }, { name := "scope", type := (.object "com/example/zoria/zoria/xml/NamespaceScope"), accessFlags := 18, slot := 38, constantValue := 0 }, { name := "heldDeclaration", type := (.object "com/example/zoria/zoria/xml/XmlName"), accessFlags := 18, slot := 39, constantValue := 0 }, { name := "lastDeclaration", type := (.object "com/example/zoria/zoria/xml/XmlName"), accessFlags := 2, slot := 40, constantValue := 0 }, { name := "declaredTag", type := (.array .byte), accessFlags := 18, slot := 41, constantValue := 0 }, { name := "declaredTagLength", type := .int, accessFlags := 2, slot := 42, constantValue := 0 }, { name := "declaredTagDeclarations", type := .int, accessFlags := 2, slot := 43, constantValue := 0 }, { name := "declaredTagState", type := .long, accessFlags := 2, slot := 44, constantValue := 0 }, { name := "declaredTagEmpty", type := .boolean, accessFlags := 2, slot := 45, constantValue := 0 }, { name := "declaredTagNameEnd", type := .int, accessFlags := 2, slot := 46, constantValue := 0 }, { name := "firstNameRepeat", type := .int, accessFlags := 2, slot := 47, constantValue := 0 }, { name := "attributeNames", type := (.object "com/example/zoria/zoria/xml/TextBuffer"), accessFlags := 18, slot := 48, constantValue := 0 }, { name := "nameEnds", type := (.array .int), accessFlags := 2, slot := 49, constantValue := 0 }, { name := "localStarts", type := (.array .int), accessFlags := 2, slot := 50, constantValue := 0 }, { name := "attributeBindings", type := (.array .int), accessFlags := 2, slot := 51, constantValue := 0 }, { name := "valueEnds", type := (.array .int), accessFlags := 2, slot := 52, constantValue := 0 }, { name := "attributeCount", type := .int, accessFlags := 2, slot := 53, constantValue := 0 }, { name := "values", type := (.object "com/example/zoria/zoria/xml/TextBuffer"), accessFlags := 18, slot := 54, constantValue := 0 }, { name := "attributeTable", type := (.array .int), accessFlags := 2, slot := 55, constantValue := 0 }, { name := "key", type := .long, accessFlags := 18, slot := 56, constantValue := 0 }, { name := "text", type := (.object "com/example/zoria/zoria/xml/TextBuffer"), accessFlags := 18, slot := 57, constantValue := 0 }, { name := "textIsSpace", type := .boolean, accessFlags := 2, slot := 58, constantValue := 0 }, { name := "heldSpaceStart", type := .int, accessFlags := 2, slot := 59, constantValue := 0 }, { name := "heldSpace", type := .int, accessFlags := 2, slot := 60, constantValue := 0 }, { name := "plainTextStart", type := .int, accessFlags := 2, slot := 61, constantValue := 0 }, { name := "plainTextEnd", type := .int, accessFlags := 2, slot := 62, constantValue := 0 }, { name := "charDataStart", type := .int, accessFlags := 2, slot := 63, constantValue := 0 }, { name := "beyondXml10", type := .boolean, accessFlags := 2, slot := 64, constantValue := 0 }]
  methods := #[k5m0]
  instanceTypes := #[(.object "java/io/InputStream"), (.array .byte), .int, .int, .long, .boolean, .boolean, (.object "com/example/zoria/zoria/xml/NameRead"), (.array (.object "com/example/zoria/zoria/xml/XmlName")), .int, (.array .byte), (.object "com/example/zoria/zoria/xml/XmlScanner$Place"), (.object "com/example/zoria/zoria/xml/XmlScanner$Event"), .boolean, (.array (.object "com/example/zoria/zoria/xml/XmlName")), (.array .int), (.array .int), (.array .boolean), (.array (.object "com/example/zoria/zoria/xml/XmlName")), .int, .long, .long, (.object "com/example/zoria/zoria/xml/XmlName"), .int, (.object "java/lang/String"), (.object "java/lang/String"), .boolean, (.object "com/example/zoria/zoria/xml/NameIndex"), (.object "java/lang/String"), .int, .boolean, .boolean, .boolean, (.object "com/example/zoria/zoria/xml/DeclaringEmptyTag"), .boolean, .int, .int, (.array .int), (.object "com/example/zoria/zoria/xml/NamespaceScope"), (.object "com/example/zoria/zoria/xml/XmlName"), (.object "com/example/zoria/zoria/xml/XmlName"), (.array .byte), .int, .int, .long, .boolean, .int, .int, (.object "com/example/zoria/zoria/xml/TextBuffer"), (.array .int), (.array .int), (.array .int), (.array .int), .int, (.object "com/example/zoria/zoria/xml/TextBuffer"), (.array .int), .long, (.object "com/example/zoria/zoria/xml/TextBuffer"), .boolean, .int, .int, .int, .int, .int, .boolean]
  staticTypes := #[.int, .int, .int, .int, .int, (.array .byte), (.array .byte), (.object "java/lang/String"), (.array .byte), (.object "java/lang/String"), (.object "java/lang/String"), (.object "java/lang/String"), (.array (.array .byte)), (.object "java/lang/String"), .int, .int, .int, .int, .int, .int, .int, (.object "java/lang/String"), (.object "java/lang/String"), (.array (.array .boolean)), (.array (.array .boolean)), (.array (.array .boolean)), (.array .boolean), (.array .boolean), (.array .boolean), (.array .boolean)]
  resolved := Array.replicate 1050 none
  statics := none }

def pool6 : Array CpInfo := pool [(1, u "java/lang/Cloneable"), (0, .class_ 1), (0, u "java/lang/Object"), (0, .class_ 3)] 3

/-- java/lang/Cloneable -/
def k6 : Class := { plain "java/lang/Cloneable" (some 0) with
  accessFlags := 1537
  interfaces := #[]
  cf := some (fileOf pool6 2 #[] #[] 1537 4 #[] #[])
  fields := #[]
  methods := #[]
  instanceTypes := #[]
  staticTypes := #[]
  resolved := Array.replicate 8 none
  statics := none }

def pool7 : Array CpInfo := pool [(1, u "java/io/Serializable"), (0, .class_ 1), (0, u "java/lang/Object"), (0, .class_ 3)] 3

/-- java/io/Serializable -/
def k7 : Class := { plain "java/io/Serializable" (some 0) with
  accessFlags := 1537
  interfaces := #[]
  cf := some (fileOf pool7 2 #[] #[] 1537 4 #[] #[])
  fields := #[]
  methods := #[]
  instanceTypes := #[]
  staticTypes := #[]
  resolved := Array.replicate 8 none
  statics := none }

/-- the primitive byte -/
def k8 : Class := { plain "byte" none with kind := .primitive 'B', accessFlags := 0x411 }
/-- [B -/
def k9 : Class := { plain "[B" (some 0) with kind := .array 8 .byte, interfaces := #[6, 7], accessFlags := 1041 }

/-- the primitive int -/
def k10 : Class := { plain "int" none with kind := .primitive 'I', accessFlags := 0x411 }
/-- [I -/
def k11 : Class := { plain "[I" (some 0) with kind := .array 10 .int, interfaces := #[6, 7], accessFlags := 1041 }

def heap : Heap := #[]
def classes : Array Class := #[k0, k1, k2, k3, k4, k5, k6, k7, k8, k9, k10, k11]
def interned : List (Array UInt16 × Addr) := []
def slotsUsed : Nat := 0
def theMethod : MethodId := ⟨1, 1⟩
def args0 : Array Value := #[.int 5, .int 5]
def aboutOver (below : List Frame) : State where
  vm := { classes := classes, interned := interned.toArray }
  heap := heap
  slotsUsed := slotsUsed
  threads := #[{ frames := .invoking theMethod args0 :: below }]
def below0 : List Frame := [.native { method := ⟨0, 0⟩, args := #[] }]
def about1 : State := aboutOver below0
def p0 : Program := .bare "" "" ""
def e0 : Env := launch0.env 0 0 0
theorem w_frames : about1.frames = Frame.invoking theMethod args0 :: below0 := rfl
set_option maxRecDepth 65536 in
theorem w_args : argsFit about1.vm theMethod args0 = true := by decide +kernel
set_option maxRecDepth 65536 in
theorem w_heap : heapFits about1 = true := by decide +kernel
set_option maxRecDepth 65536 in
theorem w_runnable : about1.curStatus? = some .runnable := by decide +kernel
set_option maxRecDepth 65536 in
theorem w_alone : about1.alone = true := by decide +kernel
set_option maxRecDepth 65536 in
theorem w_named : about1.methodNamed? x = some theMethod := by decide +kernel
set_option maxRecDepth 65536 in
theorem w_hears : about1.hears theMethod below0 = true := by decide +kernel
set_option maxRecDepth 65536 in
theorem w_ripe : about1.ripe theMethod args0 below0 = true := by decide +kernel
theorem w_running : about1.status = .running := rfl
set_option maxRecDepth 65536 in
theorem w_room : about1.hasRoom e0.platform room_1 = true :=
  launch0.hasRoom_least _ room_1 (by decide +kernel) (by decide +kernel) (by decide +kernel) (by decide +kernel) (by decide +kernel) (by decide +kernel)
theorem allAtoms_all (ts : List Jvm.Cond) (a : Array Jvm.Value) (st : Jvm.State) : (allAtoms ts).before a st = ts.all (fun c => c.before a st) := by
  induction ts with
  | nil => rfl
  | cons c t ih =>
    show (Jvm.Cond.and c (allAtoms t)).before a st = _
    rw [Jvm.Cond.before_and, ih, List.all_cons]
def words1 : List Jvm.Cond := Jvm.Cond.code x code maxLocals ret :: tables_1
/-- a 'code' word, met by the world's own term for the bytes: nothing is compared byte by byte -/
theorem code_word {y : MethodName} {bytes : ByteArray} {mx : Nat} {rt : Option FieldType} {a : Array Value} {s : State} {m : MethodId} {meth : Method} {c : Code} (h1 : s.methodNamed? y = some m) (h2 : s.vm.method? m = some meth) (h3 : meth.code = some c) (h4 : c.code = bytes)
    (h5 : (c.maxLocals == mx && c.exceptionTable.isEmpty && decide (c.maxStack ≤ mostOperands) && decide (meth.sig.returnType = rt) && !meth.locks && decide (parseMethodDescriptor y.desc = some meth.sig)) = true) : (Jvm.Cond.code y bytes mx rt).before a s = true := by
  simp only [Bool.and_eq_true, beq_iff_eq, Bool.not_eq_true', decide_eq_true_eq] at h5
  obtain ⟨⟨⟨⟨⟨g1, g2⟩, g3⟩, g4⟩, g5⟩, g6⟩ := h5
  simp [Cond.before, Cond.holds, Cond.value, h1, h2, h3, h4, g1, g2, g3, g4, g5, g6]
def isCode : Jvm.Cond → Bool
  | .code _ _ _ _ => true
  | _ => false
theorem all_split {L : List Jvm.Cond} {P : Jvm.Cond → Bool} (h1 : L.all (fun c => isCode c || P c) = true) (h2 : ∀ c ∈ L.filter isCode, P c = true) : L.all P = true := by
  refine List.all_eq_true.mpr fun c hc => ?_
  have h := List.all_eq_true.mp h1 c hc
  rcases Bool.eq_false_or_eq_true (isCode c) with hi | hi
  · exact h2 c (List.mem_filter.mpr ⟨hc, hi⟩)
  · simpa [hi] using h
set_option maxRecDepth 65536 in
theorem w_c0 : (Jvm.Cond.code x code maxLocals ret).before args0 about1 = true := code_word (m := ⟨1, 1⟩) (meth := k1m1) (c := k1c1) (by decide +kernel) rfl rfl rfl (by decide +kernel)
set_option maxRecDepth 65536 in
theorem w_c1 : (Jvm.Cond.code ({ cls := "com/example/zoria/zoria/xml/XmlScannerIsReferablePinLaw", name := "expected", desc := "(IZ)Z" } : Jvm.MethodName) method_3_code (2 : Nat) (Option.some Jvm.ClassFile.FieldType.boolean)).before args0 about1 = true := code_word (m := ⟨1, 2⟩) (meth := k1m2) (c := k1c2) (by decide +kernel) rfl rfl rfl (by decide +kernel)
set_option maxRecDepth 65536 in
theorem w_c2 : (Jvm.Cond.code ({ cls := "com/example/zoria/zoria/xml/XmlScanner", name := "isReferable", desc := "(IZ)Z" } : Jvm.MethodName) prog_134_method_79_code (4 : Nat) (Option.some Jvm.ClassFile.FieldType.boolean)).before args0 about1 = true := code_word (m := ⟨5, 0⟩) (meth := k5m0) (c := k5c0) (by decide +kernel) rfl rfl rfl (by decide +kernel)
def codes1 : List Jvm.Cond := [Jvm.Cond.code x code maxLocals ret, Jvm.Cond.code ({ cls := "com/example/zoria/zoria/xml/XmlScannerIsReferablePinLaw", name := "expected", desc := "(IZ)Z" } : Jvm.MethodName) method_3_code (2 : Nat) (Option.some Jvm.ClassFile.FieldType.boolean), Jvm.Cond.code ({ cls := "com/example/zoria/zoria/xml/XmlScanner", name := "isReferable", desc := "(IZ)Z" } : Jvm.MethodName) prog_134_method_79_code (4 : Nat) (Option.some Jvm.ClassFile.FieldType.boolean)]
set_option maxRecDepth 65536 in
theorem codes_eq : words1.filter isCode = codes1 := rfl
theorem w_codes : ∀ c ∈ words1.filter isCode, c.before args0 about1 = true := by
  rw [codes_eq]
  intro c hc
  simp only [codes1, List.mem_cons, List.not_mem_nil, or_false] at hc
  rcases hc with rfl | rfl | rfl
  · exact w_c0
  · exact w_c1
  · exact w_c2
set_option maxRecDepth 65536 in
theorem w_t1 : (words1.take 24).all (fun c => isCode c || c.before args0 about1) = true := by decide +kernel
set_option maxRecDepth 65536 in
theorem w_t2 : (words1.drop 24).all (fun c => isCode c || c.before args0 about1) = true := by decide +kernel
theorem w_tables : (allAtoms (Jvm.Cond.code x code maxLocals ret :: tables_1)).before args0 about1 = true := by
  rw [allAtoms_all]
  show words1.all (fun c => c.before args0 about1) = true
  refine all_split ?_ w_codes
  rw [← List.take_append_drop 24 words1, List.all_append, w_t1, w_t2]
  rfl
set_option maxRecDepth 65536 in
theorem w_case : (Jvm.Cond.and given_1 narrow_1).before args0 about1 = true := by decide +kernel
theorem w_applies : (headSpec (Jvm.Cond.code x code maxLocals ret :: tables_1) room_1).applies x e0.platform about1 = true :=
  (Spec.applies_iff w_frames).mpr ⟨w_running, w_runnable, w_alone, w_named, w_hears, w_ripe, w_room, w_tables⟩
theorem atStart : AtStart classFile x code maxLocals ret World_1 tables_1 room_1 Calls_1 rest_1 Pre_1 launch0 p0 e0 about1 theMethod args0 below0 :=
  ⟨lists_1, trivial, launch0.admits_env _ _ _, launch0.least_env, fairChoices_fair.cas, fairChoices_fair.clock, w_frames, w_args, w_heap, w_applies, trivial, trivial, w_case⟩
end start1
theorem witness_1 : WitnessClaimed_1 := ⟨start1.p0, start1.e0, start1.about1, start1.theMethod, start1.args0, start1.below0, start1.atStart⟩
end Jvm.Pilot.@@N@@

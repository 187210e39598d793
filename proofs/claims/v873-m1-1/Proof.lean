import JvmDerived
import JvmDerived.Pilot.@@N@@Statement
import JvmDerived.Pilot.@@N@@Code
set_option linter.unusedVariables false
set_option linter.unusedSimpArgs false
namespace Jvm.RoadKit
open Sem ClassFile Op Lib Jvm.Stand Jvm.Free Jvm.LawKit
section New
variable {p : Program} {l : Launch} {e : Env} {R : Room} {s : State} {m : MethodId} {args : Array Value} {below : List Frame} {meth : Method} {c : Code} {T : State} {locs : List Loc} {cells slots : Nat}
theorem retI (X : Stand p l e R s m args below meth c T locs cells slots) (hx : p.tables.exec = Jvm.exec) {pc : Nat} {Ls : Array Slot} {z : Int32} {rest : List Value} (hret : meth.sig.returnType = some .int) (hd : decode c.code pc = .ok (.ireturn, 1)) {fs : List Frame}
    (hl : ∀ (f : JFrame) (acts : List Action), f.method = m → f.locked = none → f.entered = [] → (doReturn e (T.setTop f) acts (some (.int z))).1 = T.setFrames fs) : Steps p.tables e below (T.setTop (mkF m pc Ls (.int z :: rest))) (T.setFrames fs) := by
  have hm' : T.vm.method? m = some meth := X.method'
  have hn : narrow .int (.int z) = .int z := rfl
  show Steps p.tables e below (T.setTop { method := m, pc := pc, locals := Ls, stack := _ :: rest, locked := none }) _
  jvm_step X.here [X.here.top, hx, hd, hm', hret, hn]
  first | (intro acts; rw [hl _ acts rfl rfl rfl]) | rw [hl _ _ rfl rfl rfl]
  exact Steps.refl _
end New
end Jvm.RoadKit
namespace Jvm.Pilot.@@N@@
open Jvm Jvm.ClassFile Sem Op Lib Jvm.Free Jvm.Stand Jvm.LawKit Jvm.RoadKit Bundle Jvm.Pilot.@@N@@.Jvm.D
section OwnKit
variable {p : Program} {l : Launch} {e : Env} {R : Room} {s : State} {m : MethodId} {args : Array Value} {below : List Frame} {meth : Method} {c : Code} {T : State} {locs : List Loc} {cells slots : Nat}
/-- what a body owes from the state A on: it comes to its return, and what it returned, the heap and the written places satisfy Q -/
def own_Fin (p : Program) (e : Env) (below : List Frame) (s : State) (Q : Option Value → Heap → List Loc → Prop) (rc rs : Nat) (A : State) : Prop :=
  ∃ s₂ o, Steps p.tables e below A s₂ ∧ s₂.status = .running ∧ Ended s₂ below o ∧ ∃ v L, o = .returned v ∧ Q v s₂.heap L ∧ FrameEnd s o s₂ L rc rs
theorem own_step {Q : Option Value → Heap → List Loc → Prop} {rc rs : Nat} {A B : State} (k : ∀ t, Steps p.tables e below B t → Steps p.tables e below A t) (h : own_Fin p e below s Q rc rs B) : own_Fin p e below s Q rc rs A := by
  obtain ⟨s₂, o, h1, h2⟩ := h
  exact ⟨s₂, o, k _ h1, h2⟩
theorem own_retN (X : Stand p l e R s m args below meth c T locs cells slots) (hx : p.tables.exec = Jvm.exec) (hlk : meth.locks = false) {Q : Option Value → Heap → List Loc → Prop} {rc rs n0 : Nat} {h : Heap} {pc : Nat} {Ls : Array Slot} {z v : Int32} {t : FieldType} {rest : List Value} (hret : meth.sig.returnType = some t) (ht : t = .boolean ∨ t = .byte ∨ t = .char ∨ t = .short)
    (hd : decode c.code pc = .ok (.ireturn, 1)) (hc : cells ≤ rc) (hs : slots ≤ rs) (eT : T.heap = h) (N : Fr n0 locs) (hQ : ∀ L', Fr n0 L' → Q (some (.int v)) h L') (hv : v = nar t z) :
    own_Fin p e below s Q rc rs (T.setTop (mkF m pc Ls (.int z :: rest))) := by
  subst hv
  obtain ⟨fs, hr, hrun, hended, hW, hsame⟩ := X.leave (v := some (.int (nar t z))) (fun h => by rw [hret] at h; cases h) hlk
  refine ⟨_, _, retN X hx hret ht hd hr, hrun, hended, _, _, rfl, ?_, ⟨_, rfl⟩, hW, hsame.mono hc hs⟩
  show Q _ T.heap _
  rw [eT]
  exact hQ _ N
theorem own_retI (X : Stand p l e R s m args below meth c T locs cells slots) (hx : p.tables.exec = Jvm.exec) (hlk : meth.locks = false) {Q : Option Value → Heap → List Loc → Prop} {rc rs n0 : Nat} {h : Heap} {pc : Nat} {Ls : Array Slot} {z v : Int32} {rest : List Value} (hret : meth.sig.returnType = some .int)
    (hd : decode c.code pc = .ok (.ireturn, 1)) (hc : cells ≤ rc) (hs : slots ≤ rs) (eT : T.heap = h) (N : Fr n0 locs) (hQ : ∀ L', Fr n0 L' → Q (some (.int v)) h L') (hv : v = z) :
    own_Fin p e below s Q rc rs (T.setTop (mkF m pc Ls (.int z :: rest))) := by
  subst hv
  obtain ⟨fs, hr, hrun, hended, hW, hsame⟩ := X.leave (v := some (.int v)) (fun h => by rw [hret] at h; cases h) hlk
  refine ⟨_, _, retI X hx hret hd hr, hrun, hended, _, _, rfl, ?_, ⟨_, rfl⟩, hW, hsame.mono hc hs⟩
  show Q _ T.heap _
  rw [eT]
  exact hQ _ N
theorem own_ret0 (X : Stand p l e R s m args below meth c T locs cells slots) (hx : p.tables.exec = Jvm.exec) (hlk : meth.locks = false) {Q : Option Value → Heap → List Loc → Prop} {rc rs : Nat} {h : Heap} {pc : Nat} {Ls : Array Slot} (hret : meth.sig.returnType = none)
    (hd : decode c.code pc = .ok (.return_, 1)) (hc : cells ≤ rc) (hs : slots ≤ rs) (eT : T.heap = h) (hQ : Q none h locs) :
    own_Fin p e below s Q rc rs (T.setTop (mkF m pc Ls [])) := by
  obtain ⟨fs, hr, hrun, hended, hW, hsame⟩ := X.leave (v := none) (fun _ => rfl) hlk
  refine ⟨_, _, X.returnOut hx hret hd hr, hrun, hended, _, _, rfl, ?_, ⟨_, rfl⟩, hW, hsame.mono hc hs⟩
  show Q _ T.heap _
  rw [eT]
  exact hQ
end OwnKit
/-- an array of n ints (bytes, ..) at a: its i-th is g i -/
def own_AF (Z : State) (h : Heap) (a : Addr) (ty : FieldType) (n : Nat) (g : Nat → Int32) : Prop := ∃ c : Cell, Arr Z h a c ty ∧ c.slots.size = n ∧ ∀ i, i < n → c.slots[i]? = some (.int (g i))
def own_In (n : Nat) (j : Int32) : Prop := ¬ (j < 0 ∨ n ≤ j.toNatClampNeg)
theorem own_AF.lt {Z : State} {h : Heap} {a : Addr} {ty : FieldType} {n : Nat} {g : Nat → Int32} (F : own_AF Z h a ty n g) : a < h.size := by obtain ⟨c, A, -⟩ := F; exact A.lt
theorem own_AFext {Z : State} {h h' : Heap} {a : Addr} {ty : FieldType} {n : Nat} {g : Nat → Int32} (F : own_AF Z h a ty n g) (E : Ext h h') : own_AF Z h' a ty n g := by obtain ⟨c, A, r⟩ := F; exact ⟨c, A.ext E, r⟩
theorem own_AFoth {Z : State} {h h' : Heap} {a b : Addr} {sl : Nat} {v : Value} {ty : FieldType} {n : Nat} {g : Nat → Int32} (F : own_AF Z h b ty n g) (W : Wr h h' a sl v) (q : b ≠ a) : own_AF Z h' b ty n g := by obtain ⟨c, A, r⟩ := F; exact ⟨c, A.other W q, r⟩
theorem own_AFkeep {Z : State} {h h' : Heap} {a : Addr} {ws : List Addr} {ty : FieldType} {n : Nat} {g : Nat → Int32} (F : own_AF Z h a ty n g) (K : Keep h h' ws) (q : a ∉ ws) : own_AF Z h' a ty n g := by obtain ⟨c, A, r⟩ := F; exact ⟨c, ⟨K.2.1 a c A.1 q, A.2⟩, r⟩
theorem own_AFset {Z : State} {h h' : Heap} {a : Addr} {ty : FieldType} {n k : Nat} {g : Nat → Int32} {c : Cell} {x : Int32} (A : Arr Z h a c ty) (S : c.slots.size = n) (H : ∀ i, i < n → c.slots[i]? = some (.int (g i))) (W : Wr h h' a k (.int x)) : own_AF Z h' a ty n (fun i => if i = k then x else g i) := by
  obtain ⟨c', e1, e2, e3, e4, e5, e6, e7⟩ := wr_at W A.1
  refine ⟨c', ⟨e1, ?_⟩, e4.trans S, fun i hi => ?_⟩
  · rw [(e7 rfl).1]; exact A.2
  · by_cases q : i = k
    · subst q
      show c'.slots[i]? = some (.int (if i = i then x else g i))
      rw [if_pos rfl]
      exact (e7 rfl).2.1
    · show c'.slots[i]? = some (.int (if i = k then x else g i))
      rw [e6 i q, if_neg q]
      exact H i hi
theorem own_AFnew {Z : State} {h : Heap} {a : Addr} {k : ClassId} {ty : FieldType} {z : Int32} {n : Nat} (A : Arr Z h a (newA k ty z) ty) (hn : z.toNatClampNeg = n) (hd : defaultValue ty = .int 0 := by rfl) : own_AF Z h a ty n (fun _ => 0) :=
  ⟨_, A, (sz_new _ _ _).trans hn, fun i hi => by
    have hs : (newA k ty z).slots = Array.replicate z.toNatClampNeg (defaultValue ty) := rfl
    rw [hs, hn, hd]
    simp [hi]⟩
theorem own_eqi {x y : Int32} {b : Int} (h : y.toInt = b) : x = y ↔ x.toInt = b := by rw [← h]; exact Int32.toInt_inj.symm

theorem d1_0 : decode method_2_code 0 = .ok (.iload_n 0, 1) := by decide +kernel
theorem d1_1 : decode method_2_code 1 = .ok (.bipush 8, 2) := by decide +kernel
theorem d1_3 : decode method_2_code 3 = .ok (.iushr, 1) := by decide +kernel
theorem d1_4 : decode method_2_code 4 = .ok (.iconst 3, 1) := by decide +kernel
theorem d1_5 : decode method_2_code 5 = .ok (.iand, 1) := by decide +kernel
theorem d1_6 : decode method_2_code 6 = .ok (.istore_n 1, 1) := by decide +kernel
theorem d1_7 : decode method_2_code 7 = .ok (.iload_n 1, 1) := by decide +kernel
theorem d1_8 : decode method_2_code 8 = .ok (.iconst 1, 1) := by decide +kernel
theorem d1_9 : decode method_2_code 9 = .ok (.if_icmp .ne 6, 3) := by decide +kernel
theorem d1_12 : decode method_2_code 12 = .ok (.bipush 13, 2) := by decide +kernel
theorem d1_14 : decode method_2_code 14 = .ok (.ireturn, 1) := by decide +kernel
theorem d1_15 : decode method_2_code 15 = .ok (.iload_n 1, 1) := by decide +kernel
theorem d1_16 : decode method_2_code 16 = .ok (.iconst 2, 1) := by decide +kernel
theorem d1_17 : decode method_2_code 17 = .ok (.if_icmp .ne 6, 3) := by decide +kernel
theorem d1_20 : decode method_2_code 20 = .ok (.bipush 10, 2) := by decide +kernel
theorem d1_22 : decode method_2_code 22 = .ok (.ireturn, 1) := by decide +kernel
theorem d1_23 : decode method_2_code 23 = .ok (.iload_n 1, 1) := by decide +kernel
theorem d1_24 : decode method_2_code 24 = .ok (.iconst 3, 1) := by decide +kernel
theorem d1_25 : decode method_2_code 25 = .ok (.if_icmp .ne 5, 3) := by decide +kernel
theorem d1_28 : decode method_2_code 28 = .ok (.iconst 0, 1) := by decide +kernel
theorem d1_29 : decode method_2_code 29 = .ok (.ireturn, 1) := by decide +kernel
theorem d1_30 : decode method_2_code 30 = .ok (.iload_n 0, 1) := by decide +kernel
theorem d1_31 : decode method_2_code 31 = .ok (.i2b, 1) := by decide +kernel
theorem d1_32 : decode method_2_code 32 = .ok (.ireturn, 1) := by decide +kernel
def f1_12 (i0 : Int32) (i1 : Int32) : Int32 := (nar .byte (13 : Int32))
set_option maxRecDepth 65536 in
set_option maxHeartbeats 40000000 in
theorem b1_12 {p : Program} {l : Launch} {e : Env} {s : State} {m : MethodId} {args : Array Value} {below : List Frame} {meth : Method} {c : Code} {T : State} {locs : List Loc} {cells slots : Nat} {Z : State} {a0 : Array Value} {h : Heap} {n0 : Nat} {Q : Option Value → Heap → List Loc → Prop} (i0 : Int32) (i1 : Int32) (hw : ∀ d ∈ tables_1, d.before a0 Z = true) (X : Stand p l e ({ frames := 0, cells := 0, slots := 0, locals := 0 } : Room) s m args below meth c T locs cells slots) (hx : p.tables.exec = Jvm.exec) (hZ : Z.Warmed39 s.vm) (hby : c.code = method_2_code) (hml : c.maxLocals = 2) (hown : s.vm.findClass "com/example/endorse/endorse/ManifestSectionCanHoldPinLaw" = some m.cls) (hret : meth.sig.returnType = some .byte) (hlk : meth.locks = false) (eT : T.heap = h) (N : Fr n0 locs) (hc : cells ≤ 0) (hs : slots ≤ 0) (v : Int32) (hv : v = f1_12 i0 i1) (hQ : ∀ L', Fr n0 L' → Q (some (.int v)) h L') :
    own_Fin p e below s Q 0 0 (T.setTop (mkF m 12 #[.val (.int i0), .val (.int i1)] [])) := by
  refine own_step (fun t k => XS.bipush X.here hx rfl (hb hby d1_12) k) ?_
  show own_Fin p e below s Q 0 0 (T.setTop (mkF m 14 #[.val (.int i0), .val (.int i1)] [(.int (13 : Int32))]))
  exact own_retN X hx hlk hret (by simp) (hb hby d1_14) (by omega) (by omega) eT N hQ (hv)
def f1_20 (i0 : Int32) (i1 : Int32) : Int32 := (nar .byte (10 : Int32))
set_option maxRecDepth 65536 in
set_option maxHeartbeats 40000000 in
theorem b1_20 {p : Program} {l : Launch} {e : Env} {s : State} {m : MethodId} {args : Array Value} {below : List Frame} {meth : Method} {c : Code} {T : State} {locs : List Loc} {cells slots : Nat} {Z : State} {a0 : Array Value} {h : Heap} {n0 : Nat} {Q : Option Value → Heap → List Loc → Prop} (i0 : Int32) (i1 : Int32) (hw : ∀ d ∈ tables_1, d.before a0 Z = true) (X : Stand p l e ({ frames := 0, cells := 0, slots := 0, locals := 0 } : Room) s m args below meth c T locs cells slots) (hx : p.tables.exec = Jvm.exec) (hZ : Z.Warmed39 s.vm) (hby : c.code = method_2_code) (hml : c.maxLocals = 2) (hown : s.vm.findClass "com/example/endorse/endorse/ManifestSectionCanHoldPinLaw" = some m.cls) (hret : meth.sig.returnType = some .byte) (hlk : meth.locks = false) (eT : T.heap = h) (N : Fr n0 locs) (hc : cells ≤ 0) (hs : slots ≤ 0) (v : Int32) (hv : v = f1_20 i0 i1) (hQ : ∀ L', Fr n0 L' → Q (some (.int v)) h L') :
    own_Fin p e below s Q 0 0 (T.setTop (mkF m 20 #[.val (.int i0), .val (.int i1)] [])) := by
  refine own_step (fun t k => XS.bipush X.here hx rfl (hb hby d1_20) k) ?_
  show own_Fin p e below s Q 0 0 (T.setTop (mkF m 22 #[.val (.int i0), .val (.int i1)] [(.int (10 : Int32))]))
  exact own_retN X hx hlk hret (by simp) (hb hby d1_22) (by omega) (by omega) eT N hQ (hv)
def f1_28 (i0 : Int32) (i1 : Int32) : Int32 := (nar .byte (0 : Int32))
set_option maxRecDepth 65536 in
set_option maxHeartbeats 40000000 in
theorem b1_28 {p : Program} {l : Launch} {e : Env} {s : State} {m : MethodId} {args : Array Value} {below : List Frame} {meth : Method} {c : Code} {T : State} {locs : List Loc} {cells slots : Nat} {Z : State} {a0 : Array Value} {h : Heap} {n0 : Nat} {Q : Option Value → Heap → List Loc → Prop} (i0 : Int32) (i1 : Int32) (hw : ∀ d ∈ tables_1, d.before a0 Z = true) (X : Stand p l e ({ frames := 0, cells := 0, slots := 0, locals := 0 } : Room) s m args below meth c T locs cells slots) (hx : p.tables.exec = Jvm.exec) (hZ : Z.Warmed39 s.vm) (hby : c.code = method_2_code) (hml : c.maxLocals = 2) (hown : s.vm.findClass "com/example/endorse/endorse/ManifestSectionCanHoldPinLaw" = some m.cls) (hret : meth.sig.returnType = some .byte) (hlk : meth.locks = false) (eT : T.heap = h) (N : Fr n0 locs) (hc : cells ≤ 0) (hs : slots ≤ 0) (v : Int32) (hv : v = f1_28 i0 i1) (hQ : ∀ L', Fr n0 L' → Q (some (.int v)) h L') :
    own_Fin p e below s Q 0 0 (T.setTop (mkF m 28 #[.val (.int i0), .val (.int i1)] [])) := by
  refine own_step (fun t k => XS.iconst X.here hx rfl (hb hby d1_28) k) ?_
  show own_Fin p e below s Q 0 0 (T.setTop (mkF m 29 #[.val (.int i0), .val (.int i1)] [(.int (0 : Int32))]))
  exact own_retN X hx hlk hret (by simp) (hb hby d1_29) (by omega) (by omega) eT N hQ (hv)
def f1_30 (i0 : Int32) (i1 : Int32) : Int32 := (nar .byte (i0.toInt8.toInt32))
set_option maxRecDepth 65536 in
set_option maxHeartbeats 40000000 in
theorem b1_30 {p : Program} {l : Launch} {e : Env} {s : State} {m : MethodId} {args : Array Value} {below : List Frame} {meth : Method} {c : Code} {T : State} {locs : List Loc} {cells slots : Nat} {Z : State} {a0 : Array Value} {h : Heap} {n0 : Nat} {Q : Option Value → Heap → List Loc → Prop} (i0 : Int32) (i1 : Int32) (hw : ∀ d ∈ tables_1, d.before a0 Z = true) (X : Stand p l e ({ frames := 0, cells := 0, slots := 0, locals := 0 } : Room) s m args below meth c T locs cells slots) (hx : p.tables.exec = Jvm.exec) (hZ : Z.Warmed39 s.vm) (hby : c.code = method_2_code) (hml : c.maxLocals = 2) (hown : s.vm.findClass "com/example/endorse/endorse/ManifestSectionCanHoldPinLaw" = some m.cls) (hret : meth.sig.returnType = some .byte) (hlk : meth.locks = false) (eT : T.heap = h) (N : Fr n0 locs) (hc : cells ≤ 0) (hs : slots ≤ 0) (v : Int32) (hv : v = f1_30 i0 i1) (hQ : ∀ L', Fr n0 L' → Q (some (.int v)) h L') :
    own_Fin p e below s Q 0 0 (T.setTop (mkF m 30 #[.val (.int i0), .val (.int i1)] [])) := by
  refine own_step (fun t k => XS.iloadN X.here hx rfl (hb hby d1_30) rfl  k) ?_
  show own_Fin p e below s Q 0 0 (T.setTop (mkF m 31 #[.val (.int i0), .val (.int i1)] [(.int i0)]))
  refine own_step (fun t k => XS.i2b X.here hx rfl (hb hby d1_31) rfl k) ?_
  show own_Fin p e below s Q 0 0 (T.setTop (mkF m 32 #[.val (.int i0), .val (.int i1)] [(.int (i0.toInt8.toInt32))]))
  exact own_retN X hx hlk hret (by simp) (hb hby d1_32) (by omega) (by omega) eT N hQ (hv)
def f1_23 (i0 : Int32) (i1 : Int32) : Int32 := if i1 = (3 : Int32) then f1_28 i0 i1 else f1_30 i0 i1
set_option maxRecDepth 65536 in
set_option maxHeartbeats 40000000 in
theorem b1_23 {p : Program} {l : Launch} {e : Env} {s : State} {m : MethodId} {args : Array Value} {below : List Frame} {meth : Method} {c : Code} {T : State} {locs : List Loc} {cells slots : Nat} {Z : State} {a0 : Array Value} {h : Heap} {n0 : Nat} {Q : Option Value → Heap → List Loc → Prop} (i0 : Int32) (i1 : Int32) (hw : ∀ d ∈ tables_1, d.before a0 Z = true) (X : Stand p l e ({ frames := 0, cells := 0, slots := 0, locals := 0 } : Room) s m args below meth c T locs cells slots) (hx : p.tables.exec = Jvm.exec) (hZ : Z.Warmed39 s.vm) (hby : c.code = method_2_code) (hml : c.maxLocals = 2) (hown : s.vm.findClass "com/example/endorse/endorse/ManifestSectionCanHoldPinLaw" = some m.cls) (hret : meth.sig.returnType = some .byte) (hlk : meth.locks = false) (eT : T.heap = h) (N : Fr n0 locs) (hc : cells ≤ 0) (hs : slots ≤ 0) (v : Int32) (hv : v = f1_23 i0 i1) (hQ : ∀ L', Fr n0 L' → Q (some (.int v)) h L') :
    own_Fin p e below s Q 0 0 (T.setTop (mkF m 23 #[.val (.int i0), .val (.int i1)] [])) := by
  refine own_step (fun t k => XS.iloadN X.here hx rfl (hb hby d1_23) rfl  k) ?_
  show own_Fin p e below s Q 0 0 (T.setTop (mkF m 24 #[.val (.int i0), .val (.int i1)] [(.int i1)]))
  refine own_step (fun t k => XS.iconst X.here hx rfl (hb hby d1_24) k) ?_
  show own_Fin p e below s Q 0 0 (T.setTop (mkF m 25 #[.val (.int i0), .val (.int i1)] [(.int (3 : Int32)), (.int i1)]))
  by_cases hB25_7 : i1 = (3 : Int32)
  · refine own_step (fun t k => XS.icmpNo X.here hx rfl (hb hby d1_25) rfl (teq hB25_7).2 k) ?_
    exact b1_28 i0 i1 hw X hx hZ hby hml hown hret hlk eT N (by omega) (by omega) v (hv.trans (if_pos hB25_7)) hQ
  · refine own_step (fun t k => XS.icmpYes X.here hx rfl (pc0 := 25) (pc' := 30) rfl (hb hby d1_25) rfl (feq hB25_7).2 (by decide) (by decide) k) ?_
    exact b1_30 i0 i1 hw X hx hZ hby hml hown hret hlk eT N (by omega) (by omega) v (hv.trans (if_neg hB25_7)) hQ
def f1_15 (i0 : Int32) (i1 : Int32) : Int32 := if i1 = (2 : Int32) then f1_20 i0 i1 else f1_23 i0 i1
set_option maxRecDepth 65536 in
set_option maxHeartbeats 40000000 in
theorem b1_15 {p : Program} {l : Launch} {e : Env} {s : State} {m : MethodId} {args : Array Value} {below : List Frame} {meth : Method} {c : Code} {T : State} {locs : List Loc} {cells slots : Nat} {Z : State} {a0 : Array Value} {h : Heap} {n0 : Nat} {Q : Option Value → Heap → List Loc → Prop} (i0 : Int32) (i1 : Int32) (hw : ∀ d ∈ tables_1, d.before a0 Z = true) (X : Stand p l e ({ frames := 0, cells := 0, slots := 0, locals := 0 } : Room) s m args below meth c T locs cells slots) (hx : p.tables.exec = Jvm.exec) (hZ : Z.Warmed39 s.vm) (hby : c.code = method_2_code) (hml : c.maxLocals = 2) (hown : s.vm.findClass "com/example/endorse/endorse/ManifestSectionCanHoldPinLaw" = some m.cls) (hret : meth.sig.returnType = some .byte) (hlk : meth.locks = false) (eT : T.heap = h) (N : Fr n0 locs) (hc : cells ≤ 0) (hs : slots ≤ 0) (v : Int32) (hv : v = f1_15 i0 i1) (hQ : ∀ L', Fr n0 L' → Q (some (.int v)) h L') :
    own_Fin p e below s Q 0 0 (T.setTop (mkF m 15 #[.val (.int i0), .val (.int i1)] [])) := by
  refine own_step (fun t k => XS.iloadN X.here hx rfl (hb hby d1_15) rfl  k) ?_
  show own_Fin p e below s Q 0 0 (T.setTop (mkF m 16 #[.val (.int i0), .val (.int i1)] [(.int i1)]))
  refine own_step (fun t k => XS.iconst X.here hx rfl (hb hby d1_16) k) ?_
  show own_Fin p e below s Q 0 0 (T.setTop (mkF m 17 #[.val (.int i0), .val (.int i1)] [(.int (2 : Int32)), (.int i1)]))
  by_cases hB17_4 : i1 = (2 : Int32)
  · refine own_step (fun t k => XS.icmpNo X.here hx rfl (hb hby d1_17) rfl (teq hB17_4).2 k) ?_
    exact b1_20 i0 i1 hw X hx hZ hby hml hown hret hlk eT N (by omega) (by omega) v (hv.trans (if_pos hB17_4)) hQ
  · refine own_step (fun t k => XS.icmpYes X.here hx rfl (pc0 := 17) (pc' := 23) rfl (hb hby d1_17) rfl (feq hB17_4).2 (by decide) (by decide) k) ?_
    exact b1_23 i0 i1 hw X hx hZ hby hml hown hret hlk eT N (by omega) (by omega) v (hv.trans (if_neg hB17_4)) hQ
def f1_0 (i0 : Int32) : Int32 := if (((i0.toUInt32 >>> ((8 : Int32) &&& 31).toUInt32).toInt32) &&& (3 : Int32)) = (1 : Int32) then f1_12 i0 (((i0.toUInt32 >>> ((8 : Int32) &&& 31).toUInt32).toInt32) &&& (3 : Int32)) else f1_15 i0 (((i0.toUInt32 >>> ((8 : Int32) &&& 31).toUInt32).toInt32) &&& (3 : Int32))
set_option maxRecDepth 65536 in
set_option maxHeartbeats 40000000 in
theorem b1_0 {p : Program} {l : Launch} {e : Env} {s : State} {m : MethodId} {args : Array Value} {below : List Frame} {meth : Method} {c : Code} {T : State} {locs : List Loc} {cells slots : Nat} {Z : State} {a0 : Array Value} {h : Heap} {n0 : Nat} {Q : Option Value → Heap → List Loc → Prop} (i0 : Int32) (hw : ∀ d ∈ tables_1, d.before a0 Z = true) (X : Stand p l e ({ frames := 0, cells := 0, slots := 0, locals := 0 } : Room) s m args below meth c T locs cells slots) (hx : p.tables.exec = Jvm.exec) (hZ : Z.Warmed39 s.vm) (hby : c.code = method_2_code) (hml : c.maxLocals = 2) (hown : s.vm.findClass "com/example/endorse/endorse/ManifestSectionCanHoldPinLaw" = some m.cls) (hret : meth.sig.returnType = some .byte) (hlk : meth.locks = false) (eT : T.heap = h) (N : Fr n0 locs) (hc : cells ≤ 0) (hs : slots ≤ 0) (v : Int32) (hv : v = f1_0 i0) (hQ : ∀ L', Fr n0 L' → Q (some (.int v)) h L') :
    own_Fin p e below s Q 0 0 (T.setTop (mkF m 0 #[.val (.int i0), .unset] [])) := by
  refine own_step (fun t k => XS.iloadN X.here hx rfl (hb hby d1_0) rfl  k) ?_
  show own_Fin p e below s Q 0 0 (T.setTop (mkF m 1 #[.val (.int i0), .unset] [(.int i0)]))
  refine own_step (fun t k => XS.bipush X.here hx rfl (hb hby d1_1) k) ?_
  show own_Fin p e below s Q 0 0 (T.setTop (mkF m 3 #[.val (.int i0), .unset] [(.int (8 : Int32)), (.int i0)]))
  refine own_step (fun t k => XS.iushr X.here hx rfl (hb hby d1_3) rfl k) ?_
  show own_Fin p e below s Q 0 0 (T.setTop (mkF m 4 #[.val (.int i0), .unset] [(.int ((i0.toUInt32 >>> ((8 : Int32) &&& 31).toUInt32).toInt32))]))
  refine own_step (fun t k => XS.iconst X.here hx rfl (hb hby d1_4) k) ?_
  show own_Fin p e below s Q 0 0 (T.setTop (mkF m 5 #[.val (.int i0), .unset] [(.int (3 : Int32)), (.int ((i0.toUInt32 >>> ((8 : Int32) &&& 31).toUInt32).toInt32))]))
  refine own_step (fun t k => XS.iand X.here hx rfl (hb hby d1_5) rfl k) ?_
  show own_Fin p e below s Q 0 0 (T.setTop (mkF m 6 #[.val (.int i0), .unset] [(.int (((i0.toUInt32 >>> ((8 : Int32) &&& 31).toUInt32).toInt32) &&& (3 : Int32)))]))
  refine own_step (fun t k => XS.istoreN X.here hx rfl (hb hby d1_6) rfl (l' := #[.val (.int i0), .val (.int (((i0.toUInt32 >>> ((8 : Int32) &&& 31).toUInt32).toInt32) &&& (3 : Int32)))]) rfl k) ?_
  show own_Fin p e below s Q 0 0 (T.setTop (mkF m 7 #[.val (.int i0), .val (.int (((i0.toUInt32 >>> ((8 : Int32) &&& 31).toUInt32).toInt32) &&& (3 : Int32)))] []))
  refine own_step (fun t k => XS.iloadN X.here hx rfl (hb hby d1_7) rfl  k) ?_
  show own_Fin p e below s Q 0 0 (T.setTop (mkF m 8 #[.val (.int i0), .val (.int (((i0.toUInt32 >>> ((8 : Int32) &&& 31).toUInt32).toInt32) &&& (3 : Int32)))] [(.int (((i0.toUInt32 >>> ((8 : Int32) &&& 31).toUInt32).toInt32) &&& (3 : Int32)))]))
  refine own_step (fun t k => XS.iconst X.here hx rfl (hb hby d1_8) k) ?_
  show own_Fin p e below s Q 0 0 (T.setTop (mkF m 9 #[.val (.int i0), .val (.int (((i0.toUInt32 >>> ((8 : Int32) &&& 31).toUInt32).toInt32) &&& (3 : Int32)))] [(.int (1 : Int32)), (.int (((i0.toUInt32 >>> ((8 : Int32) &&& 31).toUInt32).toInt32) &&& (3 : Int32)))]))
  by_cases hB9_1 : (((i0.toUInt32 >>> ((8 : Int32) &&& 31).toUInt32).toInt32) &&& (3 : Int32)) = (1 : Int32)
  · refine own_step (fun t k => XS.icmpNo X.here hx rfl (hb hby d1_9) rfl (teq hB9_1).2 k) ?_
    exact b1_12 i0 (((i0.toUInt32 >>> ((8 : Int32) &&& 31).toUInt32).toInt32) &&& (3 : Int32)) hw X hx hZ hby hml hown hret hlk eT N (by omega) (by omega) v (hv.trans (if_pos hB9_1)) hQ
  · refine own_step (fun t k => XS.icmpYes X.here hx rfl (pc0 := 9) (pc' := 15) rfl (hb hby d1_9) rfl (feq hB9_1).2 (by decide) (by decide) k) ?_
    exact b1_15 i0 (((i0.toUInt32 >>> ((8 : Int32) &&& 31).toUInt32).toInt32) &&& (3 : Int32)) hw X hx hZ hby hml hown hret hlk eT N (by omega) (by omega) v (hv.trans (if_neg hB9_1)) hQ
theorem pnm_0 : plainName "com/example/endorse/endorse/ManifestSectionCanHoldPinLaw" = true := by first | (simp [plainName, overriddenIn]; done) | decide +kernel
theorem pdm_0 : parseMethodDescriptor "(I)B" = some ⟨[.int], some .byte⟩ := by decide +kernel
theorem ef_1 (m : MethodId) (i0 : Int32) : entryFrame m #[(.int i0)] 2 = (mkF m 0 #[.val (.int i0), .unset] []) := by first | (simp [entryFrame, mkF, argsToLocals, Value.category]; done) | rfl
def Q1 (i0 : Int32) (h0 : Heap) (n0 : Nat) (v : Option Value) (h : Heap) (L : List Loc) : Prop := v = some (.int (f1_0 i0)) ∧ Fr n0 L ∧ h = h0
set_option maxRecDepth 65536 in
set_option maxHeartbeats 4000000 in
theorem rm1 (l : Launch) (Z : State) (a0 : Array Value) (hw : ∀ d ∈ tables_1, d.before a0 Z = true) (ws : List Jvm.Cond) (i0 : Int32) (h0 : Heap) (n0 : Nat) :
    MetFree l (⟨"com/example/endorse/endorse/ManifestSectionCanHoldPinLaw", "draw", "(I)B"⟩ : MethodName) (head1 (Jvm.Cond.code (⟨"com/example/endorse/endorse/ManifestSectionCanHoldPinLaw", "draw", "(I)B"⟩ : MethodName) method_2_code 2 (some .byte) :: ws) ({ frames := 0, cells := 0, slots := 0, locals := 0 } : Room)) (fun a U => a = #[(.int i0)] ∧ Z.Warmed39 U.vm ∧ U.heap = h0) (fun _ _ _ _ _ => True) (fun _ U o U' => ∃ v L, o = .returned v ∧ Q1 i0 h0 n0 v U'.heap L ∧ FrameEnd U o U' L ({ frames := 0, cells := 0, slots := 0, locals := 0 } : Room).cells ({ frames := 0, cells := 0, slots := 0, locals := 0 } : Room).slots) := by
  refine MetFree.of_bodySF (plainFor_of_name pnm_0) hisR ?_
  intro p e s m args below meth c s₁ Bd hml0 hP hK
  obtain ⟨rfl, hZ, hh⟩ := hP
  have hx := Bd.exec
  have hby := Bd.bytes
  have hml : c.maxLocals = 2 := hml0
  have hown : s.vm.findClass "com/example/endorse/endorse/ManifestSectionCanHoldPinLaw" = some m.cls := findClass_of_methodNamed Bd.named
  have X0 : Stand p l e ({ frames := 0, cells := 0, slots := 0, locals := 0 } : Room) s m #[(.int i0)] below meth c s₁ [] 0 0 := Stand.of_body Bd
  have e0 : s₁.heap = h0 := by rw [← hh, Bd.state]; rfl
  have fin := b1_0 i0 (Q := Q1 i0 h0 n0) hw X0 hx hZ hby hml hown Bd.returns (BodyLoose.notSynchronized Bd) e0 (Fr.nil n0) (Nat.zero_le _) (Nat.zero_le _) _ rfl (fun L' n' => ⟨rfl, n', rfl⟩)
  exact own_step (fun t k => castTop (ef_1 m i0) k) fin
theorem d3_0 : decode method_3_code 0 = .ok (.iload_n 0, 1) := by decide +kernel
theorem d3_1 : decode method_3_code 1 = .ok (.bipush 13, 2) := by decide +kernel
theorem d3_3 : decode method_3_code 3 = .ok (.if_icmp .eq 17, 3) := by decide +kernel
theorem d3_6 : decode method_3_code 6 = .ok (.iload_n 0, 1) := by decide +kernel
theorem d3_7 : decode method_3_code 7 = .ok (.bipush 10, 2) := by decide +kernel
theorem d3_9 : decode method_3_code 9 = .ok (.if_icmp .eq 11, 3) := by decide +kernel
theorem d3_12 : decode method_3_code 12 = .ok (.iload_n 0, 1) := by decide +kernel
theorem d3_13 : decode method_3_code 13 = .ok (.ifCond .eq 7, 3) := by decide +kernel
theorem d3_16 : decode method_3_code 16 = .ok (.iconst 1, 1) := by decide +kernel
theorem d3_17 : decode method_3_code 17 = .ok (.goto 4, 3) := by decide +kernel
theorem d3_20 : decode method_3_code 20 = .ok (.iconst 0, 1) := by decide +kernel
theorem d3_21 : decode method_3_code 21 = .ok (.ireturn, 1) := by decide +kernel
def f3_21 (i0 : Int32) (is0 : Int32) : Int32 := (nar .boolean is0)
set_option maxRecDepth 65536 in
set_option maxHeartbeats 40000000 in
theorem b3_21 {p : Program} {l : Launch} {e : Env} {s : State} {m : MethodId} {args : Array Value} {below : List Frame} {meth : Method} {c : Code} {T : State} {locs : List Loc} {cells slots : Nat} {Z : State} {a0 : Array Value} {h : Heap} {n0 : Nat} {Q : Option Value → Heap → List Loc → Prop} (i0 : Int32) (is0 : Int32) (hw : ∀ d ∈ tables_1, d.before a0 Z = true) (X : Stand p l e ({ frames := 0, cells := 0, slots := 0, locals := 0 } : Room) s m args below meth c T locs cells slots) (hx : p.tables.exec = Jvm.exec) (hZ : Z.Warmed39 s.vm) (hby : c.code = method_3_code) (hml : c.maxLocals = 1) (hown : s.vm.findClass "com/example/endorse/endorse/ManifestSectionCanHoldPinLaw" = some m.cls) (hret : meth.sig.returnType = some .boolean) (hlk : meth.locks = false) (eT : T.heap = h) (N : Fr n0 locs) (hc : cells ≤ 0) (hs : slots ≤ 0) (v : Int32) (hv : v = f3_21 i0 is0) (hQ : ∀ L', Fr n0 L' → Q (some (.int v)) h L') :
    own_Fin p e below s Q 0 0 (T.setTop (mkF m 21 #[.val (.int i0)] [(.int is0)])) := by
  exact own_retN X hx hlk hret (by simp) (hb hby d3_21) (by omega) (by omega) eT N hQ (hv)
def f3_20 (i0 : Int32) : Int32 := f3_21 i0 (0 : Int32)
set_option maxRecDepth 65536 in
set_option maxHeartbeats 40000000 in
theorem b3_20 {p : Program} {l : Launch} {e : Env} {s : State} {m : MethodId} {args : Array Value} {below : List Frame} {meth : Method} {c : Code} {T : State} {locs : List Loc} {cells slots : Nat} {Z : State} {a0 : Array Value} {h : Heap} {n0 : Nat} {Q : Option Value → Heap → List Loc → Prop} (i0 : Int32) (hw : ∀ d ∈ tables_1, d.before a0 Z = true) (X : Stand p l e ({ frames := 0, cells := 0, slots := 0, locals := 0 } : Room) s m args below meth c T locs cells slots) (hx : p.tables.exec = Jvm.exec) (hZ : Z.Warmed39 s.vm) (hby : c.code = method_3_code) (hml : c.maxLocals = 1) (hown : s.vm.findClass "com/example/endorse/endorse/ManifestSectionCanHoldPinLaw" = some m.cls) (hret : meth.sig.returnType = some .boolean) (hlk : meth.locks = false) (eT : T.heap = h) (N : Fr n0 locs) (hc : cells ≤ 0) (hs : slots ≤ 0) (v : Int32) (hv : v = f3_20 i0) (hQ : ∀ L', Fr n0 L' → Q (some (.int v)) h L') :
    own_Fin p e below s Q 0 0 (T.setTop (mkF m 20 #[.val (.int i0)] [])) := by
  refine own_step (fun t k => XS.iconst X.here hx rfl (hb hby d3_20) k) ?_
  exact b3_21 i0 (0 : Int32) hw X hx hZ hby hml hown hret hlk eT N (by omega) (by omega) v (hv) hQ
def f3_16 (i0 : Int32) : Int32 := f3_21 i0 (1 : Int32)
set_option maxRecDepth 65536 in
set_option maxHeartbeats 40000000 in
theorem b3_16 {p : Program} {l : Launch} {e : Env} {s : State} {m : MethodId} {args : Array Value} {below : List Frame} {meth : Method} {c : Code} {T : State} {locs : List Loc} {cells slots : Nat} {Z : State} {a0 : Array Value} {h : Heap} {n0 : Nat} {Q : Option Value → Heap → List Loc → Prop} (i0 : Int32) (hw : ∀ d ∈ tables_1, d.before a0 Z = true) (X : Stand p l e ({ frames := 0, cells := 0, slots := 0, locals := 0 } : Room) s m args below meth c T locs cells slots) (hx : p.tables.exec = Jvm.exec) (hZ : Z.Warmed39 s.vm) (hby : c.code = method_3_code) (hml : c.maxLocals = 1) (hown : s.vm.findClass "com/example/endorse/endorse/ManifestSectionCanHoldPinLaw" = some m.cls) (hret : meth.sig.returnType = some .boolean) (hlk : meth.locks = false) (eT : T.heap = h) (N : Fr n0 locs) (hc : cells ≤ 0) (hs : slots ≤ 0) (v : Int32) (hv : v = f3_16 i0) (hQ : ∀ L', Fr n0 L' → Q (some (.int v)) h L') :
    own_Fin p e below s Q 0 0 (T.setTop (mkF m 16 #[.val (.int i0)] [])) := by
  refine own_step (fun t k => XS.iconst X.here hx rfl (hb hby d3_16) k) ?_
  show own_Fin p e below s Q 0 0 (T.setTop (mkF m 17 #[.val (.int i0)] [(.int (1 : Int32))]))
  refine own_step (fun t k => XS.goto X.here hx rfl (pc0 := 17) (pc' := 21) rfl (hb hby d3_17) (by decide) (by decide) k) ?_
  exact b3_21 i0 (1 : Int32) hw X hx hZ hby hml hown hret hlk eT N (by omega) (by omega) v (hv) hQ
def f3_12 (i0 : Int32) : Int32 := if i0 = (0 : Int32) then f3_20 i0 else f3_16 i0
set_option maxRecDepth 65536 in
set_option maxHeartbeats 40000000 in
theorem b3_12 {p : Program} {l : Launch} {e : Env} {s : State} {m : MethodId} {args : Array Value} {below : List Frame} {meth : Method} {c : Code} {T : State} {locs : List Loc} {cells slots : Nat} {Z : State} {a0 : Array Value} {h : Heap} {n0 : Nat} {Q : Option Value → Heap → List Loc → Prop} (i0 : Int32) (hw : ∀ d ∈ tables_1, d.before a0 Z = true) (X : Stand p l e ({ frames := 0, cells := 0, slots := 0, locals := 0 } : Room) s m args below meth c T locs cells slots) (hx : p.tables.exec = Jvm.exec) (hZ : Z.Warmed39 s.vm) (hby : c.code = method_3_code) (hml : c.maxLocals = 1) (hown : s.vm.findClass "com/example/endorse/endorse/ManifestSectionCanHoldPinLaw" = some m.cls) (hret : meth.sig.returnType = some .boolean) (hlk : meth.locks = false) (eT : T.heap = h) (N : Fr n0 locs) (hc : cells ≤ 0) (hs : slots ≤ 0) (v : Int32) (hv : v = f3_12 i0) (hQ : ∀ L', Fr n0 L' → Q (some (.int v)) h L') :
    own_Fin p e below s Q 0 0 (T.setTop (mkF m 12 #[.val (.int i0)] [])) := by
  refine own_step (fun t k => XS.iloadN X.here hx rfl (hb hby d3_12) rfl  k) ?_
  show own_Fin p e below s Q 0 0 (T.setTop (mkF m 13 #[.val (.int i0)] [(.int i0)]))
  by_cases hB13_16 : i0 = (0 : Int32)
  · refine own_step (fun t k => XS.ifYes X.here hx rfl (pc0 := 13) (pc' := 20) rfl (hb hby d3_13) rfl ((if0 _ _).trans (teq hB13_16).1) (by decide) (by decide) k) ?_
    exact b3_20 i0 hw X hx hZ hby hml hown hret hlk eT N (by omega) (by omega) v (hv.trans (if_pos hB13_16)) hQ
  · refine own_step (fun t k => XS.ifNo X.here hx rfl (hb hby d3_13) rfl ((if0 _ _).trans (feq hB13_16).1) k) ?_
    exact b3_16 i0 hw X hx hZ hby hml hown hret hlk eT N (by omega) (by omega) v (hv.trans (if_neg hB13_16)) hQ
def f3_6 (i0 : Int32) : Int32 := if i0 = (10 : Int32) then f3_20 i0 else f3_12 i0
set_option maxRecDepth 65536 in
set_option maxHeartbeats 40000000 in
theorem b3_6 {p : Program} {l : Launch} {e : Env} {s : State} {m : MethodId} {args : Array Value} {below : List Frame} {meth : Method} {c : Code} {T : State} {locs : List Loc} {cells slots : Nat} {Z : State} {a0 : Array Value} {h : Heap} {n0 : Nat} {Q : Option Value → Heap → List Loc → Prop} (i0 : Int32) (hw : ∀ d ∈ tables_1, d.before a0 Z = true) (X : Stand p l e ({ frames := 0, cells := 0, slots := 0, locals := 0 } : Room) s m args below meth c T locs cells slots) (hx : p.tables.exec = Jvm.exec) (hZ : Z.Warmed39 s.vm) (hby : c.code = method_3_code) (hml : c.maxLocals = 1) (hown : s.vm.findClass "com/example/endorse/endorse/ManifestSectionCanHoldPinLaw" = some m.cls) (hret : meth.sig.returnType = some .boolean) (hlk : meth.locks = false) (eT : T.heap = h) (N : Fr n0 locs) (hc : cells ≤ 0) (hs : slots ≤ 0) (v : Int32) (hv : v = f3_6 i0) (hQ : ∀ L', Fr n0 L' → Q (some (.int v)) h L') :
    own_Fin p e below s Q 0 0 (T.setTop (mkF m 6 #[.val (.int i0)] [])) := by
  refine own_step (fun t k => XS.iloadN X.here hx rfl (hb hby d3_6) rfl  k) ?_
  show own_Fin p e below s Q 0 0 (T.setTop (mkF m 7 #[.val (.int i0)] [(.int i0)]))
  refine own_step (fun t k => XS.bipush X.here hx rfl (hb hby d3_7) k) ?_
  show own_Fin p e below s Q 0 0 (T.setTop (mkF m 9 #[.val (.int i0)] [(.int (10 : Int32)), (.int i0)]))
  by_cases hB9_13 : i0 = (10 : Int32)
  · refine own_step (fun t k => XS.icmpYes X.here hx rfl (pc0 := 9) (pc' := 20) rfl (hb hby d3_9) rfl (teq hB9_13).1 (by decide) (by decide) k) ?_
    exact b3_20 i0 hw X hx hZ hby hml hown hret hlk eT N (by omega) (by omega) v (hv.trans (if_pos hB9_13)) hQ
  · refine own_step (fun t k => XS.icmpNo X.here hx rfl (hb hby d3_9) rfl (feq hB9_13).1 k) ?_
    exact b3_12 i0 hw X hx hZ hby hml hown hret hlk eT N (by omega) (by omega) v (hv.trans (if_neg hB9_13)) hQ
def f3_0 (i0 : Int32) : Int32 := if i0 = (13 : Int32) then f3_20 i0 else f3_6 i0
set_option maxRecDepth 65536 in
set_option maxHeartbeats 40000000 in
theorem b3_0 {p : Program} {l : Launch} {e : Env} {s : State} {m : MethodId} {args : Array Value} {below : List Frame} {meth : Method} {c : Code} {T : State} {locs : List Loc} {cells slots : Nat} {Z : State} {a0 : Array Value} {h : Heap} {n0 : Nat} {Q : Option Value → Heap → List Loc → Prop} (i0 : Int32) (hw : ∀ d ∈ tables_1, d.before a0 Z = true) (X : Stand p l e ({ frames := 0, cells := 0, slots := 0, locals := 0 } : Room) s m args below meth c T locs cells slots) (hx : p.tables.exec = Jvm.exec) (hZ : Z.Warmed39 s.vm) (hby : c.code = method_3_code) (hml : c.maxLocals = 1) (hown : s.vm.findClass "com/example/endorse/endorse/ManifestSectionCanHoldPinLaw" = some m.cls) (hret : meth.sig.returnType = some .boolean) (hlk : meth.locks = false) (eT : T.heap = h) (N : Fr n0 locs) (hc : cells ≤ 0) (hs : slots ≤ 0) (v : Int32) (hv : v = f3_0 i0) (hQ : ∀ L', Fr n0 L' → Q (some (.int v)) h L') :
    own_Fin p e below s Q 0 0 (T.setTop (mkF m 0 #[.val (.int i0)] [])) := by
  refine own_step (fun t k => XS.iloadN X.here hx rfl (hb hby d3_0) rfl  k) ?_
  show own_Fin p e below s Q 0 0 (T.setTop (mkF m 1 #[.val (.int i0)] [(.int i0)]))
  refine own_step (fun t k => XS.bipush X.here hx rfl (hb hby d3_1) k) ?_
  show own_Fin p e below s Q 0 0 (T.setTop (mkF m 3 #[.val (.int i0)] [(.int (13 : Int32)), (.int i0)]))
  by_cases hB3_10 : i0 = (13 : Int32)
  · refine own_step (fun t k => XS.icmpYes X.here hx rfl (pc0 := 3) (pc' := 20) rfl (hb hby d3_3) rfl (teq hB3_10).1 (by decide) (by decide) k) ?_
    exact b3_20 i0 hw X hx hZ hby hml hown hret hlk eT N (by omega) (by omega) v (hv.trans (if_pos hB3_10)) hQ
  · refine own_step (fun t k => XS.icmpNo X.here hx rfl (hb hby d3_3) rfl (feq hB3_10).1 k) ?_
    exact b3_6 i0 hw X hx hZ hby hml hown hret hlk eT N (by omega) (by omega) v (hv.trans (if_neg hB3_10)) hQ
theorem pdm_1 : parseMethodDescriptor "(B)Z" = some ⟨[.byte], some .boolean⟩ := by decide +kernel
theorem ef_3 (m : MethodId) (i0 : Int32) : entryFrame m #[(.int i0)] 1 = (mkF m 0 #[.val (.int i0)] []) := by first | (simp [entryFrame, mkF, argsToLocals, Value.category]; done) | rfl
def Q3 (i0 : Int32) (h0 : Heap) (n0 : Nat) (v : Option Value) (h : Heap) (L : List Loc) : Prop := v = some (.int (f3_0 i0)) ∧ Fr n0 L ∧ h = h0
set_option maxRecDepth 65536 in
set_option maxHeartbeats 4000000 in
theorem rm3 (l : Launch) (Z : State) (a0 : Array Value) (hw : ∀ d ∈ tables_1, d.before a0 Z = true) (ws : List Jvm.Cond) (i0 : Int32) (h0 : Heap) (n0 : Nat) :
    MetFree l (⟨"com/example/endorse/endorse/ManifestSectionCanHoldPinLaw", "ok", "(B)Z"⟩ : MethodName) (head1 (Jvm.Cond.code (⟨"com/example/endorse/endorse/ManifestSectionCanHoldPinLaw", "ok", "(B)Z"⟩ : MethodName) method_3_code 1 (some .boolean) :: ws) ({ frames := 0, cells := 0, slots := 0, locals := 0 } : Room)) (fun a U => a = #[(.int i0)] ∧ Z.Warmed39 U.vm ∧ U.heap = h0) (fun _ _ _ _ _ => True) (fun _ U o U' => ∃ v L, o = .returned v ∧ Q3 i0 h0 n0 v U'.heap L ∧ FrameEnd U o U' L ({ frames := 0, cells := 0, slots := 0, locals := 0 } : Room).cells ({ frames := 0, cells := 0, slots := 0, locals := 0 } : Room).slots) := by
  refine MetFree.of_bodySF (plainFor_of_name pnm_0) hisR ?_
  intro p e s m args below meth c s₁ Bd hml0 hP hK
  obtain ⟨rfl, hZ, hh⟩ := hP
  have hx := Bd.exec
  have hby := Bd.bytes
  have hml : c.maxLocals = 1 := hml0
  have hown : s.vm.findClass "com/example/endorse/endorse/ManifestSectionCanHoldPinLaw" = some m.cls := findClass_of_methodNamed Bd.named
  have X0 : Stand p l e ({ frames := 0, cells := 0, slots := 0, locals := 0 } : Room) s m #[(.int i0)] below meth c s₁ [] 0 0 := Stand.of_body Bd
  have e0 : s₁.heap = h0 := by rw [← hh, Bd.state]; rfl
  have fin := b3_0 i0 (Q := Q3 i0 h0 n0) hw X0 hx hZ hby hml hown Bd.returns (BodyLoose.notSynchronized Bd) e0 (Fr.nil n0) (Nat.zero_le _) (Nat.zero_le _) _ rfl (fun L' n' => ⟨rfl, n', rfl⟩)
  exact own_step (fun t k => castTop (ef_3 m i0) k) fin
/-- a count i going up to n with k turns left, over an array of z -/
def own_lp (i n : Int32) (k z : Nat) : Prop := i.toInt + (k : Int) = n.toInt ∧ 0 ≤ i.toInt ∧ n.toInt ≤ (z : Int)
theorem own_lp0 {i n : Int32} {z : Nat} (h : own_lp i n 0 z) : ¬ i < n := fun q => by
  have := Int32.lt_iff_toInt_lt.mp q
  have := h.1
  omega
theorem own_lp1 {i n : Int32} {k z : Nat} (h : own_lp i n (k + 1) z) : i < n := Int32.lt_iff_toInt_lt.mpr (by have := h.1; omega)
theorem own_lz : (0 : Int32).toInt = 0 := by decide
theorem own_lpin {i n : Int32} {k z : Nat} (h : own_lp i n (k + 1) z) : own_In z i := fun q => by
  obtain ⟨h1, h2, h3⟩ := h
  have e : ¬ i < (0 : Int32) := fun y => by have := Int32.lt_iff_toInt_lt.mp y; rw [own_lz] at this; omega
  have e2 := nat_of e
  rcases q with q | q
  · exact e q
  · omega
theorem own_lps {i n : Int32} {k z : Nat} (h : own_lp i n (k + 1) z) : own_lp (i + (1 : Int32)) n k z := by
  obtain ⟨h1, h2, h3⟩ := h
  have e := c_iadd i 1
  have e1 : (1 : Int32).toInt = 1 := by decide
  have r := rng32 (i + 1)
  have r2 := rng32 n
  refine ⟨?_, ?_, h3⟩ <;> omega
theorem own_len0 {z : Nat} (h : z ≤ 64) : own_lp (0 : Int32) (z.toInt32) z z := by
  have e : (z.toInt32).toInt = z := by
    have : z.toInt32 = Int32.ofNat z := rfl
    rw [this]
    exact Int32.toInt_ofNat_of_lt (by omega)
  refine ⟨?_, ?_, ?_⟩
  · rw [e, own_lz]; omega
  · rw [own_lz]; omega
  · rw [e]; omega
theorem d2_0 : decode prog_42_method_2_code 0 = .ok (.aload_n 0, 1) := by decide +kernel
theorem d2_1 : decode prog_42_method_2_code 1 = .ok (.astore_n 1, 1) := by decide +kernel
theorem d2_2 : decode prog_42_method_2_code 2 = .ok (.aload_n 1, 1) := by decide +kernel
theorem d2_3 : decode prog_42_method_2_code 3 = .ok (.arraylength, 1) := by decide +kernel
theorem d2_4 : decode prog_42_method_2_code 4 = .ok (.istore_n 2, 1) := by decide +kernel
theorem d2_5 : decode prog_42_method_2_code 5 = .ok (.iconst 0, 1) := by decide +kernel
theorem d2_6 : decode prog_42_method_2_code 6 = .ok (.istore_n 3, 1) := by decide +kernel
theorem d2_7 : decode prog_42_method_2_code 7 = .ok (.iload_n 3, 1) := by decide +kernel
theorem d2_8 : decode prog_42_method_2_code 8 = .ok (.iload_n 2, 1) := by decide +kernel
theorem d2_9 : decode prog_42_method_2_code 9 = .ok (.if_icmp .ge 35, 3) := by decide +kernel
theorem d2_12 : decode prog_42_method_2_code 12 = .ok (.aload_n 1, 1) := by decide +kernel
theorem d2_13 : decode prog_42_method_2_code 13 = .ok (.iload_n 3, 1) := by decide +kernel
theorem d2_14 : decode prog_42_method_2_code 14 = .ok (.baload, 1) := by decide +kernel
theorem d2_15 : decode prog_42_method_2_code 15 = .ok (.istore 4, 2) := by decide +kernel
theorem d2_17 : decode prog_42_method_2_code 17 = .ok (.iload 4, 2) := by decide +kernel
theorem d2_19 : decode prog_42_method_2_code 19 = .ok (.bipush 13, 2) := by decide +kernel
theorem d2_21 : decode prog_42_method_2_code 21 = .ok (.if_icmp .eq 15, 3) := by decide +kernel
theorem d2_24 : decode prog_42_method_2_code 24 = .ok (.iload 4, 2) := by decide +kernel
theorem d2_26 : decode prog_42_method_2_code 26 = .ok (.bipush 10, 2) := by decide +kernel
theorem d2_28 : decode prog_42_method_2_code 28 = .ok (.if_icmp .eq 8, 3) := by decide +kernel
theorem d2_31 : decode prog_42_method_2_code 31 = .ok (.iload 4, 2) := by decide +kernel
theorem d2_33 : decode prog_42_method_2_code 33 = .ok (.ifCond .ne 5, 3) := by decide +kernel
theorem d2_36 : decode prog_42_method_2_code 36 = .ok (.iconst 0, 1) := by decide +kernel
theorem d2_37 : decode prog_42_method_2_code 37 = .ok (.ireturn, 1) := by decide +kernel
theorem d2_38 : decode prog_42_method_2_code 38 = .ok (.iinc 3 1, 3) := by decide +kernel
theorem d2_41 : decode prog_42_method_2_code 41 = .ok (.goto (-34), 3) := by decide +kernel
theorem d2_44 : decode prog_42_method_2_code 44 = .ok (.iconst 1, 1) := by decide +kernel
theorem d2_45 : decode prog_42_method_2_code 45 = .ok (.ireturn, 1) := by decide +kernel
def f2_7 (g0 : Nat → Int32) (z0 : Nat) (g1 : Nat → Int32) (z1 : Nat) (i2 : Int32) (i3 : Int32) (k : Nat) : Int32 := match k with
  | 0 => (1 : Int32)
  | k + 1 => (if (g1 (i3).toNatClampNeg) = (13 : Int32) then (0 : Int32) else (if (g1 (i3).toNatClampNeg) = (10 : Int32) then (0 : Int32) else (if (g1 (i3).toNatClampNeg) = (0 : Int32) then (0 : Int32) else f2_7 g0 z0 g1 z1 i2 (i3 + (1 : Int32)) k)))
set_option maxRecDepth 65536 in
set_option maxHeartbeats 40000000 in
theorem b2_7 {p : Program} {l : Launch} {e : Env} {s : State} {m : MethodId} {args : Array Value} {below : List Frame} {meth : Method} {c : Code} {Z : State} {a0 : Array Value} {h : Heap} {n0 : Nat} {Q : Option Value → Heap → List Loc → Prop} (k : Nat) : ∀ {T : State} {locs : List Loc} {cells slots : Nat} (o0 : Addr) (g0 : Nat → Int32) (z0 : Nat) (o1 : Addr) (g1 : Nat → Int32) (z1 : Nat) (i2 : Int32) (i3 : Int32) (s4 : Slot) (hw : ∀ d ∈ tables_1, d.before a0 Z = true) (X : Stand p l e ({ frames := 0, cells := 0, slots := 0, locals := 0 } : Room) s m args below meth c T locs cells slots) (hx : p.tables.exec = Jvm.exec) (hZ : Z.Warmed39 s.vm) (hby : c.code = prog_42_method_2_code) (hml : c.maxLocals = 5) (hown : s.vm.findClass "com/example/endorse/endorse/ManifestSection" = some m.cls) (hret : meth.sig.returnType = some .boolean) (hlk : meth.locks = false) (eT : T.heap = h) (N : Fr n0 locs) (hc : cells ≤ 0) (hs : slots ≤ 0) (A0 : own_AF Z h o0 .byte z0 g0) (A1 : own_AF Z h o1 .byte z1 g1) (hs4 : One s4) (hz : z0 ≤ 64) (hk : own_lp i3 i2 k z1) (v : Int32) (hv : v = f2_7 g0 z0 g1 z1 i2 i3 k) (hQ : ∀ L', Fr n0 L' → Q (some (.int v)) h L'),
    own_Fin p e below s Q 0 0 (T.setTop (mkF m 7 #[.val (.ref o0), .val (.ref o1), .val (.int i2), .val (.int i3), s4] [])) := by
  induction k with
  | zero =>
    intro T locs cells slots o0 g0 z0 o1 g1 z1 i2 i3 s4 hw X hx hZ hby hml hown hret hlk eT N hc hs A0 A1 hs4 hz hk v hv hQ
    refine own_step (fun t k => XS.iloadN X.here hx rfl (hb hby d2_7) rfl  k) ?_
    show own_Fin p e below s Q 0 0 (T.setTop (mkF m 8 #[.val (.ref o0), .val (.ref o1), .val (.int i2), .val (.int i3), s4] [(.int i3)]))
    refine own_step (fun t k => XS.iloadN X.here hx rfl (hb hby d2_8) rfl  k) ?_
    show own_Fin p e below s Q 0 0 (T.setTop (mkF m 9 #[.val (.ref o0), .val (.ref o1), .val (.int i2), .val (.int i3), s4] [(.int i2), (.int i3)]))
    refine own_step (fun t k => XS.icmpYes X.here hx rfl (pc0 := 9) (pc' := 44) rfl (hb hby d2_9) rfl (flt (own_lp0 hk)).2.1 (by decide) (by decide) k) ?_
    show own_Fin p e below s Q 0 0 (T.setTop (mkF m 44 #[.val (.ref o0), .val (.ref o1), .val (.int i2), .val (.int i3), s4] []))
    refine own_step (fun t k => XS.iconst X.here hx rfl (hb hby d2_44) k) ?_
    show own_Fin p e below s Q 0 0 (T.setTop (mkF m 45 #[.val (.ref o0), .val (.ref o1), .val (.int i2), .val (.int i3), s4] [(.int (1 : Int32))]))
    exact own_retN X hx hlk hret (by simp) (hb hby d2_45) (by omega) (by omega) eT N hQ (hv)
  | succ k ih =>
    intro T locs cells slots o0 g0 z0 o1 g1 z1 i2 i3 s4 hw X hx hZ hby hml hown hret hlk eT N hc hs A0 A1 hs4 hz hk v hv hQ
    refine own_step (fun t k => XS.iloadN X.here hx rfl (hb hby d2_7) rfl  k) ?_
    show own_Fin p e below s Q 0 0 (T.setTop (mkF m 8 #[.val (.ref o0), .val (.ref o1), .val (.int i2), .val (.int i3), s4] [(.int i3)]))
    refine own_step (fun t k => XS.iloadN X.here hx rfl (hb hby d2_8) rfl  k) ?_
    show own_Fin p e below s Q 0 0 (T.setTop (mkF m 9 #[.val (.ref o0), .val (.ref o1), .val (.int i2), .val (.int i3), s4] [(.int i2), (.int i3)]))
    refine own_step (fun t k => XS.icmpNo X.here hx rfl (hb hby d2_9) rfl (tlt (own_lp1 hk)).2.1 k) ?_
    show own_Fin p e below s Q 0 0 (T.setTop (mkF m 12 #[.val (.ref o0), .val (.ref o1), .val (.int i2), .val (.int i3), s4] []))
    refine own_step (fun t k => XS.aloadN X.here hx rfl (hb hby d2_12) rfl rfl k) ?_
    show own_Fin p e below s Q 0 0 (T.setTop (mkF m 13 #[.val (.ref o0), .val (.ref o1), .val (.int i2), .val (.int i3), s4] [(.ref o1)]))
    refine own_step (fun t k => XS.iloadN X.here hx rfl (hb hby d2_13) rfl  k) ?_
    show own_Fin p e below s Q 0 0 (T.setTop (mkF m 14 #[.val (.ref o0), .val (.ref o1), .val (.int i2), .val (.int i3), s4] [(.int i3), (.ref o1)]))
    obtain ⟨ca14, Ar14, Sz14, Ht14⟩ := id A1
    have hin14 : ¬ (i3 < 0 ∨ ca14.slots.size ≤ (i3).toNatClampNeg) := by rw [Sz14]; exact own_lpin hk
    refine own_step (X.baloadBytes hx (j := i3) (v := (.int (g1 (i3).toNatClampNeg))) (by rw [eT]; exact Ar14.1) (State.isArrayOf_alike hZ.alike Ar14.2.1) Ar14.2.2 hin14 (Ht14 _ (by rw [← Sz14]; exact Nat.lt_of_not_le fun y => hin14 (Or.inr y))) (g := (mkF m 14 #[.val (.ref o0), .val (.ref o1), .val (.int i2), .val (.int i3), s4] [(.int i3), (.ref o1)])) rfl rfl (hb hby d2_14)) ?_
    show own_Fin p e below s Q 0 0 (T.setTop (mkF m 15 #[.val (.ref o0), .val (.ref o1), .val (.int i2), .val (.int i3), s4] [(.int (g1 (i3).toNatClampNeg))]))
    refine own_step (fun t k => XS.istoreS X.here hx rfl (hb hby d2_15) rfl rfl hs4 k) ?_
    show own_Fin p e below s Q 0 0 (T.setTop (mkF m 17 #[.val (.ref o0), .val (.ref o1), .val (.int i2), .val (.int i3), .val (.int (g1 (i3).toNatClampNeg))] []))
    refine own_step (fun t k => XS.iload X.here hx rfl (hb hby d2_17) rfl  k) ?_
    show own_Fin p e below s Q 0 0 (T.setTop (mkF m 19 #[.val (.ref o0), .val (.ref o1), .val (.int i2), .val (.int i3), .val (.int (g1 (i3).toNatClampNeg))] [(.int (g1 (i3).toNatClampNeg))]))
    refine own_step (fun t k => XS.bipush X.here hx rfl (hb hby d2_19) k) ?_
    show own_Fin p e below s Q 0 0 (T.setTop (mkF m 21 #[.val (.ref o0), .val (.ref o1), .val (.int i2), .val (.int i3), .val (.int (g1 (i3).toNatClampNeg))] [(.int (13 : Int32)), (.int (g1 (i3).toNatClampNeg))]))
    by_cases hB21_19 : (g1 (i3).toNatClampNeg) = (13 : Int32)
    · refine own_step (fun t k => XS.icmpYes X.here hx rfl (pc0 := 21) (pc' := 36) rfl (hb hby d2_21) rfl (teq hB21_19).1 (by decide) (by decide) k) ?_
      have hvhB21_19 : v = (0 : Int32) := hv.trans (if_pos hB21_19)
      show own_Fin p e below s Q 0 0 (T.setTop (mkF m 36 #[.val (.ref o0), .val (.ref o1), .val (.int i2), .val (.int i3), .val (.int (g1 (i3).toNatClampNeg))] []))
      refine own_step (fun t k => XS.iconst X.here hx rfl (hb hby d2_36) k) ?_
      show own_Fin p e below s Q 0 0 (T.setTop (mkF m 37 #[.val (.ref o0), .val (.ref o1), .val (.int i2), .val (.int i3), .val (.int (g1 (i3).toNatClampNeg))] [(.int (0 : Int32))]))
      exact own_retN X hx hlk hret (by simp) (hb hby d2_37) (by omega) (by omega) eT N hQ (hvhB21_19)
    · refine own_step (fun t k => XS.icmpNo X.here hx rfl (hb hby d2_21) rfl (feq hB21_19).1 k) ?_
      have hvhB21_19 : v = (if (g1 (i3).toNatClampNeg) = (10 : Int32) then (0 : Int32) else (if (g1 (i3).toNatClampNeg) = (0 : Int32) then (0 : Int32) else f2_7 g0 z0 g1 z1 i2 (i3 + (1 : Int32)) k)) := hv.trans (if_neg hB21_19)
      show own_Fin p e below s Q 0 0 (T.setTop (mkF m 24 #[.val (.ref o0), .val (.ref o1), .val (.int i2), .val (.int i3), .val (.int (g1 (i3).toNatClampNeg))] []))
      refine own_step (fun t k => XS.iload X.here hx rfl (hb hby d2_24) rfl  k) ?_
      show own_Fin p e below s Q 0 0 (T.setTop (mkF m 26 #[.val (.ref o0), .val (.ref o1), .val (.int i2), .val (.int i3), .val (.int (g1 (i3).toNatClampNeg))] [(.int (g1 (i3).toNatClampNeg))]))
      refine own_step (fun t k => XS.bipush X.here hx rfl (hb hby d2_26) k) ?_
      show own_Fin p e below s Q 0 0 (T.setTop (mkF m 28 #[.val (.ref o0), .val (.ref o1), .val (.int i2), .val (.int i3), .val (.int (g1 (i3).toNatClampNeg))] [(.int (10 : Int32)), (.int (g1 (i3).toNatClampNeg))]))
      by_cases hB28_22 : (g1 (i3).toNatClampNeg) = (10 : Int32)
      · refine own_step (fun t k => XS.icmpYes X.here hx rfl (pc0 := 28) (pc' := 36) rfl (hb hby d2_28) rfl (teq hB28_22).1 (by decide) (by decide) k) ?_
        have hvhB28_22 : v = (0 : Int32) := hvhB21_19.trans (if_pos hB28_22)
        show own_Fin p e below s Q 0 0 (T.setTop (mkF m 36 #[.val (.ref o0), .val (.ref o1), .val (.int i2), .val (.int i3), .val (.int (g1 (i3).toNatClampNeg))] []))
        refine own_step (fun t k => XS.iconst X.here hx rfl (hb hby d2_36) k) ?_
        show own_Fin p e below s Q 0 0 (T.setTop (mkF m 37 #[.val (.ref o0), .val (.ref o1), .val (.int i2), .val (.int i3), .val (.int (g1 (i3).toNatClampNeg))] [(.int (0 : Int32))]))
        exact own_retN X hx hlk hret (by simp) (hb hby d2_37) (by omega) (by omega) eT N hQ (hvhB28_22)
      · refine own_step (fun t k => XS.icmpNo X.here hx rfl (hb hby d2_28) rfl (feq hB28_22).1 k) ?_
        have hvhB28_22 : v = (if (g1 (i3).toNatClampNeg) = (0 : Int32) then (0 : Int32) else f2_7 g0 z0 g1 z1 i2 (i3 + (1 : Int32)) k) := hvhB21_19.trans (if_neg hB28_22)
        show own_Fin p e below s Q 0 0 (T.setTop (mkF m 31 #[.val (.ref o0), .val (.ref o1), .val (.int i2), .val (.int i3), .val (.int (g1 (i3).toNatClampNeg))] []))
        refine own_step (fun t k => XS.iload X.here hx rfl (hb hby d2_31) rfl  k) ?_
        show own_Fin p e below s Q 0 0 (T.setTop (mkF m 33 #[.val (.ref o0), .val (.ref o1), .val (.int i2), .val (.int i3), .val (.int (g1 (i3).toNatClampNeg))] [(.int (g1 (i3).toNatClampNeg))]))
        by_cases hB33_25 : (g1 (i3).toNatClampNeg) = (0 : Int32)
        · refine own_step (fun t k => XS.ifNo X.here hx rfl (hb hby d2_33) rfl ((if0 _ _).trans (teq hB33_25).2) k) ?_
          have hvhB33_25 : v = (0 : Int32) := hvhB28_22.trans (if_pos hB33_25)
          show own_Fin p e below s Q 0 0 (T.setTop (mkF m 36 #[.val (.ref o0), .val (.ref o1), .val (.int i2), .val (.int i3), .val (.int (g1 (i3).toNatClampNeg))] []))
          refine own_step (fun t k => XS.iconst X.here hx rfl (hb hby d2_36) k) ?_
          show own_Fin p e below s Q 0 0 (T.setTop (mkF m 37 #[.val (.ref o0), .val (.ref o1), .val (.int i2), .val (.int i3), .val (.int (g1 (i3).toNatClampNeg))] [(.int (0 : Int32))]))
          exact own_retN X hx hlk hret (by simp) (hb hby d2_37) (by omega) (by omega) eT N hQ (hvhB33_25)
        · refine own_step (fun t k => XS.ifYes X.here hx rfl (pc0 := 33) (pc' := 38) rfl (hb hby d2_33) rfl ((if0 _ _).trans (feq hB33_25).2) (by decide) (by decide) k) ?_
          have hvhB33_25 : v = f2_7 g0 z0 g1 z1 i2 (i3 + (1 : Int32)) k := hvhB28_22.trans (if_neg hB33_25)
          show own_Fin p e below s Q 0 0 (T.setTop (mkF m 38 #[.val (.ref o0), .val (.ref o1), .val (.int i2), .val (.int i3), .val (.int (g1 (i3).toNatClampNeg))] []))
          refine own_step (fun t k => XS.iinc X.here hx rfl (hb hby d2_38) rfl (l' := #[.val (.ref o0), .val (.ref o1), .val (.int i2), .val (.int (i3 + (1 : Int32))), .val (.int (g1 (i3).toNatClampNeg))]) rfl k) ?_
          show own_Fin p e below s Q 0 0 (T.setTop (mkF m 41 #[.val (.ref o0), .val (.ref o1), .val (.int i2), .val (.int (i3 + (1 : Int32))), .val (.int (g1 (i3).toNatClampNeg))] []))
          refine own_step (fun t k => XS.goto X.here hx rfl (pc0 := 41) (pc' := 7) rfl (hb hby d2_41) (by decide) (by decide) k) ?_
          exact ih o0 g0 z0 o1 g1 z1 i2 (i3 + (1 : Int32)) (.val (.int (g1 (i3).toNatClampNeg))) hw X hx hZ hby hml hown hret hlk eT N (by omega) (by omega) A0 A1 (One.val rfl) hz (own_lps hk) v (hvhB33_25) hQ
def f2_0 (g0 : Nat → Int32) (z0 : Nat) : Int32 := f2_7 g0 z0 g0 z0 (z0.toInt32) (0 : Int32) z0
set_option maxRecDepth 65536 in
set_option maxHeartbeats 40000000 in
theorem b2_0 {p : Program} {l : Launch} {e : Env} {s : State} {m : MethodId} {args : Array Value} {below : List Frame} {meth : Method} {c : Code} {T : State} {locs : List Loc} {cells slots : Nat} {Z : State} {a0 : Array Value} {h : Heap} {n0 : Nat} {Q : Option Value → Heap → List Loc → Prop} (o0 : Addr) (g0 : Nat → Int32) (z0 : Nat) (hw : ∀ d ∈ tables_1, d.before a0 Z = true) (X : Stand p l e ({ frames := 0, cells := 0, slots := 0, locals := 0 } : Room) s m args below meth c T locs cells slots) (hx : p.tables.exec = Jvm.exec) (hZ : Z.Warmed39 s.vm) (hby : c.code = prog_42_method_2_code) (hml : c.maxLocals = 5) (hown : s.vm.findClass "com/example/endorse/endorse/ManifestSection" = some m.cls) (hret : meth.sig.returnType = some .boolean) (hlk : meth.locks = false) (eT : T.heap = h) (N : Fr n0 locs) (hc : cells ≤ 0) (hs : slots ≤ 0) (A0 : own_AF Z h o0 .byte z0 g0) (hz : z0 ≤ 64) (v : Int32) (hv : v = f2_0 g0 z0) (hQ : ∀ L', Fr n0 L' → Q (some (.int v)) h L') :
    own_Fin p e below s Q 0 0 (T.setTop (mkF m 0 #[.val (.ref o0), .unset, .unset, .unset, .unset] [])) := by
  refine own_step (fun t k => XS.aloadN X.here hx rfl (hb hby d2_0) rfl rfl k) ?_
  show own_Fin p e below s Q 0 0 (T.setTop (mkF m 1 #[.val (.ref o0), .unset, .unset, .unset, .unset] [(.ref o0)]))
  refine own_step (fun t k => XS.astoreN X.here hx rfl (hb hby d2_1) rfl rfl (l' := #[.val (.ref o0), .val (.ref o0), .unset, .unset, .unset]) rfl k) ?_
  show own_Fin p e below s Q 0 0 (T.setTop (mkF m 2 #[.val (.ref o0), .val (.ref o0), .unset, .unset, .unset] []))
  refine own_step (fun t k => XS.aloadN X.here hx rfl (hb hby d2_2) rfl rfl k) ?_
  show own_Fin p e below s Q 0 0 (T.setTop (mkF m 3 #[.val (.ref o0), .val (.ref o0), .unset, .unset, .unset] [(.ref o0)]))
  obtain ⟨ca3, Ar3, Sz3, Ht3⟩ := id A0
  refine own_step (X.arraylength hx (by rw [eT]; exact Ar3.1) (State.isArrayOf_alike hZ.alike Ar3.2.1) (g := (mkF m 3 #[.val (.ref o0), .val (.ref o0), .unset, .unset, .unset] [(.ref o0)])) rfl rfl (hb hby d2_3)) ?_
  rw [Sz3]
  show own_Fin p e below s Q 0 0 (T.setTop (mkF m 4 #[.val (.ref o0), .val (.ref o0), .unset, .unset, .unset] [(.int (z0.toInt32))]))
  refine own_step (fun t k => XS.istoreN X.here hx rfl (hb hby d2_4) rfl (l' := #[.val (.ref o0), .val (.ref o0), .val (.int (z0.toInt32)), .unset, .unset]) rfl k) ?_
  show own_Fin p e below s Q 0 0 (T.setTop (mkF m 5 #[.val (.ref o0), .val (.ref o0), .val (.int (z0.toInt32)), .unset, .unset] []))
  refine own_step (fun t k => XS.iconst X.here hx rfl (hb hby d2_5) k) ?_
  show own_Fin p e below s Q 0 0 (T.setTop (mkF m 6 #[.val (.ref o0), .val (.ref o0), .val (.int (z0.toInt32)), .unset, .unset] [(.int (0 : Int32))]))
  refine own_step (fun t k => XS.istoreN X.here hx rfl (hb hby d2_6) rfl (l' := #[.val (.ref o0), .val (.ref o0), .val (.int (z0.toInt32)), .val (.int (0 : Int32)), .unset]) rfl k) ?_
  exact b2_7 z0 o0 g0 z0 o0 g0 z0 (z0.toInt32) (0 : Int32) (.unset) hw X hx hZ hby hml hown hret hlk eT N (by omega) (by omega) A0 A0 One.u hz (own_len0 hz) v (hv) hQ
theorem pnm_1 : plainName "com/example/endorse/endorse/ManifestSection" = true := by first | (simp [plainName, overriddenIn]; done) | decide +kernel
theorem pdm_2 : parseMethodDescriptor "([B)Z" = some ⟨[(.array .byte)], some .boolean⟩ := by decide +kernel
theorem ef_2 (m : MethodId) (o0 : Addr) : entryFrame m #[(.ref o0)] 5 = (mkF m 0 #[.val (.ref o0), .unset, .unset, .unset, .unset] []) := by first | (simp [entryFrame, mkF, argsToLocals, Value.category]; done) | rfl
def Q2 (o0 : Addr) (g0 : Nat → Int32) (z0 : Nat) (h0 : Heap) (n0 : Nat) (v : Option Value) (h : Heap) (L : List Loc) : Prop := v = some (.int (f2_0 g0 z0)) ∧ Fr n0 L ∧ h = h0
set_option maxRecDepth 65536 in
set_option maxHeartbeats 4000000 in
theorem rm2 (l : Launch) (Z : State) (a0 : Array Value) (hw : ∀ d ∈ tables_1, d.before a0 Z = true) (ws : List Jvm.Cond) (o0 : Addr) (g0 : Nat → Int32) (z0 : Nat) (h0 : Heap) (n0 : Nat) (A0 : own_AF Z h0 o0 .byte z0 g0) (hz : z0 ≤ 64) :
    MetFree l (⟨"com/example/endorse/endorse/ManifestSection", "canHold", "([B)Z"⟩ : MethodName) (head1 (Jvm.Cond.code (⟨"com/example/endorse/endorse/ManifestSection", "canHold", "([B)Z"⟩ : MethodName) prog_42_method_2_code 5 (some .boolean) :: ws) ({ frames := 0, cells := 0, slots := 0, locals := 0 } : Room)) (fun a U => a = #[(.ref o0)] ∧ Z.Warmed39 U.vm ∧ U.heap = h0) (fun _ _ _ _ _ => True) (fun _ U o U' => ∃ v L, o = .returned v ∧ Q2 o0 g0 z0 h0 n0 v U'.heap L ∧ FrameEnd U o U' L ({ frames := 0, cells := 0, slots := 0, locals := 0 } : Room).cells ({ frames := 0, cells := 0, slots := 0, locals := 0 } : Room).slots) := by
  refine MetFree.of_bodySF (plainFor_of_name pnm_1) hisR ?_
  intro p e s m args below meth c s₁ Bd hml0 hP hK
  obtain ⟨rfl, hZ, hh⟩ := hP
  have hx := Bd.exec
  have hby := Bd.bytes
  have hml : c.maxLocals = 5 := hml0
  have hown : s.vm.findClass "com/example/endorse/endorse/ManifestSection" = some m.cls := findClass_of_methodNamed Bd.named
  have X0 : Stand p l e ({ frames := 0, cells := 0, slots := 0, locals := 0 } : Room) s m #[(.ref o0)] below meth c s₁ [] 0 0 := Stand.of_body Bd
  have e0 : s₁.heap = h0 := by rw [← hh, Bd.state]; rfl
  have fin := b2_0 o0 g0 z0 (Q := Q2 o0 g0 z0 h0 n0) hw X0 hx hZ hby hml hown Bd.returns (BodyLoose.notSynchronized Bd) e0 (Fr.nil n0) (Nat.zero_le _) (Nat.zero_le _) A0 hz _ rfl (fun L' n' => ⟨rfl, n', rfl⟩)
  exact own_step (fun t k => castTop (ef_2 m o0) k) fin
theorem own_ok (b : Int32) : (f3_0 b = 0 → (b = 13 ∨ b = 10 ∨ b = 0)) ∧ ((b = 13 ∨ b = 10 ∨ b = 0) → f3_0 b = 0) := by
  unfold f3_0 f3_6 f3_12
  by_cases h1 : b = (13 : Int32)
  · rw [if_pos h1]; exact ⟨fun _ => Or.inl h1, fun _ => rfl⟩
  rw [if_neg h1]
  by_cases h2 : b = (10 : Int32)
  · rw [if_pos h2]; exact ⟨fun _ => Or.inr (Or.inl h2), fun _ => rfl⟩
  rw [if_neg h2]
  by_cases h3 : b = (0 : Int32)
  · rw [if_pos h3]; exact ⟨fun _ => Or.inr (Or.inr h3), fun _ => rfl⟩
  rw [if_neg h3]
  exact ⟨fun q => absurd q (by decide : ¬ (1 : Int32) = 0), fun q => q.elim (fun q => absurd q h1) (fun q => q.elim (fun q => absurd q h2) (fun q => absurd q h3))⟩
theorem own_f7s (g g1 : Nat → Int32) (z z1 : Nat) (n i : Int32) (k : Nat) : f2_7 g z g1 z1 n i (k + 1) = (if (g1 (i).toNatClampNeg) = (13 : Int32) then (0 : Int32) else (if (g1 (i).toNatClampNeg) = (10 : Int32) then (0 : Int32) else (if (g1 (i).toNatClampNeg) = (0 : Int32) then (0 : Int32) else f2_7 g z g1 z1 n (i + (1 : Int32)) k))) := rfl
theorem own_can1' (g g1 : Nat → Int32) (z z1 : Nat) (n : Int32) (k : Nat) : ∀ i : Int32, own_lp i n k z1 → (∀ j, i.toNatClampNeg ≤ j → j < i.toNatClampNeg + k → ¬ f3_0 (g1 j) = 0) → f2_7 g z g1 z1 n i k = 1 := by
  induction k with
  | zero => intro i _ _; rfl
  | succ k ih =>
    intro i h hok
    have e := own_lps h
    have hi : (i + (1 : Int32)).toNatClampNeg = i.toNatClampNeg + 1 := by
      have a1 := nat_of (j := i) (fun y => by have := Int32.lt_iff_toInt_lt.mp y; rw [own_lz] at this; have := h.2.1; omega)
      have a2 := nat_of (j := i + 1) (fun y => by have := Int32.lt_iff_toInt_lt.mp y; rw [own_lz] at this; have := e.2.1; omega)
      have b1 := h.1
      have b2 := e.1
      omega
    have h0 := hok i.toNatClampNeg (Nat.le_refl _) (by omega)
    have k1 : ¬ (g1 i.toNatClampNeg = 13 ∨ g1 i.toNatClampNeg = 10 ∨ g1 i.toNatClampNeg = 0) := fun y => h0 ((own_ok _).2 y)
    rw [own_f7s, if_neg (fun y => k1 (Or.inl y)), if_neg (fun y => k1 (Or.inr (Or.inl y))), if_neg (fun y => k1 (Or.inr (Or.inr y)))]
    exact ih _ e (fun j h1 h2 => hok j (by omega) (by omega))
theorem own_can0' (g g1 : Nat → Int32) (z z1 : Nat) (n : Int32) (k : Nat) : ∀ i : Int32, own_lp i n k z1 → ∀ j, i.toNatClampNeg ≤ j → j < i.toNatClampNeg + k → f3_0 (g1 j) = 0 → f2_7 g z g1 z1 n i k = 0 := by
  induction k with
  | zero => intro i _ j h1 h2; omega
  | succ k ih =>
    intro i h j h1 h2 h3
    have e := own_lps h
    have hi : (i + (1 : Int32)).toNatClampNeg = i.toNatClampNeg + 1 := by
      have a1 := nat_of (j := i) (fun y => by have := Int32.lt_iff_toInt_lt.mp y; rw [own_lz] at this; have := h.2.1; omega)
      have a2 := nat_of (j := i + 1) (fun y => by have := Int32.lt_iff_toInt_lt.mp y; rw [own_lz] at this; have := e.2.1; omega)
      have b1 := h.1
      have b2 := e.1
      omega
    rw [own_f7s]
    by_cases c1 : g1 i.toNatClampNeg = 13
    · rw [if_pos c1]
    rw [if_neg c1]
    by_cases c2 : g1 i.toNatClampNeg = 10
    · rw [if_pos c2]
    rw [if_neg c2]
    by_cases c3 : g1 i.toNatClampNeg = 0
    · rw [if_pos c3]
    rw [if_neg c3]
    by_cases q : j = i.toNatClampNeg
    · rw [q] at h3
      exact absurd ((own_ok _).1 h3) (fun y => y.elim c1 (fun y => y.elim c2 c3))
    · exact ih _ e j (by omega) (by omega) h3
theorem own_z00 : (0 : Int32).toNatClampNeg = 0 := by decide
theorem own_can1 (g : Nat → Int32) (n : Nat) (hn : n ≤ 64) (h : ∀ j, j < n → ¬ f3_0 (g j) = 0) : f2_0 g n = 1 :=
  own_can1' g g n n _ n 0 (own_len0 hn) (fun j _ h2 => h j (by rw [own_z00] at h2; omega))
theorem own_can0 (g : Nat → Int32) (n : Nat) (hn : n ≤ 64) (j : Nat) (hj : j < n) (h : f3_0 (g j) = 0) : f2_0 g n = 0 :=
  own_can0' g g n n _ n 0 (own_len0 hn) j (by rw [own_z00]; omega) (by rw [own_z00]; omega) h
theorem own_nn (x : Int32) : nar .byte (nar .byte x) = nar .byte x := by
  have a := c_i2b x
  have b := c_i2b x.toInt8.toInt32
  apply Int32.toInt_inj.mp
  show x.toInt8.toInt32.toInt8.toInt32.toInt = x.toInt8.toInt32.toInt
  omega
theorem own_drn (x : Int32) : nar .byte (f1_0 x) = f1_0 x := by
  unfold f1_0 f1_15 f1_23
  split
  · exact own_nn _
  · split
    · exact own_nn _
    · split
      · exact own_nn _
      · exact own_nn _
theorem own_n (k : Int32) : 0 ≤ ((k &&& (2147483647 : Int32)) % (5 : Int32)).toInt ∧ ((k &&& (2147483647 : Int32)) % (5 : Int32)).toInt ≤ 4 := by
  have e0 := (c_and k 2147483647 (by decide)).1
  have e1 := (c_irem (k &&& (2147483647 : Int32)) 5 5 (by decide)).1 e0
  omega
theorem own_n4 {x : Int32} (h : 0 ≤ x.toInt ∧ x.toInt ≤ 4) (h0 : ¬ x = 0) (h1 : ¬ x = 1) (h2 : ¬ x = 2) (h3 : ¬ x = 3) : x = 4 := by
  have a0 : ¬ x.toInt = 0 := fun y => h0 ((own_eqi (by decide)).mpr y)
  have a1 : ¬ x.toInt = 1 := fun y => h1 ((own_eqi (by decide)).mpr y)
  have a2 : ¬ x.toInt = 2 := fun y => h2 ((own_eqi (by decide)).mpr y)
  have a3 : ¬ x.toInt = 3 := fun y => h3 ((own_eqi (by decide)).mpr y)
  exact (own_eqi (b := 4) (by decide)).mpr (by omega)
set_option maxRecDepth 65536 in
set_option maxHeartbeats 40000000 in
theorem b0_33 {p : Program} {l : Launch} {e : Env} {s : State} {m : MethodId} {args : Array Value} {below : List Frame} {meth : Method} {c : Code} {T : State} {locs : List Loc} {cells slots : Nat} {Z : State} {a0 : Array Value} {h : Heap} {n0 : Nat} {Q : Option Value → Heap → List Loc → Prop} (i0 : Int32) (i1 : Int32) (i2 : Int32) (i3 : Int32) (i4 : Int32) (i5 : Int32) (i6 : Int32) (i7 : Int32) (i8 : Int32) (i9 : Int32) (hw : ∀ d ∈ tables_1, d.before a0 Z = true) (X : Stand p l e room_1 s m args below meth c T locs cells slots) (hx : p.tables.exec = Jvm.exec) (hZ : Z.Warmed39 s.vm) (hby : c.code = code) (hml : c.maxLocals = 12) (hown : s.vm.findClass "com/example/endorse/endorse/ManifestSectionCanHoldPinLaw" = some m.cls) (hret : meth.sig.returnType = some .boolean) (hlk : meth.locks = false) (eT : T.heap = h) (N : Fr n0 locs) (hc : cells ≤ 0) (hs : slots ≤ 0) (hn : 0 ≤ i5.toInt ∧ i5.toInt ≤ 4) (hb6 : nar .byte i6 = i6) (hb7 : nar .byte i7 = i7) (hb8 : nar .byte i8 = i8) (hb9 : nar .byte i9 = i9) (Z0 : n0 ≤ h.size) (hQ : ∀ H' L', Fr n0 L' → Q (some (.int 1)) H' L') :
    own_Fin p e below s Q 16 128 (T.setTop (mkF m 33 #[.val (.int i0), .val (.int i1), .val (.int i2), .val (.int i3), .val (.int i4), .val (.int i5), .val (.int i6), .val (.int i7), .val (.int i8), .val (.int i9), .unset, .unset] [])) := by
  refine own_step (fun t k => XS.iload X.here hx rfl (hb hby at_33) rfl  k) ?_
  show own_Fin p e below s Q 16 128 (T.setTop (mkF m 35 #[.val (.int i0), .val (.int i1), .val (.int i2), .val (.int i3), .val (.int i4), .val (.int i5), .val (.int i6), .val (.int i7), .val (.int i8), .val (.int i9), .unset, .unset] [(.int i5)]))
  by_cases hB35_32 : i5 = (0 : Int32)
  · refine own_step (fun t k => XS.ifNo X.here hx rfl (hb hby at_35) rfl ((if0 _ _).trans (teq hB35_32).2) k) ?_
    show own_Fin p e below s Q 16 128 (T.setTop (mkF m 38 #[.val (.int i0), .val (.int i1), .val (.int i2), .val (.int i3), .val (.int i4), .val (.int i5), .val (.int i6), .val (.int i7), .val (.int i8), .val (.int i9), .unset, .unset] []))
    refine own_step (fun t k => XS.iconst X.here hx rfl (hb hby at_38) k) ?_
    show own_Fin p e below s Q 16 128 (T.setTop (mkF m 39 #[.val (.int i0), .val (.int i1), .val (.int i2), .val (.int i3), .val (.int i4), .val (.int i5), .val (.int i6), .val (.int i7), .val (.int i8), .val (.int i9), .unset, .unset] [(.int (0 : Int32))]))
    obtain ⟨T33, h33, k33, X33, e33, E33, AA33, st33⟩ := newP X hx hZ (hw _ (List.mem_of_getElem? (i := 5) rfl)) eT (g := (mkF m 39 #[.val (.int i0), .val (.int i1), .val (.int i2), .val (.int i3), .val (.int i4), .val (.int i5), .val (.int i6), .val (.int i7), .val (.int i8), .val (.int i9), .unset, .unset] [(.int (0 : Int32))])) rfl (hb hby at_39) rfl (by decide) (cap := 0) (by decide) (by decide) (by show cells + 1 ≤ 16; omega) (by show slots + 0 ≤ 128; omega)
    obtain ⟨b33, gg33⟩ : ∃ z, z = h.size := ⟨_, rfl⟩
    rw [← gg33] at AA33 st33
    have V33 : own_AF Z h33 b33 .byte 0 (fun _ => 0) := own_AFnew AA33 (by decide)
    have fr33 : n0 ≤ b33 := Nat.le_trans Z0 (Nat.le_of_eq gg33.symm)
    have Z033 : n0 ≤ h33.size := Nat.le_trans Z0 E33.1
    refine own_step st33 ?_
    show own_Fin p e below s Q 16 128 (T33.setTop (mkF m 41 #[.val (.int i0), .val (.int i1), .val (.int i2), .val (.int i3), .val (.int i4), .val (.int i5), .val (.int i6), .val (.int i7), .val (.int i8), .val (.int i9), .unset, .unset] [(.ref b33)]))
    refine own_step (fun t k => XS.astore X33.here hx rfl (hb hby at_41) rfl rfl (l' := #[.val (.int i0), .val (.int i1), .val (.int i2), .val (.int i3), .val (.int i4), .val (.int i5), .val (.int i6), .val (.int i7), .val (.int i8), .val (.int i9), .val (.ref b33), .unset]) rfl k) ?_
    show own_Fin p e below s Q 16 128 (T33.setTop (mkF m 43 #[.val (.int i0), .val (.int i1), .val (.int i2), .val (.int i3), .val (.int i4), .val (.int i5), .val (.int i6), .val (.int i7), .val (.int i8), .val (.int i9), .val (.ref b33), .unset] []))
    refine own_step (fun t k => XS.goto X33.here hx rfl (pc0 := 43) (pc' := 143) rfl (hb hby at_43) (by decide) (by decide) k) ?_
    show own_Fin p e below s Q 16 128 (T33.setTop (mkF m 143 #[.val (.int i0), .val (.int i1), .val (.int i2), .val (.int i3), .val (.int i4), .val (.int i5), .val (.int i6), .val (.int i7), .val (.int i8), .val (.int i9), .val (.ref b33), .unset] []))
    refine own_step (fun t k => XS.iload X33.here hx rfl (hb hby at_143) rfl  k) ?_
    show own_Fin p e below s Q 16 128 (T33.setTop (mkF m 145 #[.val (.int i0), .val (.int i1), .val (.int i2), .val (.int i3), .val (.int i4), .val (.int i5), .val (.int i6), .val (.int i7), .val (.int i8), .val (.int i9), .val (.ref b33), .unset] [(.int i5)]))
    refine own_step (fun t k => XS.iconst X33.here hx rfl (hb hby at_145) k) ?_
    show own_Fin p e below s Q 16 128 (T33.setTop (mkF m 146 #[.val (.int i0), .val (.int i1), .val (.int i2), .val (.int i3), .val (.int i4), .val (.int i5), .val (.int i6), .val (.int i7), .val (.int i8), .val (.int i9), .val (.ref b33), .unset] [(.int (1 : Int32)), (.int i5)]))
    refine own_step (fun t k => XS.icmpYes X33.here hx rfl (pc0 := 146) (pc' := 157) rfl (hb hby at_146) rfl (tlt (by rw [hB35_32]; decide : i5 < (1 : Int32))).1 (by decide) (by decide) k) ?_
    show own_Fin p e below s Q 16 128 (T33.setTop (mkF m 157 #[.val (.int i0), .val (.int i1), .val (.int i2), .val (.int i3), .val (.int i4), .val (.int i5), .val (.int i6), .val (.int i7), .val (.int i8), .val (.int i9), .val (.ref b33), .unset] []))
    refine own_step (fun t k => XS.iload X33.here hx rfl (hb hby at_157) rfl  k) ?_
    show own_Fin p e below s Q 16 128 (T33.setTop (mkF m 159 #[.val (.int i0), .val (.int i1), .val (.int i2), .val (.int i3), .val (.int i4), .val (.int i5), .val (.int i6), .val (.int i7), .val (.int i8), .val (.int i9), .val (.ref b33), .unset] [(.int i5)]))
    refine own_step (fun t k => XS.iconst X33.here hx rfl (hb hby at_159) k) ?_
    show own_Fin p e below s Q 16 128 (T33.setTop (mkF m 160 #[.val (.int i0), .val (.int i1), .val (.int i2), .val (.int i3), .val (.int i4), .val (.int i5), .val (.int i6), .val (.int i7), .val (.int i8), .val (.int i9), .val (.ref b33), .unset] [(.int (2 : Int32)), (.int i5)]))
    refine own_step (fun t k => XS.icmpYes X33.here hx rfl (pc0 := 160) (pc' := 171) rfl (hb hby at_160) rfl (tlt (by rw [hB35_32]; decide : i5 < (2 : Int32))).1 (by decide) (by decide) k) ?_
    show own_Fin p e below s Q 16 128 (T33.setTop (mkF m 171 #[.val (.int i0), .val (.int i1), .val (.int i2), .val (.int i3), .val (.int i4), .val (.int i5), .val (.int i6), .val (.int i7), .val (.int i8), .val (.int i9), .val (.ref b33), .unset] []))
    refine own_step (fun t k => XS.iload X33.here hx rfl (hb hby at_171) rfl  k) ?_
    show own_Fin p e below s Q 16 128 (T33.setTop (mkF m 173 #[.val (.int i0), .val (.int i1), .val (.int i2), .val (.int i3), .val (.int i4), .val (.int i5), .val (.int i6), .val (.int i7), .val (.int i8), .val (.int i9), .val (.ref b33), .unset] [(.int i5)]))
    refine own_step (fun t k => XS.iconst X33.here hx rfl (hb hby at_173) k) ?_
    show own_Fin p e below s Q 16 128 (T33.setTop (mkF m 174 #[.val (.int i0), .val (.int i1), .val (.int i2), .val (.int i3), .val (.int i4), .val (.int i5), .val (.int i6), .val (.int i7), .val (.int i8), .val (.int i9), .val (.ref b33), .unset] [(.int (3 : Int32)), (.int i5)]))
    refine own_step (fun t k => XS.icmpYes X33.here hx rfl (pc0 := 174) (pc' := 185) rfl (hb hby at_174) rfl (tlt (by rw [hB35_32]; decide : i5 < (3 : Int32))).1 (by decide) (by decide) k) ?_
    show own_Fin p e below s Q 16 128 (T33.setTop (mkF m 185 #[.val (.int i0), .val (.int i1), .val (.int i2), .val (.int i3), .val (.int i4), .val (.int i5), .val (.int i6), .val (.int i7), .val (.int i8), .val (.int i9), .val (.ref b33), .unset] []))
    refine own_step (fun t k => XS.iload X33.here hx rfl (hb hby at_185) rfl  k) ?_
    show own_Fin p e below s Q 16 128 (T33.setTop (mkF m 187 #[.val (.int i0), .val (.int i1), .val (.int i2), .val (.int i3), .val (.int i4), .val (.int i5), .val (.int i6), .val (.int i7), .val (.int i8), .val (.int i9), .val (.ref b33), .unset] [(.int i5)]))
    refine own_step (fun t k => XS.iconst X33.here hx rfl (hb hby at_187) k) ?_
    show own_Fin p e below s Q 16 128 (T33.setTop (mkF m 188 #[.val (.int i0), .val (.int i1), .val (.int i2), .val (.int i3), .val (.int i4), .val (.int i5), .val (.int i6), .val (.int i7), .val (.int i8), .val (.int i9), .val (.ref b33), .unset] [(.int (4 : Int32)), (.int i5)]))
    refine own_step (fun t k => XS.icmpYes X33.here hx rfl (pc0 := 188) (pc' := 199) rfl (hb hby at_188) rfl (tlt (by rw [hB35_32]; decide : i5 < (4 : Int32))).1 (by decide) (by decide) k) ?_
    show own_Fin p e below s Q 16 128 (T33.setTop (mkF m 199 #[.val (.int i0), .val (.int i1), .val (.int i2), .val (.int i3), .val (.int i4), .val (.int i5), .val (.int i6), .val (.int i7), .val (.int i8), .val (.int i9), .val (.ref b33), .unset] []))
    refine own_step (fun t k => XS.iconst X33.here hx rfl (hb hby at_199) k) ?_
    show own_Fin p e below s Q 16 128 (T33.setTop (mkF m 200 #[.val (.int i0), .val (.int i1), .val (.int i2), .val (.int i3), .val (.int i4), .val (.int i5), .val (.int i6), .val (.int i7), .val (.int i8), .val (.int i9), .val (.ref b33), .unset] [(.int (1 : Int32))]))
    refine own_step (fun t k => XS.goto X33.here hx rfl (pc0 := 200) (pc' := 204) rfl (hb hby at_200) (by decide) (by decide) k) ?_
    show own_Fin p e below s Q 16 128 (T33.setTop (mkF m 204 #[.val (.int i0), .val (.int i1), .val (.int i2), .val (.int i3), .val (.int i4), .val (.int i5), .val (.int i6), .val (.int i7), .val (.int i8), .val (.int i9), .val (.ref b33), .unset] [(.int (1 : Int32))]))
    refine own_step (fun t k => XS.istore X33.here hx rfl (hb hby at_204) rfl (l' := #[.val (.int i0), .val (.int i1), .val (.int i2), .val (.int i3), .val (.int i4), .val (.int i5), .val (.int i6), .val (.int i7), .val (.int i8), .val (.int i9), .val (.ref b33), .val (.int (1 : Int32))]) rfl k) ?_
    show own_Fin p e below s Q 16 128 (T33.setTop (mkF m 206 #[.val (.int i0), .val (.int i1), .val (.int i2), .val (.int i3), .val (.int i4), .val (.int i5), .val (.int i6), .val (.int i7), .val (.int i8), .val (.int i9), .val (.ref b33), .val (.int (1 : Int32))] []))
    refine own_step (fun t k => XS.aload X33.here hx rfl (hb hby at_206) rfl rfl k) ?_
    show own_Fin p e below s Q 16 128 (T33.setTop (mkF m 208 #[.val (.int i0), .val (.int i1), .val (.int i2), .val (.int i3), .val (.int i4), .val (.int i5), .val (.int i6), .val (.int i7), .val (.int i8), .val (.int i9), .val (.ref b33), .val (.int (1 : Int32))] [(.ref b33)]))
    obtain ⟨_, _, ⟨T34, L34, k34, n34⟩, -, X34, ⟨Lc34, hQ34, l34, y34, z34⟩, st34⟩ := Jvm.LawKit.callS X33 hx (y := (⟨"com/example/endorse/endorse/ManifestSection", "canHold", "([B)Z"⟩ : MethodName)) hown (mvT hZ (hw _ (List.mem_of_getElem? (i := 6) rfl))) (mvT hZ (hw _ (List.mem_of_getElem? (i := 7) rfl))) (mvT hZ (hw _ (List.mem_of_getElem? (i := 8) rfl))) (mvT hZ (hw _ (List.mem_of_getElem? (i := 9) rfl))) (by decide) (backOf (W := 0) (rm2 l Z a0 hw [] b33 (fun _ => 0) 0 h33 n0 V33 (by decide)) hZ (hw _ (List.mem_of_getElem? (i := 9) rfl)) (hw _ (List.mem_of_getElem? (i := 8) rfl)) (by decide) (by decide)) (g := (mkF m 208 #[.val (.int i0), .val (.int i1), .val (.int i2), .val (.int i3), .val (.int i4), .val (.int i5), .val (.int i6), .val (.int i7), .val (.int i8), .val (.int i9), .val (.ref b33), .val (.int (1 : Int32))] [(.ref b33)])) rfl (by rw [hml]; rfl) (argsL := [(.ref b33)]) (rest := []) (lenOf pdm_2 rfl) rfl (by show 2 * 0 + _ ≤ _; exact Nat.le_of_eq rfl) (hb hby at_208) (fun _ _ => ⟨rfl, e33, (by show cells + 1 + 0 ≤ 16; omega), (by show slots + 0 + 0 ≤ 128; omega)⟩)
    dsimp only [Pt.U, Pt.locs, Pt.cells, Pt.slots] at X34 l34 y34 z34 st34 hQ34
    have yy34 : k34 = cells + 1 + 0 := y34
    have zz34 : n34 = slots + 0 + 0 := z34
    rw [yy34, zz34] at X34
    subst l34
    obtain ⟨rfl, N34q, e34⟩ := hQ34
    have N34 := Fr.app N N34q
    refine own_step st34 ?_
    show own_Fin p e below s Q 16 128 (T34.setTop (mkF m 211 #[.val (.int i0), .val (.int i1), .val (.int i2), .val (.int i3), .val (.int i4), .val (.int i5), .val (.int i6), .val (.int i7), .val (.int i8), .val (.int i9), .val (.ref b33), .val (.int (1 : Int32))] [(.int (f2_0 (fun _ => 0) 0))]))
    refine own_step (fun t k => XS.iload X34.here hx rfl (hb hby at_211) rfl  k) ?_
    show own_Fin p e below s Q 16 128 (T34.setTop (mkF m 213 #[.val (.int i0), .val (.int i1), .val (.int i2), .val (.int i3), .val (.int i4), .val (.int i5), .val (.int i6), .val (.int i7), .val (.int i8), .val (.int i9), .val (.ref b33), .val (.int (1 : Int32))] [(.int (1 : Int32)), (.int (f2_0 (fun _ => 0) 0))]))
    refine own_step (fun t k => XS.icmpNo X34.here hx rfl (hb hby at_213) rfl (teq (own_can1 _ _ (by decide) (fun j hj => absurd hj (Nat.not_lt_zero _)))).2 k) ?_
    show own_Fin p e below s Q 16 128 (T34.setTop (mkF m 216 #[.val (.int i0), .val (.int i1), .val (.int i2), .val (.int i3), .val (.int i4), .val (.int i5), .val (.int i6), .val (.int i7), .val (.int i8), .val (.int i9), .val (.ref b33), .val (.int (1 : Int32))] []))
    refine own_step (fun t k => XS.iconst X34.here hx rfl (hb hby at_216) k) ?_
    show own_Fin p e below s Q 16 128 (T34.setTop (mkF m 217 #[.val (.int i0), .val (.int i1), .val (.int i2), .val (.int i3), .val (.int i4), .val (.int i5), .val (.int i6), .val (.int i7), .val (.int i8), .val (.int i9), .val (.ref b33), .val (.int (1 : Int32))] [(.int (1 : Int32))]))
    refine own_step (fun t k => XS.goto X34.here hx rfl (pc0 := 217) (pc' := 221) rfl (hb hby at_217) (by decide) (by decide) k) ?_
    show own_Fin p e below s Q 16 128 (T34.setTop (mkF m 221 #[.val (.int i0), .val (.int i1), .val (.int i2), .val (.int i3), .val (.int i4), .val (.int i5), .val (.int i6), .val (.int i7), .val (.int i8), .val (.int i9), .val (.ref b33), .val (.int (1 : Int32))] [(.int (1 : Int32))]))
    exact own_retN X34 hx hlk hret (by simp) (hb hby at_221) (by omega) (by omega) rfl N34 (fun L' n' => hQ _ L' n') (rfl)
  · refine own_step (fun t k => XS.ifYes X.here hx rfl (pc0 := 35) (pc' := 46) rfl (hb hby at_35) rfl ((if0 _ _).trans (feq hB35_32).2) (by decide) (by decide) k) ?_
    show own_Fin p e below s Q 16 128 (T.setTop (mkF m 46 #[.val (.int i0), .val (.int i1), .val (.int i2), .val (.int i3), .val (.int i4), .val (.int i5), .val (.int i6), .val (.int i7), .val (.int i8), .val (.int i9), .unset, .unset] []))
    refine own_step (fun t k => XS.iload X.here hx rfl (hb hby at_46) rfl  k) ?_
    show own_Fin p e below s Q 16 128 (T.setTop (mkF m 48 #[.val (.int i0), .val (.int i1), .val (.int i2), .val (.int i3), .val (.int i4), .val (.int i5), .val (.int i6), .val (.int i7), .val (.int i8), .val (.int i9), .unset, .unset] [(.int i5)]))
    refine own_step (fun t k => XS.iconst X.here hx rfl (hb hby at_48) k) ?_
    show own_Fin p e below s Q 16 128 (T.setTop (mkF m 49 #[.val (.int i0), .val (.int i1), .val (.int i2), .val (.int i3), .val (.int i4), .val (.int i5), .val (.int i6), .val (.int i7), .val (.int i8), .val (.int i9), .unset, .unset] [(.int (1 : Int32)), (.int i5)]))
    by_cases hB49_35 : i5 = (1 : Int32)
    · refine own_step (fun t k => XS.icmpNo X.here hx rfl (hb hby at_49) rfl (teq hB49_35).2 k) ?_
      show own_Fin p e below s Q 16 128 (T.setTop (mkF m 52 #[.val (.int i0), .val (.int i1), .val (.int i2), .val (.int i3), .val (.int i4), .val (.int i5), .val (.int i6), .val (.int i7), .val (.int i8), .val (.int i9), .unset, .unset] []))
      refine own_step (fun t k => XS.iconst X.here hx rfl (hb hby at_52) k) ?_
      show own_Fin p e below s Q 16 128 (T.setTop (mkF m 53 #[.val (.int i0), .val (.int i1), .val (.int i2), .val (.int i3), .val (.int i4), .val (.int i5), .val (.int i6), .val (.int i7), .val (.int i8), .val (.int i9), .unset, .unset] [(.int (1 : Int32))]))
      obtain ⟨T36, h36, k36, X36, e36, E36, AA36, st36⟩ := newP X hx hZ (hw _ (List.mem_of_getElem? (i := 5) rfl)) eT (g := (mkF m 53 #[.val (.int i0), .val (.int i1), .val (.int i2), .val (.int i3), .val (.int i4), .val (.int i5), .val (.int i6), .val (.int i7), .val (.int i8), .val (.int i9), .unset, .unset] [(.int (1 : Int32))])) rfl (hb hby at_53) rfl (by decide) (cap := 1) (by decide) (by decide) (by show cells + 1 ≤ 16; omega) (by show slots + 1 ≤ 128; omega)
      obtain ⟨b36, gg36⟩ : ∃ z, z = h.size := ⟨_, rfl⟩
      rw [← gg36] at AA36 st36
      have V36 : own_AF Z h36 b36 .byte 1 (fun _ => 0) := own_AFnew AA36 (by decide)
      have fr36 : n0 ≤ b36 := Nat.le_trans Z0 (Nat.le_of_eq gg36.symm)
      have Z036 : n0 ≤ h36.size := Nat.le_trans Z0 E36.1
      refine own_step st36 ?_
      show own_Fin p e below s Q 16 128 (T36.setTop (mkF m 55 #[.val (.int i0), .val (.int i1), .val (.int i2), .val (.int i3), .val (.int i4), .val (.int i5), .val (.int i6), .val (.int i7), .val (.int i8), .val (.int i9), .unset, .unset] [(.ref b36)]))
      refine own_step (fun t k => XS.dup X36.here hx rfl (hb hby at_55) rfl rfl k) ?_
      show own_Fin p e below s Q 16 128 (T36.setTop (mkF m 56 #[.val (.int i0), .val (.int i1), .val (.int i2), .val (.int i3), .val (.int i4), .val (.int i5), .val (.int i6), .val (.int i7), .val (.int i8), .val (.int i9), .unset, .unset] [(.ref b36), (.ref b36)]))
      refine own_step (fun t k => XS.iconst X36.here hx rfl (hb hby at_56) k) ?_
      show own_Fin p e below s Q 16 128 (T36.setTop (mkF m 57 #[.val (.int i0), .val (.int i1), .val (.int i2), .val (.int i3), .val (.int i4), .val (.int i5), .val (.int i6), .val (.int i7), .val (.int i8), .val (.int i9), .unset, .unset] [(.int (0 : Int32)), (.ref b36), (.ref b36)]))
      refine own_step (fun t k => XS.iload X36.here hx rfl (hb hby at_57) rfl  k) ?_
      show own_Fin p e below s Q 16 128 (T36.setTop (mkF m 59 #[.val (.int i0), .val (.int i1), .val (.int i2), .val (.int i3), .val (.int i4), .val (.int i5), .val (.int i6), .val (.int i7), .val (.int i8), .val (.int i9), .unset, .unset] [(.int i6), (.int (0 : Int32)), (.ref b36), (.ref b36)]))
      obtain ⟨ca37, Ar37, Sz37, Ht37⟩ := id V36
      have hin37 : ¬ ((0 : Int32) < 0 ∨ ca37.slots.size ≤ ((0 : Int32)).toNatClampNeg) := by rw [Sz37]; exact (by decide)
      obtain ⟨T37, h37, X37, e37, W37, st37⟩ := stB X36 hx hZ e36 Ar37 (j := (0 : Int32)) hin37 (g := (mkF m 59 #[.val (.int i0), .val (.int i1), .val (.int i2), .val (.int i3), .val (.int i4), .val (.int i5), .val (.int i6), .val (.int i7), .val (.int i8), .val (.int i9), .unset, .unset] [(.int i6), (.int (0 : Int32)), (.ref b36), (.ref b36)])) rfl rfl (hb hby at_59)
      have V37 : own_AF Z h37 b36 .byte 1 (fun i => if i = 0 then (nar .byte i6) else (fun _ => 0) i) := own_AFset Ar37 Sz37 Ht37 W37
      obtain ⟨gf37, hgf37⟩ : ∃ g' : Nat → Int32, g' = (fun i => if i = 0 then (nar .byte i6) else (fun _ => 0) i) := ⟨_, rfl⟩
      rw [← hgf37] at V37
      have N37 := Fr.snoc X37 N fr36
      have Z037 : n0 ≤ h37.size := Nat.le_trans Z036 (Nat.le_of_eq W37.size.symm)
      refine own_step st37 ?_
      show own_Fin p e below s Q 16 128 (T37.setTop (mkF m 60 #[.val (.int i0), .val (.int i1), .val (.int i2), .val (.int i3), .val (.int i4), .val (.int i5), .val (.int i6), .val (.int i7), .val (.int i8), .val (.int i9), .unset, .unset] [(.ref b36)]))
      refine own_step (fun t k => XS.astore X37.here hx rfl (hb hby at_60) rfl rfl (l' := #[.val (.int i0), .val (.int i1), .val (.int i2), .val (.int i3), .val (.int i4), .val (.int i5), .val (.int i6), .val (.int i7), .val (.int i8), .val (.int i9), .val (.ref b36), .unset]) rfl k) ?_
      show own_Fin p e below s Q 16 128 (T37.setTop (mkF m 62 #[.val (.int i0), .val (.int i1), .val (.int i2), .val (.int i3), .val (.int i4), .val (.int i5), .val (.int i6), .val (.int i7), .val (.int i8), .val (.int i9), .val (.ref b36), .unset] []))
      refine own_step (fun t k => XS.goto X37.here hx rfl (pc0 := 62) (pc' := 143) rfl (hb hby at_62) (by decide) (by decide) k) ?_
      show own_Fin p e below s Q 16 128 (T37.setTop (mkF m 143 #[.val (.int i0), .val (.int i1), .val (.int i2), .val (.int i3), .val (.int i4), .val (.int i5), .val (.int i6), .val (.int i7), .val (.int i8), .val (.int i9), .val (.ref b36), .unset] []))
      refine own_step (fun t k => XS.iload X37.here hx rfl (hb hby at_143) rfl  k) ?_
      show own_Fin p e below s Q 16 128 (T37.setTop (mkF m 145 #[.val (.int i0), .val (.int i1), .val (.int i2), .val (.int i3), .val (.int i4), .val (.int i5), .val (.int i6), .val (.int i7), .val (.int i8), .val (.int i9), .val (.ref b36), .unset] [(.int i5)]))
      refine own_step (fun t k => XS.iconst X37.here hx rfl (hb hby at_145) k) ?_
      show own_Fin p e below s Q 16 128 (T37.setTop (mkF m 146 #[.val (.int i0), .val (.int i1), .val (.int i2), .val (.int i3), .val (.int i4), .val (.int i5), .val (.int i6), .val (.int i7), .val (.int i8), .val (.int i9), .val (.ref b36), .unset] [(.int (1 : Int32)), (.int i5)]))
      refine own_step (fun t k => XS.icmpNo X37.here hx rfl (hb hby at_146) rfl (flt (by rw [hB49_35]; decide : ¬ (i5 < (1 : Int32)))).1 k) ?_
      show own_Fin p e below s Q 16 128 (T37.setTop (mkF m 149 #[.val (.int i0), .val (.int i1), .val (.int i2), .val (.int i3), .val (.int i4), .val (.int i5), .val (.int i6), .val (.int i7), .val (.int i8), .val (.int i9), .val (.ref b36), .unset] []))
      refine own_step (fun t k => XS.iload X37.here hx rfl (hb hby at_149) rfl  k) ?_
      show own_Fin p e below s Q 16 128 (T37.setTop (mkF m 151 #[.val (.int i0), .val (.int i1), .val (.int i2), .val (.int i3), .val (.int i4), .val (.int i5), .val (.int i6), .val (.int i7), .val (.int i8), .val (.int i9), .val (.ref b36), .unset] [(.int i6)]))
      obtain ⟨_, _, ⟨T38, L38, k38, n38⟩, -, X38, ⟨Lc38, hQ38, l38, y38, z38⟩, st38⟩ := Jvm.LawKit.callS X37 hx (y := (⟨"com/example/endorse/endorse/ManifestSectionCanHoldPinLaw", "ok", "(B)Z"⟩ : MethodName)) hown (mvT hZ (hw _ (List.mem_of_getElem? (i := 10) rfl))) (mvT hZ (hw _ (List.mem_of_getElem? (i := 11) rfl))) (mvT hZ (hw _ (List.mem_of_getElem? (i := 3) rfl))) (mvT hZ (hw _ (List.mem_of_getElem? (i := 12) rfl))) (by decide) (backOf (W := 0) (rm3 l Z a0 hw [] i6 h37 n0) hZ (hw _ (List.mem_of_getElem? (i := 12) rfl)) (hw _ (List.mem_of_getElem? (i := 3) rfl)) (by decide) (by decide)) (g := (mkF m 151 #[.val (.int i0), .val (.int i1), .val (.int i2), .val (.int i3), .val (.int i4), .val (.int i5), .val (.int i6), .val (.int i7), .val (.int i8), .val (.int i9), .val (.ref b36), .unset] [(.int i6)])) rfl (by rw [hml]; rfl) (argsL := [(.int i6)]) (rest := []) (lenOf pdm_1 rfl) rfl (by show 2 * 0 + _ ≤ _; exact Nat.le_of_eq rfl) (hb hby at_151) (fun _ _ => ⟨rfl, e37, (by show cells + 1 + 0 ≤ 16; omega), (by show slots + 1 + 0 ≤ 128; omega)⟩)
      dsimp only [Pt.U, Pt.locs, Pt.cells, Pt.slots] at X38 l38 y38 z38 st38 hQ38
      have yy38 : k38 = cells + 1 + 0 := y38
      have zz38 : n38 = slots + 1 + 0 := z38
      rw [yy38, zz38] at X38
      subst l38
      obtain ⟨rfl, N38q, e38⟩ := hQ38
      have N38 := Fr.app N37 N38q
      refine own_step st38 ?_
      show own_Fin p e below s Q 16 128 (T38.setTop (mkF m 154 #[.val (.int i0), .val (.int i1), .val (.int i2), .val (.int i3), .val (.int i4), .val (.int i5), .val (.int i6), .val (.int i7), .val (.int i8), .val (.int i9), .val (.ref b36), .unset] [(.int (f3_0 i6))]))
      by_cases hB154_39 : (f3_0 i6) = (0 : Int32)
      · refine own_step (fun t k => XS.ifYes X38.here hx rfl (pc0 := 154) (pc' := 203) rfl (hb hby at_154) rfl ((if0 _ _).trans (teq hB154_39).1) (by decide) (by decide) k) ?_
        show own_Fin p e below s Q 16 128 (T38.setTop (mkF m 203 #[.val (.int i0), .val (.int i1), .val (.int i2), .val (.int i3), .val (.int i4), .val (.int i5), .val (.int i6), .val (.int i7), .val (.int i8), .val (.int i9), .val (.ref b36), .unset] []))
        refine own_step (fun t k => XS.iconst X38.here hx rfl (hb hby at_203) k) ?_
        show own_Fin p e below s Q 16 128 (T38.setTop (mkF m 204 #[.val (.int i0), .val (.int i1), .val (.int i2), .val (.int i3), .val (.int i4), .val (.int i5), .val (.int i6), .val (.int i7), .val (.int i8), .val (.int i9), .val (.ref b36), .unset] [(.int (0 : Int32))]))
        refine own_step (fun t k => XS.istore X38.here hx rfl (hb hby at_204) rfl (l' := #[.val (.int i0), .val (.int i1), .val (.int i2), .val (.int i3), .val (.int i4), .val (.int i5), .val (.int i6), .val (.int i7), .val (.int i8), .val (.int i9), .val (.ref b36), .val (.int (0 : Int32))]) rfl k) ?_
        show own_Fin p e below s Q 16 128 (T38.setTop (mkF m 206 #[.val (.int i0), .val (.int i1), .val (.int i2), .val (.int i3), .val (.int i4), .val (.int i5), .val (.int i6), .val (.int i7), .val (.int i8), .val (.int i9), .val (.ref b36), .val (.int (0 : Int32))] []))
        refine own_step (fun t k => XS.aload X38.here hx rfl (hb hby at_206) rfl rfl k) ?_
        show own_Fin p e below s Q 16 128 (T38.setTop (mkF m 208 #[.val (.int i0), .val (.int i1), .val (.int i2), .val (.int i3), .val (.int i4), .val (.int i5), .val (.int i6), .val (.int i7), .val (.int i8), .val (.int i9), .val (.ref b36), .val (.int (0 : Int32))] [(.ref b36)]))
        obtain ⟨_, _, ⟨T40, L40, k40, n40⟩, -, X40, ⟨Lc40, hQ40, l40, y40, z40⟩, st40⟩ := Jvm.LawKit.callS X38 hx (y := (⟨"com/example/endorse/endorse/ManifestSection", "canHold", "([B)Z"⟩ : MethodName)) hown (mvT hZ (hw _ (List.mem_of_getElem? (i := 6) rfl))) (mvT hZ (hw _ (List.mem_of_getElem? (i := 7) rfl))) (mvT hZ (hw _ (List.mem_of_getElem? (i := 8) rfl))) (mvT hZ (hw _ (List.mem_of_getElem? (i := 9) rfl))) (by decide) (backOf (W := 0) (rm2 l Z a0 hw [] b36 gf37 1 h37 n0 V37 (by decide)) hZ (hw _ (List.mem_of_getElem? (i := 9) rfl)) (hw _ (List.mem_of_getElem? (i := 8) rfl)) (by decide) (by decide)) (g := (mkF m 208 #[.val (.int i0), .val (.int i1), .val (.int i2), .val (.int i3), .val (.int i4), .val (.int i5), .val (.int i6), .val (.int i7), .val (.int i8), .val (.int i9), .val (.ref b36), .val (.int (0 : Int32))] [(.ref b36)])) rfl (by rw [hml]; rfl) (argsL := [(.ref b36)]) (rest := []) (lenOf pdm_2 rfl) rfl (by show 2 * 0 + _ ≤ _; exact Nat.le_of_eq rfl) (hb hby at_208) (fun _ _ => ⟨rfl, e38, (by show cells + 1 + 0 + 0 ≤ 16; omega), (by show slots + 1 + 0 + 0 ≤ 128; omega)⟩)
        dsimp only [Pt.U, Pt.locs, Pt.cells, Pt.slots] at X40 l40 y40 z40 st40 hQ40
        have yy40 : k40 = cells + 1 + 0 + 0 := y40
        have zz40 : n40 = slots + 1 + 0 + 0 := z40
        rw [yy40, zz40] at X40
        subst l40
        obtain ⟨rfl, N40q, e40⟩ := hQ40
        have N40 := Fr.app N38 N40q
        refine own_step st40 ?_
        show own_Fin p e below s Q 16 128 (T40.setTop (mkF m 211 #[.val (.int i0), .val (.int i1), .val (.int i2), .val (.int i3), .val (.int i4), .val (.int i5), .val (.int i6), .val (.int i7), .val (.int i8), .val (.int i9), .val (.ref b36), .val (.int (0 : Int32))] [(.int (f2_0 gf37 1))]))
        refine own_step (fun t k => XS.iload X40.here hx rfl (hb hby at_211) rfl  k) ?_
        show own_Fin p e below s Q 16 128 (T40.setTop (mkF m 213 #[.val (.int i0), .val (.int i1), .val (.int i2), .val (.int i3), .val (.int i4), .val (.int i5), .val (.int i6), .val (.int i7), .val (.int i8), .val (.int i9), .val (.ref b36), .val (.int (0 : Int32))] [(.int (0 : Int32)), (.int (f2_0 gf37 1))]))
        refine own_step (fun t k => XS.icmpNo X40.here hx rfl (hb hby at_213) rfl (teq (own_can0 _ _ (by decide) 0 (by decide) (by rw [(by rw [hgf37]; exact hb6 : gf37 0 = i6)]; exact hB154_39))).2 k) ?_
        show own_Fin p e below s Q 16 128 (T40.setTop (mkF m 216 #[.val (.int i0), .val (.int i1), .val (.int i2), .val (.int i3), .val (.int i4), .val (.int i5), .val (.int i6), .val (.int i7), .val (.int i8), .val (.int i9), .val (.ref b36), .val (.int (0 : Int32))] []))
        refine own_step (fun t k => XS.iconst X40.here hx rfl (hb hby at_216) k) ?_
        show own_Fin p e below s Q 16 128 (T40.setTop (mkF m 217 #[.val (.int i0), .val (.int i1), .val (.int i2), .val (.int i3), .val (.int i4), .val (.int i5), .val (.int i6), .val (.int i7), .val (.int i8), .val (.int i9), .val (.ref b36), .val (.int (0 : Int32))] [(.int (1 : Int32))]))
        refine own_step (fun t k => XS.goto X40.here hx rfl (pc0 := 217) (pc' := 221) rfl (hb hby at_217) (by decide) (by decide) k) ?_
        show own_Fin p e below s Q 16 128 (T40.setTop (mkF m 221 #[.val (.int i0), .val (.int i1), .val (.int i2), .val (.int i3), .val (.int i4), .val (.int i5), .val (.int i6), .val (.int i7), .val (.int i8), .val (.int i9), .val (.ref b36), .val (.int (0 : Int32))] [(.int (1 : Int32))]))
        exact own_retN X40 hx hlk hret (by simp) (hb hby at_221) (by omega) (by omega) rfl N40 (fun L' n' => hQ _ L' n') (rfl)
      · refine own_step (fun t k => XS.ifNo X38.here hx rfl (hb hby at_154) rfl ((if0 _ _).trans (feq hB154_39).1) k) ?_
        show own_Fin p e below s Q 16 128 (T38.setTop (mkF m 157 #[.val (.int i0), .val (.int i1), .val (.int i2), .val (.int i3), .val (.int i4), .val (.int i5), .val (.int i6), .val (.int i7), .val (.int i8), .val (.int i9), .val (.ref b36), .unset] []))
        refine own_step (fun t k => XS.iload X38.here hx rfl (hb hby at_157) rfl  k) ?_
        show own_Fin p e below s Q 16 128 (T38.setTop (mkF m 159 #[.val (.int i0), .val (.int i1), .val (.int i2), .val (.int i3), .val (.int i4), .val (.int i5), .val (.int i6), .val (.int i7), .val (.int i8), .val (.int i9), .val (.ref b36), .unset] [(.int i5)]))
        refine own_step (fun t k => XS.iconst X38.here hx rfl (hb hby at_159) k) ?_
        show own_Fin p e below s Q 16 128 (T38.setTop (mkF m 160 #[.val (.int i0), .val (.int i1), .val (.int i2), .val (.int i3), .val (.int i4), .val (.int i5), .val (.int i6), .val (.int i7), .val (.int i8), .val (.int i9), .val (.ref b36), .unset] [(.int (2 : Int32)), (.int i5)]))
        refine own_step (fun t k => XS.icmpYes X38.here hx rfl (pc0 := 160) (pc' := 171) rfl (hb hby at_160) rfl (tlt (by rw [hB49_35]; decide : i5 < (2 : Int32))).1 (by decide) (by decide) k) ?_
        show own_Fin p e below s Q 16 128 (T38.setTop (mkF m 171 #[.val (.int i0), .val (.int i1), .val (.int i2), .val (.int i3), .val (.int i4), .val (.int i5), .val (.int i6), .val (.int i7), .val (.int i8), .val (.int i9), .val (.ref b36), .unset] []))
        refine own_step (fun t k => XS.iload X38.here hx rfl (hb hby at_171) rfl  k) ?_
        show own_Fin p e below s Q 16 128 (T38.setTop (mkF m 173 #[.val (.int i0), .val (.int i1), .val (.int i2), .val (.int i3), .val (.int i4), .val (.int i5), .val (.int i6), .val (.int i7), .val (.int i8), .val (.int i9), .val (.ref b36), .unset] [(.int i5)]))
        refine own_step (fun t k => XS.iconst X38.here hx rfl (hb hby at_173) k) ?_
        show own_Fin p e below s Q 16 128 (T38.setTop (mkF m 174 #[.val (.int i0), .val (.int i1), .val (.int i2), .val (.int i3), .val (.int i4), .val (.int i5), .val (.int i6), .val (.int i7), .val (.int i8), .val (.int i9), .val (.ref b36), .unset] [(.int (3 : Int32)), (.int i5)]))
        refine own_step (fun t k => XS.icmpYes X38.here hx rfl (pc0 := 174) (pc' := 185) rfl (hb hby at_174) rfl (tlt (by rw [hB49_35]; decide : i5 < (3 : Int32))).1 (by decide) (by decide) k) ?_
        show own_Fin p e below s Q 16 128 (T38.setTop (mkF m 185 #[.val (.int i0), .val (.int i1), .val (.int i2), .val (.int i3), .val (.int i4), .val (.int i5), .val (.int i6), .val (.int i7), .val (.int i8), .val (.int i9), .val (.ref b36), .unset] []))
        refine own_step (fun t k => XS.iload X38.here hx rfl (hb hby at_185) rfl  k) ?_
        show own_Fin p e below s Q 16 128 (T38.setTop (mkF m 187 #[.val (.int i0), .val (.int i1), .val (.int i2), .val (.int i3), .val (.int i4), .val (.int i5), .val (.int i6), .val (.int i7), .val (.int i8), .val (.int i9), .val (.ref b36), .unset] [(.int i5)]))
        refine own_step (fun t k => XS.iconst X38.here hx rfl (hb hby at_187) k) ?_
        show own_Fin p e below s Q 16 128 (T38.setTop (mkF m 188 #[.val (.int i0), .val (.int i1), .val (.int i2), .val (.int i3), .val (.int i4), .val (.int i5), .val (.int i6), .val (.int i7), .val (.int i8), .val (.int i9), .val (.ref b36), .unset] [(.int (4 : Int32)), (.int i5)]))
        refine own_step (fun t k => XS.icmpYes X38.here hx rfl (pc0 := 188) (pc' := 199) rfl (hb hby at_188) rfl (tlt (by rw [hB49_35]; decide : i5 < (4 : Int32))).1 (by decide) (by decide) k) ?_
        show own_Fin p e below s Q 16 128 (T38.setTop (mkF m 199 #[.val (.int i0), .val (.int i1), .val (.int i2), .val (.int i3), .val (.int i4), .val (.int i5), .val (.int i6), .val (.int i7), .val (.int i8), .val (.int i9), .val (.ref b36), .unset] []))
        refine own_step (fun t k => XS.iconst X38.here hx rfl (hb hby at_199) k) ?_
        show own_Fin p e below s Q 16 128 (T38.setTop (mkF m 200 #[.val (.int i0), .val (.int i1), .val (.int i2), .val (.int i3), .val (.int i4), .val (.int i5), .val (.int i6), .val (.int i7), .val (.int i8), .val (.int i9), .val (.ref b36), .unset] [(.int (1 : Int32))]))
        refine own_step (fun t k => XS.goto X38.here hx rfl (pc0 := 200) (pc' := 204) rfl (hb hby at_200) (by decide) (by decide) k) ?_
        show own_Fin p e below s Q 16 128 (T38.setTop (mkF m 204 #[.val (.int i0), .val (.int i1), .val (.int i2), .val (.int i3), .val (.int i4), .val (.int i5), .val (.int i6), .val (.int i7), .val (.int i8), .val (.int i9), .val (.ref b36), .unset] [(.int (1 : Int32))]))
        refine own_step (fun t k => XS.istore X38.here hx rfl (hb hby at_204) rfl (l' := #[.val (.int i0), .val (.int i1), .val (.int i2), .val (.int i3), .val (.int i4), .val (.int i5), .val (.int i6), .val (.int i7), .val (.int i8), .val (.int i9), .val (.ref b36), .val (.int (1 : Int32))]) rfl k) ?_
        show own_Fin p e below s Q 16 128 (T38.setTop (mkF m 206 #[.val (.int i0), .val (.int i1), .val (.int i2), .val (.int i3), .val (.int i4), .val (.int i5), .val (.int i6), .val (.int i7), .val (.int i8), .val (.int i9), .val (.ref b36), .val (.int (1 : Int32))] []))
        refine own_step (fun t k => XS.aload X38.here hx rfl (hb hby at_206) rfl rfl k) ?_
        show own_Fin p e below s Q 16 128 (T38.setTop (mkF m 208 #[.val (.int i0), .val (.int i1), .val (.int i2), .val (.int i3), .val (.int i4), .val (.int i5), .val (.int i6), .val (.int i7), .val (.int i8), .val (.int i9), .val (.ref b36), .val (.int (1 : Int32))] [(.ref b36)]))
        obtain ⟨_, _, ⟨T41, L41, k41, n41⟩, -, X41, ⟨Lc41, hQ41, l41, y41, z41⟩, st41⟩ := Jvm.LawKit.callS X38 hx (y := (⟨"com/example/endorse/endorse/ManifestSection", "canHold", "([B)Z"⟩ : MethodName)) hown (mvT hZ (hw _ (List.mem_of_getElem? (i := 6) rfl))) (mvT hZ (hw _ (List.mem_of_getElem? (i := 7) rfl))) (mvT hZ (hw _ (List.mem_of_getElem? (i := 8) rfl))) (mvT hZ (hw _ (List.mem_of_getElem? (i := 9) rfl))) (by decide) (backOf (W := 0) (rm2 l Z a0 hw [] b36 gf37 1 h37 n0 V37 (by decide)) hZ (hw _ (List.mem_of_getElem? (i := 9) rfl)) (hw _ (List.mem_of_getElem? (i := 8) rfl)) (by decide) (by decide)) (g := (mkF m 208 #[.val (.int i0), .val (.int i1), .val (.int i2), .val (.int i3), .val (.int i4), .val (.int i5), .val (.int i6), .val (.int i7), .val (.int i8), .val (.int i9), .val (.ref b36), .val (.int (1 : Int32))] [(.ref b36)])) rfl (by rw [hml]; rfl) (argsL := [(.ref b36)]) (rest := []) (lenOf pdm_2 rfl) rfl (by show 2 * 0 + _ ≤ _; exact Nat.le_of_eq rfl) (hb hby at_208) (fun _ _ => ⟨rfl, e38, (by show cells + 1 + 0 + 0 ≤ 16; omega), (by show slots + 1 + 0 + 0 ≤ 128; omega)⟩)
        dsimp only [Pt.U, Pt.locs, Pt.cells, Pt.slots] at X41 l41 y41 z41 st41 hQ41
        have yy41 : k41 = cells + 1 + 0 + 0 := y41
        have zz41 : n41 = slots + 1 + 0 + 0 := z41
        rw [yy41, zz41] at X41
        subst l41
        obtain ⟨rfl, N41q, e41⟩ := hQ41
        have N41 := Fr.app N38 N41q
        refine own_step st41 ?_
        show own_Fin p e below s Q 16 128 (T41.setTop (mkF m 211 #[.val (.int i0), .val (.int i1), .val (.int i2), .val (.int i3), .val (.int i4), .val (.int i5), .val (.int i6), .val (.int i7), .val (.int i8), .val (.int i9), .val (.ref b36), .val (.int (1 : Int32))] [(.int (f2_0 gf37 1))]))
        refine own_step (fun t k => XS.iload X41.here hx rfl (hb hby at_211) rfl  k) ?_
        show own_Fin p e below s Q 16 128 (T41.setTop (mkF m 213 #[.val (.int i0), .val (.int i1), .val (.int i2), .val (.int i3), .val (.int i4), .val (.int i5), .val (.int i6), .val (.int i7), .val (.int i8), .val (.int i9), .val (.ref b36), .val (.int (1 : Int32))] [(.int (1 : Int32)), (.int (f2_0 gf37 1))]))
        refine own_step (fun t k => XS.icmpNo X41.here hx rfl (hb hby at_213) rfl (teq (own_can1 _ _ (by decide) (fun j hj => by
      obtain rfl : j = 0 := by omega
      · rw [(by rw [hgf37]; exact hb6 : gf37 0 = i6)]; exact hB154_39))).2 k) ?_
        show own_Fin p e below s Q 16 128 (T41.setTop (mkF m 216 #[.val (.int i0), .val (.int i1), .val (.int i2), .val (.int i3), .val (.int i4), .val (.int i5), .val (.int i6), .val (.int i7), .val (.int i8), .val (.int i9), .val (.ref b36), .val (.int (1 : Int32))] []))
        refine own_step (fun t k => XS.iconst X41.here hx rfl (hb hby at_216) k) ?_
        show own_Fin p e below s Q 16 128 (T41.setTop (mkF m 217 #[.val (.int i0), .val (.int i1), .val (.int i2), .val (.int i3), .val (.int i4), .val (.int i5), .val (.int i6), .val (.int i7), .val (.int i8), .val (.int i9), .val (.ref b36), .val (.int (1 : Int32))] [(.int (1 : Int32))]))
        refine own_step (fun t k => XS.goto X41.here hx rfl (pc0 := 217) (pc' := 221) rfl (hb hby at_217) (by decide) (by decide) k) ?_
        show own_Fin p e below s Q 16 128 (T41.setTop (mkF m 221 #[.val (.int i0), .val (.int i1), .val (.int i2), .val (.int i3), .val (.int i4), .val (.int i5), .val (.int i6), .val (.int i7), .val (.int i8), .val (.int i9), .val (.ref b36), .val (.int (1 : Int32))] [(.int (1 : Int32))]))
        exact own_retN X41 hx hlk hret (by simp) (hb hby at_221) (by omega) (by omega) rfl N41 (fun L' n' => hQ _ L' n') (rfl)
    · refine own_step (fun t k => XS.icmpYes X.here hx rfl (pc0 := 49) (pc' := 65) rfl (hb hby at_49) rfl (feq hB49_35).2 (by decide) (by decide) k) ?_
      show own_Fin p e below s Q 16 128 (T.setTop (mkF m 65 #[.val (.int i0), .val (.int i1), .val (.int i2), .val (.int i3), .val (.int i4), .val (.int i5), .val (.int i6), .val (.int i7), .val (.int i8), .val (.int i9), .unset, .unset] []))
      refine own_step (fun t k => XS.iload X.here hx rfl (hb hby at_65) rfl  k) ?_
      show own_Fin p e below s Q 16 128 (T.setTop (mkF m 67 #[.val (.int i0), .val (.int i1), .val (.int i2), .val (.int i3), .val (.int i4), .val (.int i5), .val (.int i6), .val (.int i7), .val (.int i8), .val (.int i9), .unset, .unset] [(.int i5)]))
      refine own_step (fun t k => XS.iconst X.here hx rfl (hb hby at_67) k) ?_
      show own_Fin p e below s Q 16 128 (T.setTop (mkF m 68 #[.val (.int i0), .val (.int i1), .val (.int i2), .val (.int i3), .val (.int i4), .val (.int i5), .val (.int i6), .val (.int i7), .val (.int i8), .val (.int i9), .unset, .unset] [(.int (2 : Int32)), (.int i5)]))
      by_cases hB68_42 : i5 = (2 : Int32)
      · refine own_step (fun t k => XS.icmpNo X.here hx rfl (hb hby at_68) rfl (teq hB68_42).2 k) ?_
        show own_Fin p e below s Q 16 128 (T.setTop (mkF m 71 #[.val (.int i0), .val (.int i1), .val (.int i2), .val (.int i3), .val (.int i4), .val (.int i5), .val (.int i6), .val (.int i7), .val (.int i8), .val (.int i9), .unset, .unset] []))
        refine own_step (fun t k => XS.iconst X.here hx rfl (hb hby at_71) k) ?_
        show own_Fin p e below s Q 16 128 (T.setTop (mkF m 72 #[.val (.int i0), .val (.int i1), .val (.int i2), .val (.int i3), .val (.int i4), .val (.int i5), .val (.int i6), .val (.int i7), .val (.int i8), .val (.int i9), .unset, .unset] [(.int (2 : Int32))]))
        obtain ⟨T43, h43, k43, X43, e43, E43, AA43, st43⟩ := newP X hx hZ (hw _ (List.mem_of_getElem? (i := 5) rfl)) eT (g := (mkF m 72 #[.val (.int i0), .val (.int i1), .val (.int i2), .val (.int i3), .val (.int i4), .val (.int i5), .val (.int i6), .val (.int i7), .val (.int i8), .val (.int i9), .unset, .unset] [(.int (2 : Int32))])) rfl (hb hby at_72) rfl (by decide) (cap := 2) (by decide) (by decide) (by show cells + 1 ≤ 16; omega) (by show slots + 2 ≤ 128; omega)
        obtain ⟨b43, gg43⟩ : ∃ z, z = h.size := ⟨_, rfl⟩
        rw [← gg43] at AA43 st43
        have V43 : own_AF Z h43 b43 .byte 2 (fun _ => 0) := own_AFnew AA43 (by decide)
        have fr43 : n0 ≤ b43 := Nat.le_trans Z0 (Nat.le_of_eq gg43.symm)
        have Z043 : n0 ≤ h43.size := Nat.le_trans Z0 E43.1
        refine own_step st43 ?_
        show own_Fin p e below s Q 16 128 (T43.setTop (mkF m 74 #[.val (.int i0), .val (.int i1), .val (.int i2), .val (.int i3), .val (.int i4), .val (.int i5), .val (.int i6), .val (.int i7), .val (.int i8), .val (.int i9), .unset, .unset] [(.ref b43)]))
        refine own_step (fun t k => XS.dup X43.here hx rfl (hb hby at_74) rfl rfl k) ?_
        show own_Fin p e below s Q 16 128 (T43.setTop (mkF m 75 #[.val (.int i0), .val (.int i1), .val (.int i2), .val (.int i3), .val (.int i4), .val (.int i5), .val (.int i6), .val (.int i7), .val (.int i8), .val (.int i9), .unset, .unset] [(.ref b43), (.ref b43)]))
        refine own_step (fun t k => XS.iconst X43.here hx rfl (hb hby at_75) k) ?_
        show own_Fin p e below s Q 16 128 (T43.setTop (mkF m 76 #[.val (.int i0), .val (.int i1), .val (.int i2), .val (.int i3), .val (.int i4), .val (.int i5), .val (.int i6), .val (.int i7), .val (.int i8), .val (.int i9), .unset, .unset] [(.int (0 : Int32)), (.ref b43), (.ref b43)]))
        refine own_step (fun t k => XS.iload X43.here hx rfl (hb hby at_76) rfl  k) ?_
        show own_Fin p e below s Q 16 128 (T43.setTop (mkF m 78 #[.val (.int i0), .val (.int i1), .val (.int i2), .val (.int i3), .val (.int i4), .val (.int i5), .val (.int i6), .val (.int i7), .val (.int i8), .val (.int i9), .unset, .unset] [(.int i6), (.int (0 : Int32)), (.ref b43), (.ref b43)]))
        obtain ⟨ca44, Ar44, Sz44, Ht44⟩ := id V43
        have hin44 : ¬ ((0 : Int32) < 0 ∨ ca44.slots.size ≤ ((0 : Int32)).toNatClampNeg) := by rw [Sz44]; exact (by decide)
        obtain ⟨T44, h44, X44, e44, W44, st44⟩ := stB X43 hx hZ e43 Ar44 (j := (0 : Int32)) hin44 (g := (mkF m 78 #[.val (.int i0), .val (.int i1), .val (.int i2), .val (.int i3), .val (.int i4), .val (.int i5), .val (.int i6), .val (.int i7), .val (.int i8), .val (.int i9), .unset, .unset] [(.int i6), (.int (0 : Int32)), (.ref b43), (.ref b43)])) rfl rfl (hb hby at_78)
        have V44 : own_AF Z h44 b43 .byte 2 (fun i => if i = 0 then (nar .byte i6) else (fun _ => 0) i) := own_AFset Ar44 Sz44 Ht44 W44
        obtain ⟨gf44, hgf44⟩ : ∃ g' : Nat → Int32, g' = (fun i => if i = 0 then (nar .byte i6) else (fun _ => 0) i) := ⟨_, rfl⟩
        rw [← hgf44] at V44
        have N44 := Fr.snoc X44 N fr43
        have Z044 : n0 ≤ h44.size := Nat.le_trans Z043 (Nat.le_of_eq W44.size.symm)
        refine own_step st44 ?_
        show own_Fin p e below s Q 16 128 (T44.setTop (mkF m 79 #[.val (.int i0), .val (.int i1), .val (.int i2), .val (.int i3), .val (.int i4), .val (.int i5), .val (.int i6), .val (.int i7), .val (.int i8), .val (.int i9), .unset, .unset] [(.ref b43)]))
        refine own_step (fun t k => XS.dup X44.here hx rfl (hb hby at_79) rfl rfl k) ?_
        show own_Fin p e below s Q 16 128 (T44.setTop (mkF m 80 #[.val (.int i0), .val (.int i1), .val (.int i2), .val (.int i3), .val (.int i4), .val (.int i5), .val (.int i6), .val (.int i7), .val (.int i8), .val (.int i9), .unset, .unset] [(.ref b43), (.ref b43)]))
        refine own_step (fun t k => XS.iconst X44.here hx rfl (hb hby at_80) k) ?_
        show own_Fin p e below s Q 16 128 (T44.setTop (mkF m 81 #[.val (.int i0), .val (.int i1), .val (.int i2), .val (.int i3), .val (.int i4), .val (.int i5), .val (.int i6), .val (.int i7), .val (.int i8), .val (.int i9), .unset, .unset] [(.int (1 : Int32)), (.ref b43), (.ref b43)]))
        refine own_step (fun t k => XS.iload X44.here hx rfl (hb hby at_81) rfl  k) ?_
        show own_Fin p e below s Q 16 128 (T44.setTop (mkF m 83 #[.val (.int i0), .val (.int i1), .val (.int i2), .val (.int i3), .val (.int i4), .val (.int i5), .val (.int i6), .val (.int i7), .val (.int i8), .val (.int i9), .unset, .unset] [(.int i7), (.int (1 : Int32)), (.ref b43), (.ref b43)]))
        obtain ⟨ca45, Ar45, Sz45, Ht45⟩ := id V44
        have hin45 : ¬ ((1 : Int32) < 0 ∨ ca45.slots.size ≤ ((1 : Int32)).toNatClampNeg) := by rw [Sz45]; exact (by decide)
        obtain ⟨T45, h45, X45, e45, W45, st45⟩ := stB X44 hx hZ e44 Ar45 (j := (1 : Int32)) hin45 (g := (mkF m 83 #[.val (.int i0), .val (.int i1), .val (.int i2), .val (.int i3), .val (.int i4), .val (.int i5), .val (.int i6), .val (.int i7), .val (.int i8), .val (.int i9), .unset, .unset] [(.int i7), (.int (1 : Int32)), (.ref b43), (.ref b43)])) rfl rfl (hb hby at_83)
        have V45 : own_AF Z h45 b43 .byte 2 (fun i => if i = 1 then (nar .byte i7) else gf44 i) := own_AFset Ar45 Sz45 Ht45 W45
        obtain ⟨gf45, hgf45⟩ : ∃ g' : Nat → Int32, g' = (fun i => if i = 1 then (nar .byte i7) else gf44 i) := ⟨_, rfl⟩
        rw [← hgf45] at V45
        have N45 := Fr.snoc X45 N44 fr43
        have Z045 : n0 ≤ h45.size := Nat.le_trans Z044 (Nat.le_of_eq W45.size.symm)
        refine own_step st45 ?_
        show own_Fin p e below s Q 16 128 (T45.setTop (mkF m 84 #[.val (.int i0), .val (.int i1), .val (.int i2), .val (.int i3), .val (.int i4), .val (.int i5), .val (.int i6), .val (.int i7), .val (.int i8), .val (.int i9), .unset, .unset] [(.ref b43)]))
        refine own_step (fun t k => XS.astore X45.here hx rfl (hb hby at_84) rfl rfl (l' := #[.val (.int i0), .val (.int i1), .val (.int i2), .val (.int i3), .val (.int i4), .val (.int i5), .val (.int i6), .val (.int i7), .val (.int i8), .val (.int i9), .val (.ref b43), .unset]) rfl k) ?_
        show own_Fin p e below s Q 16 128 (T45.setTop (mkF m 86 #[.val (.int i0), .val (.int i1), .val (.int i2), .val (.int i3), .val (.int i4), .val (.int i5), .val (.int i6), .val (.int i7), .val (.int i8), .val (.int i9), .val (.ref b43), .unset] []))
        refine own_step (fun t k => XS.goto X45.here hx rfl (pc0 := 86) (pc' := 143) rfl (hb hby at_86) (by decide) (by decide) k) ?_
        show own_Fin p e below s Q 16 128 (T45.setTop (mkF m 143 #[.val (.int i0), .val (.int i1), .val (.int i2), .val (.int i3), .val (.int i4), .val (.int i5), .val (.int i6), .val (.int i7), .val (.int i8), .val (.int i9), .val (.ref b43), .unset] []))
        refine own_step (fun t k => XS.iload X45.here hx rfl (hb hby at_143) rfl  k) ?_
        show own_Fin p e below s Q 16 128 (T45.setTop (mkF m 145 #[.val (.int i0), .val (.int i1), .val (.int i2), .val (.int i3), .val (.int i4), .val (.int i5), .val (.int i6), .val (.int i7), .val (.int i8), .val (.int i9), .val (.ref b43), .unset] [(.int i5)]))
        refine own_step (fun t k => XS.iconst X45.here hx rfl (hb hby at_145) k) ?_
        show own_Fin p e below s Q 16 128 (T45.setTop (mkF m 146 #[.val (.int i0), .val (.int i1), .val (.int i2), .val (.int i3), .val (.int i4), .val (.int i5), .val (.int i6), .val (.int i7), .val (.int i8), .val (.int i9), .val (.ref b43), .unset] [(.int (1 : Int32)), (.int i5)]))
        refine own_step (fun t k => XS.icmpNo X45.here hx rfl (hb hby at_146) rfl (flt (by rw [hB68_42]; decide : ¬ (i5 < (1 : Int32)))).1 k) ?_
        show own_Fin p e below s Q 16 128 (T45.setTop (mkF m 149 #[.val (.int i0), .val (.int i1), .val (.int i2), .val (.int i3), .val (.int i4), .val (.int i5), .val (.int i6), .val (.int i7), .val (.int i8), .val (.int i9), .val (.ref b43), .unset] []))
        refine own_step (fun t k => XS.iload X45.here hx rfl (hb hby at_149) rfl  k) ?_
        show own_Fin p e below s Q 16 128 (T45.setTop (mkF m 151 #[.val (.int i0), .val (.int i1), .val (.int i2), .val (.int i3), .val (.int i4), .val (.int i5), .val (.int i6), .val (.int i7), .val (.int i8), .val (.int i9), .val (.ref b43), .unset] [(.int i6)]))
        obtain ⟨_, _, ⟨T46, L46, k46, n46⟩, -, X46, ⟨Lc46, hQ46, l46, y46, z46⟩, st46⟩ := Jvm.LawKit.callS X45 hx (y := (⟨"com/example/endorse/endorse/ManifestSectionCanHoldPinLaw", "ok", "(B)Z"⟩ : MethodName)) hown (mvT hZ (hw _ (List.mem_of_getElem? (i := 10) rfl))) (mvT hZ (hw _ (List.mem_of_getElem? (i := 11) rfl))) (mvT hZ (hw _ (List.mem_of_getElem? (i := 3) rfl))) (mvT hZ (hw _ (List.mem_of_getElem? (i := 12) rfl))) (by decide) (backOf (W := 0) (rm3 l Z a0 hw [] i6 h45 n0) hZ (hw _ (List.mem_of_getElem? (i := 12) rfl)) (hw _ (List.mem_of_getElem? (i := 3) rfl)) (by decide) (by decide)) (g := (mkF m 151 #[.val (.int i0), .val (.int i1), .val (.int i2), .val (.int i3), .val (.int i4), .val (.int i5), .val (.int i6), .val (.int i7), .val (.int i8), .val (.int i9), .val (.ref b43), .unset] [(.int i6)])) rfl (by rw [hml]; rfl) (argsL := [(.int i6)]) (rest := []) (lenOf pdm_1 rfl) rfl (by show 2 * 0 + _ ≤ _; exact Nat.le_of_eq rfl) (hb hby at_151) (fun _ _ => ⟨rfl, e45, (by show cells + 1 + 0 ≤ 16; omega), (by show slots + 2 + 0 ≤ 128; omega)⟩)
        dsimp only [Pt.U, Pt.locs, Pt.cells, Pt.slots] at X46 l46 y46 z46 st46 hQ46
        have yy46 : k46 = cells + 1 + 0 := y46
        have zz46 : n46 = slots + 2 + 0 := z46
        rw [yy46, zz46] at X46
        subst l46
        obtain ⟨rfl, N46q, e46⟩ := hQ46
        have N46 := Fr.app N45 N46q
        refine own_step st46 ?_
        show own_Fin p e below s Q 16 128 (T46.setTop (mkF m 154 #[.val (.int i0), .val (.int i1), .val (.int i2), .val (.int i3), .val (.int i4), .val (.int i5), .val (.int i6), .val (.int i7), .val (.int i8), .val (.int i9), .val (.ref b43), .unset] [(.int (f3_0 i6))]))
        by_cases hB154_47 : (f3_0 i6) = (0 : Int32)
        · refine own_step (fun t k => XS.ifYes X46.here hx rfl (pc0 := 154) (pc' := 203) rfl (hb hby at_154) rfl ((if0 _ _).trans (teq hB154_47).1) (by decide) (by decide) k) ?_
          show own_Fin p e below s Q 16 128 (T46.setTop (mkF m 203 #[.val (.int i0), .val (.int i1), .val (.int i2), .val (.int i3), .val (.int i4), .val (.int i5), .val (.int i6), .val (.int i7), .val (.int i8), .val (.int i9), .val (.ref b43), .unset] []))
          refine own_step (fun t k => XS.iconst X46.here hx rfl (hb hby at_203) k) ?_
          show own_Fin p e below s Q 16 128 (T46.setTop (mkF m 204 #[.val (.int i0), .val (.int i1), .val (.int i2), .val (.int i3), .val (.int i4), .val (.int i5), .val (.int i6), .val (.int i7), .val (.int i8), .val (.int i9), .val (.ref b43), .unset] [(.int (0 : Int32))]))
          refine own_step (fun t k => XS.istore X46.here hx rfl (hb hby at_204) rfl (l' := #[.val (.int i0), .val (.int i1), .val (.int i2), .val (.int i3), .val (.int i4), .val (.int i5), .val (.int i6), .val (.int i7), .val (.int i8), .val (.int i9), .val (.ref b43), .val (.int (0 : Int32))]) rfl k) ?_
          show own_Fin p e below s Q 16 128 (T46.setTop (mkF m 206 #[.val (.int i0), .val (.int i1), .val (.int i2), .val (.int i3), .val (.int i4), .val (.int i5), .val (.int i6), .val (.int i7), .val (.int i8), .val (.int i9), .val (.ref b43), .val (.int (0 : Int32))] []))
          refine own_step (fun t k => XS.aload X46.here hx rfl (hb hby at_206) rfl rfl k) ?_
          show own_Fin p e below s Q 16 128 (T46.setTop (mkF m 208 #[.val (.int i0), .val (.int i1), .val (.int i2), .val (.int i3), .val (.int i4), .val (.int i5), .val (.int i6), .val (.int i7), .val (.int i8), .val (.int i9), .val (.ref b43), .val (.int (0 : Int32))] [(.ref b43)]))
          obtain ⟨_, _, ⟨T48, L48, k48, n48⟩, -, X48, ⟨Lc48, hQ48, l48, y48, z48⟩, st48⟩ := Jvm.LawKit.callS X46 hx (y := (⟨"com/example/endorse/endorse/ManifestSection", "canHold", "([B)Z"⟩ : MethodName)) hown (mvT hZ (hw _ (List.mem_of_getElem? (i := 6) rfl))) (mvT hZ (hw _ (List.mem_of_getElem? (i := 7) rfl))) (mvT hZ (hw _ (List.mem_of_getElem? (i := 8) rfl))) (mvT hZ (hw _ (List.mem_of_getElem? (i := 9) rfl))) (by decide) (backOf (W := 0) (rm2 l Z a0 hw [] b43 gf45 2 h45 n0 V45 (by decide)) hZ (hw _ (List.mem_of_getElem? (i := 9) rfl)) (hw _ (List.mem_of_getElem? (i := 8) rfl)) (by decide) (by decide)) (g := (mkF m 208 #[.val (.int i0), .val (.int i1), .val (.int i2), .val (.int i3), .val (.int i4), .val (.int i5), .val (.int i6), .val (.int i7), .val (.int i8), .val (.int i9), .val (.ref b43), .val (.int (0 : Int32))] [(.ref b43)])) rfl (by rw [hml]; rfl) (argsL := [(.ref b43)]) (rest := []) (lenOf pdm_2 rfl) rfl (by show 2 * 0 + _ ≤ _; exact Nat.le_of_eq rfl) (hb hby at_208) (fun _ _ => ⟨rfl, e46, (by show cells + 1 + 0 + 0 ≤ 16; omega), (by show slots + 2 + 0 + 0 ≤ 128; omega)⟩)
          dsimp only [Pt.U, Pt.locs, Pt.cells, Pt.slots] at X48 l48 y48 z48 st48 hQ48
          have yy48 : k48 = cells + 1 + 0 + 0 := y48
          have zz48 : n48 = slots + 2 + 0 + 0 := z48
          rw [yy48, zz48] at X48
          subst l48
          obtain ⟨rfl, N48q, e48⟩ := hQ48
          have N48 := Fr.app N46 N48q
          refine own_step st48 ?_
          show own_Fin p e below s Q 16 128 (T48.setTop (mkF m 211 #[.val (.int i0), .val (.int i1), .val (.int i2), .val (.int i3), .val (.int i4), .val (.int i5), .val (.int i6), .val (.int i7), .val (.int i8), .val (.int i9), .val (.ref b43), .val (.int (0 : Int32))] [(.int (f2_0 gf45 2))]))
          refine own_step (fun t k => XS.iload X48.here hx rfl (hb hby at_211) rfl  k) ?_
          show own_Fin p e below s Q 16 128 (T48.setTop (mkF m 213 #[.val (.int i0), .val (.int i1), .val (.int i2), .val (.int i3), .val (.int i4), .val (.int i5), .val (.int i6), .val (.int i7), .val (.int i8), .val (.int i9), .val (.ref b43), .val (.int (0 : Int32))] [(.int (0 : Int32)), (.int (f2_0 gf45 2))]))
          refine own_step (fun t k => XS.icmpNo X48.here hx rfl (hb hby at_213) rfl (teq (own_can0 _ _ (by decide) 0 (by decide) (by rw [(by rw [hgf45, hgf44]; exact hb6 : gf45 0 = i6)]; exact hB154_47))).2 k) ?_
          show own_Fin p e below s Q 16 128 (T48.setTop (mkF m 216 #[.val (.int i0), .val (.int i1), .val (.int i2), .val (.int i3), .val (.int i4), .val (.int i5), .val (.int i6), .val (.int i7), .val (.int i8), .val (.int i9), .val (.ref b43), .val (.int (0 : Int32))] []))
          refine own_step (fun t k => XS.iconst X48.here hx rfl (hb hby at_216) k) ?_
          show own_Fin p e below s Q 16 128 (T48.setTop (mkF m 217 #[.val (.int i0), .val (.int i1), .val (.int i2), .val (.int i3), .val (.int i4), .val (.int i5), .val (.int i6), .val (.int i7), .val (.int i8), .val (.int i9), .val (.ref b43), .val (.int (0 : Int32))] [(.int (1 : Int32))]))
          refine own_step (fun t k => XS.goto X48.here hx rfl (pc0 := 217) (pc' := 221) rfl (hb hby at_217) (by decide) (by decide) k) ?_
          show own_Fin p e below s Q 16 128 (T48.setTop (mkF m 221 #[.val (.int i0), .val (.int i1), .val (.int i2), .val (.int i3), .val (.int i4), .val (.int i5), .val (.int i6), .val (.int i7), .val (.int i8), .val (.int i9), .val (.ref b43), .val (.int (0 : Int32))] [(.int (1 : Int32))]))
          exact own_retN X48 hx hlk hret (by simp) (hb hby at_221) (by omega) (by omega) rfl N48 (fun L' n' => hQ _ L' n') (rfl)
        · refine own_step (fun t k => XS.ifNo X46.here hx rfl (hb hby at_154) rfl ((if0 _ _).trans (feq hB154_47).1) k) ?_
          show own_Fin p e below s Q 16 128 (T46.setTop (mkF m 157 #[.val (.int i0), .val (.int i1), .val (.int i2), .val (.int i3), .val (.int i4), .val (.int i5), .val (.int i6), .val (.int i7), .val (.int i8), .val (.int i9), .val (.ref b43), .unset] []))
          refine own_step (fun t k => XS.iload X46.here hx rfl (hb hby at_157) rfl  k) ?_
          show own_Fin p e below s Q 16 128 (T46.setTop (mkF m 159 #[.val (.int i0), .val (.int i1), .val (.int i2), .val (.int i3), .val (.int i4), .val (.int i5), .val (.int i6), .val (.int i7), .val (.int i8), .val (.int i9), .val (.ref b43), .unset] [(.int i5)]))
          refine own_step (fun t k => XS.iconst X46.here hx rfl (hb hby at_159) k) ?_
          show own_Fin p e below s Q 16 128 (T46.setTop (mkF m 160 #[.val (.int i0), .val (.int i1), .val (.int i2), .val (.int i3), .val (.int i4), .val (.int i5), .val (.int i6), .val (.int i7), .val (.int i8), .val (.int i9), .val (.ref b43), .unset] [(.int (2 : Int32)), (.int i5)]))
          refine own_step (fun t k => XS.icmpNo X46.here hx rfl (hb hby at_160) rfl (flt (by rw [hB68_42]; decide : ¬ (i5 < (2 : Int32)))).1 k) ?_
          show own_Fin p e below s Q 16 128 (T46.setTop (mkF m 163 #[.val (.int i0), .val (.int i1), .val (.int i2), .val (.int i3), .val (.int i4), .val (.int i5), .val (.int i6), .val (.int i7), .val (.int i8), .val (.int i9), .val (.ref b43), .unset] []))
          refine own_step (fun t k => XS.iload X46.here hx rfl (hb hby at_163) rfl  k) ?_
          show own_Fin p e below s Q 16 128 (T46.setTop (mkF m 165 #[.val (.int i0), .val (.int i1), .val (.int i2), .val (.int i3), .val (.int i4), .val (.int i5), .val (.int i6), .val (.int i7), .val (.int i8), .val (.int i9), .val (.ref b43), .unset] [(.int i7)]))
          obtain ⟨_, _, ⟨T49, L49, k49, n49⟩, -, X49, ⟨Lc49, hQ49, l49, y49, z49⟩, st49⟩ := Jvm.LawKit.callS X46 hx (y := (⟨"com/example/endorse/endorse/ManifestSectionCanHoldPinLaw", "ok", "(B)Z"⟩ : MethodName)) hown (mvT hZ (hw _ (List.mem_of_getElem? (i := 10) rfl))) (mvT hZ (hw _ (List.mem_of_getElem? (i := 11) rfl))) (mvT hZ (hw _ (List.mem_of_getElem? (i := 3) rfl))) (mvT hZ (hw _ (List.mem_of_getElem? (i := 12) rfl))) (by decide) (backOf (W := 0) (rm3 l Z a0 hw [] i7 h45 n0) hZ (hw _ (List.mem_of_getElem? (i := 12) rfl)) (hw _ (List.mem_of_getElem? (i := 3) rfl)) (by decide) (by decide)) (g := (mkF m 165 #[.val (.int i0), .val (.int i1), .val (.int i2), .val (.int i3), .val (.int i4), .val (.int i5), .val (.int i6), .val (.int i7), .val (.int i8), .val (.int i9), .val (.ref b43), .unset] [(.int i7)])) rfl (by rw [hml]; rfl) (argsL := [(.int i7)]) (rest := []) (lenOf pdm_1 rfl) rfl (by show 2 * 0 + _ ≤ _; exact Nat.le_of_eq rfl) (hb hby at_165) (fun _ _ => ⟨rfl, e46, (by show cells + 1 + 0 + 0 ≤ 16; omega), (by show slots + 2 + 0 + 0 ≤ 128; omega)⟩)
          dsimp only [Pt.U, Pt.locs, Pt.cells, Pt.slots] at X49 l49 y49 z49 st49 hQ49
          have yy49 : k49 = cells + 1 + 0 + 0 := y49
          have zz49 : n49 = slots + 2 + 0 + 0 := z49
          rw [yy49, zz49] at X49
          subst l49
          obtain ⟨rfl, N49q, e49⟩ := hQ49
          have N49 := Fr.app N46 N49q
          refine own_step st49 ?_
          show own_Fin p e below s Q 16 128 (T49.setTop (mkF m 168 #[.val (.int i0), .val (.int i1), .val (.int i2), .val (.int i3), .val (.int i4), .val (.int i5), .val (.int i6), .val (.int i7), .val (.int i8), .val (.int i9), .val (.ref b43), .unset] [(.int (f3_0 i7))]))
          by_cases hB168_50 : (f3_0 i7) = (0 : Int32)
          · refine own_step (fun t k => XS.ifYes X49.here hx rfl (pc0 := 168) (pc' := 203) rfl (hb hby at_168) rfl ((if0 _ _).trans (teq hB168_50).1) (by decide) (by decide) k) ?_
            show own_Fin p e below s Q 16 128 (T49.setTop (mkF m 203 #[.val (.int i0), .val (.int i1), .val (.int i2), .val (.int i3), .val (.int i4), .val (.int i5), .val (.int i6), .val (.int i7), .val (.int i8), .val (.int i9), .val (.ref b43), .unset] []))
            refine own_step (fun t k => XS.iconst X49.here hx rfl (hb hby at_203) k) ?_
            show own_Fin p e below s Q 16 128 (T49.setTop (mkF m 204 #[.val (.int i0), .val (.int i1), .val (.int i2), .val (.int i3), .val (.int i4), .val (.int i5), .val (.int i6), .val (.int i7), .val (.int i8), .val (.int i9), .val (.ref b43), .unset] [(.int (0 : Int32))]))
            refine own_step (fun t k => XS.istore X49.here hx rfl (hb hby at_204) rfl (l' := #[.val (.int i0), .val (.int i1), .val (.int i2), .val (.int i3), .val (.int i4), .val (.int i5), .val (.int i6), .val (.int i7), .val (.int i8), .val (.int i9), .val (.ref b43), .val (.int (0 : Int32))]) rfl k) ?_
            show own_Fin p e below s Q 16 128 (T49.setTop (mkF m 206 #[.val (.int i0), .val (.int i1), .val (.int i2), .val (.int i3), .val (.int i4), .val (.int i5), .val (.int i6), .val (.int i7), .val (.int i8), .val (.int i9), .val (.ref b43), .val (.int (0 : Int32))] []))
            refine own_step (fun t k => XS.aload X49.here hx rfl (hb hby at_206) rfl rfl k) ?_
            show own_Fin p e below s Q 16 128 (T49.setTop (mkF m 208 #[.val (.int i0), .val (.int i1), .val (.int i2), .val (.int i3), .val (.int i4), .val (.int i5), .val (.int i6), .val (.int i7), .val (.int i8), .val (.int i9), .val (.ref b43), .val (.int (0 : Int32))] [(.ref b43)]))
            obtain ⟨_, _, ⟨T51, L51, k51, n51⟩, -, X51, ⟨Lc51, hQ51, l51, y51, z51⟩, st51⟩ := Jvm.LawKit.callS X49 hx (y := (⟨"com/example/endorse/endorse/ManifestSection", "canHold", "([B)Z"⟩ : MethodName)) hown (mvT hZ (hw _ (List.mem_of_getElem? (i := 6) rfl))) (mvT hZ (hw _ (List.mem_of_getElem? (i := 7) rfl))) (mvT hZ (hw _ (List.mem_of_getElem? (i := 8) rfl))) (mvT hZ (hw _ (List.mem_of_getElem? (i := 9) rfl))) (by decide) (backOf (W := 0) (rm2 l Z a0 hw [] b43 gf45 2 h45 n0 V45 (by decide)) hZ (hw _ (List.mem_of_getElem? (i := 9) rfl)) (hw _ (List.mem_of_getElem? (i := 8) rfl)) (by decide) (by decide)) (g := (mkF m 208 #[.val (.int i0), .val (.int i1), .val (.int i2), .val (.int i3), .val (.int i4), .val (.int i5), .val (.int i6), .val (.int i7), .val (.int i8), .val (.int i9), .val (.ref b43), .val (.int (0 : Int32))] [(.ref b43)])) rfl (by rw [hml]; rfl) (argsL := [(.ref b43)]) (rest := []) (lenOf pdm_2 rfl) rfl (by show 2 * 0 + _ ≤ _; exact Nat.le_of_eq rfl) (hb hby at_208) (fun _ _ => ⟨rfl, e49, (by show cells + 1 + 0 + 0 + 0 ≤ 16; omega), (by show slots + 2 + 0 + 0 + 0 ≤ 128; omega)⟩)
            dsimp only [Pt.U, Pt.locs, Pt.cells, Pt.slots] at X51 l51 y51 z51 st51 hQ51
            have yy51 : k51 = cells + 1 + 0 + 0 + 0 := y51
            have zz51 : n51 = slots + 2 + 0 + 0 + 0 := z51
            rw [yy51, zz51] at X51
            subst l51
            obtain ⟨rfl, N51q, e51⟩ := hQ51
            have N51 := Fr.app N49 N51q
            refine own_step st51 ?_
            show own_Fin p e below s Q 16 128 (T51.setTop (mkF m 211 #[.val (.int i0), .val (.int i1), .val (.int i2), .val (.int i3), .val (.int i4), .val (.int i5), .val (.int i6), .val (.int i7), .val (.int i8), .val (.int i9), .val (.ref b43), .val (.int (0 : Int32))] [(.int (f2_0 gf45 2))]))
            refine own_step (fun t k => XS.iload X51.here hx rfl (hb hby at_211) rfl  k) ?_
            show own_Fin p e below s Q 16 128 (T51.setTop (mkF m 213 #[.val (.int i0), .val (.int i1), .val (.int i2), .val (.int i3), .val (.int i4), .val (.int i5), .val (.int i6), .val (.int i7), .val (.int i8), .val (.int i9), .val (.ref b43), .val (.int (0 : Int32))] [(.int (0 : Int32)), (.int (f2_0 gf45 2))]))
            refine own_step (fun t k => XS.icmpNo X51.here hx rfl (hb hby at_213) rfl (teq (own_can0 _ _ (by decide) 1 (by decide) (by rw [(by rw [hgf45, hgf44]; exact hb7 : gf45 1 = i7)]; exact hB168_50))).2 k) ?_
            show own_Fin p e below s Q 16 128 (T51.setTop (mkF m 216 #[.val (.int i0), .val (.int i1), .val (.int i2), .val (.int i3), .val (.int i4), .val (.int i5), .val (.int i6), .val (.int i7), .val (.int i8), .val (.int i9), .val (.ref b43), .val (.int (0 : Int32))] []))
            refine own_step (fun t k => XS.iconst X51.here hx rfl (hb hby at_216) k) ?_
            show own_Fin p e below s Q 16 128 (T51.setTop (mkF m 217 #[.val (.int i0), .val (.int i1), .val (.int i2), .val (.int i3), .val (.int i4), .val (.int i5), .val (.int i6), .val (.int i7), .val (.int i8), .val (.int i9), .val (.ref b43), .val (.int (0 : Int32))] [(.int (1 : Int32))]))
            refine own_step (fun t k => XS.goto X51.here hx rfl (pc0 := 217) (pc' := 221) rfl (hb hby at_217) (by decide) (by decide) k) ?_
            show own_Fin p e below s Q 16 128 (T51.setTop (mkF m 221 #[.val (.int i0), .val (.int i1), .val (.int i2), .val (.int i3), .val (.int i4), .val (.int i5), .val (.int i6), .val (.int i7), .val (.int i8), .val (.int i9), .val (.ref b43), .val (.int (0 : Int32))] [(.int (1 : Int32))]))
            exact own_retN X51 hx hlk hret (by simp) (hb hby at_221) (by omega) (by omega) rfl N51 (fun L' n' => hQ _ L' n') (rfl)
          · refine own_step (fun t k => XS.ifNo X49.here hx rfl (hb hby at_168) rfl ((if0 _ _).trans (feq hB168_50).1) k) ?_
            show own_Fin p e below s Q 16 128 (T49.setTop (mkF m 171 #[.val (.int i0), .val (.int i1), .val (.int i2), .val (.int i3), .val (.int i4), .val (.int i5), .val (.int i6), .val (.int i7), .val (.int i8), .val (.int i9), .val (.ref b43), .unset] []))
            refine own_step (fun t k => XS.iload X49.here hx rfl (hb hby at_171) rfl  k) ?_
            show own_Fin p e below s Q 16 128 (T49.setTop (mkF m 173 #[.val (.int i0), .val (.int i1), .val (.int i2), .val (.int i3), .val (.int i4), .val (.int i5), .val (.int i6), .val (.int i7), .val (.int i8), .val (.int i9), .val (.ref b43), .unset] [(.int i5)]))
            refine own_step (fun t k => XS.iconst X49.here hx rfl (hb hby at_173) k) ?_
            show own_Fin p e below s Q 16 128 (T49.setTop (mkF m 174 #[.val (.int i0), .val (.int i1), .val (.int i2), .val (.int i3), .val (.int i4), .val (.int i5), .val (.int i6), .val (.int i7), .val (.int i8), .val (.int i9), .val (.ref b43), .unset] [(.int (3 : Int32)), (.int i5)]))
            refine own_step (fun t k => XS.icmpYes X49.here hx rfl (pc0 := 174) (pc' := 185) rfl (hb hby at_174) rfl (tlt (by rw [hB68_42]; decide : i5 < (3 : Int32))).1 (by decide) (by decide) k) ?_
            show own_Fin p e below s Q 16 128 (T49.setTop (mkF m 185 #[.val (.int i0), .val (.int i1), .val (.int i2), .val (.int i3), .val (.int i4), .val (.int i5), .val (.int i6), .val (.int i7), .val (.int i8), .val (.int i9), .val (.ref b43), .unset] []))
            refine own_step (fun t k => XS.iload X49.here hx rfl (hb hby at_185) rfl  k) ?_
            show own_Fin p e below s Q 16 128 (T49.setTop (mkF m 187 #[.val (.int i0), .val (.int i1), .val (.int i2), .val (.int i3), .val (.int i4), .val (.int i5), .val (.int i6), .val (.int i7), .val (.int i8), .val (.int i9), .val (.ref b43), .unset] [(.int i5)]))
            refine own_step (fun t k => XS.iconst X49.here hx rfl (hb hby at_187) k) ?_
            show own_Fin p e below s Q 16 128 (T49.setTop (mkF m 188 #[.val (.int i0), .val (.int i1), .val (.int i2), .val (.int i3), .val (.int i4), .val (.int i5), .val (.int i6), .val (.int i7), .val (.int i8), .val (.int i9), .val (.ref b43), .unset] [(.int (4 : Int32)), (.int i5)]))
            refine own_step (fun t k => XS.icmpYes X49.here hx rfl (pc0 := 188) (pc' := 199) rfl (hb hby at_188) rfl (tlt (by rw [hB68_42]; decide : i5 < (4 : Int32))).1 (by decide) (by decide) k) ?_
            show own_Fin p e below s Q 16 128 (T49.setTop (mkF m 199 #[.val (.int i0), .val (.int i1), .val (.int i2), .val (.int i3), .val (.int i4), .val (.int i5), .val (.int i6), .val (.int i7), .val (.int i8), .val (.int i9), .val (.ref b43), .unset] []))
            refine own_step (fun t k => XS.iconst X49.here hx rfl (hb hby at_199) k) ?_
            show own_Fin p e below s Q 16 128 (T49.setTop (mkF m 200 #[.val (.int i0), .val (.int i1), .val (.int i2), .val (.int i3), .val (.int i4), .val (.int i5), .val (.int i6), .val (.int i7), .val (.int i8), .val (.int i9), .val (.ref b43), .unset] [(.int (1 : Int32))]))
            refine own_step (fun t k => XS.goto X49.here hx rfl (pc0 := 200) (pc' := 204) rfl (hb hby at_200) (by decide) (by decide) k) ?_
            show own_Fin p e below s Q 16 128 (T49.setTop (mkF m 204 #[.val (.int i0), .val (.int i1), .val (.int i2), .val (.int i3), .val (.int i4), .val (.int i5), .val (.int i6), .val (.int i7), .val (.int i8), .val (.int i9), .val (.ref b43), .unset] [(.int (1 : Int32))]))
            refine own_step (fun t k => XS.istore X49.here hx rfl (hb hby at_204) rfl (l' := #[.val (.int i0), .val (.int i1), .val (.int i2), .val (.int i3), .val (.int i4), .val (.int i5), .val (.int i6), .val (.int i7), .val (.int i8), .val (.int i9), .val (.ref b43), .val (.int (1 : Int32))]) rfl k) ?_
            show own_Fin p e below s Q 16 128 (T49.setTop (mkF m 206 #[.val (.int i0), .val (.int i1), .val (.int i2), .val (.int i3), .val (.int i4), .val (.int i5), .val (.int i6), .val (.int i7), .val (.int i8), .val (.int i9), .val (.ref b43), .val (.int (1 : Int32))] []))
            refine own_step (fun t k => XS.aload X49.here hx rfl (hb hby at_206) rfl rfl k) ?_
            show own_Fin p e below s Q 16 128 (T49.setTop (mkF m 208 #[.val (.int i0), .val (.int i1), .val (.int i2), .val (.int i3), .val (.int i4), .val (.int i5), .val (.int i6), .val (.int i7), .val (.int i8), .val (.int i9), .val (.ref b43), .val (.int (1 : Int32))] [(.ref b43)]))
            obtain ⟨_, _, ⟨T52, L52, k52, n52⟩, -, X52, ⟨Lc52, hQ52, l52, y52, z52⟩, st52⟩ := Jvm.LawKit.callS X49 hx (y := (⟨"com/example/endorse/endorse/ManifestSection", "canHold", "([B)Z"⟩ : MethodName)) hown (mvT hZ (hw _ (List.mem_of_getElem? (i := 6) rfl))) (mvT hZ (hw _ (List.mem_of_getElem? (i := 7) rfl))) (mvT hZ (hw _ (List.mem_of_getElem? (i := 8) rfl))) (mvT hZ (hw _ (List.mem_of_getElem? (i := 9) rfl))) (by decide) (backOf (W := 0) (rm2 l Z a0 hw [] b43 gf45 2 h45 n0 V45 (by decide)) hZ (hw _ (List.mem_of_getElem? (i := 9) rfl)) (hw _ (List.mem_of_getElem? (i := 8) rfl)) (by decide) (by decide)) (g := (mkF m 208 #[.val (.int i0), .val (.int i1), .val (.int i2), .val (.int i3), .val (.int i4), .val (.int i5), .val (.int i6), .val (.int i7), .val (.int i8), .val (.int i9), .val (.ref b43), .val (.int (1 : Int32))] [(.ref b43)])) rfl (by rw [hml]; rfl) (argsL := [(.ref b43)]) (rest := []) (lenOf pdm_2 rfl) rfl (by show 2 * 0 + _ ≤ _; exact Nat.le_of_eq rfl) (hb hby at_208) (fun _ _ => ⟨rfl, e49, (by show cells + 1 + 0 + 0 + 0 ≤ 16; omega), (by show slots + 2 + 0 + 0 + 0 ≤ 128; omega)⟩)
            dsimp only [Pt.U, Pt.locs, Pt.cells, Pt.slots] at X52 l52 y52 z52 st52 hQ52
            have yy52 : k52 = cells + 1 + 0 + 0 + 0 := y52
            have zz52 : n52 = slots + 2 + 0 + 0 + 0 := z52
            rw [yy52, zz52] at X52
            subst l52
            obtain ⟨rfl, N52q, e52⟩ := hQ52
            have N52 := Fr.app N49 N52q
            refine own_step st52 ?_
            show own_Fin p e below s Q 16 128 (T52.setTop (mkF m 211 #[.val (.int i0), .val (.int i1), .val (.int i2), .val (.int i3), .val (.int i4), .val (.int i5), .val (.int i6), .val (.int i7), .val (.int i8), .val (.int i9), .val (.ref b43), .val (.int (1 : Int32))] [(.int (f2_0 gf45 2))]))
            refine own_step (fun t k => XS.iload X52.here hx rfl (hb hby at_211) rfl  k) ?_
            show own_Fin p e below s Q 16 128 (T52.setTop (mkF m 213 #[.val (.int i0), .val (.int i1), .val (.int i2), .val (.int i3), .val (.int i4), .val (.int i5), .val (.int i6), .val (.int i7), .val (.int i8), .val (.int i9), .val (.ref b43), .val (.int (1 : Int32))] [(.int (1 : Int32)), (.int (f2_0 gf45 2))]))
            refine own_step (fun t k => XS.icmpNo X52.here hx rfl (hb hby at_213) rfl (teq (own_can1 _ _ (by decide) (fun j hj => by
      obtain rfl | rfl : j = 0 ∨ j = 1 := by omega
      · rw [(by rw [hgf45, hgf44]; exact hb6 : gf45 0 = i6)]; exact hB154_47
      · rw [(by rw [hgf45, hgf44]; exact hb7 : gf45 1 = i7)]; exact hB168_50))).2 k) ?_
            show own_Fin p e below s Q 16 128 (T52.setTop (mkF m 216 #[.val (.int i0), .val (.int i1), .val (.int i2), .val (.int i3), .val (.int i4), .val (.int i5), .val (.int i6), .val (.int i7), .val (.int i8), .val (.int i9), .val (.ref b43), .val (.int (1 : Int32))] []))
            refine own_step (fun t k => XS.iconst X52.here hx rfl (hb hby at_216) k) ?_
            show own_Fin p e below s Q 16 128 (T52.setTop (mkF m 217 #[.val (.int i0), .val (.int i1), .val (.int i2), .val (.int i3), .val (.int i4), .val (.int i5), .val (.int i6), .val (.int i7), .val (.int i8), .val (.int i9), .val (.ref b43), .val (.int (1 : Int32))] [(.int (1 : Int32))]))
            refine own_step (fun t k => XS.goto X52.here hx rfl (pc0 := 217) (pc' := 221) rfl (hb hby at_217) (by decide) (by decide) k) ?_
            show own_Fin p e below s Q 16 128 (T52.setTop (mkF m 221 #[.val (.int i0), .val (.int i1), .val (.int i2), .val (.int i3), .val (.int i4), .val (.int i5), .val (.int i6), .val (.int i7), .val (.int i8), .val (.int i9), .val (.ref b43), .val (.int (1 : Int32))] [(.int (1 : Int32))]))
            exact own_retN X52 hx hlk hret (by simp) (hb hby at_221) (by omega) (by omega) rfl N52 (fun L' n' => hQ _ L' n') (rfl)
      · refine own_step (fun t k => XS.icmpYes X.here hx rfl (pc0 := 68) (pc' := 89) rfl (hb hby at_68) rfl (feq hB68_42).2 (by decide) (by decide) k) ?_
        show own_Fin p e below s Q 16 128 (T.setTop (mkF m 89 #[.val (.int i0), .val (.int i1), .val (.int i2), .val (.int i3), .val (.int i4), .val (.int i5), .val (.int i6), .val (.int i7), .val (.int i8), .val (.int i9), .unset, .unset] []))
        refine own_step (fun t k => XS.iload X.here hx rfl (hb hby at_89) rfl  k) ?_
        show own_Fin p e below s Q 16 128 (T.setTop (mkF m 91 #[.val (.int i0), .val (.int i1), .val (.int i2), .val (.int i3), .val (.int i4), .val (.int i5), .val (.int i6), .val (.int i7), .val (.int i8), .val (.int i9), .unset, .unset] [(.int i5)]))
        refine own_step (fun t k => XS.iconst X.here hx rfl (hb hby at_91) k) ?_
        show own_Fin p e below s Q 16 128 (T.setTop (mkF m 92 #[.val (.int i0), .val (.int i1), .val (.int i2), .val (.int i3), .val (.int i4), .val (.int i5), .val (.int i6), .val (.int i7), .val (.int i8), .val (.int i9), .unset, .unset] [(.int (3 : Int32)), (.int i5)]))
        by_cases hB92_53 : i5 = (3 : Int32)
        · refine own_step (fun t k => XS.icmpNo X.here hx rfl (hb hby at_92) rfl (teq hB92_53).2 k) ?_
          show own_Fin p e below s Q 16 128 (T.setTop (mkF m 95 #[.val (.int i0), .val (.int i1), .val (.int i2), .val (.int i3), .val (.int i4), .val (.int i5), .val (.int i6), .val (.int i7), .val (.int i8), .val (.int i9), .unset, .unset] []))
          refine own_step (fun t k => XS.iconst X.here hx rfl (hb hby at_95) k) ?_
          show own_Fin p e below s Q 16 128 (T.setTop (mkF m 96 #[.val (.int i0), .val (.int i1), .val (.int i2), .val (.int i3), .val (.int i4), .val (.int i5), .val (.int i6), .val (.int i7), .val (.int i8), .val (.int i9), .unset, .unset] [(.int (3 : Int32))]))
          obtain ⟨T54, h54, k54, X54, e54, E54, AA54, st54⟩ := newP X hx hZ (hw _ (List.mem_of_getElem? (i := 5) rfl)) eT (g := (mkF m 96 #[.val (.int i0), .val (.int i1), .val (.int i2), .val (.int i3), .val (.int i4), .val (.int i5), .val (.int i6), .val (.int i7), .val (.int i8), .val (.int i9), .unset, .unset] [(.int (3 : Int32))])) rfl (hb hby at_96) rfl (by decide) (cap := 3) (by decide) (by decide) (by show cells + 1 ≤ 16; omega) (by show slots + 3 ≤ 128; omega)
          obtain ⟨b54, gg54⟩ : ∃ z, z = h.size := ⟨_, rfl⟩
          rw [← gg54] at AA54 st54
          have V54 : own_AF Z h54 b54 .byte 3 (fun _ => 0) := own_AFnew AA54 (by decide)
          have fr54 : n0 ≤ b54 := Nat.le_trans Z0 (Nat.le_of_eq gg54.symm)
          have Z054 : n0 ≤ h54.size := Nat.le_trans Z0 E54.1
          refine own_step st54 ?_
          show own_Fin p e below s Q 16 128 (T54.setTop (mkF m 98 #[.val (.int i0), .val (.int i1), .val (.int i2), .val (.int i3), .val (.int i4), .val (.int i5), .val (.int i6), .val (.int i7), .val (.int i8), .val (.int i9), .unset, .unset] [(.ref b54)]))
          refine own_step (fun t k => XS.dup X54.here hx rfl (hb hby at_98) rfl rfl k) ?_
          show own_Fin p e below s Q 16 128 (T54.setTop (mkF m 99 #[.val (.int i0), .val (.int i1), .val (.int i2), .val (.int i3), .val (.int i4), .val (.int i5), .val (.int i6), .val (.int i7), .val (.int i8), .val (.int i9), .unset, .unset] [(.ref b54), (.ref b54)]))
          refine own_step (fun t k => XS.iconst X54.here hx rfl (hb hby at_99) k) ?_
          show own_Fin p e below s Q 16 128 (T54.setTop (mkF m 100 #[.val (.int i0), .val (.int i1), .val (.int i2), .val (.int i3), .val (.int i4), .val (.int i5), .val (.int i6), .val (.int i7), .val (.int i8), .val (.int i9), .unset, .unset] [(.int (0 : Int32)), (.ref b54), (.ref b54)]))
          refine own_step (fun t k => XS.iload X54.here hx rfl (hb hby at_100) rfl  k) ?_
          show own_Fin p e below s Q 16 128 (T54.setTop (mkF m 102 #[.val (.int i0), .val (.int i1), .val (.int i2), .val (.int i3), .val (.int i4), .val (.int i5), .val (.int i6), .val (.int i7), .val (.int i8), .val (.int i9), .unset, .unset] [(.int i6), (.int (0 : Int32)), (.ref b54), (.ref b54)]))
          obtain ⟨ca55, Ar55, Sz55, Ht55⟩ := id V54
          have hin55 : ¬ ((0 : Int32) < 0 ∨ ca55.slots.size ≤ ((0 : Int32)).toNatClampNeg) := by rw [Sz55]; exact (by decide)
          obtain ⟨T55, h55, X55, e55, W55, st55⟩ := stB X54 hx hZ e54 Ar55 (j := (0 : Int32)) hin55 (g := (mkF m 102 #[.val (.int i0), .val (.int i1), .val (.int i2), .val (.int i3), .val (.int i4), .val (.int i5), .val (.int i6), .val (.int i7), .val (.int i8), .val (.int i9), .unset, .unset] [(.int i6), (.int (0 : Int32)), (.ref b54), (.ref b54)])) rfl rfl (hb hby at_102)
          have V55 : own_AF Z h55 b54 .byte 3 (fun i => if i = 0 then (nar .byte i6) else (fun _ => 0) i) := own_AFset Ar55 Sz55 Ht55 W55
          obtain ⟨gf55, hgf55⟩ : ∃ g' : Nat → Int32, g' = (fun i => if i = 0 then (nar .byte i6) else (fun _ => 0) i) := ⟨_, rfl⟩
          rw [← hgf55] at V55
          have N55 := Fr.snoc X55 N fr54
          have Z055 : n0 ≤ h55.size := Nat.le_trans Z054 (Nat.le_of_eq W55.size.symm)
          refine own_step st55 ?_
          show own_Fin p e below s Q 16 128 (T55.setTop (mkF m 103 #[.val (.int i0), .val (.int i1), .val (.int i2), .val (.int i3), .val (.int i4), .val (.int i5), .val (.int i6), .val (.int i7), .val (.int i8), .val (.int i9), .unset, .unset] [(.ref b54)]))
          refine own_step (fun t k => XS.dup X55.here hx rfl (hb hby at_103) rfl rfl k) ?_
          show own_Fin p e below s Q 16 128 (T55.setTop (mkF m 104 #[.val (.int i0), .val (.int i1), .val (.int i2), .val (.int i3), .val (.int i4), .val (.int i5), .val (.int i6), .val (.int i7), .val (.int i8), .val (.int i9), .unset, .unset] [(.ref b54), (.ref b54)]))
          refine own_step (fun t k => XS.iconst X55.here hx rfl (hb hby at_104) k) ?_
          show own_Fin p e below s Q 16 128 (T55.setTop (mkF m 105 #[.val (.int i0), .val (.int i1), .val (.int i2), .val (.int i3), .val (.int i4), .val (.int i5), .val (.int i6), .val (.int i7), .val (.int i8), .val (.int i9), .unset, .unset] [(.int (1 : Int32)), (.ref b54), (.ref b54)]))
          refine own_step (fun t k => XS.iload X55.here hx rfl (hb hby at_105) rfl  k) ?_
          show own_Fin p e below s Q 16 128 (T55.setTop (mkF m 107 #[.val (.int i0), .val (.int i1), .val (.int i2), .val (.int i3), .val (.int i4), .val (.int i5), .val (.int i6), .val (.int i7), .val (.int i8), .val (.int i9), .unset, .unset] [(.int i7), (.int (1 : Int32)), (.ref b54), (.ref b54)]))
          obtain ⟨ca56, Ar56, Sz56, Ht56⟩ := id V55
          have hin56 : ¬ ((1 : Int32) < 0 ∨ ca56.slots.size ≤ ((1 : Int32)).toNatClampNeg) := by rw [Sz56]; exact (by decide)
          obtain ⟨T56, h56, X56, e56, W56, st56⟩ := stB X55 hx hZ e55 Ar56 (j := (1 : Int32)) hin56 (g := (mkF m 107 #[.val (.int i0), .val (.int i1), .val (.int i2), .val (.int i3), .val (.int i4), .val (.int i5), .val (.int i6), .val (.int i7), .val (.int i8), .val (.int i9), .unset, .unset] [(.int i7), (.int (1 : Int32)), (.ref b54), (.ref b54)])) rfl rfl (hb hby at_107)
          have V56 : own_AF Z h56 b54 .byte 3 (fun i => if i = 1 then (nar .byte i7) else gf55 i) := own_AFset Ar56 Sz56 Ht56 W56
          obtain ⟨gf56, hgf56⟩ : ∃ g' : Nat → Int32, g' = (fun i => if i = 1 then (nar .byte i7) else gf55 i) := ⟨_, rfl⟩
          rw [← hgf56] at V56
          have N56 := Fr.snoc X56 N55 fr54
          have Z056 : n0 ≤ h56.size := Nat.le_trans Z055 (Nat.le_of_eq W56.size.symm)
          refine own_step st56 ?_
          show own_Fin p e below s Q 16 128 (T56.setTop (mkF m 108 #[.val (.int i0), .val (.int i1), .val (.int i2), .val (.int i3), .val (.int i4), .val (.int i5), .val (.int i6), .val (.int i7), .val (.int i8), .val (.int i9), .unset, .unset] [(.ref b54)]))
          refine own_step (fun t k => XS.dup X56.here hx rfl (hb hby at_108) rfl rfl k) ?_
          show own_Fin p e below s Q 16 128 (T56.setTop (mkF m 109 #[.val (.int i0), .val (.int i1), .val (.int i2), .val (.int i3), .val (.int i4), .val (.int i5), .val (.int i6), .val (.int i7), .val (.int i8), .val (.int i9), .unset, .unset] [(.ref b54), (.ref b54)]))
          refine own_step (fun t k => XS.iconst X56.here hx rfl (hb hby at_109) k) ?_
          show own_Fin p e below s Q 16 128 (T56.setTop (mkF m 110 #[.val (.int i0), .val (.int i1), .val (.int i2), .val (.int i3), .val (.int i4), .val (.int i5), .val (.int i6), .val (.int i7), .val (.int i8), .val (.int i9), .unset, .unset] [(.int (2 : Int32)), (.ref b54), (.ref b54)]))
          refine own_step (fun t k => XS.iload X56.here hx rfl (hb hby at_110) rfl  k) ?_
          show own_Fin p e below s Q 16 128 (T56.setTop (mkF m 112 #[.val (.int i0), .val (.int i1), .val (.int i2), .val (.int i3), .val (.int i4), .val (.int i5), .val (.int i6), .val (.int i7), .val (.int i8), .val (.int i9), .unset, .unset] [(.int i8), (.int (2 : Int32)), (.ref b54), (.ref b54)]))
          obtain ⟨ca57, Ar57, Sz57, Ht57⟩ := id V56
          have hin57 : ¬ ((2 : Int32) < 0 ∨ ca57.slots.size ≤ ((2 : Int32)).toNatClampNeg) := by rw [Sz57]; exact (by decide)
          obtain ⟨T57, h57, X57, e57, W57, st57⟩ := stB X56 hx hZ e56 Ar57 (j := (2 : Int32)) hin57 (g := (mkF m 112 #[.val (.int i0), .val (.int i1), .val (.int i2), .val (.int i3), .val (.int i4), .val (.int i5), .val (.int i6), .val (.int i7), .val (.int i8), .val (.int i9), .unset, .unset] [(.int i8), (.int (2 : Int32)), (.ref b54), (.ref b54)])) rfl rfl (hb hby at_112)
          have V57 : own_AF Z h57 b54 .byte 3 (fun i => if i = 2 then (nar .byte i8) else gf56 i) := own_AFset Ar57 Sz57 Ht57 W57
          obtain ⟨gf57, hgf57⟩ : ∃ g' : Nat → Int32, g' = (fun i => if i = 2 then (nar .byte i8) else gf56 i) := ⟨_, rfl⟩
          rw [← hgf57] at V57
          have N57 := Fr.snoc X57 N56 fr54
          have Z057 : n0 ≤ h57.size := Nat.le_trans Z056 (Nat.le_of_eq W57.size.symm)
          refine own_step st57 ?_
          show own_Fin p e below s Q 16 128 (T57.setTop (mkF m 113 #[.val (.int i0), .val (.int i1), .val (.int i2), .val (.int i3), .val (.int i4), .val (.int i5), .val (.int i6), .val (.int i7), .val (.int i8), .val (.int i9), .unset, .unset] [(.ref b54)]))
          refine own_step (fun t k => XS.astore X57.here hx rfl (hb hby at_113) rfl rfl (l' := #[.val (.int i0), .val (.int i1), .val (.int i2), .val (.int i3), .val (.int i4), .val (.int i5), .val (.int i6), .val (.int i7), .val (.int i8), .val (.int i9), .val (.ref b54), .unset]) rfl k) ?_
          show own_Fin p e below s Q 16 128 (T57.setTop (mkF m 115 #[.val (.int i0), .val (.int i1), .val (.int i2), .val (.int i3), .val (.int i4), .val (.int i5), .val (.int i6), .val (.int i7), .val (.int i8), .val (.int i9), .val (.ref b54), .unset] []))
          refine own_step (fun t k => XS.goto X57.here hx rfl (pc0 := 115) (pc' := 143) rfl (hb hby at_115) (by decide) (by decide) k) ?_
          show own_Fin p e below s Q 16 128 (T57.setTop (mkF m 143 #[.val (.int i0), .val (.int i1), .val (.int i2), .val (.int i3), .val (.int i4), .val (.int i5), .val (.int i6), .val (.int i7), .val (.int i8), .val (.int i9), .val (.ref b54), .unset] []))
          refine own_step (fun t k => XS.iload X57.here hx rfl (hb hby at_143) rfl  k) ?_
          show own_Fin p e below s Q 16 128 (T57.setTop (mkF m 145 #[.val (.int i0), .val (.int i1), .val (.int i2), .val (.int i3), .val (.int i4), .val (.int i5), .val (.int i6), .val (.int i7), .val (.int i8), .val (.int i9), .val (.ref b54), .unset] [(.int i5)]))
          refine own_step (fun t k => XS.iconst X57.here hx rfl (hb hby at_145) k) ?_
          show own_Fin p e below s Q 16 128 (T57.setTop (mkF m 146 #[.val (.int i0), .val (.int i1), .val (.int i2), .val (.int i3), .val (.int i4), .val (.int i5), .val (.int i6), .val (.int i7), .val (.int i8), .val (.int i9), .val (.ref b54), .unset] [(.int (1 : Int32)), (.int i5)]))
          refine own_step (fun t k => XS.icmpNo X57.here hx rfl (hb hby at_146) rfl (flt (by rw [hB92_53]; decide : ¬ (i5 < (1 : Int32)))).1 k) ?_
          show own_Fin p e below s Q 16 128 (T57.setTop (mkF m 149 #[.val (.int i0), .val (.int i1), .val (.int i2), .val (.int i3), .val (.int i4), .val (.int i5), .val (.int i6), .val (.int i7), .val (.int i8), .val (.int i9), .val (.ref b54), .unset] []))
          refine own_step (fun t k => XS.iload X57.here hx rfl (hb hby at_149) rfl  k) ?_
          show own_Fin p e below s Q 16 128 (T57.setTop (mkF m 151 #[.val (.int i0), .val (.int i1), .val (.int i2), .val (.int i3), .val (.int i4), .val (.int i5), .val (.int i6), .val (.int i7), .val (.int i8), .val (.int i9), .val (.ref b54), .unset] [(.int i6)]))
          obtain ⟨_, _, ⟨T58, L58, k58, n58⟩, -, X58, ⟨Lc58, hQ58, l58, y58, z58⟩, st58⟩ := Jvm.LawKit.callS X57 hx (y := (⟨"com/example/endorse/endorse/ManifestSectionCanHoldPinLaw", "ok", "(B)Z"⟩ : MethodName)) hown (mvT hZ (hw _ (List.mem_of_getElem? (i := 10) rfl))) (mvT hZ (hw _ (List.mem_of_getElem? (i := 11) rfl))) (mvT hZ (hw _ (List.mem_of_getElem? (i := 3) rfl))) (mvT hZ (hw _ (List.mem_of_getElem? (i := 12) rfl))) (by decide) (backOf (W := 0) (rm3 l Z a0 hw [] i6 h57 n0) hZ (hw _ (List.mem_of_getElem? (i := 12) rfl)) (hw _ (List.mem_of_getElem? (i := 3) rfl)) (by decide) (by decide)) (g := (mkF m 151 #[.val (.int i0), .val (.int i1), .val (.int i2), .val (.int i3), .val (.int i4), .val (.int i5), .val (.int i6), .val (.int i7), .val (.int i8), .val (.int i9), .val (.ref b54), .unset] [(.int i6)])) rfl (by rw [hml]; rfl) (argsL := [(.int i6)]) (rest := []) (lenOf pdm_1 rfl) rfl (by show 2 * 0 + _ ≤ _; exact Nat.le_of_eq rfl) (hb hby at_151) (fun _ _ => ⟨rfl, e57, (by show cells + 1 + 0 ≤ 16; omega), (by show slots + 3 + 0 ≤ 128; omega)⟩)
          dsimp only [Pt.U, Pt.locs, Pt.cells, Pt.slots] at X58 l58 y58 z58 st58 hQ58
          have yy58 : k58 = cells + 1 + 0 := y58
          have zz58 : n58 = slots + 3 + 0 := z58
          rw [yy58, zz58] at X58
          subst l58
          obtain ⟨rfl, N58q, e58⟩ := hQ58
          have N58 := Fr.app N57 N58q
          refine own_step st58 ?_
          show own_Fin p e below s Q 16 128 (T58.setTop (mkF m 154 #[.val (.int i0), .val (.int i1), .val (.int i2), .val (.int i3), .val (.int i4), .val (.int i5), .val (.int i6), .val (.int i7), .val (.int i8), .val (.int i9), .val (.ref b54), .unset] [(.int (f3_0 i6))]))
          by_cases hB154_59 : (f3_0 i6) = (0 : Int32)
          · refine own_step (fun t k => XS.ifYes X58.here hx rfl (pc0 := 154) (pc' := 203) rfl (hb hby at_154) rfl ((if0 _ _).trans (teq hB154_59).1) (by decide) (by decide) k) ?_
            show own_Fin p e below s Q 16 128 (T58.setTop (mkF m 203 #[.val (.int i0), .val (.int i1), .val (.int i2), .val (.int i3), .val (.int i4), .val (.int i5), .val (.int i6), .val (.int i7), .val (.int i8), .val (.int i9), .val (.ref b54), .unset] []))
            refine own_step (fun t k => XS.iconst X58.here hx rfl (hb hby at_203) k) ?_
            show own_Fin p e below s Q 16 128 (T58.setTop (mkF m 204 #[.val (.int i0), .val (.int i1), .val (.int i2), .val (.int i3), .val (.int i4), .val (.int i5), .val (.int i6), .val (.int i7), .val (.int i8), .val (.int i9), .val (.ref b54), .unset] [(.int (0 : Int32))]))
            refine own_step (fun t k => XS.istore X58.here hx rfl (hb hby at_204) rfl (l' := #[.val (.int i0), .val (.int i1), .val (.int i2), .val (.int i3), .val (.int i4), .val (.int i5), .val (.int i6), .val (.int i7), .val (.int i8), .val (.int i9), .val (.ref b54), .val (.int (0 : Int32))]) rfl k) ?_
            show own_Fin p e below s Q 16 128 (T58.setTop (mkF m 206 #[.val (.int i0), .val (.int i1), .val (.int i2), .val (.int i3), .val (.int i4), .val (.int i5), .val (.int i6), .val (.int i7), .val (.int i8), .val (.int i9), .val (.ref b54), .val (.int (0 : Int32))] []))
            refine own_step (fun t k => XS.aload X58.here hx rfl (hb hby at_206) rfl rfl k) ?_
            show own_Fin p e below s Q 16 128 (T58.setTop (mkF m 208 #[.val (.int i0), .val (.int i1), .val (.int i2), .val (.int i3), .val (.int i4), .val (.int i5), .val (.int i6), .val (.int i7), .val (.int i8), .val (.int i9), .val (.ref b54), .val (.int (0 : Int32))] [(.ref b54)]))
            obtain ⟨_, _, ⟨T60, L60, k60, n60⟩, -, X60, ⟨Lc60, hQ60, l60, y60, z60⟩, st60⟩ := Jvm.LawKit.callS X58 hx (y := (⟨"com/example/endorse/endorse/ManifestSection", "canHold", "([B)Z"⟩ : MethodName)) hown (mvT hZ (hw _ (List.mem_of_getElem? (i := 6) rfl))) (mvT hZ (hw _ (List.mem_of_getElem? (i := 7) rfl))) (mvT hZ (hw _ (List.mem_of_getElem? (i := 8) rfl))) (mvT hZ (hw _ (List.mem_of_getElem? (i := 9) rfl))) (by decide) (backOf (W := 0) (rm2 l Z a0 hw [] b54 gf57 3 h57 n0 V57 (by decide)) hZ (hw _ (List.mem_of_getElem? (i := 9) rfl)) (hw _ (List.mem_of_getElem? (i := 8) rfl)) (by decide) (by decide)) (g := (mkF m 208 #[.val (.int i0), .val (.int i1), .val (.int i2), .val (.int i3), .val (.int i4), .val (.int i5), .val (.int i6), .val (.int i7), .val (.int i8), .val (.int i9), .val (.ref b54), .val (.int (0 : Int32))] [(.ref b54)])) rfl (by rw [hml]; rfl) (argsL := [(.ref b54)]) (rest := []) (lenOf pdm_2 rfl) rfl (by show 2 * 0 + _ ≤ _; exact Nat.le_of_eq rfl) (hb hby at_208) (fun _ _ => ⟨rfl, e58, (by show cells + 1 + 0 + 0 ≤ 16; omega), (by show slots + 3 + 0 + 0 ≤ 128; omega)⟩)
            dsimp only [Pt.U, Pt.locs, Pt.cells, Pt.slots] at X60 l60 y60 z60 st60 hQ60
            have yy60 : k60 = cells + 1 + 0 + 0 := y60
            have zz60 : n60 = slots + 3 + 0 + 0 := z60
            rw [yy60, zz60] at X60
            subst l60
            obtain ⟨rfl, N60q, e60⟩ := hQ60
            have N60 := Fr.app N58 N60q
            refine own_step st60 ?_
            show own_Fin p e below s Q 16 128 (T60.setTop (mkF m 211 #[.val (.int i0), .val (.int i1), .val (.int i2), .val (.int i3), .val (.int i4), .val (.int i5), .val (.int i6), .val (.int i7), .val (.int i8), .val (.int i9), .val (.ref b54), .val (.int (0 : Int32))] [(.int (f2_0 gf57 3))]))
            refine own_step (fun t k => XS.iload X60.here hx rfl (hb hby at_211) rfl  k) ?_
            show own_Fin p e below s Q 16 128 (T60.setTop (mkF m 213 #[.val (.int i0), .val (.int i1), .val (.int i2), .val (.int i3), .val (.int i4), .val (.int i5), .val (.int i6), .val (.int i7), .val (.int i8), .val (.int i9), .val (.ref b54), .val (.int (0 : Int32))] [(.int (0 : Int32)), (.int (f2_0 gf57 3))]))
            refine own_step (fun t k => XS.icmpNo X60.here hx rfl (hb hby at_213) rfl (teq (own_can0 _ _ (by decide) 0 (by decide) (by rw [(by rw [hgf57, hgf56, hgf55]; exact hb6 : gf57 0 = i6)]; exact hB154_59))).2 k) ?_
            show own_Fin p e below s Q 16 128 (T60.setTop (mkF m 216 #[.val (.int i0), .val (.int i1), .val (.int i2), .val (.int i3), .val (.int i4), .val (.int i5), .val (.int i6), .val (.int i7), .val (.int i8), .val (.int i9), .val (.ref b54), .val (.int (0 : Int32))] []))
            refine own_step (fun t k => XS.iconst X60.here hx rfl (hb hby at_216) k) ?_
            show own_Fin p e below s Q 16 128 (T60.setTop (mkF m 217 #[.val (.int i0), .val (.int i1), .val (.int i2), .val (.int i3), .val (.int i4), .val (.int i5), .val (.int i6), .val (.int i7), .val (.int i8), .val (.int i9), .val (.ref b54), .val (.int (0 : Int32))] [(.int (1 : Int32))]))
            refine own_step (fun t k => XS.goto X60.here hx rfl (pc0 := 217) (pc' := 221) rfl (hb hby at_217) (by decide) (by decide) k) ?_
            show own_Fin p e below s Q 16 128 (T60.setTop (mkF m 221 #[.val (.int i0), .val (.int i1), .val (.int i2), .val (.int i3), .val (.int i4), .val (.int i5), .val (.int i6), .val (.int i7), .val (.int i8), .val (.int i9), .val (.ref b54), .val (.int (0 : Int32))] [(.int (1 : Int32))]))
            exact own_retN X60 hx hlk hret (by simp) (hb hby at_221) (by omega) (by omega) rfl N60 (fun L' n' => hQ _ L' n') (rfl)
          · refine own_step (fun t k => XS.ifNo X58.here hx rfl (hb hby at_154) rfl ((if0 _ _).trans (feq hB154_59).1) k) ?_
            show own_Fin p e below s Q 16 128 (T58.setTop (mkF m 157 #[.val (.int i0), .val (.int i1), .val (.int i2), .val (.int i3), .val (.int i4), .val (.int i5), .val (.int i6), .val (.int i7), .val (.int i8), .val (.int i9), .val (.ref b54), .unset] []))
            refine own_step (fun t k => XS.iload X58.here hx rfl (hb hby at_157) rfl  k) ?_
            show own_Fin p e below s Q 16 128 (T58.setTop (mkF m 159 #[.val (.int i0), .val (.int i1), .val (.int i2), .val (.int i3), .val (.int i4), .val (.int i5), .val (.int i6), .val (.int i7), .val (.int i8), .val (.int i9), .val (.ref b54), .unset] [(.int i5)]))
            refine own_step (fun t k => XS.iconst X58.here hx rfl (hb hby at_159) k) ?_
            show own_Fin p e below s Q 16 128 (T58.setTop (mkF m 160 #[.val (.int i0), .val (.int i1), .val (.int i2), .val (.int i3), .val (.int i4), .val (.int i5), .val (.int i6), .val (.int i7), .val (.int i8), .val (.int i9), .val (.ref b54), .unset] [(.int (2 : Int32)), (.int i5)]))
            refine own_step (fun t k => XS.icmpNo X58.here hx rfl (hb hby at_160) rfl (flt (by rw [hB92_53]; decide : ¬ (i5 < (2 : Int32)))).1 k) ?_
            show own_Fin p e below s Q 16 128 (T58.setTop (mkF m 163 #[.val (.int i0), .val (.int i1), .val (.int i2), .val (.int i3), .val (.int i4), .val (.int i5), .val (.int i6), .val (.int i7), .val (.int i8), .val (.int i9), .val (.ref b54), .unset] []))
            refine own_step (fun t k => XS.iload X58.here hx rfl (hb hby at_163) rfl  k) ?_
            show own_Fin p e below s Q 16 128 (T58.setTop (mkF m 165 #[.val (.int i0), .val (.int i1), .val (.int i2), .val (.int i3), .val (.int i4), .val (.int i5), .val (.int i6), .val (.int i7), .val (.int i8), .val (.int i9), .val (.ref b54), .unset] [(.int i7)]))
            obtain ⟨_, _, ⟨T61, L61, k61, n61⟩, -, X61, ⟨Lc61, hQ61, l61, y61, z61⟩, st61⟩ := Jvm.LawKit.callS X58 hx (y := (⟨"com/example/endorse/endorse/ManifestSectionCanHoldPinLaw", "ok", "(B)Z"⟩ : MethodName)) hown (mvT hZ (hw _ (List.mem_of_getElem? (i := 10) rfl))) (mvT hZ (hw _ (List.mem_of_getElem? (i := 11) rfl))) (mvT hZ (hw _ (List.mem_of_getElem? (i := 3) rfl))) (mvT hZ (hw _ (List.mem_of_getElem? (i := 12) rfl))) (by decide) (backOf (W := 0) (rm3 l Z a0 hw [] i7 h57 n0) hZ (hw _ (List.mem_of_getElem? (i := 12) rfl)) (hw _ (List.mem_of_getElem? (i := 3) rfl)) (by decide) (by decide)) (g := (mkF m 165 #[.val (.int i0), .val (.int i1), .val (.int i2), .val (.int i3), .val (.int i4), .val (.int i5), .val (.int i6), .val (.int i7), .val (.int i8), .val (.int i9), .val (.ref b54), .unset] [(.int i7)])) rfl (by rw [hml]; rfl) (argsL := [(.int i7)]) (rest := []) (lenOf pdm_1 rfl) rfl (by show 2 * 0 + _ ≤ _; exact Nat.le_of_eq rfl) (hb hby at_165) (fun _ _ => ⟨rfl, e58, (by show cells + 1 + 0 + 0 ≤ 16; omega), (by show slots + 3 + 0 + 0 ≤ 128; omega)⟩)
            dsimp only [Pt.U, Pt.locs, Pt.cells, Pt.slots] at X61 l61 y61 z61 st61 hQ61
            have yy61 : k61 = cells + 1 + 0 + 0 := y61
            have zz61 : n61 = slots + 3 + 0 + 0 := z61
            rw [yy61, zz61] at X61
            subst l61
            obtain ⟨rfl, N61q, e61⟩ := hQ61
            have N61 := Fr.app N58 N61q
            refine own_step st61 ?_
            show own_Fin p e below s Q 16 128 (T61.setTop (mkF m 168 #[.val (.int i0), .val (.int i1), .val (.int i2), .val (.int i3), .val (.int i4), .val (.int i5), .val (.int i6), .val (.int i7), .val (.int i8), .val (.int i9), .val (.ref b54), .unset] [(.int (f3_0 i7))]))
            by_cases hB168_62 : (f3_0 i7) = (0 : Int32)
            · refine own_step (fun t k => XS.ifYes X61.here hx rfl (pc0 := 168) (pc' := 203) rfl (hb hby at_168) rfl ((if0 _ _).trans (teq hB168_62).1) (by decide) (by decide) k) ?_
              show own_Fin p e below s Q 16 128 (T61.setTop (mkF m 203 #[.val (.int i0), .val (.int i1), .val (.int i2), .val (.int i3), .val (.int i4), .val (.int i5), .val (.int i6), .val (.int i7), .val (.int i8), .val (.int i9), .val (.ref b54), .unset] []))
              refine own_step (fun t k => XS.iconst X61.here hx rfl (hb hby at_203) k) ?_
              show own_Fin p e below s Q 16 128 (T61.setTop (mkF m 204 #[.val (.int i0), .val (.int i1), .val (.int i2), .val (.int i3), .val (.int i4), .val (.int i5), .val (.int i6), .val (.int i7), .val (.int i8), .val (.int i9), .val (.ref b54), .unset] [(.int (0 : Int32))]))
              refine own_step (fun t k => XS.istore X61.here hx rfl (hb hby at_204) rfl (l' := #[.val (.int i0), .val (.int i1), .val (.int i2), .val (.int i3), .val (.int i4), .val (.int i5), .val (.int i6), .val (.int i7), .val (.int i8), .val (.int i9), .val (.ref b54), .val (.int (0 : Int32))]) rfl k) ?_
              show own_Fin p e below s Q 16 128 (T61.setTop (mkF m 206 #[.val (.int i0), .val (.int i1), .val (.int i2), .val (.int i3), .val (.int i4), .val (.int i5), .val (.int i6), .val (.int i7), .val (.int i8), .val (.int i9), .val (.ref b54), .val (.int (0 : Int32))] []))
              refine own_step (fun t k => XS.aload X61.here hx rfl (hb hby at_206) rfl rfl k) ?_
              show own_Fin p e below s Q 16 128 (T61.setTop (mkF m 208 #[.val (.int i0), .val (.int i1), .val (.int i2), .val (.int i3), .val (.int i4), .val (.int i5), .val (.int i6), .val (.int i7), .val (.int i8), .val (.int i9), .val (.ref b54), .val (.int (0 : Int32))] [(.ref b54)]))
              obtain ⟨_, _, ⟨T63, L63, k63, n63⟩, -, X63, ⟨Lc63, hQ63, l63, y63, z63⟩, st63⟩ := Jvm.LawKit.callS X61 hx (y := (⟨"com/example/endorse/endorse/ManifestSection", "canHold", "([B)Z"⟩ : MethodName)) hown (mvT hZ (hw _ (List.mem_of_getElem? (i := 6) rfl))) (mvT hZ (hw _ (List.mem_of_getElem? (i := 7) rfl))) (mvT hZ (hw _ (List.mem_of_getElem? (i := 8) rfl))) (mvT hZ (hw _ (List.mem_of_getElem? (i := 9) rfl))) (by decide) (backOf (W := 0) (rm2 l Z a0 hw [] b54 gf57 3 h57 n0 V57 (by decide)) hZ (hw _ (List.mem_of_getElem? (i := 9) rfl)) (hw _ (List.mem_of_getElem? (i := 8) rfl)) (by decide) (by decide)) (g := (mkF m 208 #[.val (.int i0), .val (.int i1), .val (.int i2), .val (.int i3), .val (.int i4), .val (.int i5), .val (.int i6), .val (.int i7), .val (.int i8), .val (.int i9), .val (.ref b54), .val (.int (0 : Int32))] [(.ref b54)])) rfl (by rw [hml]; rfl) (argsL := [(.ref b54)]) (rest := []) (lenOf pdm_2 rfl) rfl (by show 2 * 0 + _ ≤ _; exact Nat.le_of_eq rfl) (hb hby at_208) (fun _ _ => ⟨rfl, e61, (by show cells + 1 + 0 + 0 + 0 ≤ 16; omega), (by show slots + 3 + 0 + 0 + 0 ≤ 128; omega)⟩)
              dsimp only [Pt.U, Pt.locs, Pt.cells, Pt.slots] at X63 l63 y63 z63 st63 hQ63
              have yy63 : k63 = cells + 1 + 0 + 0 + 0 := y63
              have zz63 : n63 = slots + 3 + 0 + 0 + 0 := z63
              rw [yy63, zz63] at X63
              subst l63
              obtain ⟨rfl, N63q, e63⟩ := hQ63
              have N63 := Fr.app N61 N63q
              refine own_step st63 ?_
              show own_Fin p e below s Q 16 128 (T63.setTop (mkF m 211 #[.val (.int i0), .val (.int i1), .val (.int i2), .val (.int i3), .val (.int i4), .val (.int i5), .val (.int i6), .val (.int i7), .val (.int i8), .val (.int i9), .val (.ref b54), .val (.int (0 : Int32))] [(.int (f2_0 gf57 3))]))
              refine own_step (fun t k => XS.iload X63.here hx rfl (hb hby at_211) rfl  k) ?_
              show own_Fin p e below s Q 16 128 (T63.setTop (mkF m 213 #[.val (.int i0), .val (.int i1), .val (.int i2), .val (.int i3), .val (.int i4), .val (.int i5), .val (.int i6), .val (.int i7), .val (.int i8), .val (.int i9), .val (.ref b54), .val (.int (0 : Int32))] [(.int (0 : Int32)), (.int (f2_0 gf57 3))]))
              refine own_step (fun t k => XS.icmpNo X63.here hx rfl (hb hby at_213) rfl (teq (own_can0 _ _ (by decide) 1 (by decide) (by rw [(by rw [hgf57, hgf56, hgf55]; exact hb7 : gf57 1 = i7)]; exact hB168_62))).2 k) ?_
              show own_Fin p e below s Q 16 128 (T63.setTop (mkF m 216 #[.val (.int i0), .val (.int i1), .val (.int i2), .val (.int i3), .val (.int i4), .val (.int i5), .val (.int i6), .val (.int i7), .val (.int i8), .val (.int i9), .val (.ref b54), .val (.int (0 : Int32))] []))
              refine own_step (fun t k => XS.iconst X63.here hx rfl (hb hby at_216) k) ?_
              show own_Fin p e below s Q 16 128 (T63.setTop (mkF m 217 #[.val (.int i0), .val (.int i1), .val (.int i2), .val (.int i3), .val (.int i4), .val (.int i5), .val (.int i6), .val (.int i7), .val (.int i8), .val (.int i9), .val (.ref b54), .val (.int (0 : Int32))] [(.int (1 : Int32))]))
              refine own_step (fun t k => XS.goto X63.here hx rfl (pc0 := 217) (pc' := 221) rfl (hb hby at_217) (by decide) (by decide) k) ?_
              show own_Fin p e below s Q 16 128 (T63.setTop (mkF m 221 #[.val (.int i0), .val (.int i1), .val (.int i2), .val (.int i3), .val (.int i4), .val (.int i5), .val (.int i6), .val (.int i7), .val (.int i8), .val (.int i9), .val (.ref b54), .val (.int (0 : Int32))] [(.int (1 : Int32))]))
              exact own_retN X63 hx hlk hret (by simp) (hb hby at_221) (by omega) (by omega) rfl N63 (fun L' n' => hQ _ L' n') (rfl)
            · refine own_step (fun t k => XS.ifNo X61.here hx rfl (hb hby at_168) rfl ((if0 _ _).trans (feq hB168_62).1) k) ?_
              show own_Fin p e below s Q 16 128 (T61.setTop (mkF m 171 #[.val (.int i0), .val (.int i1), .val (.int i2), .val (.int i3), .val (.int i4), .val (.int i5), .val (.int i6), .val (.int i7), .val (.int i8), .val (.int i9), .val (.ref b54), .unset] []))
              refine own_step (fun t k => XS.iload X61.here hx rfl (hb hby at_171) rfl  k) ?_
              show own_Fin p e below s Q 16 128 (T61.setTop (mkF m 173 #[.val (.int i0), .val (.int i1), .val (.int i2), .val (.int i3), .val (.int i4), .val (.int i5), .val (.int i6), .val (.int i7), .val (.int i8), .val (.int i9), .val (.ref b54), .unset] [(.int i5)]))
              refine own_step (fun t k => XS.iconst X61.here hx rfl (hb hby at_173) k) ?_
              show own_Fin p e below s Q 16 128 (T61.setTop (mkF m 174 #[.val (.int i0), .val (.int i1), .val (.int i2), .val (.int i3), .val (.int i4), .val (.int i5), .val (.int i6), .val (.int i7), .val (.int i8), .val (.int i9), .val (.ref b54), .unset] [(.int (3 : Int32)), (.int i5)]))
              refine own_step (fun t k => XS.icmpNo X61.here hx rfl (hb hby at_174) rfl (flt (by rw [hB92_53]; decide : ¬ (i5 < (3 : Int32)))).1 k) ?_
              show own_Fin p e below s Q 16 128 (T61.setTop (mkF m 177 #[.val (.int i0), .val (.int i1), .val (.int i2), .val (.int i3), .val (.int i4), .val (.int i5), .val (.int i6), .val (.int i7), .val (.int i8), .val (.int i9), .val (.ref b54), .unset] []))
              refine own_step (fun t k => XS.iload X61.here hx rfl (hb hby at_177) rfl  k) ?_
              show own_Fin p e below s Q 16 128 (T61.setTop (mkF m 179 #[.val (.int i0), .val (.int i1), .val (.int i2), .val (.int i3), .val (.int i4), .val (.int i5), .val (.int i6), .val (.int i7), .val (.int i8), .val (.int i9), .val (.ref b54), .unset] [(.int i8)]))
              obtain ⟨_, _, ⟨T64, L64, k64, n64⟩, -, X64, ⟨Lc64, hQ64, l64, y64, z64⟩, st64⟩ := Jvm.LawKit.callS X61 hx (y := (⟨"com/example/endorse/endorse/ManifestSectionCanHoldPinLaw", "ok", "(B)Z"⟩ : MethodName)) hown (mvT hZ (hw _ (List.mem_of_getElem? (i := 10) rfl))) (mvT hZ (hw _ (List.mem_of_getElem? (i := 11) rfl))) (mvT hZ (hw _ (List.mem_of_getElem? (i := 3) rfl))) (mvT hZ (hw _ (List.mem_of_getElem? (i := 12) rfl))) (by decide) (backOf (W := 0) (rm3 l Z a0 hw [] i8 h57 n0) hZ (hw _ (List.mem_of_getElem? (i := 12) rfl)) (hw _ (List.mem_of_getElem? (i := 3) rfl)) (by decide) (by decide)) (g := (mkF m 179 #[.val (.int i0), .val (.int i1), .val (.int i2), .val (.int i3), .val (.int i4), .val (.int i5), .val (.int i6), .val (.int i7), .val (.int i8), .val (.int i9), .val (.ref b54), .unset] [(.int i8)])) rfl (by rw [hml]; rfl) (argsL := [(.int i8)]) (rest := []) (lenOf pdm_1 rfl) rfl (by show 2 * 0 + _ ≤ _; exact Nat.le_of_eq rfl) (hb hby at_179) (fun _ _ => ⟨rfl, e61, (by show cells + 1 + 0 + 0 + 0 ≤ 16; omega), (by show slots + 3 + 0 + 0 + 0 ≤ 128; omega)⟩)
              dsimp only [Pt.U, Pt.locs, Pt.cells, Pt.slots] at X64 l64 y64 z64 st64 hQ64
              have yy64 : k64 = cells + 1 + 0 + 0 + 0 := y64
              have zz64 : n64 = slots + 3 + 0 + 0 + 0 := z64
              rw [yy64, zz64] at X64
              subst l64
              obtain ⟨rfl, N64q, e64⟩ := hQ64
              have N64 := Fr.app N61 N64q
              refine own_step st64 ?_
              show own_Fin p e below s Q 16 128 (T64.setTop (mkF m 182 #[.val (.int i0), .val (.int i1), .val (.int i2), .val (.int i3), .val (.int i4), .val (.int i5), .val (.int i6), .val (.int i7), .val (.int i8), .val (.int i9), .val (.ref b54), .unset] [(.int (f3_0 i8))]))
              by_cases hB182_65 : (f3_0 i8) = (0 : Int32)
              · refine own_step (fun t k => XS.ifYes X64.here hx rfl (pc0 := 182) (pc' := 203) rfl (hb hby at_182) rfl ((if0 _ _).trans (teq hB182_65).1) (by decide) (by decide) k) ?_
                show own_Fin p e below s Q 16 128 (T64.setTop (mkF m 203 #[.val (.int i0), .val (.int i1), .val (.int i2), .val (.int i3), .val (.int i4), .val (.int i5), .val (.int i6), .val (.int i7), .val (.int i8), .val (.int i9), .val (.ref b54), .unset] []))
                refine own_step (fun t k => XS.iconst X64.here hx rfl (hb hby at_203) k) ?_
                show own_Fin p e below s Q 16 128 (T64.setTop (mkF m 204 #[.val (.int i0), .val (.int i1), .val (.int i2), .val (.int i3), .val (.int i4), .val (.int i5), .val (.int i6), .val (.int i7), .val (.int i8), .val (.int i9), .val (.ref b54), .unset] [(.int (0 : Int32))]))
                refine own_step (fun t k => XS.istore X64.here hx rfl (hb hby at_204) rfl (l' := #[.val (.int i0), .val (.int i1), .val (.int i2), .val (.int i3), .val (.int i4), .val (.int i5), .val (.int i6), .val (.int i7), .val (.int i8), .val (.int i9), .val (.ref b54), .val (.int (0 : Int32))]) rfl k) ?_
                show own_Fin p e below s Q 16 128 (T64.setTop (mkF m 206 #[.val (.int i0), .val (.int i1), .val (.int i2), .val (.int i3), .val (.int i4), .val (.int i5), .val (.int i6), .val (.int i7), .val (.int i8), .val (.int i9), .val (.ref b54), .val (.int (0 : Int32))] []))
                refine own_step (fun t k => XS.aload X64.here hx rfl (hb hby at_206) rfl rfl k) ?_
                show own_Fin p e below s Q 16 128 (T64.setTop (mkF m 208 #[.val (.int i0), .val (.int i1), .val (.int i2), .val (.int i3), .val (.int i4), .val (.int i5), .val (.int i6), .val (.int i7), .val (.int i8), .val (.int i9), .val (.ref b54), .val (.int (0 : Int32))] [(.ref b54)]))
                obtain ⟨_, _, ⟨T66, L66, k66, n66⟩, -, X66, ⟨Lc66, hQ66, l66, y66, z66⟩, st66⟩ := Jvm.LawKit.callS X64 hx (y := (⟨"com/example/endorse/endorse/ManifestSection", "canHold", "([B)Z"⟩ : MethodName)) hown (mvT hZ (hw _ (List.mem_of_getElem? (i := 6) rfl))) (mvT hZ (hw _ (List.mem_of_getElem? (i := 7) rfl))) (mvT hZ (hw _ (List.mem_of_getElem? (i := 8) rfl))) (mvT hZ (hw _ (List.mem_of_getElem? (i := 9) rfl))) (by decide) (backOf (W := 0) (rm2 l Z a0 hw [] b54 gf57 3 h57 n0 V57 (by decide)) hZ (hw _ (List.mem_of_getElem? (i := 9) rfl)) (hw _ (List.mem_of_getElem? (i := 8) rfl)) (by decide) (by decide)) (g := (mkF m 208 #[.val (.int i0), .val (.int i1), .val (.int i2), .val (.int i3), .val (.int i4), .val (.int i5), .val (.int i6), .val (.int i7), .val (.int i8), .val (.int i9), .val (.ref b54), .val (.int (0 : Int32))] [(.ref b54)])) rfl (by rw [hml]; rfl) (argsL := [(.ref b54)]) (rest := []) (lenOf pdm_2 rfl) rfl (by show 2 * 0 + _ ≤ _; exact Nat.le_of_eq rfl) (hb hby at_208) (fun _ _ => ⟨rfl, e64, (by show cells + 1 + 0 + 0 + 0 + 0 ≤ 16; omega), (by show slots + 3 + 0 + 0 + 0 + 0 ≤ 128; omega)⟩)
                dsimp only [Pt.U, Pt.locs, Pt.cells, Pt.slots] at X66 l66 y66 z66 st66 hQ66
                have yy66 : k66 = cells + 1 + 0 + 0 + 0 + 0 := y66
                have zz66 : n66 = slots + 3 + 0 + 0 + 0 + 0 := z66
                rw [yy66, zz66] at X66
                subst l66
                obtain ⟨rfl, N66q, e66⟩ := hQ66
                have N66 := Fr.app N64 N66q
                refine own_step st66 ?_
                show own_Fin p e below s Q 16 128 (T66.setTop (mkF m 211 #[.val (.int i0), .val (.int i1), .val (.int i2), .val (.int i3), .val (.int i4), .val (.int i5), .val (.int i6), .val (.int i7), .val (.int i8), .val (.int i9), .val (.ref b54), .val (.int (0 : Int32))] [(.int (f2_0 gf57 3))]))
                refine own_step (fun t k => XS.iload X66.here hx rfl (hb hby at_211) rfl  k) ?_
                show own_Fin p e below s Q 16 128 (T66.setTop (mkF m 213 #[.val (.int i0), .val (.int i1), .val (.int i2), .val (.int i3), .val (.int i4), .val (.int i5), .val (.int i6), .val (.int i7), .val (.int i8), .val (.int i9), .val (.ref b54), .val (.int (0 : Int32))] [(.int (0 : Int32)), (.int (f2_0 gf57 3))]))
                refine own_step (fun t k => XS.icmpNo X66.here hx rfl (hb hby at_213) rfl (teq (own_can0 _ _ (by decide) 2 (by decide) (by rw [(by rw [hgf57, hgf56, hgf55]; exact hb8 : gf57 2 = i8)]; exact hB182_65))).2 k) ?_
                show own_Fin p e below s Q 16 128 (T66.setTop (mkF m 216 #[.val (.int i0), .val (.int i1), .val (.int i2), .val (.int i3), .val (.int i4), .val (.int i5), .val (.int i6), .val (.int i7), .val (.int i8), .val (.int i9), .val (.ref b54), .val (.int (0 : Int32))] []))
                refine own_step (fun t k => XS.iconst X66.here hx rfl (hb hby at_216) k) ?_
                show own_Fin p e below s Q 16 128 (T66.setTop (mkF m 217 #[.val (.int i0), .val (.int i1), .val (.int i2), .val (.int i3), .val (.int i4), .val (.int i5), .val (.int i6), .val (.int i7), .val (.int i8), .val (.int i9), .val (.ref b54), .val (.int (0 : Int32))] [(.int (1 : Int32))]))
                refine own_step (fun t k => XS.goto X66.here hx rfl (pc0 := 217) (pc' := 221) rfl (hb hby at_217) (by decide) (by decide) k) ?_
                show own_Fin p e below s Q 16 128 (T66.setTop (mkF m 221 #[.val (.int i0), .val (.int i1), .val (.int i2), .val (.int i3), .val (.int i4), .val (.int i5), .val (.int i6), .val (.int i7), .val (.int i8), .val (.int i9), .val (.ref b54), .val (.int (0 : Int32))] [(.int (1 : Int32))]))
                exact own_retN X66 hx hlk hret (by simp) (hb hby at_221) (by omega) (by omega) rfl N66 (fun L' n' => hQ _ L' n') (rfl)
              · refine own_step (fun t k => XS.ifNo X64.here hx rfl (hb hby at_182) rfl ((if0 _ _).trans (feq hB182_65).1) k) ?_
                show own_Fin p e below s Q 16 128 (T64.setTop (mkF m 185 #[.val (.int i0), .val (.int i1), .val (.int i2), .val (.int i3), .val (.int i4), .val (.int i5), .val (.int i6), .val (.int i7), .val (.int i8), .val (.int i9), .val (.ref b54), .unset] []))
                refine own_step (fun t k => XS.iload X64.here hx rfl (hb hby at_185) rfl  k) ?_
                show own_Fin p e below s Q 16 128 (T64.setTop (mkF m 187 #[.val (.int i0), .val (.int i1), .val (.int i2), .val (.int i3), .val (.int i4), .val (.int i5), .val (.int i6), .val (.int i7), .val (.int i8), .val (.int i9), .val (.ref b54), .unset] [(.int i5)]))
                refine own_step (fun t k => XS.iconst X64.here hx rfl (hb hby at_187) k) ?_
                show own_Fin p e below s Q 16 128 (T64.setTop (mkF m 188 #[.val (.int i0), .val (.int i1), .val (.int i2), .val (.int i3), .val (.int i4), .val (.int i5), .val (.int i6), .val (.int i7), .val (.int i8), .val (.int i9), .val (.ref b54), .unset] [(.int (4 : Int32)), (.int i5)]))
                refine own_step (fun t k => XS.icmpYes X64.here hx rfl (pc0 := 188) (pc' := 199) rfl (hb hby at_188) rfl (tlt (by rw [hB92_53]; decide : i5 < (4 : Int32))).1 (by decide) (by decide) k) ?_
                show own_Fin p e below s Q 16 128 (T64.setTop (mkF m 199 #[.val (.int i0), .val (.int i1), .val (.int i2), .val (.int i3), .val (.int i4), .val (.int i5), .val (.int i6), .val (.int i7), .val (.int i8), .val (.int i9), .val (.ref b54), .unset] []))
                refine own_step (fun t k => XS.iconst X64.here hx rfl (hb hby at_199) k) ?_
                show own_Fin p e below s Q 16 128 (T64.setTop (mkF m 200 #[.val (.int i0), .val (.int i1), .val (.int i2), .val (.int i3), .val (.int i4), .val (.int i5), .val (.int i6), .val (.int i7), .val (.int i8), .val (.int i9), .val (.ref b54), .unset] [(.int (1 : Int32))]))
                refine own_step (fun t k => XS.goto X64.here hx rfl (pc0 := 200) (pc' := 204) rfl (hb hby at_200) (by decide) (by decide) k) ?_
                show own_Fin p e below s Q 16 128 (T64.setTop (mkF m 204 #[.val (.int i0), .val (.int i1), .val (.int i2), .val (.int i3), .val (.int i4), .val (.int i5), .val (.int i6), .val (.int i7), .val (.int i8), .val (.int i9), .val (.ref b54), .unset] [(.int (1 : Int32))]))
                refine own_step (fun t k => XS.istore X64.here hx rfl (hb hby at_204) rfl (l' := #[.val (.int i0), .val (.int i1), .val (.int i2), .val (.int i3), .val (.int i4), .val (.int i5), .val (.int i6), .val (.int i7), .val (.int i8), .val (.int i9), .val (.ref b54), .val (.int (1 : Int32))]) rfl k) ?_
                show own_Fin p e below s Q 16 128 (T64.setTop (mkF m 206 #[.val (.int i0), .val (.int i1), .val (.int i2), .val (.int i3), .val (.int i4), .val (.int i5), .val (.int i6), .val (.int i7), .val (.int i8), .val (.int i9), .val (.ref b54), .val (.int (1 : Int32))] []))
                refine own_step (fun t k => XS.aload X64.here hx rfl (hb hby at_206) rfl rfl k) ?_
                show own_Fin p e below s Q 16 128 (T64.setTop (mkF m 208 #[.val (.int i0), .val (.int i1), .val (.int i2), .val (.int i3), .val (.int i4), .val (.int i5), .val (.int i6), .val (.int i7), .val (.int i8), .val (.int i9), .val (.ref b54), .val (.int (1 : Int32))] [(.ref b54)]))
                obtain ⟨_, _, ⟨T67, L67, k67, n67⟩, -, X67, ⟨Lc67, hQ67, l67, y67, z67⟩, st67⟩ := Jvm.LawKit.callS X64 hx (y := (⟨"com/example/endorse/endorse/ManifestSection", "canHold", "([B)Z"⟩ : MethodName)) hown (mvT hZ (hw _ (List.mem_of_getElem? (i := 6) rfl))) (mvT hZ (hw _ (List.mem_of_getElem? (i := 7) rfl))) (mvT hZ (hw _ (List.mem_of_getElem? (i := 8) rfl))) (mvT hZ (hw _ (List.mem_of_getElem? (i := 9) rfl))) (by decide) (backOf (W := 0) (rm2 l Z a0 hw [] b54 gf57 3 h57 n0 V57 (by decide)) hZ (hw _ (List.mem_of_getElem? (i := 9) rfl)) (hw _ (List.mem_of_getElem? (i := 8) rfl)) (by decide) (by decide)) (g := (mkF m 208 #[.val (.int i0), .val (.int i1), .val (.int i2), .val (.int i3), .val (.int i4), .val (.int i5), .val (.int i6), .val (.int i7), .val (.int i8), .val (.int i9), .val (.ref b54), .val (.int (1 : Int32))] [(.ref b54)])) rfl (by rw [hml]; rfl) (argsL := [(.ref b54)]) (rest := []) (lenOf pdm_2 rfl) rfl (by show 2 * 0 + _ ≤ _; exact Nat.le_of_eq rfl) (hb hby at_208) (fun _ _ => ⟨rfl, e64, (by show cells + 1 + 0 + 0 + 0 + 0 ≤ 16; omega), (by show slots + 3 + 0 + 0 + 0 + 0 ≤ 128; omega)⟩)
                dsimp only [Pt.U, Pt.locs, Pt.cells, Pt.slots] at X67 l67 y67 z67 st67 hQ67
                have yy67 : k67 = cells + 1 + 0 + 0 + 0 + 0 := y67
                have zz67 : n67 = slots + 3 + 0 + 0 + 0 + 0 := z67
                rw [yy67, zz67] at X67
                subst l67
                obtain ⟨rfl, N67q, e67⟩ := hQ67
                have N67 := Fr.app N64 N67q
                refine own_step st67 ?_
                show own_Fin p e below s Q 16 128 (T67.setTop (mkF m 211 #[.val (.int i0), .val (.int i1), .val (.int i2), .val (.int i3), .val (.int i4), .val (.int i5), .val (.int i6), .val (.int i7), .val (.int i8), .val (.int i9), .val (.ref b54), .val (.int (1 : Int32))] [(.int (f2_0 gf57 3))]))
                refine own_step (fun t k => XS.iload X67.here hx rfl (hb hby at_211) rfl  k) ?_
                show own_Fin p e below s Q 16 128 (T67.setTop (mkF m 213 #[.val (.int i0), .val (.int i1), .val (.int i2), .val (.int i3), .val (.int i4), .val (.int i5), .val (.int i6), .val (.int i7), .val (.int i8), .val (.int i9), .val (.ref b54), .val (.int (1 : Int32))] [(.int (1 : Int32)), (.int (f2_0 gf57 3))]))
                refine own_step (fun t k => XS.icmpNo X67.here hx rfl (hb hby at_213) rfl (teq (own_can1 _ _ (by decide) (fun j hj => by
      obtain rfl | rfl | rfl : j = 0 ∨ j = 1 ∨ j = 2 := by omega
      · rw [(by rw [hgf57, hgf56, hgf55]; exact hb6 : gf57 0 = i6)]; exact hB154_59
      · rw [(by rw [hgf57, hgf56, hgf55]; exact hb7 : gf57 1 = i7)]; exact hB168_62
      · rw [(by rw [hgf57, hgf56, hgf55]; exact hb8 : gf57 2 = i8)]; exact hB182_65))).2 k) ?_
                show own_Fin p e below s Q 16 128 (T67.setTop (mkF m 216 #[.val (.int i0), .val (.int i1), .val (.int i2), .val (.int i3), .val (.int i4), .val (.int i5), .val (.int i6), .val (.int i7), .val (.int i8), .val (.int i9), .val (.ref b54), .val (.int (1 : Int32))] []))
                refine own_step (fun t k => XS.iconst X67.here hx rfl (hb hby at_216) k) ?_
                show own_Fin p e below s Q 16 128 (T67.setTop (mkF m 217 #[.val (.int i0), .val (.int i1), .val (.int i2), .val (.int i3), .val (.int i4), .val (.int i5), .val (.int i6), .val (.int i7), .val (.int i8), .val (.int i9), .val (.ref b54), .val (.int (1 : Int32))] [(.int (1 : Int32))]))
                refine own_step (fun t k => XS.goto X67.here hx rfl (pc0 := 217) (pc' := 221) rfl (hb hby at_217) (by decide) (by decide) k) ?_
                show own_Fin p e below s Q 16 128 (T67.setTop (mkF m 221 #[.val (.int i0), .val (.int i1), .val (.int i2), .val (.int i3), .val (.int i4), .val (.int i5), .val (.int i6), .val (.int i7), .val (.int i8), .val (.int i9), .val (.ref b54), .val (.int (1 : Int32))] [(.int (1 : Int32))]))
                exact own_retN X67 hx hlk hret (by simp) (hb hby at_221) (by omega) (by omega) rfl N67 (fun L' n' => hQ _ L' n') (rfl)
        · refine own_step (fun t k => XS.icmpYes X.here hx rfl (pc0 := 92) (pc' := 118) rfl (hb hby at_92) rfl (feq hB92_53).2 (by decide) (by decide) k) ?_
          show own_Fin p e below s Q 16 128 (T.setTop (mkF m 118 #[.val (.int i0), .val (.int i1), .val (.int i2), .val (.int i3), .val (.int i4), .val (.int i5), .val (.int i6), .val (.int i7), .val (.int i8), .val (.int i9), .unset, .unset] []))
          refine own_step (fun t k => XS.iconst X.here hx rfl (hb hby at_118) k) ?_
          show own_Fin p e below s Q 16 128 (T.setTop (mkF m 119 #[.val (.int i0), .val (.int i1), .val (.int i2), .val (.int i3), .val (.int i4), .val (.int i5), .val (.int i6), .val (.int i7), .val (.int i8), .val (.int i9), .unset, .unset] [(.int (4 : Int32))]))
          obtain ⟨T68, h68, k68, X68, e68, E68, AA68, st68⟩ := newP X hx hZ (hw _ (List.mem_of_getElem? (i := 5) rfl)) eT (g := (mkF m 119 #[.val (.int i0), .val (.int i1), .val (.int i2), .val (.int i3), .val (.int i4), .val (.int i5), .val (.int i6), .val (.int i7), .val (.int i8), .val (.int i9), .unset, .unset] [(.int (4 : Int32))])) rfl (hb hby at_119) rfl (by decide) (cap := 4) (by decide) (by decide) (by show cells + 1 ≤ 16; omega) (by show slots + 4 ≤ 128; omega)
          obtain ⟨b68, gg68⟩ : ∃ z, z = h.size := ⟨_, rfl⟩
          rw [← gg68] at AA68 st68
          have V68 : own_AF Z h68 b68 .byte 4 (fun _ => 0) := own_AFnew AA68 (by decide)
          have fr68 : n0 ≤ b68 := Nat.le_trans Z0 (Nat.le_of_eq gg68.symm)
          have Z068 : n0 ≤ h68.size := Nat.le_trans Z0 E68.1
          refine own_step st68 ?_
          show own_Fin p e below s Q 16 128 (T68.setTop (mkF m 121 #[.val (.int i0), .val (.int i1), .val (.int i2), .val (.int i3), .val (.int i4), .val (.int i5), .val (.int i6), .val (.int i7), .val (.int i8), .val (.int i9), .unset, .unset] [(.ref b68)]))
          refine own_step (fun t k => XS.dup X68.here hx rfl (hb hby at_121) rfl rfl k) ?_
          show own_Fin p e below s Q 16 128 (T68.setTop (mkF m 122 #[.val (.int i0), .val (.int i1), .val (.int i2), .val (.int i3), .val (.int i4), .val (.int i5), .val (.int i6), .val (.int i7), .val (.int i8), .val (.int i9), .unset, .unset] [(.ref b68), (.ref b68)]))
          refine own_step (fun t k => XS.iconst X68.here hx rfl (hb hby at_122) k) ?_
          show own_Fin p e below s Q 16 128 (T68.setTop (mkF m 123 #[.val (.int i0), .val (.int i1), .val (.int i2), .val (.int i3), .val (.int i4), .val (.int i5), .val (.int i6), .val (.int i7), .val (.int i8), .val (.int i9), .unset, .unset] [(.int (0 : Int32)), (.ref b68), (.ref b68)]))
          refine own_step (fun t k => XS.iload X68.here hx rfl (hb hby at_123) rfl  k) ?_
          show own_Fin p e below s Q 16 128 (T68.setTop (mkF m 125 #[.val (.int i0), .val (.int i1), .val (.int i2), .val (.int i3), .val (.int i4), .val (.int i5), .val (.int i6), .val (.int i7), .val (.int i8), .val (.int i9), .unset, .unset] [(.int i6), (.int (0 : Int32)), (.ref b68), (.ref b68)]))
          obtain ⟨ca69, Ar69, Sz69, Ht69⟩ := id V68
          have hin69 : ¬ ((0 : Int32) < 0 ∨ ca69.slots.size ≤ ((0 : Int32)).toNatClampNeg) := by rw [Sz69]; exact (by decide)
          obtain ⟨T69, h69, X69, e69, W69, st69⟩ := stB X68 hx hZ e68 Ar69 (j := (0 : Int32)) hin69 (g := (mkF m 125 #[.val (.int i0), .val (.int i1), .val (.int i2), .val (.int i3), .val (.int i4), .val (.int i5), .val (.int i6), .val (.int i7), .val (.int i8), .val (.int i9), .unset, .unset] [(.int i6), (.int (0 : Int32)), (.ref b68), (.ref b68)])) rfl rfl (hb hby at_125)
          have V69 : own_AF Z h69 b68 .byte 4 (fun i => if i = 0 then (nar .byte i6) else (fun _ => 0) i) := own_AFset Ar69 Sz69 Ht69 W69
          obtain ⟨gf69, hgf69⟩ : ∃ g' : Nat → Int32, g' = (fun i => if i = 0 then (nar .byte i6) else (fun _ => 0) i) := ⟨_, rfl⟩
          rw [← hgf69] at V69
          have N69 := Fr.snoc X69 N fr68
          have Z069 : n0 ≤ h69.size := Nat.le_trans Z068 (Nat.le_of_eq W69.size.symm)
          refine own_step st69 ?_
          show own_Fin p e below s Q 16 128 (T69.setTop (mkF m 126 #[.val (.int i0), .val (.int i1), .val (.int i2), .val (.int i3), .val (.int i4), .val (.int i5), .val (.int i6), .val (.int i7), .val (.int i8), .val (.int i9), .unset, .unset] [(.ref b68)]))
          refine own_step (fun t k => XS.dup X69.here hx rfl (hb hby at_126) rfl rfl k) ?_
          show own_Fin p e below s Q 16 128 (T69.setTop (mkF m 127 #[.val (.int i0), .val (.int i1), .val (.int i2), .val (.int i3), .val (.int i4), .val (.int i5), .val (.int i6), .val (.int i7), .val (.int i8), .val (.int i9), .unset, .unset] [(.ref b68), (.ref b68)]))
          refine own_step (fun t k => XS.iconst X69.here hx rfl (hb hby at_127) k) ?_
          show own_Fin p e below s Q 16 128 (T69.setTop (mkF m 128 #[.val (.int i0), .val (.int i1), .val (.int i2), .val (.int i3), .val (.int i4), .val (.int i5), .val (.int i6), .val (.int i7), .val (.int i8), .val (.int i9), .unset, .unset] [(.int (1 : Int32)), (.ref b68), (.ref b68)]))
          refine own_step (fun t k => XS.iload X69.here hx rfl (hb hby at_128) rfl  k) ?_
          show own_Fin p e below s Q 16 128 (T69.setTop (mkF m 130 #[.val (.int i0), .val (.int i1), .val (.int i2), .val (.int i3), .val (.int i4), .val (.int i5), .val (.int i6), .val (.int i7), .val (.int i8), .val (.int i9), .unset, .unset] [(.int i7), (.int (1 : Int32)), (.ref b68), (.ref b68)]))
          obtain ⟨ca70, Ar70, Sz70, Ht70⟩ := id V69
          have hin70 : ¬ ((1 : Int32) < 0 ∨ ca70.slots.size ≤ ((1 : Int32)).toNatClampNeg) := by rw [Sz70]; exact (by decide)
          obtain ⟨T70, h70, X70, e70, W70, st70⟩ := stB X69 hx hZ e69 Ar70 (j := (1 : Int32)) hin70 (g := (mkF m 130 #[.val (.int i0), .val (.int i1), .val (.int i2), .val (.int i3), .val (.int i4), .val (.int i5), .val (.int i6), .val (.int i7), .val (.int i8), .val (.int i9), .unset, .unset] [(.int i7), (.int (1 : Int32)), (.ref b68), (.ref b68)])) rfl rfl (hb hby at_130)
          have V70 : own_AF Z h70 b68 .byte 4 (fun i => if i = 1 then (nar .byte i7) else gf69 i) := own_AFset Ar70 Sz70 Ht70 W70
          obtain ⟨gf70, hgf70⟩ : ∃ g' : Nat → Int32, g' = (fun i => if i = 1 then (nar .byte i7) else gf69 i) := ⟨_, rfl⟩
          rw [← hgf70] at V70
          have N70 := Fr.snoc X70 N69 fr68
          have Z070 : n0 ≤ h70.size := Nat.le_trans Z069 (Nat.le_of_eq W70.size.symm)
          refine own_step st70 ?_
          show own_Fin p e below s Q 16 128 (T70.setTop (mkF m 131 #[.val (.int i0), .val (.int i1), .val (.int i2), .val (.int i3), .val (.int i4), .val (.int i5), .val (.int i6), .val (.int i7), .val (.int i8), .val (.int i9), .unset, .unset] [(.ref b68)]))
          refine own_step (fun t k => XS.dup X70.here hx rfl (hb hby at_131) rfl rfl k) ?_
          show own_Fin p e below s Q 16 128 (T70.setTop (mkF m 132 #[.val (.int i0), .val (.int i1), .val (.int i2), .val (.int i3), .val (.int i4), .val (.int i5), .val (.int i6), .val (.int i7), .val (.int i8), .val (.int i9), .unset, .unset] [(.ref b68), (.ref b68)]))
          refine own_step (fun t k => XS.iconst X70.here hx rfl (hb hby at_132) k) ?_
          show own_Fin p e below s Q 16 128 (T70.setTop (mkF m 133 #[.val (.int i0), .val (.int i1), .val (.int i2), .val (.int i3), .val (.int i4), .val (.int i5), .val (.int i6), .val (.int i7), .val (.int i8), .val (.int i9), .unset, .unset] [(.int (2 : Int32)), (.ref b68), (.ref b68)]))
          refine own_step (fun t k => XS.iload X70.here hx rfl (hb hby at_133) rfl  k) ?_
          show own_Fin p e below s Q 16 128 (T70.setTop (mkF m 135 #[.val (.int i0), .val (.int i1), .val (.int i2), .val (.int i3), .val (.int i4), .val (.int i5), .val (.int i6), .val (.int i7), .val (.int i8), .val (.int i9), .unset, .unset] [(.int i8), (.int (2 : Int32)), (.ref b68), (.ref b68)]))
          obtain ⟨ca71, Ar71, Sz71, Ht71⟩ := id V70
          have hin71 : ¬ ((2 : Int32) < 0 ∨ ca71.slots.size ≤ ((2 : Int32)).toNatClampNeg) := by rw [Sz71]; exact (by decide)
          obtain ⟨T71, h71, X71, e71, W71, st71⟩ := stB X70 hx hZ e70 Ar71 (j := (2 : Int32)) hin71 (g := (mkF m 135 #[.val (.int i0), .val (.int i1), .val (.int i2), .val (.int i3), .val (.int i4), .val (.int i5), .val (.int i6), .val (.int i7), .val (.int i8), .val (.int i9), .unset, .unset] [(.int i8), (.int (2 : Int32)), (.ref b68), (.ref b68)])) rfl rfl (hb hby at_135)
          have V71 : own_AF Z h71 b68 .byte 4 (fun i => if i = 2 then (nar .byte i8) else gf70 i) := own_AFset Ar71 Sz71 Ht71 W71
          obtain ⟨gf71, hgf71⟩ : ∃ g' : Nat → Int32, g' = (fun i => if i = 2 then (nar .byte i8) else gf70 i) := ⟨_, rfl⟩
          rw [← hgf71] at V71
          have N71 := Fr.snoc X71 N70 fr68
          have Z071 : n0 ≤ h71.size := Nat.le_trans Z070 (Nat.le_of_eq W71.size.symm)
          refine own_step st71 ?_
          show own_Fin p e below s Q 16 128 (T71.setTop (mkF m 136 #[.val (.int i0), .val (.int i1), .val (.int i2), .val (.int i3), .val (.int i4), .val (.int i5), .val (.int i6), .val (.int i7), .val (.int i8), .val (.int i9), .unset, .unset] [(.ref b68)]))
          refine own_step (fun t k => XS.dup X71.here hx rfl (hb hby at_136) rfl rfl k) ?_
          show own_Fin p e below s Q 16 128 (T71.setTop (mkF m 137 #[.val (.int i0), .val (.int i1), .val (.int i2), .val (.int i3), .val (.int i4), .val (.int i5), .val (.int i6), .val (.int i7), .val (.int i8), .val (.int i9), .unset, .unset] [(.ref b68), (.ref b68)]))
          refine own_step (fun t k => XS.iconst X71.here hx rfl (hb hby at_137) k) ?_
          show own_Fin p e below s Q 16 128 (T71.setTop (mkF m 138 #[.val (.int i0), .val (.int i1), .val (.int i2), .val (.int i3), .val (.int i4), .val (.int i5), .val (.int i6), .val (.int i7), .val (.int i8), .val (.int i9), .unset, .unset] [(.int (3 : Int32)), (.ref b68), (.ref b68)]))
          refine own_step (fun t k => XS.iload X71.here hx rfl (hb hby at_138) rfl  k) ?_
          show own_Fin p e below s Q 16 128 (T71.setTop (mkF m 140 #[.val (.int i0), .val (.int i1), .val (.int i2), .val (.int i3), .val (.int i4), .val (.int i5), .val (.int i6), .val (.int i7), .val (.int i8), .val (.int i9), .unset, .unset] [(.int i9), (.int (3 : Int32)), (.ref b68), (.ref b68)]))
          obtain ⟨ca72, Ar72, Sz72, Ht72⟩ := id V71
          have hin72 : ¬ ((3 : Int32) < 0 ∨ ca72.slots.size ≤ ((3 : Int32)).toNatClampNeg) := by rw [Sz72]; exact (by decide)
          obtain ⟨T72, h72, X72, e72, W72, st72⟩ := stB X71 hx hZ e71 Ar72 (j := (3 : Int32)) hin72 (g := (mkF m 140 #[.val (.int i0), .val (.int i1), .val (.int i2), .val (.int i3), .val (.int i4), .val (.int i5), .val (.int i6), .val (.int i7), .val (.int i8), .val (.int i9), .unset, .unset] [(.int i9), (.int (3 : Int32)), (.ref b68), (.ref b68)])) rfl rfl (hb hby at_140)
          have V72 : own_AF Z h72 b68 .byte 4 (fun i => if i = 3 then (nar .byte i9) else gf71 i) := own_AFset Ar72 Sz72 Ht72 W72
          obtain ⟨gf72, hgf72⟩ : ∃ g' : Nat → Int32, g' = (fun i => if i = 3 then (nar .byte i9) else gf71 i) := ⟨_, rfl⟩
          rw [← hgf72] at V72
          have N72 := Fr.snoc X72 N71 fr68
          have Z072 : n0 ≤ h72.size := Nat.le_trans Z071 (Nat.le_of_eq W72.size.symm)
          refine own_step st72 ?_
          show own_Fin p e below s Q 16 128 (T72.setTop (mkF m 141 #[.val (.int i0), .val (.int i1), .val (.int i2), .val (.int i3), .val (.int i4), .val (.int i5), .val (.int i6), .val (.int i7), .val (.int i8), .val (.int i9), .unset, .unset] [(.ref b68)]))
          refine own_step (fun t k => XS.astore X72.here hx rfl (hb hby at_141) rfl rfl (l' := #[.val (.int i0), .val (.int i1), .val (.int i2), .val (.int i3), .val (.int i4), .val (.int i5), .val (.int i6), .val (.int i7), .val (.int i8), .val (.int i9), .val (.ref b68), .unset]) rfl k) ?_
          show own_Fin p e below s Q 16 128 (T72.setTop (mkF m 143 #[.val (.int i0), .val (.int i1), .val (.int i2), .val (.int i3), .val (.int i4), .val (.int i5), .val (.int i6), .val (.int i7), .val (.int i8), .val (.int i9), .val (.ref b68), .unset] []))
          refine own_step (fun t k => XS.iload X72.here hx rfl (hb hby at_143) rfl  k) ?_
          show own_Fin p e below s Q 16 128 (T72.setTop (mkF m 145 #[.val (.int i0), .val (.int i1), .val (.int i2), .val (.int i3), .val (.int i4), .val (.int i5), .val (.int i6), .val (.int i7), .val (.int i8), .val (.int i9), .val (.ref b68), .unset] [(.int i5)]))
          refine own_step (fun t k => XS.iconst X72.here hx rfl (hb hby at_145) k) ?_
          show own_Fin p e below s Q 16 128 (T72.setTop (mkF m 146 #[.val (.int i0), .val (.int i1), .val (.int i2), .val (.int i3), .val (.int i4), .val (.int i5), .val (.int i6), .val (.int i7), .val (.int i8), .val (.int i9), .val (.ref b68), .unset] [(.int (1 : Int32)), (.int i5)]))
          refine own_step (fun t k => XS.icmpNo X72.here hx rfl (hb hby at_146) rfl (flt (by rw [(own_n4 hn hB35_32 hB49_35 hB68_42 hB92_53)]; decide : ¬ (i5 < (1 : Int32)))).1 k) ?_
          show own_Fin p e below s Q 16 128 (T72.setTop (mkF m 149 #[.val (.int i0), .val (.int i1), .val (.int i2), .val (.int i3), .val (.int i4), .val (.int i5), .val (.int i6), .val (.int i7), .val (.int i8), .val (.int i9), .val (.ref b68), .unset] []))
          refine own_step (fun t k => XS.iload X72.here hx rfl (hb hby at_149) rfl  k) ?_
          show own_Fin p e below s Q 16 128 (T72.setTop (mkF m 151 #[.val (.int i0), .val (.int i1), .val (.int i2), .val (.int i3), .val (.int i4), .val (.int i5), .val (.int i6), .val (.int i7), .val (.int i8), .val (.int i9), .val (.ref b68), .unset] [(.int i6)]))
          obtain ⟨_, _, ⟨T73, L73, k73, n73⟩, -, X73, ⟨Lc73, hQ73, l73, y73, z73⟩, st73⟩ := Jvm.LawKit.callS X72 hx (y := (⟨"com/example/endorse/endorse/ManifestSectionCanHoldPinLaw", "ok", "(B)Z"⟩ : MethodName)) hown (mvT hZ (hw _ (List.mem_of_getElem? (i := 10) rfl))) (mvT hZ (hw _ (List.mem_of_getElem? (i := 11) rfl))) (mvT hZ (hw _ (List.mem_of_getElem? (i := 3) rfl))) (mvT hZ (hw _ (List.mem_of_getElem? (i := 12) rfl))) (by decide) (backOf (W := 0) (rm3 l Z a0 hw [] i6 h72 n0) hZ (hw _ (List.mem_of_getElem? (i := 12) rfl)) (hw _ (List.mem_of_getElem? (i := 3) rfl)) (by decide) (by decide)) (g := (mkF m 151 #[.val (.int i0), .val (.int i1), .val (.int i2), .val (.int i3), .val (.int i4), .val (.int i5), .val (.int i6), .val (.int i7), .val (.int i8), .val (.int i9), .val (.ref b68), .unset] [(.int i6)])) rfl (by rw [hml]; rfl) (argsL := [(.int i6)]) (rest := []) (lenOf pdm_1 rfl) rfl (by show 2 * 0 + _ ≤ _; exact Nat.le_of_eq rfl) (hb hby at_151) (fun _ _ => ⟨rfl, e72, (by show cells + 1 + 0 ≤ 16; omega), (by show slots + 4 + 0 ≤ 128; omega)⟩)
          dsimp only [Pt.U, Pt.locs, Pt.cells, Pt.slots] at X73 l73 y73 z73 st73 hQ73
          have yy73 : k73 = cells + 1 + 0 := y73
          have zz73 : n73 = slots + 4 + 0 := z73
          rw [yy73, zz73] at X73
          subst l73
          obtain ⟨rfl, N73q, e73⟩ := hQ73
          have N73 := Fr.app N72 N73q
          refine own_step st73 ?_
          show own_Fin p e below s Q 16 128 (T73.setTop (mkF m 154 #[.val (.int i0), .val (.int i1), .val (.int i2), .val (.int i3), .val (.int i4), .val (.int i5), .val (.int i6), .val (.int i7), .val (.int i8), .val (.int i9), .val (.ref b68), .unset] [(.int (f3_0 i6))]))
          by_cases hB154_74 : (f3_0 i6) = (0 : Int32)
          · refine own_step (fun t k => XS.ifYes X73.here hx rfl (pc0 := 154) (pc' := 203) rfl (hb hby at_154) rfl ((if0 _ _).trans (teq hB154_74).1) (by decide) (by decide) k) ?_
            show own_Fin p e below s Q 16 128 (T73.setTop (mkF m 203 #[.val (.int i0), .val (.int i1), .val (.int i2), .val (.int i3), .val (.int i4), .val (.int i5), .val (.int i6), .val (.int i7), .val (.int i8), .val (.int i9), .val (.ref b68), .unset] []))
            refine own_step (fun t k => XS.iconst X73.here hx rfl (hb hby at_203) k) ?_
            show own_Fin p e below s Q 16 128 (T73.setTop (mkF m 204 #[.val (.int i0), .val (.int i1), .val (.int i2), .val (.int i3), .val (.int i4), .val (.int i5), .val (.int i6), .val (.int i7), .val (.int i8), .val (.int i9), .val (.ref b68), .unset] [(.int (0 : Int32))]))
            refine own_step (fun t k => XS.istore X73.here hx rfl (hb hby at_204) rfl (l' := #[.val (.int i0), .val (.int i1), .val (.int i2), .val (.int i3), .val (.int i4), .val (.int i5), .val (.int i6), .val (.int i7), .val (.int i8), .val (.int i9), .val (.ref b68), .val (.int (0 : Int32))]) rfl k) ?_
            show own_Fin p e below s Q 16 128 (T73.setTop (mkF m 206 #[.val (.int i0), .val (.int i1), .val (.int i2), .val (.int i3), .val (.int i4), .val (.int i5), .val (.int i6), .val (.int i7), .val (.int i8), .val (.int i9), .val (.ref b68), .val (.int (0 : Int32))] []))
            refine own_step (fun t k => XS.aload X73.here hx rfl (hb hby at_206) rfl rfl k) ?_
            show own_Fin p e below s Q 16 128 (T73.setTop (mkF m 208 #[.val (.int i0), .val (.int i1), .val (.int i2), .val (.int i3), .val (.int i4), .val (.int i5), .val (.int i6), .val (.int i7), .val (.int i8), .val (.int i9), .val (.ref b68), .val (.int (0 : Int32))] [(.ref b68)]))
            obtain ⟨_, _, ⟨T75, L75, k75, n75⟩, -, X75, ⟨Lc75, hQ75, l75, y75, z75⟩, st75⟩ := Jvm.LawKit.callS X73 hx (y := (⟨"com/example/endorse/endorse/ManifestSection", "canHold", "([B)Z"⟩ : MethodName)) hown (mvT hZ (hw _ (List.mem_of_getElem? (i := 6) rfl))) (mvT hZ (hw _ (List.mem_of_getElem? (i := 7) rfl))) (mvT hZ (hw _ (List.mem_of_getElem? (i := 8) rfl))) (mvT hZ (hw _ (List.mem_of_getElem? (i := 9) rfl))) (by decide) (backOf (W := 0) (rm2 l Z a0 hw [] b68 gf72 4 h72 n0 V72 (by decide)) hZ (hw _ (List.mem_of_getElem? (i := 9) rfl)) (hw _ (List.mem_of_getElem? (i := 8) rfl)) (by decide) (by decide)) (g := (mkF m 208 #[.val (.int i0), .val (.int i1), .val (.int i2), .val (.int i3), .val (.int i4), .val (.int i5), .val (.int i6), .val (.int i7), .val (.int i8), .val (.int i9), .val (.ref b68), .val (.int (0 : Int32))] [(.ref b68)])) rfl (by rw [hml]; rfl) (argsL := [(.ref b68)]) (rest := []) (lenOf pdm_2 rfl) rfl (by show 2 * 0 + _ ≤ _; exact Nat.le_of_eq rfl) (hb hby at_208) (fun _ _ => ⟨rfl, e73, (by show cells + 1 + 0 + 0 ≤ 16; omega), (by show slots + 4 + 0 + 0 ≤ 128; omega)⟩)
            dsimp only [Pt.U, Pt.locs, Pt.cells, Pt.slots] at X75 l75 y75 z75 st75 hQ75
            have yy75 : k75 = cells + 1 + 0 + 0 := y75
            have zz75 : n75 = slots + 4 + 0 + 0 := z75
            rw [yy75, zz75] at X75
            subst l75
            obtain ⟨rfl, N75q, e75⟩ := hQ75
            have N75 := Fr.app N73 N75q
            refine own_step st75 ?_
            show own_Fin p e below s Q 16 128 (T75.setTop (mkF m 211 #[.val (.int i0), .val (.int i1), .val (.int i2), .val (.int i3), .val (.int i4), .val (.int i5), .val (.int i6), .val (.int i7), .val (.int i8), .val (.int i9), .val (.ref b68), .val (.int (0 : Int32))] [(.int (f2_0 gf72 4))]))
            refine own_step (fun t k => XS.iload X75.here hx rfl (hb hby at_211) rfl  k) ?_
            show own_Fin p e below s Q 16 128 (T75.setTop (mkF m 213 #[.val (.int i0), .val (.int i1), .val (.int i2), .val (.int i3), .val (.int i4), .val (.int i5), .val (.int i6), .val (.int i7), .val (.int i8), .val (.int i9), .val (.ref b68), .val (.int (0 : Int32))] [(.int (0 : Int32)), (.int (f2_0 gf72 4))]))
            refine own_step (fun t k => XS.icmpNo X75.here hx rfl (hb hby at_213) rfl (teq (own_can0 _ _ (by decide) 0 (by decide) (by rw [(by rw [hgf72, hgf71, hgf70, hgf69]; exact hb6 : gf72 0 = i6)]; exact hB154_74))).2 k) ?_
            show own_Fin p e below s Q 16 128 (T75.setTop (mkF m 216 #[.val (.int i0), .val (.int i1), .val (.int i2), .val (.int i3), .val (.int i4), .val (.int i5), .val (.int i6), .val (.int i7), .val (.int i8), .val (.int i9), .val (.ref b68), .val (.int (0 : Int32))] []))
            refine own_step (fun t k => XS.iconst X75.here hx rfl (hb hby at_216) k) ?_
            show own_Fin p e below s Q 16 128 (T75.setTop (mkF m 217 #[.val (.int i0), .val (.int i1), .val (.int i2), .val (.int i3), .val (.int i4), .val (.int i5), .val (.int i6), .val (.int i7), .val (.int i8), .val (.int i9), .val (.ref b68), .val (.int (0 : Int32))] [(.int (1 : Int32))]))
            refine own_step (fun t k => XS.goto X75.here hx rfl (pc0 := 217) (pc' := 221) rfl (hb hby at_217) (by decide) (by decide) k) ?_
            show own_Fin p e below s Q 16 128 (T75.setTop (mkF m 221 #[.val (.int i0), .val (.int i1), .val (.int i2), .val (.int i3), .val (.int i4), .val (.int i5), .val (.int i6), .val (.int i7), .val (.int i8), .val (.int i9), .val (.ref b68), .val (.int (0 : Int32))] [(.int (1 : Int32))]))
            exact own_retN X75 hx hlk hret (by simp) (hb hby at_221) (by omega) (by omega) rfl N75 (fun L' n' => hQ _ L' n') (rfl)
          · refine own_step (fun t k => XS.ifNo X73.here hx rfl (hb hby at_154) rfl ((if0 _ _).trans (feq hB154_74).1) k) ?_
            show own_Fin p e below s Q 16 128 (T73.setTop (mkF m 157 #[.val (.int i0), .val (.int i1), .val (.int i2), .val (.int i3), .val (.int i4), .val (.int i5), .val (.int i6), .val (.int i7), .val (.int i8), .val (.int i9), .val (.ref b68), .unset] []))
            refine own_step (fun t k => XS.iload X73.here hx rfl (hb hby at_157) rfl  k) ?_
            show own_Fin p e below s Q 16 128 (T73.setTop (mkF m 159 #[.val (.int i0), .val (.int i1), .val (.int i2), .val (.int i3), .val (.int i4), .val (.int i5), .val (.int i6), .val (.int i7), .val (.int i8), .val (.int i9), .val (.ref b68), .unset] [(.int i5)]))
            refine own_step (fun t k => XS.iconst X73.here hx rfl (hb hby at_159) k) ?_
            show own_Fin p e below s Q 16 128 (T73.setTop (mkF m 160 #[.val (.int i0), .val (.int i1), .val (.int i2), .val (.int i3), .val (.int i4), .val (.int i5), .val (.int i6), .val (.int i7), .val (.int i8), .val (.int i9), .val (.ref b68), .unset] [(.int (2 : Int32)), (.int i5)]))
            refine own_step (fun t k => XS.icmpNo X73.here hx rfl (hb hby at_160) rfl (flt (by rw [(own_n4 hn hB35_32 hB49_35 hB68_42 hB92_53)]; decide : ¬ (i5 < (2 : Int32)))).1 k) ?_
            show own_Fin p e below s Q 16 128 (T73.setTop (mkF m 163 #[.val (.int i0), .val (.int i1), .val (.int i2), .val (.int i3), .val (.int i4), .val (.int i5), .val (.int i6), .val (.int i7), .val (.int i8), .val (.int i9), .val (.ref b68), .unset] []))
            refine own_step (fun t k => XS.iload X73.here hx rfl (hb hby at_163) rfl  k) ?_
            show own_Fin p e below s Q 16 128 (T73.setTop (mkF m 165 #[.val (.int i0), .val (.int i1), .val (.int i2), .val (.int i3), .val (.int i4), .val (.int i5), .val (.int i6), .val (.int i7), .val (.int i8), .val (.int i9), .val (.ref b68), .unset] [(.int i7)]))
            obtain ⟨_, _, ⟨T76, L76, k76, n76⟩, -, X76, ⟨Lc76, hQ76, l76, y76, z76⟩, st76⟩ := Jvm.LawKit.callS X73 hx (y := (⟨"com/example/endorse/endorse/ManifestSectionCanHoldPinLaw", "ok", "(B)Z"⟩ : MethodName)) hown (mvT hZ (hw _ (List.mem_of_getElem? (i := 10) rfl))) (mvT hZ (hw _ (List.mem_of_getElem? (i := 11) rfl))) (mvT hZ (hw _ (List.mem_of_getElem? (i := 3) rfl))) (mvT hZ (hw _ (List.mem_of_getElem? (i := 12) rfl))) (by decide) (backOf (W := 0) (rm3 l Z a0 hw [] i7 h72 n0) hZ (hw _ (List.mem_of_getElem? (i := 12) rfl)) (hw _ (List.mem_of_getElem? (i := 3) rfl)) (by decide) (by decide)) (g := (mkF m 165 #[.val (.int i0), .val (.int i1), .val (.int i2), .val (.int i3), .val (.int i4), .val (.int i5), .val (.int i6), .val (.int i7), .val (.int i8), .val (.int i9), .val (.ref b68), .unset] [(.int i7)])) rfl (by rw [hml]; rfl) (argsL := [(.int i7)]) (rest := []) (lenOf pdm_1 rfl) rfl (by show 2 * 0 + _ ≤ _; exact Nat.le_of_eq rfl) (hb hby at_165) (fun _ _ => ⟨rfl, e73, (by show cells + 1 + 0 + 0 ≤ 16; omega), (by show slots + 4 + 0 + 0 ≤ 128; omega)⟩)
            dsimp only [Pt.U, Pt.locs, Pt.cells, Pt.slots] at X76 l76 y76 z76 st76 hQ76
            have yy76 : k76 = cells + 1 + 0 + 0 := y76
            have zz76 : n76 = slots + 4 + 0 + 0 := z76
            rw [yy76, zz76] at X76
            subst l76
            obtain ⟨rfl, N76q, e76⟩ := hQ76
            have N76 := Fr.app N73 N76q
            refine own_step st76 ?_
            show own_Fin p e below s Q 16 128 (T76.setTop (mkF m 168 #[.val (.int i0), .val (.int i1), .val (.int i2), .val (.int i3), .val (.int i4), .val (.int i5), .val (.int i6), .val (.int i7), .val (.int i8), .val (.int i9), .val (.ref b68), .unset] [(.int (f3_0 i7))]))
            by_cases hB168_77 : (f3_0 i7) = (0 : Int32)
            · refine own_step (fun t k => XS.ifYes X76.here hx rfl (pc0 := 168) (pc' := 203) rfl (hb hby at_168) rfl ((if0 _ _).trans (teq hB168_77).1) (by decide) (by decide) k) ?_
              show own_Fin p e below s Q 16 128 (T76.setTop (mkF m 203 #[.val (.int i0), .val (.int i1), .val (.int i2), .val (.int i3), .val (.int i4), .val (.int i5), .val (.int i6), .val (.int i7), .val (.int i8), .val (.int i9), .val (.ref b68), .unset] []))
              refine own_step (fun t k => XS.iconst X76.here hx rfl (hb hby at_203) k) ?_
              show own_Fin p e below s Q 16 128 (T76.setTop (mkF m 204 #[.val (.int i0), .val (.int i1), .val (.int i2), .val (.int i3), .val (.int i4), .val (.int i5), .val (.int i6), .val (.int i7), .val (.int i8), .val (.int i9), .val (.ref b68), .unset] [(.int (0 : Int32))]))
              refine own_step (fun t k => XS.istore X76.here hx rfl (hb hby at_204) rfl (l' := #[.val (.int i0), .val (.int i1), .val (.int i2), .val (.int i3), .val (.int i4), .val (.int i5), .val (.int i6), .val (.int i7), .val (.int i8), .val (.int i9), .val (.ref b68), .val (.int (0 : Int32))]) rfl k) ?_
              show own_Fin p e below s Q 16 128 (T76.setTop (mkF m 206 #[.val (.int i0), .val (.int i1), .val (.int i2), .val (.int i3), .val (.int i4), .val (.int i5), .val (.int i6), .val (.int i7), .val (.int i8), .val (.int i9), .val (.ref b68), .val (.int (0 : Int32))] []))
              refine own_step (fun t k => XS.aload X76.here hx rfl (hb hby at_206) rfl rfl k) ?_
              show own_Fin p e below s Q 16 128 (T76.setTop (mkF m 208 #[.val (.int i0), .val (.int i1), .val (.int i2), .val (.int i3), .val (.int i4), .val (.int i5), .val (.int i6), .val (.int i7), .val (.int i8), .val (.int i9), .val (.ref b68), .val (.int (0 : Int32))] [(.ref b68)]))
              obtain ⟨_, _, ⟨T78, L78, k78, n78⟩, -, X78, ⟨Lc78, hQ78, l78, y78, z78⟩, st78⟩ := Jvm.LawKit.callS X76 hx (y := (⟨"com/example/endorse/endorse/ManifestSection", "canHold", "([B)Z"⟩ : MethodName)) hown (mvT hZ (hw _ (List.mem_of_getElem? (i := 6) rfl))) (mvT hZ (hw _ (List.mem_of_getElem? (i := 7) rfl))) (mvT hZ (hw _ (List.mem_of_getElem? (i := 8) rfl))) (mvT hZ (hw _ (List.mem_of_getElem? (i := 9) rfl))) (by decide) (backOf (W := 0) (rm2 l Z a0 hw [] b68 gf72 4 h72 n0 V72 (by decide)) hZ (hw _ (List.mem_of_getElem? (i := 9) rfl)) (hw _ (List.mem_of_getElem? (i := 8) rfl)) (by decide) (by decide)) (g := (mkF m 208 #[.val (.int i0), .val (.int i1), .val (.int i2), .val (.int i3), .val (.int i4), .val (.int i5), .val (.int i6), .val (.int i7), .val (.int i8), .val (.int i9), .val (.ref b68), .val (.int (0 : Int32))] [(.ref b68)])) rfl (by rw [hml]; rfl) (argsL := [(.ref b68)]) (rest := []) (lenOf pdm_2 rfl) rfl (by show 2 * 0 + _ ≤ _; exact Nat.le_of_eq rfl) (hb hby at_208) (fun _ _ => ⟨rfl, e76, (by show cells + 1 + 0 + 0 + 0 ≤ 16; omega), (by show slots + 4 + 0 + 0 + 0 ≤ 128; omega)⟩)
              dsimp only [Pt.U, Pt.locs, Pt.cells, Pt.slots] at X78 l78 y78 z78 st78 hQ78
              have yy78 : k78 = cells + 1 + 0 + 0 + 0 := y78
              have zz78 : n78 = slots + 4 + 0 + 0 + 0 := z78
              rw [yy78, zz78] at X78
              subst l78
              obtain ⟨rfl, N78q, e78⟩ := hQ78
              have N78 := Fr.app N76 N78q
              refine own_step st78 ?_
              show own_Fin p e below s Q 16 128 (T78.setTop (mkF m 211 #[.val (.int i0), .val (.int i1), .val (.int i2), .val (.int i3), .val (.int i4), .val (.int i5), .val (.int i6), .val (.int i7), .val (.int i8), .val (.int i9), .val (.ref b68), .val (.int (0 : Int32))] [(.int (f2_0 gf72 4))]))
              refine own_step (fun t k => XS.iload X78.here hx rfl (hb hby at_211) rfl  k) ?_
              show own_Fin p e below s Q 16 128 (T78.setTop (mkF m 213 #[.val (.int i0), .val (.int i1), .val (.int i2), .val (.int i3), .val (.int i4), .val (.int i5), .val (.int i6), .val (.int i7), .val (.int i8), .val (.int i9), .val (.ref b68), .val (.int (0 : Int32))] [(.int (0 : Int32)), (.int (f2_0 gf72 4))]))
              refine own_step (fun t k => XS.icmpNo X78.here hx rfl (hb hby at_213) rfl (teq (own_can0 _ _ (by decide) 1 (by decide) (by rw [(by rw [hgf72, hgf71, hgf70, hgf69]; exact hb7 : gf72 1 = i7)]; exact hB168_77))).2 k) ?_
              show own_Fin p e below s Q 16 128 (T78.setTop (mkF m 216 #[.val (.int i0), .val (.int i1), .val (.int i2), .val (.int i3), .val (.int i4), .val (.int i5), .val (.int i6), .val (.int i7), .val (.int i8), .val (.int i9), .val (.ref b68), .val (.int (0 : Int32))] []))
              refine own_step (fun t k => XS.iconst X78.here hx rfl (hb hby at_216) k) ?_
              show own_Fin p e below s Q 16 128 (T78.setTop (mkF m 217 #[.val (.int i0), .val (.int i1), .val (.int i2), .val (.int i3), .val (.int i4), .val (.int i5), .val (.int i6), .val (.int i7), .val (.int i8), .val (.int i9), .val (.ref b68), .val (.int (0 : Int32))] [(.int (1 : Int32))]))
              refine own_step (fun t k => XS.goto X78.here hx rfl (pc0 := 217) (pc' := 221) rfl (hb hby at_217) (by decide) (by decide) k) ?_
              show own_Fin p e below s Q 16 128 (T78.setTop (mkF m 221 #[.val (.int i0), .val (.int i1), .val (.int i2), .val (.int i3), .val (.int i4), .val (.int i5), .val (.int i6), .val (.int i7), .val (.int i8), .val (.int i9), .val (.ref b68), .val (.int (0 : Int32))] [(.int (1 : Int32))]))
              exact own_retN X78 hx hlk hret (by simp) (hb hby at_221) (by omega) (by omega) rfl N78 (fun L' n' => hQ _ L' n') (rfl)
            · refine own_step (fun t k => XS.ifNo X76.here hx rfl (hb hby at_168) rfl ((if0 _ _).trans (feq hB168_77).1) k) ?_
              show own_Fin p e below s Q 16 128 (T76.setTop (mkF m 171 #[.val (.int i0), .val (.int i1), .val (.int i2), .val (.int i3), .val (.int i4), .val (.int i5), .val (.int i6), .val (.int i7), .val (.int i8), .val (.int i9), .val (.ref b68), .unset] []))
              refine own_step (fun t k => XS.iload X76.here hx rfl (hb hby at_171) rfl  k) ?_
              show own_Fin p e below s Q 16 128 (T76.setTop (mkF m 173 #[.val (.int i0), .val (.int i1), .val (.int i2), .val (.int i3), .val (.int i4), .val (.int i5), .val (.int i6), .val (.int i7), .val (.int i8), .val (.int i9), .val (.ref b68), .unset] [(.int i5)]))
              refine own_step (fun t k => XS.iconst X76.here hx rfl (hb hby at_173) k) ?_
              show own_Fin p e below s Q 16 128 (T76.setTop (mkF m 174 #[.val (.int i0), .val (.int i1), .val (.int i2), .val (.int i3), .val (.int i4), .val (.int i5), .val (.int i6), .val (.int i7), .val (.int i8), .val (.int i9), .val (.ref b68), .unset] [(.int (3 : Int32)), (.int i5)]))
              refine own_step (fun t k => XS.icmpNo X76.here hx rfl (hb hby at_174) rfl (flt (by rw [(own_n4 hn hB35_32 hB49_35 hB68_42 hB92_53)]; decide : ¬ (i5 < (3 : Int32)))).1 k) ?_
              show own_Fin p e below s Q 16 128 (T76.setTop (mkF m 177 #[.val (.int i0), .val (.int i1), .val (.int i2), .val (.int i3), .val (.int i4), .val (.int i5), .val (.int i6), .val (.int i7), .val (.int i8), .val (.int i9), .val (.ref b68), .unset] []))
              refine own_step (fun t k => XS.iload X76.here hx rfl (hb hby at_177) rfl  k) ?_
              show own_Fin p e below s Q 16 128 (T76.setTop (mkF m 179 #[.val (.int i0), .val (.int i1), .val (.int i2), .val (.int i3), .val (.int i4), .val (.int i5), .val (.int i6), .val (.int i7), .val (.int i8), .val (.int i9), .val (.ref b68), .unset] [(.int i8)]))
              obtain ⟨_, _, ⟨T79, L79, k79, n79⟩, -, X79, ⟨Lc79, hQ79, l79, y79, z79⟩, st79⟩ := Jvm.LawKit.callS X76 hx (y := (⟨"com/example/endorse/endorse/ManifestSectionCanHoldPinLaw", "ok", "(B)Z"⟩ : MethodName)) hown (mvT hZ (hw _ (List.mem_of_getElem? (i := 10) rfl))) (mvT hZ (hw _ (List.mem_of_getElem? (i := 11) rfl))) (mvT hZ (hw _ (List.mem_of_getElem? (i := 3) rfl))) (mvT hZ (hw _ (List.mem_of_getElem? (i := 12) rfl))) (by decide) (backOf (W := 0) (rm3 l Z a0 hw [] i8 h72 n0) hZ (hw _ (List.mem_of_getElem? (i := 12) rfl)) (hw _ (List.mem_of_getElem? (i := 3) rfl)) (by decide) (by decide)) (g := (mkF m 179 #[.val (.int i0), .val (.int i1), .val (.int i2), .val (.int i3), .val (.int i4), .val (.int i5), .val (.int i6), .val (.int i7), .val (.int i8), .val (.int i9), .val (.ref b68), .unset] [(.int i8)])) rfl (by rw [hml]; rfl) (argsL := [(.int i8)]) (rest := []) (lenOf pdm_1 rfl) rfl (by show 2 * 0 + _ ≤ _; exact Nat.le_of_eq rfl) (hb hby at_179) (fun _ _ => ⟨rfl, e76, (by show cells + 1 + 0 + 0 + 0 ≤ 16; omega), (by show slots + 4 + 0 + 0 + 0 ≤ 128; omega)⟩)
              dsimp only [Pt.U, Pt.locs, Pt.cells, Pt.slots] at X79 l79 y79 z79 st79 hQ79
              have yy79 : k79 = cells + 1 + 0 + 0 + 0 := y79
              have zz79 : n79 = slots + 4 + 0 + 0 + 0 := z79
              rw [yy79, zz79] at X79
              subst l79
              obtain ⟨rfl, N79q, e79⟩ := hQ79
              have N79 := Fr.app N76 N79q
              refine own_step st79 ?_
              show own_Fin p e below s Q 16 128 (T79.setTop (mkF m 182 #[.val (.int i0), .val (.int i1), .val (.int i2), .val (.int i3), .val (.int i4), .val (.int i5), .val (.int i6), .val (.int i7), .val (.int i8), .val (.int i9), .val (.ref b68), .unset] [(.int (f3_0 i8))]))
              by_cases hB182_80 : (f3_0 i8) = (0 : Int32)
              · refine own_step (fun t k => XS.ifYes X79.here hx rfl (pc0 := 182) (pc' := 203) rfl (hb hby at_182) rfl ((if0 _ _).trans (teq hB182_80).1) (by decide) (by decide) k) ?_
                show own_Fin p e below s Q 16 128 (T79.setTop (mkF m 203 #[.val (.int i0), .val (.int i1), .val (.int i2), .val (.int i3), .val (.int i4), .val (.int i5), .val (.int i6), .val (.int i7), .val (.int i8), .val (.int i9), .val (.ref b68), .unset] []))
                refine own_step (fun t k => XS.iconst X79.here hx rfl (hb hby at_203) k) ?_
                show own_Fin p e below s Q 16 128 (T79.setTop (mkF m 204 #[.val (.int i0), .val (.int i1), .val (.int i2), .val (.int i3), .val (.int i4), .val (.int i5), .val (.int i6), .val (.int i7), .val (.int i8), .val (.int i9), .val (.ref b68), .unset] [(.int (0 : Int32))]))
                refine own_step (fun t k => XS.istore X79.here hx rfl (hb hby at_204) rfl (l' := #[.val (.int i0), .val (.int i1), .val (.int i2), .val (.int i3), .val (.int i4), .val (.int i5), .val (.int i6), .val (.int i7), .val (.int i8), .val (.int i9), .val (.ref b68), .val (.int (0 : Int32))]) rfl k) ?_
                show own_Fin p e below s Q 16 128 (T79.setTop (mkF m 206 #[.val (.int i0), .val (.int i1), .val (.int i2), .val (.int i3), .val (.int i4), .val (.int i5), .val (.int i6), .val (.int i7), .val (.int i8), .val (.int i9), .val (.ref b68), .val (.int (0 : Int32))] []))
                refine own_step (fun t k => XS.aload X79.here hx rfl (hb hby at_206) rfl rfl k) ?_
                show own_Fin p e below s Q 16 128 (T79.setTop (mkF m 208 #[.val (.int i0), .val (.int i1), .val (.int i2), .val (.int i3), .val (.int i4), .val (.int i5), .val (.int i6), .val (.int i7), .val (.int i8), .val (.int i9), .val (.ref b68), .val (.int (0 : Int32))] [(.ref b68)]))
                obtain ⟨_, _, ⟨T81, L81, k81, n81⟩, -, X81, ⟨Lc81, hQ81, l81, y81, z81⟩, st81⟩ := Jvm.LawKit.callS X79 hx (y := (⟨"com/example/endorse/endorse/ManifestSection", "canHold", "([B)Z"⟩ : MethodName)) hown (mvT hZ (hw _ (List.mem_of_getElem? (i := 6) rfl))) (mvT hZ (hw _ (List.mem_of_getElem? (i := 7) rfl))) (mvT hZ (hw _ (List.mem_of_getElem? (i := 8) rfl))) (mvT hZ (hw _ (List.mem_of_getElem? (i := 9) rfl))) (by decide) (backOf (W := 0) (rm2 l Z a0 hw [] b68 gf72 4 h72 n0 V72 (by decide)) hZ (hw _ (List.mem_of_getElem? (i := 9) rfl)) (hw _ (List.mem_of_getElem? (i := 8) rfl)) (by decide) (by decide)) (g := (mkF m 208 #[.val (.int i0), .val (.int i1), .val (.int i2), .val (.int i3), .val (.int i4), .val (.int i5), .val (.int i6), .val (.int i7), .val (.int i8), .val (.int i9), .val (.ref b68), .val (.int (0 : Int32))] [(.ref b68)])) rfl (by rw [hml]; rfl) (argsL := [(.ref b68)]) (rest := []) (lenOf pdm_2 rfl) rfl (by show 2 * 0 + _ ≤ _; exact Nat.le_of_eq rfl) (hb hby at_208) (fun _ _ => ⟨rfl, e79, (by show cells + 1 + 0 + 0 + 0 + 0 ≤ 16; omega), (by show slots + 4 + 0 + 0 + 0 + 0 ≤ 128; omega)⟩)
                dsimp only [Pt.U, Pt.locs, Pt.cells, Pt.slots] at X81 l81 y81 z81 st81 hQ81
                have yy81 : k81 = cells + 1 + 0 + 0 + 0 + 0 := y81
                have zz81 : n81 = slots + 4 + 0 + 0 + 0 + 0 := z81
                rw [yy81, zz81] at X81
                subst l81
                obtain ⟨rfl, N81q, e81⟩ := hQ81
                have N81 := Fr.app N79 N81q
                refine own_step st81 ?_
                show own_Fin p e below s Q 16 128 (T81.setTop (mkF m 211 #[.val (.int i0), .val (.int i1), .val (.int i2), .val (.int i3), .val (.int i4), .val (.int i5), .val (.int i6), .val (.int i7), .val (.int i8), .val (.int i9), .val (.ref b68), .val (.int (0 : Int32))] [(.int (f2_0 gf72 4))]))
                refine own_step (fun t k => XS.iload X81.here hx rfl (hb hby at_211) rfl  k) ?_
                show own_Fin p e below s Q 16 128 (T81.setTop (mkF m 213 #[.val (.int i0), .val (.int i1), .val (.int i2), .val (.int i3), .val (.int i4), .val (.int i5), .val (.int i6), .val (.int i7), .val (.int i8), .val (.int i9), .val (.ref b68), .val (.int (0 : Int32))] [(.int (0 : Int32)), (.int (f2_0 gf72 4))]))
                refine own_step (fun t k => XS.icmpNo X81.here hx rfl (hb hby at_213) rfl (teq (own_can0 _ _ (by decide) 2 (by decide) (by rw [(by rw [hgf72, hgf71, hgf70, hgf69]; exact hb8 : gf72 2 = i8)]; exact hB182_80))).2 k) ?_
                show own_Fin p e below s Q 16 128 (T81.setTop (mkF m 216 #[.val (.int i0), .val (.int i1), .val (.int i2), .val (.int i3), .val (.int i4), .val (.int i5), .val (.int i6), .val (.int i7), .val (.int i8), .val (.int i9), .val (.ref b68), .val (.int (0 : Int32))] []))
                refine own_step (fun t k => XS.iconst X81.here hx rfl (hb hby at_216) k) ?_
                show own_Fin p e below s Q 16 128 (T81.setTop (mkF m 217 #[.val (.int i0), .val (.int i1), .val (.int i2), .val (.int i3), .val (.int i4), .val (.int i5), .val (.int i6), .val (.int i7), .val (.int i8), .val (.int i9), .val (.ref b68), .val (.int (0 : Int32))] [(.int (1 : Int32))]))
                refine own_step (fun t k => XS.goto X81.here hx rfl (pc0 := 217) (pc' := 221) rfl (hb hby at_217) (by decide) (by decide) k) ?_
                show own_Fin p e below s Q 16 128 (T81.setTop (mkF m 221 #[.val (.int i0), .val (.int i1), .val (.int i2), .val (.int i3), .val (.int i4), .val (.int i5), .val (.int i6), .val (.int i7), .val (.int i8), .val (.int i9), .val (.ref b68), .val (.int (0 : Int32))] [(.int (1 : Int32))]))
                exact own_retN X81 hx hlk hret (by simp) (hb hby at_221) (by omega) (by omega) rfl N81 (fun L' n' => hQ _ L' n') (rfl)
              · refine own_step (fun t k => XS.ifNo X79.here hx rfl (hb hby at_182) rfl ((if0 _ _).trans (feq hB182_80).1) k) ?_
                show own_Fin p e below s Q 16 128 (T79.setTop (mkF m 185 #[.val (.int i0), .val (.int i1), .val (.int i2), .val (.int i3), .val (.int i4), .val (.int i5), .val (.int i6), .val (.int i7), .val (.int i8), .val (.int i9), .val (.ref b68), .unset] []))
                refine own_step (fun t k => XS.iload X79.here hx rfl (hb hby at_185) rfl  k) ?_
                show own_Fin p e below s Q 16 128 (T79.setTop (mkF m 187 #[.val (.int i0), .val (.int i1), .val (.int i2), .val (.int i3), .val (.int i4), .val (.int i5), .val (.int i6), .val (.int i7), .val (.int i8), .val (.int i9), .val (.ref b68), .unset] [(.int i5)]))
                refine own_step (fun t k => XS.iconst X79.here hx rfl (hb hby at_187) k) ?_
                show own_Fin p e below s Q 16 128 (T79.setTop (mkF m 188 #[.val (.int i0), .val (.int i1), .val (.int i2), .val (.int i3), .val (.int i4), .val (.int i5), .val (.int i6), .val (.int i7), .val (.int i8), .val (.int i9), .val (.ref b68), .unset] [(.int (4 : Int32)), (.int i5)]))
                refine own_step (fun t k => XS.icmpNo X79.here hx rfl (hb hby at_188) rfl (flt (by rw [(own_n4 hn hB35_32 hB49_35 hB68_42 hB92_53)]; decide : ¬ (i5 < (4 : Int32)))).1 k) ?_
                show own_Fin p e below s Q 16 128 (T79.setTop (mkF m 191 #[.val (.int i0), .val (.int i1), .val (.int i2), .val (.int i3), .val (.int i4), .val (.int i5), .val (.int i6), .val (.int i7), .val (.int i8), .val (.int i9), .val (.ref b68), .unset] []))
                refine own_step (fun t k => XS.iload X79.here hx rfl (hb hby at_191) rfl  k) ?_
                show own_Fin p e below s Q 16 128 (T79.setTop (mkF m 193 #[.val (.int i0), .val (.int i1), .val (.int i2), .val (.int i3), .val (.int i4), .val (.int i5), .val (.int i6), .val (.int i7), .val (.int i8), .val (.int i9), .val (.ref b68), .unset] [(.int i9)]))
                obtain ⟨_, _, ⟨T82, L82, k82, n82⟩, -, X82, ⟨Lc82, hQ82, l82, y82, z82⟩, st82⟩ := Jvm.LawKit.callS X79 hx (y := (⟨"com/example/endorse/endorse/ManifestSectionCanHoldPinLaw", "ok", "(B)Z"⟩ : MethodName)) hown (mvT hZ (hw _ (List.mem_of_getElem? (i := 10) rfl))) (mvT hZ (hw _ (List.mem_of_getElem? (i := 11) rfl))) (mvT hZ (hw _ (List.mem_of_getElem? (i := 3) rfl))) (mvT hZ (hw _ (List.mem_of_getElem? (i := 12) rfl))) (by decide) (backOf (W := 0) (rm3 l Z a0 hw [] i9 h72 n0) hZ (hw _ (List.mem_of_getElem? (i := 12) rfl)) (hw _ (List.mem_of_getElem? (i := 3) rfl)) (by decide) (by decide)) (g := (mkF m 193 #[.val (.int i0), .val (.int i1), .val (.int i2), .val (.int i3), .val (.int i4), .val (.int i5), .val (.int i6), .val (.int i7), .val (.int i8), .val (.int i9), .val (.ref b68), .unset] [(.int i9)])) rfl (by rw [hml]; rfl) (argsL := [(.int i9)]) (rest := []) (lenOf pdm_1 rfl) rfl (by show 2 * 0 + _ ≤ _; exact Nat.le_of_eq rfl) (hb hby at_193) (fun _ _ => ⟨rfl, e79, (by show cells + 1 + 0 + 0 + 0 + 0 ≤ 16; omega), (by show slots + 4 + 0 + 0 + 0 + 0 ≤ 128; omega)⟩)
                dsimp only [Pt.U, Pt.locs, Pt.cells, Pt.slots] at X82 l82 y82 z82 st82 hQ82
                have yy82 : k82 = cells + 1 + 0 + 0 + 0 + 0 := y82
                have zz82 : n82 = slots + 4 + 0 + 0 + 0 + 0 := z82
                rw [yy82, zz82] at X82
                subst l82
                obtain ⟨rfl, N82q, e82⟩ := hQ82
                have N82 := Fr.app N79 N82q
                refine own_step st82 ?_
                show own_Fin p e below s Q 16 128 (T82.setTop (mkF m 196 #[.val (.int i0), .val (.int i1), .val (.int i2), .val (.int i3), .val (.int i4), .val (.int i5), .val (.int i6), .val (.int i7), .val (.int i8), .val (.int i9), .val (.ref b68), .unset] [(.int (f3_0 i9))]))
                by_cases hB196_83 : (f3_0 i9) = (0 : Int32)
                · refine own_step (fun t k => XS.ifYes X82.here hx rfl (pc0 := 196) (pc' := 203) rfl (hb hby at_196) rfl ((if0 _ _).trans (teq hB196_83).1) (by decide) (by decide) k) ?_
                  show own_Fin p e below s Q 16 128 (T82.setTop (mkF m 203 #[.val (.int i0), .val (.int i1), .val (.int i2), .val (.int i3), .val (.int i4), .val (.int i5), .val (.int i6), .val (.int i7), .val (.int i8), .val (.int i9), .val (.ref b68), .unset] []))
                  refine own_step (fun t k => XS.iconst X82.here hx rfl (hb hby at_203) k) ?_
                  show own_Fin p e below s Q 16 128 (T82.setTop (mkF m 204 #[.val (.int i0), .val (.int i1), .val (.int i2), .val (.int i3), .val (.int i4), .val (.int i5), .val (.int i6), .val (.int i7), .val (.int i8), .val (.int i9), .val (.ref b68), .unset] [(.int (0 : Int32))]))
                  refine own_step (fun t k => XS.istore X82.here hx rfl (hb hby at_204) rfl (l' := #[.val (.int i0), .val (.int i1), .val (.int i2), .val (.int i3), .val (.int i4), .val (.int i5), .val (.int i6), .val (.int i7), .val (.int i8), .val (.int i9), .val (.ref b68), .val (.int (0 : Int32))]) rfl k) ?_
                  show own_Fin p e below s Q 16 128 (T82.setTop (mkF m 206 #[.val (.int i0), .val (.int i1), .val (.int i2), .val (.int i3), .val (.int i4), .val (.int i5), .val (.int i6), .val (.int i7), .val (.int i8), .val (.int i9), .val (.ref b68), .val (.int (0 : Int32))] []))
                  refine own_step (fun t k => XS.aload X82.here hx rfl (hb hby at_206) rfl rfl k) ?_
                  show own_Fin p e below s Q 16 128 (T82.setTop (mkF m 208 #[.val (.int i0), .val (.int i1), .val (.int i2), .val (.int i3), .val (.int i4), .val (.int i5), .val (.int i6), .val (.int i7), .val (.int i8), .val (.int i9), .val (.ref b68), .val (.int (0 : Int32))] [(.ref b68)]))
                  obtain ⟨_, _, ⟨T84, L84, k84, n84⟩, -, X84, ⟨Lc84, hQ84, l84, y84, z84⟩, st84⟩ := Jvm.LawKit.callS X82 hx (y := (⟨"com/example/endorse/endorse/ManifestSection", "canHold", "([B)Z"⟩ : MethodName)) hown (mvT hZ (hw _ (List.mem_of_getElem? (i := 6) rfl))) (mvT hZ (hw _ (List.mem_of_getElem? (i := 7) rfl))) (mvT hZ (hw _ (List.mem_of_getElem? (i := 8) rfl))) (mvT hZ (hw _ (List.mem_of_getElem? (i := 9) rfl))) (by decide) (backOf (W := 0) (rm2 l Z a0 hw [] b68 gf72 4 h72 n0 V72 (by decide)) hZ (hw _ (List.mem_of_getElem? (i := 9) rfl)) (hw _ (List.mem_of_getElem? (i := 8) rfl)) (by decide) (by decide)) (g := (mkF m 208 #[.val (.int i0), .val (.int i1), .val (.int i2), .val (.int i3), .val (.int i4), .val (.int i5), .val (.int i6), .val (.int i7), .val (.int i8), .val (.int i9), .val (.ref b68), .val (.int (0 : Int32))] [(.ref b68)])) rfl (by rw [hml]; rfl) (argsL := [(.ref b68)]) (rest := []) (lenOf pdm_2 rfl) rfl (by show 2 * 0 + _ ≤ _; exact Nat.le_of_eq rfl) (hb hby at_208) (fun _ _ => ⟨rfl, e82, (by show cells + 1 + 0 + 0 + 0 + 0 + 0 ≤ 16; omega), (by show slots + 4 + 0 + 0 + 0 + 0 + 0 ≤ 128; omega)⟩)
                  dsimp only [Pt.U, Pt.locs, Pt.cells, Pt.slots] at X84 l84 y84 z84 st84 hQ84
                  have yy84 : k84 = cells + 1 + 0 + 0 + 0 + 0 + 0 := y84
                  have zz84 : n84 = slots + 4 + 0 + 0 + 0 + 0 + 0 := z84
                  rw [yy84, zz84] at X84
                  subst l84
                  obtain ⟨rfl, N84q, e84⟩ := hQ84
                  have N84 := Fr.app N82 N84q
                  refine own_step st84 ?_
                  show own_Fin p e below s Q 16 128 (T84.setTop (mkF m 211 #[.val (.int i0), .val (.int i1), .val (.int i2), .val (.int i3), .val (.int i4), .val (.int i5), .val (.int i6), .val (.int i7), .val (.int i8), .val (.int i9), .val (.ref b68), .val (.int (0 : Int32))] [(.int (f2_0 gf72 4))]))
                  refine own_step (fun t k => XS.iload X84.here hx rfl (hb hby at_211) rfl  k) ?_
                  show own_Fin p e below s Q 16 128 (T84.setTop (mkF m 213 #[.val (.int i0), .val (.int i1), .val (.int i2), .val (.int i3), .val (.int i4), .val (.int i5), .val (.int i6), .val (.int i7), .val (.int i8), .val (.int i9), .val (.ref b68), .val (.int (0 : Int32))] [(.int (0 : Int32)), (.int (f2_0 gf72 4))]))
                  refine own_step (fun t k => XS.icmpNo X84.here hx rfl (hb hby at_213) rfl (teq (own_can0 _ _ (by decide) 3 (by decide) (by rw [(by rw [hgf72, hgf71, hgf70, hgf69]; exact hb9 : gf72 3 = i9)]; exact hB196_83))).2 k) ?_
                  show own_Fin p e below s Q 16 128 (T84.setTop (mkF m 216 #[.val (.int i0), .val (.int i1), .val (.int i2), .val (.int i3), .val (.int i4), .val (.int i5), .val (.int i6), .val (.int i7), .val (.int i8), .val (.int i9), .val (.ref b68), .val (.int (0 : Int32))] []))
                  refine own_step (fun t k => XS.iconst X84.here hx rfl (hb hby at_216) k) ?_
                  show own_Fin p e below s Q 16 128 (T84.setTop (mkF m 217 #[.val (.int i0), .val (.int i1), .val (.int i2), .val (.int i3), .val (.int i4), .val (.int i5), .val (.int i6), .val (.int i7), .val (.int i8), .val (.int i9), .val (.ref b68), .val (.int (0 : Int32))] [(.int (1 : Int32))]))
                  refine own_step (fun t k => XS.goto X84.here hx rfl (pc0 := 217) (pc' := 221) rfl (hb hby at_217) (by decide) (by decide) k) ?_
                  show own_Fin p e below s Q 16 128 (T84.setTop (mkF m 221 #[.val (.int i0), .val (.int i1), .val (.int i2), .val (.int i3), .val (.int i4), .val (.int i5), .val (.int i6), .val (.int i7), .val (.int i8), .val (.int i9), .val (.ref b68), .val (.int (0 : Int32))] [(.int (1 : Int32))]))
                  exact own_retN X84 hx hlk hret (by simp) (hb hby at_221) (by omega) (by omega) rfl N84 (fun L' n' => hQ _ L' n') (rfl)
                · refine own_step (fun t k => XS.ifNo X82.here hx rfl (hb hby at_196) rfl ((if0 _ _).trans (feq hB196_83).1) k) ?_
                  show own_Fin p e below s Q 16 128 (T82.setTop (mkF m 199 #[.val (.int i0), .val (.int i1), .val (.int i2), .val (.int i3), .val (.int i4), .val (.int i5), .val (.int i6), .val (.int i7), .val (.int i8), .val (.int i9), .val (.ref b68), .unset] []))
                  refine own_step (fun t k => XS.iconst X82.here hx rfl (hb hby at_199) k) ?_
                  show own_Fin p e below s Q 16 128 (T82.setTop (mkF m 200 #[.val (.int i0), .val (.int i1), .val (.int i2), .val (.int i3), .val (.int i4), .val (.int i5), .val (.int i6), .val (.int i7), .val (.int i8), .val (.int i9), .val (.ref b68), .unset] [(.int (1 : Int32))]))
                  refine own_step (fun t k => XS.goto X82.here hx rfl (pc0 := 200) (pc' := 204) rfl (hb hby at_200) (by decide) (by decide) k) ?_
                  show own_Fin p e below s Q 16 128 (T82.setTop (mkF m 204 #[.val (.int i0), .val (.int i1), .val (.int i2), .val (.int i3), .val (.int i4), .val (.int i5), .val (.int i6), .val (.int i7), .val (.int i8), .val (.int i9), .val (.ref b68), .unset] [(.int (1 : Int32))]))
                  refine own_step (fun t k => XS.istore X82.here hx rfl (hb hby at_204) rfl (l' := #[.val (.int i0), .val (.int i1), .val (.int i2), .val (.int i3), .val (.int i4), .val (.int i5), .val (.int i6), .val (.int i7), .val (.int i8), .val (.int i9), .val (.ref b68), .val (.int (1 : Int32))]) rfl k) ?_
                  show own_Fin p e below s Q 16 128 (T82.setTop (mkF m 206 #[.val (.int i0), .val (.int i1), .val (.int i2), .val (.int i3), .val (.int i4), .val (.int i5), .val (.int i6), .val (.int i7), .val (.int i8), .val (.int i9), .val (.ref b68), .val (.int (1 : Int32))] []))
                  refine own_step (fun t k => XS.aload X82.here hx rfl (hb hby at_206) rfl rfl k) ?_
                  show own_Fin p e below s Q 16 128 (T82.setTop (mkF m 208 #[.val (.int i0), .val (.int i1), .val (.int i2), .val (.int i3), .val (.int i4), .val (.int i5), .val (.int i6), .val (.int i7), .val (.int i8), .val (.int i9), .val (.ref b68), .val (.int (1 : Int32))] [(.ref b68)]))
                  obtain ⟨_, _, ⟨T85, L85, k85, n85⟩, -, X85, ⟨Lc85, hQ85, l85, y85, z85⟩, st85⟩ := Jvm.LawKit.callS X82 hx (y := (⟨"com/example/endorse/endorse/ManifestSection", "canHold", "([B)Z"⟩ : MethodName)) hown (mvT hZ (hw _ (List.mem_of_getElem? (i := 6) rfl))) (mvT hZ (hw _ (List.mem_of_getElem? (i := 7) rfl))) (mvT hZ (hw _ (List.mem_of_getElem? (i := 8) rfl))) (mvT hZ (hw _ (List.mem_of_getElem? (i := 9) rfl))) (by decide) (backOf (W := 0) (rm2 l Z a0 hw [] b68 gf72 4 h72 n0 V72 (by decide)) hZ (hw _ (List.mem_of_getElem? (i := 9) rfl)) (hw _ (List.mem_of_getElem? (i := 8) rfl)) (by decide) (by decide)) (g := (mkF m 208 #[.val (.int i0), .val (.int i1), .val (.int i2), .val (.int i3), .val (.int i4), .val (.int i5), .val (.int i6), .val (.int i7), .val (.int i8), .val (.int i9), .val (.ref b68), .val (.int (1 : Int32))] [(.ref b68)])) rfl (by rw [hml]; rfl) (argsL := [(.ref b68)]) (rest := []) (lenOf pdm_2 rfl) rfl (by show 2 * 0 + _ ≤ _; exact Nat.le_of_eq rfl) (hb hby at_208) (fun _ _ => ⟨rfl, e82, (by show cells + 1 + 0 + 0 + 0 + 0 + 0 ≤ 16; omega), (by show slots + 4 + 0 + 0 + 0 + 0 + 0 ≤ 128; omega)⟩)
                  dsimp only [Pt.U, Pt.locs, Pt.cells, Pt.slots] at X85 l85 y85 z85 st85 hQ85
                  have yy85 : k85 = cells + 1 + 0 + 0 + 0 + 0 + 0 := y85
                  have zz85 : n85 = slots + 4 + 0 + 0 + 0 + 0 + 0 := z85
                  rw [yy85, zz85] at X85
                  subst l85
                  obtain ⟨rfl, N85q, e85⟩ := hQ85
                  have N85 := Fr.app N82 N85q
                  refine own_step st85 ?_
                  show own_Fin p e below s Q 16 128 (T85.setTop (mkF m 211 #[.val (.int i0), .val (.int i1), .val (.int i2), .val (.int i3), .val (.int i4), .val (.int i5), .val (.int i6), .val (.int i7), .val (.int i8), .val (.int i9), .val (.ref b68), .val (.int (1 : Int32))] [(.int (f2_0 gf72 4))]))
                  refine own_step (fun t k => XS.iload X85.here hx rfl (hb hby at_211) rfl  k) ?_
                  show own_Fin p e below s Q 16 128 (T85.setTop (mkF m 213 #[.val (.int i0), .val (.int i1), .val (.int i2), .val (.int i3), .val (.int i4), .val (.int i5), .val (.int i6), .val (.int i7), .val (.int i8), .val (.int i9), .val (.ref b68), .val (.int (1 : Int32))] [(.int (1 : Int32)), (.int (f2_0 gf72 4))]))
                  refine own_step (fun t k => XS.icmpNo X85.here hx rfl (hb hby at_213) rfl (teq (own_can1 _ _ (by decide) (fun j hj => by
      obtain rfl | rfl | rfl | rfl : j = 0 ∨ j = 1 ∨ j = 2 ∨ j = 3 := by omega
      · rw [(by rw [hgf72, hgf71, hgf70, hgf69]; exact hb6 : gf72 0 = i6)]; exact hB154_74
      · rw [(by rw [hgf72, hgf71, hgf70, hgf69]; exact hb7 : gf72 1 = i7)]; exact hB168_77
      · rw [(by rw [hgf72, hgf71, hgf70, hgf69]; exact hb8 : gf72 2 = i8)]; exact hB182_80
      · rw [(by rw [hgf72, hgf71, hgf70, hgf69]; exact hb9 : gf72 3 = i9)]; exact hB196_83))).2 k) ?_
                  show own_Fin p e below s Q 16 128 (T85.setTop (mkF m 216 #[.val (.int i0), .val (.int i1), .val (.int i2), .val (.int i3), .val (.int i4), .val (.int i5), .val (.int i6), .val (.int i7), .val (.int i8), .val (.int i9), .val (.ref b68), .val (.int (1 : Int32))] []))
                  refine own_step (fun t k => XS.iconst X85.here hx rfl (hb hby at_216) k) ?_
                  show own_Fin p e below s Q 16 128 (T85.setTop (mkF m 217 #[.val (.int i0), .val (.int i1), .val (.int i2), .val (.int i3), .val (.int i4), .val (.int i5), .val (.int i6), .val (.int i7), .val (.int i8), .val (.int i9), .val (.ref b68), .val (.int (1 : Int32))] [(.int (1 : Int32))]))
                  refine own_step (fun t k => XS.goto X85.here hx rfl (pc0 := 217) (pc' := 221) rfl (hb hby at_217) (by decide) (by decide) k) ?_
                  show own_Fin p e below s Q 16 128 (T85.setTop (mkF m 221 #[.val (.int i0), .val (.int i1), .val (.int i2), .val (.int i3), .val (.int i4), .val (.int i5), .val (.int i6), .val (.int i7), .val (.int i8), .val (.int i9), .val (.ref b68), .val (.int (1 : Int32))] [(.int (1 : Int32))]))
                  exact own_retN X85 hx hlk hret (by simp) (hb hby at_221) (by omega) (by omega) rfl N85 (fun L' n' => hQ _ L' n') (rfl)
set_option maxRecDepth 65536 in
set_option maxHeartbeats 40000000 in
theorem b0_0 {p : Program} {l : Launch} {e : Env} {s : State} {m : MethodId} {args : Array Value} {below : List Frame} {meth : Method} {c : Code} {T : State} {locs : List Loc} {cells slots : Nat} {Z : State} {a0 : Array Value} {h : Heap} {n0 : Nat} {Q : Option Value → Heap → List Loc → Prop} (i0 : Int32) (i1 : Int32) (i2 : Int32) (i3 : Int32) (i4 : Int32) (hw : ∀ d ∈ tables_1, d.before a0 Z = true) (X : Stand p l e room_1 s m args below meth c T locs cells slots) (hx : p.tables.exec = Jvm.exec) (hZ : Z.Warmed39 s.vm) (hby : c.code = code) (hml : c.maxLocals = 12) (hown : s.vm.findClass "com/example/endorse/endorse/ManifestSectionCanHoldPinLaw" = some m.cls) (hret : meth.sig.returnType = some .boolean) (hlk : meth.locks = false) (eT : T.heap = h) (N : Fr n0 locs) (hc : cells ≤ 0) (hs : slots ≤ 0) (Z0 : n0 ≤ h.size) (hQ : ∀ H' L', Fr n0 L' → Q (some (.int 1)) H' L') :
    own_Fin p e below s Q 16 128 (T.setTop (mkF m 0 #[.val (.int i0), .val (.int i1), .val (.int i2), .val (.int i3), .val (.int i4), .unset, .unset, .unset, .unset, .unset, .unset, .unset] [])) := by
  refine own_step (fun t k => XS.iloadN X.here hx rfl (hb hby at_0) rfl  k) ?_
  show own_Fin p e below s Q 16 128 (T.setTop (mkF m 1 #[.val (.int i0), .val (.int i1), .val (.int i2), .val (.int i3), .val (.int i4), .unset, .unset, .unset, .unset, .unset, .unset, .unset] [(.int i0)]))
  refine own_step (X.ldcInt hx hown (mvT hZ (hw _ (List.mem_of_getElem? (i := 0) rfl))) (g := (mkF m 1 #[.val (.int i0), .val (.int i1), .val (.int i2), .val (.int i3), .val (.int i4), .unset, .unset, .unset, .unset, .unset, .unset, .unset] [(.int i0)])) rfl (hb hby at_1)) ?_
  show own_Fin p e below s Q 16 128 (T.setTop (mkF m 3 #[.val (.int i0), .val (.int i1), .val (.int i2), .val (.int i3), .val (.int i4), .unset, .unset, .unset, .unset, .unset, .unset, .unset] [(.int (2147483647 : Int32)), (.int i0)]))
  refine own_step (fun t k => XS.iand X.here hx rfl (hb hby at_3) rfl k) ?_
  show own_Fin p e below s Q 16 128 (T.setTop (mkF m 4 #[.val (.int i0), .val (.int i1), .val (.int i2), .val (.int i3), .val (.int i4), .unset, .unset, .unset, .unset, .unset, .unset, .unset] [(.int (i0 &&& (2147483647 : Int32)))]))
  refine own_step (fun t k => XS.iconst X.here hx rfl (hb hby at_4) k) ?_
  show own_Fin p e below s Q 16 128 (T.setTop (mkF m 5 #[.val (.int i0), .val (.int i1), .val (.int i2), .val (.int i3), .val (.int i4), .unset, .unset, .unset, .unset, .unset, .unset, .unset] [(.int (5 : Int32)), (.int (i0 &&& (2147483647 : Int32)))]))
  refine own_step (fun t k => XS.irem X.here hx rfl (hb hby at_5) rfl (by decide) k) ?_
  rw [irem_eq_mod (i0 &&& (2147483647 : Int32)) (5 : Int32)]
  show own_Fin p e below s Q 16 128 (T.setTop (mkF m 6 #[.val (.int i0), .val (.int i1), .val (.int i2), .val (.int i3), .val (.int i4), .unset, .unset, .unset, .unset, .unset, .unset, .unset] [(.int ((i0 &&& (2147483647 : Int32)) % (5 : Int32)))]))
  refine own_step (fun t k => XS.istore X.here hx rfl (hb hby at_6) rfl (l' := #[.val (.int i0), .val (.int i1), .val (.int i2), .val (.int i3), .val (.int i4), .val (.int ((i0 &&& (2147483647 : Int32)) % (5 : Int32))), .unset, .unset, .unset, .unset, .unset, .unset]) rfl k) ?_
  show own_Fin p e below s Q 16 128 (T.setTop (mkF m 8 #[.val (.int i0), .val (.int i1), .val (.int i2), .val (.int i3), .val (.int i4), .val (.int ((i0 &&& (2147483647 : Int32)) % (5 : Int32))), .unset, .unset, .unset, .unset, .unset, .unset] []))
  refine own_step (fun t k => XS.iloadN X.here hx rfl (hb hby at_8) rfl  k) ?_
  show own_Fin p e below s Q 16 128 (T.setTop (mkF m 9 #[.val (.int i0), .val (.int i1), .val (.int i2), .val (.int i3), .val (.int i4), .val (.int ((i0 &&& (2147483647 : Int32)) % (5 : Int32))), .unset, .unset, .unset, .unset, .unset, .unset] [(.int i1)]))
  obtain ⟨_, _, ⟨T28, L28, k28, n28⟩, -, X28, ⟨Lc28, hQ28, l28, y28, z28⟩, st28⟩ := Jvm.LawKit.callS X hx (y := (⟨"com/example/endorse/endorse/ManifestSectionCanHoldPinLaw", "draw", "(I)B"⟩ : MethodName)) hown (mvT hZ (hw _ (List.mem_of_getElem? (i := 1) rfl))) (mvT hZ (hw _ (List.mem_of_getElem? (i := 2) rfl))) (mvT hZ (hw _ (List.mem_of_getElem? (i := 3) rfl))) (mvT hZ (hw _ (List.mem_of_getElem? (i := 4) rfl))) (by decide) (backOf (W := 0) (rm1 l Z a0 hw [] i1 h n0) hZ (hw _ (List.mem_of_getElem? (i := 4) rfl)) (hw _ (List.mem_of_getElem? (i := 3) rfl)) (by decide) (by decide)) (g := (mkF m 9 #[.val (.int i0), .val (.int i1), .val (.int i2), .val (.int i3), .val (.int i4), .val (.int ((i0 &&& (2147483647 : Int32)) % (5 : Int32))), .unset, .unset, .unset, .unset, .unset, .unset] [(.int i1)])) rfl (by rw [hml]; rfl) (argsL := [(.int i1)]) (rest := []) (lenOf pdm_0 rfl) rfl (by show 2 * 0 + _ ≤ _; exact Nat.le_of_eq rfl) (hb hby at_9) (fun _ _ => ⟨rfl, eT, (by show cells + 0 ≤ 16; omega), (by show slots + 0 ≤ 128; omega)⟩)
  dsimp only [Pt.U, Pt.locs, Pt.cells, Pt.slots] at X28 l28 y28 z28 st28 hQ28
  have yy28 : k28 = cells + 0 := y28
  have zz28 : n28 = slots + 0 := z28
  rw [yy28, zz28] at X28
  subst l28
  obtain ⟨rfl, N28q, e28⟩ := hQ28
  have N28 := Fr.app N N28q
  refine own_step st28 ?_
  show own_Fin p e below s Q 16 128 (T28.setTop (mkF m 12 #[.val (.int i0), .val (.int i1), .val (.int i2), .val (.int i3), .val (.int i4), .val (.int ((i0 &&& (2147483647 : Int32)) % (5 : Int32))), .unset, .unset, .unset, .unset, .unset, .unset] [(.int (f1_0 i1))]))
  refine own_step (fun t k => XS.istore X28.here hx rfl (hb hby at_12) rfl (l' := #[.val (.int i0), .val (.int i1), .val (.int i2), .val (.int i3), .val (.int i4), .val (.int ((i0 &&& (2147483647 : Int32)) % (5 : Int32))), .val (.int (f1_0 i1)), .unset, .unset, .unset, .unset, .unset]) rfl k) ?_
  show own_Fin p e below s Q 16 128 (T28.setTop (mkF m 14 #[.val (.int i0), .val (.int i1), .val (.int i2), .val (.int i3), .val (.int i4), .val (.int ((i0 &&& (2147483647 : Int32)) % (5 : Int32))), .val (.int (f1_0 i1)), .unset, .unset, .unset, .unset, .unset] []))
  refine own_step (fun t k => XS.iloadN X28.here hx rfl (hb hby at_14) rfl  k) ?_
  show own_Fin p e below s Q 16 128 (T28.setTop (mkF m 15 #[.val (.int i0), .val (.int i1), .val (.int i2), .val (.int i3), .val (.int i4), .val (.int ((i0 &&& (2147483647 : Int32)) % (5 : Int32))), .val (.int (f1_0 i1)), .unset, .unset, .unset, .unset, .unset] [(.int i2)]))
  obtain ⟨_, _, ⟨T29, L29, k29, n29⟩, -, X29, ⟨Lc29, hQ29, l29, y29, z29⟩, st29⟩ := Jvm.LawKit.callS X28 hx (y := (⟨"com/example/endorse/endorse/ManifestSectionCanHoldPinLaw", "draw", "(I)B"⟩ : MethodName)) hown (mvT hZ (hw _ (List.mem_of_getElem? (i := 1) rfl))) (mvT hZ (hw _ (List.mem_of_getElem? (i := 2) rfl))) (mvT hZ (hw _ (List.mem_of_getElem? (i := 3) rfl))) (mvT hZ (hw _ (List.mem_of_getElem? (i := 4) rfl))) (by decide) (backOf (W := 0) (rm1 l Z a0 hw [] i2 h n0) hZ (hw _ (List.mem_of_getElem? (i := 4) rfl)) (hw _ (List.mem_of_getElem? (i := 3) rfl)) (by decide) (by decide)) (g := (mkF m 15 #[.val (.int i0), .val (.int i1), .val (.int i2), .val (.int i3), .val (.int i4), .val (.int ((i0 &&& (2147483647 : Int32)) % (5 : Int32))), .val (.int (f1_0 i1)), .unset, .unset, .unset, .unset, .unset] [(.int i2)])) rfl (by rw [hml]; rfl) (argsL := [(.int i2)]) (rest := []) (lenOf pdm_0 rfl) rfl (by show 2 * 0 + _ ≤ _; exact Nat.le_of_eq rfl) (hb hby at_15) (fun _ _ => ⟨rfl, e28, (by show cells + 0 + 0 ≤ 16; omega), (by show slots + 0 + 0 ≤ 128; omega)⟩)
  dsimp only [Pt.U, Pt.locs, Pt.cells, Pt.slots] at X29 l29 y29 z29 st29 hQ29
  have yy29 : k29 = cells + 0 + 0 := y29
  have zz29 : n29 = slots + 0 + 0 := z29
  rw [yy29, zz29] at X29
  subst l29
  obtain ⟨rfl, N29q, e29⟩ := hQ29
  have N29 := Fr.app N28 N29q
  refine own_step st29 ?_
  show own_Fin p e below s Q 16 128 (T29.setTop (mkF m 18 #[.val (.int i0), .val (.int i1), .val (.int i2), .val (.int i3), .val (.int i4), .val (.int ((i0 &&& (2147483647 : Int32)) % (5 : Int32))), .val (.int (f1_0 i1)), .unset, .unset, .unset, .unset, .unset] [(.int (f1_0 i2))]))
  refine own_step (fun t k => XS.istore X29.here hx rfl (hb hby at_18) rfl (l' := #[.val (.int i0), .val (.int i1), .val (.int i2), .val (.int i3), .val (.int i4), .val (.int ((i0 &&& (2147483647 : Int32)) % (5 : Int32))), .val (.int (f1_0 i1)), .val (.int (f1_0 i2)), .unset, .unset, .unset, .unset]) rfl k) ?_
  show own_Fin p e below s Q 16 128 (T29.setTop (mkF m 20 #[.val (.int i0), .val (.int i1), .val (.int i2), .val (.int i3), .val (.int i4), .val (.int ((i0 &&& (2147483647 : Int32)) % (5 : Int32))), .val (.int (f1_0 i1)), .val (.int (f1_0 i2)), .unset, .unset, .unset, .unset] []))
  refine own_step (fun t k => XS.iloadN X29.here hx rfl (hb hby at_20) rfl  k) ?_
  show own_Fin p e below s Q 16 128 (T29.setTop (mkF m 21 #[.val (.int i0), .val (.int i1), .val (.int i2), .val (.int i3), .val (.int i4), .val (.int ((i0 &&& (2147483647 : Int32)) % (5 : Int32))), .val (.int (f1_0 i1)), .val (.int (f1_0 i2)), .unset, .unset, .unset, .unset] [(.int i3)]))
  obtain ⟨_, _, ⟨T30, L30, k30, n30⟩, -, X30, ⟨Lc30, hQ30, l30, y30, z30⟩, st30⟩ := Jvm.LawKit.callS X29 hx (y := (⟨"com/example/endorse/endorse/ManifestSectionCanHoldPinLaw", "draw", "(I)B"⟩ : MethodName)) hown (mvT hZ (hw _ (List.mem_of_getElem? (i := 1) rfl))) (mvT hZ (hw _ (List.mem_of_getElem? (i := 2) rfl))) (mvT hZ (hw _ (List.mem_of_getElem? (i := 3) rfl))) (mvT hZ (hw _ (List.mem_of_getElem? (i := 4) rfl))) (by decide) (backOf (W := 0) (rm1 l Z a0 hw [] i3 h n0) hZ (hw _ (List.mem_of_getElem? (i := 4) rfl)) (hw _ (List.mem_of_getElem? (i := 3) rfl)) (by decide) (by decide)) (g := (mkF m 21 #[.val (.int i0), .val (.int i1), .val (.int i2), .val (.int i3), .val (.int i4), .val (.int ((i0 &&& (2147483647 : Int32)) % (5 : Int32))), .val (.int (f1_0 i1)), .val (.int (f1_0 i2)), .unset, .unset, .unset, .unset] [(.int i3)])) rfl (by rw [hml]; rfl) (argsL := [(.int i3)]) (rest := []) (lenOf pdm_0 rfl) rfl (by show 2 * 0 + _ ≤ _; exact Nat.le_of_eq rfl) (hb hby at_21) (fun _ _ => ⟨rfl, e29, (by show cells + 0 + 0 + 0 ≤ 16; omega), (by show slots + 0 + 0 + 0 ≤ 128; omega)⟩)
  dsimp only [Pt.U, Pt.locs, Pt.cells, Pt.slots] at X30 l30 y30 z30 st30 hQ30
  have yy30 : k30 = cells + 0 + 0 + 0 := y30
  have zz30 : n30 = slots + 0 + 0 + 0 := z30
  rw [yy30, zz30] at X30
  subst l30
  obtain ⟨rfl, N30q, e30⟩ := hQ30
  have N30 := Fr.app N29 N30q
  refine own_step st30 ?_
  show own_Fin p e below s Q 16 128 (T30.setTop (mkF m 24 #[.val (.int i0), .val (.int i1), .val (.int i2), .val (.int i3), .val (.int i4), .val (.int ((i0 &&& (2147483647 : Int32)) % (5 : Int32))), .val (.int (f1_0 i1)), .val (.int (f1_0 i2)), .unset, .unset, .unset, .unset] [(.int (f1_0 i3))]))
  refine own_step (fun t k => XS.istore X30.here hx rfl (hb hby at_24) rfl (l' := #[.val (.int i0), .val (.int i1), .val (.int i2), .val (.int i3), .val (.int i4), .val (.int ((i0 &&& (2147483647 : Int32)) % (5 : Int32))), .val (.int (f1_0 i1)), .val (.int (f1_0 i2)), .val (.int (f1_0 i3)), .unset, .unset, .unset]) rfl k) ?_
  show own_Fin p e below s Q 16 128 (T30.setTop (mkF m 26 #[.val (.int i0), .val (.int i1), .val (.int i2), .val (.int i3), .val (.int i4), .val (.int ((i0 &&& (2147483647 : Int32)) % (5 : Int32))), .val (.int (f1_0 i1)), .val (.int (f1_0 i2)), .val (.int (f1_0 i3)), .unset, .unset, .unset] []))
  refine own_step (fun t k => XS.iload X30.here hx rfl (hb hby at_26) rfl  k) ?_
  show own_Fin p e below s Q 16 128 (T30.setTop (mkF m 28 #[.val (.int i0), .val (.int i1), .val (.int i2), .val (.int i3), .val (.int i4), .val (.int ((i0 &&& (2147483647 : Int32)) % (5 : Int32))), .val (.int (f1_0 i1)), .val (.int (f1_0 i2)), .val (.int (f1_0 i3)), .unset, .unset, .unset] [(.int i4)]))
  obtain ⟨_, _, ⟨T31, L31, k31, n31⟩, -, X31, ⟨Lc31, hQ31, l31, y31, z31⟩, st31⟩ := Jvm.LawKit.callS X30 hx (y := (⟨"com/example/endorse/endorse/ManifestSectionCanHoldPinLaw", "draw", "(I)B"⟩ : MethodName)) hown (mvT hZ (hw _ (List.mem_of_getElem? (i := 1) rfl))) (mvT hZ (hw _ (List.mem_of_getElem? (i := 2) rfl))) (mvT hZ (hw _ (List.mem_of_getElem? (i := 3) rfl))) (mvT hZ (hw _ (List.mem_of_getElem? (i := 4) rfl))) (by decide) (backOf (W := 0) (rm1 l Z a0 hw [] i4 h n0) hZ (hw _ (List.mem_of_getElem? (i := 4) rfl)) (hw _ (List.mem_of_getElem? (i := 3) rfl)) (by decide) (by decide)) (g := (mkF m 28 #[.val (.int i0), .val (.int i1), .val (.int i2), .val (.int i3), .val (.int i4), .val (.int ((i0 &&& (2147483647 : Int32)) % (5 : Int32))), .val (.int (f1_0 i1)), .val (.int (f1_0 i2)), .val (.int (f1_0 i3)), .unset, .unset, .unset] [(.int i4)])) rfl (by rw [hml]; rfl) (argsL := [(.int i4)]) (rest := []) (lenOf pdm_0 rfl) rfl (by show 2 * 0 + _ ≤ _; exact Nat.le_of_eq rfl) (hb hby at_28) (fun _ _ => ⟨rfl, e30, (by show cells + 0 + 0 + 0 + 0 ≤ 16; omega), (by show slots + 0 + 0 + 0 + 0 ≤ 128; omega)⟩)
  dsimp only [Pt.U, Pt.locs, Pt.cells, Pt.slots] at X31 l31 y31 z31 st31 hQ31
  have yy31 : k31 = cells + 0 + 0 + 0 + 0 := y31
  have zz31 : n31 = slots + 0 + 0 + 0 + 0 := z31
  rw [yy31, zz31] at X31
  subst l31
  obtain ⟨rfl, N31q, e31⟩ := hQ31
  have N31 := Fr.app N30 N31q
  refine own_step st31 ?_
  show own_Fin p e below s Q 16 128 (T31.setTop (mkF m 31 #[.val (.int i0), .val (.int i1), .val (.int i2), .val (.int i3), .val (.int i4), .val (.int ((i0 &&& (2147483647 : Int32)) % (5 : Int32))), .val (.int (f1_0 i1)), .val (.int (f1_0 i2)), .val (.int (f1_0 i3)), .unset, .unset, .unset] [(.int (f1_0 i4))]))
  refine own_step (fun t k => XS.istore X31.here hx rfl (hb hby at_31) rfl (l' := #[.val (.int i0), .val (.int i1), .val (.int i2), .val (.int i3), .val (.int i4), .val (.int ((i0 &&& (2147483647 : Int32)) % (5 : Int32))), .val (.int (f1_0 i1)), .val (.int (f1_0 i2)), .val (.int (f1_0 i3)), .val (.int (f1_0 i4)), .unset, .unset]) rfl k) ?_
  exact b0_33 i0 i1 i2 i3 i4 ((i0 &&& (2147483647 : Int32)) % (5 : Int32)) (f1_0 i1) (f1_0 i2) (f1_0 i3) (f1_0 i4) hw X31 hx hZ hby hml hown hret hlk e31 N31 (by omega) (by omega) (own_n _) (own_drn _) (own_drn _) (own_drn _) (own_drn _) Z0 hQ
theorem pdm_3 : parseMethodDescriptor "(IIIII)Z" = some ⟨[.int, .int, .int, .int, .int], some .boolean⟩ := by decide +kernel
theorem ef_0 (m : MethodId) (i0 : Int32) (i1 : Int32) (i2 : Int32) (i3 : Int32) (i4 : Int32) : entryFrame m #[(.int i0), (.int i1), (.int i2), (.int i3), (.int i4)] maxLocals = (mkF m 0 #[.val (.int i0), .val (.int i1), .val (.int i2), .val (.int i3), .val (.int i4), .unset, .unset, .unset, .unset, .unset, .unset, .unset] []) := by first | (simp [entryFrame, mkF, argsToLocals, Value.category, maxLocals]; done) | rfl
def Q0 (i0 : Int32) (i1 : Int32) (i2 : Int32) (i3 : Int32) (i4 : Int32) (h0 : Heap) (n0 : Nat) (v : Option Value) (h : Heap) (L : List Loc) : Prop := v = some (.int 1) ∧ Fr n0 L
set_option maxRecDepth 65536 in
set_option maxHeartbeats 4000000 in
theorem rm0 (l : Launch) (Z : State) (a0 : Array Value) (hw : ∀ d ∈ tables_1, d.before a0 Z = true) (ws : List Jvm.Cond) (i0 : Int32) (i1 : Int32) (i2 : Int32) (i3 : Int32) (i4 : Int32) (h0 : Heap) (n0 : Nat) (Z0 : n0 ≤ h0.size) :
    MetFree l x (head1 (Jvm.Cond.code x code maxLocals ret :: ws) room_1) (fun a U => a = #[(.int i0), (.int i1), (.int i2), (.int i3), (.int i4)] ∧ Z.Warmed39 U.vm ∧ U.heap = h0) (fun _ _ _ _ _ => True) (fun _ U o U' => ∃ v L, o = .returned v ∧ Q0 i0 i1 i2 i3 i4 h0 n0 v U'.heap L ∧ FrameEnd U o U' L 16 128) := by
  refine MetFree.of_bodySF (plainFor_of_name pnm_0) hisR ?_
  intro p e s m args below meth c s₁ Bd hml0 hP hK
  obtain ⟨rfl, hZ, hh⟩ := hP
  have hx := Bd.exec
  have hby := Bd.bytes
  have hml : c.maxLocals = 12 := hml0
  have hown : s.vm.findClass "com/example/endorse/endorse/ManifestSectionCanHoldPinLaw" = some m.cls := findClass_of_methodNamed Bd.named
  have X0 : Stand p l e room_1 s m #[(.int i0), (.int i1), (.int i2), (.int i3), (.int i4)] below meth c s₁ [] 0 0 := Stand.of_body Bd
  have e0 : s₁.heap = h0 := by rw [← hh, Bd.state]; rfl
  have fin := b0_0 i0 i1 i2 i3 i4 (Q := Q0 i0 i1 i2 i3 i4 h0 n0) hw X0 hx hZ hby hml hown Bd.returns (BodyLoose.notSynchronized Bd) e0 (Fr.nil n0) (Nat.zero_le _) (Nat.zero_le _) Z0 (fun H' L' n' => ⟨rfl, n'⟩)
  exact own_step (fun t k => castTop (ef_0 m i0 i1 i2 i3 i4) k) fin
set_option maxRecDepth 65536 in
set_option maxHeartbeats 40000000 in
theorem comes_1 {Post : Tables → Env → Array Value → State → Outcome → State → Prop} (hpost : ∀ tb e args s v u, (limb_1_1.after args s (.returned v) u = true ∧ limb_1_2.after args s (.returned v) u = true ∧ True) → FrameEnd s (.returned v) u (Jvm.fieldLocs frame_1_writes args s ++ Jvm.arrayLocs frame_1_arrays args s ++ Jvm.staticLocs frame_1_statics s) 16 128 → Post tb e args s (.returned v) u) :
    ArmFor flags0 classFile x code maxLocals ret World_1 tables_1 room_1 Calls_1 rest_1 Pre_1 Post := by
  intro l hfl _ _ p e ha hc hk s m args below hf hA hF happ hP
  obtain ⟨hcalls, hrest, hpre⟩ := hP
  obtain ⟨-, -, -, hnamed, -, -, -, hat⟩ := (Spec.applies_iff hf).mp happ
  obtain ⟨hg, hn⟩ := and_e (Cond.before_iff.mp (show (Jvm.Cond.and given_1 narrow_1).before args s = true from hpre))
  obtain ⟨g1, g2⟩ := and_e hg
  obtain ⟨g3, g4⟩ := and_e g2
  obtain ⟨g5, g6⟩ := and_e g4
  obtain ⟨g7, g8⟩ := and_e g6
  obtain ⟨g9, g10⟩ := and_e g8
  obtain ⟨w0, w1, w2, w3, w4, rfl⟩ : ∃ w0 w1 w2 w3 w4 : Value, args = #[w0, w1, w2, w3, w4] := by
    have hs : args.size = 5 := by simpa [Cond.value, given_1] using g1
    obtain ⟨L⟩ := args
    match L, hs with
    | [w0, w1, w2, w3, w4], _ => exact ⟨w0, w1, w2, w3, w4, rfl⟩
  have hw := fun d (hd : d ∈ tables_1) => atoms_spec (ws := Jvm.Cond.code x code maxLocals ret :: tables_1) hat d (List.mem_cons_of_mem _ hd)
  obtain ⟨i0, ei0⟩ := is_v g3
  obtain rfl : w0 = (.int i0) := Option.some.inj ei0
  obtain ⟨i1, ei1⟩ := is_v g5
  obtain rfl : w1 = (.int i1) := Option.some.inj ei1
  obtain ⟨i2, ei2⟩ := is_v g7
  obtain rfl : w2 = (.int i2) := Option.some.inj ei2
  obtain ⟨i3, ei3⟩ := is_v g9
  obtain rfl : w3 = (.int i3) := Option.some.inj ei3
  obtain ⟨i4, ei4⟩ := is_v g10
  obtain rfl : w4 = (.int i4) := Option.some.inj ei4
  obtain ⟨n, o, h1, h2, h3, _, L, rfl, ⟨hval, N⟩, hq⟩ := rm0 l s _ hw tables_1 i0 i1 i2 i3 i4 s.heap s.heap.size (Nat.le_refl _) p e ha hc hk s m _ below hf ((Spec.applies_iff_loose hf).mp happ).1 ⟨rfl, State.Warmed39.refl s, rfl⟩ trivial
  subst hval
  refine ⟨n, _, h1, h2, h3, hpost _ _ _ _ _ _ ⟨Cond.after_iff.mpr rfl, Cond.after_iff.mpr (eq_i res_at (Term.int_eval (1)) rfl), trivial⟩ ⟨hq.1, hq.2.1, (hq.2.2.sift fun y hy => Or.inr (N y hy)).mono (by decide) (by decide)⟩⟩
theorem main_1_1 : Claimed_1_1 := comes_1 fun _ _ _ _ _ _ h hF => ⟨h.1, hF⟩
theorem main_1_2 : Claimed_1_2 := comes_1 fun _ _ _ _ _ _ h hF => ⟨h.2.1, hF⟩
end Jvm.Pilot.@@N@@
namespace Jvm.Pilot.@@N@@
open Jvm Jvm.ClassFile Sem Op Lib Jvm.Free Jvm.Stand Jvm.Pilot.@@N@@.Jvm.D
/-! MADE BY PROGRAM (witnessworld.py) out of the Statement's table words and the real class files: 9 classes; the members and pool entries that the words name. The judged class is class 1, her method 3. -/
namespace start1
open Jvm.ClassFile
def u (s : String) : CpInfo := .utf8 (stringToUtf16 s)
/-- a pool by its gaps: so many unusable entries, then the entry; so many at the end -/
def gap : Nat → List CpInfo → List CpInfo
  | 0, r => r
  | n + 1, r => .unusable :: gap n r
def poolList (es : List (Nat × CpInfo)) (last : Nat) : List CpInfo := es.foldr (fun e r => gap e.1 (e.2 :: r)) (gap last [])
def pool (es : List (Nat × CpInfo)) (last : Nat) : Array CpInfo := ⟨poolList es last⟩
def fileOf (pool : Array CpInfo) (this : Nat) (attrs : Array Attribute := #[]) (ms : Array MethodInfo := #[]) (fl : Nat := 33) (sup : Nat := 0) (ifs : Array Nat := #[]) (fds : Array FieldInfo := #[]) : ClassFile where
  minorVersion := 0
  majorVersion := 65
  constantPool := pool
  accessFlags := fl
  thisClass := this
  superClass := sup
  interfaces := ifs
  fields := fds
  methods := ms
  attributes := attrs
def plain (name : String) (sup : Option ClassId) : Class where
  name := name
  kind := .ordinary
  loader := none
  accessFlags := 33
  super := sup
  interfaces := #[]
  cf := none
  fields := #[]
  methods := #[]
  instanceTypes := #[]
  staticTypes := #[]
  resolved := #[]
  callSites := []
  init := .initialized
  statics := none
  mirror := none

def pool0 : Array CpInfo := pool [(5, u "<init>"), (0, u "()V"), (1, .class_ 10), (1, u "java/lang/Object")] 113

def k0m0 : Method := { name := "<init>", desc := "()V", sig := { parameters := [], returnType := none }, accessFlags := 1, code := none }
/-- java/lang/Object -/
def k0 : Class := { plain "java/lang/Object" none with
  accessFlags := 33
  interfaces := #[]
  cf := some (fileOf pool0 8 #[] #[{ accessFlags := 1, nameIndex := 5, descriptorIndex := 6, attributes := #[] }] 33 0 #[] #[])
  fields := #[]
  methods := #[k0m0]
  instanceTypes := #[]
  staticTypes := #[]
  resolved := Array.replicate 124 none
  statics := none }

def pool1 : Array CpInfo := pool [(2, .class_ 4), (1, u "java/lang/Object"), (0, u "<init>"), (0, u "()V"), (0, .integer 2147483647), (0, .methodref 9 10), (0, .class_ 11), (0, .nameAndType 12 13), (0, u "com/example/endorse/endorse/ManifestSectionCanHoldPinLaw"), (0, u "draw"), (0, u "(I)B"), (0, .methodref 9 15), (0, .nameAndType 16 17), (0, u "ok"), (0, u "(B)Z"), (0, .methodref 19 20), (0, .class_ 21), (0, .nameAndType 22 23), (0, u "com/example/endorse/endorse/ManifestSection"), (0, u "canHold"), (0, u "([B)Z"), (3, u "law"), (0, u "(IIIII)Z")] 4

def k1m0 : Method := { name := "<init>", desc := "()V", sig := { parameters := [], returnType := none }, accessFlags := 1, code := none }
def k1c1 : Code := { maxStack := 2, maxLocals := 2, code := method_2_code, exceptionTable := #[], attributes := #[] }
def k1m1 : Method := { name := "draw", desc := "(I)B", sig := { parameters := [.int], returnType := some .byte }, accessFlags := 10, code := some k1c1 }
def k1c2 : Code := { maxStack := 2, maxLocals := 1, code := method_3_code, exceptionTable := #[], attributes := #[] }
def k1m2 : Method := { name := "ok", desc := "(B)Z", sig := { parameters := [.byte], returnType := some .boolean }, accessFlags := 10, code := some k1c2 }
def k1c3 : Code := { maxStack := 4, maxLocals := 12, code := code, exceptionTable := #[], attributes := #[] }
def k1m3 : Method := { name := "law", desc := "(IIIII)Z", sig := { parameters := [.int, .int, .int, .int, .int], returnType := some .boolean }, accessFlags := 9, code := some k1c3 }
/-- com/example/endorse/endorse/ManifestSectionCanHoldPinLaw -/
def k1 : Class := { plain "com/example/endorse/endorse/ManifestSectionCanHoldPinLaw" (some 0) with
  accessFlags := 49
  interfaces := #[]
  cf := some (fileOf pool1 9 #[] #[{ accessFlags := 1, nameIndex := 5, descriptorIndex := 6, attributes := #[] }, { accessFlags := 10, nameIndex := 12, descriptorIndex := 13, attributes := #[] }, { accessFlags := 10, nameIndex := 16, descriptorIndex := 17, attributes := #[] }, { accessFlags := 9, nameIndex := 27, descriptorIndex := 28, attributes := #[] }] 49 2 #[] #[])
  fields := #[]
  methods := #[k1m0, k1m1, k1m2, k1m3]
  instanceTypes := #[]
  staticTypes := #[]
  resolved := Array.replicate 33 none
  statics := none }

def pool2 : Array CpInfo := pool [(2, .class_ 4), (1, u "java/lang/Object"), (0, u "<init>"), (0, u "()V"), (4, .class_ 13), (1, u "com/example/endorse/endorse/ManifestSection"), (0, u "lines"), (0, u "Ljava/io/ByteArrayOutputStream;"), (2, u "canHold"), (0, u "([B)Z"), (10, u "[B"), (14, u "SEPARATOR"), (8, u "LINE_SIZE"), (0, u "I"), (12, u "LINE_END")] 40

def k2m0 : Method := { name := "<init>", desc := "()V", sig := { parameters := [], returnType := none }, accessFlags := 0, code := none }
def k2c1 : Code := { maxStack := 2, maxLocals := 5, code := prog_42_method_2_code, exceptionTable := #[], attributes := #[] }
def k2m1 : Method := { name := "canHold", desc := "([B)Z", sig := { parameters := [(.array .byte)], returnType := some .boolean }, accessFlags := 8, code := some k2c1 }
/-- com/example/endorse/endorse/ManifestSection -/
def k2 : Class := { plain "com/example/endorse/endorse/ManifestSection" (some 0) with
  accessFlags := 48
  interfaces := #[]
  cf := some (fileOf pool2 11 #[] #[{ accessFlags := 0, nameIndex := 5, descriptorIndex := 6, attributes := #[] }, { accessFlags := 8, nameIndex := 18, descriptorIndex := 19, attributes := #[] }] 48 2 #[] #[{ accessFlags := 26, nameIndex := 45, descriptorIndex := 30, attributes := #[] }, { accessFlags := 26, nameIndex := 68, descriptorIndex := 30, attributes := #[] }, { accessFlags := 26, nameIndex := 54, descriptorIndex := 55, attributes := #[] }, { accessFlags := 18, nameIndex := 14, descriptorIndex := 15, attributes := #[] }])
  fields := #[{ name := "SEPARATOR", type := (.array .byte), accessFlags := 26, slot := 0, constantValue := 0 }, { name := "LINE_END", type := (.array .byte), accessFlags := 26, slot := 1, constantValue := 0 }, { name := "LINE_SIZE", type := .int, accessFlags := 26, slot := 2, constantValue := 0 }, { name := "lines", type := (.object "java/io/ByteArrayOutputStream"), accessFlags := 18, slot := 0, constantValue := 0 }]
  methods := #[k2m0, k2m1]
  instanceTypes := #[(.object "java/io/ByteArrayOutputStream")]
  staticTypes := #[(.array .byte), (.array .byte), .int]
  resolved := Array.replicate 109 none
  statics := none }

def pool3 : Array CpInfo := pool [(1, u "java/lang/Cloneable"), (0, .class_ 1), (0, u "java/lang/Object"), (0, .class_ 3)] 3

/-- java/lang/Cloneable -/
def k3 : Class := { plain "java/lang/Cloneable" (some 0) with
  accessFlags := 1537
  interfaces := #[]
  cf := some (fileOf pool3 2 #[] #[] 1537 4 #[] #[])
  fields := #[]
  methods := #[]
  instanceTypes := #[]
  staticTypes := #[]
  resolved := Array.replicate 8 none
  statics := none }

def pool4 : Array CpInfo := pool [(1, u "java/io/Serializable"), (0, .class_ 1), (0, u "java/lang/Object"), (0, .class_ 3)] 3

/-- java/io/Serializable -/
def k4 : Class := { plain "java/io/Serializable" (some 0) with
  accessFlags := 1537
  interfaces := #[]
  cf := some (fileOf pool4 2 #[] #[] 1537 4 #[] #[])
  fields := #[]
  methods := #[]
  instanceTypes := #[]
  staticTypes := #[]
  resolved := Array.replicate 8 none
  statics := none }

/-- the primitive byte -/
def k5 : Class := { plain "byte" none with kind := .primitive 'B', accessFlags := 0x411 }
/-- [B -/
def k6 : Class := { plain "[B" (some 0) with kind := .array 5 .byte, interfaces := #[3, 4], accessFlags := 1041 }

/-- the primitive int -/
def k7 : Class := { plain "int" none with kind := .primitive 'I', accessFlags := 0x411 }
/-- [I -/
def k8 : Class := { plain "[I" (some 0) with kind := .array 7 .int, interfaces := #[3, 4], accessFlags := 1041 }

def heap : Heap := #[]
def classes : Array Class := #[k0, k1, k2, k3, k4, k5, k6, k7, k8]
def interned : List (Array UInt16 × Addr) := []
def slotsUsed : Nat := 0
def theMethod : MethodId := ⟨1, 3⟩
def args0 : Array Value := #[.int 5, .int 5, .int 5, .int 5, .int 5]
def aboutOver (below : List Frame) : State where
  vm := { classes := classes, interned := interned.toArray }
  heap := heap
  slotsUsed := slotsUsed
  threads := #[{ frames := .invoking theMethod args0 :: below }]
def below0 : List Frame := [.native { method := ⟨0, 0⟩, args := #[] }]
def about1 : State := aboutOver below0
def p0 : Program := .bare "" "" ""
def e0 : Env := launch0.env 0 0 0
theorem w_frames : about1.frames = Frame.invoking theMethod args0 :: below0 := rfl
set_option maxRecDepth 65536 in
theorem w_args : argsFit about1.vm theMethod args0 = true := by decide +kernel
set_option maxRecDepth 65536 in
theorem w_heap : heapFits about1 = true := by decide +kernel
set_option maxRecDepth 65536 in
theorem w_runnable : about1.curStatus? = some .runnable := by decide +kernel
set_option maxRecDepth 65536 in
theorem w_alone : about1.alone = true := by decide +kernel
set_option maxRecDepth 65536 in
theorem w_named : about1.methodNamed? x = some theMethod := by decide +kernel
set_option maxRecDepth 65536 in
theorem w_hears : about1.hears theMethod below0 = true := by decide +kernel
set_option maxRecDepth 65536 in
theorem w_ripe : about1.ripe theMethod args0 below0 = true := by decide +kernel
theorem w_running : about1.status = .running := rfl
set_option maxRecDepth 65536 in
theorem w_room : about1.hasRoom e0.platform room_1 = true :=
  launch0.hasRoom_least _ room_1 (by decide +kernel) (by decide +kernel) (by decide +kernel) (by decide +kernel) (by decide +kernel) (by decide +kernel)
theorem allAtoms_all (ts : List Jvm.Cond) (a : Array Jvm.Value) (st : Jvm.State) : (allAtoms ts).before a st = ts.all (fun c => c.before a st) := by
  induction ts with
  | nil => rfl
  | cons c t ih =>
    show (Jvm.Cond.and c (allAtoms t)).before a st = _
    rw [Jvm.Cond.before_and, ih, List.all_cons]
def words1 : List Jvm.Cond := Jvm.Cond.code x code maxLocals ret :: tables_1
/-- a 'code' word, met by the world's own term for the bytes: nothing is compared byte by byte -/
theorem code_word {y : MethodName} {bytes : ByteArray} {mx : Nat} {rt : Option FieldType} {a : Array Value} {s : State} {m : MethodId} {meth : Method} {c : Code} (h1 : s.methodNamed? y = some m) (h2 : s.vm.method? m = some meth) (h3 : meth.code = some c) (h4 : c.code = bytes)
    (h5 : (c.maxLocals == mx && c.exceptionTable.isEmpty && decide (c.maxStack ≤ mostOperands) && decide (meth.sig.returnType = rt) && !meth.locks && decide (parseMethodDescriptor y.desc = some meth.sig)) = true) : (Jvm.Cond.code y bytes mx rt).before a s = true := by
  simp only [Bool.and_eq_true, beq_iff_eq, Bool.not_eq_true', decide_eq_true_eq] at h5
  obtain ⟨⟨⟨⟨⟨g1, g2⟩, g3⟩, g4⟩, g5⟩, g6⟩ := h5
  simp [Cond.before, Cond.holds, Cond.value, h1, h2, h3, h4, g1, g2, g3, g4, g5, g6]
def isCode : Jvm.Cond → Bool
  | .code _ _ _ _ => true
  | _ => false
theorem all_split {L : List Jvm.Cond} {P : Jvm.Cond → Bool} (h1 : L.all (fun c => isCode c || P c) = true) (h2 : ∀ c ∈ L.filter isCode, P c = true) : L.all P = true := by
  refine List.all_eq_true.mpr fun c hc => ?_
  have h := List.all_eq_true.mp h1 c hc
  rcases Bool.eq_false_or_eq_true (isCode c) with hi | hi
  · exact h2 c (List.mem_filter.mpr ⟨hc, hi⟩)
  · simpa [hi] using h
set_option maxRecDepth 65536 in
theorem w_c0 : (Jvm.Cond.code x code maxLocals ret).before args0 about1 = true := code_word (m := ⟨1, 3⟩) (meth := k1m3) (c := k1c3) (by decide +kernel) rfl rfl rfl (by decide +kernel)
set_option maxRecDepth 65536 in
theorem w_c1 : (Jvm.Cond.code ({ cls := "com/example/endorse/endorse/ManifestSectionCanHoldPinLaw", name := "draw", desc := "(I)B" } : Jvm.MethodName) method_2_code (2 : Nat) (Option.some Jvm.ClassFile.FieldType.byte)).before args0 about1 = true := code_word (m := ⟨1, 1⟩) (meth := k1m1) (c := k1c1) (by decide +kernel) rfl rfl rfl (by decide +kernel)
set_option maxRecDepth 65536 in
theorem w_c2 : (Jvm.Cond.code ({ cls := "com/example/endorse/endorse/ManifestSection", name := "canHold", desc := "([B)Z" } : Jvm.MethodName) prog_42_method_2_code (5 : Nat) (Option.some Jvm.ClassFile.FieldType.boolean)).before args0 about1 = true := code_word (m := ⟨2, 1⟩) (meth := k2m1) (c := k2c1) (by decide +kernel) rfl rfl rfl (by decide +kernel)
set_option maxRecDepth 65536 in
theorem w_c3 : (Jvm.Cond.code ({ cls := "com/example/endorse/endorse/ManifestSectionCanHoldPinLaw", name := "ok", desc := "(B)Z" } : Jvm.MethodName) method_3_code (1 : Nat) (Option.some Jvm.ClassFile.FieldType.boolean)).before args0 about1 = true := code_word (m := ⟨1, 2⟩) (meth := k1m2) (c := k1c2) (by decide +kernel) rfl rfl rfl (by decide +kernel)
def codes1 : List Jvm.Cond := [Jvm.Cond.code x code maxLocals ret, Jvm.Cond.code ({ cls := "com/example/endorse/endorse/ManifestSectionCanHoldPinLaw", name := "draw", desc := "(I)B" } : Jvm.MethodName) method_2_code (2 : Nat) (Option.some Jvm.ClassFile.FieldType.byte), Jvm.Cond.code ({ cls := "com/example/endorse/endorse/ManifestSection", name := "canHold", desc := "([B)Z" } : Jvm.MethodName) prog_42_method_2_code (5 : Nat) (Option.some Jvm.ClassFile.FieldType.boolean), Jvm.Cond.code ({ cls := "com/example/endorse/endorse/ManifestSectionCanHoldPinLaw", name := "ok", desc := "(B)Z" } : Jvm.MethodName) method_3_code (1 : Nat) (Option.some Jvm.ClassFile.FieldType.boolean)]
set_option maxRecDepth 65536 in
theorem codes_eq : words1.filter isCode = codes1 := rfl
theorem w_codes : ∀ c ∈ words1.filter isCode, c.before args0 about1 = true := by
  rw [codes_eq]
  intro c hc
  simp only [codes1, List.mem_cons, List.not_mem_nil, or_false] at hc
  rcases hc with rfl | rfl | rfl | rfl
  · exact w_c0
  · exact w_c1
  · exact w_c2
  · exact w_c3
set_option maxRecDepth 65536 in
theorem w_t1 : words1.all (fun c => isCode c || c.before args0 about1) = true := by decide +kernel
theorem w_tables : (allAtoms (Jvm.Cond.code x code maxLocals ret :: tables_1)).before args0 about1 = true := by
  rw [allAtoms_all]
  show words1.all (fun c => c.before args0 about1) = true
  refine all_split ?_ w_codes
  rw [w_t1]
set_option maxRecDepth 65536 in
theorem w_case : (Jvm.Cond.and given_1 narrow_1).before args0 about1 = true := by decide +kernel
theorem w_applies : (headSpec (Jvm.Cond.code x code maxLocals ret :: tables_1) room_1).applies x e0.platform about1 = true :=
  (Spec.applies_iff w_frames).mpr ⟨w_running, w_runnable, w_alone, w_named, w_hears, w_ripe, w_room, w_tables⟩
theorem atStart : AtStart classFile x code maxLocals ret World_1 tables_1 room_1 Calls_1 rest_1 Pre_1 launch0 p0 e0 about1 theMethod args0 below0 :=
  ⟨lists_1, trivial, launch0.admits_env _ _ _, launch0.least_env, fairChoices_fair.cas, fairChoices_fair.clock, w_frames, w_args, w_heap, w_applies, trivial, trivial, w_case⟩
end start1
theorem witness_1 : WitnessClaimed_1 := ⟨start1.p0, start1.e0, start1.about1, start1.theMethod, start1.args0, start1.below0, start1.atStart⟩
end Jvm.Pilot.@@N@@

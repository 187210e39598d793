import JvmDerived
import JvmDerived.Pilot.@@N@@Statement
import JvmDerived.Pilot.@@N@@Code
set_option linter.unusedVariables false
set_option linter.unusedSimpArgs false
namespace Jvm.RoadKit
open Sem ClassFile Op Lib Jvm.Stand Jvm.Free Jvm.LawKit
section New
variable {p : Program} {l : Launch} {e : Env} {R : Room} {s : State} {m : MethodId} {args : Array Value} {below : List Frame} {meth : Method} {c : Code} {T : State} {locs : List Loc} {cells slots : Nat}
theorem retI (X : Stand p l e R s m args below meth c T locs cells slots) (hx : p.tables.exec = Jvm.exec) {pc : Nat} {Ls : Array Slot} {z : Int32} {rest : List Value} (hret : meth.sig.returnType = some .int) (hd : decode c.code pc = .ok (.ireturn, 1)) {fs : List Frame}
    (hl : ∀ (f : JFrame) (acts : List Action), f.method = m → f.locked = none → f.entered = [] → (doReturn e (T.setTop f) acts (some (.int z))).1 = T.setFrames fs) : Steps p.tables e below (T.setTop (mkF m pc Ls (.int z :: rest))) (T.setFrames fs) := by
  have hm' : T.vm.method? m = some meth := X.method'
  have hn : narrow .int (.int z) = .int z := rfl
  show Steps p.tables e below (T.setTop { method := m, pc := pc, locals := Ls, stack := _ :: rest, locked := none }) _
  jvm_step X.here [X.here.top, hx, hd, hm', hret, hn]
  first | (intro acts; rw [hl _ acts rfl rfl rfl]) | rw [hl _ _ rfl rfl rfl]
  exact Steps.refl _
end New
end Jvm.RoadKit
namespace Jvm.Pilot.@@N@@
open Jvm Jvm.ClassFile Sem Op Lib Jvm.Free Jvm.Stand Jvm.LawKit Jvm.RoadKit Bundle Jvm.Pilot.@@N@@.Jvm.D
section OwnKit
variable {p : Program} {l : Launch} {e : Env} {R : Room} {s : State} {m : MethodId} {args : Array Value} {below : List Frame} {meth : Method} {c : Code} {T : State} {locs : List Loc} {cells slots : Nat}
/-- what a body owes from the state A on: it comes to its return, and what it returned, the heap and the written places satisfy Q -/
def own_Fin (p : Program) (e : Env) (below : List Frame) (s : State) (Q : Option Value → Heap → List Loc → Prop) (rc rs : Nat) (A : State) : Prop :=
  ∃ s₂ o, Steps p.tables e below A s₂ ∧ s₂.status = .running ∧ Ended s₂ below o ∧ ∃ v L, o = .returned v ∧ Q v s₂.heap L ∧ FrameEnd s o s₂ L rc rs
theorem own_step {Q : Option Value → Heap → List Loc → Prop} {rc rs : Nat} {A B : State} (k : ∀ t, Steps p.tables e below B t → Steps p.tables e below A t) (h : own_Fin p e below s Q rc rs B) : own_Fin p e below s Q rc rs A := by
  obtain ⟨s₂, o, h1, h2⟩ := h
  exact ⟨s₂, o, k _ h1, h2⟩
theorem own_retN (X : Stand p l e R s m args below meth c T locs cells slots) (hx : p.tables.exec = Jvm.exec) (hlk : meth.locks = false) {Q : Option Value → Heap → List Loc → Prop} {rc rs n0 : Nat} {h : Heap} {pc : Nat} {Ls : Array Slot} {z v : Int32} {t : FieldType} {rest : List Value} (hret : meth.sig.returnType = some t) (ht : t = .boolean ∨ t = .byte ∨ t = .char ∨ t = .short)
    (hd : decode c.code pc = .ok (.ireturn, 1)) (hc : cells ≤ rc) (hs : slots ≤ rs) (eT : T.heap = h) (N : Fr n0 locs) (hQ : ∀ L', Fr n0 L' → Q (some (.int v)) h L') (hv : v = nar t z) :
    own_Fin p e below s Q rc rs (T.setTop (mkF m pc Ls (.int z :: rest))) := by
  subst hv
  obtain ⟨fs, hr, hrun, hended, hW, hsame⟩ := X.leave (v := some (.int (nar t z))) (fun h => by rw [hret] at h; cases h) hlk
  refine ⟨_, _, retN X hx hret ht hd hr, hrun, hended, _, _, rfl, ?_, ⟨_, rfl⟩, hW, hsame.mono hc hs⟩
  show Q _ T.heap _
  rw [eT]
  exact hQ _ N
theorem own_retI (X : Stand p l e R s m args below meth c T locs cells slots) (hx : p.tables.exec = Jvm.exec) (hlk : meth.locks = false) {Q : Option Value → Heap → List Loc → Prop} {rc rs n0 : Nat} {h : Heap} {pc : Nat} {Ls : Array Slot} {z v : Int32} {rest : List Value} (hret : meth.sig.returnType = some .int)
    (hd : decode c.code pc = .ok (.ireturn, 1)) (hc : cells ≤ rc) (hs : slots ≤ rs) (eT : T.heap = h) (N : Fr n0 locs) (hQ : ∀ L', Fr n0 L' → Q (some (.int v)) h L') (hv : v = z) :
    own_Fin p e below s Q rc rs (T.setTop (mkF m pc Ls (.int z :: rest))) := by
  subst hv
  obtain ⟨fs, hr, hrun, hended, hW, hsame⟩ := X.leave (v := some (.int v)) (fun h => by rw [hret] at h; cases h) hlk
  refine ⟨_, _, retI X hx hret hd hr, hrun, hended, _, _, rfl, ?_, ⟨_, rfl⟩, hW, hsame.mono hc hs⟩
  show Q _ T.heap _
  rw [eT]
  exact hQ _ N
theorem own_ret0 (X : Stand p l e R s m args below meth c T locs cells slots) (hx : p.tables.exec = Jvm.exec) (hlk : meth.locks = false) {Q : Option Value → Heap → List Loc → Prop} {rc rs : Nat} {h : Heap} {pc : Nat} {Ls : Array Slot} (hret : meth.sig.returnType = none)
    (hd : decode c.code pc = .ok (.return_, 1)) (hc : cells ≤ rc) (hs : slots ≤ rs) (eT : T.heap = h) (hQ : Q none h locs) :
    own_Fin p e below s Q rc rs (T.setTop (mkF m pc Ls [])) := by
  obtain ⟨fs, hr, hrun, hended, hW, hsame⟩ := X.leave (v := none) (fun _ => rfl) hlk
  refine ⟨_, _, X.returnOut hx hret hd hr, hrun, hended, _, _, rfl, ?_, ⟨_, rfl⟩, hW, hsame.mono hc hs⟩
  show Q _ T.heap _
  rw [eT]
  exact hQ
end OwnKit
/-- an array of n ints (bytes, ..) at a: its i-th is g i -/
def own_AF (Z : State) (h : Heap) (a : Addr) (ty : FieldType) (n : Nat) (g : Nat → Int32) : Prop := ∃ c : Cell, Arr Z h a c ty ∧ c.slots.size = n ∧ ∀ i, i < n → c.slots[i]? = some (.int (g i))
def own_In (n : Nat) (j : Int32) : Prop := ¬ (j < 0 ∨ n ≤ j.toNatClampNeg)
theorem own_AF.lt {Z : State} {h : Heap} {a : Addr} {ty : FieldType} {n : Nat} {g : Nat → Int32} (F : own_AF Z h a ty n g) : a < h.size := by obtain ⟨c, A, -⟩ := F; exact A.lt
theorem own_AFext {Z : State} {h h' : Heap} {a : Addr} {ty : FieldType} {n : Nat} {g : Nat → Int32} (F : own_AF Z h a ty n g) (E : Ext h h') : own_AF Z h' a ty n g := by obtain ⟨c, A, r⟩ := F; exact ⟨c, A.ext E, r⟩
theorem own_AFoth {Z : State} {h h' : Heap} {a b : Addr} {sl : Nat} {v : Value} {ty : FieldType} {n : Nat} {g : Nat → Int32} (F : own_AF Z h b ty n g) (W : Wr h h' a sl v) (q : b ≠ a) : own_AF Z h' b ty n g := by obtain ⟨c, A, r⟩ := F; exact ⟨c, A.other W q, r⟩
theorem own_AFkeep {Z : State} {h h' : Heap} {a : Addr} {ws : List Addr} {ty : FieldType} {n : Nat} {g : Nat → Int32} (F : own_AF Z h a ty n g) (K : Keep h h' ws) (q : a ∉ ws) : own_AF Z h' a ty n g := by obtain ⟨c, A, r⟩ := F; exact ⟨c, ⟨K.2.1 a c A.1 q, A.2⟩, r⟩
theorem own_AFset {Z : State} {h h' : Heap} {a : Addr} {ty : FieldType} {n k : Nat} {g : Nat → Int32} {c : Cell} {x : Int32} (A : Arr Z h a c ty) (S : c.slots.size = n) (H : ∀ i, i < n → c.slots[i]? = some (.int (g i))) (W : Wr h h' a k (.int x)) : own_AF Z h' a ty n (fun i => if i = k then x else g i) := by
  obtain ⟨c', e1, e2, e3, e4, e5, e6, e7⟩ := wr_at W A.1
  refine ⟨c', ⟨e1, ?_⟩, e4.trans S, fun i hi => ?_⟩
  · rw [(e7 rfl).1]; exact A.2
  · by_cases q : i = k
    · subst q
      show c'.slots[i]? = some (.int (if i = i then x else g i))
      rw [if_pos rfl]
      exact (e7 rfl).2.1
    · show c'.slots[i]? = some (.int (if i = k then x else g i))
      rw [e6 i q, if_neg q]
      exact H i hi
theorem own_AFnew {Z : State} {h : Heap} {a : Addr} {k : ClassId} {ty : FieldType} {z : Int32} {n : Nat} (A : Arr Z h a (newA k ty z) ty) (hn : z.toNatClampNeg = n) (hd : defaultValue ty = .int 0 := by rfl) : own_AF Z h a ty n (fun _ => 0) :=
  ⟨_, A, (sz_new _ _ _).trans hn, fun i hi => by
    have hs : (newA k ty z).slots = Array.replicate z.toNatClampNeg (defaultValue ty) := rfl
    rw [hs, hn, hd]
    simp [hi]⟩
theorem own_eqi {x y : Int32} {b : Int} (h : y.toInt = b) : x = y ↔ x.toInt = b := by rw [← h]; exact Int32.toInt_inj.symm

theorem d1_0 : decode method_2_code 0 = .ok (.ldc 7, 2) := by decide +kernel
theorem d1_2 : decode method_2_code 2 = .ok (.istore_n 0, 1) := by decide +kernel
theorem d1_3 : decode method_2_code 3 = .ok (.iload_n 0, 1) := by decide +kernel
theorem d1_4 : decode method_2_code 4 = .ok (.istore_n 1, 1) := by decide +kernel
theorem d1_5 : decode method_2_code 5 = .ok (.iload_n 1, 1) := by decide +kernel
theorem d1_6 : decode method_2_code 6 = .ok (.iconst 2, 1) := by decide +kernel
theorem d1_7 : decode method_2_code 7 = .ok (.iload_n 0, 1) := by decide +kernel
theorem d1_8 : decode method_2_code 8 = .ok (.iload_n 1, 1) := by decide +kernel
theorem d1_9 : decode method_2_code 9 = .ok (.imul, 1) := by decide +kernel
theorem d1_10 : decode method_2_code 10 = .ok (.isub, 1) := by decide +kernel
theorem d1_11 : decode method_2_code 11 = .ok (.imul, 1) := by decide +kernel
theorem d1_12 : decode method_2_code 12 = .ok (.istore_n 1, 1) := by decide +kernel
theorem d1_13 : decode method_2_code 13 = .ok (.iload_n 1, 1) := by decide +kernel
theorem d1_14 : decode method_2_code 14 = .ok (.iconst 2, 1) := by decide +kernel
theorem d1_15 : decode method_2_code 15 = .ok (.iload_n 0, 1) := by decide +kernel
theorem d1_16 : decode method_2_code 16 = .ok (.iload_n 1, 1) := by decide +kernel
theorem d1_17 : decode method_2_code 17 = .ok (.imul, 1) := by decide +kernel
theorem d1_18 : decode method_2_code 18 = .ok (.isub, 1) := by decide +kernel
theorem d1_19 : decode method_2_code 19 = .ok (.imul, 1) := by decide +kernel
theorem d1_20 : decode method_2_code 20 = .ok (.istore_n 1, 1) := by decide +kernel
theorem d1_21 : decode method_2_code 21 = .ok (.iload_n 1, 1) := by decide +kernel
theorem d1_22 : decode method_2_code 22 = .ok (.iconst 2, 1) := by decide +kernel
theorem d1_23 : decode method_2_code 23 = .ok (.iload_n 0, 1) := by decide +kernel
theorem d1_24 : decode method_2_code 24 = .ok (.iload_n 1, 1) := by decide +kernel
theorem d1_25 : decode method_2_code 25 = .ok (.imul, 1) := by decide +kernel
theorem d1_26 : decode method_2_code 26 = .ok (.isub, 1) := by decide +kernel
theorem d1_27 : decode method_2_code 27 = .ok (.imul, 1) := by decide +kernel
theorem d1_28 : decode method_2_code 28 = .ok (.istore_n 1, 1) := by decide +kernel
theorem d1_29 : decode method_2_code 29 = .ok (.iload_n 1, 1) := by decide +kernel
theorem d1_30 : decode method_2_code 30 = .ok (.iconst 2, 1) := by decide +kernel
theorem d1_31 : decode method_2_code 31 = .ok (.iload_n 0, 1) := by decide +kernel
theorem d1_32 : decode method_2_code 32 = .ok (.iload_n 1, 1) := by decide +kernel
theorem d1_33 : decode method_2_code 33 = .ok (.imul, 1) := by decide +kernel
theorem d1_34 : decode method_2_code 34 = .ok (.isub, 1) := by decide +kernel
theorem d1_35 : decode method_2_code 35 = .ok (.imul, 1) := by decide +kernel
theorem d1_36 : decode method_2_code 36 = .ok (.istore_n 1, 1) := by decide +kernel
theorem d1_37 : decode method_2_code 37 = .ok (.iload_n 1, 1) := by decide +kernel
theorem d1_38 : decode method_2_code 38 = .ok (.ireturn, 1) := by decide +kernel
def f1_0 : Int32 := (((((-1640531527 : Int32) * ((2 : Int32) - ((-1640531527 : Int32) * (-1640531527 : Int32)))) * ((2 : Int32) - ((-1640531527 : Int32) * ((-1640531527 : Int32) * ((2 : Int32) - ((-1640531527 : Int32) * (-1640531527 : Int32))))))) * ((2 : Int32) - ((-1640531527 : Int32) * (((-1640531527 : Int32) * ((2 : Int32) - ((-1640531527 : Int32) * (-1640531527 : Int32)))) * ((2 : Int32) - ((-1640531527 : Int32) * ((-1640531527 : Int32) * ((2 : Int32) - ((-1640531527 : Int32) * (-1640531527 : Int32)))))))))) * ((2 : Int32) - ((-1640531527 : Int32) * ((((-1640531527 : Int32) * ((2 : Int32) - ((-1640531527 : Int32) * (-1640531527 : Int32)))) * ((2 : Int32) - ((-1640531527 : Int32) * ((-1640531527 : Int32) * ((2 : Int32) - ((-1640531527 : Int32) * (-1640531527 : Int32))))))) * ((2 : Int32) - ((-1640531527 : Int32) * (((-1640531527 : Int32) * ((2 : Int32) - ((-1640531527 : Int32) * (-1640531527 : Int32)))) * ((2 : Int32) - ((-1640531527 : Int32) * ((-1640531527 : Int32) * ((2 : Int32) - ((-1640531527 : Int32) * (-1640531527 : Int32)))))))))))))
set_option maxRecDepth 65536 in
set_option maxHeartbeats 40000000 in
theorem b1_0 {p : Program} {l : Launch} {e : Env} {s : State} {m : MethodId} {args : Array Value} {below : List Frame} {meth : Method} {c : Code} {T : State} {locs : List Loc} {cells slots : Nat} {Z : State} {a0 : Array Value} {h : Heap} {n0 : Nat} {Q : Option Value → Heap → List Loc → Prop} (hw : ∀ d ∈ tables_1, d.before a0 Z = true) (X : Stand p l e ({ frames := 0, cells := 0, slots := 0, locals := 0 } : Room) s m args below meth c T locs cells slots) (hx : p.tables.exec = Jvm.exec) (hZ : Z.Warmed39 s.vm) (hby : c.code = method_2_code) (hml : c.maxLocals = 2) (hown : s.vm.findClass "com/example/libentitle/libentitle/role/IdTableSlotOfPinLaw" = some m.cls) (hret : meth.sig.returnType = some .int) (hlk : meth.locks = false) (eT : T.heap = h) (N : Fr n0 locs) (hc : cells ≤ 0) (hs : slots ≤ 0) (v : Int32) (hv : v = f1_0) (hQ : ∀ L', Fr n0 L' → Q (some (.int v)) h L') :
    own_Fin p e below s Q 0 0 (T.setTop (mkF m 0 #[.unset, .unset] [])) := by
  refine own_step (X.ldcInt hx hown (mvT hZ (hw _ (List.mem_of_getElem? (i := 0) rfl))) (g := (mkF m 0 #[.unset, .unset] [])) rfl (hb hby d1_0)) ?_
  show own_Fin p e below s Q 0 0 (T.setTop (mkF m 2 #[.unset, .unset] [(.int (-1640531527 : Int32))]))
  refine own_step (fun t k => XS.istoreN X.here hx rfl (hb hby d1_2) rfl (l' := #[.val (.int (-1640531527 : Int32)), .unset]) rfl k) ?_
  show own_Fin p e below s Q 0 0 (T.setTop (mkF m 3 #[.val (.int (-1640531527 : Int32)), .unset] []))
  refine own_step (fun t k => XS.iloadN X.here hx rfl (hb hby d1_3) rfl  k) ?_
  show own_Fin p e below s Q 0 0 (T.setTop (mkF m 4 #[.val (.int (-1640531527 : Int32)), .unset] [(.int (-1640531527 : Int32))]))
  refine own_step (fun t k => XS.istoreN X.here hx rfl (hb hby d1_4) rfl (l' := #[.val (.int (-1640531527 : Int32)), .val (.int (-1640531527 : Int32))]) rfl k) ?_
  show own_Fin p e below s Q 0 0 (T.setTop (mkF m 5 #[.val (.int (-1640531527 : Int32)), .val (.int (-1640531527 : Int32))] []))
  refine own_step (fun t k => XS.iloadN X.here hx rfl (hb hby d1_5) rfl  k) ?_
  show own_Fin p e below s Q 0 0 (T.setTop (mkF m 6 #[.val (.int (-1640531527 : Int32)), .val (.int (-1640531527 : Int32))] [(.int (-1640531527 : Int32))]))
  refine own_step (fun t k => XS.iconst X.here hx rfl (hb hby d1_6) k) ?_
  show own_Fin p e below s Q 0 0 (T.setTop (mkF m 7 #[.val (.int (-1640531527 : Int32)), .val (.int (-1640531527 : Int32))] [(.int (2 : Int32)), (.int (-1640531527 : Int32))]))
  refine own_step (fun t k => XS.iloadN X.here hx rfl (hb hby d1_7) rfl  k) ?_
  show own_Fin p e below s Q 0 0 (T.setTop (mkF m 8 #[.val (.int (-1640531527 : Int32)), .val (.int (-1640531527 : Int32))] [(.int (-1640531527 : Int32)), (.int (2 : Int32)), (.int (-1640531527 : Int32))]))
  refine own_step (fun t k => XS.iloadN X.here hx rfl (hb hby d1_8) rfl  k) ?_
  show own_Fin p e below s Q 0 0 (T.setTop (mkF m 9 #[.val (.int (-1640531527 : Int32)), .val (.int (-1640531527 : Int32))] [(.int (-1640531527 : Int32)), (.int (-1640531527 : Int32)), (.int (2 : Int32)), (.int (-1640531527 : Int32))]))
  refine own_step (fun t k => XS.imul X.here hx rfl (hb hby d1_9) rfl k) ?_
  show own_Fin p e below s Q 0 0 (T.setTop (mkF m 10 #[.val (.int (-1640531527 : Int32)), .val (.int (-1640531527 : Int32))] [(.int ((-1640531527 : Int32) * (-1640531527 : Int32))), (.int (2 : Int32)), (.int (-1640531527 : Int32))]))
  refine own_step (fun t k => XS.isub X.here hx rfl (hb hby d1_10) rfl k) ?_
  show own_Fin p e below s Q 0 0 (T.setTop (mkF m 11 #[.val (.int (-1640531527 : Int32)), .val (.int (-1640531527 : Int32))] [(.int ((2 : Int32) - ((-1640531527 : Int32) * (-1640531527 : Int32)))), (.int (-1640531527 : Int32))]))
  refine own_step (fun t k => XS.imul X.here hx rfl (hb hby d1_11) rfl k) ?_
  show own_Fin p e below s Q 0 0 (T.setTop (mkF m 12 #[.val (.int (-1640531527 : Int32)), .val (.int (-1640531527 : Int32))] [(.int ((-1640531527 : Int32) * ((2 : Int32) - ((-1640531527 : Int32) * (-1640531527 : Int32)))))]))
  refine own_step (fun t k => XS.istoreN X.here hx rfl (hb hby d1_12) rfl (l' := #[.val (.int (-1640531527 : Int32)), .val (.int ((-1640531527 : Int32) * ((2 : Int32) - ((-1640531527 : Int32) * (-1640531527 : Int32)))))]) rfl k) ?_
  show own_Fin p e below s Q 0 0 (T.setTop (mkF m 13 #[.val (.int (-1640531527 : Int32)), .val (.int ((-1640531527 : Int32) * ((2 : Int32) - ((-1640531527 : Int32) * (-1640531527 : Int32)))))] []))
  refine own_step (fun t k => XS.iloadN X.here hx rfl (hb hby d1_13) rfl  k) ?_
  show own_Fin p e below s Q 0 0 (T.setTop (mkF m 14 #[.val (.int (-1640531527 : Int32)), .val (.int ((-1640531527 : Int32) * ((2 : Int32) - ((-1640531527 : Int32) * (-1640531527 : Int32)))))] [(.int ((-1640531527 : Int32) * ((2 : Int32) - ((-1640531527 : Int32) * (-1640531527 : Int32)))))]))
  refine own_step (fun t k => XS.iconst X.here hx rfl (hb hby d1_14) k) ?_
  show own_Fin p e below s Q 0 0 (T.setTop (mkF m 15 #[.val (.int (-1640531527 : Int32)), .val (.int ((-1640531527 : Int32) * ((2 : Int32) - ((-1640531527 : Int32) * (-1640531527 : Int32)))))] [(.int (2 : Int32)), (.int ((-1640531527 : Int32) * ((2 : Int32) - ((-1640531527 : Int32) * (-1640531527 : Int32)))))]))
  refine own_step (fun t k => XS.iloadN X.here hx rfl (hb hby d1_15) rfl  k) ?_
  show own_Fin p e below s Q 0 0 (T.setTop (mkF m 16 #[.val (.int (-1640531527 : Int32)), .val (.int ((-1640531527 : Int32) * ((2 : Int32) - ((-1640531527 : Int32) * (-1640531527 : Int32)))))] [(.int (-1640531527 : Int32)), (.int (2 : Int32)), (.int ((-1640531527 : Int32) * ((2 : Int32) - ((-1640531527 : Int32) * (-1640531527 : Int32)))))]))
  refine own_step (fun t k => XS.iloadN X.here hx rfl (hb hby d1_16) rfl  k) ?_
  show own_Fin p e below s Q 0 0 (T.setTop (mkF m 17 #[.val (.int (-1640531527 : Int32)), .val (.int ((-1640531527 : Int32) * ((2 : Int32) - ((-1640531527 : Int32) * (-1640531527 : Int32)))))] [(.int ((-1640531527 : Int32) * ((2 : Int32) - ((-1640531527 : Int32) * (-1640531527 : Int32))))), (.int (-1640531527 : Int32)), (.int (2 : Int32)), (.int ((-1640531527 : Int32) * ((2 : Int32) - ((-1640531527 : Int32) * (-1640531527 : Int32)))))]))
  refine own_step (fun t k => XS.imul X.here hx rfl (hb hby d1_17) rfl k) ?_
  show own_Fin p e below s Q 0 0 (T.setTop (mkF m 18 #[.val (.int (-1640531527 : Int32)), .val (.int ((-1640531527 : Int32) * ((2 : Int32) - ((-1640531527 : Int32) * (-1640531527 : Int32)))))] [(.int ((-1640531527 : Int32) * ((-1640531527 : Int32) * ((2 : Int32) - ((-1640531527 : Int32) * (-1640531527 : Int32)))))), (.int (2 : Int32)), (.int ((-1640531527 : Int32) * ((2 : Int32) - ((-1640531527 : Int32) * (-1640531527 : Int32)))))]))
  refine own_step (fun t k => XS.isub X.here hx rfl (hb hby d1_18) rfl k) ?_
  show own_Fin p e below s Q 0 0 (T.setTop (mkF m 19 #[.val (.int (-1640531527 : Int32)), .val (.int ((-1640531527 : Int32) * ((2 : Int32) - ((-1640531527 : Int32) * (-1640531527 : Int32)))))] [(.int ((2 : Int32) - ((-1640531527 : Int32) * ((-1640531527 : Int32) * ((2 : Int32) - ((-1640531527 : Int32) * (-1640531527 : Int32))))))), (.int ((-1640531527 : Int32) * ((2 : Int32) - ((-1640531527 : Int32) * (-1640531527 : Int32)))))]))
  refine own_step (fun t k => XS.imul X.here hx rfl (hb hby d1_19) rfl k) ?_
  show own_Fin p e below s Q 0 0 (T.setTop (mkF m 20 #[.val (.int (-1640531527 : Int32)), .val (.int ((-1640531527 : Int32) * ((2 : Int32) - ((-1640531527 : Int32) * (-1640531527 : Int32)))))] [(.int (((-1640531527 : Int32) * ((2 : Int32) - ((-1640531527 : Int32) * (-1640531527 : Int32)))) * ((2 : Int32) - ((-1640531527 : Int32) * ((-1640531527 : Int32) * ((2 : Int32) - ((-1640531527 : Int32) * (-1640531527 : Int32))))))))]))
  refine own_step (fun t k => XS.istoreN X.here hx rfl (hb hby d1_20) rfl (l' := #[.val (.int (-1640531527 : Int32)), .val (.int (((-1640531527 : Int32) * ((2 : Int32) - ((-1640531527 : Int32) * (-1640531527 : Int32)))) * ((2 : Int32) - ((-1640531527 : Int32) * ((-1640531527 : Int32) * ((2 : Int32) - ((-1640531527 : Int32) * (-1640531527 : Int32))))))))]) rfl k) ?_
  show own_Fin p e below s Q 0 0 (T.setTop (mkF m 21 #[.val (.int (-1640531527 : Int32)), .val (.int (((-1640531527 : Int32) * ((2 : Int32) - ((-1640531527 : Int32) * (-1640531527 : Int32)))) * ((2 : Int32) - ((-1640531527 : Int32) * ((-1640531527 : Int32) * ((2 : Int32) - ((-1640531527 : Int32) * (-1640531527 : Int32))))))))] []))
  refine own_step (fun t k => XS.iloadN X.here hx rfl (hb hby d1_21) rfl  k) ?_
  show own_Fin p e below s Q 0 0 (T.setTop (mkF m 22 #[.val (.int (-1640531527 : Int32)), .val (.int (((-1640531527 : Int32) * ((2 : Int32) - ((-1640531527 : Int32) * (-1640531527 : Int32)))) * ((2 : Int32) - ((-1640531527 : Int32) * ((-1640531527 : Int32) * ((2 : Int32) - ((-1640531527 : Int32) * (-1640531527 : Int32))))))))] [(.int (((-1640531527 : Int32) * ((2 : Int32) - ((-1640531527 : Int32) * (-1640531527 : Int32)))) * ((2 : Int32) - ((-1640531527 : Int32) * ((-1640531527 : Int32) * ((2 : Int32) - ((-1640531527 : Int32) * (-1640531527 : Int32))))))))]))
  refine own_step (fun t k => XS.iconst X.here hx rfl (hb hby d1_22) k) ?_
  show own_Fin p e below s Q 0 0 (T.setTop (mkF m 23 #[.val (.int (-1640531527 : Int32)), .val (.int (((-1640531527 : Int32) * ((2 : Int32) - ((-1640531527 : Int32) * (-1640531527 : Int32)))) * ((2 : Int32) - ((-1640531527 : Int32) * ((-1640531527 : Int32) * ((2 : Int32) - ((-1640531527 : Int32) * (-1640531527 : Int32))))))))] [(.int (2 : Int32)), (.int (((-1640531527 : Int32) * ((2 : Int32) - ((-1640531527 : Int32) * (-1640531527 : Int32)))) * ((2 : Int32) - ((-1640531527 : Int32) * ((-1640531527 : Int32) * ((2 : Int32) - ((-1640531527 : Int32) * (-1640531527 : Int32))))))))]))
  refine own_step (fun t k => XS.iloadN X.here hx rfl (hb hby d1_23) rfl  k) ?_
  show own_Fin p e below s Q 0 0 (T.setTop (mkF m 24 #[.val (.int (-1640531527 : Int32)), .val (.int (((-1640531527 : Int32) * ((2 : Int32) - ((-1640531527 : Int32) * (-1640531527 : Int32)))) * ((2 : Int32) - ((-1640531527 : Int32) * ((-1640531527 : Int32) * ((2 : Int32) - ((-1640531527 : Int32) * (-1640531527 : Int32))))))))] [(.int (-1640531527 : Int32)), (.int (2 : Int32)), (.int (((-1640531527 : Int32) * ((2 : Int32) - ((-1640531527 : Int32) * (-1640531527 : Int32)))) * ((2 : Int32) - ((-1640531527 : Int32) * ((-1640531527 : Int32) * ((2 : Int32) - ((-1640531527 : Int32) * (-1640531527 : Int32))))))))]))
  refine own_step (fun t k => XS.iloadN X.here hx rfl (hb hby d1_24) rfl  k) ?_
  show own_Fin p e below s Q 0 0 (T.setTop (mkF m 25 #[.val (.int (-1640531527 : Int32)), .val (.int (((-1640531527 : Int32) * ((2 : Int32) - ((-1640531527 : Int32) * (-1640531527 : Int32)))) * ((2 : Int32) - ((-1640531527 : Int32) * ((-1640531527 : Int32) * ((2 : Int32) - ((-1640531527 : Int32) * (-1640531527 : Int32))))))))] [(.int (((-1640531527 : Int32) * ((2 : Int32) - ((-1640531527 : Int32) * (-1640531527 : Int32)))) * ((2 : Int32) - ((-1640531527 : Int32) * ((-1640531527 : Int32) * ((2 : Int32) - ((-1640531527 : Int32) * (-1640531527 : Int32)))))))), (.int (-1640531527 : Int32)), (.int (2 : Int32)), (.int (((-1640531527 : Int32) * ((2 : Int32) - ((-1640531527 : Int32) * (-1640531527 : Int32)))) * ((2 : Int32) - ((-1640531527 : Int32) * ((-1640531527 : Int32) * ((2 : Int32) - ((-1640531527 : Int32) * (-1640531527 : Int32))))))))]))
  refine own_step (fun t k => XS.imul X.here hx rfl (hb hby d1_25) rfl k) ?_
  show own_Fin p e below s Q 0 0 (T.setTop (mkF m 26 #[.val (.int (-1640531527 : Int32)), .val (.int (((-1640531527 : Int32) * ((2 : Int32) - ((-1640531527 : Int32) * (-1640531527 : Int32)))) * ((2 : Int32) - ((-1640531527 : Int32) * ((-1640531527 : Int32) * ((2 : Int32) - ((-1640531527 : Int32) * (-1640531527 : Int32))))))))] [(.int ((-1640531527 : Int32) * (((-1640531527 : Int32) * ((2 : Int32) - ((-1640531527 : Int32) * (-1640531527 : Int32)))) * ((2 : Int32) - ((-1640531527 : Int32) * ((-1640531527 : Int32) * ((2 : Int32) - ((-1640531527 : Int32) * (-1640531527 : Int32))))))))), (.int (2 : Int32)), (.int (((-1640531527 : Int32) * ((2 : Int32) - ((-1640531527 : Int32) * (-1640531527 : Int32)))) * ((2 : Int32) - ((-1640531527 : Int32) * ((-1640531527 : Int32) * ((2 : Int32) - ((-1640531527 : Int32) * (-1640531527 : Int32))))))))]))
  refine own_step (fun t k => XS.isub X.here hx rfl (hb hby d1_26) rfl k) ?_
  show own_Fin p e below s Q 0 0 (T.setTop (mkF m 27 #[.val (.int (-1640531527 : Int32)), .val (.int (((-1640531527 : Int32) * ((2 : Int32) - ((-1640531527 : Int32) * (-1640531527 : Int32)))) * ((2 : Int32) - ((-1640531527 : Int32) * ((-1640531527 : Int32) * ((2 : Int32) - ((-1640531527 : Int32) * (-1640531527 : Int32))))))))] [(.int ((2 : Int32) - ((-1640531527 : Int32) * (((-1640531527 : Int32) * ((2 : Int32) - ((-1640531527 : Int32) * (-1640531527 : Int32)))) * ((2 : Int32) - ((-1640531527 : Int32) * ((-1640531527 : Int32) * ((2 : Int32) - ((-1640531527 : Int32) * (-1640531527 : Int32)))))))))), (.int (((-1640531527 : Int32) * ((2 : Int32) - ((-1640531527 : Int32) * (-1640531527 : Int32)))) * ((2 : Int32) - ((-1640531527 : Int32) * ((-1640531527 : Int32) * ((2 : Int32) - ((-1640531527 : Int32) * (-1640531527 : Int32))))))))]))
  refine own_step (fun t k => XS.imul X.here hx rfl (hb hby d1_27) rfl k) ?_
  show own_Fin p e below s Q 0 0 (T.setTop (mkF m 28 #[.val (.int (-1640531527 : Int32)), .val (.int (((-1640531527 : Int32) * ((2 : Int32) - ((-1640531527 : Int32) * (-1640531527 : Int32)))) * ((2 : Int32) - ((-1640531527 : Int32) * ((-1640531527 : Int32) * ((2 : Int32) - ((-1640531527 : Int32) * (-1640531527 : Int32))))))))] [(.int ((((-1640531527 : Int32) * ((2 : Int32) - ((-1640531527 : Int32) * (-1640531527 : Int32)))) * ((2 : Int32) - ((-1640531527 : Int32) * ((-1640531527 : Int32) * ((2 : Int32) - ((-1640531527 : Int32) * (-1640531527 : Int32))))))) * ((2 : Int32) - ((-1640531527 : Int32) * (((-1640531527 : Int32) * ((2 : Int32) - ((-1640531527 : Int32) * (-1640531527 : Int32)))) * ((2 : Int32) - ((-1640531527 : Int32) * ((-1640531527 : Int32) * ((2 : Int32) - ((-1640531527 : Int32) * (-1640531527 : Int32)))))))))))]))
  refine own_step (fun t k => XS.istoreN X.here hx rfl (hb hby d1_28) rfl (l' := #[.val (.int (-1640531527 : Int32)), .val (.int ((((-1640531527 : Int32) * ((2 : Int32) - ((-1640531527 : Int32) * (-1640531527 : Int32)))) * ((2 : Int32) - ((-1640531527 : Int32) * ((-1640531527 : Int32) * ((2 : Int32) - ((-1640531527 : Int32) * (-1640531527 : Int32))))))) * ((2 : Int32) - ((-1640531527 : Int32) * (((-1640531527 : Int32) * ((2 : Int32) - ((-1640531527 : Int32) * (-1640531527 : Int32)))) * ((2 : Int32) - ((-1640531527 : Int32) * ((-1640531527 : Int32) * ((2 : Int32) - ((-1640531527 : Int32) * (-1640531527 : Int32)))))))))))]) rfl k) ?_
  show own_Fin p e below s Q 0 0 (T.setTop (mkF m 29 #[.val (.int (-1640531527 : Int32)), .val (.int ((((-1640531527 : Int32) * ((2 : Int32) - ((-1640531527 : Int32) * (-1640531527 : Int32)))) * ((2 : Int32) - ((-1640531527 : Int32) * ((-1640531527 : Int32) * ((2 : Int32) - ((-1640531527 : Int32) * (-1640531527 : Int32))))))) * ((2 : Int32) - ((-1640531527 : Int32) * (((-1640531527 : Int32) * ((2 : Int32) - ((-1640531527 : Int32) * (-1640531527 : Int32)))) * ((2 : Int32) - ((-1640531527 : Int32) * ((-1640531527 : Int32) * ((2 : Int32) - ((-1640531527 : Int32) * (-1640531527 : Int32)))))))))))] []))
  refine own_step (fun t k => XS.iloadN X.here hx rfl (hb hby d1_29) rfl  k) ?_
  show own_Fin p e below s Q 0 0 (T.setTop (mkF m 30 #[.val (.int (-1640531527 : Int32)), .val (.int ((((-1640531527 : Int32) * ((2 : Int32) - ((-1640531527 : Int32) * (-1640531527 : Int32)))) * ((2 : Int32) - ((-1640531527 : Int32) * ((-1640531527 : Int32) * ((2 : Int32) - ((-1640531527 : Int32) * (-1640531527 : Int32))))))) * ((2 : Int32) - ((-1640531527 : Int32) * (((-1640531527 : Int32) * ((2 : Int32) - ((-1640531527 : Int32) * (-1640531527 : Int32)))) * ((2 : Int32) - ((-1640531527 : Int32) * ((-1640531527 : Int32) * ((2 : Int32) - ((-1640531527 : Int32) * (-1640531527 : Int32)))))))))))] [(.int ((((-1640531527 : Int32) * ((2 : Int32) - ((-1640531527 : Int32) * (-1640531527 : Int32)))) * ((2 : Int32) - ((-1640531527 : Int32) * ((-1640531527 : Int32) * ((2 : Int32) - ((-1640531527 : Int32) * (-1640531527 : Int32))))))) * ((2 : Int32) - ((-1640531527 : Int32) * (((-1640531527 : Int32) * ((2 : Int32) - ((-1640531527 : Int32) * (-1640531527 : Int32)))) * ((2 : Int32) - ((-1640531527 : Int32) * ((-1640531527 : Int32) * ((2 : Int32) - ((-1640531527 : Int32) * (-1640531527 : Int32)))))))))))]))
  refine own_step (fun t k => XS.iconst X.here hx rfl (hb hby d1_30) k) ?_
  show own_Fin p e below s Q 0 0 (T.setTop (mkF m 31 #[.val (.int (-1640531527 : Int32)), .val (.int ((((-1640531527 : Int32) * ((2 : Int32) - ((-1640531527 : Int32) * (-1640531527 : Int32)))) * ((2 : Int32) - ((-1640531527 : Int32) * ((-1640531527 : Int32) * ((2 : Int32) - ((-1640531527 : Int32) * (-1640531527 : Int32))))))) * ((2 : Int32) - ((-1640531527 : Int32) * (((-1640531527 : Int32) * ((2 : Int32) - ((-1640531527 : Int32) * (-1640531527 : Int32)))) * ((2 : Int32) - ((-1640531527 : Int32) * ((-1640531527 : Int32) * ((2 : Int32) - ((-1640531527 : Int32) * (-1640531527 : Int32)))))))))))] [(.int (2 : Int32)), (.int ((((-1640531527 : Int32) * ((2 : Int32) - ((-1640531527 : Int32) * (-1640531527 : Int32)))) * ((2 : Int32) - ((-1640531527 : Int32) * ((-1640531527 : Int32) * ((2 : Int32) - ((-1640531527 : Int32) * (-1640531527 : Int32))))))) * ((2 : Int32) - ((-1640531527 : Int32) * (((-1640531527 : Int32) * ((2 : Int32) - ((-1640531527 : Int32) * (-1640531527 : Int32)))) * ((2 : Int32) - ((-1640531527 : Int32) * ((-1640531527 : Int32) * ((2 : Int32) - ((-1640531527 : Int32) * (-1640531527 : Int32)))))))))))]))
  refine own_step (fun t k => XS.iloadN X.here hx rfl (hb hby d1_31) rfl  k) ?_
  show own_Fin p e below s Q 0 0 (T.setTop (mkF m 32 #[.val (.int (-1640531527 : Int32)), .val (.int ((((-1640531527 : Int32) * ((2 : Int32) - ((-1640531527 : Int32) * (-1640531527 : Int32)))) * ((2 : Int32) - ((-1640531527 : Int32) * ((-1640531527 : Int32) * ((2 : Int32) - ((-1640531527 : Int32) * (-1640531527 : Int32))))))) * ((2 : Int32) - ((-1640531527 : Int32) * (((-1640531527 : Int32) * ((2 : Int32) - ((-1640531527 : Int32) * (-1640531527 : Int32)))) * ((2 : Int32) - ((-1640531527 : Int32) * ((-1640531527 : Int32) * ((2 : Int32) - ((-1640531527 : Int32) * (-1640531527 : Int32)))))))))))] [(.int (-1640531527 : Int32)), (.int (2 : Int32)), (.int ((((-1640531527 : Int32) * ((2 : Int32) - ((-1640531527 : Int32) * (-1640531527 : Int32)))) * ((2 : Int32) - ((-1640531527 : Int32) * ((-1640531527 : Int32) * ((2 : Int32) - ((-1640531527 : Int32) * (-1640531527 : Int32))))))) * ((2 : Int32) - ((-1640531527 : Int32) * (((-1640531527 : Int32) * ((2 : Int32) - ((-1640531527 : Int32) * (-1640531527 : Int32)))) * ((2 : Int32) - ((-1640531527 : Int32) * ((-1640531527 : Int32) * ((2 : Int32) - ((-1640531527 : Int32) * (-1640531527 : Int32)))))))))))]))
  refine own_step (fun t k => XS.iloadN X.here hx rfl (hb hby d1_32) rfl  k) ?_
  show own_Fin p e below s Q 0 0 (T.setTop (mkF m 33 #[.val (.int (-1640531527 : Int32)), .val (.int ((((-1640531527 : Int32) * ((2 : Int32) - ((-1640531527 : Int32) * (-1640531527 : Int32)))) * ((2 : Int32) - ((-1640531527 : Int32) * ((-1640531527 : Int32) * ((2 : Int32) - ((-1640531527 : Int32) * (-1640531527 : Int32))))))) * ((2 : Int32) - ((-1640531527 : Int32) * (((-1640531527 : Int32) * ((2 : Int32) - ((-1640531527 : Int32) * (-1640531527 : Int32)))) * ((2 : Int32) - ((-1640531527 : Int32) * ((-1640531527 : Int32) * ((2 : Int32) - ((-1640531527 : Int32) * (-1640531527 : Int32)))))))))))] [(.int ((((-1640531527 : Int32) * ((2 : Int32) - ((-1640531527 : Int32) * (-1640531527 : Int32)))) * ((2 : Int32) - ((-1640531527 : Int32) * ((-1640531527 : Int32) * ((2 : Int32) - ((-1640531527 : Int32) * (-1640531527 : Int32))))))) * ((2 : Int32) - ((-1640531527 : Int32) * (((-1640531527 : Int32) * ((2 : Int32) - ((-1640531527 : Int32) * (-1640531527 : Int32)))) * ((2 : Int32) - ((-1640531527 : Int32) * ((-1640531527 : Int32) * ((2 : Int32) - ((-1640531527 : Int32) * (-1640531527 : Int32))))))))))), (.int (-1640531527 : Int32)), (.int (2 : Int32)), (.int ((((-1640531527 : Int32) * ((2 : Int32) - ((-1640531527 : Int32) * (-1640531527 : Int32)))) * ((2 : Int32) - ((-1640531527 : Int32) * ((-1640531527 : Int32) * ((2 : Int32) - ((-1640531527 : Int32) * (-1640531527 : Int32))))))) * ((2 : Int32) - ((-1640531527 : Int32) * (((-1640531527 : Int32) * ((2 : Int32) - ((-1640531527 : Int32) * (-1640531527 : Int32)))) * ((2 : Int32) - ((-1640531527 : Int32) * ((-1640531527 : Int32) * ((2 : Int32) - ((-1640531527 : Int32) * (-1640531527 : Int32)))))))))))]))
  refine own_step (fun t k => XS.imul X.here hx rfl (hb hby d1_33) rfl k) ?_
  show own_Fin p e below s Q 0 0 (T.setTop (mkF m 34 #[.val (.int (-1640531527 : Int32)), .val (.int ((((-1640531527 : Int32) * ((2 : Int32) - ((-1640531527 : Int32) * (-1640531527 : Int32)))) * ((2 : Int32) - ((-1640531527 : Int32) * ((-1640531527 : Int32) * ((2 : Int32) - ((-1640531527 : Int32) * (-1640531527 : Int32))))))) * ((2 : Int32) - ((-1640531527 : Int32) * (((-1640531527 : Int32) * ((2 : Int32) - ((-1640531527 : Int32) * (-1640531527 : Int32)))) * ((2 : Int32) - ((-1640531527 : Int32) * ((-1640531527 : Int32) * ((2 : Int32) - ((-1640531527 : Int32) * (-1640531527 : Int32)))))))))))] [(.int ((-1640531527 : Int32) * ((((-1640531527 : Int32) * ((2 : Int32) - ((-1640531527 : Int32) * (-1640531527 : Int32)))) * ((2 : Int32) - ((-1640531527 : Int32) * ((-1640531527 : Int32) * ((2 : Int32) - ((-1640531527 : Int32) * (-1640531527 : Int32))))))) * ((2 : Int32) - ((-1640531527 : Int32) * (((-1640531527 : Int32) * ((2 : Int32) - ((-1640531527 : Int32) * (-1640531527 : Int32)))) * ((2 : Int32) - ((-1640531527 : Int32) * ((-1640531527 : Int32) * ((2 : Int32) - ((-1640531527 : Int32) * (-1640531527 : Int32)))))))))))), (.int (2 : Int32)), (.int ((((-1640531527 : Int32) * ((2 : Int32) - ((-1640531527 : Int32) * (-1640531527 : Int32)))) * ((2 : Int32) - ((-1640531527 : Int32) * ((-1640531527 : Int32) * ((2 : Int32) - ((-1640531527 : Int32) * (-1640531527 : Int32))))))) * ((2 : Int32) - ((-1640531527 : Int32) * (((-1640531527 : Int32) * ((2 : Int32) - ((-1640531527 : Int32) * (-1640531527 : Int32)))) * ((2 : Int32) - ((-1640531527 : Int32) * ((-1640531527 : Int32) * ((2 : Int32) - ((-1640531527 : Int32) * (-1640531527 : Int32)))))))))))]))
  refine own_step (fun t k => XS.isub X.here hx rfl (hb hby d1_34) rfl k) ?_
  show own_Fin p e below s Q 0 0 (T.setTop (mkF m 35 #[.val (.int (-1640531527 : Int32)), .val (.int ((((-1640531527 : Int32) * ((2 : Int32) - ((-1640531527 : Int32) * (-1640531527 : Int32)))) * ((2 : Int32) - ((-1640531527 : Int32) * ((-1640531527 : Int32) * ((2 : Int32) - ((-1640531527 : Int32) * (-1640531527 : Int32))))))) * ((2 : Int32) - ((-1640531527 : Int32) * (((-1640531527 : Int32) * ((2 : Int32) - ((-1640531527 : Int32) * (-1640531527 : Int32)))) * ((2 : Int32) - ((-1640531527 : Int32) * ((-1640531527 : Int32) * ((2 : Int32) - ((-1640531527 : Int32) * (-1640531527 : Int32)))))))))))] [(.int ((2 : Int32) - ((-1640531527 : Int32) * ((((-1640531527 : Int32) * ((2 : Int32) - ((-1640531527 : Int32) * (-1640531527 : Int32)))) * ((2 : Int32) - ((-1640531527 : Int32) * ((-1640531527 : Int32) * ((2 : Int32) - ((-1640531527 : Int32) * (-1640531527 : Int32))))))) * ((2 : Int32) - ((-1640531527 : Int32) * (((-1640531527 : Int32) * ((2 : Int32) - ((-1640531527 : Int32) * (-1640531527 : Int32)))) * ((2 : Int32) - ((-1640531527 : Int32) * ((-1640531527 : Int32) * ((2 : Int32) - ((-1640531527 : Int32) * (-1640531527 : Int32))))))))))))), (.int ((((-1640531527 : Int32) * ((2 : Int32) - ((-1640531527 : Int32) * (-1640531527 : Int32)))) * ((2 : Int32) - ((-1640531527 : Int32) * ((-1640531527 : Int32) * ((2 : Int32) - ((-1640531527 : Int32) * (-1640531527 : Int32))))))) * ((2 : Int32) - ((-1640531527 : Int32) * (((-1640531527 : Int32) * ((2 : Int32) - ((-1640531527 : Int32) * (-1640531527 : Int32)))) * ((2 : Int32) - ((-1640531527 : Int32) * ((-1640531527 : Int32) * ((2 : Int32) - ((-1640531527 : Int32) * (-1640531527 : Int32)))))))))))]))
  refine own_step (fun t k => XS.imul X.here hx rfl (hb hby d1_35) rfl k) ?_
  show own_Fin p e below s Q 0 0 (T.setTop (mkF m 36 #[.val (.int (-1640531527 : Int32)), .val (.int ((((-1640531527 : Int32) * ((2 : Int32) - ((-1640531527 : Int32) * (-1640531527 : Int32)))) * ((2 : Int32) - ((-1640531527 : Int32) * ((-1640531527 : Int32) * ((2 : Int32) - ((-1640531527 : Int32) * (-1640531527 : Int32))))))) * ((2 : Int32) - ((-1640531527 : Int32) * (((-1640531527 : Int32) * ((2 : Int32) - ((-1640531527 : Int32) * (-1640531527 : Int32)))) * ((2 : Int32) - ((-1640531527 : Int32) * ((-1640531527 : Int32) * ((2 : Int32) - ((-1640531527 : Int32) * (-1640531527 : Int32)))))))))))] [(.int (((((-1640531527 : Int32) * ((2 : Int32) - ((-1640531527 : Int32) * (-1640531527 : Int32)))) * ((2 : Int32) - ((-1640531527 : Int32) * ((-1640531527 : Int32) * ((2 : Int32) - ((-1640531527 : Int32) * (-1640531527 : Int32))))))) * ((2 : Int32) - ((-1640531527 : Int32) * (((-1640531527 : Int32) * ((2 : Int32) - ((-1640531527 : Int32) * (-1640531527 : Int32)))) * ((2 : Int32) - ((-1640531527 : Int32) * ((-1640531527 : Int32) * ((2 : Int32) - ((-1640531527 : Int32) * (-1640531527 : Int32)))))))))) * ((2 : Int32) - ((-1640531527 : Int32) * ((((-1640531527 : Int32) * ((2 : Int32) - ((-1640531527 : Int32) * (-1640531527 : Int32)))) * ((2 : Int32) - ((-1640531527 : Int32) * ((-1640531527 : Int32) * ((2 : Int32) - ((-1640531527 : Int32) * (-1640531527 : Int32))))))) * ((2 : Int32) - ((-1640531527 : Int32) * (((-1640531527 : Int32) * ((2 : Int32) - ((-1640531527 : Int32) * (-1640531527 : Int32)))) * ((2 : Int32) - ((-1640531527 : Int32) * ((-1640531527 : Int32) * ((2 : Int32) - ((-1640531527 : Int32) * (-1640531527 : Int32))))))))))))))]))
  refine own_step (fun t k => XS.istoreN X.here hx rfl (hb hby d1_36) rfl (l' := #[.val (.int (-1640531527 : Int32)), .val (.int (((((-1640531527 : Int32) * ((2 : Int32) - ((-1640531527 : Int32) * (-1640531527 : Int32)))) * ((2 : Int32) - ((-1640531527 : Int32) * ((-1640531527 : Int32) * ((2 : Int32) - ((-1640531527 : Int32) * (-1640531527 : Int32))))))) * ((2 : Int32) - ((-1640531527 : Int32) * (((-1640531527 : Int32) * ((2 : Int32) - ((-1640531527 : Int32) * (-1640531527 : Int32)))) * ((2 : Int32) - ((-1640531527 : Int32) * ((-1640531527 : Int32) * ((2 : Int32) - ((-1640531527 : Int32) * (-1640531527 : Int32)))))))))) * ((2 : Int32) - ((-1640531527 : Int32) * ((((-1640531527 : Int32) * ((2 : Int32) - ((-1640531527 : Int32) * (-1640531527 : Int32)))) * ((2 : Int32) - ((-1640531527 : Int32) * ((-1640531527 : Int32) * ((2 : Int32) - ((-1640531527 : Int32) * (-1640531527 : Int32))))))) * ((2 : Int32) - ((-1640531527 : Int32) * (((-1640531527 : Int32) * ((2 : Int32) - ((-1640531527 : Int32) * (-1640531527 : Int32)))) * ((2 : Int32) - ((-1640531527 : Int32) * ((-1640531527 : Int32) * ((2 : Int32) - ((-1640531527 : Int32) * (-1640531527 : Int32))))))))))))))]) rfl k) ?_
  show own_Fin p e below s Q 0 0 (T.setTop (mkF m 37 #[.val (.int (-1640531527 : Int32)), .val (.int (((((-1640531527 : Int32) * ((2 : Int32) - ((-1640531527 : Int32) * (-1640531527 : Int32)))) * ((2 : Int32) - ((-1640531527 : Int32) * ((-1640531527 : Int32) * ((2 : Int32) - ((-1640531527 : Int32) * (-1640531527 : Int32))))))) * ((2 : Int32) - ((-1640531527 : Int32) * (((-1640531527 : Int32) * ((2 : Int32) - ((-1640531527 : Int32) * (-1640531527 : Int32)))) * ((2 : Int32) - ((-1640531527 : Int32) * ((-1640531527 : Int32) * ((2 : Int32) - ((-1640531527 : Int32) * (-1640531527 : Int32)))))))))) * ((2 : Int32) - ((-1640531527 : Int32) * ((((-1640531527 : Int32) * ((2 : Int32) - ((-1640531527 : Int32) * (-1640531527 : Int32)))) * ((2 : Int32) - ((-1640531527 : Int32) * ((-1640531527 : Int32) * ((2 : Int32) - ((-1640531527 : Int32) * (-1640531527 : Int32))))))) * ((2 : Int32) - ((-1640531527 : Int32) * (((-1640531527 : Int32) * ((2 : Int32) - ((-1640531527 : Int32) * (-1640531527 : Int32)))) * ((2 : Int32) - ((-1640531527 : Int32) * ((-1640531527 : Int32) * ((2 : Int32) - ((-1640531527 : Int32) * (-1640531527 : Int32))))))))))))))] []))
  refine own_step (fun t k => XS.iloadN X.here hx rfl (hb hby d1_37) rfl  k) ?_
  show own_Fin p e below s Q 0 0 (T.setTop (mkF m 38 #[.val (.int (-1640531527 : Int32)), .val (.int (((((-1640531527 : Int32) * ((2 : Int32) - ((-1640531527 : Int32) * (-1640531527 : Int32)))) * ((2 : Int32) - ((-1640531527 : Int32) * ((-1640531527 : Int32) * ((2 : Int32) - ((-1640531527 : Int32) * (-1640531527 : Int32))))))) * ((2 : Int32) - ((-1640531527 : Int32) * (((-1640531527 : Int32) * ((2 : Int32) - ((-1640531527 : Int32) * (-1640531527 : Int32)))) * ((2 : Int32) - ((-1640531527 : Int32) * ((-1640531527 : Int32) * ((2 : Int32) - ((-1640531527 : Int32) * (-1640531527 : Int32)))))))))) * ((2 : Int32) - ((-1640531527 : Int32) * ((((-1640531527 : Int32) * ((2 : Int32) - ((-1640531527 : Int32) * (-1640531527 : Int32)))) * ((2 : Int32) - ((-1640531527 : Int32) * ((-1640531527 : Int32) * ((2 : Int32) - ((-1640531527 : Int32) * (-1640531527 : Int32))))))) * ((2 : Int32) - ((-1640531527 : Int32) * (((-1640531527 : Int32) * ((2 : Int32) - ((-1640531527 : Int32) * (-1640531527 : Int32)))) * ((2 : Int32) - ((-1640531527 : Int32) * ((-1640531527 : Int32) * ((2 : Int32) - ((-1640531527 : Int32) * (-1640531527 : Int32))))))))))))))] [(.int (((((-1640531527 : Int32) * ((2 : Int32) - ((-1640531527 : Int32) * (-1640531527 : Int32)))) * ((2 : Int32) - ((-1640531527 : Int32) * ((-1640531527 : Int32) * ((2 : Int32) - ((-1640531527 : Int32) * (-1640531527 : Int32))))))) * ((2 : Int32) - ((-1640531527 : Int32) * (((-1640531527 : Int32) * ((2 : Int32) - ((-1640531527 : Int32) * (-1640531527 : Int32)))) * ((2 : Int32) - ((-1640531527 : Int32) * ((-1640531527 : Int32) * ((2 : Int32) - ((-1640531527 : Int32) * (-1640531527 : Int32)))))))))) * ((2 : Int32) - ((-1640531527 : Int32) * ((((-1640531527 : Int32) * ((2 : Int32) - ((-1640531527 : Int32) * (-1640531527 : Int32)))) * ((2 : Int32) - ((-1640531527 : Int32) * ((-1640531527 : Int32) * ((2 : Int32) - ((-1640531527 : Int32) * (-1640531527 : Int32))))))) * ((2 : Int32) - ((-1640531527 : Int32) * (((-1640531527 : Int32) * ((2 : Int32) - ((-1640531527 : Int32) * (-1640531527 : Int32)))) * ((2 : Int32) - ((-1640531527 : Int32) * ((-1640531527 : Int32) * ((2 : Int32) - ((-1640531527 : Int32) * (-1640531527 : Int32))))))))))))))]))
  exact own_retI X hx hlk hret (hb hby d1_38) (Nat.le_trans (Nat.add_le_add_right hc 0) (by decide)) (Nat.le_trans (Nat.add_le_add_right hs 0) (by decide)) eT N hQ (hv)
theorem pnm_0 : plainName "com/example/libentitle/libentitle/role/IdTableSlotOfPinLaw" = true := by first | (simp [plainName, overriddenIn]; done) | decide +kernel
theorem pdm_0 : parseMethodDescriptor "()I" = some ⟨[], some .int⟩ := by decide +kernel
theorem ef_1 (m : MethodId) : entryFrame m #[] 2 = (mkF m 0 #[.unset, .unset] []) := by first | (simp [entryFrame, mkF, argsToLocals, Value.category]; done) | rfl
def Q1 (h0 : Heap) (n0 : Nat) (v : Option Value) (h : Heap) (L : List Loc) : Prop := v = some (.int (f1_0)) ∧ Fr n0 L ∧ h = h0
set_option maxRecDepth 65536 in
set_option maxHeartbeats 4000000 in
theorem rm1 (l : Launch) (Z : State) (a0 : Array Value) (hw : ∀ d ∈ tables_1, d.before a0 Z = true) (ws : List Jvm.Cond) (h0 : Heap) (n0 : Nat) :
    MetFree l (⟨"com/example/libentitle/libentitle/role/IdTableSlotOfPinLaw", "inverseOfMultiplier", "()I"⟩ : MethodName) (head1 (Jvm.Cond.code (⟨"com/example/libentitle/libentitle/role/IdTableSlotOfPinLaw", "inverseOfMultiplier", "()I"⟩ : MethodName) method_2_code 2 (some .int) :: ws) ({ frames := 0, cells := 0, slots := 0, locals := 0 } : Room)) (fun a U => a = #[] ∧ Z.Warmed39 U.vm ∧ U.heap = h0) (fun _ _ _ _ _ => True) (fun _ U o U' => ∃ v L, o = .returned v ∧ Q1 h0 n0 v U'.heap L ∧ FrameEnd U o U' L ({ frames := 0, cells := 0, slots := 0, locals := 0 } : Room).cells ({ frames := 0, cells := 0, slots := 0, locals := 0 } : Room).slots) := by
  refine MetFree.of_bodySF (plainFor_of_name pnm_0) hisR ?_
  intro p e s m args below meth c s₁ Bd hml0 hP hK
  obtain ⟨rfl, hZ, hh⟩ := hP
  have hx := Bd.exec
  have hby := Bd.bytes
  have hml : c.maxLocals = 2 := hml0
  have hown : s.vm.findClass "com/example/libentitle/libentitle/role/IdTableSlotOfPinLaw" = some m.cls := findClass_of_methodNamed Bd.named
  have X0 : Stand p l e ({ frames := 0, cells := 0, slots := 0, locals := 0 } : Room) s m #[] below meth c s₁ [] 0 0 := Stand.of_body Bd
  have e0 : s₁.heap = h0 := by rw [← hh, Bd.state]; rfl
  have fin := b1_0 (Q := Q1 h0 n0) hw X0 hx hZ hby hml hown Bd.returns (BodyLoose.notSynchronized Bd) e0 (Fr.nil n0) (Nat.zero_le _) (Nat.zero_le _) _ rfl (fun L' n' => ⟨rfl, n', rfl⟩)
  exact own_step (fun t k => castTop (ef_1 m) k) fin
theorem d2_0 : decode prog_52_method_9_code 0 = .ok (.iload_n 0, 1) := by decide +kernel
theorem d2_1 : decode prog_52_method_9_code 1 = .ok (.iload_n 0, 1) := by decide +kernel
theorem d2_2 : decode prog_52_method_9_code 2 = .ok (.bipush 16, 2) := by decide +kernel
theorem d2_4 : decode prog_52_method_9_code 4 = .ok (.iushr, 1) := by decide +kernel
theorem d2_5 : decode prog_52_method_9_code 5 = .ok (.ixor, 1) := by decide +kernel
theorem d2_6 : decode prog_52_method_9_code 6 = .ok (.ldc 164, 2) := by decide +kernel
theorem d2_8 : decode prog_52_method_9_code 8 = .ok (.imul, 1) := by decide +kernel
theorem d2_9 : decode prog_52_method_9_code 9 = .ok (.istore_n 3, 1) := by decide +kernel
theorem d2_10 : decode prog_52_method_9_code 10 = .ok (.iload_n 3, 1) := by decide +kernel
theorem d2_11 : decode prog_52_method_9_code 11 = .ok (.i2l, 1) := by decide +kernel
theorem d2_12 : decode prog_52_method_9_code 12 = .ok (.ldc2_w 165, 3) := by decide +kernel
theorem d2_15 : decode prog_52_method_9_code 15 = .ok (.land, 1) := by decide +kernel
theorem d2_16 : decode prog_52_method_9_code 16 = .ok (.lload_n 1, 1) := by decide +kernel
theorem d2_17 : decode prog_52_method_9_code 17 = .ok (.lmul, 1) := by decide +kernel
theorem d2_18 : decode prog_52_method_9_code 18 = .ok (.bipush 32, 2) := by decide +kernel
theorem d2_20 : decode prog_52_method_9_code 20 = .ok (.lushr, 1) := by decide +kernel
theorem d2_21 : decode prog_52_method_9_code 21 = .ok (.l2i, 1) := by decide +kernel
theorem d2_22 : decode prog_52_method_9_code 22 = .ok (.ireturn, 1) := by decide +kernel
def f2_0 (i0 : Int32) (j1 : Int64) : Int32 := ((((((((i0 ^^^ ((i0.toUInt32 >>> ((16 : Int32) &&& 31).toUInt32).toInt32)) * (-1640531527 : Int32)).toInt64) &&& (4294967295 : Int64)) * j1).toUInt64 >>> ((32 : Int32) &&& 0x3f).toInt64.toUInt64).toInt64).toInt32)
set_option maxRecDepth 65536 in
set_option maxHeartbeats 40000000 in
theorem b2_0 {p : Program} {l : Launch} {e : Env} {s : State} {m : MethodId} {args : Array Value} {below : List Frame} {meth : Method} {c : Code} {T : State} {locs : List Loc} {cells slots : Nat} {Z : State} {a0 : Array Value} {h : Heap} {n0 : Nat} {Q : Option Value → Heap → List Loc → Prop} (i0 : Int32) (j1 : Int64) (hw : ∀ d ∈ tables_1, d.before a0 Z = true) (X : Stand p l e ({ frames := 0, cells := 0, slots := 0, locals := 0 } : Room) s m args below meth c T locs cells slots) (hx : p.tables.exec = Jvm.exec) (hZ : Z.Warmed39 s.vm) (hby : c.code = prog_52_method_9_code) (hml : c.maxLocals = 4) (hown : s.vm.findClass "com/example/libentitle/libentitle/role/IdTable" = some m.cls) (hret : meth.sig.returnType = some .int) (hlk : meth.locks = false) (eT : T.heap = h) (N : Fr n0 locs) (hc : cells ≤ 0) (hs : slots ≤ 0) (v : Int32) (hv : v = f2_0 i0 j1) (hQ : ∀ L', Fr n0 L' → Q (some (.int v)) h L') :
    own_Fin p e below s Q 0 0 (T.setTop (mkF m 0 #[.val (.int i0), .val (.long j1), .second, .unset] [])) := by
  refine own_step (fun t k => XS.iloadN X.here hx rfl (hb hby d2_0) rfl  k) ?_
  show own_Fin p e below s Q 0 0 (T.setTop (mkF m 1 #[.val (.int i0), .val (.long j1), .second, .unset] [(.int i0)]))
  refine own_step (fun t k => XS.iloadN X.here hx rfl (hb hby d2_1) rfl  k) ?_
  show own_Fin p e below s Q 0 0 (T.setTop (mkF m 2 #[.val (.int i0), .val (.long j1), .second, .unset] [(.int i0), (.int i0)]))
  refine own_step (fun t k => XS.bipush X.here hx rfl (hb hby d2_2) k) ?_
  show own_Fin p e below s Q 0 0 (T.setTop (mkF m 4 #[.val (.int i0), .val (.long j1), .second, .unset] [(.int (16 : Int32)), (.int i0), (.int i0)]))
  refine own_step (fun t k => XS.iushr X.here hx rfl (hb hby d2_4) rfl k) ?_
  show own_Fin p e below s Q 0 0 (T.setTop (mkF m 5 #[.val (.int i0), .val (.long j1), .second, .unset] [(.int ((i0.toUInt32 >>> ((16 : Int32) &&& 31).toUInt32).toInt32)), (.int i0)]))
  refine own_step (fun t k => XS.ixor X.here hx rfl (hb hby d2_5) rfl k) ?_
  show own_Fin p e below s Q 0 0 (T.setTop (mkF m 6 #[.val (.int i0), .val (.long j1), .second, .unset] [(.int (i0 ^^^ ((i0.toUInt32 >>> ((16 : Int32) &&& 31).toUInt32).toInt32)))]))
  refine own_step (X.ldcInt hx hown (mvT hZ (hw _ (List.mem_of_getElem? (i := 10) rfl))) (g := (mkF m 6 #[.val (.int i0), .val (.long j1), .second, .unset] [(.int (i0 ^^^ ((i0.toUInt32 >>> ((16 : Int32) &&& 31).toUInt32).toInt32)))])) rfl (hb hby d2_6)) ?_
  show own_Fin p e below s Q 0 0 (T.setTop (mkF m 8 #[.val (.int i0), .val (.long j1), .second, .unset] [(.int (-1640531527 : Int32)), (.int (i0 ^^^ ((i0.toUInt32 >>> ((16 : Int32) &&& 31).toUInt32).toInt32)))]))
  refine own_step (fun t k => XS.imul X.here hx rfl (hb hby d2_8) rfl k) ?_
  show own_Fin p e below s Q 0 0 (T.setTop (mkF m 9 #[.val (.int i0), .val (.long j1), .second, .unset] [(.int ((i0 ^^^ ((i0.toUInt32 >>> ((16 : Int32) &&& 31).toUInt32).toInt32)) * (-1640531527 : Int32)))]))
  refine own_step (fun t k => XS.istoreN X.here hx rfl (hb hby d2_9) rfl (l' := #[.val (.int i0), .val (.long j1), .second, .val (.int ((i0 ^^^ ((i0.toUInt32 >>> ((16 : Int32) &&& 31).toUInt32).toInt32)) * (-1640531527 : Int32)))]) rfl k) ?_
  show own_Fin p e below s Q 0 0 (T.setTop (mkF m 10 #[.val (.int i0), .val (.long j1), .second, .val (.int ((i0 ^^^ ((i0.toUInt32 >>> ((16 : Int32) &&& 31).toUInt32).toInt32)) * (-1640531527 : Int32)))] []))
  refine own_step (fun t k => XS.iloadN X.here hx rfl (hb hby d2_10) rfl  k) ?_
  show own_Fin p e below s Q 0 0 (T.setTop (mkF m 11 #[.val (.int i0), .val (.long j1), .second, .val (.int ((i0 ^^^ ((i0.toUInt32 >>> ((16 : Int32) &&& 31).toUInt32).toInt32)) * (-1640531527 : Int32)))] [(.int ((i0 ^^^ ((i0.toUInt32 >>> ((16 : Int32) &&& 31).toUInt32).toInt32)) * (-1640531527 : Int32)))]))
  refine own_step (fun t k => XS.i2l X.here hx rfl (hb hby d2_11) rfl k) ?_
  show own_Fin p e below s Q 0 0 (T.setTop (mkF m 12 #[.val (.int i0), .val (.long j1), .second, .val (.int ((i0 ^^^ ((i0.toUInt32 >>> ((16 : Int32) &&& 31).toUInt32).toInt32)) * (-1640531527 : Int32)))] [(.long (((i0 ^^^ ((i0.toUInt32 >>> ((16 : Int32) &&& 31).toUInt32).toInt32)) * (-1640531527 : Int32)).toInt64))]))
  refine own_step (X.ldc2Long hx hown (mvT hZ (hw _ (List.mem_of_getElem? (i := 11) rfl))) (g := (mkF m 12 #[.val (.int i0), .val (.long j1), .second, .val (.int ((i0 ^^^ ((i0.toUInt32 >>> ((16 : Int32) &&& 31).toUInt32).toInt32)) * (-1640531527 : Int32)))] [(.long (((i0 ^^^ ((i0.toUInt32 >>> ((16 : Int32) &&& 31).toUInt32).toInt32)) * (-1640531527 : Int32)).toInt64))])) rfl (hb hby d2_12)) ?_
  show own_Fin p e below s Q 0 0 (T.setTop (mkF m 15 #[.val (.int i0), .val (.long j1), .second, .val (.int ((i0 ^^^ ((i0.toUInt32 >>> ((16 : Int32) &&& 31).toUInt32).toInt32)) * (-1640531527 : Int32)))] [(.long (4294967295 : Int64)), (.long (((i0 ^^^ ((i0.toUInt32 >>> ((16 : Int32) &&& 31).toUInt32).toInt32)) * (-1640531527 : Int32)).toInt64))]))
  refine own_step (fun t k => XS.land X.here hx rfl (hb hby d2_15) rfl k) ?_
  show own_Fin p e below s Q 0 0 (T.setTop (mkF m 16 #[.val (.int i0), .val (.long j1), .second, .val (.int ((i0 ^^^ ((i0.toUInt32 >>> ((16 : Int32) &&& 31).toUInt32).toInt32)) * (-1640531527 : Int32)))] [(.long ((((i0 ^^^ ((i0.toUInt32 >>> ((16 : Int32) &&& 31).toUInt32).toInt32)) * (-1640531527 : Int32)).toInt64) &&& (4294967295 : Int64)))]))
  refine own_step (fun t k => XS.lloadN X.here hx rfl (hb hby d2_16) rfl  k) ?_
  show own_Fin p e below s Q 0 0 (T.setTop (mkF m 17 #[.val (.int i0), .val (.long j1), .second, .val (.int ((i0 ^^^ ((i0.toUInt32 >>> ((16 : Int32) &&& 31).toUInt32).toInt32)) * (-1640531527 : Int32)))] [(.long j1), (.long ((((i0 ^^^ ((i0.toUInt32 >>> ((16 : Int32) &&& 31).toUInt32).toInt32)) * (-1640531527 : Int32)).toInt64) &&& (4294967295 : Int64)))]))
  refine own_step (fun t k => XS.lmul X.here hx rfl (hb hby d2_17) rfl k) ?_
  show own_Fin p e below s Q 0 0 (T.setTop (mkF m 18 #[.val (.int i0), .val (.long j1), .second, .val (.int ((i0 ^^^ ((i0.toUInt32 >>> ((16 : Int32) &&& 31).toUInt32).toInt32)) * (-1640531527 : Int32)))] [(.long (((((i0 ^^^ ((i0.toUInt32 >>> ((16 : Int32) &&& 31).toUInt32).toInt32)) * (-1640531527 : Int32)).toInt64) &&& (4294967295 : Int64)) * j1))]))
  refine own_step (fun t k => XS.bipush X.here hx rfl (hb hby d2_18) k) ?_
  show own_Fin p e below s Q 0 0 (T.setTop (mkF m 20 #[.val (.int i0), .val (.long j1), .second, .val (.int ((i0 ^^^ ((i0.toUInt32 >>> ((16 : Int32) &&& 31).toUInt32).toInt32)) * (-1640531527 : Int32)))] [(.int (32 : Int32)), (.long (((((i0 ^^^ ((i0.toUInt32 >>> ((16 : Int32) &&& 31).toUInt32).toInt32)) * (-1640531527 : Int32)).toInt64) &&& (4294967295 : Int64)) * j1))]))
  refine own_step (fun t k => XS.lushr X.here hx rfl (hb hby d2_20) rfl k) ?_
  show own_Fin p e below s Q 0 0 (T.setTop (mkF m 21 #[.val (.int i0), .val (.long j1), .second, .val (.int ((i0 ^^^ ((i0.toUInt32 >>> ((16 : Int32) &&& 31).toUInt32).toInt32)) * (-1640531527 : Int32)))] [(.long (((((((i0 ^^^ ((i0.toUInt32 >>> ((16 : Int32) &&& 31).toUInt32).toInt32)) * (-1640531527 : Int32)).toInt64) &&& (4294967295 : Int64)) * j1).toUInt64 >>> ((32 : Int32) &&& 0x3f).toInt64.toUInt64).toInt64))]))
  refine own_step (fun t k => XS.l2i X.here hx rfl (hb hby d2_21) rfl k) ?_
  show own_Fin p e below s Q 0 0 (T.setTop (mkF m 22 #[.val (.int i0), .val (.long j1), .second, .val (.int ((i0 ^^^ ((i0.toUInt32 >>> ((16 : Int32) &&& 31).toUInt32).toInt32)) * (-1640531527 : Int32)))] [(.int ((((((((i0 ^^^ ((i0.toUInt32 >>> ((16 : Int32) &&& 31).toUInt32).toInt32)) * (-1640531527 : Int32)).toInt64) &&& (4294967295 : Int64)) * j1).toUInt64 >>> ((32 : Int32) &&& 0x3f).toInt64.toUInt64).toInt64).toInt32))]))
  exact own_retI X hx hlk hret (hb hby d2_22) (Nat.le_trans (Nat.add_le_add_right hc 0) (by decide)) (Nat.le_trans (Nat.add_le_add_right hs 0) (by decide)) eT N hQ (hv)
theorem pnm_1 : plainName "com/example/libentitle/libentitle/role/IdTable" = true := by first | (simp [plainName, overriddenIn]; done) | decide +kernel
theorem pdm_1 : parseMethodDescriptor "(IJ)I" = some ⟨[.int, .long], some .int⟩ := by decide +kernel
theorem ef_2 (m : MethodId) (i0 : Int32) (j1 : Int64) : entryFrame m #[(.int i0), (.long j1)] 4 = (mkF m 0 #[.val (.int i0), .val (.long j1), .second, .unset] []) := by first | (simp [entryFrame, mkF, argsToLocals, Value.category]; done) | rfl
def Q2 (i0 : Int32) (j1 : Int64) (h0 : Heap) (n0 : Nat) (v : Option Value) (h : Heap) (L : List Loc) : Prop := v = some (.int (f2_0 i0 j1)) ∧ Fr n0 L ∧ h = h0
set_option maxRecDepth 65536 in
set_option maxHeartbeats 4000000 in
theorem rm2 (l : Launch) (Z : State) (a0 : Array Value) (hw : ∀ d ∈ tables_1, d.before a0 Z = true) (ws : List Jvm.Cond) (i0 : Int32) (j1 : Int64) (h0 : Heap) (n0 : Nat) :
    MetFree l (⟨"com/example/libentitle/libentitle/role/IdTable", "slotOf", "(IJ)I"⟩ : MethodName) (head1 (Jvm.Cond.code (⟨"com/example/libentitle/libentitle/role/IdTable", "slotOf", "(IJ)I"⟩ : MethodName) prog_52_method_9_code 4 (some .int) :: ws) ({ frames := 0, cells := 0, slots := 0, locals := 0 } : Room)) (fun a U => a = #[(.int i0), (.long j1)] ∧ Z.Warmed39 U.vm ∧ U.heap = h0) (fun _ _ _ _ _ => True) (fun _ U o U' => ∃ v L, o = .returned v ∧ Q2 i0 j1 h0 n0 v U'.heap L ∧ FrameEnd U o U' L ({ frames := 0, cells := 0, slots := 0, locals := 0 } : Room).cells ({ frames := 0, cells := 0, slots := 0, locals := 0 } : Room).slots) := by
  refine MetFree.of_bodySF (plainFor_of_name pnm_1) hisR ?_
  intro p e s m args below meth c s₁ Bd hml0 hP hK
  obtain ⟨rfl, hZ, hh⟩ := hP
  have hx := Bd.exec
  have hby := Bd.bytes
  have hml : c.maxLocals = 4 := hml0
  have hown : s.vm.findClass "com/example/libentitle/libentitle/role/IdTable" = some m.cls := findClass_of_methodNamed Bd.named
  have X0 : Stand p l e ({ frames := 0, cells := 0, slots := 0, locals := 0 } : Room) s m #[(.int i0), (.long j1)] below meth c s₁ [] 0 0 := Stand.of_body Bd
  have e0 : s₁.heap = h0 := by rw [← hh, Bd.state]; rfl
  have fin := b2_0 i0 j1 (Q := Q2 i0 j1 h0 n0) hw X0 hx hZ hby hml hown Bd.returns (BodyLoose.notSynchronized Bd) e0 (Fr.nil n0) (Nat.zero_le _) (Nat.zero_le _) _ rfl (fun L' n' => ⟨rfl, n', rfl⟩)
  exact own_step (fun t k => castTop (ef_2 m i0 j1) k) fin
theorem d3_0 : decode method_3_code 0 = .ok (.iload_n 0, 1) := by decide +kernel
theorem d3_1 : decode method_3_code 1 = .ok (.invokestatic 8, 3) := by decide +kernel
theorem d3_4 : decode method_3_code 4 = .ok (.imul, 1) := by decide +kernel
theorem d3_5 : decode method_3_code 5 = .ok (.istore_n 1, 1) := by decide +kernel
theorem d3_6 : decode method_3_code 6 = .ok (.iload_n 1, 1) := by decide +kernel
theorem d3_7 : decode method_3_code 7 = .ok (.iload_n 1, 1) := by decide +kernel
theorem d3_8 : decode method_3_code 8 = .ok (.bipush 16, 2) := by decide +kernel
theorem d3_10 : decode method_3_code 10 = .ok (.iushr, 1) := by decide +kernel
theorem d3_11 : decode method_3_code 11 = .ok (.ixor, 1) := by decide +kernel
theorem d3_12 : decode method_3_code 12 = .ok (.ireturn, 1) := by decide +kernel
def f3_0 (i0 : Int32) : Int32 := ((i0 * (f1_0)) ^^^ (((i0 * (f1_0)).toUInt32 >>> ((16 : Int32) &&& 31).toUInt32).toInt32))
set_option maxRecDepth 65536 in
set_option maxHeartbeats 40000000 in
theorem b3_0 {p : Program} {l : Launch} {e : Env} {s : State} {m : MethodId} {args : Array Value} {below : List Frame} {meth : Method} {c : Code} {T : State} {locs : List Loc} {cells slots : Nat} {Z : State} {a0 : Array Value} {h : Heap} {n0 : Nat} {Q : Option Value → Heap → List Loc → Prop} (i0 : Int32) (hw : ∀ d ∈ tables_1, d.before a0 Z = true) (X : Stand p l e ({ frames := 1, cells := 0, slots := 0, locals := 19 } : Room) s m args below meth c T locs cells slots) (hx : p.tables.exec = Jvm.exec) (hZ : Z.Warmed39 s.vm) (hby : c.code = method_3_code) (hml : c.maxLocals = 2) (hown : s.vm.findClass "com/example/libentitle/libentitle/role/IdTableSlotOfPinLaw" = some m.cls) (hret : meth.sig.returnType = some .int) (hlk : meth.locks = false) (eT : T.heap = h) (N : Fr n0 locs) (hc : cells ≤ 0) (hs : slots ≤ 0) (v : Int32) (hv : v = f3_0 i0) (hQ : ∀ L', Fr n0 L' → Q (some (.int v)) h L') :
    own_Fin p e below s Q 0 0 (T.setTop (mkF m 0 #[.val (.int i0), .unset] [])) := by
  refine own_step (fun t k => XS.iloadN X.here hx rfl (hb hby d3_0) rfl  k) ?_
  show own_Fin p e below s Q 0 0 (T.setTop (mkF m 1 #[.val (.int i0), .unset] [(.int i0)]))
  obtain ⟨_, _, ⟨T1, L1, k1, n1⟩, -, X1, ⟨Lc1, hQ1, l1, y1, z1⟩, st1⟩ := Jvm.LawKit.callS X hx (y := (⟨"com/example/libentitle/libentitle/role/IdTableSlotOfPinLaw", "inverseOfMultiplier", "()I"⟩ : MethodName)) hown (mvT hZ (hw _ (List.mem_of_getElem? (i := 1) rfl))) (mvT hZ (hw _ (List.mem_of_getElem? (i := 2) rfl))) (mvT hZ (hw _ (List.mem_of_getElem? (i := 3) rfl))) (mvT hZ (hw _ (List.mem_of_getElem? (i := 4) rfl))) (by decide) (backOf (W := 1) (rm1 l Z a0 hw [] h n0) hZ (hw _ (List.mem_of_getElem? (i := 4) rfl)) (hw _ (List.mem_of_getElem? (i := 3) rfl)) (by decide) (by decide)) (g := (mkF m 1 #[.val (.int i0), .unset] [(.int i0)])) rfl (by rw [hml]; rfl) (argsL := []) (rest := [(.int i0)]) (lenOf pdm_0 rfl) rfl (by show 2 * 0 + _ ≤ _; exact Nat.le_of_eq rfl) (hb hby d3_1) (fun _ _ => ⟨rfl, eT, (show cells + 0 ≤ 0 from (Nat.le_trans (Nat.add_le_add_right hc 0) (by decide))), (show slots + 0 ≤ 0 from (Nat.le_trans (Nat.add_le_add_right hs 0) (by decide)))⟩)
  dsimp only [Pt.U, Pt.locs, Pt.cells, Pt.slots] at X1 l1 y1 z1 st1 hQ1
  have yy1 : k1 = cells + 0 := y1
  have zz1 : n1 = slots + 0 := z1
  rw [yy1, zz1, l1] at X1
  obtain ⟨rfl, N1q, e1⟩ := hQ1
  have N1 := Fr.app N N1q
  refine own_step st1 ?_
  show own_Fin p e below s Q 0 0 (T1.setTop (mkF m 4 #[.val (.int i0), .unset] [(.int (f1_0)), (.int i0)]))
  refine own_step (fun t k => XS.imul X1.here hx rfl (hb hby d3_4) rfl k) ?_
  show own_Fin p e below s Q 0 0 (T1.setTop (mkF m 5 #[.val (.int i0), .unset] [(.int (i0 * (f1_0)))]))
  refine own_step (fun t k => XS.istoreN X1.here hx rfl (hb hby d3_5) rfl (l' := #[.val (.int i0), .val (.int (i0 * (f1_0)))]) rfl k) ?_
  show own_Fin p e below s Q 0 0 (T1.setTop (mkF m 6 #[.val (.int i0), .val (.int (i0 * (f1_0)))] []))
  refine own_step (fun t k => XS.iloadN X1.here hx rfl (hb hby d3_6) rfl  k) ?_
  show own_Fin p e below s Q 0 0 (T1.setTop (mkF m 7 #[.val (.int i0), .val (.int (i0 * (f1_0)))] [(.int (i0 * (f1_0)))]))
  refine own_step (fun t k => XS.iloadN X1.here hx rfl (hb hby d3_7) rfl  k) ?_
  show own_Fin p e below s Q 0 0 (T1.setTop (mkF m 8 #[.val (.int i0), .val (.int (i0 * (f1_0)))] [(.int (i0 * (f1_0))), (.int (i0 * (f1_0)))]))
  refine own_step (fun t k => XS.bipush X1.here hx rfl (hb hby d3_8) k) ?_
  show own_Fin p e below s Q 0 0 (T1.setTop (mkF m 10 #[.val (.int i0), .val (.int (i0 * (f1_0)))] [(.int (16 : Int32)), (.int (i0 * (f1_0))), (.int (i0 * (f1_0)))]))
  refine own_step (fun t k => XS.iushr X1.here hx rfl (hb hby d3_10) rfl k) ?_
  show own_Fin p e below s Q 0 0 (T1.setTop (mkF m 11 #[.val (.int i0), .val (.int (i0 * (f1_0)))] [(.int (((i0 * (f1_0)).toUInt32 >>> ((16 : Int32) &&& 31).toUInt32).toInt32)), (.int (i0 * (f1_0)))]))
  refine own_step (fun t k => XS.ixor X1.here hx rfl (hb hby d3_11) rfl k) ?_
  show own_Fin p e below s Q 0 0 (T1.setTop (mkF m 12 #[.val (.int i0), .val (.int (i0 * (f1_0)))] [(.int ((i0 * (f1_0)) ^^^ (((i0 * (f1_0)).toUInt32 >>> ((16 : Int32) &&& 31).toUInt32).toInt32)))]))
  exact own_retI X1 hx hlk hret (hb hby d3_12) (Nat.le_trans (Nat.add_le_add_right hc 0) (by decide)) (Nat.le_trans (Nat.add_le_add_right hs 0) (by decide)) e1 N1 hQ (hv)
theorem pdm_2 : parseMethodDescriptor "(I)I" = some ⟨[.int], some .int⟩ := by decide +kernel
theorem ef_3 (m : MethodId) (i0 : Int32) : entryFrame m #[(.int i0)] 2 = (mkF m 0 #[.val (.int i0), .unset] []) := by first | (simp [entryFrame, mkF, argsToLocals, Value.category]; done) | rfl
def Q3 (i0 : Int32) (h0 : Heap) (n0 : Nat) (v : Option Value) (h : Heap) (L : List Loc) : Prop := v = some (.int (f3_0 i0)) ∧ Fr n0 L ∧ h = h0
set_option maxRecDepth 65536 in
set_option maxHeartbeats 4000000 in
theorem rm3 (l : Launch) (Z : State) (a0 : Array Value) (hw : ∀ d ∈ tables_1, d.before a0 Z = true) (ws : List Jvm.Cond) (i0 : Int32) (h0 : Heap) (n0 : Nat) :
    MetFree l (⟨"com/example/libentitle/libentitle/role/IdTableSlotOfPinLaw", "preimage", "(I)I"⟩ : MethodName) (head1 (Jvm.Cond.code (⟨"com/example/libentitle/libentitle/role/IdTableSlotOfPinLaw", "preimage", "(I)I"⟩ : MethodName) method_3_code 2 (some .int) :: ws) ({ frames := 1, cells := 0, slots := 0, locals := 19 } : Room)) (fun a U => a = #[(.int i0)] ∧ Z.Warmed39 U.vm ∧ U.heap = h0) (fun _ _ _ _ _ => True) (fun _ U o U' => ∃ v L, o = .returned v ∧ Q3 i0 h0 n0 v U'.heap L ∧ FrameEnd U o U' L ({ frames := 1, cells := 0, slots := 0, locals := 19 } : Room).cells ({ frames := 1, cells := 0, slots := 0, locals := 19 } : Room).slots) := by
  refine MetFree.of_bodySF (plainFor_of_name pnm_0) hisR ?_
  intro p e s m args below meth c s₁ Bd hml0 hP hK
  obtain ⟨rfl, hZ, hh⟩ := hP
  have hx := Bd.exec
  have hby := Bd.bytes
  have hml : c.maxLocals = 2 := hml0
  have hown : s.vm.findClass "com/example/libentitle/libentitle/role/IdTableSlotOfPinLaw" = some m.cls := findClass_of_methodNamed Bd.named
  have X0 : Stand p l e ({ frames := 1, cells := 0, slots := 0, locals := 19 } : Room) s m #[(.int i0)] below meth c s₁ [] 0 0 := Stand.of_body Bd
  have e0 : s₁.heap = h0 := by rw [← hh, Bd.state]; rfl
  have fin := b3_0 i0 (Q := Q3 i0 h0 n0) hw X0 hx hZ hby hml hown Bd.returns (BodyLoose.notSynchronized Bd) e0 (Fr.nil n0) (Nat.zero_le _) (Nat.zero_le _) _ rfl (fun L' n' => ⟨rfl, n', rfl⟩)
  exact own_step (fun t k => castTop (ef_3 m i0) k) fin
theorem own_inv : (-1640531527 : Int32) * f1_0 = (1 : Int32) := by decide +kernel
theorem own_inv' : f1_0 * (-1640531527 : Int32) = (1 : Int32) := by decide +kernel
def own_fold (x : Int32) : Int32 := x ^^^ ((x.toUInt32 >>> ((16 : Int32) &&& 31).toUInt32).toInt32)
def own_spread (x : Int32) : Int32 := own_fold x * (-1640531527 : Int32)
theorem own_bv (x : BitVec 32) : (x ^^^ (x >>> 16)) ^^^ ((x ^^^ (x >>> 16)) >>> 16) = x := by
  apply BitVec.eq_of_getLsbD_eq
  intro i hi
  simp only [BitVec.getLsbD_xor, BitVec.getLsbD_ushiftRight]
  have h0 : x.getLsbD (16 + (16 + i)) = false := BitVec.getLsbD_of_ge _ _ (by omega)
  rw [h0]
  cases x.getLsbD i <;> cases x.getLsbD (16 + i) <;> rfl
theorem own_tb (x : Int32) : (own_fold x).toBitVec = x.toBitVec ^^^ (x.toBitVec >>> 16) := by
  show x.toBitVec ^^^ (x.toBitVec >>> (((16 : Int32) &&& 31).toBitVec.umod 32#32)) = _
  rfl
theorem own_fold2 (x : Int32) : own_fold (own_fold x) = x := by
  apply Int32.toBitVec_inj.mp
  rw [own_tb, own_tb]
  exact own_bv _
theorem own_bij (x c : Int32) : f3_0 c = x ↔ c = own_spread x := by
  have e3 : f3_0 c = own_fold (c * f1_0) := by
    unfold f3_0 own_fold
    exact Eq.refl _
  rw [e3]
  generalize hf : f1_0 = F
  have i1 : F * (-1640531527 : Int32) = (1 : Int32) := hf ▸ own_inv'
  have i2 : (-1640531527 : Int32) * F = (1 : Int32) := hf ▸ own_inv
  constructor
  · intro h
    have h1 : own_fold x = c * F := by rw [← h, own_fold2]
    unfold own_spread
    rw [h1, Int32.mul_assoc, i1, Int32.mul_one]
  · intro h
    rw [h]
    unfold own_spread
    rw [Int32.mul_assoc, i2, Int32.mul_one, own_fold2]
theorem own_f2 (x : Int32) (s : Int64) : (f2_0 x s) = ((((((own_spread x).toInt64) &&& (4294967295 : Int64)) * s).toUInt64 >>> ((32 : Int32) &&& 0x3f).toInt64.toUInt64).toInt64).toInt32 := by
  unfold f2_0 own_spread own_fold
  exact Eq.refl _
theorem own_u (w : Int32) : ((w.toInt64) &&& (4294967295 : Int64)).toInt = w.toInt % 4294967296 := by
  rw [c_maskL _ _ 32 (by decide) (by decide), c_i2l]
  rfl
theorem own_mul (u s : Int64) (U S : Int) (hu : u.toInt = U) (hs : s.toInt = S) (h0 : 0 ≤ U) (hU : U ≤ 4294967295) (h1 : 1 ≤ S) (h2 : S ≤ 2147483648) :
    (((u * s).toUInt64 >>> ((32 : Int32) &&& 0x3f).toInt64.toUInt64).toInt64).toInt = U * S / 4294967296 ∧ 0 ≤ U * S / 4294967296 ∧ U * S / 4294967296 < S := by
  have e1 := c_lmul u s
  rw [hu, hs] at e1
  have p1 : 0 ≤ U * S := Int.mul_nonneg h0 (by omega)
  have p2 : U * S ≤ 4294967295 * S := Int.mul_le_mul_of_nonneg_right hU (by omega)
  have r1 := rng64 (u * s)
  have e3 := c_lushr (u * s) 32 32 (by decide) (by decide)
  have e4 : ((2 ^ 32 : Nat) : Int) = 4294967296 := rfl
  rw [e4] at e3
  generalize U * S = P at *
  have e2 : (u * s).toInt = P := by omega
  rw [e2] at e3
  have e5 : P % 18446744073709551616 = P := by omega
  rw [e5] at e3
  exact ⟨e3, by omega, by omega⟩
theorem own_slot (x : Int32) (s : Int64) (h1 : 1 ≤ s.toInt) (h2 : s.toInt ≤ 2147483648) :
    (f2_0 x s).toInt = ((own_spread x).toInt % 4294967296) * s.toInt / 4294967296 ∧ 0 ≤ (f2_0 x s).toInt ∧ (f2_0 x s).toInt < s.toInt ∧
    (((((own_spread x).toInt64) &&& (4294967295 : Int64)) * s).toUInt64 >>> ((32 : Int32) &&& 0x3f).toInt64.toUInt64).toInt64.toInt = ((own_spread x).toInt % 4294967296) * s.toInt / 4294967296 := by
  rw [own_f2]
  generalize own_spread x = w
  obtain ⟨m1, m2, m3⟩ := own_mul _ s _ _ (own_u w) rfl (Int.emod_nonneg _ (by decide)) (by omega) h1 h2
  have e7 := c_l2i ((((((w.toInt64) &&& (4294967295 : Int64)) * s).toUInt64 >>> ((32 : Int32) &&& 0x3f).toInt64.toUInt64).toInt64))
  rw [m1] at e7
  generalize w.toInt % 4294967296 * s.toInt / 4294967296 = V at *
  have r2 := rng32 (((((((w.toInt64) &&& (4294967295 : Int64)) * s).toUInt64 >>> ((32 : Int32) &&& 0x3f).toInt64.toUInt64).toInt64)).toInt32)
  generalize (((((((w.toInt64) &&& (4294967295 : Int64)) * s).toUInt64 >>> ((32 : Int32) &&& 0x3f).toInt64.toUInt64).toInt64)).toInt32) = r at *
  have e8 : r.toInt = V := by omega
  exact ⟨e8, by omega, by omega, m1⟩
theorem own_r31a (w r : Int32) (h1 : r.toInt = (w.toInt % 4294967296) * 2147483648 / 4294967296) (h2 : 0 ≤ r.toInt) : (¬ (r < (0 : Int32))) ∧ (w = (r <<< ((1 : Int32) &&& 31)) ∨ w = ((r <<< ((1 : Int32) &&& 31)) ||| (1 : Int32))) ∧ (r <<< ((1 : Int32) &&& 31)) ≠ ((r <<< ((1 : Int32) &&& 31)) ||| (1 : Int32)) := by
  have rs := rng32 w
  have e1 := c_ishl r 1 1 (by decide)
  have e4 : ((2 ^ 1 : Nat) : Int) = 2 := rfl
  rw [e4] at e1
  generalize hc : r <<< ((1 : Int32) &&& 31) = c at *
  have rc := rng32 c
  have e2 := c_or c 1 1 (by decide) 2 rfl (by omega) (by decide) (by decide)
  have e3 : (1 : Int32).toInt = 1 := by decide
  rw [e3] at e2
  generalize hd : c ||| (1 : Int32) = d at *
  have rd := rng32 d
  refine ⟨fun q => ?_, ?_, fun q => ?_⟩
  · have q' : r.toInt < (0 : Int32).toInt := Int32.lt_iff_toInt_lt.mp q
    have q2 : (0 : Int32).toInt = 0 := by decide
    omega
  · by_cases z : w.toInt % 2 = 0
    · exact Or.inl (Int32.toInt_inj.mp (by omega))
    · exact Or.inr (Int32.toInt_inj.mp (by omega))
  · have : c.toInt = d.toInt := by rw [q]
    omega
theorem own_r31 (x : Int32) : (¬ ((f2_0 x (2147483648 : Int64)) < (0 : Int32))) ∧ (own_spread x = ((f2_0 x (2147483648 : Int64)) <<< ((1 : Int32) &&& 31)) ∨ own_spread x = (((f2_0 x (2147483648 : Int64)) <<< ((1 : Int32) &&& 31)) ||| (1 : Int32))) ∧ ((f2_0 x (2147483648 : Int64)) <<< ((1 : Int32) &&& 31)) ≠ (((f2_0 x (2147483648 : Int64)) <<< ((1 : Int32) &&& 31)) ||| (1 : Int32)) := by
  have hs : (2147483648 : Int64).toInt = 2147483648 := by decide
  have k := own_slot x 2147483648 (by rw [hs]; decide) (by rw [hs]; decide)
  have h1 := k.1
  have h2 := k.2.1
  rw [hs] at h1
  exact own_r31a (own_spread x) (f2_0 x (2147483648 : Int64)) h1 h2
def own_s (k : Int32) : Int64 := (((k.toInt64) &&& (2147483647 : Int64)) + (1 : Int64))
theorem own_s1 (k : Int32) : 1 ≤ (own_s k).toInt ∧ (own_s k).toInt ≤ 2147483648 := by
  have e1 := c_maskL (k.toInt64) (2147483647 : Int64) 31 (by decide) (by decide)
  have e4 : ((2 ^ 31 : Nat) : Int) = 2147483648 := rfl
  rw [e4] at e1
  have e2 := c_ladd ((k.toInt64) &&& (2147483647 : Int64)) 1
  have e3 : (1 : Int64).toInt = 1 := by decide
  rw [e3] at e2
  have r := rng64 (own_s k)
  unfold own_s at r ⊢
  omega
theorem own_end (x k w : Int32) (hw : w = own_spread x) : (¬ ((f2_0 x (own_s k)) < (0 : Int32))) ∧ ((lcmpW ((f2_0 x (own_s k)).toInt64) (own_s k)) < (0 : Int32)) ∧ (lcmpW ((f2_0 x (own_s k)).toInt64) (((((w.toInt64) &&& (4294967295 : Int64)) * (own_s k)).toUInt64 >>> ((32 : Int32) &&& 0x3f).toInt64.toUInt64).toInt64)) = (0 : Int32) := by
  subst hw
  obtain ⟨s1, s2⟩ := own_s1 k
  obtain ⟨h1, h2, h3, h4⟩ := own_slot x (own_s k) s1 s2
  refine ⟨fun q => ?_, (lw_lt _ _).mpr (Int64.lt_iff_toInt_lt.mpr ?_), (lw_eq _ _).mpr (Int64.toInt_inj.mp ?_)⟩
  · have q' : (f2_0 x (own_s k)).toInt < (0 : Int32).toInt := Int32.lt_iff_toInt_lt.mp q
    have q2 : (0 : Int32).toInt = 0 := by decide
    omega
  · rw [c_i2l]; exact h3
  · rw [c_i2l, h4]; exact h1
theorem own_ex (x c d : Int32) (h : own_spread x = c ∨ own_spread x = d) (n : c ≠ d) : (f3_0 c = x → ¬ f3_0 d = x) ∧ (¬ f3_0 c = x → f3_0 d = x) := by
  refine ⟨fun a b => n (((own_bij x c).mp a).trans ((own_bij x d).mp b).symm), fun a => ?_⟩
  rcases h with h | h
  · exact absurd ((own_bij x c).mpr h.symm) a
  · exact (own_bij x d).mpr h.symm
set_option maxRecDepth 65536 in
set_option maxHeartbeats 40000000 in
theorem b0_0 {p : Program} {l : Launch} {e : Env} {s : State} {m : MethodId} {args : Array Value} {below : List Frame} {meth : Method} {c : Code} {T : State} {locs : List Loc} {cells slots : Nat} {Z : State} {a0 : Array Value} {h : Heap} {n0 : Nat} {Q : Option Value → Heap → List Loc → Prop} (i0 : Int32) (i1 : Int32) (hw : ∀ d ∈ tables_1, d.before a0 Z = true) (X : Stand p l e room_1 s m args below meth c T locs cells slots) (hx : p.tables.exec = Jvm.exec) (hZ : Z.Warmed39 s.vm) (hby : c.code = code) (hml : c.maxLocals = 12) (hown : s.vm.findClass "com/example/libentitle/libentitle/role/IdTableSlotOfPinLaw" = some m.cls) (hret : meth.sig.returnType = some .boolean) (hlk : meth.locks = false) (eT : T.heap = h) (N : Fr n0 locs) (hc : cells ≤ 0) (hs : slots ≤ 0) (Z0 : n0 ≤ h.size) (hQ : ∀ H' L', Fr n0 L' → Q (some (.int 1)) H' L') :
    own_Fin p e below s Q 0 0 (T.setTop (mkF m 0 #[.val (.int i0), .val (.int i1), .unset, .unset, .unset, .unset, .unset, .unset, .unset, .unset, .unset, .unset] [])) := by
  refine own_step (X.ldcInt hx hown (mvT hZ (hw _ (List.mem_of_getElem? (i := 0) rfl))) (g := (mkF m 0 #[.val (.int i0), .val (.int i1), .unset, .unset, .unset, .unset, .unset, .unset, .unset, .unset, .unset, .unset] [])) rfl (hb hby at_0)) ?_
  show own_Fin p e below s Q 0 0 (T.setTop (mkF m 2 #[.val (.int i0), .val (.int i1), .unset, .unset, .unset, .unset, .unset, .unset, .unset, .unset, .unset, .unset] [(.int (-1640531527 : Int32))]))
  obtain ⟨_, _, ⟨T2, L2, k2, n2⟩, -, X2, ⟨Lc2, hQ2, l2, y2, z2⟩, st2⟩ := Jvm.LawKit.callS X hx (y := (⟨"com/example/libentitle/libentitle/role/IdTableSlotOfPinLaw", "inverseOfMultiplier", "()I"⟩ : MethodName)) hown (mvT hZ (hw _ (List.mem_of_getElem? (i := 1) rfl))) (mvT hZ (hw _ (List.mem_of_getElem? (i := 2) rfl))) (mvT hZ (hw _ (List.mem_of_getElem? (i := 3) rfl))) (mvT hZ (hw _ (List.mem_of_getElem? (i := 4) rfl))) (by decide) (backOf (W := 1) (rm1 l Z a0 hw [] h n0) hZ (hw _ (List.mem_of_getElem? (i := 4) rfl)) (hw _ (List.mem_of_getElem? (i := 3) rfl)) (by decide) (by decide)) (g := (mkF m 2 #[.val (.int i0), .val (.int i1), .unset, .unset, .unset, .unset, .unset, .unset, .unset, .unset, .unset, .unset] [(.int (-1640531527 : Int32))])) rfl (by rw [hml]; rfl) (argsL := []) (rest := [(.int (-1640531527 : Int32))]) (lenOf pdm_0 rfl) rfl (by show 2 * 0 + _ ≤ _; exact Nat.le_of_eq rfl) (hb hby at_2) (fun _ _ => ⟨rfl, eT, (show cells + 0 ≤ 0 from (Nat.le_trans (Nat.add_le_add_right hc 0) (by decide))), (show slots + 0 ≤ 0 from (Nat.le_trans (Nat.add_le_add_right hs 0) (by decide)))⟩)
  dsimp only [Pt.U, Pt.locs, Pt.cells, Pt.slots] at X2 l2 y2 z2 st2 hQ2
  have yy2 : k2 = cells + 0 := y2
  have zz2 : n2 = slots + 0 := z2
  rw [yy2, zz2, l2] at X2
  obtain ⟨rfl, N2q, e2⟩ := hQ2
  have N2 := Fr.app N N2q
  refine own_step st2 ?_
  show own_Fin p e below s Q 0 0 (T2.setTop (mkF m 5 #[.val (.int i0), .val (.int i1), .unset, .unset, .unset, .unset, .unset, .unset, .unset, .unset, .unset, .unset] [(.int (f1_0)), (.int (-1640531527 : Int32))]))
  refine own_step (fun t k => XS.imul X2.here hx rfl (hb hby at_5) rfl k) ?_
  show own_Fin p e below s Q 0 0 (T2.setTop (mkF m 6 #[.val (.int i0), .val (.int i1), .unset, .unset, .unset, .unset, .unset, .unset, .unset, .unset, .unset, .unset] [(.int ((-1640531527 : Int32) * (f1_0)))]))
  refine own_step (fun t k => XS.iconst X2.here hx rfl (hb hby at_6) k) ?_
  show own_Fin p e below s Q 0 0 (T2.setTop (mkF m 7 #[.val (.int i0), .val (.int i1), .unset, .unset, .unset, .unset, .unset, .unset, .unset, .unset, .unset, .unset] [(.int (1 : Int32)), (.int ((-1640531527 : Int32) * (f1_0)))]))
  refine own_step (fun t k => XS.icmpYes X2.here hx rfl (pc0 := 7) (pc' := 12) rfl (hb hby at_7) rfl (teq own_inv).1 (by decide) (by decide) k) ?_
  show own_Fin p e below s Q 0 0 (T2.setTop (mkF m 12 #[.val (.int i0), .val (.int i1), .unset, .unset, .unset, .unset, .unset, .unset, .unset, .unset, .unset, .unset] []))
  refine own_step (fun t k => XS.iloadN X2.here hx rfl (hb hby at_12) rfl  k) ?_
  show own_Fin p e below s Q 0 0 (T2.setTop (mkF m 13 #[.val (.int i0), .val (.int i1), .unset, .unset, .unset, .unset, .unset, .unset, .unset, .unset, .unset, .unset] [(.int i0)]))
  refine own_step (X2.ldc2Long hx hown (mvT hZ (hw _ (List.mem_of_getElem? (i := 5) rfl))) (g := (mkF m 13 #[.val (.int i0), .val (.int i1), .unset, .unset, .unset, .unset, .unset, .unset, .unset, .unset, .unset, .unset] [(.int i0)])) rfl (hb hby at_13)) ?_
  show own_Fin p e below s Q 0 0 (T2.setTop (mkF m 16 #[.val (.int i0), .val (.int i1), .unset, .unset, .unset, .unset, .unset, .unset, .unset, .unset, .unset, .unset] [(.long (2147483648 : Int64)), (.int i0)]))
  obtain ⟨_, _, ⟨T3, L3, k3, n3⟩, -, X3, ⟨Lc3, hQ3, l3, y3, z3⟩, st3⟩ := Jvm.LawKit.callS X2 hx (y := (⟨"com/example/libentitle/libentitle/role/IdTable", "slotOf", "(IJ)I"⟩ : MethodName)) hown (mvT hZ (hw _ (List.mem_of_getElem? (i := 6) rfl))) (mvT hZ (hw _ (List.mem_of_getElem? (i := 7) rfl))) (mvT hZ (hw _ (List.mem_of_getElem? (i := 8) rfl))) (mvT hZ (hw _ (List.mem_of_getElem? (i := 9) rfl))) (by decide) (backOf (W := 0) (rm2 l Z a0 hw [] i0 (2147483648 : Int64) h n0) hZ (hw _ (List.mem_of_getElem? (i := 9) rfl)) (hw _ (List.mem_of_getElem? (i := 8) rfl)) (by decide) (by decide)) (g := (mkF m 16 #[.val (.int i0), .val (.int i1), .unset, .unset, .unset, .unset, .unset, .unset, .unset, .unset, .unset, .unset] [(.long (2147483648 : Int64)), (.int i0)])) rfl (by rw [hml]; rfl) (argsL := [(.int i0), (.long (2147483648 : Int64))]) (rest := []) (lenOf pdm_1 rfl) rfl (by show 2 * 0 + _ ≤ _; exact Nat.le_of_eq rfl) (hb hby at_16) (fun _ _ => ⟨rfl, e2, (show cells + 0 + 0 ≤ 0 from (Nat.le_trans (Nat.add_le_add_right hc 0) (by decide))), (show slots + 0 + 0 ≤ 0 from (Nat.le_trans (Nat.add_le_add_right hs 0) (by decide)))⟩)
  dsimp only [Pt.U, Pt.locs, Pt.cells, Pt.slots] at X3 l3 y3 z3 st3 hQ3
  have yy3 : k3 = cells + 0 + 0 := y3
  have zz3 : n3 = slots + 0 + 0 := z3
  rw [yy3, zz3, l3] at X3
  obtain ⟨rfl, N3q, e3⟩ := hQ3
  have N3 := Fr.app N2 N3q
  refine own_step st3 ?_
  show own_Fin p e below s Q 0 0 (T3.setTop (mkF m 19 #[.val (.int i0), .val (.int i1), .unset, .unset, .unset, .unset, .unset, .unset, .unset, .unset, .unset, .unset] [(.int (f2_0 i0 (2147483648 : Int64)))]))
  refine own_step (fun t k => XS.istoreN X3.here hx rfl (hb hby at_19) rfl (l' := #[.val (.int i0), .val (.int i1), .val (.int (f2_0 i0 (2147483648 : Int64))), .unset, .unset, .unset, .unset, .unset, .unset, .unset, .unset, .unset]) rfl k) ?_
  show own_Fin p e below s Q 0 0 (T3.setTop (mkF m 20 #[.val (.int i0), .val (.int i1), .val (.int (f2_0 i0 (2147483648 : Int64))), .unset, .unset, .unset, .unset, .unset, .unset, .unset, .unset, .unset] []))
  refine own_step (fun t k => XS.iloadN X3.here hx rfl (hb hby at_20) rfl  k) ?_
  show own_Fin p e below s Q 0 0 (T3.setTop (mkF m 21 #[.val (.int i0), .val (.int i1), .val (.int (f2_0 i0 (2147483648 : Int64))), .unset, .unset, .unset, .unset, .unset, .unset, .unset, .unset, .unset] [(.int (f2_0 i0 (2147483648 : Int64)))]))
  refine own_step (fun t k => XS.ifYes X3.here hx rfl (pc0 := 21) (pc' := 26) rfl (hb hby at_21) rfl ((if0 _ _).trans (flt (own_r31 i0).1).2.1) (by decide) (by decide) k) ?_
  show own_Fin p e below s Q 0 0 (T3.setTop (mkF m 26 #[.val (.int i0), .val (.int i1), .val (.int (f2_0 i0 (2147483648 : Int64))), .unset, .unset, .unset, .unset, .unset, .unset, .unset, .unset, .unset] []))
  refine own_step (fun t k => XS.iloadN X3.here hx rfl (hb hby at_26) rfl  k) ?_
  show own_Fin p e below s Q 0 0 (T3.setTop (mkF m 27 #[.val (.int i0), .val (.int i1), .val (.int (f2_0 i0 (2147483648 : Int64))), .unset, .unset, .unset, .unset, .unset, .unset, .unset, .unset, .unset] [(.int (f2_0 i0 (2147483648 : Int64)))]))
  refine own_step (fun t k => XS.iconst X3.here hx rfl (hb hby at_27) k) ?_
  show own_Fin p e below s Q 0 0 (T3.setTop (mkF m 28 #[.val (.int i0), .val (.int i1), .val (.int (f2_0 i0 (2147483648 : Int64))), .unset, .unset, .unset, .unset, .unset, .unset, .unset, .unset, .unset] [(.int (1 : Int32)), (.int (f2_0 i0 (2147483648 : Int64)))]))
  refine own_step (fun t k => XS.ishl X3.here hx rfl (hb hby at_28) rfl k) ?_
  show own_Fin p e below s Q 0 0 (T3.setTop (mkF m 29 #[.val (.int i0), .val (.int i1), .val (.int (f2_0 i0 (2147483648 : Int64))), .unset, .unset, .unset, .unset, .unset, .unset, .unset, .unset, .unset] [(.int ((f2_0 i0 (2147483648 : Int64)) <<< ((1 : Int32) &&& 31)))]))
  refine own_step (fun t k => XS.istoreN X3.here hx rfl (hb hby at_29) rfl (l' := #[.val (.int i0), .val (.int i1), .val (.int (f2_0 i0 (2147483648 : Int64))), .val (.int ((f2_0 i0 (2147483648 : Int64)) <<< ((1 : Int32) &&& 31))), .unset, .unset, .unset, .unset, .unset, .unset, .unset, .unset]) rfl k) ?_
  show own_Fin p e below s Q 0 0 (T3.setTop (mkF m 30 #[.val (.int i0), .val (.int i1), .val (.int (f2_0 i0 (2147483648 : Int64))), .val (.int ((f2_0 i0 (2147483648 : Int64)) <<< ((1 : Int32) &&& 31))), .unset, .unset, .unset, .unset, .unset, .unset, .unset, .unset] []))
  refine own_step (fun t k => XS.iloadN X3.here hx rfl (hb hby at_30) rfl  k) ?_
  show own_Fin p e below s Q 0 0 (T3.setTop (mkF m 31 #[.val (.int i0), .val (.int i1), .val (.int (f2_0 i0 (2147483648 : Int64))), .val (.int ((f2_0 i0 (2147483648 : Int64)) <<< ((1 : Int32) &&& 31))), .unset, .unset, .unset, .unset, .unset, .unset, .unset, .unset] [(.int ((f2_0 i0 (2147483648 : Int64)) <<< ((1 : Int32) &&& 31)))]))
  refine own_step (fun t k => XS.iconst X3.here hx rfl (hb hby at_31) k) ?_
  show own_Fin p e below s Q 0 0 (T3.setTop (mkF m 32 #[.val (.int i0), .val (.int i1), .val (.int (f2_0 i0 (2147483648 : Int64))), .val (.int ((f2_0 i0 (2147483648 : Int64)) <<< ((1 : Int32) &&& 31))), .unset, .unset, .unset, .unset, .unset, .unset, .unset, .unset] [(.int (1 : Int32)), (.int ((f2_0 i0 (2147483648 : Int64)) <<< ((1 : Int32) &&& 31)))]))
  refine own_step (fun t k => XS.ior X3.here hx rfl (hb hby at_32) rfl k) ?_
  show own_Fin p e below s Q 0 0 (T3.setTop (mkF m 33 #[.val (.int i0), .val (.int i1), .val (.int (f2_0 i0 (2147483648 : Int64))), .val (.int ((f2_0 i0 (2147483648 : Int64)) <<< ((1 : Int32) &&& 31))), .unset, .unset, .unset, .unset, .unset, .unset, .unset, .unset] [(.int (((f2_0 i0 (2147483648 : Int64)) <<< ((1 : Int32) &&& 31)) ||| (1 : Int32)))]))
  refine own_step (fun t k => XS.istore X3.here hx rfl (hb hby at_33) rfl (l' := #[.val (.int i0), .val (.int i1), .val (.int (f2_0 i0 (2147483648 : Int64))), .val (.int ((f2_0 i0 (2147483648 : Int64)) <<< ((1 : Int32) &&& 31))), .val (.int (((f2_0 i0 (2147483648 : Int64)) <<< ((1 : Int32) &&& 31)) ||| (1 : Int32))), .unset, .unset, .unset, .unset, .unset, .unset, .unset]) rfl k) ?_
  show own_Fin p e below s Q 0 0 (T3.setTop (mkF m 35 #[.val (.int i0), .val (.int i1), .val (.int (f2_0 i0 (2147483648 : Int64))), .val (.int ((f2_0 i0 (2147483648 : Int64)) <<< ((1 : Int32) &&& 31))), .val (.int (((f2_0 i0 (2147483648 : Int64)) <<< ((1 : Int32) &&& 31)) ||| (1 : Int32))), .unset, .unset, .unset, .unset, .unset, .unset, .unset] []))
  refine own_step (fun t k => XS.iloadN X3.here hx rfl (hb hby at_35) rfl  k) ?_
  show own_Fin p e below s Q 0 0 (T3.setTop (mkF m 36 #[.val (.int i0), .val (.int i1), .val (.int (f2_0 i0 (2147483648 : Int64))), .val (.int ((f2_0 i0 (2147483648 : Int64)) <<< ((1 : Int32) &&& 31))), .val (.int (((f2_0 i0 (2147483648 : Int64)) <<< ((1 : Int32) &&& 31)) ||| (1 : Int32))), .unset, .unset, .unset, .unset, .unset, .unset, .unset] [(.int ((f2_0 i0 (2147483648 : Int64)) <<< ((1 : Int32) &&& 31)))]))
  obtain ⟨_, _, ⟨T4, L4, k4, n4⟩, -, X4, ⟨Lc4, hQ4, l4, y4, z4⟩, st4⟩ := Jvm.LawKit.callS X3 hx (y := (⟨"com/example/libentitle/libentitle/role/IdTableSlotOfPinLaw", "preimage", "(I)I"⟩ : MethodName)) hown (mvT hZ (hw _ (List.mem_of_getElem? (i := 12) rfl))) (mvT hZ (hw _ (List.mem_of_getElem? (i := 13) rfl))) (mvT hZ (hw _ (List.mem_of_getElem? (i := 3) rfl))) (mvT hZ (hw _ (List.mem_of_getElem? (i := 14) rfl))) (by decide) (backOf (W := 0) (rm3 l Z a0 hw [] ((f2_0 i0 (2147483648 : Int64)) <<< ((1 : Int32) &&& 31)) h n0) hZ (hw _ (List.mem_of_getElem? (i := 14) rfl)) (hw _ (List.mem_of_getElem? (i := 3) rfl)) (by decide) (by decide)) (g := (mkF m 36 #[.val (.int i0), .val (.int i1), .val (.int (f2_0 i0 (2147483648 : Int64))), .val (.int ((f2_0 i0 (2147483648 : Int64)) <<< ((1 : Int32) &&& 31))), .val (.int (((f2_0 i0 (2147483648 : Int64)) <<< ((1 : Int32) &&& 31)) ||| (1 : Int32))), .unset, .unset, .unset, .unset, .unset, .unset, .unset] [(.int ((f2_0 i0 (2147483648 : Int64)) <<< ((1 : Int32) &&& 31)))])) rfl (by rw [hml]; rfl) (argsL := [(.int ((f2_0 i0 (2147483648 : Int64)) <<< ((1 : Int32) &&& 31)))]) (rest := []) (lenOf pdm_2 rfl) rfl (by show 2 * 0 + _ ≤ _; exact Nat.le_of_eq rfl) (hb hby at_36) (fun _ _ => ⟨rfl, e3, (show cells + 0 + 0 + 0 ≤ 0 from (Nat.le_trans (Nat.add_le_add_right hc 0) (by decide))), (show slots + 0 + 0 + 0 ≤ 0 from (Nat.le_trans (Nat.add_le_add_right hs 0) (by decide)))⟩)
  dsimp only [Pt.U, Pt.locs, Pt.cells, Pt.slots] at X4 l4 y4 z4 st4 hQ4
  have yy4 : k4 = cells + 0 + 0 + 0 := y4
  have zz4 : n4 = slots + 0 + 0 + 0 := z4
  rw [yy4, zz4, l4] at X4
  obtain ⟨rfl, N4q, e4⟩ := hQ4
  have N4 := Fr.app N3 N4q
  refine own_step st4 ?_
  show own_Fin p e below s Q 0 0 (T4.setTop (mkF m 39 #[.val (.int i0), .val (.int i1), .val (.int (f2_0 i0 (2147483648 : Int64))), .val (.int ((f2_0 i0 (2147483648 : Int64)) <<< ((1 : Int32) &&& 31))), .val (.int (((f2_0 i0 (2147483648 : Int64)) <<< ((1 : Int32) &&& 31)) ||| (1 : Int32))), .unset, .unset, .unset, .unset, .unset, .unset, .unset] [(.int (f3_0 ((f2_0 i0 (2147483648 : Int64)) <<< ((1 : Int32) &&& 31))))]))
  refine own_step (fun t k => XS.iloadN X4.here hx rfl (hb hby at_39) rfl  k) ?_
  show own_Fin p e below s Q 0 0 (T4.setTop (mkF m 40 #[.val (.int i0), .val (.int i1), .val (.int (f2_0 i0 (2147483648 : Int64))), .val (.int ((f2_0 i0 (2147483648 : Int64)) <<< ((1 : Int32) &&& 31))), .val (.int (((f2_0 i0 (2147483648 : Int64)) <<< ((1 : Int32) &&& 31)) ||| (1 : Int32))), .unset, .unset, .unset, .unset, .unset, .unset, .unset] [(.int i0), (.int (f3_0 ((f2_0 i0 (2147483648 : Int64)) <<< ((1 : Int32) &&& 31))))]))
  by_cases hB40_5 : (f3_0 ((f2_0 i0 (2147483648 : Int64)) <<< ((1 : Int32) &&& 31))) = i0
  · refine own_step (fun t k => XS.icmpNo X4.here hx rfl (hb hby at_40) rfl (teq hB40_5).2 k) ?_
    show own_Fin p e below s Q 0 0 (T4.setTop (mkF m 43 #[.val (.int i0), .val (.int i1), .val (.int (f2_0 i0 (2147483648 : Int64))), .val (.int ((f2_0 i0 (2147483648 : Int64)) <<< ((1 : Int32) &&& 31))), .val (.int (((f2_0 i0 (2147483648 : Int64)) <<< ((1 : Int32) &&& 31)) ||| (1 : Int32))), .unset, .unset, .unset, .unset, .unset, .unset, .unset] []))
    refine own_step (fun t k => XS.iconst X4.here hx rfl (hb hby at_43) k) ?_
    show own_Fin p e below s Q 0 0 (T4.setTop (mkF m 44 #[.val (.int i0), .val (.int i1), .val (.int (f2_0 i0 (2147483648 : Int64))), .val (.int ((f2_0 i0 (2147483648 : Int64)) <<< ((1 : Int32) &&& 31))), .val (.int (((f2_0 i0 (2147483648 : Int64)) <<< ((1 : Int32) &&& 31)) ||| (1 : Int32))), .unset, .unset, .unset, .unset, .unset, .unset, .unset] [(.int (1 : Int32))]))
    refine own_step (fun t k => XS.goto X4.here hx rfl (pc0 := 44) (pc' := 48) rfl (hb hby at_44) (by decide) (by decide) k) ?_
    show own_Fin p e below s Q 0 0 (T4.setTop (mkF m 48 #[.val (.int i0), .val (.int i1), .val (.int (f2_0 i0 (2147483648 : Int64))), .val (.int ((f2_0 i0 (2147483648 : Int64)) <<< ((1 : Int32) &&& 31))), .val (.int (((f2_0 i0 (2147483648 : Int64)) <<< ((1 : Int32) &&& 31)) ||| (1 : Int32))), .unset, .unset, .unset, .unset, .unset, .unset, .unset] [(.int (1 : Int32))]))
    refine own_step (fun t k => XS.istore X4.here hx rfl (hb hby at_48) rfl (l' := #[.val (.int i0), .val (.int i1), .val (.int (f2_0 i0 (2147483648 : Int64))), .val (.int ((f2_0 i0 (2147483648 : Int64)) <<< ((1 : Int32) &&& 31))), .val (.int (((f2_0 i0 (2147483648 : Int64)) <<< ((1 : Int32) &&& 31)) ||| (1 : Int32))), .val (.int (1 : Int32)), .unset, .unset, .unset, .unset, .unset, .unset]) rfl k) ?_
    show own_Fin p e below s Q 0 0 (T4.setTop (mkF m 50 #[.val (.int i0), .val (.int i1), .val (.int (f2_0 i0 (2147483648 : Int64))), .val (.int ((f2_0 i0 (2147483648 : Int64)) <<< ((1 : Int32) &&& 31))), .val (.int (((f2_0 i0 (2147483648 : Int64)) <<< ((1 : Int32) &&& 31)) ||| (1 : Int32))), .val (.int (1 : Int32)), .unset, .unset, .unset, .unset, .unset, .unset] []))
    refine own_step (fun t k => XS.iload X4.here hx rfl (hb hby at_50) rfl  k) ?_
    show own_Fin p e below s Q 0 0 (T4.setTop (mkF m 52 #[.val (.int i0), .val (.int i1), .val (.int (f2_0 i0 (2147483648 : Int64))), .val (.int ((f2_0 i0 (2147483648 : Int64)) <<< ((1 : Int32) &&& 31))), .val (.int (((f2_0 i0 (2147483648 : Int64)) <<< ((1 : Int32) &&& 31)) ||| (1 : Int32))), .val (.int (1 : Int32)), .unset, .unset, .unset, .unset, .unset, .unset] [(.int (((f2_0 i0 (2147483648 : Int64)) <<< ((1 : Int32) &&& 31)) ||| (1 : Int32)))]))
    obtain ⟨_, _, ⟨T6, L6, k6, n6⟩, -, X6, ⟨Lc6, hQ6, l6, y6, z6⟩, st6⟩ := Jvm.LawKit.callS X4 hx (y := (⟨"com/example/libentitle/libentitle/role/IdTableSlotOfPinLaw", "preimage", "(I)I"⟩ : MethodName)) hown (mvT hZ (hw _ (List.mem_of_getElem? (i := 12) rfl))) (mvT hZ (hw _ (List.mem_of_getElem? (i := 13) rfl))) (mvT hZ (hw _ (List.mem_of_getElem? (i := 3) rfl))) (mvT hZ (hw _ (List.mem_of_getElem? (i := 14) rfl))) (by decide) (backOf (W := 0) (rm3 l Z a0 hw [] (((f2_0 i0 (2147483648 : Int64)) <<< ((1 : Int32) &&& 31)) ||| (1 : Int32)) h n0) hZ (hw _ (List.mem_of_getElem? (i := 14) rfl)) (hw _ (List.mem_of_getElem? (i := 3) rfl)) (by decide) (by decide)) (g := (mkF m 52 #[.val (.int i0), .val (.int i1), .val (.int (f2_0 i0 (2147483648 : Int64))), .val (.int ((f2_0 i0 (2147483648 : Int64)) <<< ((1 : Int32) &&& 31))), .val (.int (((f2_0 i0 (2147483648 : Int64)) <<< ((1 : Int32) &&& 31)) ||| (1 : Int32))), .val (.int (1 : Int32)), .unset, .unset, .unset, .unset, .unset, .unset] [(.int (((f2_0 i0 (2147483648 : Int64)) <<< ((1 : Int32) &&& 31)) ||| (1 : Int32)))])) rfl (by rw [hml]; rfl) (argsL := [(.int (((f2_0 i0 (2147483648 : Int64)) <<< ((1 : Int32) &&& 31)) ||| (1 : Int32)))]) (rest := []) (lenOf pdm_2 rfl) rfl (by show 2 * 0 + _ ≤ _; exact Nat.le_of_eq rfl) (hb hby at_52) (fun _ _ => ⟨rfl, e4, (show cells + 0 + 0 + 0 + 0 ≤ 0 from (Nat.le_trans (Nat.add_le_add_right hc 0) (by decide))), (show slots + 0 + 0 + 0 + 0 ≤ 0 from (Nat.le_trans (Nat.add_le_add_right hs 0) (by decide)))⟩)
    dsimp only [Pt.U, Pt.locs, Pt.cells, Pt.slots] at X6 l6 y6 z6 st6 hQ6
    have yy6 : k6 = cells + 0 + 0 + 0 + 0 := y6
    have zz6 : n6 = slots + 0 + 0 + 0 + 0 := z6
    rw [yy6, zz6, l6] at X6
    obtain ⟨rfl, N6q, e6⟩ := hQ6
    have N6 := Fr.app N4 N6q
    refine own_step st6 ?_
    show own_Fin p e below s Q 0 0 (T6.setTop (mkF m 55 #[.val (.int i0), .val (.int i1), .val (.int (f2_0 i0 (2147483648 : Int64))), .val (.int ((f2_0 i0 (2147483648 : Int64)) <<< ((1 : Int32) &&& 31))), .val (.int (((f2_0 i0 (2147483648 : Int64)) <<< ((1 : Int32) &&& 31)) ||| (1 : Int32))), .val (.int (1 : Int32)), .unset, .unset, .unset, .unset, .unset, .unset] [(.int (f3_0 (((f2_0 i0 (2147483648 : Int64)) <<< ((1 : Int32) &&& 31)) ||| (1 : Int32))))]))
    refine own_step (fun t k => XS.iloadN X6.here hx rfl (hb hby at_55) rfl  k) ?_
    show own_Fin p e below s Q 0 0 (T6.setTop (mkF m 56 #[.val (.int i0), .val (.int i1), .val (.int (f2_0 i0 (2147483648 : Int64))), .val (.int ((f2_0 i0 (2147483648 : Int64)) <<< ((1 : Int32) &&& 31))), .val (.int (((f2_0 i0 (2147483648 : Int64)) <<< ((1 : Int32) &&& 31)) ||| (1 : Int32))), .val (.int (1 : Int32)), .unset, .unset, .unset, .unset, .unset, .unset] [(.int i0), (.int (f3_0 (((f2_0 i0 (2147483648 : Int64)) <<< ((1 : Int32) &&& 31)) ||| (1 : Int32))))]))
    by_cases hB56_7 : (f3_0 (((f2_0 i0 (2147483648 : Int64)) <<< ((1 : Int32) &&& 31)) ||| (1 : Int32))) = i0
    · refine own_step (fun t k => XS.icmpNo X6.here hx rfl (hb hby at_56) rfl (teq hB56_7).2 k) ?_
      show own_Fin p e below s Q 0 0 (T6.setTop (mkF m 59 #[.val (.int i0), .val (.int i1), .val (.int (f2_0 i0 (2147483648 : Int64))), .val (.int ((f2_0 i0 (2147483648 : Int64)) <<< ((1 : Int32) &&& 31))), .val (.int (((f2_0 i0 (2147483648 : Int64)) <<< ((1 : Int32) &&& 31)) ||| (1 : Int32))), .val (.int (1 : Int32)), .unset, .unset, .unset, .unset, .unset, .unset] []))
      refine own_step (fun t k => XS.iconst X6.here hx rfl (hb hby at_59) k) ?_
      show own_Fin p e below s Q 0 0 (T6.setTop (mkF m 60 #[.val (.int i0), .val (.int i1), .val (.int (f2_0 i0 (2147483648 : Int64))), .val (.int ((f2_0 i0 (2147483648 : Int64)) <<< ((1 : Int32) &&& 31))), .val (.int (((f2_0 i0 (2147483648 : Int64)) <<< ((1 : Int32) &&& 31)) ||| (1 : Int32))), .val (.int (1 : Int32)), .unset, .unset, .unset, .unset, .unset, .unset] [(.int (1 : Int32))]))
      refine own_step (fun t k => XS.goto X6.here hx rfl (pc0 := 60) (pc' := 64) rfl (hb hby at_60) (by decide) (by decide) k) ?_
      show own_Fin p e below s Q 0 0 (T6.setTop (mkF m 64 #[.val (.int i0), .val (.int i1), .val (.int (f2_0 i0 (2147483648 : Int64))), .val (.int ((f2_0 i0 (2147483648 : Int64)) <<< ((1 : Int32) &&& 31))), .val (.int (((f2_0 i0 (2147483648 : Int64)) <<< ((1 : Int32) &&& 31)) ||| (1 : Int32))), .val (.int (1 : Int32)), .unset, .unset, .unset, .unset, .unset, .unset] [(.int (1 : Int32))]))
      refine own_step (fun t k => XS.istore X6.here hx rfl (hb hby at_64) rfl (l' := #[.val (.int i0), .val (.int i1), .val (.int (f2_0 i0 (2147483648 : Int64))), .val (.int ((f2_0 i0 (2147483648 : Int64)) <<< ((1 : Int32) &&& 31))), .val (.int (((f2_0 i0 (2147483648 : Int64)) <<< ((1 : Int32) &&& 31)) ||| (1 : Int32))), .val (.int (1 : Int32)), .val (.int (1 : Int32)), .unset, .unset, .unset, .unset, .unset]) rfl k) ?_
      show own_Fin p e below s Q 0 0 (T6.setTop (mkF m 66 #[.val (.int i0), .val (.int i1), .val (.int (f2_0 i0 (2147483648 : Int64))), .val (.int ((f2_0 i0 (2147483648 : Int64)) <<< ((1 : Int32) &&& 31))), .val (.int (((f2_0 i0 (2147483648 : Int64)) <<< ((1 : Int32) &&& 31)) ||| (1 : Int32))), .val (.int (1 : Int32)), .val (.int (1 : Int32)), .unset, .unset, .unset, .unset, .unset] []))
      refine own_step (fun t k => XS.iload X6.here hx rfl (hb hby at_66) rfl  k) ?_
      show own_Fin p e below s Q 0 0 (T6.setTop (mkF m 68 #[.val (.int i0), .val (.int i1), .val (.int (f2_0 i0 (2147483648 : Int64))), .val (.int ((f2_0 i0 (2147483648 : Int64)) <<< ((1 : Int32) &&& 31))), .val (.int (((f2_0 i0 (2147483648 : Int64)) <<< ((1 : Int32) &&& 31)) ||| (1 : Int32))), .val (.int (1 : Int32)), .val (.int (1 : Int32)), .unset, .unset, .unset, .unset, .unset] [(.int (1 : Int32))]))
      refine own_step (fun t k => XS.iload X6.here hx rfl (hb hby at_68) rfl  k) ?_
      show own_Fin p e below s Q 0 0 (T6.setTop (mkF m 70 #[.val (.int i0), .val (.int i1), .val (.int (f2_0 i0 (2147483648 : Int64))), .val (.int ((f2_0 i0 (2147483648 : Int64)) <<< ((1 : Int32) &&& 31))), .val (.int (((f2_0 i0 (2147483648 : Int64)) <<< ((1 : Int32) &&& 31)) ||| (1 : Int32))), .val (.int (1 : Int32)), .val (.int (1 : Int32)), .unset, .unset, .unset, .unset, .unset] [(.int (1 : Int32)), (.int (1 : Int32))]))
      refine own_step (fun t k => XS.icmpNo X6.here hx rfl (hb hby at_70) rfl (teq (by decide : (1 : Int32) = (1 : Int32))).2 k) ?_
      show own_Fin p e below s Q 0 0 (T6.setTop (mkF m 73 #[.val (.int i0), .val (.int i1), .val (.int (f2_0 i0 (2147483648 : Int64))), .val (.int ((f2_0 i0 (2147483648 : Int64)) <<< ((1 : Int32) &&& 31))), .val (.int (((f2_0 i0 (2147483648 : Int64)) <<< ((1 : Int32) &&& 31)) ||| (1 : Int32))), .val (.int (1 : Int32)), .val (.int (1 : Int32)), .unset, .unset, .unset, .unset, .unset] []))
      refine own_step (fun t k => XS.iconst X6.here hx rfl (hb hby at_73) k) ?_
      show own_Fin p e below s Q 0 0 (T6.setTop (mkF m 74 #[.val (.int i0), .val (.int i1), .val (.int (f2_0 i0 (2147483648 : Int64))), .val (.int ((f2_0 i0 (2147483648 : Int64)) <<< ((1 : Int32) &&& 31))), .val (.int (((f2_0 i0 (2147483648 : Int64)) <<< ((1 : Int32) &&& 31)) ||| (1 : Int32))), .val (.int (1 : Int32)), .val (.int (1 : Int32)), .unset, .unset, .unset, .unset, .unset] [(.int (0 : Int32))]))
      exact own_retN X6 hx hlk hret (by simp) (hb hby at_74) (Nat.le_trans (Nat.add_le_add_right hc 0) (by decide)) (Nat.le_trans (Nat.add_le_add_right hs 0) (by decide)) rfl N6 (fun L' n' => hQ _ L' n') (False.elim ((own_ex i0 _ _ (own_r31 i0).2.1 (own_r31 i0).2.2).1 hB40_5 hB56_7))
    · refine own_step (fun t k => XS.icmpYes X6.here hx rfl (pc0 := 56) (pc' := 63) rfl (hb hby at_56) rfl (feq hB56_7).2 (by decide) (by decide) k) ?_
      show own_Fin p e below s Q 0 0 (T6.setTop (mkF m 63 #[.val (.int i0), .val (.int i1), .val (.int (f2_0 i0 (2147483648 : Int64))), .val (.int ((f2_0 i0 (2147483648 : Int64)) <<< ((1 : Int32) &&& 31))), .val (.int (((f2_0 i0 (2147483648 : Int64)) <<< ((1 : Int32) &&& 31)) ||| (1 : Int32))), .val (.int (1 : Int32)), .unset, .unset, .unset, .unset, .unset, .unset] []))
      refine own_step (fun t k => XS.iconst X6.here hx rfl (hb hby at_63) k) ?_
      show own_Fin p e below s Q 0 0 (T6.setTop (mkF m 64 #[.val (.int i0), .val (.int i1), .val (.int (f2_0 i0 (2147483648 : Int64))), .val (.int ((f2_0 i0 (2147483648 : Int64)) <<< ((1 : Int32) &&& 31))), .val (.int (((f2_0 i0 (2147483648 : Int64)) <<< ((1 : Int32) &&& 31)) ||| (1 : Int32))), .val (.int (1 : Int32)), .unset, .unset, .unset, .unset, .unset, .unset] [(.int (0 : Int32))]))
      refine own_step (fun t k => XS.istore X6.here hx rfl (hb hby at_64) rfl (l' := #[.val (.int i0), .val (.int i1), .val (.int (f2_0 i0 (2147483648 : Int64))), .val (.int ((f2_0 i0 (2147483648 : Int64)) <<< ((1 : Int32) &&& 31))), .val (.int (((f2_0 i0 (2147483648 : Int64)) <<< ((1 : Int32) &&& 31)) ||| (1 : Int32))), .val (.int (1 : Int32)), .val (.int (0 : Int32)), .unset, .unset, .unset, .unset, .unset]) rfl k) ?_
      show own_Fin p e below s Q 0 0 (T6.setTop (mkF m 66 #[.val (.int i0), .val (.int i1), .val (.int (f2_0 i0 (2147483648 : Int64))), .val (.int ((f2_0 i0 (2147483648 : Int64)) <<< ((1 : Int32) &&& 31))), .val (.int (((f2_0 i0 (2147483648 : Int64)) <<< ((1 : Int32) &&& 31)) ||| (1 : Int32))), .val (.int (1 : Int32)), .val (.int (0 : Int32)), .unset, .unset, .unset, .unset, .unset] []))
      refine own_step (fun t k => XS.iload X6.here hx rfl (hb hby at_66) rfl  k) ?_
      show own_Fin p e below s Q 0 0 (T6.setTop (mkF m 68 #[.val (.int i0), .val (.int i1), .val (.int (f2_0 i0 (2147483648 : Int64))), .val (.int ((f2_0 i0 (2147483648 : Int64)) <<< ((1 : Int32) &&& 31))), .val (.int (((f2_0 i0 (2147483648 : Int64)) <<< ((1 : Int32) &&& 31)) ||| (1 : Int32))), .val (.int (1 : Int32)), .val (.int (0 : Int32)), .unset, .unset, .unset, .unset, .unset] [(.int (1 : Int32))]))
      refine own_step (fun t k => XS.iload X6.here hx rfl (hb hby at_68) rfl  k) ?_
      show own_Fin p e below s Q 0 0 (T6.setTop (mkF m 70 #[.val (.int i0), .val (.int i1), .val (.int (f2_0 i0 (2147483648 : Int64))), .val (.int ((f2_0 i0 (2147483648 : Int64)) <<< ((1 : Int32) &&& 31))), .val (.int (((f2_0 i0 (2147483648 : Int64)) <<< ((1 : Int32) &&& 31)) ||| (1 : Int32))), .val (.int (1 : Int32)), .val (.int (0 : Int32)), .unset, .unset, .unset, .unset, .unset] [(.int (0 : Int32)), (.int (1 : Int32))]))
      refine own_step (fun t k => XS.icmpYes X6.here hx rfl (pc0 := 70) (pc' := 75) rfl (hb hby at_70) rfl (feq (by decide : ¬ ((1 : Int32) = (0 : Int32)))).2 (by decide) (by decide) k) ?_
      show own_Fin p e below s Q 0 0 (T6.setTop (mkF m 75 #[.val (.int i0), .val (.int i1), .val (.int (f2_0 i0 (2147483648 : Int64))), .val (.int ((f2_0 i0 (2147483648 : Int64)) <<< ((1 : Int32) &&& 31))), .val (.int (((f2_0 i0 (2147483648 : Int64)) <<< ((1 : Int32) &&& 31)) ||| (1 : Int32))), .val (.int (1 : Int32)), .val (.int (0 : Int32)), .unset, .unset, .unset, .unset, .unset] []))
      refine own_step (fun t k => XS.iload X6.here hx rfl (hb hby at_75) rfl  k) ?_
      show own_Fin p e below s Q 0 0 (T6.setTop (mkF m 77 #[.val (.int i0), .val (.int i1), .val (.int (f2_0 i0 (2147483648 : Int64))), .val (.int ((f2_0 i0 (2147483648 : Int64)) <<< ((1 : Int32) &&& 31))), .val (.int (((f2_0 i0 (2147483648 : Int64)) <<< ((1 : Int32) &&& 31)) ||| (1 : Int32))), .val (.int (1 : Int32)), .val (.int (0 : Int32)), .unset, .unset, .unset, .unset, .unset] [(.int (1 : Int32))]))
      refine own_step (fun t k => XS.ifNo X6.here hx rfl (hb hby at_77) rfl ((if0 _ _).trans (feq (by decide : ¬ ((1 : Int32) = (0 : Int32)))).1) k) ?_
      show own_Fin p e below s Q 0 0 (T6.setTop (mkF m 80 #[.val (.int i0), .val (.int i1), .val (.int (f2_0 i0 (2147483648 : Int64))), .val (.int ((f2_0 i0 (2147483648 : Int64)) <<< ((1 : Int32) &&& 31))), .val (.int (((f2_0 i0 (2147483648 : Int64)) <<< ((1 : Int32) &&& 31)) ||| (1 : Int32))), .val (.int (1 : Int32)), .val (.int (0 : Int32)), .unset, .unset, .unset, .unset, .unset] []))
      refine own_step (fun t k => XS.iloadN X6.here hx rfl (hb hby at_80) rfl  k) ?_
      show own_Fin p e below s Q 0 0 (T6.setTop (mkF m 81 #[.val (.int i0), .val (.int i1), .val (.int (f2_0 i0 (2147483648 : Int64))), .val (.int ((f2_0 i0 (2147483648 : Int64)) <<< ((1 : Int32) &&& 31))), .val (.int (((f2_0 i0 (2147483648 : Int64)) <<< ((1 : Int32) &&& 31)) ||| (1 : Int32))), .val (.int (1 : Int32)), .val (.int (0 : Int32)), .unset, .unset, .unset, .unset, .unset] [(.int ((f2_0 i0 (2147483648 : Int64)) <<< ((1 : Int32) &&& 31)))]))
      refine own_step (fun t k => XS.goto X6.here hx rfl (pc0 := 81) (pc' := 86) rfl (hb hby at_81) (by decide) (by decide) k) ?_
      show own_Fin p e below s Q 0 0 (T6.setTop (mkF m 86 #[.val (.int i0), .val (.int i1), .val (.int (f2_0 i0 (2147483648 : Int64))), .val (.int ((f2_0 i0 (2147483648 : Int64)) <<< ((1 : Int32) &&& 31))), .val (.int (((f2_0 i0 (2147483648 : Int64)) <<< ((1 : Int32) &&& 31)) ||| (1 : Int32))), .val (.int (1 : Int32)), .val (.int (0 : Int32)), .unset, .unset, .unset, .unset, .unset] [(.int ((f2_0 i0 (2147483648 : Int64)) <<< ((1 : Int32) &&& 31)))]))
      refine own_step (fun t k => XS.i2l X6.here hx rfl (hb hby at_86) rfl k) ?_
      show own_Fin p e below s Q 0 0 (T6.setTop (mkF m 87 #[.val (.int i0), .val (.int i1), .val (.int (f2_0 i0 (2147483648 : Int64))), .val (.int ((f2_0 i0 (2147483648 : Int64)) <<< ((1 : Int32) &&& 31))), .val (.int (((f2_0 i0 (2147483648 : Int64)) <<< ((1 : Int32) &&& 31)) ||| (1 : Int32))), .val (.int (1 : Int32)), .val (.int (0 : Int32)), .unset, .unset, .unset, .unset, .unset] [(.long (((f2_0 i0 (2147483648 : Int64)) <<< ((1 : Int32) &&& 31)).toInt64))]))
      refine own_step (X6.ldc2Long hx hown (mvT hZ (hw _ (List.mem_of_getElem? (i := 15) rfl))) (g := (mkF m 87 #[.val (.int i0), .val (.int i1), .val (.int (f2_0 i0 (2147483648 : Int64))), .val (.int ((f2_0 i0 (2147483648 : Int64)) <<< ((1 : Int32) &&& 31))), .val (.int (((f2_0 i0 (2147483648 : Int64)) <<< ((1 : Int32) &&& 31)) ||| (1 : Int32))), .val (.int (1 : Int32)), .val (.int (0 : Int32)), .unset, .unset, .unset, .unset, .unset] [(.long (((f2_0 i0 (2147483648 : Int64)) <<< ((1 : Int32) &&& 31)).toInt64))])) rfl (hb hby at_87)) ?_
      show own_Fin p e below s Q 0 0 (T6.setTop (mkF m 90 #[.val (.int i0), .val (.int i1), .val (.int (f2_0 i0 (2147483648 : Int64))), .val (.int ((f2_0 i0 (2147483648 : Int64)) <<< ((1 : Int32) &&& 31))), .val (.int (((f2_0 i0 (2147483648 : Int64)) <<< ((1 : Int32) &&& 31)) ||| (1 : Int32))), .val (.int (1 : Int32)), .val (.int (0 : Int32)), .unset, .unset, .unset, .unset, .unset] [(.long (4294967295 : Int64)), (.long (((f2_0 i0 (2147483648 : Int64)) <<< ((1 : Int32) &&& 31)).toInt64))]))
      refine own_step (fun t k => XS.land X6.here hx rfl (hb hby at_90) rfl k) ?_
      show own_Fin p e below s Q 0 0 (T6.setTop (mkF m 91 #[.val (.int i0), .val (.int i1), .val (.int (f2_0 i0 (2147483648 : Int64))), .val (.int ((f2_0 i0 (2147483648 : Int64)) <<< ((1 : Int32) &&& 31))), .val (.int (((f2_0 i0 (2147483648 : Int64)) <<< ((1 : Int32) &&& 31)) ||| (1 : Int32))), .val (.int (1 : Int32)), .val (.int (0 : Int32)), .unset, .unset, .unset, .unset, .unset] [(.long ((((f2_0 i0 (2147483648 : Int64)) <<< ((1 : Int32) &&& 31)).toInt64) &&& (4294967295 : Int64)))]))
      refine own_step (fun t k => XS.lstore X6.here hx rfl (hb hby at_91) rfl (l' := #[.val (.int i0), .val (.int i1), .val (.int (f2_0 i0 (2147483648 : Int64))), .val (.int ((f2_0 i0 (2147483648 : Int64)) <<< ((1 : Int32) &&& 31))), .val (.int (((f2_0 i0 (2147483648 : Int64)) <<< ((1 : Int32) &&& 31)) ||| (1 : Int32))), .val (.int (1 : Int32)), .val (.int (0 : Int32)), .val (.long ((((f2_0 i0 (2147483648 : Int64)) <<< ((1 : Int32) &&& 31)).toInt64) &&& (4294967295 : Int64))), .second, .unset, .unset, .unset]) rfl k) ?_
      show own_Fin p e below s Q 0 0 (T6.setTop (mkF m 93 #[.val (.int i0), .val (.int i1), .val (.int (f2_0 i0 (2147483648 : Int64))), .val (.int ((f2_0 i0 (2147483648 : Int64)) <<< ((1 : Int32) &&& 31))), .val (.int (((f2_0 i0 (2147483648 : Int64)) <<< ((1 : Int32) &&& 31)) ||| (1 : Int32))), .val (.int (1 : Int32)), .val (.int (0 : Int32)), .val (.long ((((f2_0 i0 (2147483648 : Int64)) <<< ((1 : Int32) &&& 31)).toInt64) &&& (4294967295 : Int64))), .second, .unset, .unset, .unset] []))
      refine own_step (fun t k => XS.iloadN X6.here hx rfl (hb hby at_93) rfl  k) ?_
      show own_Fin p e below s Q 0 0 (T6.setTop (mkF m 94 #[.val (.int i0), .val (.int i1), .val (.int (f2_0 i0 (2147483648 : Int64))), .val (.int ((f2_0 i0 (2147483648 : Int64)) <<< ((1 : Int32) &&& 31))), .val (.int (((f2_0 i0 (2147483648 : Int64)) <<< ((1 : Int32) &&& 31)) ||| (1 : Int32))), .val (.int (1 : Int32)), .val (.int (0 : Int32)), .val (.long ((((f2_0 i0 (2147483648 : Int64)) <<< ((1 : Int32) &&& 31)).toInt64) &&& (4294967295 : Int64))), .second, .unset, .unset, .unset] [(.int i1)]))
      refine own_step (fun t k => XS.i2l X6.here hx rfl (hb hby at_94) rfl k) ?_
      show own_Fin p e below s Q 0 0 (T6.setTop (mkF m 95 #[.val (.int i0), .val (.int i1), .val (.int (f2_0 i0 (2147483648 : Int64))), .val (.int ((f2_0 i0 (2147483648 : Int64)) <<< ((1 : Int32) &&& 31))), .val (.int (((f2_0 i0 (2147483648 : Int64)) <<< ((1 : Int32) &&& 31)) ||| (1 : Int32))), .val (.int (1 : Int32)), .val (.int (0 : Int32)), .val (.long ((((f2_0 i0 (2147483648 : Int64)) <<< ((1 : Int32) &&& 31)).toInt64) &&& (4294967295 : Int64))), .second, .unset, .unset, .unset] [(.long (i1.toInt64))]))
      refine own_step (X6.ldc2Long hx hown (mvT hZ (hw _ (List.mem_of_getElem? (i := 16) rfl))) (g := (mkF m 95 #[.val (.int i0), .val (.int i1), .val (.int (f2_0 i0 (2147483648 : Int64))), .val (.int ((f2_0 i0 (2147483648 : Int64)) <<< ((1 : Int32) &&& 31))), .val (.int (((f2_0 i0 (2147483648 : Int64)) <<< ((1 : Int32) &&& 31)) ||| (1 : Int32))), .val (.int (1 : Int32)), .val (.int (0 : Int32)), .val (.long ((((f2_0 i0 (2147483648 : Int64)) <<< ((1 : Int32) &&& 31)).toInt64) &&& (4294967295 : Int64))), .second, .unset, .unset, .unset] [(.long (i1.toInt64))])) rfl (hb hby at_95)) ?_
      show own_Fin p e below s Q 0 0 (T6.setTop (mkF m 98 #[.val (.int i0), .val (.int i1), .val (.int (f2_0 i0 (2147483648 : Int64))), .val (.int ((f2_0 i0 (2147483648 : Int64)) <<< ((1 : Int32) &&& 31))), .val (.int (((f2_0 i0 (2147483648 : Int64)) <<< ((1 : Int32) &&& 31)) ||| (1 : Int32))), .val (.int (1 : Int32)), .val (.int (0 : Int32)), .val (.long ((((f2_0 i0 (2147483648 : Int64)) <<< ((1 : Int32) &&& 31)).toInt64) &&& (4294967295 : Int64))), .second, .unset, .unset, .unset] [(.long (2147483647 : Int64)), (.long (i1.toInt64))]))
      refine own_step (fun t k => XS.land X6.here hx rfl (hb hby at_98) rfl k) ?_
      show own_Fin p e below s Q 0 0 (T6.setTop (mkF m 99 #[.val (.int i0), .val (.int i1), .val (.int (f2_0 i0 (2147483648 : Int64))), .val (.int ((f2_0 i0 (2147483648 : Int64)) <<< ((1 : Int32) &&& 31))), .val (.int (((f2_0 i0 (2147483648 : Int64)) <<< ((1 : Int32) &&& 31)) ||| (1 : Int32))), .val (.int (1 : Int32)), .val (.int (0 : Int32)), .val (.long ((((f2_0 i0 (2147483648 : Int64)) <<< ((1 : Int32) &&& 31)).toInt64) &&& (4294967295 : Int64))), .second, .unset, .unset, .unset] [(.long ((i1.toInt64) &&& (2147483647 : Int64)))]))
      refine own_step (fun t k => XS.lconst X6.here hx rfl (hb hby at_99) k) ?_
      show own_Fin p e below s Q 0 0 (T6.setTop (mkF m 100 #[.val (.int i0), .val (.int i1), .val (.int (f2_0 i0 (2147483648 : Int64))), .val (.int ((f2_0 i0 (2147483648 : Int64)) <<< ((1 : Int32) &&& 31))), .val (.int (((f2_0 i0 (2147483648 : Int64)) <<< ((1 : Int32) &&& 31)) ||| (1 : Int32))), .val (.int (1 : Int32)), .val (.int (0 : Int32)), .val (.long ((((f2_0 i0 (2147483648 : Int64)) <<< ((1 : Int32) &&& 31)).toInt64) &&& (4294967295 : Int64))), .second, .unset, .unset, .unset] [(.long (1 : Int64)), (.long ((i1.toInt64) &&& (2147483647 : Int64)))]))
      refine own_step (fun t k => XS.ladd X6.here hx rfl (hb hby at_100) rfl k) ?_
      show own_Fin p e below s Q 0 0 (T6.setTop (mkF m 101 #[.val (.int i0), .val (.int i1), .val (.int (f2_0 i0 (2147483648 : Int64))), .val (.int ((f2_0 i0 (2147483648 : Int64)) <<< ((1 : Int32) &&& 31))), .val (.int (((f2_0 i0 (2147483648 : Int64)) <<< ((1 : Int32) &&& 31)) ||| (1 : Int32))), .val (.int (1 : Int32)), .val (.int (0 : Int32)), .val (.long ((((f2_0 i0 (2147483648 : Int64)) <<< ((1 : Int32) &&& 31)).toInt64) &&& (4294967295 : Int64))), .second, .unset, .unset, .unset] [(.long (((i1.toInt64) &&& (2147483647 : Int64)) + (1 : Int64)))]))
      refine own_step (fun t k => XS.lstore X6.here hx rfl (hb hby at_101) rfl (l' := #[.val (.int i0), .val (.int i1), .val (.int (f2_0 i0 (2147483648 : Int64))), .val (.int ((f2_0 i0 (2147483648 : Int64)) <<< ((1 : Int32) &&& 31))), .val (.int (((f2_0 i0 (2147483648 : Int64)) <<< ((1 : Int32) &&& 31)) ||| (1 : Int32))), .val (.int (1 : Int32)), .val (.int (0 : Int32)), .val (.long ((((f2_0 i0 (2147483648 : Int64)) <<< ((1 : Int32) &&& 31)).toInt64) &&& (4294967295 : Int64))), .second, .val (.long (((i1.toInt64) &&& (2147483647 : Int64)) + (1 : Int64))), .second, .unset]) rfl k) ?_
      show own_Fin p e below s Q 0 0 (T6.setTop (mkF m 103 #[.val (.int i0), .val (.int i1), .val (.int (f2_0 i0 (2147483648 : Int64))), .val (.int ((f2_0 i0 (2147483648 : Int64)) <<< ((1 : Int32) &&& 31))), .val (.int (((f2_0 i0 (2147483648 : Int64)) <<< ((1 : Int32) &&& 31)) ||| (1 : Int32))), .val (.int (1 : Int32)), .val (.int (0 : Int32)), .val (.long ((((f2_0 i0 (2147483648 : Int64)) <<< ((1 : Int32) &&& 31)).toInt64) &&& (4294967295 : Int64))), .second, .val (.long (((i1.toInt64) &&& (2147483647 : Int64)) + (1 : Int64))), .second, .unset] []))
      refine own_step (fun t k => XS.iloadN X6.here hx rfl (hb hby at_103) rfl  k) ?_
      show own_Fin p e below s Q 0 0 (T6.setTop (mkF m 104 #[.val (.int i0), .val (.int i1), .val (.int (f2_0 i0 (2147483648 : Int64))), .val (.int ((f2_0 i0 (2147483648 : Int64)) <<< ((1 : Int32) &&& 31))), .val (.int (((f2_0 i0 (2147483648 : Int64)) <<< ((1 : Int32) &&& 31)) ||| (1 : Int32))), .val (.int (1 : Int32)), .val (.int (0 : Int32)), .val (.long ((((f2_0 i0 (2147483648 : Int64)) <<< ((1 : Int32) &&& 31)).toInt64) &&& (4294967295 : Int64))), .second, .val (.long (((i1.toInt64) &&& (2147483647 : Int64)) + (1 : Int64))), .second, .unset] [(.int i0)]))
      refine own_step (fun t k => XS.lload X6.here hx rfl (hb hby at_104) rfl  k) ?_
      show own_Fin p e below s Q 0 0 (T6.setTop (mkF m 106 #[.val (.int i0), .val (.int i1), .val (.int (f2_0 i0 (2147483648 : Int64))), .val (.int ((f2_0 i0 (2147483648 : Int64)) <<< ((1 : Int32) &&& 31))), .val (.int (((f2_0 i0 (2147483648 : Int64)) <<< ((1 : Int32) &&& 31)) ||| (1 : Int32))), .val (.int (1 : Int32)), .val (.int (0 : Int32)), .val (.long ((((f2_0 i0 (2147483648 : Int64)) <<< ((1 : Int32) &&& 31)).toInt64) &&& (4294967295 : Int64))), .second, .val (.long (((i1.toInt64) &&& (2147483647 : Int64)) + (1 : Int64))), .second, .unset] [(.long (((i1.toInt64) &&& (2147483647 : Int64)) + (1 : Int64))), (.int i0)]))
      obtain ⟨_, _, ⟨T8, L8, k8, n8⟩, -, X8, ⟨Lc8, hQ8, l8, y8, z8⟩, st8⟩ := Jvm.LawKit.callS X6 hx (y := (⟨"com/example/libentitle/libentitle/role/IdTable", "slotOf", "(IJ)I"⟩ : MethodName)) hown (mvT hZ (hw _ (List.mem_of_getElem? (i := 6) rfl))) (mvT hZ (hw _ (List.mem_of_getElem? (i := 7) rfl))) (mvT hZ (hw _ (List.mem_of_getElem? (i := 8) rfl))) (mvT hZ (hw _ (List.mem_of_getElem? (i := 9) rfl))) (by decide) (backOf (W := 0) (rm2 l Z a0 hw [] i0 (((i1.toInt64) &&& (2147483647 : Int64)) + (1 : Int64)) h n0) hZ (hw _ (List.mem_of_getElem? (i := 9) rfl)) (hw _ (List.mem_of_getElem? (i := 8) rfl)) (by decide) (by decide)) (g := (mkF m 106 #[.val (.int i0), .val (.int i1), .val (.int (f2_0 i0 (2147483648 : Int64))), .val (.int ((f2_0 i0 (2147483648 : Int64)) <<< ((1 : Int32) &&& 31))), .val (.int (((f2_0 i0 (2147483648 : Int64)) <<< ((1 : Int32) &&& 31)) ||| (1 : Int32))), .val (.int (1 : Int32)), .val (.int (0 : Int32)), .val (.long ((((f2_0 i0 (2147483648 : Int64)) <<< ((1 : Int32) &&& 31)).toInt64) &&& (4294967295 : Int64))), .second, .val (.long (((i1.toInt64) &&& (2147483647 : Int64)) + (1 : Int64))), .second, .unset] [(.long (((i1.toInt64) &&& (2147483647 : Int64)) + (1 : Int64))), (.int i0)])) rfl (by rw [hml]; rfl) (argsL := [(.int i0), (.long (((i1.toInt64) &&& (2147483647 : Int64)) + (1 : Int64)))]) (rest := []) (lenOf pdm_1 rfl) rfl (by show 2 * 0 + _ ≤ _; exact Nat.le_of_eq rfl) (hb hby at_106) (fun _ _ => ⟨rfl, e6, (show cells + 0 + 0 + 0 + 0 + 0 ≤ 0 from (Nat.le_trans (Nat.add_le_add_right hc 0) (by decide))), (show slots + 0 + 0 + 0 + 0 + 0 ≤ 0 from (Nat.le_trans (Nat.add_le_add_right hs 0) (by decide)))⟩)
      dsimp only [Pt.U, Pt.locs, Pt.cells, Pt.slots] at X8 l8 y8 z8 st8 hQ8
      have yy8 : k8 = cells + 0 + 0 + 0 + 0 + 0 := y8
      have zz8 : n8 = slots + 0 + 0 + 0 + 0 + 0 := z8
      rw [yy8, zz8, l8] at X8
      obtain ⟨rfl, N8q, e8⟩ := hQ8
      have N8 := Fr.app N6 N8q
      refine own_step st8 ?_
      show own_Fin p e below s Q 0 0 (T8.setTop (mkF m 109 #[.val (.int i0), .val (.int i1), .val (.int (f2_0 i0 (2147483648 : Int64))), .val (.int ((f2_0 i0 (2147483648 : Int64)) <<< ((1 : Int32) &&& 31))), .val (.int (((f2_0 i0 (2147483648 : Int64)) <<< ((1 : Int32) &&& 31)) ||| (1 : Int32))), .val (.int (1 : Int32)), .val (.int (0 : Int32)), .val (.long ((((f2_0 i0 (2147483648 : Int64)) <<< ((1 : Int32) &&& 31)).toInt64) &&& (4294967295 : Int64))), .second, .val (.long (((i1.toInt64) &&& (2147483647 : Int64)) + (1 : Int64))), .second, .unset] [(.int (f2_0 i0 (((i1.toInt64) &&& (2147483647 : Int64)) + (1 : Int64))))]))
      refine own_step (fun t k => XS.istore X8.here hx rfl (hb hby at_109) rfl (l' := #[.val (.int i0), .val (.int i1), .val (.int (f2_0 i0 (2147483648 : Int64))), .val (.int ((f2_0 i0 (2147483648 : Int64)) <<< ((1 : Int32) &&& 31))), .val (.int (((f2_0 i0 (2147483648 : Int64)) <<< ((1 : Int32) &&& 31)) ||| (1 : Int32))), .val (.int (1 : Int32)), .val (.int (0 : Int32)), .val (.long ((((f2_0 i0 (2147483648 : Int64)) <<< ((1 : Int32) &&& 31)).toInt64) &&& (4294967295 : Int64))), .second, .val (.long (((i1.toInt64) &&& (2147483647 : Int64)) + (1 : Int64))), .second, .val (.int (f2_0 i0 (((i1.toInt64) &&& (2147483647 : Int64)) + (1 : Int64))))]) rfl k) ?_
      show own_Fin p e below s Q 0 0 (T8.setTop (mkF m 111 #[.val (.int i0), .val (.int i1), .val (.int (f2_0 i0 (2147483648 : Int64))), .val (.int ((f2_0 i0 (2147483648 : Int64)) <<< ((1 : Int32) &&& 31))), .val (.int (((f2_0 i0 (2147483648 : Int64)) <<< ((1 : Int32) &&& 31)) ||| (1 : Int32))), .val (.int (1 : Int32)), .val (.int (0 : Int32)), .val (.long ((((f2_0 i0 (2147483648 : Int64)) <<< ((1 : Int32) &&& 31)).toInt64) &&& (4294967295 : Int64))), .second, .val (.long (((i1.toInt64) &&& (2147483647 : Int64)) + (1 : Int64))), .second, .val (.int (f2_0 i0 (((i1.toInt64) &&& (2147483647 : Int64)) + (1 : Int64))))] []))
      refine own_step (fun t k => XS.iload X8.here hx rfl (hb hby at_111) rfl  k) ?_
      show own_Fin p e below s Q 0 0 (T8.setTop (mkF m 113 #[.val (.int i0), .val (.int i1), .val (.int (f2_0 i0 (2147483648 : Int64))), .val (.int ((f2_0 i0 (2147483648 : Int64)) <<< ((1 : Int32) &&& 31))), .val (.int (((f2_0 i0 (2147483648 : Int64)) <<< ((1 : Int32) &&& 31)) ||| (1 : Int32))), .val (.int (1 : Int32)), .val (.int (0 : Int32)), .val (.long ((((f2_0 i0 (2147483648 : Int64)) <<< ((1 : Int32) &&& 31)).toInt64) &&& (4294967295 : Int64))), .second, .val (.long (((i1.toInt64) &&& (2147483647 : Int64)) + (1 : Int64))), .second, .val (.int (f2_0 i0 (((i1.toInt64) &&& (2147483647 : Int64)) + (1 : Int64))))] [(.int (f2_0 i0 (((i1.toInt64) &&& (2147483647 : Int64)) + (1 : Int64))))]))
      refine own_step (fun t k => XS.ifNo X8.here hx rfl (hb hby at_113) rfl ((if0 _ _).trans (flt (own_end i0 i1 _ ((own_bij _ _).mp hB40_5)).1).1) k) ?_
      show own_Fin p e below s Q 0 0 (T8.setTop (mkF m 116 #[.val (.int i0), .val (.int i1), .val (.int (f2_0 i0 (2147483648 : Int64))), .val (.int ((f2_0 i0 (2147483648 : Int64)) <<< ((1 : Int32) &&& 31))), .val (.int (((f2_0 i0 (2147483648 : Int64)) <<< ((1 : Int32) &&& 31)) ||| (1 : Int32))), .val (.int (1 : Int32)), .val (.int (0 : Int32)), .val (.long ((((f2_0 i0 (2147483648 : Int64)) <<< ((1 : Int32) &&& 31)).toInt64) &&& (4294967295 : Int64))), .second, .val (.long (((i1.toInt64) &&& (2147483647 : Int64)) + (1 : Int64))), .second, .val (.int (f2_0 i0 (((i1.toInt64) &&& (2147483647 : Int64)) + (1 : Int64))))] []))
      refine own_step (fun t k => XS.iload X8.here hx rfl (hb hby at_116) rfl  k) ?_
      show own_Fin p e below s Q 0 0 (T8.setTop (mkF m 118 #[.val (.int i0), .val (.int i1), .val (.int (f2_0 i0 (2147483648 : Int64))), .val (.int ((f2_0 i0 (2147483648 : Int64)) <<< ((1 : Int32) &&& 31))), .val (.int (((f2_0 i0 (2147483648 : Int64)) <<< ((1 : Int32) &&& 31)) ||| (1 : Int32))), .val (.int (1 : Int32)), .val (.int (0 : Int32)), .val (.long ((((f2_0 i0 (2147483648 : Int64)) <<< ((1 : Int32) &&& 31)).toInt64) &&& (4294967295 : Int64))), .second, .val (.long (((i1.toInt64) &&& (2147483647 : Int64)) + (1 : Int64))), .second, .val (.int (f2_0 i0 (((i1.toInt64) &&& (2147483647 : Int64)) + (1 : Int64))))] [(.int (f2_0 i0 (((i1.toInt64) &&& (2147483647 : Int64)) + (1 : Int64))))]))
      refine own_step (fun t k => XS.i2l X8.here hx rfl (hb hby at_118) rfl k) ?_
      show own_Fin p e below s Q 0 0 (T8.setTop (mkF m 119 #[.val (.int i0), .val (.int i1), .val (.int (f2_0 i0 (2147483648 : Int64))), .val (.int ((f2_0 i0 (2147483648 : Int64)) <<< ((1 : Int32) &&& 31))), .val (.int (((f2_0 i0 (2147483648 : Int64)) <<< ((1 : Int32) &&& 31)) ||| (1 : Int32))), .val (.int (1 : Int32)), .val (.int (0 : Int32)), .val (.long ((((f2_0 i0 (2147483648 : Int64)) <<< ((1 : Int32) &&& 31)).toInt64) &&& (4294967295 : Int64))), .second, .val (.long (((i1.toInt64) &&& (2147483647 : Int64)) + (1 : Int64))), .second, .val (.int (f2_0 i0 (((i1.toInt64) &&& (2147483647 : Int64)) + (1 : Int64))))] [(.long ((f2_0 i0 (((i1.toInt64) &&& (2147483647 : Int64)) + (1 : Int64))).toInt64))]))
      refine own_step (fun t k => XS.lload X8.here hx rfl (hb hby at_119) rfl  k) ?_
      show own_Fin p e below s Q 0 0 (T8.setTop (mkF m 121 #[.val (.int i0), .val (.int i1), .val (.int (f2_0 i0 (2147483648 : Int64))), .val (.int ((f2_0 i0 (2147483648 : Int64)) <<< ((1 : Int32) &&& 31))), .val (.int (((f2_0 i0 (2147483648 : Int64)) <<< ((1 : Int32) &&& 31)) ||| (1 : Int32))), .val (.int (1 : Int32)), .val (.int (0 : Int32)), .val (.long ((((f2_0 i0 (2147483648 : Int64)) <<< ((1 : Int32) &&& 31)).toInt64) &&& (4294967295 : Int64))), .second, .val (.long (((i1.toInt64) &&& (2147483647 : Int64)) + (1 : Int64))), .second, .val (.int (f2_0 i0 (((i1.toInt64) &&& (2147483647 : Int64)) + (1 : Int64))))] [(.long (((i1.toInt64) &&& (2147483647 : Int64)) + (1 : Int64))), (.long ((f2_0 i0 (((i1.toInt64) &&& (2147483647 : Int64)) + (1 : Int64))).toInt64))]))
      refine own_step (fun t k => XS.lcmp X8.here hx rfl (hb hby at_121) rfl k) ?_
      show own_Fin p e below s Q 0 0 (T8.setTop (mkF m 122 #[.val (.int i0), .val (.int i1), .val (.int (f2_0 i0 (2147483648 : Int64))), .val (.int ((f2_0 i0 (2147483648 : Int64)) <<< ((1 : Int32) &&& 31))), .val (.int (((f2_0 i0 (2147483648 : Int64)) <<< ((1 : Int32) &&& 31)) ||| (1 : Int32))), .val (.int (1 : Int32)), .val (.int (0 : Int32)), .val (.long ((((f2_0 i0 (2147483648 : Int64)) <<< ((1 : Int32) &&& 31)).toInt64) &&& (4294967295 : Int64))), .second, .val (.long (((i1.toInt64) &&& (2147483647 : Int64)) + (1 : Int64))), .second, .val (.int (f2_0 i0 (((i1.toInt64) &&& (2147483647 : Int64)) + (1 : Int64))))] [(.int (lcmpW ((f2_0 i0 (((i1.toInt64) &&& (2147483647 : Int64)) + (1 : Int64))).toInt64) (((i1.toInt64) &&& (2147483647 : Int64)) + (1 : Int64))))]))
      refine own_step (fun t k => XS.ifNo X8.here hx rfl (hb hby at_122) rfl ((if0 _ _).trans (tlt (own_end i0 i1 _ ((own_bij _ _).mp hB40_5)).2.1).2.1) k) ?_
      show own_Fin p e below s Q 0 0 (T8.setTop (mkF m 125 #[.val (.int i0), .val (.int i1), .val (.int (f2_0 i0 (2147483648 : Int64))), .val (.int ((f2_0 i0 (2147483648 : Int64)) <<< ((1 : Int32) &&& 31))), .val (.int (((f2_0 i0 (2147483648 : Int64)) <<< ((1 : Int32) &&& 31)) ||| (1 : Int32))), .val (.int (1 : Int32)), .val (.int (0 : Int32)), .val (.long ((((f2_0 i0 (2147483648 : Int64)) <<< ((1 : Int32) &&& 31)).toInt64) &&& (4294967295 : Int64))), .second, .val (.long (((i1.toInt64) &&& (2147483647 : Int64)) + (1 : Int64))), .second, .val (.int (f2_0 i0 (((i1.toInt64) &&& (2147483647 : Int64)) + (1 : Int64))))] []))
      refine own_step (fun t k => XS.iload X8.here hx rfl (hb hby at_125) rfl  k) ?_
      show own_Fin p e below s Q 0 0 (T8.setTop (mkF m 127 #[.val (.int i0), .val (.int i1), .val (.int (f2_0 i0 (2147483648 : Int64))), .val (.int ((f2_0 i0 (2147483648 : Int64)) <<< ((1 : Int32) &&& 31))), .val (.int (((f2_0 i0 (2147483648 : Int64)) <<< ((1 : Int32) &&& 31)) ||| (1 : Int32))), .val (.int (1 : Int32)), .val (.int (0 : Int32)), .val (.long ((((f2_0 i0 (2147483648 : Int64)) <<< ((1 : Int32) &&& 31)).toInt64) &&& (4294967295 : Int64))), .second, .val (.long (((i1.toInt64) &&& (2147483647 : Int64)) + (1 : Int64))), .second, .val (.int (f2_0 i0 (((i1.toInt64) &&& (2147483647 : Int64)) + (1 : Int64))))] [(.int (f2_0 i0 (((i1.toInt64) &&& (2147483647 : Int64)) + (1 : Int64))))]))
      refine own_step (fun t k => XS.i2l X8.here hx rfl (hb hby at_127) rfl k) ?_
      show own_Fin p e below s Q 0 0 (T8.setTop (mkF m 128 #[.val (.int i0), .val (.int i1), .val (.int (f2_0 i0 (2147483648 : Int64))), .val (.int ((f2_0 i0 (2147483648 : Int64)) <<< ((1 : Int32) &&& 31))), .val (.int (((f2_0 i0 (2147483648 : Int64)) <<< ((1 : Int32) &&& 31)) ||| (1 : Int32))), .val (.int (1 : Int32)), .val (.int (0 : Int32)), .val (.long ((((f2_0 i0 (2147483648 : Int64)) <<< ((1 : Int32) &&& 31)).toInt64) &&& (4294967295 : Int64))), .second, .val (.long (((i1.toInt64) &&& (2147483647 : Int64)) + (1 : Int64))), .second, .val (.int (f2_0 i0 (((i1.toInt64) &&& (2147483647 : Int64)) + (1 : Int64))))] [(.long ((f2_0 i0 (((i1.toInt64) &&& (2147483647 : Int64)) + (1 : Int64))).toInt64))]))
      refine own_step (fun t k => XS.lload X8.here hx rfl (hb hby at_128) rfl  k) ?_
      show own_Fin p e below s Q 0 0 (T8.setTop (mkF m 130 #[.val (.int i0), .val (.int i1), .val (.int (f2_0 i0 (2147483648 : Int64))), .val (.int ((f2_0 i0 (2147483648 : Int64)) <<< ((1 : Int32) &&& 31))), .val (.int (((f2_0 i0 (2147483648 : Int64)) <<< ((1 : Int32) &&& 31)) ||| (1 : Int32))), .val (.int (1 : Int32)), .val (.int (0 : Int32)), .val (.long ((((f2_0 i0 (2147483648 : Int64)) <<< ((1 : Int32) &&& 31)).toInt64) &&& (4294967295 : Int64))), .second, .val (.long (((i1.toInt64) &&& (2147483647 : Int64)) + (1 : Int64))), .second, .val (.int (f2_0 i0 (((i1.toInt64) &&& (2147483647 : Int64)) + (1 : Int64))))] [(.long ((((f2_0 i0 (2147483648 : Int64)) <<< ((1 : Int32) &&& 31)).toInt64) &&& (4294967295 : Int64))), (.long ((f2_0 i0 (((i1.toInt64) &&& (2147483647 : Int64)) + (1 : Int64))).toInt64))]))
      refine own_step (fun t k => XS.lload X8.here hx rfl (hb hby at_130) rfl  k) ?_
      show own_Fin p e below s Q 0 0 (T8.setTop (mkF m 132 #[.val (.int i0), .val (.int i1), .val (.int (f2_0 i0 (2147483648 : Int64))), .val (.int ((f2_0 i0 (2147483648 : Int64)) <<< ((1 : Int32) &&& 31))), .val (.int (((f2_0 i0 (2147483648 : Int64)) <<< ((1 : Int32) &&& 31)) ||| (1 : Int32))), .val (.int (1 : Int32)), .val (.int (0 : Int32)), .val (.long ((((f2_0 i0 (2147483648 : Int64)) <<< ((1 : Int32) &&& 31)).toInt64) &&& (4294967295 : Int64))), .second, .val (.long (((i1.toInt64) &&& (2147483647 : Int64)) + (1 : Int64))), .second, .val (.int (f2_0 i0 (((i1.toInt64) &&& (2147483647 : Int64)) + (1 : Int64))))] [(.long (((i1.toInt64) &&& (2147483647 : Int64)) + (1 : Int64))), (.long ((((f2_0 i0 (2147483648 : Int64)) <<< ((1 : Int32) &&& 31)).toInt64) &&& (4294967295 : Int64))), (.long ((f2_0 i0 (((i1.toInt64) &&& (2147483647 : Int64)) + (1 : Int64))).toInt64))]))
      refine own_step (fun t k => XS.lmul X8.here hx rfl (hb hby at_132) rfl k) ?_
      show own_Fin p e below s Q 0 0 (T8.setTop (mkF m 133 #[.val (.int i0), .val (.int i1), .val (.int (f2_0 i0 (2147483648 : Int64))), .val (.int ((f2_0 i0 (2147483648 : Int64)) <<< ((1 : Int32) &&& 31))), .val (.int (((f2_0 i0 (2147483648 : Int64)) <<< ((1 : Int32) &&& 31)) ||| (1 : Int32))), .val (.int (1 : Int32)), .val (.int (0 : Int32)), .val (.long ((((f2_0 i0 (2147483648 : Int64)) <<< ((1 : Int32) &&& 31)).toInt64) &&& (4294967295 : Int64))), .second, .val (.long (((i1.toInt64) &&& (2147483647 : Int64)) + (1 : Int64))), .second, .val (.int (f2_0 i0 (((i1.toInt64) &&& (2147483647 : Int64)) + (1 : Int64))))] [(.long (((((f2_0 i0 (2147483648 : Int64)) <<< ((1 : Int32) &&& 31)).toInt64) &&& (4294967295 : Int64)) * (((i1.toInt64) &&& (2147483647 : Int64)) + (1 : Int64)))), (.long ((f2_0 i0 (((i1.toInt64) &&& (2147483647 : Int64)) + (1 : Int64))).toInt64))]))
      refine own_step (fun t k => XS.bipush X8.here hx rfl (hb hby at_133) k) ?_
      show own_Fin p e below s Q 0 0 (T8.setTop (mkF m 135 #[.val (.int i0), .val (.int i1), .val (.int (f2_0 i0 (2147483648 : Int64))), .val (.int ((f2_0 i0 (2147483648 : Int64)) <<< ((1 : Int32) &&& 31))), .val (.int (((f2_0 i0 (2147483648 : Int64)) <<< ((1 : Int32) &&& 31)) ||| (1 : Int32))), .val (.int (1 : Int32)), .val (.int (0 : Int32)), .val (.long ((((f2_0 i0 (2147483648 : Int64)) <<< ((1 : Int32) &&& 31)).toInt64) &&& (4294967295 : Int64))), .second, .val (.long (((i1.toInt64) &&& (2147483647 : Int64)) + (1 : Int64))), .second, .val (.int (f2_0 i0 (((i1.toInt64) &&& (2147483647 : Int64)) + (1 : Int64))))] [(.int (32 : Int32)), (.long (((((f2_0 i0 (2147483648 : Int64)) <<< ((1 : Int32) &&& 31)).toInt64) &&& (4294967295 : Int64)) * (((i1.toInt64) &&& (2147483647 : Int64)) + (1 : Int64)))), (.long ((f2_0 i0 (((i1.toInt64) &&& (2147483647 : Int64)) + (1 : Int64))).toInt64))]))
      refine own_step (fun t k => XS.lushr X8.here hx rfl (hb hby at_135) rfl k) ?_
      show own_Fin p e below s Q 0 0 (T8.setTop (mkF m 136 #[.val (.int i0), .val (.int i1), .val (.int (f2_0 i0 (2147483648 : Int64))), .val (.int ((f2_0 i0 (2147483648 : Int64)) <<< ((1 : Int32) &&& 31))), .val (.int (((f2_0 i0 (2147483648 : Int64)) <<< ((1 : Int32) &&& 31)) ||| (1 : Int32))), .val (.int (1 : Int32)), .val (.int (0 : Int32)), .val (.long ((((f2_0 i0 (2147483648 : Int64)) <<< ((1 : Int32) &&& 31)).toInt64) &&& (4294967295 : Int64))), .second, .val (.long (((i1.toInt64) &&& (2147483647 : Int64)) + (1 : Int64))), .second, .val (.int (f2_0 i0 (((i1.toInt64) &&& (2147483647 : Int64)) + (1 : Int64))))] [(.long (((((((f2_0 i0 (2147483648 : Int64)) <<< ((1 : Int32) &&& 31)).toInt64) &&& (4294967295 : Int64)) * (((i1.toInt64) &&& (2147483647 : Int64)) + (1 : Int64))).toUInt64 >>> ((32 : Int32) &&& 0x3f).toInt64.toUInt64).toInt64)), (.long ((f2_0 i0 (((i1.toInt64) &&& (2147483647 : Int64)) + (1 : Int64))).toInt64))]))
      refine own_step (fun t k => XS.lcmp X8.here hx rfl (hb hby at_136) rfl k) ?_
      show own_Fin p e below s Q 0 0 (T8.setTop (mkF m 137 #[.val (.int i0), .val (.int i1), .val (.int (f2_0 i0 (2147483648 : Int64))), .val (.int ((f2_0 i0 (2147483648 : Int64)) <<< ((1 : Int32) &&& 31))), .val (.int (((f2_0 i0 (2147483648 : Int64)) <<< ((1 : Int32) &&& 31)) ||| (1 : Int32))), .val (.int (1 : Int32)), .val (.int (0 : Int32)), .val (.long ((((f2_0 i0 (2147483648 : Int64)) <<< ((1 : Int32) &&& 31)).toInt64) &&& (4294967295 : Int64))), .second, .val (.long (((i1.toInt64) &&& (2147483647 : Int64)) + (1 : Int64))), .second, .val (.int (f2_0 i0 (((i1.toInt64) &&& (2147483647 : Int64)) + (1 : Int64))))] [(.int (lcmpW ((f2_0 i0 (((i1.toInt64) &&& (2147483647 : Int64)) + (1 : Int64))).toInt64) (((((((f2_0 i0 (2147483648 : Int64)) <<< ((1 : Int32) &&& 31)).toInt64) &&& (4294967295 : Int64)) * (((i1.toInt64) &&& (2147483647 : Int64)) + (1 : Int64))).toUInt64 >>> ((32 : Int32) &&& 0x3f).toInt64.toUInt64).toInt64)))]))
      refine own_step (fun t k => XS.ifNo X8.here hx rfl (hb hby at_137) rfl ((if0 _ _).trans (teq (own_end i0 i1 _ ((own_bij _ _).mp hB40_5)).2.2).2) k) ?_
      show own_Fin p e below s Q 0 0 (T8.setTop (mkF m 140 #[.val (.int i0), .val (.int i1), .val (.int (f2_0 i0 (2147483648 : Int64))), .val (.int ((f2_0 i0 (2147483648 : Int64)) <<< ((1 : Int32) &&& 31))), .val (.int (((f2_0 i0 (2147483648 : Int64)) <<< ((1 : Int32) &&& 31)) ||| (1 : Int32))), .val (.int (1 : Int32)), .val (.int (0 : Int32)), .val (.long ((((f2_0 i0 (2147483648 : Int64)) <<< ((1 : Int32) &&& 31)).toInt64) &&& (4294967295 : Int64))), .second, .val (.long (((i1.toInt64) &&& (2147483647 : Int64)) + (1 : Int64))), .second, .val (.int (f2_0 i0 (((i1.toInt64) &&& (2147483647 : Int64)) + (1 : Int64))))] []))
      refine own_step (fun t k => XS.iconst X8.here hx rfl (hb hby at_140) k) ?_
      show own_Fin p e below s Q 0 0 (T8.setTop (mkF m 141 #[.val (.int i0), .val (.int i1), .val (.int (f2_0 i0 (2147483648 : Int64))), .val (.int ((f2_0 i0 (2147483648 : Int64)) <<< ((1 : Int32) &&& 31))), .val (.int (((f2_0 i0 (2147483648 : Int64)) <<< ((1 : Int32) &&& 31)) ||| (1 : Int32))), .val (.int (1 : Int32)), .val (.int (0 : Int32)), .val (.long ((((f2_0 i0 (2147483648 : Int64)) <<< ((1 : Int32) &&& 31)).toInt64) &&& (4294967295 : Int64))), .second, .val (.long (((i1.toInt64) &&& (2147483647 : Int64)) + (1 : Int64))), .second, .val (.int (f2_0 i0 (((i1.toInt64) &&& (2147483647 : Int64)) + (1 : Int64))))] [(.int (1 : Int32))]))
      refine own_step (fun t k => XS.goto X8.here hx rfl (pc0 := 141) (pc' := 145) rfl (hb hby at_141) (by decide) (by decide) k) ?_
      show own_Fin p e below s Q 0 0 (T8.setTop (mkF m 145 #[.val (.int i0), .val (.int i1), .val (.int (f2_0 i0 (2147483648 : Int64))), .val (.int ((f2_0 i0 (2147483648 : Int64)) <<< ((1 : Int32) &&& 31))), .val (.int (((f2_0 i0 (2147483648 : Int64)) <<< ((1 : Int32) &&& 31)) ||| (1 : Int32))), .val (.int (1 : Int32)), .val (.int (0 : Int32)), .val (.long ((((f2_0 i0 (2147483648 : Int64)) <<< ((1 : Int32) &&& 31)).toInt64) &&& (4294967295 : Int64))), .second, .val (.long (((i1.toInt64) &&& (2147483647 : Int64)) + (1 : Int64))), .second, .val (.int (f2_0 i0 (((i1.toInt64) &&& (2147483647 : Int64)) + (1 : Int64))))] [(.int (1 : Int32))]))
      exact own_retN X8 hx hlk hret (by simp) (hb hby at_145) (Nat.le_trans (Nat.add_le_add_right hc 0) (by decide)) (Nat.le_trans (Nat.add_le_add_right hs 0) (by decide)) rfl N8 (fun L' n' => hQ _ L' n') (rfl)
  · refine own_step (fun t k => XS.icmpYes X4.here hx rfl (pc0 := 40) (pc' := 47) rfl (hb hby at_40) rfl (feq hB40_5).2 (by decide) (by decide) k) ?_
    show own_Fin p e below s Q 0 0 (T4.setTop (mkF m 47 #[.val (.int i0), .val (.int i1), .val (.int (f2_0 i0 (2147483648 : Int64))), .val (.int ((f2_0 i0 (2147483648 : Int64)) <<< ((1 : Int32) &&& 31))), .val (.int (((f2_0 i0 (2147483648 : Int64)) <<< ((1 : Int32) &&& 31)) ||| (1 : Int32))), .unset, .unset, .unset, .unset, .unset, .unset, .unset] []))
    refine own_step (fun t k => XS.iconst X4.here hx rfl (hb hby at_47) k) ?_
    show own_Fin p e below s Q 0 0 (T4.setTop (mkF m 48 #[.val (.int i0), .val (.int i1), .val (.int (f2_0 i0 (2147483648 : Int64))), .val (.int ((f2_0 i0 (2147483648 : Int64)) <<< ((1 : Int32) &&& 31))), .val (.int (((f2_0 i0 (2147483648 : Int64)) <<< ((1 : Int32) &&& 31)) ||| (1 : Int32))), .unset, .unset, .unset, .unset, .unset, .unset, .unset] [(.int (0 : Int32))]))
    refine own_step (fun t k => XS.istore X4.here hx rfl (hb hby at_48) rfl (l' := #[.val (.int i0), .val (.int i1), .val (.int (f2_0 i0 (2147483648 : Int64))), .val (.int ((f2_0 i0 (2147483648 : Int64)) <<< ((1 : Int32) &&& 31))), .val (.int (((f2_0 i0 (2147483648 : Int64)) <<< ((1 : Int32) &&& 31)) ||| (1 : Int32))), .val (.int (0 : Int32)), .unset, .unset, .unset, .unset, .unset, .unset]) rfl k) ?_
    show own_Fin p e below s Q 0 0 (T4.setTop (mkF m 50 #[.val (.int i0), .val (.int i1), .val (.int (f2_0 i0 (2147483648 : Int64))), .val (.int ((f2_0 i0 (2147483648 : Int64)) <<< ((1 : Int32) &&& 31))), .val (.int (((f2_0 i0 (2147483648 : Int64)) <<< ((1 : Int32) &&& 31)) ||| (1 : Int32))), .val (.int (0 : Int32)), .unset, .unset, .unset, .unset, .unset, .unset] []))
    refine own_step (fun t k => XS.iload X4.here hx rfl (hb hby at_50) rfl  k) ?_
    show own_Fin p e below s Q 0 0 (T4.setTop (mkF m 52 #[.val (.int i0), .val (.int i1), .val (.int (f2_0 i0 (2147483648 : Int64))), .val (.int ((f2_0 i0 (2147483648 : Int64)) <<< ((1 : Int32) &&& 31))), .val (.int (((f2_0 i0 (2147483648 : Int64)) <<< ((1 : Int32) &&& 31)) ||| (1 : Int32))), .val (.int (0 : Int32)), .unset, .unset, .unset, .unset, .unset, .unset] [(.int (((f2_0 i0 (2147483648 : Int64)) <<< ((1 : Int32) &&& 31)) ||| (1 : Int32)))]))
    obtain ⟨_, _, ⟨T9, L9, k9, n9⟩, -, X9, ⟨Lc9, hQ9, l9, y9, z9⟩, st9⟩ := Jvm.LawKit.callS X4 hx (y := (⟨"com/example/libentitle/libentitle/role/IdTableSlotOfPinLaw", "preimage", "(I)I"⟩ : MethodName)) hown (mvT hZ (hw _ (List.mem_of_getElem? (i := 12) rfl))) (mvT hZ (hw _ (List.mem_of_getElem? (i := 13) rfl))) (mvT hZ (hw _ (List.mem_of_getElem? (i := 3) rfl))) (mvT hZ (hw _ (List.mem_of_getElem? (i := 14) rfl))) (by decide) (backOf (W := 0) (rm3 l Z a0 hw [] (((f2_0 i0 (2147483648 : Int64)) <<< ((1 : Int32) &&& 31)) ||| (1 : Int32)) h n0) hZ (hw _ (List.mem_of_getElem? (i := 14) rfl)) (hw _ (List.mem_of_getElem? (i := 3) rfl)) (by decide) (by decide)) (g := (mkF m 52 #[.val (.int i0), .val (.int i1), .val (.int (f2_0 i0 (2147483648 : Int64))), .val (.int ((f2_0 i0 (2147483648 : Int64)) <<< ((1 : Int32) &&& 31))), .val (.int (((f2_0 i0 (2147483648 : Int64)) <<< ((1 : Int32) &&& 31)) ||| (1 : Int32))), .val (.int (0 : Int32)), .unset, .unset, .unset, .unset, .unset, .unset] [(.int (((f2_0 i0 (2147483648 : Int64)) <<< ((1 : Int32) &&& 31)) ||| (1 : Int32)))])) rfl (by rw [hml]; rfl) (argsL := [(.int (((f2_0 i0 (2147483648 : Int64)) <<< ((1 : Int32) &&& 31)) ||| (1 : Int32)))]) (rest := []) (lenOf pdm_2 rfl) rfl (by show 2 * 0 + _ ≤ _; exact Nat.le_of_eq rfl) (hb hby at_52) (fun _ _ => ⟨rfl, e4, (show cells + 0 + 0 + 0 + 0 ≤ 0 from (Nat.le_trans (Nat.add_le_add_right hc 0) (by decide))), (show slots + 0 + 0 + 0 + 0 ≤ 0 from (Nat.le_trans (Nat.add_le_add_right hs 0) (by decide)))⟩)
    dsimp only [Pt.U, Pt.locs, Pt.cells, Pt.slots] at X9 l9 y9 z9 st9 hQ9
    have yy9 : k9 = cells + 0 + 0 + 0 + 0 := y9
    have zz9 : n9 = slots + 0 + 0 + 0 + 0 := z9
    rw [yy9, zz9, l9] at X9
    obtain ⟨rfl, N9q, e9⟩ := hQ9
    have N9 := Fr.app N4 N9q
    refine own_step st9 ?_
    show own_Fin p e below s Q 0 0 (T9.setTop (mkF m 55 #[.val (.int i0), .val (.int i1), .val (.int (f2_0 i0 (2147483648 : Int64))), .val (.int ((f2_0 i0 (2147483648 : Int64)) <<< ((1 : Int32) &&& 31))), .val (.int (((f2_0 i0 (2147483648 : Int64)) <<< ((1 : Int32) &&& 31)) ||| (1 : Int32))), .val (.int (0 : Int32)), .unset, .unset, .unset, .unset, .unset, .unset] [(.int (f3_0 (((f2_0 i0 (2147483648 : Int64)) <<< ((1 : Int32) &&& 31)) ||| (1 : Int32))))]))
    refine own_step (fun t k => XS.iloadN X9.here hx rfl (hb hby at_55) rfl  k) ?_
    show own_Fin p e below s Q 0 0 (T9.setTop (mkF m 56 #[.val (.int i0), .val (.int i1), .val (.int (f2_0 i0 (2147483648 : Int64))), .val (.int ((f2_0 i0 (2147483648 : Int64)) <<< ((1 : Int32) &&& 31))), .val (.int (((f2_0 i0 (2147483648 : Int64)) <<< ((1 : Int32) &&& 31)) ||| (1 : Int32))), .val (.int (0 : Int32)), .unset, .unset, .unset, .unset, .unset, .unset] [(.int i0), (.int (f3_0 (((f2_0 i0 (2147483648 : Int64)) <<< ((1 : Int32) &&& 31)) ||| (1 : Int32))))]))
    by_cases hB56_10 : (f3_0 (((f2_0 i0 (2147483648 : Int64)) <<< ((1 : Int32) &&& 31)) ||| (1 : Int32))) = i0
    · refine own_step (fun t k => XS.icmpNo X9.here hx rfl (hb hby at_56) rfl (teq hB56_10).2 k) ?_
      show own_Fin p e below s Q 0 0 (T9.setTop (mkF m 59 #[.val (.int i0), .val (.int i1), .val (.int (f2_0 i0 (2147483648 : Int64))), .val (.int ((f2_0 i0 (2147483648 : Int64)) <<< ((1 : Int32) &&& 31))), .val (.int (((f2_0 i0 (2147483648 : Int64)) <<< ((1 : Int32) &&& 31)) ||| (1 : Int32))), .val (.int (0 : Int32)), .unset, .unset, .unset, .unset, .unset, .unset] []))
      refine own_step (fun t k => XS.iconst X9.here hx rfl (hb hby at_59) k) ?_
      show own_Fin p e below s Q 0 0 (T9.setTop (mkF m 60 #[.val (.int i0), .val (.int i1), .val (.int (f2_0 i0 (2147483648 : Int64))), .val (.int ((f2_0 i0 (2147483648 : Int64)) <<< ((1 : Int32) &&& 31))), .val (.int (((f2_0 i0 (2147483648 : Int64)) <<< ((1 : Int32) &&& 31)) ||| (1 : Int32))), .val (.int (0 : Int32)), .unset, .unset, .unset, .unset, .unset, .unset] [(.int (1 : Int32))]))
      refine own_step (fun t k => XS.goto X9.here hx rfl (pc0 := 60) (pc' := 64) rfl (hb hby at_60) (by decide) (by decide) k) ?_
      show own_Fin p e below s Q 0 0 (T9.setTop (mkF m 64 #[.val (.int i0), .val (.int i1), .val (.int (f2_0 i0 (2147483648 : Int64))), .val (.int ((f2_0 i0 (2147483648 : Int64)) <<< ((1 : Int32) &&& 31))), .val (.int (((f2_0 i0 (2147483648 : Int64)) <<< ((1 : Int32) &&& 31)) ||| (1 : Int32))), .val (.int (0 : Int32)), .unset, .unset, .unset, .unset, .unset, .unset] [(.int (1 : Int32))]))
      refine own_step (fun t k => XS.istore X9.here hx rfl (hb hby at_64) rfl (l' := #[.val (.int i0), .val (.int i1), .val (.int (f2_0 i0 (2147483648 : Int64))), .val (.int ((f2_0 i0 (2147483648 : Int64)) <<< ((1 : Int32) &&& 31))), .val (.int (((f2_0 i0 (2147483648 : Int64)) <<< ((1 : Int32) &&& 31)) ||| (1 : Int32))), .val (.int (0 : Int32)), .val (.int (1 : Int32)), .unset, .unset, .unset, .unset, .unset]) rfl k) ?_
      show own_Fin p e below s Q 0 0 (T9.setTop (mkF m 66 #[.val (.int i0), .val (.int i1), .val (.int (f2_0 i0 (2147483648 : Int64))), .val (.int ((f2_0 i0 (2147483648 : Int64)) <<< ((1 : Int32) &&& 31))), .val (.int (((f2_0 i0 (2147483648 : Int64)) <<< ((1 : Int32) &&& 31)) ||| (1 : Int32))), .val (.int (0 : Int32)), .val (.int (1 : Int32)), .unset, .unset, .unset, .unset, .unset] []))
      refine own_step (fun t k => XS.iload X9.here hx rfl (hb hby at_66) rfl  k) ?_
      show own_Fin p e below s Q 0 0 (T9.setTop (mkF m 68 #[.val (.int i0), .val (.int i1), .val (.int (f2_0 i0 (2147483648 : Int64))), .val (.int ((f2_0 i0 (2147483648 : Int64)) <<< ((1 : Int32) &&& 31))), .val (.int (((f2_0 i0 (2147483648 : Int64)) <<< ((1 : Int32) &&& 31)) ||| (1 : Int32))), .val (.int (0 : Int32)), .val (.int (1 : Int32)), .unset, .unset, .unset, .unset, .unset] [(.int (0 : Int32))]))
      refine own_step (fun t k => XS.iload X9.here hx rfl (hb hby at_68) rfl  k) ?_
      show own_Fin p e below s Q 0 0 (T9.setTop (mkF m 70 #[.val (.int i0), .val (.int i1), .val (.int (f2_0 i0 (2147483648 : Int64))), .val (.int ((f2_0 i0 (2147483648 : Int64)) <<< ((1 : Int32) &&& 31))), .val (.int (((f2_0 i0 (2147483648 : Int64)) <<< ((1 : Int32) &&& 31)) ||| (1 : Int32))), .val (.int (0 : Int32)), .val (.int (1 : Int32)), .unset, .unset, .unset, .unset, .unset] [(.int (1 : Int32)), (.int (0 : Int32))]))
      refine own_step (fun t k => XS.icmpYes X9.here hx rfl (pc0 := 70) (pc' := 75) rfl (hb hby at_70) rfl (feq (by decide : ¬ ((0 : Int32) = (1 : Int32)))).2 (by decide) (by decide) k) ?_
      show own_Fin p e below s Q 0 0 (T9.setTop (mkF m 75 #[.val (.int i0), .val (.int i1), .val (.int (f2_0 i0 (2147483648 : Int64))), .val (.int ((f2_0 i0 (2147483648 : Int64)) <<< ((1 : Int32) &&& 31))), .val (.int (((f2_0 i0 (2147483648 : Int64)) <<< ((1 : Int32) &&& 31)) ||| (1 : Int32))), .val (.int (0 : Int32)), .val (.int (1 : Int32)), .unset, .unset, .unset, .unset, .unset] []))
      refine own_step (fun t k => XS.iload X9.here hx rfl (hb hby at_75) rfl  k) ?_
      show own_Fin p e below s Q 0 0 (T9.setTop (mkF m 77 #[.val (.int i0), .val (.int i1), .val (.int (f2_0 i0 (2147483648 : Int64))), .val (.int ((f2_0 i0 (2147483648 : Int64)) <<< ((1 : Int32) &&& 31))), .val (.int (((f2_0 i0 (2147483648 : Int64)) <<< ((1 : Int32) &&& 31)) ||| (1 : Int32))), .val (.int (0 : Int32)), .val (.int (1 : Int32)), .unset, .unset, .unset, .unset, .unset] [(.int (0 : Int32))]))
      refine own_step (fun t k => XS.ifYes X9.here hx rfl (pc0 := 77) (pc' := 84) rfl (hb hby at_77) rfl ((if0 _ _).trans (teq (by decide : (0 : Int32) = (0 : Int32))).1) (by decide) (by decide) k) ?_
      show own_Fin p e below s Q 0 0 (T9.setTop (mkF m 84 #[.val (.int i0), .val (.int i1), .val (.int (f2_0 i0 (2147483648 : Int64))), .val (.int ((f2_0 i0 (2147483648 : Int64)) <<< ((1 : Int32) &&& 31))), .val (.int (((f2_0 i0 (2147483648 : Int64)) <<< ((1 : Int32) &&& 31)) ||| (1 : Int32))), .val (.int (0 : Int32)), .val (.int (1 : Int32)), .unset, .unset, .unset, .unset, .unset] []))
      refine own_step (fun t k => XS.iload X9.here hx rfl (hb hby at_84) rfl  k) ?_
      show own_Fin p e below s Q 0 0 (T9.setTop (mkF m 86 #[.val (.int i0), .val (.int i1), .val (.int (f2_0 i0 (2147483648 : Int64))), .val (.int ((f2_0 i0 (2147483648 : Int64)) <<< ((1 : Int32) &&& 31))), .val (.int (((f2_0 i0 (2147483648 : Int64)) <<< ((1 : Int32) &&& 31)) ||| (1 : Int32))), .val (.int (0 : Int32)), .val (.int (1 : Int32)), .unset, .unset, .unset, .unset, .unset] [(.int (((f2_0 i0 (2147483648 : Int64)) <<< ((1 : Int32) &&& 31)) ||| (1 : Int32)))]))
      refine own_step (fun t k => XS.i2l X9.here hx rfl (hb hby at_86) rfl k) ?_
      show own_Fin p e below s Q 0 0 (T9.setTop (mkF m 87 #[.val (.int i0), .val (.int i1), .val (.int (f2_0 i0 (2147483648 : Int64))), .val (.int ((f2_0 i0 (2147483648 : Int64)) <<< ((1 : Int32) &&& 31))), .val (.int (((f2_0 i0 (2147483648 : Int64)) <<< ((1 : Int32) &&& 31)) ||| (1 : Int32))), .val (.int (0 : Int32)), .val (.int (1 : Int32)), .unset, .unset, .unset, .unset, .unset] [(.long ((((f2_0 i0 (2147483648 : Int64)) <<< ((1 : Int32) &&& 31)) ||| (1 : Int32)).toInt64))]))
      refine own_step (X9.ldc2Long hx hown (mvT hZ (hw _ (List.mem_of_getElem? (i := 15) rfl))) (g := (mkF m 87 #[.val (.int i0), .val (.int i1), .val (.int (f2_0 i0 (2147483648 : Int64))), .val (.int ((f2_0 i0 (2147483648 : Int64)) <<< ((1 : Int32) &&& 31))), .val (.int (((f2_0 i0 (2147483648 : Int64)) <<< ((1 : Int32) &&& 31)) ||| (1 : Int32))), .val (.int (0 : Int32)), .val (.int (1 : Int32)), .unset, .unset, .unset, .unset, .unset] [(.long ((((f2_0 i0 (2147483648 : Int64)) <<< ((1 : Int32) &&& 31)) ||| (1 : Int32)).toInt64))])) rfl (hb hby at_87)) ?_
      show own_Fin p e below s Q 0 0 (T9.setTop (mkF m 90 #[.val (.int i0), .val (.int i1), .val (.int (f2_0 i0 (2147483648 : Int64))), .val (.int ((f2_0 i0 (2147483648 : Int64)) <<< ((1 : Int32) &&& 31))), .val (.int (((f2_0 i0 (2147483648 : Int64)) <<< ((1 : Int32) &&& 31)) ||| (1 : Int32))), .val (.int (0 : Int32)), .val (.int (1 : Int32)), .unset, .unset, .unset, .unset, .unset] [(.long (4294967295 : Int64)), (.long ((((f2_0 i0 (2147483648 : Int64)) <<< ((1 : Int32) &&& 31)) ||| (1 : Int32)).toInt64))]))
      refine own_step (fun t k => XS.land X9.here hx rfl (hb hby at_90) rfl k) ?_
      show own_Fin p e below s Q 0 0 (T9.setTop (mkF m 91 #[.val (.int i0), .val (.int i1), .val (.int (f2_0 i0 (2147483648 : Int64))), .val (.int ((f2_0 i0 (2147483648 : Int64)) <<< ((1 : Int32) &&& 31))), .val (.int (((f2_0 i0 (2147483648 : Int64)) <<< ((1 : Int32) &&& 31)) ||| (1 : Int32))), .val (.int (0 : Int32)), .val (.int (1 : Int32)), .unset, .unset, .unset, .unset, .unset] [(.long (((((f2_0 i0 (2147483648 : Int64)) <<< ((1 : Int32) &&& 31)) ||| (1 : Int32)).toInt64) &&& (4294967295 : Int64)))]))
      refine own_step (fun t k => XS.lstore X9.here hx rfl (hb hby at_91) rfl (l' := #[.val (.int i0), .val (.int i1), .val (.int (f2_0 i0 (2147483648 : Int64))), .val (.int ((f2_0 i0 (2147483648 : Int64)) <<< ((1 : Int32) &&& 31))), .val (.int (((f2_0 i0 (2147483648 : Int64)) <<< ((1 : Int32) &&& 31)) ||| (1 : Int32))), .val (.int (0 : Int32)), .val (.int (1 : Int32)), .val (.long (((((f2_0 i0 (2147483648 : Int64)) <<< ((1 : Int32) &&& 31)) ||| (1 : Int32)).toInt64) &&& (4294967295 : Int64))), .second, .unset, .unset, .unset]) rfl k) ?_
      show own_Fin p e below s Q 0 0 (T9.setTop (mkF m 93 #[.val (.int i0), .val (.int i1), .val (.int (f2_0 i0 (2147483648 : Int64))), .val (.int ((f2_0 i0 (2147483648 : Int64)) <<< ((1 : Int32) &&& 31))), .val (.int (((f2_0 i0 (2147483648 : Int64)) <<< ((1 : Int32) &&& 31)) ||| (1 : Int32))), .val (.int (0 : Int32)), .val (.int (1 : Int32)), .val (.long (((((f2_0 i0 (2147483648 : Int64)) <<< ((1 : Int32) &&& 31)) ||| (1 : Int32)).toInt64) &&& (4294967295 : Int64))), .second, .unset, .unset, .unset] []))
      refine own_step (fun t k => XS.iloadN X9.here hx rfl (hb hby at_93) rfl  k) ?_
      show own_Fin p e below s Q 0 0 (T9.setTop (mkF m 94 #[.val (.int i0), .val (.int i1), .val (.int (f2_0 i0 (2147483648 : Int64))), .val (.int ((f2_0 i0 (2147483648 : Int64)) <<< ((1 : Int32) &&& 31))), .val (.int (((f2_0 i0 (2147483648 : Int64)) <<< ((1 : Int32) &&& 31)) ||| (1 : Int32))), .val (.int (0 : Int32)), .val (.int (1 : Int32)), .val (.long (((((f2_0 i0 (2147483648 : Int64)) <<< ((1 : Int32) &&& 31)) ||| (1 : Int32)).toInt64) &&& (4294967295 : Int64))), .second, .unset, .unset, .unset] [(.int i1)]))
      refine own_step (fun t k => XS.i2l X9.here hx rfl (hb hby at_94) rfl k) ?_
      show own_Fin p e below s Q 0 0 (T9.setTop (mkF m 95 #[.val (.int i0), .val (.int i1), .val (.int (f2_0 i0 (2147483648 : Int64))), .val (.int ((f2_0 i0 (2147483648 : Int64)) <<< ((1 : Int32) &&& 31))), .val (.int (((f2_0 i0 (2147483648 : Int64)) <<< ((1 : Int32) &&& 31)) ||| (1 : Int32))), .val (.int (0 : Int32)), .val (.int (1 : Int32)), .val (.long (((((f2_0 i0 (2147483648 : Int64)) <<< ((1 : Int32) &&& 31)) ||| (1 : Int32)).toInt64) &&& (4294967295 : Int64))), .second, .unset, .unset, .unset] [(.long (i1.toInt64))]))
      refine own_step (X9.ldc2Long hx hown (mvT hZ (hw _ (List.mem_of_getElem? (i := 16) rfl))) (g := (mkF m 95 #[.val (.int i0), .val (.int i1), .val (.int (f2_0 i0 (2147483648 : Int64))), .val (.int ((f2_0 i0 (2147483648 : Int64)) <<< ((1 : Int32) &&& 31))), .val (.int (((f2_0 i0 (2147483648 : Int64)) <<< ((1 : Int32) &&& 31)) ||| (1 : Int32))), .val (.int (0 : Int32)), .val (.int (1 : Int32)), .val (.long (((((f2_0 i0 (2147483648 : Int64)) <<< ((1 : Int32) &&& 31)) ||| (1 : Int32)).toInt64) &&& (4294967295 : Int64))), .second, .unset, .unset, .unset] [(.long (i1.toInt64))])) rfl (hb hby at_95)) ?_
      show own_Fin p e below s Q 0 0 (T9.setTop (mkF m 98 #[.val (.int i0), .val (.int i1), .val (.int (f2_0 i0 (2147483648 : Int64))), .val (.int ((f2_0 i0 (2147483648 : Int64)) <<< ((1 : Int32) &&& 31))), .val (.int (((f2_0 i0 (2147483648 : Int64)) <<< ((1 : Int32) &&& 31)) ||| (1 : Int32))), .val (.int (0 : Int32)), .val (.int (1 : Int32)), .val (.long (((((f2_0 i0 (2147483648 : Int64)) <<< ((1 : Int32) &&& 31)) ||| (1 : Int32)).toInt64) &&& (4294967295 : Int64))), .second, .unset, .unset, .unset] [(.long (2147483647 : Int64)), (.long (i1.toInt64))]))
      refine own_step (fun t k => XS.land X9.here hx rfl (hb hby at_98) rfl k) ?_
      show own_Fin p e below s Q 0 0 (T9.setTop (mkF m 99 #[.val (.int i0), .val (.int i1), .val (.int (f2_0 i0 (2147483648 : Int64))), .val (.int ((f2_0 i0 (2147483648 : Int64)) <<< ((1 : Int32) &&& 31))), .val (.int (((f2_0 i0 (2147483648 : Int64)) <<< ((1 : Int32) &&& 31)) ||| (1 : Int32))), .val (.int (0 : Int32)), .val (.int (1 : Int32)), .val (.long (((((f2_0 i0 (2147483648 : Int64)) <<< ((1 : Int32) &&& 31)) ||| (1 : Int32)).toInt64) &&& (4294967295 : Int64))), .second, .unset, .unset, .unset] [(.long ((i1.toInt64) &&& (2147483647 : Int64)))]))
      refine own_step (fun t k => XS.lconst X9.here hx rfl (hb hby at_99) k) ?_
      show own_Fin p e below s Q 0 0 (T9.setTop (mkF m 100 #[.val (.int i0), .val (.int i1), .val (.int (f2_0 i0 (2147483648 : Int64))), .val (.int ((f2_0 i0 (2147483648 : Int64)) <<< ((1 : Int32) &&& 31))), .val (.int (((f2_0 i0 (2147483648 : Int64)) <<< ((1 : Int32) &&& 31)) ||| (1 : Int32))), .val (.int (0 : Int32)), .val (.int (1 : Int32)), .val (.long (((((f2_0 i0 (2147483648 : Int64)) <<< ((1 : Int32) &&& 31)) ||| (1 : Int32)).toInt64) &&& (4294967295 : Int64))), .second, .unset, .unset, .unset] [(.long (1 : Int64)), (.long ((i1.toInt64) &&& (2147483647 : Int64)))]))
      refine own_step (fun t k => XS.ladd X9.here hx rfl (hb hby at_100) rfl k) ?_
      show own_Fin p e below s Q 0 0 (T9.setTop (mkF m 101 #[.val (.int i0), .val (.int i1), .val (.int (f2_0 i0 (2147483648 : Int64))), .val (.int ((f2_0 i0 (2147483648 : Int64)) <<< ((1 : Int32) &&& 31))), .val (.int (((f2_0 i0 (2147483648 : Int64)) <<< ((1 : Int32) &&& 31)) ||| (1 : Int32))), .val (.int (0 : Int32)), .val (.int (1 : Int32)), .val (.long (((((f2_0 i0 (2147483648 : Int64)) <<< ((1 : Int32) &&& 31)) ||| (1 : Int32)).toInt64) &&& (4294967295 : Int64))), .second, .unset, .unset, .unset] [(.long (((i1.toInt64) &&& (2147483647 : Int64)) + (1 : Int64)))]))
      refine own_step (fun t k => XS.lstore X9.here hx rfl (hb hby at_101) rfl (l' := #[.val (.int i0), .val (.int i1), .val (.int (f2_0 i0 (2147483648 : Int64))), .val (.int ((f2_0 i0 (2147483648 : Int64)) <<< ((1 : Int32) &&& 31))), .val (.int (((f2_0 i0 (2147483648 : Int64)) <<< ((1 : Int32) &&& 31)) ||| (1 : Int32))), .val (.int (0 : Int32)), .val (.int (1 : Int32)), .val (.long (((((f2_0 i0 (2147483648 : Int64)) <<< ((1 : Int32) &&& 31)) ||| (1 : Int32)).toInt64) &&& (4294967295 : Int64))), .second, .val (.long (((i1.toInt64) &&& (2147483647 : Int64)) + (1 : Int64))), .second, .unset]) rfl k) ?_
      show own_Fin p e below s Q 0 0 (T9.setTop (mkF m 103 #[.val (.int i0), .val (.int i1), .val (.int (f2_0 i0 (2147483648 : Int64))), .val (.int ((f2_0 i0 (2147483648 : Int64)) <<< ((1 : Int32) &&& 31))), .val (.int (((f2_0 i0 (2147483648 : Int64)) <<< ((1 : Int32) &&& 31)) ||| (1 : Int32))), .val (.int (0 : Int32)), .val (.int (1 : Int32)), .val (.long (((((f2_0 i0 (2147483648 : Int64)) <<< ((1 : Int32) &&& 31)) ||| (1 : Int32)).toInt64) &&& (4294967295 : Int64))), .second, .val (.long (((i1.toInt64) &&& (2147483647 : Int64)) + (1 : Int64))), .second, .unset] []))
      refine own_step (fun t k => XS.iloadN X9.here hx rfl (hb hby at_103) rfl  k) ?_
      show own_Fin p e below s Q 0 0 (T9.setTop (mkF m 104 #[.val (.int i0), .val (.int i1), .val (.int (f2_0 i0 (2147483648 : Int64))), .val (.int ((f2_0 i0 (2147483648 : Int64)) <<< ((1 : Int32) &&& 31))), .val (.int (((f2_0 i0 (2147483648 : Int64)) <<< ((1 : Int32) &&& 31)) ||| (1 : Int32))), .val (.int (0 : Int32)), .val (.int (1 : Int32)), .val (.long (((((f2_0 i0 (2147483648 : Int64)) <<< ((1 : Int32) &&& 31)) ||| (1 : Int32)).toInt64) &&& (4294967295 : Int64))), .second, .val (.long (((i1.toInt64) &&& (2147483647 : Int64)) + (1 : Int64))), .second, .unset] [(.int i0)]))
      refine own_step (fun t k => XS.lload X9.here hx rfl (hb hby at_104) rfl  k) ?_
      show own_Fin p e below s Q 0 0 (T9.setTop (mkF m 106 #[.val (.int i0), .val (.int i1), .val (.int (f2_0 i0 (2147483648 : Int64))), .val (.int ((f2_0 i0 (2147483648 : Int64)) <<< ((1 : Int32) &&& 31))), .val (.int (((f2_0 i0 (2147483648 : Int64)) <<< ((1 : Int32) &&& 31)) ||| (1 : Int32))), .val (.int (0 : Int32)), .val (.int (1 : Int32)), .val (.long (((((f2_0 i0 (2147483648 : Int64)) <<< ((1 : Int32) &&& 31)) ||| (1 : Int32)).toInt64) &&& (4294967295 : Int64))), .second, .val (.long (((i1.toInt64) &&& (2147483647 : Int64)) + (1 : Int64))), .second, .unset] [(.long (((i1.toInt64) &&& (2147483647 : Int64)) + (1 : Int64))), (.int i0)]))
      obtain ⟨_, _, ⟨T11, L11, k11, n11⟩, -, X11, ⟨Lc11, hQ11, l11, y11, z11⟩, st11⟩ := Jvm.LawKit.callS X9 hx (y := (⟨"com/example/libentitle/libentitle/role/IdTable", "slotOf", "(IJ)I"⟩ : MethodName)) hown (mvT hZ (hw _ (List.mem_of_getElem? (i := 6) rfl))) (mvT hZ (hw _ (List.mem_of_getElem? (i := 7) rfl))) (mvT hZ (hw _ (List.mem_of_getElem? (i := 8) rfl))) (mvT hZ (hw _ (List.mem_of_getElem? (i := 9) rfl))) (by decide) (backOf (W := 0) (rm2 l Z a0 hw [] i0 (((i1.toInt64) &&& (2147483647 : Int64)) + (1 : Int64)) h n0) hZ (hw _ (List.mem_of_getElem? (i := 9) rfl)) (hw _ (List.mem_of_getElem? (i := 8) rfl)) (by decide) (by decide)) (g := (mkF m 106 #[.val (.int i0), .val (.int i1), .val (.int (f2_0 i0 (2147483648 : Int64))), .val (.int ((f2_0 i0 (2147483648 : Int64)) <<< ((1 : Int32) &&& 31))), .val (.int (((f2_0 i0 (2147483648 : Int64)) <<< ((1 : Int32) &&& 31)) ||| (1 : Int32))), .val (.int (0 : Int32)), .val (.int (1 : Int32)), .val (.long (((((f2_0 i0 (2147483648 : Int64)) <<< ((1 : Int32) &&& 31)) ||| (1 : Int32)).toInt64) &&& (4294967295 : Int64))), .second, .val (.long (((i1.toInt64) &&& (2147483647 : Int64)) + (1 : Int64))), .second, .unset] [(.long (((i1.toInt64) &&& (2147483647 : Int64)) + (1 : Int64))), (.int i0)])) rfl (by rw [hml]; rfl) (argsL := [(.int i0), (.long (((i1.toInt64) &&& (2147483647 : Int64)) + (1 : Int64)))]) (rest := []) (lenOf pdm_1 rfl) rfl (by show 2 * 0 + _ ≤ _; exact Nat.le_of_eq rfl) (hb hby at_106) (fun _ _ => ⟨rfl, e9, (show cells + 0 + 0 + 0 + 0 + 0 ≤ 0 from (Nat.le_trans (Nat.add_le_add_right hc 0) (by decide))), (show slots + 0 + 0 + 0 + 0 + 0 ≤ 0 from (Nat.le_trans (Nat.add_le_add_right hs 0) (by decide)))⟩)
      dsimp only [Pt.U, Pt.locs, Pt.cells, Pt.slots] at X11 l11 y11 z11 st11 hQ11
      have yy11 : k11 = cells + 0 + 0 + 0 + 0 + 0 := y11
      have zz11 : n11 = slots + 0 + 0 + 0 + 0 + 0 := z11
      rw [yy11, zz11, l11] at X11
      obtain ⟨rfl, N11q, e11⟩ := hQ11
      have N11 := Fr.app N9 N11q
      refine own_step st11 ?_
      show own_Fin p e below s Q 0 0 (T11.setTop (mkF m 109 #[.val (.int i0), .val (.int i1), .val (.int (f2_0 i0 (2147483648 : Int64))), .val (.int ((f2_0 i0 (2147483648 : Int64)) <<< ((1 : Int32) &&& 31))), .val (.int (((f2_0 i0 (2147483648 : Int64)) <<< ((1 : Int32) &&& 31)) ||| (1 : Int32))), .val (.int (0 : Int32)), .val (.int (1 : Int32)), .val (.long (((((f2_0 i0 (2147483648 : Int64)) <<< ((1 : Int32) &&& 31)) ||| (1 : Int32)).toInt64) &&& (4294967295 : Int64))), .second, .val (.long (((i1.toInt64) &&& (2147483647 : Int64)) + (1 : Int64))), .second, .unset] [(.int (f2_0 i0 (((i1.toInt64) &&& (2147483647 : Int64)) + (1 : Int64))))]))
      refine own_step (fun t k => XS.istore X11.here hx rfl (hb hby at_109) rfl (l' := #[.val (.int i0), .val (.int i1), .val (.int (f2_0 i0 (2147483648 : Int64))), .val (.int ((f2_0 i0 (2147483648 : Int64)) <<< ((1 : Int32) &&& 31))), .val (.int (((f2_0 i0 (2147483648 : Int64)) <<< ((1 : Int32) &&& 31)) ||| (1 : Int32))), .val (.int (0 : Int32)), .val (.int (1 : Int32)), .val (.long (((((f2_0 i0 (2147483648 : Int64)) <<< ((1 : Int32) &&& 31)) ||| (1 : Int32)).toInt64) &&& (4294967295 : Int64))), .second, .val (.long (((i1.toInt64) &&& (2147483647 : Int64)) + (1 : Int64))), .second, .val (.int (f2_0 i0 (((i1.toInt64) &&& (2147483647 : Int64)) + (1 : Int64))))]) rfl k) ?_
      show own_Fin p e below s Q 0 0 (T11.setTop (mkF m 111 #[.val (.int i0), .val (.int i1), .val (.int (f2_0 i0 (2147483648 : Int64))), .val (.int ((f2_0 i0 (2147483648 : Int64)) <<< ((1 : Int32) &&& 31))), .val (.int (((f2_0 i0 (2147483648 : Int64)) <<< ((1 : Int32) &&& 31)) ||| (1 : Int32))), .val (.int (0 : Int32)), .val (.int (1 : Int32)), .val (.long (((((f2_0 i0 (2147483648 : Int64)) <<< ((1 : Int32) &&& 31)) ||| (1 : Int32)).toInt64) &&& (4294967295 : Int64))), .second, .val (.long (((i1.toInt64) &&& (2147483647 : Int64)) + (1 : Int64))), .second, .val (.int (f2_0 i0 (((i1.toInt64) &&& (2147483647 : Int64)) + (1 : Int64))))] []))
      refine own_step (fun t k => XS.iload X11.here hx rfl (hb hby at_111) rfl  k) ?_
      show own_Fin p e below s Q 0 0 (T11.setTop (mkF m 113 #[.val (.int i0), .val (.int i1), .val (.int (f2_0 i0 (2147483648 : Int64))), .val (.int ((f2_0 i0 (2147483648 : Int64)) <<< ((1 : Int32) &&& 31))), .val (.int (((f2_0 i0 (2147483648 : Int64)) <<< ((1 : Int32) &&& 31)) ||| (1 : Int32))), .val (.int (0 : Int32)), .val (.int (1 : Int32)), .val (.long (((((f2_0 i0 (2147483648 : Int64)) <<< ((1 : Int32) &&& 31)) ||| (1 : Int32)).toInt64) &&& (4294967295 : Int64))), .second, .val (.long (((i1.toInt64) &&& (2147483647 : Int64)) + (1 : Int64))), .second, .val (.int (f2_0 i0 (((i1.toInt64) &&& (2147483647 : Int64)) + (1 : Int64))))] [(.int (f2_0 i0 (((i1.toInt64) &&& (2147483647 : Int64)) + (1 : Int64))))]))
      refine own_step (fun t k => XS.ifNo X11.here hx rfl (hb hby at_113) rfl ((if0 _ _).trans (flt (own_end i0 i1 _ ((own_bij _ _).mp hB56_10)).1).1) k) ?_
      show own_Fin p e below s Q 0 0 (T11.setTop (mkF m 116 #[.val (.int i0), .val (.int i1), .val (.int (f2_0 i0 (2147483648 : Int64))), .val (.int ((f2_0 i0 (2147483648 : Int64)) <<< ((1 : Int32) &&& 31))), .val (.int (((f2_0 i0 (2147483648 : Int64)) <<< ((1 : Int32) &&& 31)) ||| (1 : Int32))), .val (.int (0 : Int32)), .val (.int (1 : Int32)), .val (.long (((((f2_0 i0 (2147483648 : Int64)) <<< ((1 : Int32) &&& 31)) ||| (1 : Int32)).toInt64) &&& (4294967295 : Int64))), .second, .val (.long (((i1.toInt64) &&& (2147483647 : Int64)) + (1 : Int64))), .second, .val (.int (f2_0 i0 (((i1.toInt64) &&& (2147483647 : Int64)) + (1 : Int64))))] []))
      refine own_step (fun t k => XS.iload X11.here hx rfl (hb hby at_116) rfl  k) ?_
      show own_Fin p e below s Q 0 0 (T11.setTop (mkF m 118 #[.val (.int i0), .val (.int i1), .val (.int (f2_0 i0 (2147483648 : Int64))), .val (.int ((f2_0 i0 (2147483648 : Int64)) <<< ((1 : Int32) &&& 31))), .val (.int (((f2_0 i0 (2147483648 : Int64)) <<< ((1 : Int32) &&& 31)) ||| (1 : Int32))), .val (.int (0 : Int32)), .val (.int (1 : Int32)), .val (.long (((((f2_0 i0 (2147483648 : Int64)) <<< ((1 : Int32) &&& 31)) ||| (1 : Int32)).toInt64) &&& (4294967295 : Int64))), .second, .val (.long (((i1.toInt64) &&& (2147483647 : Int64)) + (1 : Int64))), .second, .val (.int (f2_0 i0 (((i1.toInt64) &&& (2147483647 : Int64)) + (1 : Int64))))] [(.int (f2_0 i0 (((i1.toInt64) &&& (2147483647 : Int64)) + (1 : Int64))))]))
      refine own_step (fun t k => XS.i2l X11.here hx rfl (hb hby at_118) rfl k) ?_
      show own_Fin p e below s Q 0 0 (T11.setTop (mkF m 119 #[.val (.int i0), .val (.int i1), .val (.int (f2_0 i0 (2147483648 : Int64))), .val (.int ((f2_0 i0 (2147483648 : Int64)) <<< ((1 : Int32) &&& 31))), .val (.int (((f2_0 i0 (2147483648 : Int64)) <<< ((1 : Int32) &&& 31)) ||| (1 : Int32))), .val (.int (0 : Int32)), .val (.int (1 : Int32)), .val (.long (((((f2_0 i0 (2147483648 : Int64)) <<< ((1 : Int32) &&& 31)) ||| (1 : Int32)).toInt64) &&& (4294967295 : Int64))), .second, .val (.long (((i1.toInt64) &&& (2147483647 : Int64)) + (1 : Int64))), .second, .val (.int (f2_0 i0 (((i1.toInt64) &&& (2147483647 : Int64)) + (1 : Int64))))] [(.long ((f2_0 i0 (((i1.toInt64) &&& (2147483647 : Int64)) + (1 : Int64))).toInt64))]))
      refine own_step (fun t k => XS.lload X11.here hx rfl (hb hby at_119) rfl  k) ?_
      show own_Fin p e below s Q 0 0 (T11.setTop (mkF m 121 #[.val (.int i0), .val (.int i1), .val (.int (f2_0 i0 (2147483648 : Int64))), .val (.int ((f2_0 i0 (2147483648 : Int64)) <<< ((1 : Int32) &&& 31))), .val (.int (((f2_0 i0 (2147483648 : Int64)) <<< ((1 : Int32) &&& 31)) ||| (1 : Int32))), .val (.int (0 : Int32)), .val (.int (1 : Int32)), .val (.long (((((f2_0 i0 (2147483648 : Int64)) <<< ((1 : Int32) &&& 31)) ||| (1 : Int32)).toInt64) &&& (4294967295 : Int64))), .second, .val (.long (((i1.toInt64) &&& (2147483647 : Int64)) + (1 : Int64))), .second, .val (.int (f2_0 i0 (((i1.toInt64) &&& (2147483647 : Int64)) + (1 : Int64))))] [(.long (((i1.toInt64) &&& (2147483647 : Int64)) + (1 : Int64))), (.long ((f2_0 i0 (((i1.toInt64) &&& (2147483647 : Int64)) + (1 : Int64))).toInt64))]))
      refine own_step (fun t k => XS.lcmp X11.here hx rfl (hb hby at_121) rfl k) ?_
      show own_Fin p e below s Q 0 0 (T11.setTop (mkF m 122 #[.val (.int i0), .val (.int i1), .val (.int (f2_0 i0 (2147483648 : Int64))), .val (.int ((f2_0 i0 (2147483648 : Int64)) <<< ((1 : Int32) &&& 31))), .val (.int (((f2_0 i0 (2147483648 : Int64)) <<< ((1 : Int32) &&& 31)) ||| (1 : Int32))), .val (.int (0 : Int32)), .val (.int (1 : Int32)), .val (.long (((((f2_0 i0 (2147483648 : Int64)) <<< ((1 : Int32) &&& 31)) ||| (1 : Int32)).toInt64) &&& (4294967295 : Int64))), .second, .val (.long (((i1.toInt64) &&& (2147483647 : Int64)) + (1 : Int64))), .second, .val (.int (f2_0 i0 (((i1.toInt64) &&& (2147483647 : Int64)) + (1 : Int64))))] [(.int (lcmpW ((f2_0 i0 (((i1.toInt64) &&& (2147483647 : Int64)) + (1 : Int64))).toInt64) (((i1.toInt64) &&& (2147483647 : Int64)) + (1 : Int64))))]))
      refine own_step (fun t k => XS.ifNo X11.here hx rfl (hb hby at_122) rfl ((if0 _ _).trans (tlt (own_end i0 i1 _ ((own_bij _ _).mp hB56_10)).2.1).2.1) k) ?_
      show own_Fin p e below s Q 0 0 (T11.setTop (mkF m 125 #[.val (.int i0), .val (.int i1), .val (.int (f2_0 i0 (2147483648 : Int64))), .val (.int ((f2_0 i0 (2147483648 : Int64)) <<< ((1 : Int32) &&& 31))), .val (.int (((f2_0 i0 (2147483648 : Int64)) <<< ((1 : Int32) &&& 31)) ||| (1 : Int32))), .val (.int (0 : Int32)), .val (.int (1 : Int32)), .val (.long (((((f2_0 i0 (2147483648 : Int64)) <<< ((1 : Int32) &&& 31)) ||| (1 : Int32)).toInt64) &&& (4294967295 : Int64))), .second, .val (.long (((i1.toInt64) &&& (2147483647 : Int64)) + (1 : Int64))), .second, .val (.int (f2_0 i0 (((i1.toInt64) &&& (2147483647 : Int64)) + (1 : Int64))))] []))
      refine own_step (fun t k => XS.iload X11.here hx rfl (hb hby at_125) rfl  k) ?_
      show own_Fin p e below s Q 0 0 (T11.setTop (mkF m 127 #[.val (.int i0), .val (.int i1), .val (.int (f2_0 i0 (2147483648 : Int64))), .val (.int ((f2_0 i0 (2147483648 : Int64)) <<< ((1 : Int32) &&& 31))), .val (.int (((f2_0 i0 (2147483648 : Int64)) <<< ((1 : Int32) &&& 31)) ||| (1 : Int32))), .val (.int (0 : Int32)), .val (.int (1 : Int32)), .val (.long (((((f2_0 i0 (2147483648 : Int64)) <<< ((1 : Int32) &&& 31)) ||| (1 : Int32)).toInt64) &&& (4294967295 : Int64))), .second, .val (.long (((i1.toInt64) &&& (2147483647 : Int64)) + (1 : Int64))), .second, .val (.int (f2_0 i0 (((i1.toInt64) &&& (2147483647 : Int64)) + (1 : Int64))))] [(.int (f2_0 i0 (((i1.toInt64) &&& (2147483647 : Int64)) + (1 : Int64))))]))
      refine own_step (fun t k => XS.i2l X11.here hx rfl (hb hby at_127) rfl k) ?_
      show own_Fin p e below s Q 0 0 (T11.setTop (mkF m 128 #[.val (.int i0), .val (.int i1), .val (.int (f2_0 i0 (2147483648 : Int64))), .val (.int ((f2_0 i0 (2147483648 : Int64)) <<< ((1 : Int32) &&& 31))), .val (.int (((f2_0 i0 (2147483648 : Int64)) <<< ((1 : Int32) &&& 31)) ||| (1 : Int32))), .val (.int (0 : Int32)), .val (.int (1 : Int32)), .val (.long (((((f2_0 i0 (2147483648 : Int64)) <<< ((1 : Int32) &&& 31)) ||| (1 : Int32)).toInt64) &&& (4294967295 : Int64))), .second, .val (.long (((i1.toInt64) &&& (2147483647 : Int64)) + (1 : Int64))), .second, .val (.int (f2_0 i0 (((i1.toInt64) &&& (2147483647 : Int64)) + (1 : Int64))))] [(.long ((f2_0 i0 (((i1.toInt64) &&& (2147483647 : Int64)) + (1 : Int64))).toInt64))]))
      refine own_step (fun t k => XS.lload X11.here hx rfl (hb hby at_128) rfl  k) ?_
      show own_Fin p e below s Q 0 0 (T11.setTop (mkF m 130 #[.val (.int i0), .val (.int i1), .val (.int (f2_0 i0 (2147483648 : Int64))), .val (.int ((f2_0 i0 (2147483648 : Int64)) <<< ((1 : Int32) &&& 31))), .val (.int (((f2_0 i0 (2147483648 : Int64)) <<< ((1 : Int32) &&& 31)) ||| (1 : Int32))), .val (.int (0 : Int32)), .val (.int (1 : Int32)), .val (.long (((((f2_0 i0 (2147483648 : Int64)) <<< ((1 : Int32) &&& 31)) ||| (1 : Int32)).toInt64) &&& (4294967295 : Int64))), .second, .val (.long (((i1.toInt64) &&& (2147483647 : Int64)) + (1 : Int64))), .second, .val (.int (f2_0 i0 (((i1.toInt64) &&& (2147483647 : Int64)) + (1 : Int64))))] [(.long (((((f2_0 i0 (2147483648 : Int64)) <<< ((1 : Int32) &&& 31)) ||| (1 : Int32)).toInt64) &&& (4294967295 : Int64))), (.long ((f2_0 i0 (((i1.toInt64) &&& (2147483647 : Int64)) + (1 : Int64))).toInt64))]))
      refine own_step (fun t k => XS.lload X11.here hx rfl (hb hby at_130) rfl  k) ?_
      show own_Fin p e below s Q 0 0 (T11.setTop (mkF m 132 #[.val (.int i0), .val (.int i1), .val (.int (f2_0 i0 (2147483648 : Int64))), .val (.int ((f2_0 i0 (2147483648 : Int64)) <<< ((1 : Int32) &&& 31))), .val (.int (((f2_0 i0 (2147483648 : Int64)) <<< ((1 : Int32) &&& 31)) ||| (1 : Int32))), .val (.int (0 : Int32)), .val (.int (1 : Int32)), .val (.long (((((f2_0 i0 (2147483648 : Int64)) <<< ((1 : Int32) &&& 31)) ||| (1 : Int32)).toInt64) &&& (4294967295 : Int64))), .second, .val (.long (((i1.toInt64) &&& (2147483647 : Int64)) + (1 : Int64))), .second, .val (.int (f2_0 i0 (((i1.toInt64) &&& (2147483647 : Int64)) + (1 : Int64))))] [(.long (((i1.toInt64) &&& (2147483647 : Int64)) + (1 : Int64))), (.long (((((f2_0 i0 (2147483648 : Int64)) <<< ((1 : Int32) &&& 31)) ||| (1 : Int32)).toInt64) &&& (4294967295 : Int64))), (.long ((f2_0 i0 (((i1.toInt64) &&& (2147483647 : Int64)) + (1 : Int64))).toInt64))]))
      refine own_step (fun t k => XS.lmul X11.here hx rfl (hb hby at_132) rfl k) ?_
      show own_Fin p e below s Q 0 0 (T11.setTop (mkF m 133 #[.val (.int i0), .val (.int i1), .val (.int (f2_0 i0 (2147483648 : Int64))), .val (.int ((f2_0 i0 (2147483648 : Int64)) <<< ((1 : Int32) &&& 31))), .val (.int (((f2_0 i0 (2147483648 : Int64)) <<< ((1 : Int32) &&& 31)) ||| (1 : Int32))), .val (.int (0 : Int32)), .val (.int (1 : Int32)), .val (.long (((((f2_0 i0 (2147483648 : Int64)) <<< ((1 : Int32) &&& 31)) ||| (1 : Int32)).toInt64) &&& (4294967295 : Int64))), .second, .val (.long (((i1.toInt64) &&& (2147483647 : Int64)) + (1 : Int64))), .second, .val (.int (f2_0 i0 (((i1.toInt64) &&& (2147483647 : Int64)) + (1 : Int64))))] [(.long ((((((f2_0 i0 (2147483648 : Int64)) <<< ((1 : Int32) &&& 31)) ||| (1 : Int32)).toInt64) &&& (4294967295 : Int64)) * (((i1.toInt64) &&& (2147483647 : Int64)) + (1 : Int64)))), (.long ((f2_0 i0 (((i1.toInt64) &&& (2147483647 : Int64)) + (1 : Int64))).toInt64))]))
      refine own_step (fun t k => XS.bipush X11.here hx rfl (hb hby at_133) k) ?_
      show own_Fin p e below s Q 0 0 (T11.setTop (mkF m 135 #[.val (.int i0), .val (.int i1), .val (.int (f2_0 i0 (2147483648 : Int64))), .val (.int ((f2_0 i0 (2147483648 : Int64)) <<< ((1 : Int32) &&& 31))), .val (.int (((f2_0 i0 (2147483648 : Int64)) <<< ((1 : Int32) &&& 31)) ||| (1 : Int32))), .val (.int (0 : Int32)), .val (.int (1 : Int32)), .val (.long (((((f2_0 i0 (2147483648 : Int64)) <<< ((1 : Int32) &&& 31)) ||| (1 : Int32)).toInt64) &&& (4294967295 : Int64))), .second, .val (.long (((i1.toInt64) &&& (2147483647 : Int64)) + (1 : Int64))), .second, .val (.int (f2_0 i0 (((i1.toInt64) &&& (2147483647 : Int64)) + (1 : Int64))))] [(.int (32 : Int32)), (.long ((((((f2_0 i0 (2147483648 : Int64)) <<< ((1 : Int32) &&& 31)) ||| (1 : Int32)).toInt64) &&& (4294967295 : Int64)) * (((i1.toInt64) &&& (2147483647 : Int64)) + (1 : Int64)))), (.long ((f2_0 i0 (((i1.toInt64) &&& (2147483647 : Int64)) + (1 : Int64))).toInt64))]))
      refine own_step (fun t k => XS.lushr X11.here hx rfl (hb hby at_135) rfl k) ?_
      show own_Fin p e below s Q 0 0 (T11.setTop (mkF m 136 #[.val (.int i0), .val (.int i1), .val (.int (f2_0 i0 (2147483648 : Int64))), .val (.int ((f2_0 i0 (2147483648 : Int64)) <<< ((1 : Int32) &&& 31))), .val (.int (((f2_0 i0 (2147483648 : Int64)) <<< ((1 : Int32) &&& 31)) ||| (1 : Int32))), .val (.int (0 : Int32)), .val (.int (1 : Int32)), .val (.long (((((f2_0 i0 (2147483648 : Int64)) <<< ((1 : Int32) &&& 31)) ||| (1 : Int32)).toInt64) &&& (4294967295 : Int64))), .second, .val (.long (((i1.toInt64) &&& (2147483647 : Int64)) + (1 : Int64))), .second, .val (.int (f2_0 i0 (((i1.toInt64) &&& (2147483647 : Int64)) + (1 : Int64))))] [(.long ((((((((f2_0 i0 (2147483648 : Int64)) <<< ((1 : Int32) &&& 31)) ||| (1 : Int32)).toInt64) &&& (4294967295 : Int64)) * (((i1.toInt64) &&& (2147483647 : Int64)) + (1 : Int64))).toUInt64 >>> ((32 : Int32) &&& 0x3f).toInt64.toUInt64).toInt64)), (.long ((f2_0 i0 (((i1.toInt64) &&& (2147483647 : Int64)) + (1 : Int64))).toInt64))]))
      refine own_step (fun t k => XS.lcmp X11.here hx rfl (hb hby at_136) rfl k) ?_
      show own_Fin p e below s Q 0 0 (T11.setTop (mkF m 137 #[.val (.int i0), .val (.int i1), .val (.int (f2_0 i0 (2147483648 : Int64))), .val (.int ((f2_0 i0 (2147483648 : Int64)) <<< ((1 : Int32) &&& 31))), .val (.int (((f2_0 i0 (2147483648 : Int64)) <<< ((1 : Int32) &&& 31)) ||| (1 : Int32))), .val (.int (0 : Int32)), .val (.int (1 : Int32)), .val (.long (((((f2_0 i0 (2147483648 : Int64)) <<< ((1 : Int32) &&& 31)) ||| (1 : Int32)).toInt64) &&& (4294967295 : Int64))), .second, .val (.long (((i1.toInt64) &&& (2147483647 : Int64)) + (1 : Int64))), .second, .val (.int (f2_0 i0 (((i1.toInt64) &&& (2147483647 : Int64)) + (1 : Int64))))] [(.int (lcmpW ((f2_0 i0 (((i1.toInt64) &&& (2147483647 : Int64)) + (1 : Int64))).toInt64) ((((((((f2_0 i0 (2147483648 : Int64)) <<< ((1 : Int32) &&& 31)) ||| (1 : Int32)).toInt64) &&& (4294967295 : Int64)) * (((i1.toInt64) &&& (2147483647 : Int64)) + (1 : Int64))).toUInt64 >>> ((32 : Int32) &&& 0x3f).toInt64.toUInt64).toInt64)))]))
      refine own_step (fun t k => XS.ifNo X11.here hx rfl (hb hby at_137) rfl ((if0 _ _).trans (teq (own_end i0 i1 _ ((own_bij _ _).mp hB56_10)).2.2).2) k) ?_
      show own_Fin p e below s Q 0 0 (T11.setTop (mkF m 140 #[.val (.int i0), .val (.int i1), .val (.int (f2_0 i0 (2147483648 : Int64))), .val (.int ((f2_0 i0 (2147483648 : Int64)) <<< ((1 : Int32) &&& 31))), .val (.int (((f2_0 i0 (2147483648 : Int64)) <<< ((1 : Int32) &&& 31)) ||| (1 : Int32))), .val (.int (0 : Int32)), .val (.int (1 : Int32)), .val (.long (((((f2_0 i0 (2147483648 : Int64)) <<< ((1 : Int32) &&& 31)) ||| (1 : Int32)).toInt64) &&& (4294967295 : Int64))), .second, .val (.long (((i1.toInt64) &&& (2147483647 : Int64)) + (1 : Int64))), .second, .val (.int (f2_0 i0 (((i1.toInt64) &&& (2147483647 : Int64)) + (1 : Int64))))] []))
      refine own_step (fun t k => XS.iconst X11.here hx rfl (hb hby at_140) k) ?_
      show own_Fin p e below s Q 0 0 (T11.setTop (mkF m 141 #[.val (.int i0), .val (.int i1), .val (.int (f2_0 i0 (2147483648 : Int64))), .val (.int ((f2_0 i0 (2147483648 : Int64)) <<< ((1 : Int32) &&& 31))), .val (.int (((f2_0 i0 (2147483648 : Int64)) <<< ((1 : Int32) &&& 31)) ||| (1 : Int32))), .val (.int (0 : Int32)), .val (.int (1 : Int32)), .val (.long (((((f2_0 i0 (2147483648 : Int64)) <<< ((1 : Int32) &&& 31)) ||| (1 : Int32)).toInt64) &&& (4294967295 : Int64))), .second, .val (.long (((i1.toInt64) &&& (2147483647 : Int64)) + (1 : Int64))), .second, .val (.int (f2_0 i0 (((i1.toInt64) &&& (2147483647 : Int64)) + (1 : Int64))))] [(.int (1 : Int32))]))
      refine own_step (fun t k => XS.goto X11.here hx rfl (pc0 := 141) (pc' := 145) rfl (hb hby at_141) (by decide) (by decide) k) ?_
      show own_Fin p e below s Q 0 0 (T11.setTop (mkF m 145 #[.val (.int i0), .val (.int i1), .val (.int (f2_0 i0 (2147483648 : Int64))), .val (.int ((f2_0 i0 (2147483648 : Int64)) <<< ((1 : Int32) &&& 31))), .val (.int (((f2_0 i0 (2147483648 : Int64)) <<< ((1 : Int32) &&& 31)) ||| (1 : Int32))), .val (.int (0 : Int32)), .val (.int (1 : Int32)), .val (.long (((((f2_0 i0 (2147483648 : Int64)) <<< ((1 : Int32) &&& 31)) ||| (1 : Int32)).toInt64) &&& (4294967295 : Int64))), .second, .val (.long (((i1.toInt64) &&& (2147483647 : Int64)) + (1 : Int64))), .second, .val (.int (f2_0 i0 (((i1.toInt64) &&& (2147483647 : Int64)) + (1 : Int64))))] [(.int (1 : Int32))]))
      exact own_retN X11 hx hlk hret (by simp) (hb hby at_145) (Nat.le_trans (Nat.add_le_add_right hc 0) (by decide)) (Nat.le_trans (Nat.add_le_add_right hs 0) (by decide)) rfl N11 (fun L' n' => hQ _ L' n') (rfl)
    · refine own_step (fun t k => XS.icmpYes X9.here hx rfl (pc0 := 56) (pc' := 63) rfl (hb hby at_56) rfl (feq hB56_10).2 (by decide) (by decide) k) ?_
      show own_Fin p e below s Q 0 0 (T9.setTop (mkF m 63 #[.val (.int i0), .val (.int i1), .val (.int (f2_0 i0 (2147483648 : Int64))), .val (.int ((f2_0 i0 (2147483648 : Int64)) <<< ((1 : Int32) &&& 31))), .val (.int (((f2_0 i0 (2147483648 : Int64)) <<< ((1 : Int32) &&& 31)) ||| (1 : Int32))), .val (.int (0 : Int32)), .unset, .unset, .unset, .unset, .unset, .unset] []))
      refine own_step (fun t k => XS.iconst X9.here hx rfl (hb hby at_63) k) ?_
      show own_Fin p e below s Q 0 0 (T9.setTop (mkF m 64 #[.val (.int i0), .val (.int i1), .val (.int (f2_0 i0 (2147483648 : Int64))), .val (.int ((f2_0 i0 (2147483648 : Int64)) <<< ((1 : Int32) &&& 31))), .val (.int (((f2_0 i0 (2147483648 : Int64)) <<< ((1 : Int32) &&& 31)) ||| (1 : Int32))), .val (.int (0 : Int32)), .unset, .unset, .unset, .unset, .unset, .unset] [(.int (0 : Int32))]))
      refine own_step (fun t k => XS.istore X9.here hx rfl (hb hby at_64) rfl (l' := #[.val (.int i0), .val (.int i1), .val (.int (f2_0 i0 (2147483648 : Int64))), .val (.int ((f2_0 i0 (2147483648 : Int64)) <<< ((1 : Int32) &&& 31))), .val (.int (((f2_0 i0 (2147483648 : Int64)) <<< ((1 : Int32) &&& 31)) ||| (1 : Int32))), .val (.int (0 : Int32)), .val (.int (0 : Int32)), .unset, .unset, .unset, .unset, .unset]) rfl k) ?_
      show own_Fin p e below s Q 0 0 (T9.setTop (mkF m 66 #[.val (.int i0), .val (.int i1), .val (.int (f2_0 i0 (2147483648 : Int64))), .val (.int ((f2_0 i0 (2147483648 : Int64)) <<< ((1 : Int32) &&& 31))), .val (.int (((f2_0 i0 (2147483648 : Int64)) <<< ((1 : Int32) &&& 31)) ||| (1 : Int32))), .val (.int (0 : Int32)), .val (.int (0 : Int32)), .unset, .unset, .unset, .unset, .unset] []))
      refine own_step (fun t k => XS.iload X9.here hx rfl (hb hby at_66) rfl  k) ?_
      show own_Fin p e below s Q 0 0 (T9.setTop (mkF m 68 #[.val (.int i0), .val (.int i1), .val (.int (f2_0 i0 (2147483648 : Int64))), .val (.int ((f2_0 i0 (2147483648 : Int64)) <<< ((1 : Int32) &&& 31))), .val (.int (((f2_0 i0 (2147483648 : Int64)) <<< ((1 : Int32) &&& 31)) ||| (1 : Int32))), .val (.int (0 : Int32)), .val (.int (0 : Int32)), .unset, .unset, .unset, .unset, .unset] [(.int (0 : Int32))]))
      refine own_step (fun t k => XS.iload X9.here hx rfl (hb hby at_68) rfl  k) ?_
      show own_Fin p e below s Q 0 0 (T9.setTop (mkF m 70 #[.val (.int i0), .val (.int i1), .val (.int (f2_0 i0 (2147483648 : Int64))), .val (.int ((f2_0 i0 (2147483648 : Int64)) <<< ((1 : Int32) &&& 31))), .val (.int (((f2_0 i0 (2147483648 : Int64)) <<< ((1 : Int32) &&& 31)) ||| (1 : Int32))), .val (.int (0 : Int32)), .val (.int (0 : Int32)), .unset, .unset, .unset, .unset, .unset] [(.int (0 : Int32)), (.int (0 : Int32))]))
      refine own_step (fun t k => XS.icmpNo X9.here hx rfl (hb hby at_70) rfl (teq (by decide : (0 : Int32) = (0 : Int32))).2 k) ?_
      show own_Fin p e below s Q 0 0 (T9.setTop (mkF m 73 #[.val (.int i0), .val (.int i1), .val (.int (f2_0 i0 (2147483648 : Int64))), .val (.int ((f2_0 i0 (2147483648 : Int64)) <<< ((1 : Int32) &&& 31))), .val (.int (((f2_0 i0 (2147483648 : Int64)) <<< ((1 : Int32) &&& 31)) ||| (1 : Int32))), .val (.int (0 : Int32)), .val (.int (0 : Int32)), .unset, .unset, .unset, .unset, .unset] []))
      refine own_step (fun t k => XS.iconst X9.here hx rfl (hb hby at_73) k) ?_
      show own_Fin p e below s Q 0 0 (T9.setTop (mkF m 74 #[.val (.int i0), .val (.int i1), .val (.int (f2_0 i0 (2147483648 : Int64))), .val (.int ((f2_0 i0 (2147483648 : Int64)) <<< ((1 : Int32) &&& 31))), .val (.int (((f2_0 i0 (2147483648 : Int64)) <<< ((1 : Int32) &&& 31)) ||| (1 : Int32))), .val (.int (0 : Int32)), .val (.int (0 : Int32)), .unset, .unset, .unset, .unset, .unset] [(.int (0 : Int32))]))
      exact own_retN X9 hx hlk hret (by simp) (hb hby at_74) (Nat.le_trans (Nat.add_le_add_right hc 0) (by decide)) (Nat.le_trans (Nat.add_le_add_right hs 0) (by decide)) rfl N9 (fun L' n' => hQ _ L' n') (False.elim (hB56_10 ((own_ex i0 _ _ (own_r31 i0).2.1 (own_r31 i0).2.2).2 hB40_5)))
theorem pdm_3 : parseMethodDescriptor "(II)Z" = some ⟨[.int, .int], some .boolean⟩ := by decide +kernel
theorem ef_0 (m : MethodId) (i0 : Int32) (i1 : Int32) : entryFrame m #[(.int i0), (.int i1)] maxLocals = (mkF m 0 #[.val (.int i0), .val (.int i1), .unset, .unset, .unset, .unset, .unset, .unset, .unset, .unset, .unset, .unset] []) := by first | (simp [entryFrame, mkF, argsToLocals, Value.category, maxLocals]; done) | rfl
def Q0 (i0 : Int32) (i1 : Int32) (h0 : Heap) (n0 : Nat) (v : Option Value) (h : Heap) (L : List Loc) : Prop := v = some (.int 1) ∧ Fr n0 L
set_option maxRecDepth 65536 in
set_option maxHeartbeats 4000000 in
theorem rm0 (l : Launch) (Z : State) (a0 : Array Value) (hw : ∀ d ∈ tables_1, d.before a0 Z = true) (ws : List Jvm.Cond) (i0 : Int32) (i1 : Int32) (h0 : Heap) (n0 : Nat) (Z0 : n0 ≤ h0.size) :
    MetFree l x (head1 (Jvm.Cond.code x code maxLocals ret :: ws) room_1) (fun a U => a = #[(.int i0), (.int i1)] ∧ Z.Warmed39 U.vm ∧ U.heap = h0) (fun _ _ _ _ _ => True) (fun _ U o U' => ∃ v L, o = .returned v ∧ Q0 i0 i1 h0 n0 v U'.heap L ∧ FrameEnd U o U' L 0 0) := by
  refine MetFree.of_bodySF (plainFor_of_name pnm_0) hisR ?_
  intro p e s m args below meth c s₁ Bd hml0 hP hK
  obtain ⟨rfl, hZ, hh⟩ := hP
  have hx := Bd.exec
  have hby := Bd.bytes
  have hml : c.maxLocals = 12 := hml0
  have hown : s.vm.findClass "com/example/libentitle/libentitle/role/IdTableSlotOfPinLaw" = some m.cls := findClass_of_methodNamed Bd.named
  have X0 : Stand p l e room_1 s m #[(.int i0), (.int i1)] below meth c s₁ [] 0 0 := Stand.of_body Bd
  have e0 : s₁.heap = h0 := by rw [← hh, Bd.state]; rfl
  have fin := b0_0 i0 i1 (Q := Q0 i0 i1 h0 n0) hw X0 hx hZ hby hml hown Bd.returns (BodyLoose.notSynchronized Bd) e0 (Fr.nil n0) (Nat.zero_le _) (Nat.zero_le _) Z0 (fun H' L' n' => ⟨rfl, n'⟩)
  exact own_step (fun t k => castTop (ef_0 m i0 i1) k) fin
set_option maxRecDepth 65536 in
set_option maxHeartbeats 40000000 in
theorem comes_1 {Post : Tables → Env → Array Value → State → Outcome → State → Prop} (hpost : ∀ tb e args s v u, (limb_1_1.after args s (.returned v) u = true ∧ limb_1_2.after args s (.returned v) u = true ∧ True) → FrameEnd s (.returned v) u (Jvm.fieldLocs frame_1_writes args s ++ Jvm.arrayLocs frame_1_arrays args s ++ Jvm.staticLocs frame_1_statics s) 0 0 → Post tb e args s (.returned v) u) :
    ArmFor flags0 classFile x code maxLocals ret World_1 tables_1 room_1 Calls_1 rest_1 Pre_1 Post := by
  intro l hfl _ _ p e ha hc hk s m args below hf hA hF happ hP
  obtain ⟨hcalls, hrest, hpre⟩ := hP
  obtain ⟨-, -, -, hnamed, -, -, -, hat⟩ := (Spec.applies_iff hf).mp happ
  obtain ⟨hg, hn⟩ := and_e (Cond.before_iff.mp (show (Jvm.Cond.and given_1 narrow_1).before args s = true from hpre))
  obtain ⟨g1, g2⟩ := and_e hg
  obtain ⟨g3, g4⟩ := and_e g2
  obtain ⟨w0, w1, rfl⟩ : ∃ w0 w1 : Value, args = #[w0, w1] := by
    have hs : args.size = 2 := by simpa [Cond.value, given_1] using g1
    obtain ⟨L⟩ := args
    match L, hs with
    | [w0, w1], _ => exact ⟨w0, w1, rfl⟩
  have hw := fun d (hd : d ∈ tables_1) => atoms_spec (ws := Jvm.Cond.code x code maxLocals ret :: tables_1) hat d (List.mem_cons_of_mem _ hd)
  obtain ⟨i0, ei0⟩ := is_v g3
  obtain rfl : w0 = (.int i0) := Option.some.inj ei0
  obtain ⟨i1, ei1⟩ := is_v g4
  obtain rfl : w1 = (.int i1) := Option.some.inj ei1
  obtain ⟨n, o, h1, h2, h3, _, L, rfl, ⟨hval, N⟩, hq⟩ := rm0 l s _ hw tables_1 i0 i1 s.heap s.heap.size (Nat.le_refl _) p e ha hc hk s m _ below hf ((Spec.applies_iff_loose hf).mp happ).1 ⟨rfl, State.Warmed39.refl s, rfl⟩ trivial
  subst hval
  refine ⟨n, _, h1, h2, h3, hpost _ _ _ _ _ _ ⟨Cond.after_iff.mpr rfl, Cond.after_iff.mpr (eq_i res_at (Term.int_eval (1)) rfl), trivial⟩ ⟨hq.1, hq.2.1, (hq.2.2.sift fun y hy => Or.inr (N y hy)).mono (by decide) (by decide)⟩⟩
theorem main_1_1 : Claimed_1_1 := comes_1 fun _ _ _ _ _ _ h hF => ⟨h.1, hF⟩
theorem main_1_2 : Claimed_1_2 := comes_1 fun _ _ _ _ _ _ h hF => ⟨h.2.1, hF⟩
end Jvm.Pilot.@@N@@
namespace Jvm.Pilot.@@N@@
open Jvm Jvm.ClassFile Sem Op Lib Jvm.Free Jvm.Stand Jvm.Pilot.@@N@@.Jvm.D
/-! MADE BY PROGRAM (witnessworld.py) out of the Statement's table words and the real class files: 9 classes; the members and pool entries that the words name. The judged class is class 1, her method 3. -/
namespace start1
open Jvm.ClassFile
def u (s : String) : CpInfo := .utf8 (stringToUtf16 s)
/-- a pool by its gaps: so many unusable entries, then the entry; so many at the end -/
def gap : Nat → List CpInfo → List CpInfo
  | 0, r => r
  | n + 1, r => .unusable :: gap n r
def poolList (es : List (Nat × CpInfo)) (last : Nat) : List CpInfo := es.foldr (fun e r => gap e.1 (e.2 :: r)) (gap last [])
def pool (es : List (Nat × CpInfo)) (last : Nat) : Array CpInfo := ⟨poolList es last⟩
def fileOf (pool : Array CpInfo) (this : Nat) (attrs : Array Attribute := #[]) (ms : Array MethodInfo := #[]) (fl : Nat := 33) (sup : Nat := 0) (ifs : Array Nat := #[]) (fds : Array FieldInfo := #[]) : ClassFile where
  minorVersion := 0
  majorVersion := 65
  constantPool := pool
  accessFlags := fl
  thisClass := this
  superClass := sup
  interfaces := ifs
  fields := fds
  methods := ms
  attributes := attrs
def plain (name : String) (sup : Option ClassId) : Class where
  name := name
  kind := .ordinary
  loader := none
  accessFlags := 33
  super := sup
  interfaces := #[]
  cf := none
  fields := #[]
  methods := #[]
  instanceTypes := #[]
  staticTypes := #[]
  resolved := #[]
  callSites := []
  init := .initialized
  statics := none
  mirror := none

def pool0 : Array CpInfo := pool [(5, u "<init>"), (0, u "()V"), (1, .class_ 10), (1, u "java/lang/Object")] 113

def k0m0 : Method := { name := "<init>", desc := "()V", sig := { parameters := [], returnType := none }, accessFlags := 1, code := none }
/-- java/lang/Object -/
def k0 : Class := { plain "java/lang/Object" none with
  accessFlags := 33
  interfaces := #[]
  cf := some (fileOf pool0 8 #[] #[{ accessFlags := 1, nameIndex := 5, descriptorIndex := 6, attributes := #[] }] 33 0 #[] #[])
  fields := #[]
  methods := #[k0m0]
  instanceTypes := #[]
  staticTypes := #[]
  resolved := Array.replicate 124 none
  statics := none }

def pool1 : Array CpInfo := pool [(2, .class_ 4), (1, u "java/lang/Object"), (0, u "<init>"), (0, u "()V"), (0, .integer 2654435769), (0, .methodref 9 10), (0, .class_ 11), (0, .nameAndType 12 13), (0, u "com/example/libentitle/libentitle/role/IdTableSlotOfPinLaw"), (0, u "inverseOfMultiplier"), (0, u "()I"), (0, .long 2147483648), (1, .methodref 17 18), (0, .class_ 19), (0, .nameAndType 20 21), (0, u "com/example/libentitle/libentitle/role/IdTable"), (0, u "slotOf"), (0, u "(IJ)I"), (0, .methodref 9 23), (0, .nameAndType 24 25), (0, u "preimage"), (0, u "(I)I"), (0, .long 4294967295), (1, .long 2147483647), (3, u "law"), (0, u "(II)Z")] 3

def k1m0 : Method := { name := "<init>", desc := "()V", sig := { parameters := [], returnType := none }, accessFlags := 1, code := none }
def k1c1 : Code := { maxStack := 4, maxLocals := 2, code := method_2_code, exceptionTable := #[], attributes := #[] }
def k1m1 : Method := { name := "inverseOfMultiplier", desc := "()I", sig := { parameters := [], returnType := some .int }, accessFlags := 10, code := some k1c1 }
def k1c2 : Code := { maxStack := 3, maxLocals := 2, code := method_3_code, exceptionTable := #[], attributes := #[] }
def k1m2 : Method := { name := "preimage", desc := "(I)I", sig := { parameters := [.int], returnType := some .int }, accessFlags := 10, code := some k1c2 }
def k1c3 : Code := { maxStack := 6, maxLocals := 12, code := code, exceptionTable := #[], attributes := #[] }
def k1m3 : Method := { name := "law", desc := "(II)Z", sig := { parameters := [.int, .int], returnType := some .boolean }, accessFlags := 9, code := some k1c3 }
/-- com/example/libentitle/libentitle/role/IdTableSlotOfPinLaw -/
def k1 : Class := { plain "com/example/libentitle/libentitle/role/IdTableSlotOfPinLaw" (some 0) with
  accessFlags := 49
  interfaces := #[]
  cf := some (fileOf pool1 9 #[] #[{ accessFlags := 1, nameIndex := 5, descriptorIndex := 6, attributes := #[] }, { accessFlags := 10, nameIndex := 12, descriptorIndex := 13, attributes := #[] }, { accessFlags := 10, nameIndex := 24, descriptorIndex := 25, attributes := #[] }, { accessFlags := 9, nameIndex := 32, descriptorIndex := 33, attributes := #[] }] 49 2 #[] #[])
  fields := #[]
  methods := #[k1m0, k1m1, k1m2, k1m3]
  instanceTypes := #[]
  staticTypes := #[]
  resolved := Array.replicate 37 none
  statics := none }

def pool2 : Array CpInfo := pool [(1, .class_ 2), (0, u "com/example/libentitle/libentitle/role/IdTable"), (1, .class_ 6), (1, u "java/lang/Object"), (28, u "ids"), (0, u "Ljava/util/List;"), (2, u "slots"), (0, u "[B"), (2, u "capacity"), (0, u "J"), (51, u "overflow"), (0, u "[Ljava/lang/String;"), (2, u "overflowNumbers"), (0, u "[I"), (8, u "INT"), (0, u "Ljava/lang/invoke/VarHandle;"), (31, u "CHAR"), (20, .integer 2654435769), (0, .long 4294967295), (3, u "slotOf"), (0, u "(IJ)I"), (15, u "SLOT"), (0, u "I"), (2, u "HASH"), (1, u "NUMBER"), (1, u "FORM"), (1, u "CHARS"), (1, u "NARROW_CHARS"), (1, u "WIDE_CHARS"), (1, u "EMPTY"), (0, u "NARROW"), (1, u "WIDE"), (1, u "LONG"), (1, u "PAD"), (1, u "REACH"), (1, u "MOST")] 35

def k2c0 : Code := { maxStack := 4, maxLocals := 4, code := prog_52_method_9_code, exceptionTable := #[], attributes := #[] }
def k2m0 : Method := { name := "slotOf", desc := "(IJ)I", sig := { parameters := [.int, .long], returnType := some .int }, accessFlags := 8, code := some k2c0 }
/-- com/example/libentitle/libentitle/role/IdTable -/
def k2 : Class := { plain "com/example/libentitle/libentitle/role/IdTable" (some 0) with
  accessFlags := 32
  interfaces := #[]
  cf := some (fileOf pool2 1 #[] #[{ accessFlags := 8, nameIndex := 169, descriptorIndex := 170, attributes := #[] }] 32 4 #[] #[{ accessFlags := 26, nameIndex := 186, descriptorIndex := 187, attributes := #[] }, { accessFlags := 26, nameIndex := 190, descriptorIndex := 187, attributes := #[] }, { accessFlags := 26, nameIndex := 192, descriptorIndex := 187, attributes := #[] }, { accessFlags := 26, nameIndex := 194, descriptorIndex := 187, attributes := #[] }, { accessFlags := 26, nameIndex := 196, descriptorIndex := 187, attributes := #[] }, { accessFlags := 26, nameIndex := 198, descriptorIndex := 187, attributes := #[] }, { accessFlags := 26, nameIndex := 200, descriptorIndex := 187, attributes := #[] }, { accessFlags := 26, nameIndex := 202, descriptorIndex := 187, attributes := #[] }, { accessFlags := 26, nameIndex := 203, descriptorIndex := 187, attributes := #[] }, { accessFlags := 26, nameIndex := 205, descriptorIndex := 187, attributes := #[] }, { accessFlags := 26, nameIndex := 207, descriptorIndex := 187, attributes := #[] }, { accessFlags := 26, nameIndex := 209, descriptorIndex := 187, attributes := #[] }, { accessFlags := 26, nameIndex := 211, descriptorIndex := 187, attributes := #[] }, { accessFlags := 26, nameIndex := 213, descriptorIndex := 187, attributes := #[] }, { accessFlags := 26, nameIndex := 110, descriptorIndex := 111, attributes := #[] }, { accessFlags := 26, nameIndex := 143, descriptorIndex := 111, attributes := #[] }, { accessFlags := 18, nameIndex := 35, descriptorIndex := 36, attributes := #[] }, { accessFlags := 18, nameIndex := 39, descriptorIndex := 40, attributes := #[] }, { accessFlags := 18, nameIndex := 43, descriptorIndex := 44, attributes := #[] }, { accessFlags := 18, nameIndex := 96, descriptorIndex := 97, attributes := #[] }, { accessFlags := 18, nameIndex := 100, descriptorIndex := 101, attributes := #[] }])
  fields := #[{ name := "SLOT", type := .int, accessFlags := 26, slot := 0, constantValue := 0 }, { name := "HASH", type := .int, accessFlags := 26, slot := 1, constantValue := 0 }, { name := "NUMBER", type := .int, accessFlags := 26, slot := 2, constantValue := 0 }, { name := "FORM", type := .int, accessFlags := 26, slot := 3, constantValue := 0 }, { name := "CHARS", type := .int, accessFlags := 26, slot := 4, constantValue := 0 }, { name := "NARROW_CHARS", type := .int, accessFlags := 26, slot := 5, constantValue := 0 }, { name := "WIDE_CHARS", type := .int, accessFlags := 26, slot := 6, constantValue := 0 }, { name := "EMPTY", type := .int, accessFlags := 26, slot := 7, constantValue := 0 }, { name := "NARROW", type := .int, accessFlags := 26, slot := 8, constantValue := 0 }, { name := "WIDE", type := .int, accessFlags := 26, slot := 9, constantValue := 0 }, { name := "LONG", type := .int, accessFlags := 26, slot := 10, constantValue := 0 }, { name := "PAD", type := .int, accessFlags := 26, slot := 11, constantValue := 0 }, { name := "REACH", type := .int, accessFlags := 26, slot := 12, constantValue := 0 }, { name := "MOST", type := .int, accessFlags := 26, slot := 13, constantValue := 0 }, { name := "INT", type := (.object "java/lang/invoke/VarHandle"), accessFlags := 26, slot := 14, constantValue := 0 }, { name := "CHAR", type := (.object "java/lang/invoke/VarHandle"), accessFlags := 26, slot := 15, constantValue := 0 }, { name := "ids", type := (.object "java/util/List"), accessFlags := 18, slot := 0, constantValue := 0 }, { name := "slots", type := (.array .byte), accessFlags := 18, slot := 1, constantValue := 0 }, { name := "capacity", type := .long, accessFlags := 18, slot := 2, constantValue := 0 }, { name := "overflow", type := (.array (.object "java/lang/String")), accessFlags := 18, slot := 3, constantValue := 0 }, { name := "overflowNumbers", type := (.array .int), accessFlags := 18, slot := 4, constantValue := 0 }]
  methods := #[k2m0]
  instanceTypes := #[(.object "java/util/List"), (.array .byte), .long, (.array (.object "java/lang/String")), (.array .int)]
  staticTypes := #[.int, .int, .int, .int, .int, .int, .int, .int, .int, .int, .int, .int, .int, .int, (.object "java/lang/invoke/VarHandle"), (.object "java/lang/invoke/VarHandle")]
  resolved := Array.replicate 249 none
  statics := none }

def pool3 : Array CpInfo := pool [(1, u "java/lang/Cloneable"), (0, .class_ 1), (0, u "java/lang/Object"), (0, .class_ 3)] 3

/-- java/lang/Cloneable -/
def k3 : Class := { plain "java/lang/Cloneable" (some 0) with
  accessFlags := 1537
  interfaces := #[]
  cf := some (fileOf pool3 2 #[] #[] 1537 4 #[] #[])
  fields := #[]
  methods := #[]
  instanceTypes := #[]
  staticTypes := #[]
  resolved := Array.replicate 8 none
  statics := none }

def pool4 : Array CpInfo := pool [(1, u "java/io/Serializable"), (0, .class_ 1), (0, u "java/lang/Object"), (0, .class_ 3)] 3

/-- java/io/Serializable -/
def k4 : Class := { plain "java/io/Serializable" (some 0) with
  accessFlags := 1537
  interfaces := #[]
  cf := some (fileOf pool4 2 #[] #[] 1537 4 #[] #[])
  fields := #[]
  methods := #[]
  instanceTypes := #[]
  staticTypes := #[]
  resolved := Array.replicate 8 none
  statics := none }

/-- the primitive byte -/
def k5 : Class := { plain "byte" none with kind := .primitive 'B', accessFlags := 0x411 }
/-- [B -/
def k6 : Class := { plain "[B" (some 0) with kind := .array 5 .byte, interfaces := #[3, 4], accessFlags := 1041 }

/-- the primitive int -/
def k7 : Class := { plain "int" none with kind := .primitive 'I', accessFlags := 0x411 }
/-- [I -/
def k8 : Class := { plain "[I" (some 0) with kind := .array 7 .int, interfaces := #[3, 4], accessFlags := 1041 }

def heap : Heap := #[]
def classes : Array Class := #[k0, k1, k2, k3, k4, k5, k6, k7, k8]
def interned : List (Array UInt16 × Addr) := []
def slotsUsed : Nat := 0
def theMethod : MethodId := ⟨1, 3⟩
def args0 : Array Value := #[.int 5, .int 5]
def aboutOver (below : List Frame) : State where
  vm := { classes := classes, interned := interned.toArray }
  heap := heap
  slotsUsed := slotsUsed
  threads := #[{ frames := .invoking theMethod args0 :: below }]
def below0 : List Frame := [.native { method := ⟨0, 0⟩, args := #[] }]
def about1 : State := aboutOver below0
def p0 : Program := .bare "" "" ""
def e0 : Env := launch0.env 0 0 0
theorem w_frames : about1.frames = Frame.invoking theMethod args0 :: below0 := rfl
set_option maxRecDepth 65536 in
theorem w_args : argsFit about1.vm theMethod args0 = true := by decide +kernel
set_option maxRecDepth 65536 in
theorem w_heap : heapFits about1 = true := by decide +kernel
set_option maxRecDepth 65536 in
theorem w_runnable : about1.curStatus? = some .runnable := by decide +kernel
set_option maxRecDepth 65536 in
theorem w_alone : about1.alone = true := by decide +kernel
set_option maxRecDepth 65536 in
theorem w_named : about1.methodNamed? x = some theMethod := by decide +kernel
set_option maxRecDepth 65536 in
theorem w_hears : about1.hears theMethod below0 = true := by decide +kernel
set_option maxRecDepth 65536 in
theorem w_ripe : about1.ripe theMethod args0 below0 = true := by decide +kernel
theorem w_running : about1.status = .running := rfl
set_option maxRecDepth 65536 in
theorem w_room : about1.hasRoom e0.platform room_1 = true :=
  launch0.hasRoom_least _ room_1 (by decide +kernel) (by decide +kernel) (by decide +kernel) (by decide +kernel) (by decide +kernel) (by decide +kernel)
theorem allAtoms_all (ts : List Jvm.Cond) (a : Array Jvm.Value) (st : Jvm.State) : (allAtoms ts).before a st = ts.all (fun c => c.before a st) := by
  induction ts with
  | nil => rfl
  | cons c t ih =>
    show (Jvm.Cond.and c (allAtoms t)).before a st = _
    rw [Jvm.Cond.before_and, ih, List.all_cons]
def words1 : List Jvm.Cond := Jvm.Cond.code x code maxLocals ret :: tables_1
/-- a 'code' word, met by the world's own term for the bytes: nothing is compared byte by byte -/
theorem code_word {y : MethodName} {bytes : ByteArray} {mx : Nat} {rt : Option FieldType} {a : Array Value} {s : State} {m : MethodId} {meth : Method} {c : Code} (h1 : s.methodNamed? y = some m) (h2 : s.vm.method? m = some meth) (h3 : meth.code = some c) (h4 : c.code = bytes)
    (h5 : (c.maxLocals == mx && c.exceptionTable.isEmpty && decide (c.maxStack ≤ mostOperands) && decide (meth.sig.returnType = rt) && !meth.locks && decide (parseMethodDescriptor y.desc = some meth.sig)) = true) : (Jvm.Cond.code y bytes mx rt).before a s = true := by
  simp only [Bool.and_eq_true, beq_iff_eq, Bool.not_eq_true', decide_eq_true_eq] at h5
  obtain ⟨⟨⟨⟨⟨g1, g2⟩, g3⟩, g4⟩, g5⟩, g6⟩ := h5
  simp [Cond.before, Cond.holds, Cond.value, h1, h2, h3, h4, g1, g2, g3, g4, g5, g6]
def isCode : Jvm.Cond → Bool
  | .code _ _ _ _ => true
  | _ => false
theorem all_split {L : List Jvm.Cond} {P : Jvm.Cond → Bool} (h1 : L.all (fun c => isCode c || P c) = true) (h2 : ∀ c ∈ L.filter isCode, P c = true) : L.all P = true := by
  refine List.all_eq_true.mpr fun c hc => ?_
  have h := List.all_eq_true.mp h1 c hc
  rcases Bool.eq_false_or_eq_true (isCode c) with hi | hi
  · exact h2 c (List.mem_filter.mpr ⟨hc, hi⟩)
  · simpa [hi] using h
set_option maxRecDepth 65536 in
theorem w_c0 : (Jvm.Cond.code x code maxLocals ret).before args0 about1 = true := code_word (m := ⟨1, 3⟩) (meth := k1m3) (c := k1c3) (by decide +kernel) rfl rfl rfl (by decide +kernel)
set_option maxRecDepth 65536 in
theorem w_c1 : (Jvm.Cond.code ({ cls := "com/example/libentitle/libentitle/role/IdTableSlotOfPinLaw", name := "inverseOfMultiplier", desc := "()I" } : Jvm.MethodName) method_2_code (2 : Nat) (Option.some Jvm.ClassFile.FieldType.int)).before args0 about1 = true := code_word (m := ⟨1, 1⟩) (meth := k1m1) (c := k1c1) (by decide +kernel) rfl rfl rfl (by decide +kernel)
set_option maxRecDepth 65536 in
theorem w_c2 : (Jvm.Cond.code ({ cls := "com/example/libentitle/libentitle/role/IdTable", name := "slotOf", desc := "(IJ)I" } : Jvm.MethodName) prog_52_method_9_code (4 : Nat) (Option.some Jvm.ClassFile.FieldType.int)).before args0 about1 = true := code_word (m := ⟨2, 0⟩) (meth := k2m0) (c := k2c0) (by decide +kernel) rfl rfl rfl (by decide +kernel)
set_option maxRecDepth 65536 in
theorem w_c3 : (Jvm.Cond.code ({ cls := "com/example/libentitle/libentitle/role/IdTableSlotOfPinLaw", name := "preimage", desc := "(I)I" } : Jvm.MethodName) method_3_code (2 : Nat) (Option.some Jvm.ClassFile.FieldType.int)).before args0 about1 = true := code_word (m := ⟨1, 2⟩) (meth := k1m2) (c := k1c2) (by decide +kernel) rfl rfl rfl (by decide +kernel)
def codes1 : List Jvm.Cond := [Jvm.Cond.code x code maxLocals ret, Jvm.Cond.code ({ cls := "com/example/libentitle/libentitle/role/IdTableSlotOfPinLaw", name := "inverseOfMultiplier", desc := "()I" } : Jvm.MethodName) method_2_code (2 : Nat) (Option.some Jvm.ClassFile.FieldType.int), Jvm.Cond.code ({ cls := "com/example/libentitle/libentitle/role/IdTable", name := "slotOf", desc := "(IJ)I" } : Jvm.MethodName) prog_52_method_9_code (4 : Nat) (Option.some Jvm.ClassFile.FieldType.int), Jvm.Cond.code ({ cls := "com/example/libentitle/libentitle/role/IdTableSlotOfPinLaw", name := "preimage", desc := "(I)I" } : Jvm.MethodName) method_3_code (2 : Nat) (Option.some Jvm.ClassFile.FieldType.int)]
set_option maxRecDepth 65536 in
theorem codes_eq : words1.filter isCode = codes1 := rfl
theorem w_codes : ∀ c ∈ words1.filter isCode, c.before args0 about1 = true := by
  rw [codes_eq]
  intro c hc
  simp only [codes1, List.mem_cons, List.not_mem_nil, or_false] at hc
  rcases hc with rfl | rfl | rfl | rfl
  · exact w_c0
  · exact w_c1
  · exact w_c2
  · exact w_c3
set_option maxRecDepth 65536 in
theorem w_t1 : words1.all (fun c => isCode c || c.before args0 about1) = true := by decide +kernel
theorem w_tables : (allAtoms (Jvm.Cond.code x code maxLocals ret :: tables_1)).before args0 about1 = true := by
  rw [allAtoms_all]
  show words1.all (fun c => c.before args0 about1) = true
  refine all_split ?_ w_codes
  rw [w_t1]
set_option maxRecDepth 65536 in
theorem w_case : (Jvm.Cond.and given_1 narrow_1).before args0 about1 = true := by decide +kernel
theorem w_applies : (headSpec (Jvm.Cond.code x code maxLocals ret :: tables_1) room_1).applies x e0.platform about1 = true :=
  (Spec.applies_iff w_frames).mpr ⟨w_running, w_runnable, w_alone, w_named, w_hears, w_ripe, w_room, w_tables⟩
theorem atStart : AtStart classFile x code maxLocals ret World_1 tables_1 room_1 Calls_1 rest_1 Pre_1 launch0 p0 e0 about1 theMethod args0 below0 :=
  ⟨lists_1, trivial, launch0.admits_env _ _ _, launch0.least_env, fairChoices_fair.cas, fairChoices_fair.clock, w_frames, w_args, w_heap, w_applies, trivial, trivial, w_case⟩
end start1
theorem witness_1 : WitnessClaimed_1 := ⟨start1.p0, start1.e0, start1.about1, start1.theMethod, start1.args0, start1.below0, start1.atStart⟩
end Jvm.Pilot.@@N@@

import JvmDerived
import JvmDerived.Pilot.@@N@@Statement
import JvmDerived.Pilot.@@N@@Code
set_option linter.unusedVariables false
set_option linter.unusedSimpArgs false
namespace Jvm.RoadKit
open Sem ClassFile Op Lib Jvm.Stand Jvm.Free Jvm.LawKit
section New
variable {p : Program} {l : Launch} {e : Env} {R : Room} {s : State} {m : MethodId} {args : Array Value} {below : List Frame} {meth : Method} {c : Code} {T : State} {locs : List Loc} {cells slots : Nat}
theorem retI (X : Stand p l e R s m args below meth c T locs cells slots) (hx : p.tables.exec = Jvm.exec) {pc : Nat} {Ls : Array Slot} {z : Int32} {rest : List Value} (hret : meth.sig.returnType = some .int) (hd : decode c.code pc = .ok (.ireturn, 1)) {fs : List Frame}
    (hl : ∀ (f : JFrame) (acts : List Action), f.method = m → f.locked = none → f.entered = [] → (doReturn e (T.setTop f) acts (some (.int z))).1 = T.setFrames fs) : Steps p.tables e below (T.setTop (mkF m pc Ls (.int z :: rest))) (T.setFrames fs) := by
  have hm' : T.vm.method? m = some meth := X.method'
  have hn : narrow .int (.int z) = .int z := rfl
  show Steps p.tables e below (T.setTop { method := m, pc := pc, locals := Ls, stack := _ :: rest, locked := none }) _
  jvm_step X.here [X.here.top, hx, hd, hm', hret, hn]
  first | (intro acts; rw [hl _ acts rfl rfl rfl]) | rw [hl _ _ rfl rfl rfl]
  exact Steps.refl _
end New
end Jvm.RoadKit
namespace Jvm.Pilot.@@N@@
open Jvm Jvm.ClassFile Sem Op Lib Jvm.Free Jvm.Stand Jvm.LawKit Jvm.RoadKit Bundle Jvm.Pilot.@@N@@.Jvm.D
section OwnKit
variable {p : Program} {l : Launch} {e : Env} {R : Room} {s : State} {m : MethodId} {args : Array Value} {below : List Frame} {meth : Method} {c : Code} {T : State} {locs : List Loc} {cells slots : Nat}
/-- what a body owes from the state A on: it comes to its return, and what it returned, the heap and the written places satisfy Q -/
def own_Fin (p : Program) (e : Env) (below : List Frame) (s : State) (Q : Option Value → Heap → List Loc → Prop) (rc rs : Nat) (A : State) : Prop :=
  ∃ s₂ o, Steps p.tables e below A s₂ ∧ s₂.status = .running ∧ Ended s₂ below o ∧ ∃ v L, o = .returned v ∧ Q v s₂.heap L ∧ FrameEnd s o s₂ L rc rs
theorem own_step {Q : Option Value → Heap → List Loc → Prop} {rc rs : Nat} {A B : State} (k : ∀ t, Steps p.tables e below B t → Steps p.tables e below A t) (h : own_Fin p e below s Q rc rs B) : own_Fin p e below s Q rc rs A := by
  obtain ⟨s₂, o, h1, h2⟩ := h
  exact ⟨s₂, o, k _ h1, h2⟩
theorem own_retN (X : Stand p l e R s m args below meth c T locs cells slots) (hx : p.tables.exec = Jvm.exec) (hlk : meth.locks = false) {Q : Option Value → Heap → List Loc → Prop} {rc rs n0 : Nat} {h : Heap} {pc : Nat} {Ls : Array Slot} {z v : Int32} {t : FieldType} {rest : List Value} (hret : meth.sig.returnType = some t) (ht : t = .boolean ∨ t = .byte ∨ t = .char ∨ t = .short)
    (hd : decode c.code pc = .ok (.ireturn, 1)) (hc : cells ≤ rc) (hs : slots ≤ rs) (eT : T.heap = h) (N : Fr n0 locs) (hQ : ∀ L', Fr n0 L' → Q (some (.int v)) h L') (hv : v = nar t z) :
    own_Fin p e below s Q rc rs (T.setTop (mkF m pc Ls (.int z :: rest))) := by
  subst hv
  obtain ⟨fs, hr, hrun, hended, hW, hsame⟩ := X.leave (v := some (.int (nar t z))) (fun h => by rw [hret] at h; cases h) hlk
  refine ⟨_, _, retN X hx hret ht hd hr, hrun, hended, _, _, rfl, ?_, ⟨_, rfl⟩, hW, hsame.mono hc hs⟩
  show Q _ T.heap _
  rw [eT]
  exact hQ _ N
theorem own_retI (X : Stand p l e R s m args below meth c T locs cells slots) (hx : p.tables.exec = Jvm.exec) (hlk : meth.locks = false) {Q : Option Value → Heap → List Loc → Prop} {rc rs n0 : Nat} {h : Heap} {pc : Nat} {Ls : Array Slot} {z v : Int32} {rest : List Value} (hret : meth.sig.returnType = some .int)
    (hd : decode c.code pc = .ok (.ireturn, 1)) (hc : cells ≤ rc) (hs : slots ≤ rs) (eT : T.heap = h) (N : Fr n0 locs) (hQ : ∀ L', Fr n0 L' → Q (some (.int v)) h L') (hv : v = z) :
    own_Fin p e below s Q rc rs (T.setTop (mkF m pc Ls (.int z :: rest))) := by
  subst hv
  obtain ⟨fs, hr, hrun, hended, hW, hsame⟩ := X.leave (v := some (.int v)) (fun h => by rw [hret] at h; cases h) hlk
  refine ⟨_, _, retI X hx hret hd hr, hrun, hended, _, _, rfl, ?_, ⟨_, rfl⟩, hW, hsame.mono hc hs⟩
  show Q _ T.heap _
  rw [eT]
  exact hQ _ N
theorem own_ret0 (X : Stand p l e R s m args below meth c T locs cells slots) (hx : p.tables.exec = Jvm.exec) (hlk : meth.locks = false) {Q : Option Value → Heap → List Loc → Prop} {rc rs : Nat} {h : Heap} {pc : Nat} {Ls : Array Slot} (hret : meth.sig.returnType = none)
    (hd : decode c.code pc = .ok (.return_, 1)) (hc : cells ≤ rc) (hs : slots ≤ rs) (eT : T.heap = h) (hQ : Q none h locs) :
    own_Fin p e below s Q rc rs (T.setTop (mkF m pc Ls [])) := by
  obtain ⟨fs, hr, hrun, hended, hW, hsame⟩ := X.leave (v := none) (fun _ => rfl) hlk
  refine ⟨_, _, X.returnOut hx hret hd hr, hrun, hended, _, _, rfl, ?_, ⟨_, rfl⟩, hW, hsame.mono hc hs⟩
  show Q _ T.heap _
  rw [eT]
  exact hQ
end OwnKit
/-- an array of n ints (bytes, ..) at a: its i-th is g i -/
def own_AF (Z : State) (h : Heap) (a : Addr) (ty : FieldType) (n : Nat) (g : Nat → Int32) : Prop := ∃ c : Cell, Arr Z h a c ty ∧ c.slots.size = n ∧ ∀ i, i < n → c.slots[i]? = some (.int (g i))
def own_In (n : Nat) (j : Int32) : Prop := ¬ (j < 0 ∨ n ≤ j.toNatClampNeg)
theorem own_AF.lt {Z : State} {h : Heap} {a : Addr} {ty : FieldType} {n : Nat} {g : Nat → Int32} (F : own_AF Z h a ty n g) : a < h.size := by obtain ⟨c, A, -⟩ := F; exact A.lt
theorem own_AFext {Z : State} {h h' : Heap} {a : Addr} {ty : FieldType} {n : Nat} {g : Nat → Int32} (F : own_AF Z h a ty n g) (E : Ext h h') : own_AF Z h' a ty n g := by obtain ⟨c, A, r⟩ := F; exact ⟨c, A.ext E, r⟩
theorem own_AFoth {Z : State} {h h' : Heap} {a b : Addr} {sl : Nat} {v : Value} {ty : FieldType} {n : Nat} {g : Nat → Int32} (F : own_AF Z h b ty n g) (W : Wr h h' a sl v) (q : b ≠ a) : own_AF Z h' b ty n g := by obtain ⟨c, A, r⟩ := F; exact ⟨c, A.other W q, r⟩
theorem own_AFkeep {Z : State} {h h' : Heap} {a : Addr} {ws : List Addr} {ty : FieldType} {n : Nat} {g : Nat → Int32} (F : own_AF Z h a ty n g) (K : Keep h h' ws) (q : a ∉ ws) : own_AF Z h' a ty n g := by obtain ⟨c, A, r⟩ := F; exact ⟨c, ⟨K.2.1 a c A.1 q, A.2⟩, r⟩
theorem own_AFset {Z : State} {h h' : Heap} {a : Addr} {ty : FieldType} {n k : Nat} {g : Nat → Int32} {c : Cell} {x : Int32} (A : Arr Z h a c ty) (S : c.slots.size = n) (H : ∀ i, i < n → c.slots[i]? = some (.int (g i))) (W : Wr h h' a k (.int x)) : own_AF Z h' a ty n (fun i => if i = k then x else g i) := by
  obtain ⟨c', e1, e2, e3, e4, e5, e6, e7⟩ := wr_at W A.1
  refine ⟨c', ⟨e1, ?_⟩, e4.trans S, fun i hi => ?_⟩
  · rw [(e7 rfl).1]; exact A.2
  · by_cases q : i = k
    · subst q
      show c'.slots[i]? = some (.int (if i = i then x else g i))
      rw [if_pos rfl]
      exact (e7 rfl).2.1
    · show c'.slots[i]? = some (.int (if i = k then x else g i))
      rw [e6 i q, if_neg q]
      exact H i hi
theorem own_AFnew {Z : State} {h : Heap} {a : Addr} {k : ClassId} {ty : FieldType} {z : Int32} {n : Nat} (A : Arr Z h a (newA k ty z) ty) (hn : z.toNatClampNeg = n) (hd : defaultValue ty = .int 0 := by rfl) : own_AF Z h a ty n (fun _ => 0) :=
  ⟨_, A, (sz_new _ _ _).trans hn, fun i hi => by
    have hs : (newA k ty z).slots = Array.replicate z.toNatClampNeg (defaultValue ty) := rfl
    rw [hs, hn, hd]
    simp [hi]⟩
theorem own_eqi {x y : Int32} {b : Int} (h : y.toInt = b) : x = y ↔ x.toInt = b := by rw [← h]; exact Int32.toInt_inj.symm

theorem d1_0 : decode prog_189_method_7_code 0 = .ok (.iload_n 0, 1) := by decide +kernel
theorem d1_1 : decode prog_189_method_7_code 1 = .ok (.bipush 9, 2) := by decide +kernel
theorem d1_3 : decode prog_189_method_7_code 3 = .ok (.if_icmp .eq 51, 3) := by decide +kernel
theorem d1_6 : decode prog_189_method_7_code 6 = .ok (.iload_n 0, 1) := by decide +kernel
theorem d1_7 : decode prog_189_method_7_code 7 = .ok (.bipush 10, 2) := by decide +kernel
theorem d1_9 : decode prog_189_method_7_code 9 = .ok (.if_icmp .eq 45, 3) := by decide +kernel
theorem d1_12 : decode prog_189_method_7_code 12 = .ok (.iload_n 0, 1) := by decide +kernel
theorem d1_13 : decode prog_189_method_7_code 13 = .ok (.bipush 13, 2) := by decide +kernel
theorem d1_15 : decode prog_189_method_7_code 15 = .ok (.if_icmp .eq 39, 3) := by decide +kernel
theorem d1_18 : decode prog_189_method_7_code 18 = .ok (.iload_n 0, 1) := by decide +kernel
theorem d1_19 : decode prog_189_method_7_code 19 = .ok (.bipush 32, 2) := by decide +kernel
theorem d1_21 : decode prog_189_method_7_code 21 = .ok (.if_icmp .lt 9, 3) := by decide +kernel
theorem d1_24 : decode prog_189_method_7_code 24 = .ok (.iload_n 0, 1) := by decide +kernel
theorem d1_25 : decode prog_189_method_7_code 25 = .ok (.ldc 44, 2) := by decide +kernel
theorem d1_27 : decode prog_189_method_7_code 27 = .ok (.if_icmp .le 27, 3) := by decide +kernel
theorem d1_30 : decode prog_189_method_7_code 30 = .ok (.iload_n 0, 1) := by decide +kernel
theorem d1_31 : decode prog_189_method_7_code 31 = .ok (.ldc 45, 2) := by decide +kernel
theorem d1_33 : decode prog_189_method_7_code 33 = .ok (.if_icmp .lt 9, 3) := by decide +kernel
theorem d1_36 : decode prog_189_method_7_code 36 = .ok (.iload_n 0, 1) := by decide +kernel
theorem d1_37 : decode prog_189_method_7_code 37 = .ok (.ldc 46, 2) := by decide +kernel
theorem d1_39 : decode prog_189_method_7_code 39 = .ok (.if_icmp .le 15, 3) := by decide +kernel
theorem d1_42 : decode prog_189_method_7_code 42 = .ok (.iload_n 0, 1) := by decide +kernel
theorem d1_43 : decode prog_189_method_7_code 43 = .ok (.ldc 47, 2) := by decide +kernel
theorem d1_45 : decode prog_189_method_7_code 45 = .ok (.if_icmp .lt 13, 3) := by decide +kernel
theorem d1_48 : decode prog_189_method_7_code 48 = .ok (.iload_n 0, 1) := by decide +kernel
theorem d1_49 : decode prog_189_method_7_code 49 = .ok (.ldc 48, 2) := by decide +kernel
theorem d1_51 : decode prog_189_method_7_code 51 = .ok (.if_icmp .gt 7, 3) := by decide +kernel
theorem d1_54 : decode prog_189_method_7_code 54 = .ok (.iconst 1, 1) := by decide +kernel
theorem d1_55 : decode prog_189_method_7_code 55 = .ok (.goto 4, 3) := by decide +kernel
theorem d1_58 : decode prog_189_method_7_code 58 = .ok (.iconst 0, 1) := by decide +kernel
theorem d1_59 : decode prog_189_method_7_code 59 = .ok (.ireturn, 1) := by decide +kernel
def f1_59 (i0 : Int32) (is0 : Int32) : Int32 := (nar .boolean is0)
set_option maxRecDepth 65536 in
set_option maxHeartbeats 40000000 in
theorem b1_59 {p : Program} {l : Launch} {e : Env} {s : State} {m : MethodId} {args : Array Value} {below : List Frame} {meth : Method} {c : Code} {T : State} {locs : List Loc} {cells slots : Nat} {Z : State} {a0 : Array Value} {h : Heap} {n0 : Nat} {Q : Option Value → Heap → List Loc → Prop} (i0 : Int32) (is0 : Int32) (hw : ∀ d ∈ tables_1, d.before a0 Z = true) (X : Stand p l e ({ frames := 0, cells := 0, slots := 0, locals := 0 } : Room) s m args below meth c T locs cells slots) (hx : p.tables.exec = Jvm.exec) (hZ : Z.Warmed39 s.vm) (hby : c.code = prog_189_method_7_code) (hml : c.maxLocals = 1) (hown : s.vm.findClass "com/example/caddisfly/caddisfly/template/Text" = some m.cls) (hret : meth.sig.returnType = some .boolean) (hlk : meth.locks = false) (eT : T.heap = h) (N : Fr n0 locs) (hc : cells ≤ 0) (hs : slots ≤ 0) (v : Int32) (hv : v = f1_59 i0 is0) (hQ : ∀ L', Fr n0 L' → Q (some (.int v)) h L') :
    own_Fin p e below s Q 0 0 (T.setTop (mkF m 59 #[.val (.int i0)] [(.int is0)])) := by
  exact own_retN X hx hlk hret (by simp) (hb hby d1_59) (Nat.le_trans (Nat.add_le_add_right hc 0) (by decide)) (Nat.le_trans (Nat.add_le_add_right hs 0) (by decide)) eT N hQ (hv)
def f1_54 (i0 : Int32) : Int32 := f1_59 i0 (1 : Int32)
set_option maxRecDepth 65536 in
set_option maxHeartbeats 40000000 in
theorem b1_54 {p : Program} {l : Launch} {e : Env} {s : State} {m : MethodId} {args : Array Value} {below : List Frame} {meth : Method} {c : Code} {T : State} {locs : List Loc} {cells slots : Nat} {Z : State} {a0 : Array Value} {h : Heap} {n0 : Nat} {Q : Option Value → Heap → List Loc → Prop} (i0 : Int32) (hw : ∀ d ∈ tables_1, d.before a0 Z = true) (X : Stand p l e ({ frames := 0, cells := 0, slots := 0, locals := 0 } : Room) s m args below meth c T locs cells slots) (hx : p.tables.exec = Jvm.exec) (hZ : Z.Warmed39 s.vm) (hby : c.code = prog_189_method_7_code) (hml : c.maxLocals = 1) (hown : s.vm.findClass "com/example/caddisfly/caddisfly/template/Text" = some m.cls) (hret : meth.sig.returnType = some .boolean) (hlk : meth.locks = false) (eT : T.heap = h) (N : Fr n0 locs) (hc : cells ≤ 0) (hs : slots ≤ 0) (v : Int32) (hv : v = f1_54 i0) (hQ : ∀ L', Fr n0 L' → Q (some (.int v)) h L') :
    own_Fin p e below s Q 0 0 (T.setTop (mkF m 54 #[.val (.int i0)] [])) := by
  refine own_step (fun t k => XS.iconst X.here hx rfl (hb hby d1_54) k) ?_
  show own_Fin p e below s Q 0 0 (T.setTop (mkF m 55 #[.val (.int i0)] [(.int (1 : Int32))]))
  refine own_step (fun t k => XS.goto X.here hx rfl (pc0 := 55) (pc' := 59) rfl (hb hby d1_55) (by decide) (by decide) k) ?_
  exact b1_59 i0 (1 : Int32) hw X hx hZ hby hml hown hret hlk eT N (Nat.le_trans (Nat.add_le_add_right hc 0) (by decide)) (Nat.le_trans (Nat.add_le_add_right hs 0) (by decide)) v (hv) hQ
def f1_58 (i0 : Int32) : Int32 := f1_59 i0 (0 : Int32)
set_option maxRecDepth 65536 in
set_option maxHeartbeats 40000000 in
theorem b1_58 {p : Program} {l : Launch} {e : Env} {s : State} {m : MethodId} {args : Array Value} {below : List Frame} {meth : Method} {c : Code} {T : State} {locs : List Loc} {cells slots : Nat} {Z : State} {a0 : Array Value} {h : Heap} {n0 : Nat} {Q : Option Value → Heap → List Loc → Prop} (i0 : Int32) (hw : ∀ d ∈ tables_1, d.before a0 Z = true) (X : Stand p l e ({ frames := 0, cells := 0, slots := 0, locals := 0 } : Room) s m args below meth c T locs cells slots) (hx : p.tables.exec = Jvm.exec) (hZ : Z.Warmed39 s.vm) (hby : c.code = prog_189_method_7_code) (hml : c.maxLocals = 1) (hown : s.vm.findClass "com/example/caddisfly/caddisfly/template/Text" = some m.cls) (hret : meth.sig.returnType = some .boolean) (hlk : meth.locks = false) (eT : T.heap = h) (N : Fr n0 locs) (hc : cells ≤ 0) (hs : slots ≤ 0) (v : Int32) (hv : v = f1_58 i0) (hQ : ∀ L', Fr n0 L' → Q (some (.int v)) h L') :
    own_Fin p e below s Q 0 0 (T.setTop (mkF m 58 #[.val (.int i0)] [])) := by
  refine own_step (fun t k => XS.iconst X.here hx rfl (hb hby d1_58) k) ?_
  exact b1_59 i0 (0 : Int32) hw X hx hZ hby hml hown hret hlk eT N (Nat.le_trans (Nat.add_le_add_right hc 0) (by decide)) (Nat.le_trans (Nat.add_le_add_right hs 0) (by decide)) v (hv) hQ
def f1_48 (i0 : Int32) : Int32 := if (1114111 : Int32) < i0 then f1_58 i0 else f1_54 i0
set_option maxRecDepth 65536 in
set_option maxHeartbeats 40000000 in
theorem b1_48 {p : Program} {l : Launch} {e : Env} {s : State} {m : MethodId} {args : Array Value} {below : List Frame} {meth : Method} {c : Code} {T : State} {locs : List Loc} {cells slots : Nat} {Z : State} {a0 : Array Value} {h : Heap} {n0 : Nat} {Q : Option Value → Heap → List Loc → Prop} (i0 : Int32) (hw : ∀ d ∈ tables_1, d.before a0 Z = true) (X : Stand p l e ({ frames := 0, cells := 0, slots := 0, locals := 0 } : Room) s m args below meth c T locs cells slots) (hx : p.tables.exec = Jvm.exec) (hZ : Z.Warmed39 s.vm) (hby : c.code = prog_189_method_7_code) (hml : c.maxLocals = 1) (hown : s.vm.findClass "com/example/caddisfly/caddisfly/template/Text" = some m.cls) (hret : meth.sig.returnType = some .boolean) (hlk : meth.locks = false) (eT : T.heap = h) (N : Fr n0 locs) (hc : cells ≤ 0) (hs : slots ≤ 0) (v : Int32) (hv : v = f1_48 i0) (hQ : ∀ L', Fr n0 L' → Q (some (.int v)) h L') :
    own_Fin p e below s Q 0 0 (T.setTop (mkF m 48 #[.val (.int i0)] [])) := by
  refine own_step (fun t k => XS.iloadN X.here hx rfl (hb hby d1_48) rfl  k) ?_
  show own_Fin p e below s Q 0 0 (T.setTop (mkF m 49 #[.val (.int i0)] [(.int i0)]))
  refine own_step (X.ldcInt hx hown (mvT hZ (hw _ (List.mem_of_getElem? (i := 27) rfl))) (g := (mkF m 49 #[.val (.int i0)] [(.int i0)])) rfl (hb hby d1_49)) ?_
  show own_Fin p e below s Q 0 0 (T.setTop (mkF m 51 #[.val (.int i0)] [(.int (1114111 : Int32)), (.int i0)]))
  by_cases hB51_17 : (1114111 : Int32) < i0
  · refine own_step (fun t k => XS.icmpYes X.here hx rfl (pc0 := 51) (pc' := 58) rfl (hb hby d1_51) rfl (tlt hB51_17).2.2.1 (by decide) (by decide) k) ?_
    exact b1_58 i0 hw X hx hZ hby hml hown hret hlk eT N (Nat.le_trans (Nat.add_le_add_right hc 0) (by decide)) (Nat.le_trans (Nat.add_le_add_right hs 0) (by decide)) v (hv.trans (if_pos hB51_17)) hQ
  · refine own_step (fun t k => XS.icmpNo X.here hx rfl (hb hby d1_51) rfl (flt hB51_17).2.2.1 k) ?_
    exact b1_54 i0 hw X hx hZ hby hml hown hret hlk eT N (Nat.le_trans (Nat.add_le_add_right hc 0) (by decide)) (Nat.le_trans (Nat.add_le_add_right hs 0) (by decide)) v (hv.trans (if_neg hB51_17)) hQ
def f1_42 (i0 : Int32) : Int32 := if i0 < (65536 : Int32) then f1_58 i0 else f1_48 i0
set_option maxRecDepth 65536 in
set_option maxHeartbeats 40000000 in
theorem b1_42 {p : Program} {l : Launch} {e : Env} {s : State} {m : MethodId} {args : Array Value} {below : List Frame} {meth : Method} {c : Code} {T : State} {locs : List Loc} {cells slots : Nat} {Z : State} {a0 : Array Value} {h : Heap} {n0 : Nat} {Q : Option Value → Heap → List Loc → Prop} (i0 : Int32) (hw : ∀ d ∈ tables_1, d.before a0 Z = true) (X : Stand p l e ({ frames := 0, cells := 0, slots := 0, locals := 0 } : Room) s m args below meth c T locs cells slots) (hx : p.tables.exec = Jvm.exec) (hZ : Z.Warmed39 s.vm) (hby : c.code = prog_189_method_7_code) (hml : c.maxLocals = 1) (hown : s.vm.findClass "com/example/caddisfly/caddisfly/template/Text" = some m.cls) (hret : meth.sig.returnType = some .boolean) (hlk : meth.locks = false) (eT : T.heap = h) (N : Fr n0 locs) (hc : cells ≤ 0) (hs : slots ≤ 0) (v : Int32) (hv : v = f1_42 i0) (hQ : ∀ L', Fr n0 L' → Q (some (.int v)) h L') :
    own_Fin p e below s Q 0 0 (T.setTop (mkF m 42 #[.val (.int i0)] [])) := by
  refine own_step (fun t k => XS.iloadN X.here hx rfl (hb hby d1_42) rfl  k) ?_
  show own_Fin p e below s Q 0 0 (T.setTop (mkF m 43 #[.val (.int i0)] [(.int i0)]))
  refine own_step (X.ldcInt hx hown (mvT hZ (hw _ (List.mem_of_getElem? (i := 20) rfl))) (g := (mkF m 43 #[.val (.int i0)] [(.int i0)])) rfl (hb hby d1_43)) ?_
  show own_Fin p e below s Q 0 0 (T.setTop (mkF m 45 #[.val (.int i0)] [(.int (65536 : Int32)), (.int i0)]))
  by_cases hB45_14 : i0 < (65536 : Int32)
  · refine own_step (fun t k => XS.icmpYes X.here hx rfl (pc0 := 45) (pc' := 58) rfl (hb hby d1_45) rfl (tlt hB45_14).1 (by decide) (by decide) k) ?_
    exact b1_58 i0 hw X hx hZ hby hml hown hret hlk eT N (Nat.le_trans (Nat.add_le_add_right hc 0) (by decide)) (Nat.le_trans (Nat.add_le_add_right hs 0) (by decide)) v (hv.trans (if_pos hB45_14)) hQ
  · refine own_step (fun t k => XS.icmpNo X.here hx rfl (hb hby d1_45) rfl (flt hB45_14).1 k) ?_
    exact b1_48 i0 hw X hx hZ hby hml hown hret hlk eT N (Nat.le_trans (Nat.add_le_add_right hc 0) (by decide)) (Nat.le_trans (Nat.add_le_add_right hs 0) (by decide)) v (hv.trans (if_neg hB45_14)) hQ
def f1_36 (i0 : Int32) : Int32 := if (65533 : Int32) < i0 then f1_42 i0 else f1_54 i0
set_option maxRecDepth 65536 in
set_option maxHeartbeats 40000000 in
theorem b1_36 {p : Program} {l : Launch} {e : Env} {s : State} {m : MethodId} {args : Array Value} {below : List Frame} {meth : Method} {c : Code} {T : State} {locs : List Loc} {cells slots : Nat} {Z : State} {a0 : Array Value} {h : Heap} {n0 : Nat} {Q : Option Value → Heap → List Loc → Prop} (i0 : Int32) (hw : ∀ d ∈ tables_1, d.before a0 Z = true) (X : Stand p l e ({ frames := 0, cells := 0, slots := 0, locals := 0 } : Room) s m args below meth c T locs cells slots) (hx : p.tables.exec = Jvm.exec) (hZ : Z.Warmed39 s.vm) (hby : c.code = prog_189_method_7_code) (hml : c.maxLocals = 1) (hown : s.vm.findClass "com/example/caddisfly/caddisfly/template/Text" = some m.cls) (hret : meth.sig.returnType = some .boolean) (hlk : meth.locks = false) (eT : T.heap = h) (N : Fr n0 locs) (hc : cells ≤ 0) (hs : slots ≤ 0) (v : Int32) (hv : v = f1_36 i0) (hQ : ∀ L', Fr n0 L' → Q (some (.int v)) h L') :
    own_Fin p e below s Q 0 0 (T.setTop (mkF m 36 #[.val (.int i0)] [])) := by
  refine own_step (fun t k => XS.iloadN X.here hx rfl (hb hby d1_36) rfl  k) ?_
  show own_Fin p e below s Q 0 0 (T.setTop (mkF m 37 #[.val (.int i0)] [(.int i0)]))
  refine own_step (X.ldcInt hx hown (mvT hZ (hw _ (List.mem_of_getElem? (i := 26) rfl))) (g := (mkF m 37 #[.val (.int i0)] [(.int i0)])) rfl (hb hby d1_37)) ?_
  show own_Fin p e below s Q 0 0 (T.setTop (mkF m 39 #[.val (.int i0)] [(.int (65533 : Int32)), (.int i0)]))
  by_cases hB39_21 : (65533 : Int32) < i0
  · refine own_step (fun t k => XS.icmpNo X.here hx rfl (hb hby d1_39) rfl (tlt hB39_21).2.2.2 k) ?_
    exact b1_42 i0 hw X hx hZ hby hml hown hret hlk eT N (Nat.le_trans (Nat.add_le_add_right hc 0) (by decide)) (Nat.le_trans (Nat.add_le_add_right hs 0) (by decide)) v (hv.trans (if_pos hB39_21)) hQ
  · refine own_step (fun t k => XS.icmpYes X.here hx rfl (pc0 := 39) (pc' := 54) rfl (hb hby d1_39) rfl (flt hB39_21).2.2.2 (by decide) (by decide) k) ?_
    exact b1_54 i0 hw X hx hZ hby hml hown hret hlk eT N (Nat.le_trans (Nat.add_le_add_right hc 0) (by decide)) (Nat.le_trans (Nat.add_le_add_right hs 0) (by decide)) v (hv.trans (if_neg hB39_21)) hQ
def f1_30 (i0 : Int32) : Int32 := if i0 < (57344 : Int32) then f1_42 i0 else f1_36 i0
set_option maxRecDepth 65536 in
set_option maxHeartbeats 40000000 in
theorem b1_30 {p : Program} {l : Launch} {e : Env} {s : State} {m : MethodId} {args : Array Value} {below : List Frame} {meth : Method} {c : Code} {T : State} {locs : List Loc} {cells slots : Nat} {Z : State} {a0 : Array Value} {h : Heap} {n0 : Nat} {Q : Option Value → Heap → List Loc → Prop} (i0 : Int32) (hw : ∀ d ∈ tables_1, d.before a0 Z = true) (X : Stand p l e ({ frames := 0, cells := 0, slots := 0, locals := 0 } : Room) s m args below meth c T locs cells slots) (hx : p.tables.exec = Jvm.exec) (hZ : Z.Warmed39 s.vm) (hby : c.code = prog_189_method_7_code) (hml : c.maxLocals = 1) (hown : s.vm.findClass "com/example/caddisfly/caddisfly/template/Text" = some m.cls) (hret : meth.sig.returnType = some .boolean) (hlk : meth.locks = false) (eT : T.heap = h) (N : Fr n0 locs) (hc : cells ≤ 0) (hs : slots ≤ 0) (v : Int32) (hv : v = f1_30 i0) (hQ : ∀ L', Fr n0 L' → Q (some (.int v)) h L') :
    own_Fin p e below s Q 0 0 (T.setTop (mkF m 30 #[.val (.int i0)] [])) := by
  refine own_step (fun t k => XS.iloadN X.here hx rfl (hb hby d1_30) rfl  k) ?_
  show own_Fin p e below s Q 0 0 (T.setTop (mkF m 31 #[.val (.int i0)] [(.int i0)]))
  refine own_step (X.ldcInt hx hown (mvT hZ (hw _ (List.mem_of_getElem? (i := 19) rfl))) (g := (mkF m 31 #[.val (.int i0)] [(.int i0)])) rfl (hb hby d1_31)) ?_
  show own_Fin p e below s Q 0 0 (T.setTop (mkF m 33 #[.val (.int i0)] [(.int (57344 : Int32)), (.int i0)]))
  by_cases hB33_12 : i0 < (57344 : Int32)
  · refine own_step (fun t k => XS.icmpYes X.here hx rfl (pc0 := 33) (pc' := 42) rfl (hb hby d1_33) rfl (tlt hB33_12).1 (by decide) (by decide) k) ?_
    exact b1_42 i0 hw X hx hZ hby hml hown hret hlk eT N (Nat.le_trans (Nat.add_le_add_right hc 0) (by decide)) (Nat.le_trans (Nat.add_le_add_right hs 0) (by decide)) v (hv.trans (if_pos hB33_12)) hQ
  · refine own_step (fun t k => XS.icmpNo X.here hx rfl (hb hby d1_33) rfl (flt hB33_12).1 k) ?_
    exact b1_36 i0 hw X hx hZ hby hml hown hret hlk eT N (Nat.le_trans (Nat.add_le_add_right hc 0) (by decide)) (Nat.le_trans (Nat.add_le_add_right hs 0) (by decide)) v (hv.trans (if_neg hB33_12)) hQ
def f1_24 (i0 : Int32) : Int32 := if (55295 : Int32) < i0 then f1_30 i0 else f1_54 i0
set_option maxRecDepth 65536 in
set_option maxHeartbeats 40000000 in
theorem b1_24 {p : Program} {l : Launch} {e : Env} {s : State} {m : MethodId} {args : Array Value} {below : List Frame} {meth : Method} {c : Code} {T : State} {locs : List Loc} {cells slots : Nat} {Z : State} {a0 : Array Value} {h : Heap} {n0 : Nat} {Q : Option Value → Heap → List Loc → Prop} (i0 : Int32) (hw : ∀ d ∈ tables_1, d.before a0 Z = true) (X : Stand p l e ({ frames := 0, cells := 0, slots := 0, locals := 0 } : Room) s m args below meth c T locs cells slots) (hx : p.tables.exec = Jvm.exec) (hZ : Z.Warmed39 s.vm) (hby : c.code = prog_189_method_7_code) (hml : c.maxLocals = 1) (hown : s.vm.findClass "com/example/caddisfly/caddisfly/template/Text" = some m.cls) (hret : meth.sig.returnType = some .boolean) (hlk : meth.locks = false) (eT : T.heap = h) (N : Fr n0 locs) (hc : cells ≤ 0) (hs : slots ≤ 0) (v : Int32) (hv : v = f1_24 i0) (hQ : ∀ L', Fr n0 L' → Q (some (.int v)) h L') :
    own_Fin p e below s Q 0 0 (T.setTop (mkF m 24 #[.val (.int i0)] [])) := by
  refine own_step (fun t k => XS.iloadN X.here hx rfl (hb hby d1_24) rfl  k) ?_
  show own_Fin p e below s Q 0 0 (T.setTop (mkF m 25 #[.val (.int i0)] [(.int i0)]))
  refine own_step (X.ldcInt hx hown (mvT hZ (hw _ (List.mem_of_getElem? (i := 25) rfl))) (g := (mkF m 25 #[.val (.int i0)] [(.int i0)])) rfl (hb hby d1_25)) ?_
  show own_Fin p e below s Q 0 0 (T.setTop (mkF m 27 #[.val (.int i0)] [(.int (55295 : Int32)), (.int i0)]))
  by_cases hB27_25 : (55295 : Int32) < i0
  · refine own_step (fun t k => XS.icmpNo X.here hx rfl (hb hby d1_27) rfl (tlt hB27_25).2.2.2 k) ?_
    exact b1_30 i0 hw X hx hZ hby hml hown hret hlk eT N (Nat.le_trans (Nat.add_le_add_right hc 0) (by decide)) (Nat.le_trans (Nat.add_le_add_right hs 0) (by decide)) v (hv.trans (if_pos hB27_25)) hQ
  · refine own_step (fun t k => XS.icmpYes X.here hx rfl (pc0 := 27) (pc' := 54) rfl (hb hby d1_27) rfl (flt hB27_25).2.2.2 (by decide) (by decide) k) ?_
    exact b1_54 i0 hw X hx hZ hby hml hown hret hlk eT N (Nat.le_trans (Nat.add_le_add_right hc 0) (by decide)) (Nat.le_trans (Nat.add_le_add_right hs 0) (by decide)) v (hv.trans (if_neg hB27_25)) hQ
def f1_18 (i0 : Int32) : Int32 := if i0 < (32 : Int32) then f1_30 i0 else f1_24 i0
set_option maxRecDepth 65536 in
set_option maxHeartbeats 40000000 in
theorem b1_18 {p : Program} {l : Launch} {e : Env} {s : State} {m : MethodId} {args : Array Value} {below : List Frame} {meth : Method} {c : Code} {T : State} {locs : List Loc} {cells slots : Nat} {Z : State} {a0 : Array Value} {h : Heap} {n0 : Nat} {Q : Option Value → Heap → List Loc → Prop} (i0 : Int32) (hw : ∀ d ∈ tables_1, d.before a0 Z = true) (X : Stand p l e ({ frames := 0, cells := 0, slots := 0, locals := 0 } : Room) s m args below meth c T locs cells slots) (hx : p.tables.exec = Jvm.exec) (hZ : Z.Warmed39 s.vm) (hby : c.code = prog_189_method_7_code) (hml : c.maxLocals = 1) (hown : s.vm.findClass "com/example/caddisfly/caddisfly/template/Text" = some m.cls) (hret : meth.sig.returnType = some .boolean) (hlk : meth.locks = false) (eT : T.heap = h) (N : Fr n0 locs) (hc : cells ≤ 0) (hs : slots ≤ 0) (v : Int32) (hv : v = f1_18 i0) (hQ : ∀ L', Fr n0 L' → Q (some (.int v)) h L') :
    own_Fin p e below s Q 0 0 (T.setTop (mkF m 18 #[.val (.int i0)] [])) := by
  refine own_step (fun t k => XS.iloadN X.here hx rfl (hb hby d1_18) rfl  k) ?_
  show own_Fin p e below s Q 0 0 (T.setTop (mkF m 19 #[.val (.int i0)] [(.int i0)]))
  refine own_step (fun t k => XS.bipush X.here hx rfl (hb hby d1_19) k) ?_
  show own_Fin p e below s Q 0 0 (T.setTop (mkF m 21 #[.val (.int i0)] [(.int (32 : Int32)), (.int i0)]))
  by_cases hB21_10 : i0 < (32 : Int32)
  · refine own_step (fun t k => XS.icmpYes X.here hx rfl (pc0 := 21) (pc' := 30) rfl (hb hby d1_21) rfl (tlt hB21_10).1 (by decide) (by decide) k) ?_
    exact b1_30 i0 hw X hx hZ hby hml hown hret hlk eT N (Nat.le_trans (Nat.add_le_add_right hc 0) (by decide)) (Nat.le_trans (Nat.add_le_add_right hs 0) (by decide)) v (hv.trans (if_pos hB21_10)) hQ
  · refine own_step (fun t k => XS.icmpNo X.here hx rfl (hb hby d1_21) rfl (flt hB21_10).1 k) ?_
    exact b1_24 i0 hw X hx hZ hby hml hown hret hlk eT N (Nat.le_trans (Nat.add_le_add_right hc 0) (by decide)) (Nat.le_trans (Nat.add_le_add_right hs 0) (by decide)) v (hv.trans (if_neg hB21_10)) hQ
def f1_12 (i0 : Int32) : Int32 := if i0 = (13 : Int32) then f1_54 i0 else f1_18 i0
set_option maxRecDepth 65536 in
set_option maxHeartbeats 40000000 in
theorem b1_12 {p : Program} {l : Launch} {e : Env} {s : State} {m : MethodId} {args : Array Value} {below : List Frame} {meth : Method} {c : Code} {T : State} {locs : List Loc} {cells slots : Nat} {Z : State} {a0 : Array Value} {h : Heap} {n0 : Nat} {Q : Option Value → Heap → List Loc → Prop} (i0 : Int32) (hw : ∀ d ∈ tables_1, d.before a0 Z = true) (X : Stand p l e ({ frames := 0, cells := 0, slots := 0, locals := 0 } : Room) s m args below meth c T locs cells slots) (hx : p.tables.exec = Jvm.exec) (hZ : Z.Warmed39 s.vm) (hby : c.code = prog_189_method_7_code) (hml : c.maxLocals = 1) (hown : s.vm.findClass "com/example/caddisfly/caddisfly/template/Text" = some m.cls) (hret : meth.sig.returnType = some .boolean) (hlk : meth.locks = false) (eT : T.heap = h) (N : Fr n0 locs) (hc : cells ≤ 0) (hs : slots ≤ 0) (v : Int32) (hv : v = f1_12 i0) (hQ : ∀ L', Fr n0 L' → Q (some (.int v)) h L') :
    own_Fin p e below s Q 0 0 (T.setTop (mkF m 12 #[.val (.int i0)] [])) := by
  refine own_step (fun t k => XS.iloadN X.here hx rfl (hb hby d1_12) rfl  k) ?_
  show own_Fin p e below s Q 0 0 (T.setTop (mkF m 13 #[.val (.int i0)] [(.int i0)]))
  refine own_step (fun t k => XS.bipush X.here hx rfl (hb hby d1_13) k) ?_
  show own_Fin p e below s Q 0 0 (T.setTop (mkF m 15 #[.val (.int i0)] [(.int (13 : Int32)), (.int i0)]))
  by_cases hB15_7 : i0 = (13 : Int32)
  · refine own_step (fun t k => XS.icmpYes X.here hx rfl (pc0 := 15) (pc' := 54) rfl (hb hby d1_15) rfl (teq hB15_7).1 (by decide) (by decide) k) ?_
    exact b1_54 i0 hw X hx hZ hby hml hown hret hlk eT N (Nat.le_trans (Nat.add_le_add_right hc 0) (by decide)) (Nat.le_trans (Nat.add_le_add_right hs 0) (by decide)) v (hv.trans (if_pos hB15_7)) hQ
  · refine own_step (fun t k => XS.icmpNo X.here hx rfl (hb hby d1_15) rfl (feq hB15_7).1 k) ?_
    exact b1_18 i0 hw X hx hZ hby hml hown hret hlk eT N (Nat.le_trans (Nat.add_le_add_right hc 0) (by decide)) (Nat.le_trans (Nat.add_le_add_right hs 0) (by decide)) v (hv.trans (if_neg hB15_7)) hQ
def f1_6 (i0 : Int32) : Int32 := if i0 = (10 : Int32) then f1_54 i0 else f1_12 i0
set_option maxRecDepth 65536 in
set_option maxHeartbeats 40000000 in
theorem b1_6 {p : Program} {l : Launch} {e : Env} {s : State} {m : MethodId} {args : Array Value} {below : List Frame} {meth : Method} {c : Code} {T : State} {locs : List Loc} {cells slots : Nat} {Z : State} {a0 : Array Value} {h : Heap} {n0 : Nat} {Q : Option Value → Heap → List Loc → Prop} (i0 : Int32) (hw : ∀ d ∈ tables_1, d.before a0 Z = true) (X : Stand p l e ({ frames := 0, cells := 0, slots := 0, locals := 0 } : Room) s m args below meth c T locs cells slots) (hx : p.tables.exec = Jvm.exec) (hZ : Z.Warmed39 s.vm) (hby : c.code = prog_189_method_7_code) (hml : c.maxLocals = 1) (hown : s.vm.findClass "com/example/caddisfly/caddisfly/template/Text" = some m.cls) (hret : meth.sig.returnType = some .boolean) (hlk : meth.locks = false) (eT : T.heap = h) (N : Fr n0 locs) (hc : cells ≤ 0) (hs : slots ≤ 0) (v : Int32) (hv : v = f1_6 i0) (hQ : ∀ L', Fr n0 L' → Q (some (.int v)) h L') :
    own_Fin p e below s Q 0 0 (T.setTop (mkF m 6 #[.val (.int i0)] [])) := by
  refine own_step (fun t k => XS.iloadN X.here hx rfl (hb hby d1_6) rfl  k) ?_
  show own_Fin p e below s Q 0 0 (T.setTop (mkF m 7 #[.val (.int i0)] [(.int i0)]))
  refine own_step (fun t k => XS.bipush X.here hx rfl (hb hby d1_7) k) ?_
  show own_Fin p e below s Q 0 0 (T.setTop (mkF m 9 #[.val (.int i0)] [(.int (10 : Int32)), (.int i0)]))
  by_cases hB9_4 : i0 = (10 : Int32)
  · refine own_step (fun t k => XS.icmpYes X.here hx rfl (pc0 := 9) (pc' := 54) rfl (hb hby d1_9) rfl (teq hB9_4).1 (by decide) (by decide) k) ?_
    exact b1_54 i0 hw X hx hZ hby hml hown hret hlk eT N (Nat.le_trans (Nat.add_le_add_right hc 0) (by decide)) (Nat.le_trans (Nat.add_le_add_right hs 0) (by decide)) v (hv.trans (if_pos hB9_4)) hQ
  · refine own_step (fun t k => XS.icmpNo X.here hx rfl (hb hby d1_9) rfl (feq hB9_4).1 k) ?_
    exact b1_12 i0 hw X hx hZ hby hml hown hret hlk eT N (Nat.le_trans (Nat.add_le_add_right hc 0) (by decide)) (Nat.le_trans (Nat.add_le_add_right hs 0) (by decide)) v (hv.trans (if_neg hB9_4)) hQ
def f1_0 (i0 : Int32) : Int32 := if i0 = (9 : Int32) then f1_54 i0 else f1_6 i0
set_option maxRecDepth 65536 in
set_option maxHeartbeats 40000000 in
theorem b1_0 {p : Program} {l : Launch} {e : Env} {s : State} {m : MethodId} {args : Array Value} {below : List Frame} {meth : Method} {c : Code} {T : State} {locs : List Loc} {cells slots : Nat} {Z : State} {a0 : Array Value} {h : Heap} {n0 : Nat} {Q : Option Value → Heap → List Loc → Prop} (i0 : Int32) (hw : ∀ d ∈ tables_1, d.before a0 Z = true) (X : Stand p l e ({ frames := 0, cells := 0, slots := 0, locals := 0 } : Room) s m args below meth c T locs cells slots) (hx : p.tables.exec = Jvm.exec) (hZ : Z.Warmed39 s.vm) (hby : c.code = prog_189_method_7_code) (hml : c.maxLocals = 1) (hown : s.vm.findClass "com/example/caddisfly/caddisfly/template/Text" = some m.cls) (hret : meth.sig.returnType = some .boolean) (hlk : meth.locks = false) (eT : T.heap = h) (N : Fr n0 locs) (hc : cells ≤ 0) (hs : slots ≤ 0) (v : Int32) (hv : v = f1_0 i0) (hQ : ∀ L', Fr n0 L' → Q (some (.int v)) h L') :
    own_Fin p e below s Q 0 0 (T.setTop (mkF m 0 #[.val (.int i0)] [])) := by
  refine own_step (fun t k => XS.iloadN X.here hx rfl (hb hby d1_0) rfl  k) ?_
  show own_Fin p e below s Q 0 0 (T.setTop (mkF m 1 #[.val (.int i0)] [(.int i0)]))
  refine own_step (fun t k => XS.bipush X.here hx rfl (hb hby d1_1) k) ?_
  show own_Fin p e below s Q 0 0 (T.setTop (mkF m 3 #[.val (.int i0)] [(.int (9 : Int32)), (.int i0)]))
  by_cases hB3_1 : i0 = (9 : Int32)
  · refine own_step (fun t k => XS.icmpYes X.here hx rfl (pc0 := 3) (pc' := 54) rfl (hb hby d1_3) rfl (teq hB3_1).1 (by decide) (by decide) k) ?_
    exact b1_54 i0 hw X hx hZ hby hml hown hret hlk eT N (Nat.le_trans (Nat.add_le_add_right hc 0) (by decide)) (Nat.le_trans (Nat.add_le_add_right hs 0) (by decide)) v (hv.trans (if_pos hB3_1)) hQ
  · refine own_step (fun t k => XS.icmpNo X.here hx rfl (hb hby d1_3) rfl (feq hB3_1).1 k) ?_
    exact b1_6 i0 hw X hx hZ hby hml hown hret hlk eT N (Nat.le_trans (Nat.add_le_add_right hc 0) (by decide)) (Nat.le_trans (Nat.add_le_add_right hs 0) (by decide)) v (hv.trans (if_neg hB3_1)) hQ
theorem pnm_0 : plainName "com/example/caddisfly/caddisfly/template/Text" = true := by first | (simp [plainName, overriddenIn]; done) | decide +kernel
theorem pdm_0 : parseMethodDescriptor "(I)Z" = some ⟨[.int], some .boolean⟩ := by decide +kernel
theorem ef_1 (m : MethodId) (i0 : Int32) : entryFrame m #[(.int i0)] 1 = (mkF m 0 #[.val (.int i0)] []) := by first | (simp [entryFrame, mkF, argsToLocals, Value.category]; done) | rfl
def Q1 (i0 : Int32) (h0 : Heap) (n0 : Nat) (v : Option Value) (h : Heap) (L : List Loc) : Prop := v = some (.int (f1_0 i0)) ∧ Fr n0 L ∧ h = h0
set_option maxRecDepth 65536 in
set_option maxHeartbeats 4000000 in
theorem rm1 (l : Launch) (Z : State) (a0 : Array Value) (hw : ∀ d ∈ tables_1, d.before a0 Z = true) (ws : List Jvm.Cond) (i0 : Int32) (h0 : Heap) (n0 : Nat) :
    MetFree l (⟨"com/example/caddisfly/caddisfly/template/Text", "isXmlChar", "(I)Z"⟩ : MethodName) (head1 (Jvm.Cond.code (⟨"com/example/caddisfly/caddisfly/template/Text", "isXmlChar", "(I)Z"⟩ : MethodName) prog_189_method_7_code 1 (some .boolean) :: ws) ({ frames := 0, cells := 0, slots := 0, locals := 0 } : Room)) (fun a U => a = #[(.int i0)] ∧ Z.Warmed39 U.vm ∧ U.heap = h0) (fun _ _ _ _ _ => True) (fun _ U o U' => ∃ v L, o = .returned v ∧ Q1 i0 h0 n0 v U'.heap L ∧ FrameEnd U o U' L ({ frames := 0, cells := 0, slots := 0, locals := 0 } : Room).cells ({ frames := 0, cells := 0, slots := 0, locals := 0 } : Room).slots) := by
  refine MetFree.of_bodySF (plainFor_of_name pnm_0) hisR ?_
  intro p e s m args below meth c s₁ Bd hml0 hP hK
  obtain ⟨rfl, hZ, hh⟩ := hP
  have hx := Bd.exec
  have hby := Bd.bytes
  have hml : c.maxLocals = 1 := hml0
  have hown : s.vm.findClass "com/example/caddisfly/caddisfly/template/Text" = some m.cls := findClass_of_methodNamed Bd.named
  have X0 : Stand p l e ({ frames := 0, cells := 0, slots := 0, locals := 0 } : Room) s m #[(.int i0)] below meth c s₁ [] 0 0 := Stand.of_body Bd
  have e0 : s₁.heap = h0 := by rw [← hh, Bd.state]; rfl
  have fin := b1_0 i0 (Q := Q1 i0 h0 n0) hw X0 hx hZ hby hml hown Bd.returns (BodyLoose.notSynchronized Bd) e0 (Fr.nil n0) (Nat.zero_le _) (Nat.zero_le _) _ rfl (fun L' n' => ⟨rfl, n', rfl⟩)
  exact own_step (fun t k => castTop (ef_1 m i0) k) fin
theorem d2_0 : decode method_2_code 0 = .ok (.iload_n 0, 1) := by decide +kernel
theorem d2_1 : decode method_2_code 1 = .ok (.bipush 32, 2) := by decide +kernel
theorem d2_3 : decode method_2_code 3 = .ok (.if_icmp .ge 27, 3) := by decide +kernel
theorem d2_6 : decode method_2_code 6 = .ok (.iload_n 0, 1) := by decide +kernel
theorem d2_7 : decode method_2_code 7 = .ok (.bipush 9, 2) := by decide +kernel
theorem d2_9 : decode method_2_code 9 = .ok (.if_icmp .eq 15, 3) := by decide +kernel
theorem d2_12 : decode method_2_code 12 = .ok (.iload_n 0, 1) := by decide +kernel
theorem d2_13 : decode method_2_code 13 = .ok (.bipush 10, 2) := by decide +kernel
theorem d2_15 : decode method_2_code 15 = .ok (.if_icmp .eq 9, 3) := by decide +kernel
theorem d2_18 : decode method_2_code 18 = .ok (.iload_n 0, 1) := by decide +kernel
theorem d2_19 : decode method_2_code 19 = .ok (.bipush 13, 2) := by decide +kernel
theorem d2_21 : decode method_2_code 21 = .ok (.if_icmp .ne 7, 3) := by decide +kernel
theorem d2_24 : decode method_2_code 24 = .ok (.iconst 1, 1) := by decide +kernel
theorem d2_25 : decode method_2_code 25 = .ok (.goto 4, 3) := by decide +kernel
theorem d2_28 : decode method_2_code 28 = .ok (.iconst 0, 1) := by decide +kernel
theorem d2_29 : decode method_2_code 29 = .ok (.ireturn, 1) := by decide +kernel
theorem d2_30 : decode method_2_code 30 = .ok (.iload_n 0, 1) := by decide +kernel
theorem d2_31 : decode method_2_code 31 = .ok (.ldc 7, 2) := by decide +kernel
theorem d2_33 : decode method_2_code 33 = .ok (.if_icmp .ge 5, 3) := by decide +kernel
theorem d2_36 : decode method_2_code 36 = .ok (.iconst 1, 1) := by decide +kernel
theorem d2_37 : decode method_2_code 37 = .ok (.ireturn, 1) := by decide +kernel
theorem d2_38 : decode method_2_code 38 = .ok (.iload_n 0, 1) := by decide +kernel
theorem d2_39 : decode method_2_code 39 = .ok (.ldc 8, 2) := by decide +kernel
theorem d2_41 : decode method_2_code 41 = .ok (.if_icmp .ge 5, 3) := by decide +kernel
theorem d2_44 : decode method_2_code 44 = .ok (.iconst 0, 1) := by decide +kernel
theorem d2_45 : decode method_2_code 45 = .ok (.ireturn, 1) := by decide +kernel
theorem d2_46 : decode method_2_code 46 = .ok (.iload_n 0, 1) := by decide +kernel
theorem d2_47 : decode method_2_code 47 = .ok (.ldc 9, 2) := by decide +kernel
theorem d2_49 : decode method_2_code 49 = .ok (.if_icmp .ge 5, 3) := by decide +kernel
theorem d2_52 : decode method_2_code 52 = .ok (.iconst 1, 1) := by decide +kernel
theorem d2_53 : decode method_2_code 53 = .ok (.ireturn, 1) := by decide +kernel
theorem d2_54 : decode method_2_code 54 = .ok (.iload_n 0, 1) := by decide +kernel
theorem d2_55 : decode method_2_code 55 = .ok (.ldc 10, 2) := by decide +kernel
theorem d2_57 : decode method_2_code 57 = .ok (.if_icmp .ge 5, 3) := by decide +kernel
theorem d2_60 : decode method_2_code 60 = .ok (.iconst 0, 1) := by decide +kernel
theorem d2_61 : decode method_2_code 61 = .ok (.ireturn, 1) := by decide +kernel
theorem d2_62 : decode method_2_code 62 = .ok (.iload_n 0, 1) := by decide +kernel
theorem d2_63 : decode method_2_code 63 = .ok (.ldc 11, 2) := by decide +kernel
theorem d2_65 : decode method_2_code 65 = .ok (.if_icmp .ge 7, 3) := by decide +kernel
theorem d2_68 : decode method_2_code 68 = .ok (.iconst 1, 1) := by decide +kernel
theorem d2_69 : decode method_2_code 69 = .ok (.goto 4, 3) := by decide +kernel
theorem d2_72 : decode method_2_code 72 = .ok (.iconst 0, 1) := by decide +kernel
theorem d2_73 : decode method_2_code 73 = .ok (.ireturn, 1) := by decide +kernel
def f2_29 (i0 : Int32) (is0 : Int32) : Int32 := (nar .boolean is0)
set_option maxRecDepth 65536 in
set_option maxHeartbeats 40000000 in
theorem b2_29 {p : Program} {l : Launch} {e : Env} {s : State} {m : MethodId} {args : Array Value} {below : List Frame} {meth : Method} {c : Code} {T : State} {locs : List Loc} {cells slots : Nat} {Z : State} {a0 : Array Value} {h : Heap} {n0 : Nat} {Q : Option Value → Heap → List Loc → Prop} (i0 : Int32) (is0 : Int32) (hw : ∀ d ∈ tables_1, d.before a0 Z = true) (X : Stand p l e ({ frames := 0, cells := 0, slots := 0, locals := 0 } : Room) s m args below meth c T locs cells slots) (hx : p.tables.exec = Jvm.exec) (hZ : Z.Warmed39 s.vm) (hby : c.code = method_2_code) (hml : c.maxLocals = 1) (hown : s.vm.findClass "com/example/caddisfly/caddisfly/template/TextIsXmlCharPinLaw" = some m.cls) (hret : meth.sig.returnType = some .boolean) (hlk : meth.locks = false) (eT : T.heap = h) (N : Fr n0 locs) (hc : cells ≤ 0) (hs : slots ≤ 0) (v : Int32) (hv : v = f2_29 i0 is0) (hQ : ∀ L', Fr n0 L' → Q (some (.int v)) h L') :
    own_Fin p e below s Q 0 0 (T.setTop (mkF m 29 #[.val (.int i0)] [(.int is0)])) := by
  exact own_retN X hx hlk hret (by simp) (hb hby d2_29) (Nat.le_trans (Nat.add_le_add_right hc 0) (by decide)) (Nat.le_trans (Nat.add_le_add_right hs 0) (by decide)) eT N hQ (hv)
def f2_24 (i0 : Int32) : Int32 := f2_29 i0 (1 : Int32)
set_option maxRecDepth 65536 in
set_option maxHeartbeats 40000000 in
theorem b2_24 {p : Program} {l : Launch} {e : Env} {s : State} {m : MethodId} {args : Array Value} {below : List Frame} {meth : Method} {c : Code} {T : State} {locs : List Loc} {cells slots : Nat} {Z : State} {a0 : Array Value} {h : Heap} {n0 : Nat} {Q : Option Value → Heap → List Loc → Prop} (i0 : Int32) (hw : ∀ d ∈ tables_1, d.before a0 Z = true) (X : Stand p l e ({ frames := 0, cells := 0, slots := 0, locals := 0 } : Room) s m args below meth c T locs cells slots) (hx : p.tables.exec = Jvm.exec) (hZ : Z.Warmed39 s.vm) (hby : c.code = method_2_code) (hml : c.maxLocals = 1) (hown : s.vm.findClass "com/example/caddisfly/caddisfly/template/TextIsXmlCharPinLaw" = some m.cls) (hret : meth.sig.returnType = some .boolean) (hlk : meth.locks = false) (eT : T.heap = h) (N : Fr n0 locs) (hc : cells ≤ 0) (hs : slots ≤ 0) (v : Int32) (hv : v = f2_24 i0) (hQ : ∀ L', Fr n0 L' → Q (some (.int v)) h L') :
    own_Fin p e below s Q 0 0 (T.setTop (mkF m 24 #[.val (.int i0)] [])) := by
  refine own_step (fun t k => XS.iconst X.here hx rfl (hb hby d2_24) k) ?_
  show own_Fin p e below s Q 0 0 (T.setTop (mkF m 25 #[.val (.int i0)] [(.int (1 : Int32))]))
  refine own_step (fun t k => XS.goto X.here hx rfl (pc0 := 25) (pc' := 29) rfl (hb hby d2_25) (by decide) (by decide) k) ?_
  exact b2_29 i0 (1 : Int32) hw X hx hZ hby hml hown hret hlk eT N (Nat.le_trans (Nat.add_le_add_right hc 0) (by decide)) (Nat.le_trans (Nat.add_le_add_right hs 0) (by decide)) v (hv) hQ
def f2_28 (i0 : Int32) : Int32 := f2_29 i0 (0 : Int32)
set_option maxRecDepth 65536 in
set_option maxHeartbeats 40000000 in
theorem b2_28 {p : Program} {l : Launch} {e : Env} {s : State} {m : MethodId} {args : Array Value} {below : List Frame} {meth : Method} {c : Code} {T : State} {locs : List Loc} {cells slots : Nat} {Z : State} {a0 : Array Value} {h : Heap} {n0 : Nat} {Q : Option Value → Heap → List Loc → Prop} (i0 : Int32) (hw : ∀ d ∈ tables_1, d.before a0 Z = true) (X : Stand p l e ({ frames := 0, cells := 0, slots := 0, locals := 0 } : Room) s m args below meth c T locs cells slots) (hx : p.tables.exec = Jvm.exec) (hZ : Z.Warmed39 s.vm) (hby : c.code = method_2_code) (hml : c.maxLocals = 1) (hown : s.vm.findClass "com/example/caddisfly/caddisfly/template/TextIsXmlCharPinLaw" = some m.cls) (hret : meth.sig.returnType = some .boolean) (hlk : meth.locks = false) (eT : T.heap = h) (N : Fr n0 locs) (hc : cells ≤ 0) (hs : slots ≤ 0) (v : Int32) (hv : v = f2_28 i0) (hQ : ∀ L', Fr n0 L' → Q (some (.int v)) h L') :
    own_Fin p e below s Q 0 0 (T.setTop (mkF m 28 #[.val (.int i0)] [])) := by
  refine own_step (fun t k => XS.iconst X.here hx rfl (hb hby d2_28) k) ?_
  exact b2_29 i0 (0 : Int32) hw X hx hZ hby hml hown hret hlk eT N (Nat.le_trans (Nat.add_le_add_right hc 0) (by decide)) (Nat.le_trans (Nat.add_le_add_right hs 0) (by decide)) v (hv) hQ
def f2_18 (i0 : Int32) : Int32 := if i0 = (13 : Int32) then f2_24 i0 else f2_28 i0
set_option maxRecDepth 65536 in
set_option maxHeartbeats 40000000 in
theorem b2_18 {p : Program} {l : Launch} {e : Env} {s : State} {m : MethodId} {args : Array Value} {below : List Frame} {meth : Method} {c : Code} {T : State} {locs : List Loc} {cells slots : Nat} {Z : State} {a0 : Array Value} {h : Heap} {n0 : Nat} {Q : Option Value → Heap → List Loc → Prop} (i0 : Int32) (hw : ∀ d ∈ tables_1, d.before a0 Z = true) (X : Stand p l e ({ frames := 0, cells := 0, slots := 0, locals := 0 } : Room) s m args below meth c T locs cells slots) (hx : p.tables.exec = Jvm.exec) (hZ : Z.Warmed39 s.vm) (hby : c.code = method_2_code) (hml : c.maxLocals = 1) (hown : s.vm.findClass "com/example/caddisfly/caddisfly/template/TextIsXmlCharPinLaw" = some m.cls) (hret : meth.sig.returnType = some .boolean) (hlk : meth.locks = false) (eT : T.heap = h) (N : Fr n0 locs) (hc : cells ≤ 0) (hs : slots ≤ 0) (v : Int32) (hv : v = f2_18 i0) (hQ : ∀ L', Fr n0 L' → Q (some (.int v)) h L') :
    own_Fin p e below s Q 0 0 (T.setTop (mkF m 18 #[.val (.int i0)] [])) := by
  refine own_step (fun t k => XS.iloadN X.here hx rfl (hb hby d2_18) rfl  k) ?_
  show own_Fin p e below s Q 0 0 (T.setTop (mkF m 19 #[.val (.int i0)] [(.int i0)]))
  refine own_step (fun t k => XS.bipush X.here hx rfl (hb hby d2_19) k) ?_
  show own_Fin p e below s Q 0 0 (T.setTop (mkF m 21 #[.val (.int i0)] [(.int (13 : Int32)), (.int i0)]))
  by_cases hB21_36 : i0 = (13 : Int32)
  · refine own_step (fun t k => XS.icmpNo X.here hx rfl (hb hby d2_21) rfl (teq hB21_36).2 k) ?_
    exact b2_24 i0 hw X hx hZ hby hml hown hret hlk eT N (Nat.le_trans (Nat.add_le_add_right hc 0) (by decide)) (Nat.le_trans (Nat.add_le_add_right hs 0) (by decide)) v (hv.trans (if_pos hB21_36)) hQ
  · refine own_step (fun t k => XS.icmpYes X.here hx rfl (pc0 := 21) (pc' := 28) rfl (hb hby d2_21) rfl (feq hB21_36).2 (by decide) (by decide) k) ?_
    exact b2_28 i0 hw X hx hZ hby hml hown hret hlk eT N (Nat.le_trans (Nat.add_le_add_right hc 0) (by decide)) (Nat.le_trans (Nat.add_le_add_right hs 0) (by decide)) v (hv.trans (if_neg hB21_36)) hQ
def f2_12 (i0 : Int32) : Int32 := if i0 = (10 : Int32) then f2_24 i0 else f2_18 i0
set_option maxRecDepth 65536 in
set_option maxHeartbeats 40000000 in
theorem b2_12 {p : Program} {l : Launch} {e : Env} {s : State} {m : MethodId} {args : Array Value} {below : List Frame} {meth : Method} {c : Code} {T : State} {locs : List Loc} {cells slots : Nat} {Z : State} {a0 : Array Value} {h : Heap} {n0 : Nat} {Q : Option Value → Heap → List Loc → Prop} (i0 : Int32) (hw : ∀ d ∈ tables_1, d.before a0 Z = true) (X : Stand p l e ({ frames := 0, cells := 0, slots := 0, locals := 0 } : Room) s m args below meth c T locs cells slots) (hx : p.tables.exec = Jvm.exec) (hZ : Z.Warmed39 s.vm) (hby : c.code = method_2_code) (hml : c.maxLocals = 1) (hown : s.vm.findClass "com/example/caddisfly/caddisfly/template/TextIsXmlCharPinLaw" = some m.cls) (hret : meth.sig.returnType = some .boolean) (hlk : meth.locks = false) (eT : T.heap = h) (N : Fr n0 locs) (hc : cells ≤ 0) (hs : slots ≤ 0) (v : Int32) (hv : v = f2_12 i0) (hQ : ∀ L', Fr n0 L' → Q (some (.int v)) h L') :
    own_Fin p e below s Q 0 0 (T.setTop (mkF m 12 #[.val (.int i0)] [])) := by
  refine own_step (fun t k => XS.iloadN X.here hx rfl (hb hby d2_12) rfl  k) ?_
  show own_Fin p e below s Q 0 0 (T.setTop (mkF m 13 #[.val (.int i0)] [(.int i0)]))
  refine own_step (fun t k => XS.bipush X.here hx rfl (hb hby d2_13) k) ?_
  show own_Fin p e below s Q 0 0 (T.setTop (mkF m 15 #[.val (.int i0)] [(.int (10 : Int32)), (.int i0)]))
  by_cases hB15_33 : i0 = (10 : Int32)
  · refine own_step (fun t k => XS.icmpYes X.here hx rfl (pc0 := 15) (pc' := 24) rfl (hb hby d2_15) rfl (teq hB15_33).1 (by decide) (by decide) k) ?_
    exact b2_24 i0 hw X hx hZ hby hml hown hret hlk eT N (Nat.le_trans (Nat.add_le_add_right hc 0) (by decide)) (Nat.le_trans (Nat.add_le_add_right hs 0) (by decide)) v (hv.trans (if_pos hB15_33)) hQ
  · refine own_step (fun t k => XS.icmpNo X.here hx rfl (hb hby d2_15) rfl (feq hB15_33).1 k) ?_
    exact b2_18 i0 hw X hx hZ hby hml hown hret hlk eT N (Nat.le_trans (Nat.add_le_add_right hc 0) (by decide)) (Nat.le_trans (Nat.add_le_add_right hs 0) (by decide)) v (hv.trans (if_neg hB15_33)) hQ
def f2_6 (i0 : Int32) : Int32 := if i0 = (9 : Int32) then f2_24 i0 else f2_12 i0
set_option maxRecDepth 65536 in
set_option maxHeartbeats 40000000 in
theorem b2_6 {p : Program} {l : Launch} {e : Env} {s : State} {m : MethodId} {args : Array Value} {below : List Frame} {meth : Method} {c : Code} {T : State} {locs : List Loc} {cells slots : Nat} {Z : State} {a0 : Array Value} {h : Heap} {n0 : Nat} {Q : Option Value → Heap → List Loc → Prop} (i0 : Int32) (hw : ∀ d ∈ tables_1, d.before a0 Z = true) (X : Stand p l e ({ frames := 0, cells := 0, slots := 0, locals := 0 } : Room) s m args below meth c T locs cells slots) (hx : p.tables.exec = Jvm.exec) (hZ : Z.Warmed39 s.vm) (hby : c.code = method_2_code) (hml : c.maxLocals = 1) (hown : s.vm.findClass "com/example/caddisfly/caddisfly/template/TextIsXmlCharPinLaw" = some m.cls) (hret : meth.sig.returnType = some .boolean) (hlk : meth.locks = false) (eT : T.heap = h) (N : Fr n0 locs) (hc : cells ≤ 0) (hs : slots ≤ 0) (v : Int32) (hv : v = f2_6 i0) (hQ : ∀ L', Fr n0 L' → Q (some (.int v)) h L') :
    own_Fin p e below s Q 0 0 (T.setTop (mkF m 6 #[.val (.int i0)] [])) := by
  refine own_step (fun t k => XS.iloadN X.here hx rfl (hb hby d2_6) rfl  k) ?_
  show own_Fin p e below s Q 0 0 (T.setTop (mkF m 7 #[.val (.int i0)] [(.int i0)]))
  refine own_step (fun t k => XS.bipush X.here hx rfl (hb hby d2_7) k) ?_
  show own_Fin p e below s Q 0 0 (T.setTop (mkF m 9 #[.val (.int i0)] [(.int (9 : Int32)), (.int i0)]))
  by_cases hB9_30 : i0 = (9 : Int32)
  · refine own_step (fun t k => XS.icmpYes X.here hx rfl (pc0 := 9) (pc' := 24) rfl (hb hby d2_9) rfl (teq hB9_30).1 (by decide) (by decide) k) ?_
    exact b2_24 i0 hw X hx hZ hby hml hown hret hlk eT N (Nat.le_trans (Nat.add_le_add_right hc 0) (by decide)) (Nat.le_trans (Nat.add_le_add_right hs 0) (by decide)) v (hv.trans (if_pos hB9_30)) hQ
  · refine own_step (fun t k => XS.icmpNo X.here hx rfl (hb hby d2_9) rfl (feq hB9_30).1 k) ?_
    exact b2_12 i0 hw X hx hZ hby hml hown hret hlk eT N (Nat.le_trans (Nat.add_le_add_right hc 0) (by decide)) (Nat.le_trans (Nat.add_le_add_right hs 0) (by decide)) v (hv.trans (if_neg hB9_30)) hQ
def f2_36 (i0 : Int32) : Int32 := (1 : Int32)
set_option maxRecDepth 65536 in
set_option maxHeartbeats 40000000 in
theorem b2_36 {p : Program} {l : Launch} {e : Env} {s : State} {m : MethodId} {args : Array Value} {below : List Frame} {meth : Method} {c : Code} {T : State} {locs : List Loc} {cells slots : Nat} {Z : State} {a0 : Array Value} {h : Heap} {n0 : Nat} {Q : Option Value → Heap → List Loc → Prop} (i0 : Int32) (hw : ∀ d ∈ tables_1, d.before a0 Z = true) (X : Stand p l e ({ frames := 0, cells := 0, slots := 0, locals := 0 } : Room) s m args below meth c T locs cells slots) (hx : p.tables.exec = Jvm.exec) (hZ : Z.Warmed39 s.vm) (hby : c.code = method_2_code) (hml : c.maxLocals = 1) (hown : s.vm.findClass "com/example/caddisfly/caddisfly/template/TextIsXmlCharPinLaw" = some m.cls) (hret : meth.sig.returnType = some .boolean) (hlk : meth.locks = false) (eT : T.heap = h) (N : Fr n0 locs) (hc : cells ≤ 0) (hs : slots ≤ 0) (v : Int32) (hv : v = f2_36 i0) (hQ : ∀ L', Fr n0 L' → Q (some (.int v)) h L') :
    own_Fin p e below s Q 0 0 (T.setTop (mkF m 36 #[.val (.int i0)] [])) := by
  refine own_step (fun t k => XS.iconst X.here hx rfl (hb hby d2_36) k) ?_
  show own_Fin p e below s Q 0 0 (T.setTop (mkF m 37 #[.val (.int i0)] [(.int (1 : Int32))]))
  exact own_retN X hx hlk hret (by simp) (hb hby d2_37) (Nat.le_trans (Nat.add_le_add_right hc 0) (by decide)) (Nat.le_trans (Nat.add_le_add_right hs 0) (by decide)) eT N hQ (hv)
def f2_44 (i0 : Int32) : Int32 := (0 : Int32)
set_option maxRecDepth 65536 in
set_option maxHeartbeats 40000000 in
theorem b2_44 {p : Program} {l : Launch} {e : Env} {s : State} {m : MethodId} {args : Array Value} {below : List Frame} {meth : Method} {c : Code} {T : State} {locs : List Loc} {cells slots : Nat} {Z : State} {a0 : Array Value} {h : Heap} {n0 : Nat} {Q : Option Value → Heap → List Loc → Prop} (i0 : Int32) (hw : ∀ d ∈ tables_1, d.before a0 Z = true) (X : Stand p l e ({ frames := 0, cells := 0, slots := 0, locals := 0 } : Room) s m args below meth c T locs cells slots) (hx : p.tables.exec = Jvm.exec) (hZ : Z.Warmed39 s.vm) (hby : c.code = method_2_code) (hml : c.maxLocals = 1) (hown : s.vm.findClass "com/example/caddisfly/caddisfly/template/TextIsXmlCharPinLaw" = some m.cls) (hret : meth.sig.returnType = some .boolean) (hlk : meth.locks = false) (eT : T.heap = h) (N : Fr n0 locs) (hc : cells ≤ 0) (hs : slots ≤ 0) (v : Int32) (hv : v = f2_44 i0) (hQ : ∀ L', Fr n0 L' → Q (some (.int v)) h L') :
    own_Fin p e below s Q 0 0 (T.setTop (mkF m 44 #[.val (.int i0)] [])) := by
  refine own_step (fun t k => XS.iconst X.here hx rfl (hb hby d2_44) k) ?_
  show own_Fin p e below s Q 0 0 (T.setTop (mkF m 45 #[.val (.int i0)] [(.int (0 : Int32))]))
  exact own_retN X hx hlk hret (by simp) (hb hby d2_45) (Nat.le_trans (Nat.add_le_add_right hc 0) (by decide)) (Nat.le_trans (Nat.add_le_add_right hs 0) (by decide)) eT N hQ (hv)
def f2_52 (i0 : Int32) : Int32 := (1 : Int32)
set_option maxRecDepth 65536 in
set_option maxHeartbeats 40000000 in
theorem b2_52 {p : Program} {l : Launch} {e : Env} {s : State} {m : MethodId} {args : Array Value} {below : List Frame} {meth : Method} {c : Code} {T : State} {locs : List Loc} {cells slots : Nat} {Z : State} {a0 : Array Value} {h : Heap} {n0 : Nat} {Q : Option Value → Heap → List Loc → Prop} (i0 : Int32) (hw : ∀ d ∈ tables_1, d.before a0 Z = true) (X : Stand p l e ({ frames := 0, cells := 0, slots := 0, locals := 0 } : Room) s m args below meth c T locs cells slots) (hx : p.tables.exec = Jvm.exec) (hZ : Z.Warmed39 s.vm) (hby : c.code = method_2_code) (hml : c.maxLocals = 1) (hown : s.vm.findClass "com/example/caddisfly/caddisfly/template/TextIsXmlCharPinLaw" = some m.cls) (hret : meth.sig.returnType = some .boolean) (hlk : meth.locks = false) (eT : T.heap = h) (N : Fr n0 locs) (hc : cells ≤ 0) (hs : slots ≤ 0) (v : Int32) (hv : v = f2_52 i0) (hQ : ∀ L', Fr n0 L' → Q (some (.int v)) h L') :
    own_Fin p e below s Q 0 0 (T.setTop (mkF m 52 #[.val (.int i0)] [])) := by
  refine own_step (fun t k => XS.iconst X.here hx rfl (hb hby d2_52) k) ?_
  show own_Fin p e below s Q 0 0 (T.setTop (mkF m 53 #[.val (.int i0)] [(.int (1 : Int32))]))
  exact own_retN X hx hlk hret (by simp) (hb hby d2_53) (Nat.le_trans (Nat.add_le_add_right hc 0) (by decide)) (Nat.le_trans (Nat.add_le_add_right hs 0) (by decide)) eT N hQ (hv)
def f2_60 (i0 : Int32) : Int32 := (0 : Int32)
set_option maxRecDepth 65536 in
set_option maxHeartbeats 40000000 in
theorem b2_60 {p : Program} {l : Launch} {e : Env} {s : State} {m : MethodId} {args : Array Value} {below : List Frame} {meth : Method} {c : Code} {T : State} {locs : List Loc} {cells slots : Nat} {Z : State} {a0 : Array Value} {h : Heap} {n0 : Nat} {Q : Option Value → Heap → List Loc → Prop} (i0 : Int32) (hw : ∀ d ∈ tables_1, d.before a0 Z = true) (X : Stand p l e ({ frames := 0, cells := 0, slots := 0, locals := 0 } : Room) s m args below meth c T locs cells slots) (hx : p.tables.exec = Jvm.exec) (hZ : Z.Warmed39 s.vm) (hby : c.code = method_2_code) (hml : c.maxLocals = 1) (hown : s.vm.findClass "com/example/caddisfly/caddisfly/template/TextIsXmlCharPinLaw" = some m.cls) (hret : meth.sig.returnType = some .boolean) (hlk : meth.locks = false) (eT : T.heap = h) (N : Fr n0 locs) (hc : cells ≤ 0) (hs : slots ≤ 0) (v : Int32) (hv : v = f2_60 i0) (hQ : ∀ L', Fr n0 L' → Q (some (.int v)) h L') :
    own_Fin p e below s Q 0 0 (T.setTop (mkF m 60 #[.val (.int i0)] [])) := by
  refine own_step (fun t k => XS.iconst X.here hx rfl (hb hby d2_60) k) ?_
  show own_Fin p e below s Q 0 0 (T.setTop (mkF m 61 #[.val (.int i0)] [(.int (0 : Int32))]))
  exact own_retN X hx hlk hret (by simp) (hb hby d2_61) (Nat.le_trans (Nat.add_le_add_right hc 0) (by decide)) (Nat.le_trans (Nat.add_le_add_right hs 0) (by decide)) eT N hQ (hv)
def f2_73 (i0 : Int32) (is0 : Int32) : Int32 := (nar .boolean is0)
set_option maxRecDepth 65536 in
set_option maxHeartbeats 40000000 in
theorem b2_73 {p : Program} {l : Launch} {e : Env} {s : State} {m : MethodId} {args : Array Value} {below : List Frame} {meth : Method} {c : Code} {T : State} {locs : List Loc} {cells slots : Nat} {Z : State} {a0 : Array Value} {h : Heap} {n0 : Nat} {Q : Option Value → Heap → List Loc → Prop} (i0 : Int32) (is0 : Int32) (hw : ∀ d ∈ tables_1, d.before a0 Z = true) (X : Stand p l e ({ frames := 0, cells := 0, slots := 0, locals := 0 } : Room) s m args below meth c T locs cells slots) (hx : p.tables.exec = Jvm.exec) (hZ : Z.Warmed39 s.vm) (hby : c.code = method_2_code) (hml : c.maxLocals = 1) (hown : s.vm.findClass "com/example/caddisfly/caddisfly/template/TextIsXmlCharPinLaw" = some m.cls) (hret : meth.sig.returnType = some .boolean) (hlk : meth.locks = false) (eT : T.heap = h) (N : Fr n0 locs) (hc : cells ≤ 0) (hs : slots ≤ 0) (v : Int32) (hv : v = f2_73 i0 is0) (hQ : ∀ L', Fr n0 L' → Q (some (.int v)) h L') :
    own_Fin p e below s Q 0 0 (T.setTop (mkF m 73 #[.val (.int i0)] [(.int is0)])) := by
  exact own_retN X hx hlk hret (by simp) (hb hby d2_73) (Nat.le_trans (Nat.add_le_add_right hc 0) (by decide)) (Nat.le_trans (Nat.add_le_add_right hs 0) (by decide)) eT N hQ (hv)
def f2_68 (i0 : Int32) : Int32 := f2_73 i0 (1 : Int32)
set_option maxRecDepth 65536 in
set_option maxHeartbeats 40000000 in
theorem b2_68 {p : Program} {l : Launch} {e : Env} {s : State} {m : MethodId} {args : Array Value} {below : List Frame} {meth : Method} {c : Code} {T : State} {locs : List Loc} {cells slots : Nat} {Z : State} {a0 : Array Value} {h : Heap} {n0 : Nat} {Q : Option Value → Heap → List Loc → Prop} (i0 : Int32) (hw : ∀ d ∈ tables_1, d.before a0 Z = true) (X : Stand p l e ({ frames := 0, cells := 0, slots := 0, locals := 0 } : Room) s m args below meth c T locs cells slots) (hx : p.tables.exec = Jvm.exec) (hZ : Z.Warmed39 s.vm) (hby : c.code = method_2_code) (hml : c.maxLocals = 1) (hown : s.vm.findClass "com/example/caddisfly/caddisfly/template/TextIsXmlCharPinLaw" = some m.cls) (hret : meth.sig.returnType = some .boolean) (hlk : meth.locks = false) (eT : T.heap = h) (N : Fr n0 locs) (hc : cells ≤ 0) (hs : slots ≤ 0) (v : Int32) (hv : v = f2_68 i0) (hQ : ∀ L', Fr n0 L' → Q (some (.int v)) h L') :
    own_Fin p e below s Q 0 0 (T.setTop (mkF m 68 #[.val (.int i0)] [])) := by
  refine own_step (fun t k => XS.iconst X.here hx rfl (hb hby d2_68) k) ?_
  show own_Fin p e below s Q 0 0 (T.setTop (mkF m 69 #[.val (.int i0)] [(.int (1 : Int32))]))
  refine own_step (fun t k => XS.goto X.here hx rfl (pc0 := 69) (pc' := 73) rfl (hb hby d2_69) (by decide) (by decide) k) ?_
  exact b2_73 i0 (1 : Int32) hw X hx hZ hby hml hown hret hlk eT N (Nat.le_trans (Nat.add_le_add_right hc 0) (by decide)) (Nat.le_trans (Nat.add_le_add_right hs 0) (by decide)) v (hv) hQ
def f2_72 (i0 : Int32) : Int32 := f2_73 i0 (0 : Int32)
set_option maxRecDepth 65536 in
set_option maxHeartbeats 40000000 in
theorem b2_72 {p : Program} {l : Launch} {e : Env} {s : State} {m : MethodId} {args : Array Value} {below : List Frame} {meth : Method} {c : Code} {T : State} {locs : List Loc} {cells slots : Nat} {Z : State} {a0 : Array Value} {h : Heap} {n0 : Nat} {Q : Option Value → Heap → List Loc → Prop} (i0 : Int32) (hw : ∀ d ∈ tables_1, d.before a0 Z = true) (X : Stand p l e ({ frames := 0, cells := 0, slots := 0, locals := 0 } : Room) s m args below meth c T locs cells slots) (hx : p.tables.exec = Jvm.exec) (hZ : Z.Warmed39 s.vm) (hby : c.code = method_2_code) (hml : c.maxLocals = 1) (hown : s.vm.findClass "com/example/caddisfly/caddisfly/template/TextIsXmlCharPinLaw" = some m.cls) (hret : meth.sig.returnType = some .boolean) (hlk : meth.locks = false) (eT : T.heap = h) (N : Fr n0 locs) (hc : cells ≤ 0) (hs : slots ≤ 0) (v : Int32) (hv : v = f2_72 i0) (hQ : ∀ L', Fr n0 L' → Q (some (.int v)) h L') :
    own_Fin p e below s Q 0 0 (T.setTop (mkF m 72 #[.val (.int i0)] [])) := by
  refine own_step (fun t k => XS.iconst X.here hx rfl (hb hby d2_72) k) ?_
  exact b2_73 i0 (0 : Int32) hw X hx hZ hby hml hown hret hlk eT N (Nat.le_trans (Nat.add_le_add_right hc 0) (by decide)) (Nat.le_trans (Nat.add_le_add_right hs 0) (by decide)) v (hv) hQ
def f2_62 (i0 : Int32) : Int32 := if i0 < (1114112 : Int32) then f2_68 i0 else f2_72 i0
set_option maxRecDepth 65536 in
set_option maxHeartbeats 40000000 in
theorem b2_62 {p : Program} {l : Launch} {e : Env} {s : State} {m : MethodId} {args : Array Value} {below : List Frame} {meth : Method} {c : Code} {T : State} {locs : List Loc} {cells slots : Nat} {Z : State} {a0 : Array Value} {h : Heap} {n0 : Nat} {Q : Option Value → Heap → List Loc → Prop} (i0 : Int32) (hw : ∀ d ∈ tables_1, d.before a0 Z = true) (X : Stand p l e ({ frames := 0, cells := 0, slots := 0, locals := 0 } : Room) s m args below meth c T locs cells slots) (hx : p.tables.exec = Jvm.exec) (hZ : Z.Warmed39 s.vm) (hby : c.code = method_2_code) (hml : c.maxLocals = 1) (hown : s.vm.findClass "com/example/caddisfly/caddisfly/template/TextIsXmlCharPinLaw" = some m.cls) (hret : meth.sig.returnType = some .boolean) (hlk : meth.locks = false) (eT : T.heap = h) (N : Fr n0 locs) (hc : cells ≤ 0) (hs : slots ≤ 0) (v : Int32) (hv : v = f2_62 i0) (hQ : ∀ L', Fr n0 L' → Q (some (.int v)) h L') :
    own_Fin p e below s Q 0 0 (T.setTop (mkF m 62 #[.val (.int i0)] [])) := by
  refine own_step (fun t k => XS.iloadN X.here hx rfl (hb hby d2_62) rfl  k) ?_
  show own_Fin p e below s Q 0 0 (T.setTop (mkF m 63 #[.val (.int i0)] [(.int i0)]))
  refine own_step (X.ldcInt hx hown (mvT hZ (hw _ (List.mem_of_getElem? (i := 13) rfl))) (g := (mkF m 63 #[.val (.int i0)] [(.int i0)])) rfl (hb hby d2_63)) ?_
  show own_Fin p e below s Q 0 0 (T.setTop (mkF m 65 #[.val (.int i0)] [(.int (1114112 : Int32)), (.int i0)]))
  by_cases hB65_52 : i0 < (1114112 : Int32)
  · refine own_step (fun t k => XS.icmpNo X.here hx rfl (hb hby d2_65) rfl (tlt hB65_52).2.1 k) ?_
    exact b2_68 i0 hw X hx hZ hby hml hown hret hlk eT N (Nat.le_trans (Nat.add_le_add_right hc 0) (by decide)) (Nat.le_trans (Nat.add_le_add_right hs 0) (by decide)) v (hv.trans (if_pos hB65_52)) hQ
  · refine own_step (fun t k => XS.icmpYes X.here hx rfl (pc0 := 65) (pc' := 72) rfl (hb hby d2_65) rfl (flt hB65_52).2.1 (by decide) (by decide) k) ?_
    exact b2_72 i0 hw X hx hZ hby hml hown hret hlk eT N (Nat.le_trans (Nat.add_le_add_right hc 0) (by decide)) (Nat.le_trans (Nat.add_le_add_right hs 0) (by decide)) v (hv.trans (if_neg hB65_52)) hQ
def f2_54 (i0 : Int32) : Int32 := if i0 < (65536 : Int32) then f2_60 i0 else f2_62 i0
set_option maxRecDepth 65536 in
set_option maxHeartbeats 40000000 in
theorem b2_54 {p : Program} {l : Launch} {e : Env} {s : State} {m : MethodId} {args : Array Value} {below : List Frame} {meth : Method} {c : Code} {T : State} {locs : List Loc} {cells slots : Nat} {Z : State} {a0 : Array Value} {h : Heap} {n0 : Nat} {Q : Option Value → Heap → List Loc → Prop} (i0 : Int32) (hw : ∀ d ∈ tables_1, d.before a0 Z = true) (X : Stand p l e ({ frames := 0, cells := 0, slots := 0, locals := 0 } : Room) s m args below meth c T locs cells slots) (hx : p.tables.exec = Jvm.exec) (hZ : Z.Warmed39 s.vm) (hby : c.code = method_2_code) (hml : c.maxLocals = 1) (hown : s.vm.findClass "com/example/caddisfly/caddisfly/template/TextIsXmlCharPinLaw" = some m.cls) (hret : meth.sig.returnType = some .boolean) (hlk : meth.locks = false) (eT : T.heap = h) (N : Fr n0 locs) (hc : cells ≤ 0) (hs : slots ≤ 0) (v : Int32) (hv : v = f2_54 i0) (hQ : ∀ L', Fr n0 L' → Q (some (.int v)) h L') :
    own_Fin p e below s Q 0 0 (T.setTop (mkF m 54 #[.val (.int i0)] [])) := by
  refine own_step (fun t k => XS.iloadN X.here hx rfl (hb hby d2_54) rfl  k) ?_
  show own_Fin p e below s Q 0 0 (T.setTop (mkF m 55 #[.val (.int i0)] [(.int i0)]))
  refine own_step (X.ldcInt hx hown (mvT hZ (hw _ (List.mem_of_getElem? (i := 11) rfl))) (g := (mkF m 55 #[.val (.int i0)] [(.int i0)])) rfl (hb hby d2_55)) ?_
  show own_Fin p e below s Q 0 0 (T.setTop (mkF m 57 #[.val (.int i0)] [(.int (65536 : Int32)), (.int i0)]))
  by_cases hB57_49 : i0 < (65536 : Int32)
  · refine own_step (fun t k => XS.icmpNo X.here hx rfl (hb hby d2_57) rfl (tlt hB57_49).2.1 k) ?_
    exact b2_60 i0 hw X hx hZ hby hml hown hret hlk eT N (Nat.le_trans (Nat.add_le_add_right hc 0) (by decide)) (Nat.le_trans (Nat.add_le_add_right hs 0) (by decide)) v (hv.trans (if_pos hB57_49)) hQ
  · refine own_step (fun t k => XS.icmpYes X.here hx rfl (pc0 := 57) (pc' := 62) rfl (hb hby d2_57) rfl (flt hB57_49).2.1 (by decide) (by decide) k) ?_
    exact b2_62 i0 hw X hx hZ hby hml hown hret hlk eT N (Nat.le_trans (Nat.add_le_add_right hc 0) (by decide)) (Nat.le_trans (Nat.add_le_add_right hs 0) (by decide)) v (hv.trans (if_neg hB57_49)) hQ
def f2_46 (i0 : Int32) : Int32 := if i0 < (65534 : Int32) then f2_52 i0 else f2_54 i0
set_option maxRecDepth 65536 in
set_option maxHeartbeats 40000000 in
theorem b2_46 {p : Program} {l : Launch} {e : Env} {s : State} {m : MethodId} {args : Array Value} {below : List Frame} {meth : Method} {c : Code} {T : State} {locs : List Loc} {cells slots : Nat} {Z : State} {a0 : Array Value} {h : Heap} {n0 : Nat} {Q : Option Value → Heap → List Loc → Prop} (i0 : Int32) (hw : ∀ d ∈ tables_1, d.before a0 Z = true) (X : Stand p l e ({ frames := 0, cells := 0, slots := 0, locals := 0 } : Room) s m args below meth c T locs cells slots) (hx : p.tables.exec = Jvm.exec) (hZ : Z.Warmed39 s.vm) (hby : c.code = method_2_code) (hml : c.maxLocals = 1) (hown : s.vm.findClass "com/example/caddisfly/caddisfly/template/TextIsXmlCharPinLaw" = some m.cls) (hret : meth.sig.returnType = some .boolean) (hlk : meth.locks = false) (eT : T.heap = h) (N : Fr n0 locs) (hc : cells ≤ 0) (hs : slots ≤ 0) (v : Int32) (hv : v = f2_46 i0) (hQ : ∀ L', Fr n0 L' → Q (some (.int v)) h L') :
    own_Fin p e below s Q 0 0 (T.setTop (mkF m 46 #[.val (.int i0)] [])) := by
  refine own_step (fun t k => XS.iloadN X.here hx rfl (hb hby d2_46) rfl  k) ?_
  show own_Fin p e below s Q 0 0 (T.setTop (mkF m 47 #[.val (.int i0)] [(.int i0)]))
  refine own_step (X.ldcInt hx hown (mvT hZ (hw _ (List.mem_of_getElem? (i := 9) rfl))) (g := (mkF m 47 #[.val (.int i0)] [(.int i0)])) rfl (hb hby d2_47)) ?_
  show own_Fin p e below s Q 0 0 (T.setTop (mkF m 49 #[.val (.int i0)] [(.int (65534 : Int32)), (.int i0)]))
  by_cases hB49_46 : i0 < (65534 : Int32)
  · refine own_step (fun t k => XS.icmpNo X.here hx rfl (hb hby d2_49) rfl (tlt hB49_46).2.1 k) ?_
    exact b2_52 i0 hw X hx hZ hby hml hown hret hlk eT N (Nat.le_trans (Nat.add_le_add_right hc 0) (by decide)) (Nat.le_trans (Nat.add_le_add_right hs 0) (by decide)) v (hv.trans (if_pos hB49_46)) hQ
  · refine own_step (fun t k => XS.icmpYes X.here hx rfl (pc0 := 49) (pc' := 54) rfl (hb hby d2_49) rfl (flt hB49_46).2.1 (by decide) (by decide) k) ?_
    exact b2_54 i0 hw X hx hZ hby hml hown hret hlk eT N (Nat.le_trans (Nat.add_le_add_right hc 0) (by decide)) (Nat.le_trans (Nat.add_le_add_right hs 0) (by decide)) v (hv.trans (if_neg hB49_46)) hQ
def f2_38 (i0 : Int32) : Int32 := if i0 < (57344 : Int32) then f2_44 i0 else f2_46 i0
set_option maxRecDepth 65536 in
set_option maxHeartbeats 40000000 in
theorem b2_38 {p : Program} {l : Launch} {e : Env} {s : State} {m : MethodId} {args : Array Value} {below : List Frame} {meth : Method} {c : Code} {T : State} {locs : List Loc} {cells slots : Nat} {Z : State} {a0 : Array Value} {h : Heap} {n0 : Nat} {Q : Option Value → Heap → List Loc → Prop} (i0 : Int32) (hw : ∀ d ∈ tables_1, d.before a0 Z = true) (X : Stand p l e ({ frames := 0, cells := 0, slots := 0, locals := 0 } : Room) s m args below meth c T locs cells slots) (hx : p.tables.exec = Jvm.exec) (hZ : Z.Warmed39 s.vm) (hby : c.code = method_2_code) (hml : c.maxLocals = 1) (hown : s.vm.findClass "com/example/caddisfly/caddisfly/template/TextIsXmlCharPinLaw" = some m.cls) (hret : meth.sig.returnType = some .boolean) (hlk : meth.locks = false) (eT : T.heap = h) (N : Fr n0 locs) (hc : cells ≤ 0) (hs : slots ≤ 0) (v : Int32) (hv : v = f2_38 i0) (hQ : ∀ L', Fr n0 L' → Q (some (.int v)) h L') :
    own_Fin p e below s Q 0 0 (T.setTop (mkF m 38 #[.val (.int i0)] [])) := by
  refine own_step (fun t k => XS.iloadN X.here hx rfl (hb hby d2_38) rfl  k) ?_
  show own_Fin p e below s Q 0 0 (T.setTop (mkF m 39 #[.val (.int i0)] [(.int i0)]))
  refine own_step (X.ldcInt hx hown (mvT hZ (hw _ (List.mem_of_getElem? (i := 7) rfl))) (g := (mkF m 39 #[.val (.int i0)] [(.int i0)])) rfl (hb hby d2_39)) ?_
  show own_Fin p e below s Q 0 0 (T.setTop (mkF m 41 #[.val (.int i0)] [(.int (57344 : Int32)), (.int i0)]))
  by_cases hB41_43 : i0 < (57344 : Int32)
  · refine own_step (fun t k => XS.icmpNo X.here hx rfl (hb hby d2_41) rfl (tlt hB41_43).2.1 k) ?_
    exact b2_44 i0 hw X hx hZ hby hml hown hret hlk eT N (Nat.le_trans (Nat.add_le_add_right hc 0) (by decide)) (Nat.le_trans (Nat.add_le_add_right hs 0) (by decide)) v (hv.trans (if_pos hB41_43)) hQ
  · refine own_step (fun t k => XS.icmpYes X.here hx rfl (pc0 := 41) (pc' := 46) rfl (hb hby d2_41) rfl (flt hB41_43).2.1 (by decide) (by decide) k) ?_
    exact b2_46 i0 hw X hx hZ hby hml hown hret hlk eT N (Nat.le_trans (Nat.add_le_add_right hc 0) (by decide)) (Nat.le_trans (Nat.add_le_add_right hs 0) (by decide)) v (hv.trans (if_neg hB41_43)) hQ
def f2_30 (i0 : Int32) : Int32 := if i0 < (55296 : Int32) then f2_36 i0 else f2_38 i0
set_option maxRecDepth 65536 in
set_option maxHeartbeats 40000000 in
theorem b2_30 {p : Program} {l : Launch} {e : Env} {s : State} {m : MethodId} {args : Array Value} {below : List Frame} {meth : Method} {c : Code} {T : State} {locs : List Loc} {cells slots : Nat} {Z : State} {a0 : Array Value} {h : Heap} {n0 : Nat} {Q : Option Value → Heap → List Loc → Prop} (i0 : Int32) (hw : ∀ d ∈ tables_1, d.before a0 Z = true) (X : Stand p l e ({ frames := 0, cells := 0, slots := 0, locals := 0 } : Room) s m args below meth c T locs cells slots) (hx : p.tables.exec = Jvm.exec) (hZ : Z.Warmed39 s.vm) (hby : c.code = method_2_code) (hml : c.maxLocals = 1) (hown : s.vm.findClass "com/example/caddisfly/caddisfly/template/TextIsXmlCharPinLaw" = some m.cls) (hret : meth.sig.returnType = some .boolean) (hlk : meth.locks = false) (eT : T.heap = h) (N : Fr n0 locs) (hc : cells ≤ 0) (hs : slots ≤ 0) (v : Int32) (hv : v = f2_30 i0) (hQ : ∀ L', Fr n0 L' → Q (some (.int v)) h L') :
    own_Fin p e below s Q 0 0 (T.setTop (mkF m 30 #[.val (.int i0)] [])) := by
  refine own_step (fun t k => XS.iloadN X.here hx rfl (hb hby d2_30) rfl  k) ?_
  show own_Fin p e below s Q 0 0 (T.setTop (mkF m 31 #[.val (.int i0)] [(.int i0)]))
  refine own_step (X.ldcInt hx hown (mvT hZ (hw _ (List.mem_of_getElem? (i := 3) rfl))) (g := (mkF m 31 #[.val (.int i0)] [(.int i0)])) rfl (hb hby d2_31)) ?_
  show own_Fin p e below s Q 0 0 (T.setTop (mkF m 33 #[.val (.int i0)] [(.int (55296 : Int32)), (.int i0)]))
  by_cases hB33_40 : i0 < (55296 : Int32)
  · refine own_step (fun t k => XS.icmpNo X.here hx rfl (hb hby d2_33) rfl (tlt hB33_40).2.1 k) ?_
    exact b2_36 i0 hw X hx hZ hby hml hown hret hlk eT N (Nat.le_trans (Nat.add_le_add_right hc 0) (by decide)) (Nat.le_trans (Nat.add_le_add_right hs 0) (by decide)) v (hv.trans (if_pos hB33_40)) hQ
  · refine own_step (fun t k => XS.icmpYes X.here hx rfl (pc0 := 33) (pc' := 38) rfl (hb hby d2_33) rfl (flt hB33_40).2.1 (by decide) (by decide) k) ?_
    exact b2_38 i0 hw X hx hZ hby hml hown hret hlk eT N (Nat.le_trans (Nat.add_le_add_right hc 0) (by decide)) (Nat.le_trans (Nat.add_le_add_right hs 0) (by decide)) v (hv.trans (if_neg hB33_40)) hQ
def f2_0 (i0 : Int32) : Int32 := if i0 < (32 : Int32) then f2_6 i0 else f2_30 i0
set_option maxRecDepth 65536 in
set_option maxHeartbeats 40000000 in
theorem b2_0 {p : Program} {l : Launch} {e : Env} {s : State} {m : MethodId} {args : Array Value} {below : List Frame} {meth : Method} {c : Code} {T : State} {locs : List Loc} {cells slots : Nat} {Z : State} {a0 : Array Value} {h : Heap} {n0 : Nat} {Q : Option Value → Heap → List Loc → Prop} (i0 : Int32) (hw : ∀ d ∈ tables_1, d.before a0 Z = true) (X : Stand p l e ({ frames := 0, cells := 0, slots := 0, locals := 0 } : Room) s m args below meth c T locs cells slots) (hx : p.tables.exec = Jvm.exec) (hZ : Z.Warmed39 s.vm) (hby : c.code = method_2_code) (hml : c.maxLocals = 1) (hown : s.vm.findClass "com/example/caddisfly/caddisfly/template/TextIsXmlCharPinLaw" = some m.cls) (hret : meth.sig.returnType = some .boolean) (hlk : meth.locks = false) (eT : T.heap = h) (N : Fr n0 locs) (hc : cells ≤ 0) (hs : slots ≤ 0) (v : Int32) (hv : v = f2_0 i0) (hQ : ∀ L', Fr n0 L' → Q (some (.int v)) h L') :
    own_Fin p e below s Q 0 0 (T.setTop (mkF m 0 #[.val (.int i0)] [])) := by
  refine own_step (fun t k => XS.iloadN X.here hx rfl (hb hby d2_0) rfl  k) ?_
  show own_Fin p e below s Q 0 0 (T.setTop (mkF m 1 #[.val (.int i0)] [(.int i0)]))
  refine own_step (fun t k => XS.bipush X.here hx rfl (hb hby d2_1) k) ?_
  show own_Fin p e below s Q 0 0 (T.setTop (mkF m 3 #[.val (.int i0)] [(.int (32 : Int32)), (.int i0)]))
  by_cases hB3_28 : i0 < (32 : Int32)
  · refine own_step (fun t k => XS.icmpNo X.here hx rfl (hb hby d2_3) rfl (tlt hB3_28).2.1 k) ?_
    exact b2_6 i0 hw X hx hZ hby hml hown hret hlk eT N (Nat.le_trans (Nat.add_le_add_right hc 0) (by decide)) (Nat.le_trans (Nat.add_le_add_right hs 0) (by decide)) v (hv.trans (if_pos hB3_28)) hQ
  · refine own_step (fun t k => XS.icmpYes X.here hx rfl (pc0 := 3) (pc' := 30) rfl (hb hby d2_3) rfl (flt hB3_28).2.1 (by decide) (by decide) k) ?_
    exact b2_30 i0 hw X hx hZ hby hml hown hret hlk eT N (Nat.le_trans (Nat.add_le_add_right hc 0) (by decide)) (Nat.le_trans (Nat.add_le_add_right hs 0) (by decide)) v (hv.trans (if_neg hB3_28)) hQ
theorem pnm_1 : plainName "com/example/caddisfly/caddisfly/template/TextIsXmlCharPinLaw" = true := by first | (simp [plainName, overriddenIn]; done) | decide +kernel
theorem ef_2 (m : MethodId) (i0 : Int32) : entryFrame m #[(.int i0)] 1 = (mkF m 0 #[.val (.int i0)] []) := by first | (simp [entryFrame, mkF, argsToLocals, Value.category]; done) | rfl
def Q2 (i0 : Int32) (h0 : Heap) (n0 : Nat) (v : Option Value) (h : Heap) (L : List Loc) : Prop := v = some (.int (f2_0 i0)) ∧ Fr n0 L ∧ h = h0
set_option maxRecDepth 65536 in
set_option maxHeartbeats 4000000 in
theorem rm2 (l : Launch) (Z : State) (a0 : Array Value) (hw : ∀ d ∈ tables_1, d.before a0 Z = true) (ws : List Jvm.Cond) (i0 : Int32) (h0 : Heap) (n0 : Nat) :
    MetFree l (⟨"com/example/caddisfly/caddisfly/template/TextIsXmlCharPinLaw", "reference", "(I)Z"⟩ : MethodName) (head1 (Jvm.Cond.code (⟨"com/example/caddisfly/caddisfly/template/TextIsXmlCharPinLaw", "reference", "(I)Z"⟩ : MethodName) method_2_code 1 (some .boolean) :: ws) ({ frames := 0, cells := 0, slots := 0, locals := 0 } : Room)) (fun a U => a = #[(.int i0)] ∧ Z.Warmed39 U.vm ∧ U.heap = h0) (fun _ _ _ _ _ => True) (fun _ U o U' => ∃ v L, o = .returned v ∧ Q2 i0 h0 n0 v U'.heap L ∧ FrameEnd U o U' L ({ frames := 0, cells := 0, slots := 0, locals := 0 } : Room).cells ({ frames := 0, cells := 0, slots := 0, locals := 0 } : Room).slots) := by
  refine MetFree.of_bodySF (plainFor_of_name pnm_1) hisR ?_
  intro p e s m args below meth c s₁ Bd hml0 hP hK
  obtain ⟨rfl, hZ, hh⟩ := hP
  have hx := Bd.exec
  have hby := Bd.bytes
  have hml : c.maxLocals = 1 := hml0
  have hown : s.vm.findClass "com/example/caddisfly/caddisfly/template/TextIsXmlCharPinLaw" = some m.cls := findClass_of_methodNamed Bd.named
  have X0 : Stand p l e ({ frames := 0, cells := 0, slots := 0, locals := 0 } : Room) s m #[(.int i0)] below meth c s₁ [] 0 0 := Stand.of_body Bd
  have e0 : s₁.heap = h0 := by rw [← hh, Bd.state]; rfl
  have fin := b2_0 i0 (Q := Q2 i0 h0 n0) hw X0 hx hZ hby hml hown Bd.returns (BodyLoose.notSynchronized Bd) e0 (Fr.nil n0) (Nat.zero_le _) (Nat.zero_le _) _ rfl (fun L' n' => ⟨rfl, n', rfl⟩)
  exact own_step (fun t k => castTop (ef_2 m i0) k) fin
theorem own_c1_59_1 (x : Int32) : (True → f1_59 x (1 : Int32) = 1) ∧ (¬ (True) → f1_59 x (1 : Int32) = 0) := by
  exact ⟨fun d => rfl, fun d => absurd trivial d⟩
theorem own_c1_54 (x : Int32) : (True → f1_54 x = 1) ∧ (¬ (True) → f1_54 x = 0) := by
  exact own_c1_59_1 x
theorem own_c1_59_0 (x : Int32) : (False → f1_59 x (0 : Int32) = 1) ∧ (¬ (False) → f1_59 x (0 : Int32) = 0) := by
  exact ⟨fun d => False.elim d, fun d => rfl⟩
theorem own_c1_58 (x : Int32) : (False → f1_58 x = 1) ∧ (¬ (False) → f1_58 x = 0) := by
  exact own_c1_59_0 x
theorem own_c1_48 (x : Int32) : (x.toInt ≤ 1114111 → f1_48 x = 1) ∧ (¬ (x.toInt ≤ 1114111) → f1_48 x = 0) := by
  have hi : ((1114111 : Int32) < x) ↔ 1114111 < x.toInt := Int32.lt_iff_toInt_lt
  have r1 := Int32.le_toInt x
  have r2 := Int32.toInt_lt x
  by_cases hB : (1114111 : Int32) < x
  · have hb : 1114111 < x.toInt := hi.mp hB
    exact ⟨fun d => ((if_pos hB) : f1_48 x = _).trans ((own_c1_58 x).1 (by first | exact trivial | exact not_false | omega)), fun d => ((if_pos hB) : f1_48 x = _).trans ((own_c1_58 x).2 (by first | exact trivial | exact not_false | omega))⟩
  · have hb : ¬ (1114111 < x.toInt) := fun y => hB (hi.mpr y)
    exact ⟨fun d => ((if_neg hB) : f1_48 x = _).trans ((own_c1_54 x).1 (by first | exact trivial | exact not_false | omega)), fun d => ((if_neg hB) : f1_48 x = _).trans ((own_c1_54 x).2 (by first | exact trivial | exact not_false | omega))⟩
theorem own_c1_42 (x : Int32) : ((65536 ≤ x.toInt ∧ x.toInt ≤ 1114111) → f1_42 x = 1) ∧ (¬ ((65536 ≤ x.toInt ∧ x.toInt ≤ 1114111)) → f1_42 x = 0) := by
  have hi : (x < (65536 : Int32)) ↔ x.toInt < 65536 := Int32.lt_iff_toInt_lt
  have r1 := Int32.le_toInt x
  have r2 := Int32.toInt_lt x
  by_cases hB : x < (65536 : Int32)
  · have hb : x.toInt < 65536 := hi.mp hB
    exact ⟨fun d => ((if_pos hB) : f1_42 x = _).trans ((own_c1_58 x).1 (by first | exact trivial | exact not_false | omega)), fun d => ((if_pos hB) : f1_42 x = _).trans ((own_c1_58 x).2 (by first | exact trivial | exact not_false | omega))⟩
  · have hb : ¬ (x.toInt < 65536) := fun y => hB (hi.mpr y)
    exact ⟨fun d => ((if_neg hB) : f1_42 x = _).trans ((own_c1_48 x).1 (by first | exact trivial | exact not_false | omega)), fun d => ((if_neg hB) : f1_42 x = _).trans ((own_c1_48 x).2 (by first | exact trivial | exact not_false | omega))⟩
theorem own_c1_36 (x : Int32) : (x.toInt ≤ 65533 ∨ (65536 ≤ x.toInt ∧ x.toInt ≤ 1114111) → f1_36 x = 1) ∧ (¬ (x.toInt ≤ 65533 ∨ (65536 ≤ x.toInt ∧ x.toInt ≤ 1114111)) → f1_36 x = 0) := by
  have hi : ((65533 : Int32) < x) ↔ 65533 < x.toInt := Int32.lt_iff_toInt_lt
  have r1 := Int32.le_toInt x
  have r2 := Int32.toInt_lt x
  by_cases hB : (65533 : Int32) < x
  · have hb : 65533 < x.toInt := hi.mp hB
    exact ⟨fun d => ((if_pos hB) : f1_36 x = _).trans ((own_c1_42 x).1 (by first | exact trivial | exact not_false | omega)), fun d => ((if_pos hB) : f1_36 x = _).trans ((own_c1_42 x).2 (by first | exact trivial | exact not_false | omega))⟩
  · have hb : ¬ (65533 < x.toInt) := fun y => hB (hi.mpr y)
    exact ⟨fun d => ((if_neg hB) : f1_36 x = _).trans ((own_c1_54 x).1 (by first | exact trivial | exact not_false | omega)), fun d => ((if_neg hB) : f1_36 x = _).trans ((own_c1_54 x).2 (by first | exact trivial | exact not_false | omega))⟩
theorem own_c1_30 (x : Int32) : ((57344 ≤ x.toInt ∧ x.toInt ≤ 65533) ∨ (65536 ≤ x.toInt ∧ x.toInt ≤ 1114111) → f1_30 x = 1) ∧ (¬ ((57344 ≤ x.toInt ∧ x.toInt ≤ 65533) ∨ (65536 ≤ x.toInt ∧ x.toInt ≤ 1114111)) → f1_30 x = 0) := by
  have hi : (x < (57344 : Int32)) ↔ x.toInt < 57344 := Int32.lt_iff_toInt_lt
  have r1 := Int32.le_toInt x
  have r2 := Int32.toInt_lt x
  by_cases hB : x < (57344 : Int32)
  · have hb : x.toInt < 57344 := hi.mp hB
    exact ⟨fun d => ((if_pos hB) : f1_30 x = _).trans ((own_c1_42 x).1 (by first | exact trivial | exact not_false | omega)), fun d => ((if_pos hB) : f1_30 x = _).trans ((own_c1_42 x).2 (by first | exact trivial | exact not_false | omega))⟩
  · have hb : ¬ (x.toInt < 57344) := fun y => hB (hi.mpr y)
    exact ⟨fun d => ((if_neg hB) : f1_30 x = _).trans ((own_c1_36 x).1 (by first | exact trivial | exact not_false | omega)), fun d => ((if_neg hB) : f1_30 x = _).trans ((own_c1_36 x).2 (by first | exact trivial | exact not_false | omega))⟩
theorem own_c1_24 (x : Int32) : (x.toInt ≤ 55295 ∨ (57344 ≤ x.toInt ∧ x.toInt ≤ 65533) ∨ (65536 ≤ x.toInt ∧ x.toInt ≤ 1114111) → f1_24 x = 1) ∧ (¬ (x.toInt ≤ 55295 ∨ (57344 ≤ x.toInt ∧ x.toInt ≤ 65533) ∨ (65536 ≤ x.toInt ∧ x.toInt ≤ 1114111)) → f1_24 x = 0) := by
  have hi : ((55295 : Int32) < x) ↔ 55295 < x.toInt := Int32.lt_iff_toInt_lt
  have r1 := Int32.le_toInt x
  have r2 := Int32.toInt_lt x
  by_cases hB : (55295 : Int32) < x
  · have hb : 55295 < x.toInt := hi.mp hB
    exact ⟨fun d => ((if_pos hB) : f1_24 x = _).trans ((own_c1_30 x).1 (by first | exact trivial | exact not_false | omega)), fun d => ((if_pos hB) : f1_24 x = _).trans ((own_c1_30 x).2 (by first | exact trivial | exact not_false | omega))⟩
  · have hb : ¬ (55295 < x.toInt) := fun y => hB (hi.mpr y)
    exact ⟨fun d => ((if_neg hB) : f1_24 x = _).trans ((own_c1_54 x).1 (by first | exact trivial | exact not_false | omega)), fun d => ((if_neg hB) : f1_24 x = _).trans ((own_c1_54 x).2 (by first | exact trivial | exact not_false | omega))⟩
theorem own_c1_18 (x : Int32) : ((32 ≤ x.toInt ∧ x.toInt ≤ 55295) ∨ (57344 ≤ x.toInt ∧ x.toInt ≤ 65533) ∨ (65536 ≤ x.toInt ∧ x.toInt ≤ 1114111) → f1_18 x = 1) ∧ (¬ ((32 ≤ x.toInt ∧ x.toInt ≤ 55295) ∨ (57344 ≤ x.toInt ∧ x.toInt ≤ 65533) ∨ (65536 ≤ x.toInt ∧ x.toInt ≤ 1114111)) → f1_18 x = 0) := by
  have hi : (x < (32 : Int32)) ↔ x.toInt < 32 := Int32.lt_iff_toInt_lt
  have r1 := Int32.le_toInt x
  have r2 := Int32.toInt_lt x
  by_cases hB : x < (32 : Int32)
  · have hb : x.toInt < 32 := hi.mp hB
    exact ⟨fun d => ((if_pos hB) : f1_18 x = _).trans ((own_c1_30 x).1 (by first | exact trivial | exact not_false | omega)), fun d => ((if_pos hB) : f1_18 x = _).trans ((own_c1_30 x).2 (by first | exact trivial | exact not_false | omega))⟩
  · have hb : ¬ (x.toInt < 32) := fun y => hB (hi.mpr y)
    exact ⟨fun d => ((if_neg hB) : f1_18 x = _).trans ((own_c1_24 x).1 (by first | exact trivial | exact not_false | omega)), fun d => ((if_neg hB) : f1_18 x = _).trans ((own_c1_24 x).2 (by first | exact trivial | exact not_false | omega))⟩
theorem own_c1_12 (x : Int32) : (x.toInt = 13 ∨ (32 ≤ x.toInt ∧ x.toInt ≤ 55295) ∨ (57344 ≤ x.toInt ∧ x.toInt ≤ 65533) ∨ (65536 ≤ x.toInt ∧ x.toInt ≤ 1114111) → f1_12 x = 1) ∧ (¬ (x.toInt = 13 ∨ (32 ≤ x.toInt ∧ x.toInt ≤ 55295) ∨ (57344 ≤ x.toInt ∧ x.toInt ≤ 65533) ∨ (65536 ≤ x.toInt ∧ x.toInt ≤ 1114111)) → f1_12 x = 0) := by
  have hi : (x = (13 : Int32)) ↔ x.toInt = 13 := own_eqi (by decide)
  have r1 := Int32.le_toInt x
  have r2 := Int32.toInt_lt x
  by_cases hB : x = (13 : Int32)
  · have hb : x.toInt = 13 := hi.mp hB
    exact ⟨fun d => ((if_pos hB) : f1_12 x = _).trans ((own_c1_54 x).1 (by first | exact trivial | exact not_false | omega)), fun d => ((if_pos hB) : f1_12 x = _).trans ((own_c1_54 x).2 (by first | exact trivial | exact not_false | omega))⟩
  · have hb : ¬ (x.toInt = 13) := fun y => hB (hi.mpr y)
    exact ⟨fun d => ((if_neg hB) : f1_12 x = _).trans ((own_c1_18 x).1 (by first | exact trivial | exact not_false | omega)), fun d => ((if_neg hB) : f1_12 x = _).trans ((own_c1_18 x).2 (by first | exact trivial | exact not_false | omega))⟩
theorem own_c1_6 (x : Int32) : (x.toInt = 10 ∨ x.toInt = 13 ∨ (32 ≤ x.toInt ∧ x.toInt ≤ 55295) ∨ (57344 ≤ x.toInt ∧ x.toInt ≤ 65533) ∨ (65536 ≤ x.toInt ∧ x.toInt ≤ 1114111) → f1_6 x = 1) ∧ (¬ (x.toInt = 10 ∨ x.toInt = 13 ∨ (32 ≤ x.toInt ∧ x.toInt ≤ 55295) ∨ (57344 ≤ x.toInt ∧ x.toInt ≤ 65533) ∨ (65536 ≤ x.toInt ∧ x.toInt ≤ 1114111)) → f1_6 x = 0) := by
  have hi : (x = (10 : Int32)) ↔ x.toInt = 10 := own_eqi (by decide)
  have r1 := Int32.le_toInt x
  have r2 := Int32.toInt_lt x
  by_cases hB : x = (10 : Int32)
  · have hb : x.toInt = 10 := hi.mp hB
    exact ⟨fun d => ((if_pos hB) : f1_6 x = _).trans ((own_c1_54 x).1 (by first | exact trivial | exact not_false | omega)), fun d => ((if_pos hB) : f1_6 x = _).trans ((own_c1_54 x).2 (by first | exact trivial | exact not_false | omega))⟩
  · have hb : ¬ (x.toInt = 10) := fun y => hB (hi.mpr y)
    exact ⟨fun d => ((if_neg hB) : f1_6 x = _).trans ((own_c1_12 x).1 (by first | exact trivial | exact not_false | omega)), fun d => ((if_neg hB) : f1_6 x = _).trans ((own_c1_12 x).2 (by first | exact trivial | exact not_false | omega))⟩
theorem own_c1_0 (x : Int32) : ((9 ≤ x.toInt ∧ x.toInt ≤ 10) ∨ x.toInt = 13 ∨ (32 ≤ x.toInt ∧ x.toInt ≤ 55295) ∨ (57344 ≤ x.toInt ∧ x.toInt ≤ 65533) ∨ (65536 ≤ x.toInt ∧ x.toInt ≤ 1114111) → f1_0 x = 1) ∧ (¬ ((9 ≤ x.toInt ∧ x.toInt ≤ 10) ∨ x.toInt = 13 ∨ (32 ≤ x.toInt ∧ x.toInt ≤ 55295) ∨ (57344 ≤ x.toInt ∧ x.toInt ≤ 65533) ∨ (65536 ≤ x.toInt ∧ x.toInt ≤ 1114111)) → f1_0 x = 0) := by
  have hi : (x = (9 : Int32)) ↔ x.toInt = 9 := own_eqi (by decide)
  have r1 := Int32.le_toInt x
  have r2 := Int32.toInt_lt x
  by_cases hB : x = (9 : Int32)
  · have hb : x.toInt = 9 := hi.mp hB
    exact ⟨fun d => ((if_pos hB) : f1_0 x = _).trans ((own_c1_54 x).1 (by first | exact trivial | exact not_false | omega)), fun d => ((if_pos hB) : f1_0 x = _).trans ((own_c1_54 x).2 (by first | exact trivial | exact not_false | omega))⟩
  · have hb : ¬ (x.toInt = 9) := fun y => hB (hi.mpr y)
    exact ⟨fun d => ((if_neg hB) : f1_0 x = _).trans ((own_c1_6 x).1 (by first | exact trivial | exact not_false | omega)), fun d => ((if_neg hB) : f1_0 x = _).trans ((own_c1_6 x).2 (by first | exact trivial | exact not_false | omega))⟩
theorem own_c2_29_1 (x : Int32) : (True → f2_29 x (1 : Int32) = 1) ∧ (¬ (True) → f2_29 x (1 : Int32) = 0) := by
  exact ⟨fun d => rfl, fun d => absurd trivial d⟩
theorem own_c2_24 (x : Int32) : (True → f2_24 x = 1) ∧ (¬ (True) → f2_24 x = 0) := by
  exact own_c2_29_1 x
theorem own_c2_29_0 (x : Int32) : (False → f2_29 x (0 : Int32) = 1) ∧ (¬ (False) → f2_29 x (0 : Int32) = 0) := by
  exact ⟨fun d => False.elim d, fun d => rfl⟩
theorem own_c2_28 (x : Int32) : (False → f2_28 x = 1) ∧ (¬ (False) → f2_28 x = 0) := by
  exact own_c2_29_0 x
theorem own_c2_18 (x : Int32) : (x.toInt = 13 → f2_18 x = 1) ∧ (¬ (x.toInt = 13) → f2_18 x = 0) := by
  have hi : (x = (13 : Int32)) ↔ x.toInt = 13 := own_eqi (by decide)
  have r1 := Int32.le_toInt x
  have r2 := Int32.toInt_lt x
  by_cases hB : x = (13 : Int32)
  · have hb : x.toInt = 13 := hi.mp hB
    exact ⟨fun d => ((if_pos hB) : f2_18 x = _).trans ((own_c2_24 x).1 (by first | exact trivial | exact not_false | omega)), fun d => ((if_pos hB) : f2_18 x = _).trans ((own_c2_24 x).2 (by first | exact trivial | exact not_false | omega))⟩
  · have hb : ¬ (x.toInt = 13) := fun y => hB (hi.mpr y)
    exact ⟨fun d => ((if_neg hB) : f2_18 x = _).trans ((own_c2_28 x).1 (by first | exact trivial | exact not_false | omega)), fun d => ((if_neg hB) : f2_18 x = _).trans ((own_c2_28 x).2 (by first | exact trivial | exact not_false | omega))⟩
theorem own_c2_12 (x : Int32) : (x.toInt = 10 ∨ x.toInt = 13 → f2_12 x = 1) ∧ (¬ (x.toInt = 10 ∨ x.toInt = 13) → f2_12 x = 0) := by
  have hi : (x = (10 : Int32)) ↔ x.toInt = 10 := own_eqi (by decide)
  have r1 := Int32.le_toInt x
  have r2 := Int32.toInt_lt x
  by_cases hB : x = (10 : Int32)
  · have hb : x.toInt = 10 := hi.mp hB
    exact ⟨fun d => ((if_pos hB) : f2_12 x = _).trans ((own_c2_24 x).1 (by first | exact trivial | exact not_false | omega)), fun d => ((if_pos hB) : f2_12 x = _).trans ((own_c2_24 x).2 (by first | exact trivial | exact not_false | omega))⟩
  · have hb : ¬ (x.toInt = 10) := fun y => hB (hi.mpr y)
    exact ⟨fun d => ((if_neg hB) : f2_12 x = _).trans ((own_c2_18 x).1 (by first | exact trivial | exact not_false | omega)), fun d => ((if_neg hB) : f2_12 x = _).trans ((own_c2_18 x).2 (by first | exact trivial | exact not_false | omega))⟩
theorem own_c2_6 (x : Int32) : ((9 ≤ x.toInt ∧ x.toInt ≤ 10) ∨ x.toInt = 13 → f2_6 x = 1) ∧ (¬ ((9 ≤ x.toInt ∧ x.toInt ≤ 10) ∨ x.toInt = 13) → f2_6 x = 0) := by
  have hi : (x = (9 : Int32)) ↔ x.toInt = 9 := own_eqi (by decide)
  have r1 := Int32.le_toInt x
  have r2 := Int32.toInt_lt x
  by_cases hB : x = (9 : Int32)
  · have hb : x.toInt = 9 := hi.mp hB
    exact ⟨fun d => ((if_pos hB) : f2_6 x = _).trans ((own_c2_24 x).1 (by first | exact trivial | exact not_false | omega)), fun d => ((if_pos hB) : f2_6 x = _).trans ((own_c2_24 x).2 (by first | exact trivial | exact not_false | omega))⟩
  · have hb : ¬ (x.toInt = 9) := fun y => hB (hi.mpr y)
    exact ⟨fun d => ((if_neg hB) : f2_6 x = _).trans ((own_c2_12 x).1 (by first | exact trivial | exact not_false | omega)), fun d => ((if_neg hB) : f2_6 x = _).trans ((own_c2_12 x).2 (by first | exact trivial | exact not_false | omega))⟩
theorem own_c2_36 (x : Int32) : (True → f2_36 x = 1) ∧ (¬ (True) → f2_36 x = 0) := by
  exact ⟨fun d => rfl, fun d => absurd trivial d⟩
theorem own_c2_44 (x : Int32) : (False → f2_44 x = 1) ∧ (¬ (False) → f2_44 x = 0) := by
  exact ⟨fun d => False.elim d, fun d => rfl⟩
theorem own_c2_52 (x : Int32) : (True → f2_52 x = 1) ∧ (¬ (True) → f2_52 x = 0) := by
  exact ⟨fun d => rfl, fun d => absurd trivial d⟩
theorem own_c2_60 (x : Int32) : (False → f2_60 x = 1) ∧ (¬ (False) → f2_60 x = 0) := by
  exact ⟨fun d => False.elim d, fun d => rfl⟩
theorem own_c2_73_1 (x : Int32) : (True → f2_73 x (1 : Int32) = 1) ∧ (¬ (True) → f2_73 x (1 : Int32) = 0) := by
  exact ⟨fun d => rfl, fun d => absurd trivial d⟩
theorem own_c2_68 (x : Int32) : (True → f2_68 x = 1) ∧ (¬ (True) → f2_68 x = 0) := by
  exact own_c2_73_1 x
theorem own_c2_73_0 (x : Int32) : (False → f2_73 x (0 : Int32) = 1) ∧ (¬ (False) → f2_73 x (0 : Int32) = 0) := by
  exact ⟨fun d => False.elim d, fun d => rfl⟩
theorem own_c2_72 (x : Int32) : (False → f2_72 x = 1) ∧ (¬ (False) → f2_72 x = 0) := by
  exact own_c2_73_0 x
theorem own_c2_62 (x : Int32) : (x.toInt ≤ 1114111 → f2_62 x = 1) ∧ (¬ (x.toInt ≤ 1114111) → f2_62 x = 0) := by
  have hi : (x < (1114112 : Int32)) ↔ x.toInt < 1114112 := Int32.lt_iff_toInt_lt
  have r1 := Int32.le_toInt x
  have r2 := Int32.toInt_lt x
  by_cases hB : x < (1114112 : Int32)
  · have hb : x.toInt < 1114112 := hi.mp hB
    exact ⟨fun d => ((if_pos hB) : f2_62 x = _).trans ((own_c2_68 x).1 (by first | exact trivial | exact not_false | omega)), fun d => ((if_pos hB) : f2_62 x = _).trans ((own_c2_68 x).2 (by first | exact trivial | exact not_false | omega))⟩
  · have hb : ¬ (x.toInt < 1114112) := fun y => hB (hi.mpr y)
    exact ⟨fun d => ((if_neg hB) : f2_62 x = _).trans ((own_c2_72 x).1 (by first | exact trivial | exact not_false | omega)), fun d => ((if_neg hB) : f2_62 x = _).trans ((own_c2_72 x).2 (by first | exact trivial | exact not_false | omega))⟩
theorem own_c2_54 (x : Int32) : ((65536 ≤ x.toInt ∧ x.toInt ≤ 1114111) → f2_54 x = 1) ∧ (¬ ((65536 ≤ x.toInt ∧ x.toInt ≤ 1114111)) → f2_54 x = 0) := by
  have hi : (x < (65536 : Int32)) ↔ x.toInt < 65536 := Int32.lt_iff_toInt_lt
  have r1 := Int32.le_toInt x
  have r2 := Int32.toInt_lt x
  by_cases hB : x < (65536 : Int32)
  · have hb : x.toInt < 65536 := hi.mp hB
    exact ⟨fun d => ((if_pos hB) : f2_54 x = _).trans ((own_c2_60 x).1 (by first | exact trivial | exact not_false | omega)), fun d => ((if_pos hB) : f2_54 x = _).trans ((own_c2_60 x).2 (by first | exact trivial | exact not_false | omega))⟩
  · have hb : ¬ (x.toInt < 65536) := fun y => hB (hi.mpr y)
    exact ⟨fun d => ((if_neg hB) : f2_54 x = _).trans ((own_c2_62 x).1 (by first | exact trivial | exact not_false | omega)), fun d => ((if_neg hB) : f2_54 x = _).trans ((own_c2_62 x).2 (by first | exact trivial | exact not_false | omega))⟩
theorem own_c2_46 (x : Int32) : (x.toInt ≤ 65533 ∨ (65536 ≤ x.toInt ∧ x.toInt ≤ 1114111) → f2_46 x = 1) ∧ (¬ (x.toInt ≤ 65533 ∨ (65536 ≤ x.toInt ∧ x.toInt ≤ 1114111)) → f2_46 x = 0) := by
  have hi : (x < (65534 : Int32)) ↔ x.toInt < 65534 := Int32.lt_iff_toInt_lt
  have r1 := Int32.le_toInt x
  have r2 := Int32.toInt_lt x
  by_cases hB : x < (65534 : Int32)
  · have hb : x.toInt < 65534 := hi.mp hB
    exact ⟨fun d => ((if_pos hB) : f2_46 x = _).trans ((own_c2_52 x).1 (by first | exact trivial | exact not_false | omega)), fun d => ((if_pos hB) : f2_46 x = _).trans ((own_c2_52 x).2 (by first | exact trivial | exact not_false | omega))⟩
  · have hb : ¬ (x.toInt < 65534) := fun y => hB (hi.mpr y)
    exact ⟨fun d => ((if_neg hB) : f2_46 x = _).trans ((own_c2_54 x).1 (by first | exact trivial | exact not_false | omega)), fun d => ((if_neg hB) : f2_46 x = _).trans ((own_c2_54 x).2 (by first | exact trivial | exact not_false | omega))⟩
theorem own_c2_38 (x : Int32) : ((57344 ≤ x.toInt ∧ x.toInt ≤ 65533) ∨ (65536 ≤ x.toInt ∧ x.toInt ≤ 1114111) → f2_38 x = 1) ∧ (¬ ((57344 ≤ x.toInt ∧ x.toInt ≤ 65533) ∨ (65536 ≤ x.toInt ∧ x.toInt ≤ 1114111)) → f2_38 x = 0) := by
  have hi : (x < (57344 : Int32)) ↔ x.toInt < 57344 := Int32.lt_iff_toInt_lt
  have r1 := Int32.le_toInt x
  have r2 := Int32.toInt_lt x
  by_cases hB : x < (57344 : Int32)
  · have hb : x.toInt < 57344 := hi.mp hB
    exact ⟨fun d => ((if_pos hB) : f2_38 x = _).trans ((own_c2_44 x).1 (by first | exact trivial | exact not_false | omega)), fun d => ((if_pos hB) : f2_38 x = _).trans ((own_c2_44 x).2 (by first | exact trivial | exact not_false | omega))⟩
  · have hb : ¬ (x.toInt < 57344) := fun y => hB (hi.mpr y)
    exact ⟨fun d => ((if_neg hB) : f2_38 x = _).trans ((own_c2_46 x).1 (by first | exact trivial | exact not_false | omega)), fun d => ((if_neg hB) : f2_38 x = _).trans ((own_c2_46 x).2 (by first | exact trivial | exact not_false | omega))⟩
theorem own_c2_30 (x : Int32) : (x.toInt ≤ 55295 ∨ (57344 ≤ x.toInt ∧ x.toInt ≤ 65533) ∨ (65536 ≤ x.toInt ∧ x.toInt ≤ 1114111) → f2_30 x = 1) ∧ (¬ (x.toInt ≤ 55295 ∨ (57344 ≤ x.toInt ∧ x.toInt ≤ 65533) ∨ (65536 ≤ x.toInt ∧ x.toInt ≤ 1114111)) → f2_30 x = 0) := by
  have hi : (x < (55296 : Int32)) ↔ x.toInt < 55296 := Int32.lt_iff_toInt_lt
  have r1 := Int32.le_toInt x
  have r2 := Int32.toInt_lt x
  by_cases hB : x < (55296 : Int32)
  · have hb : x.toInt < 55296 := hi.mp hB
    exact ⟨fun d => ((if_pos hB) : f2_30 x = _).trans ((own_c2_36 x).1 (by first | exact trivial | exact not_false | omega)), fun d => ((if_pos hB) : f2_30 x = _).trans ((own_c2_36 x).2 (by first | exact trivial | exact not_false | omega))⟩
  · have hb : ¬ (x.toInt < 55296) := fun y => hB (hi.mpr y)
    exact ⟨fun d => ((if_neg hB) : f2_30 x = _).trans ((own_c2_38 x).1 (by first | exact trivial | exact not_false | omega)), fun d => ((if_neg hB) : f2_30 x = _).trans ((own_c2_38 x).2 (by first | exact trivial | exact not_false | omega))⟩
theorem own_c2_0 (x : Int32) : ((9 ≤ x.toInt ∧ x.toInt ≤ 10) ∨ x.toInt = 13 ∨ (32 ≤ x.toInt ∧ x.toInt ≤ 55295) ∨ (57344 ≤ x.toInt ∧ x.toInt ≤ 65533) ∨ (65536 ≤ x.toInt ∧ x.toInt ≤ 1114111) → f2_0 x = 1) ∧ (¬ ((9 ≤ x.toInt ∧ x.toInt ≤ 10) ∨ x.toInt = 13 ∨ (32 ≤ x.toInt ∧ x.toInt ≤ 55295) ∨ (57344 ≤ x.toInt ∧ x.toInt ≤ 65533) ∨ (65536 ≤ x.toInt ∧ x.toInt ≤ 1114111)) → f2_0 x = 0) := by
  have hi : (x < (32 : Int32)) ↔ x.toInt < 32 := Int32.lt_iff_toInt_lt
  have r1 := Int32.le_toInt x
  have r2 := Int32.toInt_lt x
  by_cases hB : x < (32 : Int32)
  · have hb : x.toInt < 32 := hi.mp hB
    exact ⟨fun d => ((if_pos hB) : f2_0 x = _).trans ((own_c2_6 x).1 (by first | exact trivial | exact not_false | omega)), fun d => ((if_pos hB) : f2_0 x = _).trans ((own_c2_6 x).2 (by first | exact trivial | exact not_false | omega))⟩
  · have hb : ¬ (x.toInt < 32) := fun y => hB (hi.mpr y)
    exact ⟨fun d => ((if_neg hB) : f2_0 x = _).trans ((own_c2_30 x).1 (by first | exact trivial | exact not_false | omega)), fun d => ((if_neg hB) : f2_0 x = _).trans ((own_c2_30 x).2 (by first | exact trivial | exact not_false | omega))⟩
theorem own_eq (x : Int32) : f1_0 x = f2_0 x := by
  have h1 := own_c1_0 x
  have h2 := own_c2_0 x
  by_cases d : (9 ≤ x.toInt ∧ x.toInt ≤ 10) ∨ x.toInt = 13 ∨ (32 ≤ x.toInt ∧ x.toInt ≤ 55295) ∨ (57344 ≤ x.toInt ∧ x.toInt ≤ 65533) ∨ (65536 ≤ x.toInt ∧ x.toInt ≤ 1114111)
  · rw [h1.1 d, h2.1 (by omega)]
  · rw [h1.2 d, h2.2 (by omega)]
theorem own_in (k : Int32) : own_In 25 ((k &&& (2147483647 : Int32)) % (25 : Int32)) := by
  have e0 := (c_and k 2147483647 (by decide)).1
  have e1 := (c_irem (k &&& (2147483647 : Int32)) 25 25 (by decide)).1 e0
  intro q
  rcases q with q | q
  · have q' : ((k &&& (2147483647 : Int32)) % (25 : Int32)).toInt < (0 : Int32).toInt := Int32.lt_iff_toInt_lt.mp q
    have q2 : (0 : Int32).toInt = 0 := by decide
    omega
  · have e2 : ((k &&& (2147483647 : Int32)) % (25 : Int32)).toInt = (((k &&& (2147483647 : Int32)) % (25 : Int32)).toNatClampNeg : Int) := by
      apply nat_of
      intro q1
      have q' : ((k &&& (2147483647 : Int32)) % (25 : Int32)).toInt < (0 : Int32).toInt := Int32.lt_iff_toInt_lt.mp q1
      have q2 : (0 : Int32).toInt = 0 := by decide
      omega
    omega
set_option maxRecDepth 65536 in
set_option maxHeartbeats 40000000 in
theorem b0_0 {p : Program} {l : Launch} {e : Env} {s : State} {m : MethodId} {args : Array Value} {below : List Frame} {meth : Method} {c : Code} {T : State} {locs : List Loc} {cells slots : Nat} {Z : State} {a0 : Array Value} {h : Heap} {n0 : Nat} {Q : Option Value → Heap → List Loc → Prop} (i0 : Int32) (i1 : Int32) (i2 : Int32) (hw : ∀ d ∈ tables_1, d.before a0 Z = true) (X : Stand p l e room_1 s m args below meth c T locs cells slots) (hx : p.tables.exec = Jvm.exec) (hZ : Z.Warmed39 s.vm) (hby : c.code = code) (hml : c.maxLocals = 5) (hown : s.vm.findClass "com/example/caddisfly/caddisfly/template/TextIsXmlCharPinLaw" = some m.cls) (hret : meth.sig.returnType = some .boolean) (hlk : meth.locks = false) (eT : T.heap = h) (N : Fr n0 locs) (hc : cells ≤ 0) (hs : slots ≤ 0) (Z0 : n0 ≤ h.size) (hQ : ∀ H' L', Fr n0 L' → Q (some (.int 1)) H' L') :
    own_Fin p e below s Q 16 128 (T.setTop (mkF m 0 #[.val (.int i0), .val (.int i1), .val (.int i2), .unset, .unset] [])) := by
  refine own_step (fun t k => XS.bipush X.here hx rfl (hb hby at_0) k) ?_
  show own_Fin p e below s Q 16 128 (T.setTop (mkF m 2 #[.val (.int i0), .val (.int i1), .val (.int i2), .unset, .unset] [(.int (25 : Int32))]))
  obtain ⟨T55, h55, k55, X55, e55, E55, AA55, st55⟩ := newP X hx hZ (hw _ (List.mem_of_getElem? (i := 0) rfl)) eT (g := (mkF m 2 #[.val (.int i0), .val (.int i1), .val (.int i2), .unset, .unset] [(.int (25 : Int32))])) rfl (hb hby at_2) rfl (by decide) (cap := 25) (by decide) (by decide) (show cells + 1 ≤ 16 from (Nat.le_trans (Nat.add_le_add_right hc 1) (by decide))) (show slots + 25 ≤ 128 from (Nat.le_trans (Nat.add_le_add_right hs 25) (by decide)))
  obtain ⟨b55, gg55⟩ : ∃ z, z = h.size := ⟨_, rfl⟩
  rw [← gg55] at AA55 st55
  have V55 : own_AF Z h55 b55 .int 25 (fun _ => 0) := own_AFnew AA55 (by decide)
  have fr55 : n0 ≤ b55 := Nat.le_trans Z0 (Nat.le_of_eq gg55.symm)
  have Z055 : n0 ≤ h55.size := Nat.le_trans Z0 E55.1
  refine own_step st55 ?_
  show own_Fin p e below s Q 16 128 (T55.setTop (mkF m 4 #[.val (.int i0), .val (.int i1), .val (.int i2), .unset, .unset] [(.ref b55)]))
  refine own_step (fun t k => XS.dup X55.here hx rfl (hb hby at_4) rfl rfl k) ?_
  show own_Fin p e below s Q 16 128 (T55.setTop (mkF m 5 #[.val (.int i0), .val (.int i1), .val (.int i2), .unset, .unset] [(.ref b55), (.ref b55)]))
  refine own_step (fun t k => XS.iconst X55.here hx rfl (hb hby at_5) k) ?_
  show own_Fin p e below s Q 16 128 (T55.setTop (mkF m 6 #[.val (.int i0), .val (.int i1), .val (.int i2), .unset, .unset] [(.int (0 : Int32)), (.ref b55), (.ref b55)]))
  refine own_step (X55.ldcInt hx hown (mvT hZ (hw _ (List.mem_of_getElem? (i := 1) rfl))) (g := (mkF m 6 #[.val (.int i0), .val (.int i1), .val (.int i2), .unset, .unset] [(.int (0 : Int32)), (.ref b55), (.ref b55)])) rfl (hb hby at_6)) ?_
  show own_Fin p e below s Q 16 128 (T55.setTop (mkF m 8 #[.val (.int i0), .val (.int i1), .val (.int i2), .unset, .unset] [(.int (-2147483648 : Int32)), (.int (0 : Int32)), (.ref b55), (.ref b55)]))
  obtain ⟨ca56, Ar56, Sz56, Ht56⟩ := id V55
  have hin56 : ¬ ((0 : Int32) < 0 ∨ ca56.slots.size ≤ ((0 : Int32)).toNatClampNeg) := by rw [Sz56]; exact (by decide)
  obtain ⟨T56, h56, X56, e56, W56, st56⟩ := stI X55 hx hZ e55 Ar56 (j := (0 : Int32)) hin56 (g := (mkF m 8 #[.val (.int i0), .val (.int i1), .val (.int i2), .unset, .unset] [(.int (-2147483648 : Int32)), (.int (0 : Int32)), (.ref b55), (.ref b55)])) rfl rfl (hb hby at_8)
  have V56 : own_AF Z h56 b55 .int 25 (fun i => if i = 0 then (-2147483648 : Int32) else (fun _ => 0) i) := own_AFset Ar56 Sz56 Ht56 W56
  obtain ⟨gf56, hgf56⟩ : ∃ g' : Nat → Int32, g' = (fun i => if i = 0 then (-2147483648 : Int32) else (fun _ => 0) i) := ⟨_, rfl⟩
  rw [← hgf56] at V56
  have N56 := Fr.snoc X56 N fr55
  have Z056 : n0 ≤ h56.size := Nat.le_trans Z055 (Nat.le_of_eq W56.size.symm)
  refine own_step st56 ?_
  show own_Fin p e below s Q 16 128 (T56.setTop (mkF m 9 #[.val (.int i0), .val (.int i1), .val (.int i2), .unset, .unset] [(.ref b55)]))
  refine own_step (fun t k => XS.dup X56.here hx rfl (hb hby at_9) rfl rfl k) ?_
  show own_Fin p e below s Q 16 128 (T56.setTop (mkF m 10 #[.val (.int i0), .val (.int i1), .val (.int i2), .unset, .unset] [(.ref b55), (.ref b55)]))
  refine own_step (fun t k => XS.iconst X56.here hx rfl (hb hby at_10) k) ?_
  show own_Fin p e below s Q 16 128 (T56.setTop (mkF m 11 #[.val (.int i0), .val (.int i1), .val (.int i2), .unset, .unset] [(.int (1 : Int32)), (.ref b55), (.ref b55)]))
  refine own_step (fun t k => XS.iconst X56.here hx rfl (hb hby at_11) k) ?_
  show own_Fin p e below s Q 16 128 (T56.setTop (mkF m 12 #[.val (.int i0), .val (.int i1), .val (.int i2), .unset, .unset] [(.int (-1 : Int32)), (.int (1 : Int32)), (.ref b55), (.ref b55)]))
  obtain ⟨ca57, Ar57, Sz57, Ht57⟩ := id V56
  have hin57 : ¬ ((1 : Int32) < 0 ∨ ca57.slots.size ≤ ((1 : Int32)).toNatClampNeg) := by rw [Sz57]; exact (by decide)
  obtain ⟨T57, h57, X57, e57, W57, st57⟩ := stI X56 hx hZ e56 Ar57 (j := (1 : Int32)) hin57 (g := (mkF m 12 #[.val (.int i0), .val (.int i1), .val (.int i2), .unset, .unset] [(.int (-1 : Int32)), (.int (1 : Int32)), (.ref b55), (.ref b55)])) rfl rfl (hb hby at_12)
  have V57 : own_AF Z h57 b55 .int 25 (fun i => if i = 1 then (-1 : Int32) else gf56 i) := own_AFset Ar57 Sz57 Ht57 W57
  obtain ⟨gf57, hgf57⟩ : ∃ g' : Nat → Int32, g' = (fun i => if i = 1 then (-1 : Int32) else gf56 i) := ⟨_, rfl⟩
  rw [← hgf57] at V57
  have N57 := Fr.snoc X57 N56 fr55
  have Z057 : n0 ≤ h57.size := Nat.le_trans Z056 (Nat.le_of_eq W57.size.symm)
  refine own_step st57 ?_
  show own_Fin p e below s Q 16 128 (T57.setTop (mkF m 13 #[.val (.int i0), .val (.int i1), .val (.int i2), .unset, .unset] [(.ref b55)]))
  refine own_step (fun t k => XS.dup X57.here hx rfl (hb hby at_13) rfl rfl k) ?_
  show own_Fin p e below s Q 16 128 (T57.setTop (mkF m 14 #[.val (.int i0), .val (.int i1), .val (.int i2), .unset, .unset] [(.ref b55), (.ref b55)]))
  refine own_step (fun t k => XS.iconst X57.here hx rfl (hb hby at_14) k) ?_
  show own_Fin p e below s Q 16 128 (T57.setTop (mkF m 15 #[.val (.int i0), .val (.int i1), .val (.int i2), .unset, .unset] [(.int (2 : Int32)), (.ref b55), (.ref b55)]))
  refine own_step (fun t k => XS.iconst X57.here hx rfl (hb hby at_15) k) ?_
  show own_Fin p e below s Q 16 128 (T57.setTop (mkF m 16 #[.val (.int i0), .val (.int i1), .val (.int i2), .unset, .unset] [(.int (0 : Int32)), (.int (2 : Int32)), (.ref b55), (.ref b55)]))
  obtain ⟨ca58, Ar58, Sz58, Ht58⟩ := id V57
  have hin58 : ¬ ((2 : Int32) < 0 ∨ ca58.slots.size ≤ ((2 : Int32)).toNatClampNeg) := by rw [Sz58]; exact (by decide)
  obtain ⟨T58, h58, X58, e58, W58, st58⟩ := stI X57 hx hZ e57 Ar58 (j := (2 : Int32)) hin58 (g := (mkF m 16 #[.val (.int i0), .val (.int i1), .val (.int i2), .unset, .unset] [(.int (0 : Int32)), (.int (2 : Int32)), (.ref b55), (.ref b55)])) rfl rfl (hb hby at_16)
  have V58 : own_AF Z h58 b55 .int 25 (fun i => if i = 2 then (0 : Int32) else gf57 i) := own_AFset Ar58 Sz58 Ht58 W58
  obtain ⟨gf58, hgf58⟩ : ∃ g' : Nat → Int32, g' = (fun i => if i = 2 then (0 : Int32) else gf57 i) := ⟨_, rfl⟩
  rw [← hgf58] at V58
  have N58 := Fr.snoc X58 N57 fr55
  have Z058 : n0 ≤ h58.size := Nat.le_trans Z057 (Nat.le_of_eq W58.size.symm)
  refine own_step st58 ?_
  show own_Fin p e below s Q 16 128 (T58.setTop (mkF m 17 #[.val (.int i0), .val (.int i1), .val (.int i2), .unset, .unset] [(.ref b55)]))
  refine own_step (fun t k => XS.dup X58.here hx rfl (hb hby at_17) rfl rfl k) ?_
  show own_Fin p e below s Q 16 128 (T58.setTop (mkF m 18 #[.val (.int i0), .val (.int i1), .val (.int i2), .unset, .unset] [(.ref b55), (.ref b55)]))
  refine own_step (fun t k => XS.iconst X58.here hx rfl (hb hby at_18) k) ?_
  show own_Fin p e below s Q 16 128 (T58.setTop (mkF m 19 #[.val (.int i0), .val (.int i1), .val (.int i2), .unset, .unset] [(.int (3 : Int32)), (.ref b55), (.ref b55)]))
  refine own_step (fun t k => XS.bipush X58.here hx rfl (hb hby at_19) k) ?_
  show own_Fin p e below s Q 16 128 (T58.setTop (mkF m 21 #[.val (.int i0), .val (.int i1), .val (.int i2), .unset, .unset] [(.int (8 : Int32)), (.int (3 : Int32)), (.ref b55), (.ref b55)]))
  obtain ⟨ca59, Ar59, Sz59, Ht59⟩ := id V58
  have hin59 : ¬ ((3 : Int32) < 0 ∨ ca59.slots.size ≤ ((3 : Int32)).toNatClampNeg) := by rw [Sz59]; exact (by decide)
  obtain ⟨T59, h59, X59, e59, W59, st59⟩ := stI X58 hx hZ e58 Ar59 (j := (3 : Int32)) hin59 (g := (mkF m 21 #[.val (.int i0), .val (.int i1), .val (.int i2), .unset, .unset] [(.int (8 : Int32)), (.int (3 : Int32)), (.ref b55), (.ref b55)])) rfl rfl (hb hby at_21)
  have V59 : own_AF Z h59 b55 .int 25 (fun i => if i = 3 then (8 : Int32) else gf58 i) := own_AFset Ar59 Sz59 Ht59 W59
  obtain ⟨gf59, hgf59⟩ : ∃ g' : Nat → Int32, g' = (fun i => if i = 3 then (8 : Int32) else gf58 i) := ⟨_, rfl⟩
  rw [← hgf59] at V59
  have N59 := Fr.snoc X59 N58 fr55
  have Z059 : n0 ≤ h59.size := Nat.le_trans Z058 (Nat.le_of_eq W59.size.symm)
  refine own_step st59 ?_
  show own_Fin p e below s Q 16 128 (T59.setTop (mkF m 22 #[.val (.int i0), .val (.int i1), .val (.int i2), .unset, .unset] [(.ref b55)]))
  refine own_step (fun t k => XS.dup X59.here hx rfl (hb hby at_22) rfl rfl k) ?_
  show own_Fin p e below s Q 16 128 (T59.setTop (mkF m 23 #[.val (.int i0), .val (.int i1), .val (.int i2), .unset, .unset] [(.ref b55), (.ref b55)]))
  refine own_step (fun t k => XS.iconst X59.here hx rfl (hb hby at_23) k) ?_
  show own_Fin p e below s Q 16 128 (T59.setTop (mkF m 24 #[.val (.int i0), .val (.int i1), .val (.int i2), .unset, .unset] [(.int (4 : Int32)), (.ref b55), (.ref b55)]))
  refine own_step (fun t k => XS.bipush X59.here hx rfl (hb hby at_24) k) ?_
  show own_Fin p e below s Q 16 128 (T59.setTop (mkF m 26 #[.val (.int i0), .val (.int i1), .val (.int i2), .unset, .unset] [(.int (9 : Int32)), (.int (4 : Int32)), (.ref b55), (.ref b55)]))
  obtain ⟨ca60, Ar60, Sz60, Ht60⟩ := id V59
  have hin60 : ¬ ((4 : Int32) < 0 ∨ ca60.slots.size ≤ ((4 : Int32)).toNatClampNeg) := by rw [Sz60]; exact (by decide)
  obtain ⟨T60, h60, X60, e60, W60, st60⟩ := stI X59 hx hZ e59 Ar60 (j := (4 : Int32)) hin60 (g := (mkF m 26 #[.val (.int i0), .val (.int i1), .val (.int i2), .unset, .unset] [(.int (9 : Int32)), (.int (4 : Int32)), (.ref b55), (.ref b55)])) rfl rfl (hb hby at_26)
  have V60 : own_AF Z h60 b55 .int 25 (fun i => if i = 4 then (9 : Int32) else gf59 i) := own_AFset Ar60 Sz60 Ht60 W60
  obtain ⟨gf60, hgf60⟩ : ∃ g' : Nat → Int32, g' = (fun i => if i = 4 then (9 : Int32) else gf59 i) := ⟨_, rfl⟩
  rw [← hgf60] at V60
  have N60 := Fr.snoc X60 N59 fr55
  have Z060 : n0 ≤ h60.size := Nat.le_trans Z059 (Nat.le_of_eq W60.size.symm)
  refine own_step st60 ?_
  show own_Fin p e below s Q 16 128 (T60.setTop (mkF m 27 #[.val (.int i0), .val (.int i1), .val (.int i2), .unset, .unset] [(.ref b55)]))
  refine own_step (fun t k => XS.dup X60.here hx rfl (hb hby at_27) rfl rfl k) ?_
  show own_Fin p e below s Q 16 128 (T60.setTop (mkF m 28 #[.val (.int i0), .val (.int i1), .val (.int i2), .unset, .unset] [(.ref b55), (.ref b55)]))
  refine own_step (fun t k => XS.iconst X60.here hx rfl (hb hby at_28) k) ?_
  show own_Fin p e below s Q 16 128 (T60.setTop (mkF m 29 #[.val (.int i0), .val (.int i1), .val (.int i2), .unset, .unset] [(.int (5 : Int32)), (.ref b55), (.ref b55)]))
  refine own_step (fun t k => XS.bipush X60.here hx rfl (hb hby at_29) k) ?_
  show own_Fin p e below s Q 16 128 (T60.setTop (mkF m 31 #[.val (.int i0), .val (.int i1), .val (.int i2), .unset, .unset] [(.int (10 : Int32)), (.int (5 : Int32)), (.ref b55), (.ref b55)]))
  obtain ⟨ca61, Ar61, Sz61, Ht61⟩ := id V60
  have hin61 : ¬ ((5 : Int32) < 0 ∨ ca61.slots.size ≤ ((5 : Int32)).toNatClampNeg) := by rw [Sz61]; exact (by decide)
  obtain ⟨T61, h61, X61, e61, W61, st61⟩ := stI X60 hx hZ e60 Ar61 (j := (5 : Int32)) hin61 (g := (mkF m 31 #[.val (.int i0), .val (.int i1), .val (.int i2), .unset, .unset] [(.int (10 : Int32)), (.int (5 : Int32)), (.ref b55), (.ref b55)])) rfl rfl (hb hby at_31)
  have V61 : own_AF Z h61 b55 .int 25 (fun i => if i = 5 then (10 : Int32) else gf60 i) := own_AFset Ar61 Sz61 Ht61 W61
  obtain ⟨gf61, hgf61⟩ : ∃ g' : Nat → Int32, g' = (fun i => if i = 5 then (10 : Int32) else gf60 i) := ⟨_, rfl⟩
  rw [← hgf61] at V61
  have N61 := Fr.snoc X61 N60 fr55
  have Z061 : n0 ≤ h61.size := Nat.le_trans Z060 (Nat.le_of_eq W61.size.symm)
  refine own_step st61 ?_
  show own_Fin p e below s Q 16 128 (T61.setTop (mkF m 32 #[.val (.int i0), .val (.int i1), .val (.int i2), .unset, .unset] [(.ref b55)]))
  refine own_step (fun t k => XS.dup X61.here hx rfl (hb hby at_32) rfl rfl k) ?_
  show own_Fin p e below s Q 16 128 (T61.setTop (mkF m 33 #[.val (.int i0), .val (.int i1), .val (.int i2), .unset, .unset] [(.ref b55), (.ref b55)]))
  refine own_step (fun t k => XS.bipush X61.here hx rfl (hb hby at_33) k) ?_
  show own_Fin p e below s Q 16 128 (T61.setTop (mkF m 35 #[.val (.int i0), .val (.int i1), .val (.int i2), .unset, .unset] [(.int (6 : Int32)), (.ref b55), (.ref b55)]))
  refine own_step (fun t k => XS.bipush X61.here hx rfl (hb hby at_35) k) ?_
  show own_Fin p e below s Q 16 128 (T61.setTop (mkF m 37 #[.val (.int i0), .val (.int i1), .val (.int i2), .unset, .unset] [(.int (11 : Int32)), (.int (6 : Int32)), (.ref b55), (.ref b55)]))
  obtain ⟨ca62, Ar62, Sz62, Ht62⟩ := id V61
  have hin62 : ¬ ((6 : Int32) < 0 ∨ ca62.slots.size ≤ ((6 : Int32)).toNatClampNeg) := by rw [Sz62]; exact (by decide)
  obtain ⟨T62, h62, X62, e62, W62, st62⟩ := stI X61 hx hZ e61 Ar62 (j := (6 : Int32)) hin62 (g := (mkF m 37 #[.val (.int i0), .val (.int i1), .val (.int i2), .unset, .unset] [(.int (11 : Int32)), (.int (6 : Int32)), (.ref b55), (.ref b55)])) rfl rfl (hb hby at_37)
  have V62 : own_AF Z h62 b55 .int 25 (fun i => if i = 6 then (11 : Int32) else gf61 i) := own_AFset Ar62 Sz62 Ht62 W62
  obtain ⟨gf62, hgf62⟩ : ∃ g' : Nat → Int32, g' = (fun i => if i = 6 then (11 : Int32) else gf61 i) := ⟨_, rfl⟩
  rw [← hgf62] at V62
  have N62 := Fr.snoc X62 N61 fr55
  have Z062 : n0 ≤ h62.size := Nat.le_trans Z061 (Nat.le_of_eq W62.size.symm)
  refine own_step st62 ?_
  show own_Fin p e below s Q 16 128 (T62.setTop (mkF m 38 #[.val (.int i0), .val (.int i1), .val (.int i2), .unset, .unset] [(.ref b55)]))
  refine own_step (fun t k => XS.dup X62.here hx rfl (hb hby at_38) rfl rfl k) ?_
  show own_Fin p e below s Q 16 128 (T62.setTop (mkF m 39 #[.val (.int i0), .val (.int i1), .val (.int i2), .unset, .unset] [(.ref b55), (.ref b55)]))
  refine own_step (fun t k => XS.bipush X62.here hx rfl (hb hby at_39) k) ?_
  show own_Fin p e below s Q 16 128 (T62.setTop (mkF m 41 #[.val (.int i0), .val (.int i1), .val (.int i2), .unset, .unset] [(.int (7 : Int32)), (.ref b55), (.ref b55)]))
  refine own_step (fun t k => XS.bipush X62.here hx rfl (hb hby at_41) k) ?_
  show own_Fin p e below s Q 16 128 (T62.setTop (mkF m 43 #[.val (.int i0), .val (.int i1), .val (.int i2), .unset, .unset] [(.int (12 : Int32)), (.int (7 : Int32)), (.ref b55), (.ref b55)]))
  obtain ⟨ca63, Ar63, Sz63, Ht63⟩ := id V62
  have hin63 : ¬ ((7 : Int32) < 0 ∨ ca63.slots.size ≤ ((7 : Int32)).toNatClampNeg) := by rw [Sz63]; exact (by decide)
  obtain ⟨T63, h63, X63, e63, W63, st63⟩ := stI X62 hx hZ e62 Ar63 (j := (7 : Int32)) hin63 (g := (mkF m 43 #[.val (.int i0), .val (.int i1), .val (.int i2), .unset, .unset] [(.int (12 : Int32)), (.int (7 : Int32)), (.ref b55), (.ref b55)])) rfl rfl (hb hby at_43)
  have V63 : own_AF Z h63 b55 .int 25 (fun i => if i = 7 then (12 : Int32) else gf62 i) := own_AFset Ar63 Sz63 Ht63 W63
  obtain ⟨gf63, hgf63⟩ : ∃ g' : Nat → Int32, g' = (fun i => if i = 7 then (12 : Int32) else gf62 i) := ⟨_, rfl⟩
  rw [← hgf63] at V63
  have N63 := Fr.snoc X63 N62 fr55
  have Z063 : n0 ≤ h63.size := Nat.le_trans Z062 (Nat.le_of_eq W63.size.symm)
  refine own_step st63 ?_
  show own_Fin p e below s Q 16 128 (T63.setTop (mkF m 44 #[.val (.int i0), .val (.int i1), .val (.int i2), .unset, .unset] [(.ref b55)]))
  refine own_step (fun t k => XS.dup X63.here hx rfl (hb hby at_44) rfl rfl k) ?_
  show own_Fin p e below s Q 16 128 (T63.setTop (mkF m 45 #[.val (.int i0), .val (.int i1), .val (.int i2), .unset, .unset] [(.ref b55), (.ref b55)]))
  refine own_step (fun t k => XS.bipush X63.here hx rfl (hb hby at_45) k) ?_
  show own_Fin p e below s Q 16 128 (T63.setTop (mkF m 47 #[.val (.int i0), .val (.int i1), .val (.int i2), .unset, .unset] [(.int (8 : Int32)), (.ref b55), (.ref b55)]))
  refine own_step (fun t k => XS.bipush X63.here hx rfl (hb hby at_47) k) ?_
  show own_Fin p e below s Q 16 128 (T63.setTop (mkF m 49 #[.val (.int i0), .val (.int i1), .val (.int i2), .unset, .unset] [(.int (13 : Int32)), (.int (8 : Int32)), (.ref b55), (.ref b55)]))
  obtain ⟨ca64, Ar64, Sz64, Ht64⟩ := id V63
  have hin64 : ¬ ((8 : Int32) < 0 ∨ ca64.slots.size ≤ ((8 : Int32)).toNatClampNeg) := by rw [Sz64]; exact (by decide)
  obtain ⟨T64, h64, X64, e64, W64, st64⟩ := stI X63 hx hZ e63 Ar64 (j := (8 : Int32)) hin64 (g := (mkF m 49 #[.val (.int i0), .val (.int i1), .val (.int i2), .unset, .unset] [(.int (13 : Int32)), (.int (8 : Int32)), (.ref b55), (.ref b55)])) rfl rfl (hb hby at_49)
  have V64 : own_AF Z h64 b55 .int 25 (fun i => if i = 8 then (13 : Int32) else gf63 i) := own_AFset Ar64 Sz64 Ht64 W64
  obtain ⟨gf64, hgf64⟩ : ∃ g' : Nat → Int32, g' = (fun i => if i = 8 then (13 : Int32) else gf63 i) := ⟨_, rfl⟩
  rw [← hgf64] at V64
  have N64 := Fr.snoc X64 N63 fr55
  have Z064 : n0 ≤ h64.size := Nat.le_trans Z063 (Nat.le_of_eq W64.size.symm)
  refine own_step st64 ?_
  show own_Fin p e below s Q 16 128 (T64.setTop (mkF m 50 #[.val (.int i0), .val (.int i1), .val (.int i2), .unset, .unset] [(.ref b55)]))
  refine own_step (fun t k => XS.dup X64.here hx rfl (hb hby at_50) rfl rfl k) ?_
  show own_Fin p e below s Q 16 128 (T64.setTop (mkF m 51 #[.val (.int i0), .val (.int i1), .val (.int i2), .unset, .unset] [(.ref b55), (.ref b55)]))
  refine own_step (fun t k => XS.bipush X64.here hx rfl (hb hby at_51) k) ?_
  show own_Fin p e below s Q 16 128 (T64.setTop (mkF m 53 #[.val (.int i0), .val (.int i1), .val (.int i2), .unset, .unset] [(.int (9 : Int32)), (.ref b55), (.ref b55)]))
  refine own_step (fun t k => XS.bipush X64.here hx rfl (hb hby at_53) k) ?_
  show own_Fin p e below s Q 16 128 (T64.setTop (mkF m 55 #[.val (.int i0), .val (.int i1), .val (.int i2), .unset, .unset] [(.int (14 : Int32)), (.int (9 : Int32)), (.ref b55), (.ref b55)]))
  obtain ⟨ca65, Ar65, Sz65, Ht65⟩ := id V64
  have hin65 : ¬ ((9 : Int32) < 0 ∨ ca65.slots.size ≤ ((9 : Int32)).toNatClampNeg) := by rw [Sz65]; exact (by decide)
  obtain ⟨T65, h65, X65, e65, W65, st65⟩ := stI X64 hx hZ e64 Ar65 (j := (9 : Int32)) hin65 (g := (mkF m 55 #[.val (.int i0), .val (.int i1), .val (.int i2), .unset, .unset] [(.int (14 : Int32)), (.int (9 : Int32)), (.ref b55), (.ref b55)])) rfl rfl (hb hby at_55)
  have V65 : own_AF Z h65 b55 .int 25 (fun i => if i = 9 then (14 : Int32) else gf64 i) := own_AFset Ar65 Sz65 Ht65 W65
  obtain ⟨gf65, hgf65⟩ : ∃ g' : Nat → Int32, g' = (fun i => if i = 9 then (14 : Int32) else gf64 i) := ⟨_, rfl⟩
  rw [← hgf65] at V65
  have N65 := Fr.snoc X65 N64 fr55
  have Z065 : n0 ≤ h65.size := Nat.le_trans Z064 (Nat.le_of_eq W65.size.symm)
  refine own_step st65 ?_
  show own_Fin p e below s Q 16 128 (T65.setTop (mkF m 56 #[.val (.int i0), .val (.int i1), .val (.int i2), .unset, .unset] [(.ref b55)]))
  refine own_step (fun t k => XS.dup X65.here hx rfl (hb hby at_56) rfl rfl k) ?_
  show own_Fin p e below s Q 16 128 (T65.setTop (mkF m 57 #[.val (.int i0), .val (.int i1), .val (.int i2), .unset, .unset] [(.ref b55), (.ref b55)]))
  refine own_step (fun t k => XS.bipush X65.here hx rfl (hb hby at_57) k) ?_
  show own_Fin p e below s Q 16 128 (T65.setTop (mkF m 59 #[.val (.int i0), .val (.int i1), .val (.int i2), .unset, .unset] [(.int (10 : Int32)), (.ref b55), (.ref b55)]))
  refine own_step (fun t k => XS.bipush X65.here hx rfl (hb hby at_59) k) ?_
  show own_Fin p e below s Q 16 128 (T65.setTop (mkF m 61 #[.val (.int i0), .val (.int i1), .val (.int i2), .unset, .unset] [(.int (31 : Int32)), (.int (10 : Int32)), (.ref b55), (.ref b55)]))
  obtain ⟨ca66, Ar66, Sz66, Ht66⟩ := id V65
  have hin66 : ¬ ((10 : Int32) < 0 ∨ ca66.slots.size ≤ ((10 : Int32)).toNatClampNeg) := by rw [Sz66]; exact (by decide)
  obtain ⟨T66, h66, X66, e66, W66, st66⟩ := stI X65 hx hZ e65 Ar66 (j := (10 : Int32)) hin66 (g := (mkF m 61 #[.val (.int i0), .val (.int i1), .val (.int i2), .unset, .unset] [(.int (31 : Int32)), (.int (10 : Int32)), (.ref b55), (.ref b55)])) rfl rfl (hb hby at_61)
  have V66 : own_AF Z h66 b55 .int 25 (fun i => if i = 10 then (31 : Int32) else gf65 i) := own_AFset Ar66 Sz66 Ht66 W66
  obtain ⟨gf66, hgf66⟩ : ∃ g' : Nat → Int32, g' = (fun i => if i = 10 then (31 : Int32) else gf65 i) := ⟨_, rfl⟩
  rw [← hgf66] at V66
  have N66 := Fr.snoc X66 N65 fr55
  have Z066 : n0 ≤ h66.size := Nat.le_trans Z065 (Nat.le_of_eq W66.size.symm)
  refine own_step st66 ?_
  show own_Fin p e below s Q 16 128 (T66.setTop (mkF m 62 #[.val (.int i0), .val (.int i1), .val (.int i2), .unset, .unset] [(.ref b55)]))
  refine own_step (fun t k => XS.dup X66.here hx rfl (hb hby at_62) rfl rfl k) ?_
  show own_Fin p e below s Q 16 128 (T66.setTop (mkF m 63 #[.val (.int i0), .val (.int i1), .val (.int i2), .unset, .unset] [(.ref b55), (.ref b55)]))
  refine own_step (fun t k => XS.bipush X66.here hx rfl (hb hby at_63) k) ?_
  show own_Fin p e below s Q 16 128 (T66.setTop (mkF m 65 #[.val (.int i0), .val (.int i1), .val (.int i2), .unset, .unset] [(.int (11 : Int32)), (.ref b55), (.ref b55)]))
  refine own_step (fun t k => XS.bipush X66.here hx rfl (hb hby at_65) k) ?_
  show own_Fin p e below s Q 16 128 (T66.setTop (mkF m 67 #[.val (.int i0), .val (.int i1), .val (.int i2), .unset, .unset] [(.int (32 : Int32)), (.int (11 : Int32)), (.ref b55), (.ref b55)]))
  obtain ⟨ca67, Ar67, Sz67, Ht67⟩ := id V66
  have hin67 : ¬ ((11 : Int32) < 0 ∨ ca67.slots.size ≤ ((11 : Int32)).toNatClampNeg) := by rw [Sz67]; exact (by decide)
  obtain ⟨T67, h67, X67, e67, W67, st67⟩ := stI X66 hx hZ e66 Ar67 (j := (11 : Int32)) hin67 (g := (mkF m 67 #[.val (.int i0), .val (.int i1), .val (.int i2), .unset, .unset] [(.int (32 : Int32)), (.int (11 : Int32)), (.ref b55), (.ref b55)])) rfl rfl (hb hby at_67)
  have V67 : own_AF Z h67 b55 .int 25 (fun i => if i = 11 then (32 : Int32) else gf66 i) := own_AFset Ar67 Sz67 Ht67 W67
  obtain ⟨gf67, hgf67⟩ : ∃ g' : Nat → Int32, g' = (fun i => if i = 11 then (32 : Int32) else gf66 i) := ⟨_, rfl⟩
  rw [← hgf67] at V67
  have N67 := Fr.snoc X67 N66 fr55
  have Z067 : n0 ≤ h67.size := Nat.le_trans Z066 (Nat.le_of_eq W67.size.symm)
  refine own_step st67 ?_
  show own_Fin p e below s Q 16 128 (T67.setTop (mkF m 68 #[.val (.int i0), .val (.int i1), .val (.int i2), .unset, .unset] [(.ref b55)]))
  refine own_step (fun t k => XS.dup X67.here hx rfl (hb hby at_68) rfl rfl k) ?_
  show own_Fin p e below s Q 16 128 (T67.setTop (mkF m 69 #[.val (.int i0), .val (.int i1), .val (.int i2), .unset, .unset] [(.ref b55), (.ref b55)]))
  refine own_step (fun t k => XS.bipush X67.here hx rfl (hb hby at_69) k) ?_
  show own_Fin p e below s Q 16 128 (T67.setTop (mkF m 71 #[.val (.int i0), .val (.int i1), .val (.int i2), .unset, .unset] [(.int (12 : Int32)), (.ref b55), (.ref b55)]))
  refine own_step (X67.ldcInt hx hown (mvT hZ (hw _ (List.mem_of_getElem? (i := 2) rfl))) (g := (mkF m 71 #[.val (.int i0), .val (.int i1), .val (.int i2), .unset, .unset] [(.int (12 : Int32)), (.ref b55), (.ref b55)])) rfl (hb hby at_71)) ?_
  show own_Fin p e below s Q 16 128 (T67.setTop (mkF m 73 #[.val (.int i0), .val (.int i1), .val (.int i2), .unset, .unset] [(.int (55295 : Int32)), (.int (12 : Int32)), (.ref b55), (.ref b55)]))
  obtain ⟨ca68, Ar68, Sz68, Ht68⟩ := id V67
  have hin68 : ¬ ((12 : Int32) < 0 ∨ ca68.slots.size ≤ ((12 : Int32)).toNatClampNeg) := by rw [Sz68]; exact (by decide)
  obtain ⟨T68, h68, X68, e68, W68, st68⟩ := stI X67 hx hZ e67 Ar68 (j := (12 : Int32)) hin68 (g := (mkF m 73 #[.val (.int i0), .val (.int i1), .val (.int i2), .unset, .unset] [(.int (55295 : Int32)), (.int (12 : Int32)), (.ref b55), (.ref b55)])) rfl rfl (hb hby at_73)
  have V68 : own_AF Z h68 b55 .int 25 (fun i => if i = 12 then (55295 : Int32) else gf67 i) := own_AFset Ar68 Sz68 Ht68 W68
  obtain ⟨gf68, hgf68⟩ : ∃ g' : Nat → Int32, g' = (fun i => if i = 12 then (55295 : Int32) else gf67 i) := ⟨_, rfl⟩
  rw [← hgf68] at V68
  have N68 := Fr.snoc X68 N67 fr55
  have Z068 : n0 ≤ h68.size := Nat.le_trans Z067 (Nat.le_of_eq W68.size.symm)
  refine own_step st68 ?_
  show own_Fin p e below s Q 16 128 (T68.setTop (mkF m 74 #[.val (.int i0), .val (.int i1), .val (.int i2), .unset, .unset] [(.ref b55)]))
  refine own_step (fun t k => XS.dup X68.here hx rfl (hb hby at_74) rfl rfl k) ?_
  show own_Fin p e below s Q 16 128 (T68.setTop (mkF m 75 #[.val (.int i0), .val (.int i1), .val (.int i2), .unset, .unset] [(.ref b55), (.ref b55)]))
  refine own_step (fun t k => XS.bipush X68.here hx rfl (hb hby at_75) k) ?_
  show own_Fin p e below s Q 16 128 (T68.setTop (mkF m 77 #[.val (.int i0), .val (.int i1), .val (.int i2), .unset, .unset] [(.int (13 : Int32)), (.ref b55), (.ref b55)]))
  refine own_step (X68.ldcInt hx hown (mvT hZ (hw _ (List.mem_of_getElem? (i := 3) rfl))) (g := (mkF m 77 #[.val (.int i0), .val (.int i1), .val (.int i2), .unset, .unset] [(.int (13 : Int32)), (.ref b55), (.ref b55)])) rfl (hb hby at_77)) ?_
  show own_Fin p e below s Q 16 128 (T68.setTop (mkF m 79 #[.val (.int i0), .val (.int i1), .val (.int i2), .unset, .unset] [(.int (55296 : Int32)), (.int (13 : Int32)), (.ref b55), (.ref b55)]))
  obtain ⟨ca69, Ar69, Sz69, Ht69⟩ := id V68
  have hin69 : ¬ ((13 : Int32) < 0 ∨ ca69.slots.size ≤ ((13 : Int32)).toNatClampNeg) := by rw [Sz69]; exact (by decide)
  obtain ⟨T69, h69, X69, e69, W69, st69⟩ := stI X68 hx hZ e68 Ar69 (j := (13 : Int32)) hin69 (g := (mkF m 79 #[.val (.int i0), .val (.int i1), .val (.int i2), .unset, .unset] [(.int (55296 : Int32)), (.int (13 : Int32)), (.ref b55), (.ref b55)])) rfl rfl (hb hby at_79)
  have V69 : own_AF Z h69 b55 .int 25 (fun i => if i = 13 then (55296 : Int32) else gf68 i) := own_AFset Ar69 Sz69 Ht69 W69
  obtain ⟨gf69, hgf69⟩ : ∃ g' : Nat → Int32, g' = (fun i => if i = 13 then (55296 : Int32) else gf68 i) := ⟨_, rfl⟩
  rw [← hgf69] at V69
  have N69 := Fr.snoc X69 N68 fr55
  have Z069 : n0 ≤ h69.size := Nat.le_trans Z068 (Nat.le_of_eq W69.size.symm)
  refine own_step st69 ?_
  show own_Fin p e below s Q 16 128 (T69.setTop (mkF m 80 #[.val (.int i0), .val (.int i1), .val (.int i2), .unset, .unset] [(.ref b55)]))
  refine own_step (fun t k => XS.dup X69.here hx rfl (hb hby at_80) rfl rfl k) ?_
  show own_Fin p e below s Q 16 128 (T69.setTop (mkF m 81 #[.val (.int i0), .val (.int i1), .val (.int i2), .unset, .unset] [(.ref b55), (.ref b55)]))
  refine own_step (fun t k => XS.bipush X69.here hx rfl (hb hby at_81) k) ?_
  show own_Fin p e below s Q 16 128 (T69.setTop (mkF m 83 #[.val (.int i0), .val (.int i1), .val (.int i2), .unset, .unset] [(.int (14 : Int32)), (.ref b55), (.ref b55)]))
  refine own_step (X69.ldcInt hx hown (mvT hZ (hw _ (List.mem_of_getElem? (i := 4) rfl))) (g := (mkF m 83 #[.val (.int i0), .val (.int i1), .val (.int i2), .unset, .unset] [(.int (14 : Int32)), (.ref b55), (.ref b55)])) rfl (hb hby at_83)) ?_
  show own_Fin p e below s Q 16 128 (T69.setTop (mkF m 85 #[.val (.int i0), .val (.int i1), .val (.int i2), .unset, .unset] [(.int (56319 : Int32)), (.int (14 : Int32)), (.ref b55), (.ref b55)]))
  obtain ⟨ca70, Ar70, Sz70, Ht70⟩ := id V69
  have hin70 : ¬ ((14 : Int32) < 0 ∨ ca70.slots.size ≤ ((14 : Int32)).toNatClampNeg) := by rw [Sz70]; exact (by decide)
  obtain ⟨T70, h70, X70, e70, W70, st70⟩ := stI X69 hx hZ e69 Ar70 (j := (14 : Int32)) hin70 (g := (mkF m 85 #[.val (.int i0), .val (.int i1), .val (.int i2), .unset, .unset] [(.int (56319 : Int32)), (.int (14 : Int32)), (.ref b55), (.ref b55)])) rfl rfl (hb hby at_85)
  have V70 : own_AF Z h70 b55 .int 25 (fun i => if i = 14 then (56319 : Int32) else gf69 i) := own_AFset Ar70 Sz70 Ht70 W70
  obtain ⟨gf70, hgf70⟩ : ∃ g' : Nat → Int32, g' = (fun i => if i = 14 then (56319 : Int32) else gf69 i) := ⟨_, rfl⟩
  rw [← hgf70] at V70
  have N70 := Fr.snoc X70 N69 fr55
  have Z070 : n0 ≤ h70.size := Nat.le_trans Z069 (Nat.le_of_eq W70.size.symm)
  refine own_step st70 ?_
  show own_Fin p e below s Q 16 128 (T70.setTop (mkF m 86 #[.val (.int i0), .val (.int i1), .val (.int i2), .unset, .unset] [(.ref b55)]))
  refine own_step (fun t k => XS.dup X70.here hx rfl (hb hby at_86) rfl rfl k) ?_
  show own_Fin p e below s Q 16 128 (T70.setTop (mkF m 87 #[.val (.int i0), .val (.int i1), .val (.int i2), .unset, .unset] [(.ref b55), (.ref b55)]))
  refine own_step (fun t k => XS.bipush X70.here hx rfl (hb hby at_87) k) ?_
  show own_Fin p e below s Q 16 128 (T70.setTop (mkF m 89 #[.val (.int i0), .val (.int i1), .val (.int i2), .unset, .unset] [(.int (15 : Int32)), (.ref b55), (.ref b55)]))
  refine own_step (X70.ldcInt hx hown (mvT hZ (hw _ (List.mem_of_getElem? (i := 5) rfl))) (g := (mkF m 89 #[.val (.int i0), .val (.int i1), .val (.int i2), .unset, .unset] [(.int (15 : Int32)), (.ref b55), (.ref b55)])) rfl (hb hby at_89)) ?_
  show own_Fin p e below s Q 16 128 (T70.setTop (mkF m 91 #[.val (.int i0), .val (.int i1), .val (.int i2), .unset, .unset] [(.int (56320 : Int32)), (.int (15 : Int32)), (.ref b55), (.ref b55)]))
  obtain ⟨ca71, Ar71, Sz71, Ht71⟩ := id V70
  have hin71 : ¬ ((15 : Int32) < 0 ∨ ca71.slots.size ≤ ((15 : Int32)).toNatClampNeg) := by rw [Sz71]; exact (by decide)
  obtain ⟨T71, h71, X71, e71, W71, st71⟩ := stI X70 hx hZ e70 Ar71 (j := (15 : Int32)) hin71 (g := (mkF m 91 #[.val (.int i0), .val (.int i1), .val (.int i2), .unset, .unset] [(.int (56320 : Int32)), (.int (15 : Int32)), (.ref b55), (.ref b55)])) rfl rfl (hb hby at_91)
  have V71 : own_AF Z h71 b55 .int 25 (fun i => if i = 15 then (56320 : Int32) else gf70 i) := own_AFset Ar71 Sz71 Ht71 W71
  obtain ⟨gf71, hgf71⟩ : ∃ g' : Nat → Int32, g' = (fun i => if i = 15 then (56320 : Int32) else gf70 i) := ⟨_, rfl⟩
  rw [← hgf71] at V71
  have N71 := Fr.snoc X71 N70 fr55
  have Z071 : n0 ≤ h71.size := Nat.le_trans Z070 (Nat.le_of_eq W71.size.symm)
  refine own_step st71 ?_
  show own_Fin p e below s Q 16 128 (T71.setTop (mkF m 92 #[.val (.int i0), .val (.int i1), .val (.int i2), .unset, .unset] [(.ref b55)]))
  refine own_step (fun t k => XS.dup X71.here hx rfl (hb hby at_92) rfl rfl k) ?_
  show own_Fin p e below s Q 16 128 (T71.setTop (mkF m 93 #[.val (.int i0), .val (.int i1), .val (.int i2), .unset, .unset] [(.ref b55), (.ref b55)]))
  refine own_step (fun t k => XS.bipush X71.here hx rfl (hb hby at_93) k) ?_
  show own_Fin p e below s Q 16 128 (T71.setTop (mkF m 95 #[.val (.int i0), .val (.int i1), .val (.int i2), .unset, .unset] [(.int (16 : Int32)), (.ref b55), (.ref b55)]))
  refine own_step (X71.ldcInt hx hown (mvT hZ (hw _ (List.mem_of_getElem? (i := 6) rfl))) (g := (mkF m 95 #[.val (.int i0), .val (.int i1), .val (.int i2), .unset, .unset] [(.int (16 : Int32)), (.ref b55), (.ref b55)])) rfl (hb hby at_95)) ?_
  show own_Fin p e below s Q 16 128 (T71.setTop (mkF m 97 #[.val (.int i0), .val (.int i1), .val (.int i2), .unset, .unset] [(.int (57343 : Int32)), (.int (16 : Int32)), (.ref b55), (.ref b55)]))
  obtain ⟨ca72, Ar72, Sz72, Ht72⟩ := id V71
  have hin72 : ¬ ((16 : Int32) < 0 ∨ ca72.slots.size ≤ ((16 : Int32)).toNatClampNeg) := by rw [Sz72]; exact (by decide)
  obtain ⟨T72, h72, X72, e72, W72, st72⟩ := stI X71 hx hZ e71 Ar72 (j := (16 : Int32)) hin72 (g := (mkF m 97 #[.val (.int i0), .val (.int i1), .val (.int i2), .unset, .unset] [(.int (57343 : Int32)), (.int (16 : Int32)), (.ref b55), (.ref b55)])) rfl rfl (hb hby at_97)
  have V72 : own_AF Z h72 b55 .int 25 (fun i => if i = 16 then (57343 : Int32) else gf71 i) := own_AFset Ar72 Sz72 Ht72 W72
  obtain ⟨gf72, hgf72⟩ : ∃ g' : Nat → Int32, g' = (fun i => if i = 16 then (57343 : Int32) else gf71 i) := ⟨_, rfl⟩
  rw [← hgf72] at V72
  have N72 := Fr.snoc X72 N71 fr55
  have Z072 : n0 ≤ h72.size := Nat.le_trans Z071 (Nat.le_of_eq W72.size.symm)
  refine own_step st72 ?_
  show own_Fin p e below s Q 16 128 (T72.setTop (mkF m 98 #[.val (.int i0), .val (.int i1), .val (.int i2), .unset, .unset] [(.ref b55)]))
  refine own_step (fun t k => XS.dup X72.here hx rfl (hb hby at_98) rfl rfl k) ?_
  show own_Fin p e below s Q 16 128 (T72.setTop (mkF m 99 #[.val (.int i0), .val (.int i1), .val (.int i2), .unset, .unset] [(.ref b55), (.ref b55)]))
  refine own_step (fun t k => XS.bipush X72.here hx rfl (hb hby at_99) k) ?_
  show own_Fin p e below s Q 16 128 (T72.setTop (mkF m 101 #[.val (.int i0), .val (.int i1), .val (.int i2), .unset, .unset] [(.int (17 : Int32)), (.ref b55), (.ref b55)]))
  refine own_step (X72.ldcInt hx hown (mvT hZ (hw _ (List.mem_of_getElem? (i := 7) rfl))) (g := (mkF m 101 #[.val (.int i0), .val (.int i1), .val (.int i2), .unset, .unset] [(.int (17 : Int32)), (.ref b55), (.ref b55)])) rfl (hb hby at_101)) ?_
  show own_Fin p e below s Q 16 128 (T72.setTop (mkF m 103 #[.val (.int i0), .val (.int i1), .val (.int i2), .unset, .unset] [(.int (57344 : Int32)), (.int (17 : Int32)), (.ref b55), (.ref b55)]))
  obtain ⟨ca73, Ar73, Sz73, Ht73⟩ := id V72
  have hin73 : ¬ ((17 : Int32) < 0 ∨ ca73.slots.size ≤ ((17 : Int32)).toNatClampNeg) := by rw [Sz73]; exact (by decide)
  obtain ⟨T73, h73, X73, e73, W73, st73⟩ := stI X72 hx hZ e72 Ar73 (j := (17 : Int32)) hin73 (g := (mkF m 103 #[.val (.int i0), .val (.int i1), .val (.int i2), .unset, .unset] [(.int (57344 : Int32)), (.int (17 : Int32)), (.ref b55), (.ref b55)])) rfl rfl (hb hby at_103)
  have V73 : own_AF Z h73 b55 .int 25 (fun i => if i = 17 then (57344 : Int32) else gf72 i) := own_AFset Ar73 Sz73 Ht73 W73
  obtain ⟨gf73, hgf73⟩ : ∃ g' : Nat → Int32, g' = (fun i => if i = 17 then (57344 : Int32) else gf72 i) := ⟨_, rfl⟩
  rw [← hgf73] at V73
  have N73 := Fr.snoc X73 N72 fr55
  have Z073 : n0 ≤ h73.size := Nat.le_trans Z072 (Nat.le_of_eq W73.size.symm)
  refine own_step st73 ?_
  show own_Fin p e below s Q 16 128 (T73.setTop (mkF m 104 #[.val (.int i0), .val (.int i1), .val (.int i2), .unset, .unset] [(.ref b55)]))
  refine own_step (fun t k => XS.dup X73.here hx rfl (hb hby at_104) rfl rfl k) ?_
  show own_Fin p e below s Q 16 128 (T73.setTop (mkF m 105 #[.val (.int i0), .val (.int i1), .val (.int i2), .unset, .unset] [(.ref b55), (.ref b55)]))
  refine own_step (fun t k => XS.bipush X73.here hx rfl (hb hby at_105) k) ?_
  show own_Fin p e below s Q 16 128 (T73.setTop (mkF m 107 #[.val (.int i0), .val (.int i1), .val (.int i2), .unset, .unset] [(.int (18 : Int32)), (.ref b55), (.ref b55)]))
  refine own_step (X73.ldcInt hx hown (mvT hZ (hw _ (List.mem_of_getElem? (i := 8) rfl))) (g := (mkF m 107 #[.val (.int i0), .val (.int i1), .val (.int i2), .unset, .unset] [(.int (18 : Int32)), (.ref b55), (.ref b55)])) rfl (hb hby at_107)) ?_
  show own_Fin p e below s Q 16 128 (T73.setTop (mkF m 109 #[.val (.int i0), .val (.int i1), .val (.int i2), .unset, .unset] [(.int (65533 : Int32)), (.int (18 : Int32)), (.ref b55), (.ref b55)]))
  obtain ⟨ca74, Ar74, Sz74, Ht74⟩ := id V73
  have hin74 : ¬ ((18 : Int32) < 0 ∨ ca74.slots.size ≤ ((18 : Int32)).toNatClampNeg) := by rw [Sz74]; exact (by decide)
  obtain ⟨T74, h74, X74, e74, W74, st74⟩ := stI X73 hx hZ e73 Ar74 (j := (18 : Int32)) hin74 (g := (mkF m 109 #[.val (.int i0), .val (.int i1), .val (.int i2), .unset, .unset] [(.int (65533 : Int32)), (.int (18 : Int32)), (.ref b55), (.ref b55)])) rfl rfl (hb hby at_109)
  have V74 : own_AF Z h74 b55 .int 25 (fun i => if i = 18 then (65533 : Int32) else gf73 i) := own_AFset Ar74 Sz74 Ht74 W74
  obtain ⟨gf74, hgf74⟩ : ∃ g' : Nat → Int32, g' = (fun i => if i = 18 then (65533 : Int32) else gf73 i) := ⟨_, rfl⟩
  rw [← hgf74] at V74
  have N74 := Fr.snoc X74 N73 fr55
  have Z074 : n0 ≤ h74.size := Nat.le_trans Z073 (Nat.le_of_eq W74.size.symm)
  refine own_step st74 ?_
  show own_Fin p e below s Q 16 128 (T74.setTop (mkF m 110 #[.val (.int i0), .val (.int i1), .val (.int i2), .unset, .unset] [(.ref b55)]))
  refine own_step (fun t k => XS.dup X74.here hx rfl (hb hby at_110) rfl rfl k) ?_
  show own_Fin p e below s Q 16 128 (T74.setTop (mkF m 111 #[.val (.int i0), .val (.int i1), .val (.int i2), .unset, .unset] [(.ref b55), (.ref b55)]))
  refine own_step (fun t k => XS.bipush X74.here hx rfl (hb hby at_111) k) ?_
  show own_Fin p e below s Q 16 128 (T74.setTop (mkF m 113 #[.val (.int i0), .val (.int i1), .val (.int i2), .unset, .unset] [(.int (19 : Int32)), (.ref b55), (.ref b55)]))
  refine own_step (X74.ldcInt hx hown (mvT hZ (hw _ (List.mem_of_getElem? (i := 9) rfl))) (g := (mkF m 113 #[.val (.int i0), .val (.int i1), .val (.int i2), .unset, .unset] [(.int (19 : Int32)), (.ref b55), (.ref b55)])) rfl (hb hby at_113)) ?_
  show own_Fin p e below s Q 16 128 (T74.setTop (mkF m 115 #[.val (.int i0), .val (.int i1), .val (.int i2), .unset, .unset] [(.int (65534 : Int32)), (.int (19 : Int32)), (.ref b55), (.ref b55)]))
  obtain ⟨ca75, Ar75, Sz75, Ht75⟩ := id V74
  have hin75 : ¬ ((19 : Int32) < 0 ∨ ca75.slots.size ≤ ((19 : Int32)).toNatClampNeg) := by rw [Sz75]; exact (by decide)
  obtain ⟨T75, h75, X75, e75, W75, st75⟩ := stI X74 hx hZ e74 Ar75 (j := (19 : Int32)) hin75 (g := (mkF m 115 #[.val (.int i0), .val (.int i1), .val (.int i2), .unset, .unset] [(.int (65534 : Int32)), (.int (19 : Int32)), (.ref b55), (.ref b55)])) rfl rfl (hb hby at_115)
  have V75 : own_AF Z h75 b55 .int 25 (fun i => if i = 19 then (65534 : Int32) else gf74 i) := own_AFset Ar75 Sz75 Ht75 W75
  obtain ⟨gf75, hgf75⟩ : ∃ g' : Nat → Int32, g' = (fun i => if i = 19 then (65534 : Int32) else gf74 i) := ⟨_, rfl⟩
  rw [← hgf75] at V75
  have N75 := Fr.snoc X75 N74 fr55
  have Z075 : n0 ≤ h75.size := Nat.le_trans Z074 (Nat.le_of_eq W75.size.symm)
  refine own_step st75 ?_
  show own_Fin p e below s Q 16 128 (T75.setTop (mkF m 116 #[.val (.int i0), .val (.int i1), .val (.int i2), .unset, .unset] [(.ref b55)]))
  refine own_step (fun t k => XS.dup X75.here hx rfl (hb hby at_116) rfl rfl k) ?_
  show own_Fin p e below s Q 16 128 (T75.setTop (mkF m 117 #[.val (.int i0), .val (.int i1), .val (.int i2), .unset, .unset] [(.ref b55), (.ref b55)]))
  refine own_step (fun t k => XS.bipush X75.here hx rfl (hb hby at_117) k) ?_
  show own_Fin p e below s Q 16 128 (T75.setTop (mkF m 119 #[.val (.int i0), .val (.int i1), .val (.int i2), .unset, .unset] [(.int (20 : Int32)), (.ref b55), (.ref b55)]))
  refine own_step (X75.ldcInt hx hown (mvT hZ (hw _ (List.mem_of_getElem? (i := 10) rfl))) (g := (mkF m 119 #[.val (.int i0), .val (.int i1), .val (.int i2), .unset, .unset] [(.int (20 : Int32)), (.ref b55), (.ref b55)])) rfl (hb hby at_119)) ?_
  show own_Fin p e below s Q 16 128 (T75.setTop (mkF m 121 #[.val (.int i0), .val (.int i1), .val (.int i2), .unset, .unset] [(.int (65535 : Int32)), (.int (20 : Int32)), (.ref b55), (.ref b55)]))
  obtain ⟨ca76, Ar76, Sz76, Ht76⟩ := id V75
  have hin76 : ¬ ((20 : Int32) < 0 ∨ ca76.slots.size ≤ ((20 : Int32)).toNatClampNeg) := by rw [Sz76]; exact (by decide)
  obtain ⟨T76, h76, X76, e76, W76, st76⟩ := stI X75 hx hZ e75 Ar76 (j := (20 : Int32)) hin76 (g := (mkF m 121 #[.val (.int i0), .val (.int i1), .val (.int i2), .unset, .unset] [(.int (65535 : Int32)), (.int (20 : Int32)), (.ref b55), (.ref b55)])) rfl rfl (hb hby at_121)
  have V76 : own_AF Z h76 b55 .int 25 (fun i => if i = 20 then (65535 : Int32) else gf75 i) := own_AFset Ar76 Sz76 Ht76 W76
  obtain ⟨gf76, hgf76⟩ : ∃ g' : Nat → Int32, g' = (fun i => if i = 20 then (65535 : Int32) else gf75 i) := ⟨_, rfl⟩
  rw [← hgf76] at V76
  have N76 := Fr.snoc X76 N75 fr55
  have Z076 : n0 ≤ h76.size := Nat.le_trans Z075 (Nat.le_of_eq W76.size.symm)
  refine own_step st76 ?_
  show own_Fin p e below s Q 16 128 (T76.setTop (mkF m 122 #[.val (.int i0), .val (.int i1), .val (.int i2), .unset, .unset] [(.ref b55)]))
  refine own_step (fun t k => XS.dup X76.here hx rfl (hb hby at_122) rfl rfl k) ?_
  show own_Fin p e below s Q 16 128 (T76.setTop (mkF m 123 #[.val (.int i0), .val (.int i1), .val (.int i2), .unset, .unset] [(.ref b55), (.ref b55)]))
  refine own_step (fun t k => XS.bipush X76.here hx rfl (hb hby at_123) k) ?_
  show own_Fin p e below s Q 16 128 (T76.setTop (mkF m 125 #[.val (.int i0), .val (.int i1), .val (.int i2), .unset, .unset] [(.int (21 : Int32)), (.ref b55), (.ref b55)]))
  refine own_step (X76.ldcInt hx hown (mvT hZ (hw _ (List.mem_of_getElem? (i := 11) rfl))) (g := (mkF m 125 #[.val (.int i0), .val (.int i1), .val (.int i2), .unset, .unset] [(.int (21 : Int32)), (.ref b55), (.ref b55)])) rfl (hb hby at_125)) ?_
  show own_Fin p e below s Q 16 128 (T76.setTop (mkF m 127 #[.val (.int i0), .val (.int i1), .val (.int i2), .unset, .unset] [(.int (65536 : Int32)), (.int (21 : Int32)), (.ref b55), (.ref b55)]))
  obtain ⟨ca77, Ar77, Sz77, Ht77⟩ := id V76
  have hin77 : ¬ ((21 : Int32) < 0 ∨ ca77.slots.size ≤ ((21 : Int32)).toNatClampNeg) := by rw [Sz77]; exact (by decide)
  obtain ⟨T77, h77, X77, e77, W77, st77⟩ := stI X76 hx hZ e76 Ar77 (j := (21 : Int32)) hin77 (g := (mkF m 127 #[.val (.int i0), .val (.int i1), .val (.int i2), .unset, .unset] [(.int (65536 : Int32)), (.int (21 : Int32)), (.ref b55), (.ref b55)])) rfl rfl (hb hby at_127)
  have V77 : own_AF Z h77 b55 .int 25 (fun i => if i = 21 then (65536 : Int32) else gf76 i) := own_AFset Ar77 Sz77 Ht77 W77
  obtain ⟨gf77, hgf77⟩ : ∃ g' : Nat → Int32, g' = (fun i => if i = 21 then (65536 : Int32) else gf76 i) := ⟨_, rfl⟩
  rw [← hgf77] at V77
  have N77 := Fr.snoc X77 N76 fr55
  have Z077 : n0 ≤ h77.size := Nat.le_trans Z076 (Nat.le_of_eq W77.size.symm)
  refine own_step st77 ?_
  show own_Fin p e below s Q 16 128 (T77.setTop (mkF m 128 #[.val (.int i0), .val (.int i1), .val (.int i2), .unset, .unset] [(.ref b55)]))
  refine own_step (fun t k => XS.dup X77.here hx rfl (hb hby at_128) rfl rfl k) ?_
  show own_Fin p e below s Q 16 128 (T77.setTop (mkF m 129 #[.val (.int i0), .val (.int i1), .val (.int i2), .unset, .unset] [(.ref b55), (.ref b55)]))
  refine own_step (fun t k => XS.bipush X77.here hx rfl (hb hby at_129) k) ?_
  show own_Fin p e below s Q 16 128 (T77.setTop (mkF m 131 #[.val (.int i0), .val (.int i1), .val (.int i2), .unset, .unset] [(.int (22 : Int32)), (.ref b55), (.ref b55)]))
  refine own_step (X77.ldcInt hx hown (mvT hZ (hw _ (List.mem_of_getElem? (i := 12) rfl))) (g := (mkF m 131 #[.val (.int i0), .val (.int i1), .val (.int i2), .unset, .unset] [(.int (22 : Int32)), (.ref b55), (.ref b55)])) rfl (hb hby at_131)) ?_
  show own_Fin p e below s Q 16 128 (T77.setTop (mkF m 133 #[.val (.int i0), .val (.int i1), .val (.int i2), .unset, .unset] [(.int (1114111 : Int32)), (.int (22 : Int32)), (.ref b55), (.ref b55)]))
  obtain ⟨ca78, Ar78, Sz78, Ht78⟩ := id V77
  have hin78 : ¬ ((22 : Int32) < 0 ∨ ca78.slots.size ≤ ((22 : Int32)).toNatClampNeg) := by rw [Sz78]; exact (by decide)
  obtain ⟨T78, h78, X78, e78, W78, st78⟩ := stI X77 hx hZ e77 Ar78 (j := (22 : Int32)) hin78 (g := (mkF m 133 #[.val (.int i0), .val (.int i1), .val (.int i2), .unset, .unset] [(.int (1114111 : Int32)), (.int (22 : Int32)), (.ref b55), (.ref b55)])) rfl rfl (hb hby at_133)
  have V78 : own_AF Z h78 b55 .int 25 (fun i => if i = 22 then (1114111 : Int32) else gf77 i) := own_AFset Ar78 Sz78 Ht78 W78
  obtain ⟨gf78, hgf78⟩ : ∃ g' : Nat → Int32, g' = (fun i => if i = 22 then (1114111 : Int32) else gf77 i) := ⟨_, rfl⟩
  rw [← hgf78] at V78
  have N78 := Fr.snoc X78 N77 fr55
  have Z078 : n0 ≤ h78.size := Nat.le_trans Z077 (Nat.le_of_eq W78.size.symm)
  refine own_step st78 ?_
  show own_Fin p e below s Q 16 128 (T78.setTop (mkF m 134 #[.val (.int i0), .val (.int i1), .val (.int i2), .unset, .unset] [(.ref b55)]))
  refine own_step (fun t k => XS.dup X78.here hx rfl (hb hby at_134) rfl rfl k) ?_
  show own_Fin p e below s Q 16 128 (T78.setTop (mkF m 135 #[.val (.int i0), .val (.int i1), .val (.int i2), .unset, .unset] [(.ref b55), (.ref b55)]))
  refine own_step (fun t k => XS.bipush X78.here hx rfl (hb hby at_135) k) ?_
  show own_Fin p e below s Q 16 128 (T78.setTop (mkF m 137 #[.val (.int i0), .val (.int i1), .val (.int i2), .unset, .unset] [(.int (23 : Int32)), (.ref b55), (.ref b55)]))
  refine own_step (X78.ldcInt hx hown (mvT hZ (hw _ (List.mem_of_getElem? (i := 13) rfl))) (g := (mkF m 137 #[.val (.int i0), .val (.int i1), .val (.int i2), .unset, .unset] [(.int (23 : Int32)), (.ref b55), (.ref b55)])) rfl (hb hby at_137)) ?_
  show own_Fin p e below s Q 16 128 (T78.setTop (mkF m 139 #[.val (.int i0), .val (.int i1), .val (.int i2), .unset, .unset] [(.int (1114112 : Int32)), (.int (23 : Int32)), (.ref b55), (.ref b55)]))
  obtain ⟨ca79, Ar79, Sz79, Ht79⟩ := id V78
  have hin79 : ¬ ((23 : Int32) < 0 ∨ ca79.slots.size ≤ ((23 : Int32)).toNatClampNeg) := by rw [Sz79]; exact (by decide)
  obtain ⟨T79, h79, X79, e79, W79, st79⟩ := stI X78 hx hZ e78 Ar79 (j := (23 : Int32)) hin79 (g := (mkF m 139 #[.val (.int i0), .val (.int i1), .val (.int i2), .unset, .unset] [(.int (1114112 : Int32)), (.int (23 : Int32)), (.ref b55), (.ref b55)])) rfl rfl (hb hby at_139)
  have V79 : own_AF Z h79 b55 .int 25 (fun i => if i = 23 then (1114112 : Int32) else gf78 i) := own_AFset Ar79 Sz79 Ht79 W79
  obtain ⟨gf79, hgf79⟩ : ∃ g' : Nat → Int32, g' = (fun i => if i = 23 then (1114112 : Int32) else gf78 i) := ⟨_, rfl⟩
  rw [← hgf79] at V79
  have N79 := Fr.snoc X79 N78 fr55
  have Z079 : n0 ≤ h79.size := Nat.le_trans Z078 (Nat.le_of_eq W79.size.symm)
  refine own_step st79 ?_
  show own_Fin p e below s Q 16 128 (T79.setTop (mkF m 140 #[.val (.int i0), .val (.int i1), .val (.int i2), .unset, .unset] [(.ref b55)]))
  refine own_step (fun t k => XS.dup X79.here hx rfl (hb hby at_140) rfl rfl k) ?_
  show own_Fin p e below s Q 16 128 (T79.setTop (mkF m 141 #[.val (.int i0), .val (.int i1), .val (.int i2), .unset, .unset] [(.ref b55), (.ref b55)]))
  refine own_step (fun t k => XS.bipush X79.here hx rfl (hb hby at_141) k) ?_
  show own_Fin p e below s Q 16 128 (T79.setTop (mkF m 143 #[.val (.int i0), .val (.int i1), .val (.int i2), .unset, .unset] [(.int (24 : Int32)), (.ref b55), (.ref b55)]))
  refine own_step (X79.ldcInt hx hown (mvT hZ (hw _ (List.mem_of_getElem? (i := 14) rfl))) (g := (mkF m 143 #[.val (.int i0), .val (.int i1), .val (.int i2), .unset, .unset] [(.int (24 : Int32)), (.ref b55), (.ref b55)])) rfl (hb hby at_143)) ?_
  show own_Fin p e below s Q 16 128 (T79.setTop (mkF m 145 #[.val (.int i0), .val (.int i1), .val (.int i2), .unset, .unset] [(.int (2147483647 : Int32)), (.int (24 : Int32)), (.ref b55), (.ref b55)]))
  obtain ⟨ca80, Ar80, Sz80, Ht80⟩ := id V79
  have hin80 : ¬ ((24 : Int32) < 0 ∨ ca80.slots.size ≤ ((24 : Int32)).toNatClampNeg) := by rw [Sz80]; exact (by decide)
  obtain ⟨T80, h80, X80, e80, W80, st80⟩ := stI X79 hx hZ e79 Ar80 (j := (24 : Int32)) hin80 (g := (mkF m 145 #[.val (.int i0), .val (.int i1), .val (.int i2), .unset, .unset] [(.int (2147483647 : Int32)), (.int (24 : Int32)), (.ref b55), (.ref b55)])) rfl rfl (hb hby at_145)
  have V80 : own_AF Z h80 b55 .int 25 (fun i => if i = 24 then (2147483647 : Int32) else gf79 i) := own_AFset Ar80 Sz80 Ht80 W80
  obtain ⟨gf80, hgf80⟩ : ∃ g' : Nat → Int32, g' = (fun i => if i = 24 then (2147483647 : Int32) else gf79 i) := ⟨_, rfl⟩
  rw [← hgf80] at V80
  have N80 := Fr.snoc X80 N79 fr55
  have Z080 : n0 ≤ h80.size := Nat.le_trans Z079 (Nat.le_of_eq W80.size.symm)
  refine own_step st80 ?_
  show own_Fin p e below s Q 16 128 (T80.setTop (mkF m 146 #[.val (.int i0), .val (.int i1), .val (.int i2), .unset, .unset] [(.ref b55)]))
  refine own_step (fun t k => XS.astoreN X80.here hx rfl (hb hby at_146) rfl rfl (l' := #[.val (.int i0), .val (.int i1), .val (.int i2), .val (.ref b55), .unset]) rfl k) ?_
  show own_Fin p e below s Q 16 128 (T80.setTop (mkF m 147 #[.val (.int i0), .val (.int i1), .val (.int i2), .val (.ref b55), .unset] []))
  refine own_step (fun t k => XS.aloadN X80.here hx rfl (hb hby at_147) rfl rfl k) ?_
  show own_Fin p e below s Q 16 128 (T80.setTop (mkF m 148 #[.val (.int i0), .val (.int i1), .val (.int i2), .val (.ref b55), .unset] [(.ref b55)]))
  refine own_step (fun t k => XS.iloadN X80.here hx rfl (hb hby at_148) rfl  k) ?_
  show own_Fin p e below s Q 16 128 (T80.setTop (mkF m 149 #[.val (.int i0), .val (.int i1), .val (.int i2), .val (.ref b55), .unset] [(.int i1), (.ref b55)]))
  refine own_step (X80.ldcInt hx hown (mvT hZ (hw _ (List.mem_of_getElem? (i := 14) rfl))) (g := (mkF m 149 #[.val (.int i0), .val (.int i1), .val (.int i2), .val (.ref b55), .unset] [(.int i1), (.ref b55)])) rfl (hb hby at_149)) ?_
  show own_Fin p e below s Q 16 128 (T80.setTop (mkF m 151 #[.val (.int i0), .val (.int i1), .val (.int i2), .val (.ref b55), .unset] [(.int (2147483647 : Int32)), (.int i1), (.ref b55)]))
  refine own_step (fun t k => XS.iand X80.here hx rfl (hb hby at_151) rfl k) ?_
  show own_Fin p e below s Q 16 128 (T80.setTop (mkF m 152 #[.val (.int i0), .val (.int i1), .val (.int i2), .val (.ref b55), .unset] [(.int (i1 &&& (2147483647 : Int32))), (.ref b55)]))
  refine own_step (fun t k => XS.aloadN X80.here hx rfl (hb hby at_152) rfl rfl k) ?_
  show own_Fin p e below s Q 16 128 (T80.setTop (mkF m 153 #[.val (.int i0), .val (.int i1), .val (.int i2), .val (.ref b55), .unset] [(.ref b55), (.int (i1 &&& (2147483647 : Int32))), (.ref b55)]))
  obtain ⟨ca153, Ar153, Sz153, Ht153⟩ := id V80
  refine own_step (X80.arraylength hx (by rw [e80]; exact Ar153.1) (State.isArrayOf_alike hZ.alike Ar153.2.1) (g := (mkF m 153 #[.val (.int i0), .val (.int i1), .val (.int i2), .val (.ref b55), .unset] [(.ref b55), (.int (i1 &&& (2147483647 : Int32))), (.ref b55)])) rfl rfl (hb hby at_153)) ?_
  rw [Sz153]
  show own_Fin p e below s Q 16 128 (T80.setTop (mkF m 154 #[.val (.int i0), .val (.int i1), .val (.int i2), .val (.ref b55), .unset] [(.int (25 : Int32)), (.int (i1 &&& (2147483647 : Int32))), (.ref b55)]))
  refine own_step (fun t k => XS.irem X80.here hx rfl (hb hby at_154) rfl (by decide) k) ?_
  rw [irem_eq_mod (i1 &&& (2147483647 : Int32)) (25 : Int32)]
  show own_Fin p e below s Q 16 128 (T80.setTop (mkF m 155 #[.val (.int i0), .val (.int i1), .val (.int i2), .val (.ref b55), .unset] [(.int ((i1 &&& (2147483647 : Int32)) % (25 : Int32))), (.ref b55)]))
  obtain ⟨ca155, Ar155, Sz155, Ht155⟩ := id V80
  have hin155 : ¬ (((i1 &&& (2147483647 : Int32)) % (25 : Int32)) < 0 ∨ ca155.slots.size ≤ (((i1 &&& (2147483647 : Int32)) % (25 : Int32))).toNatClampNeg) := by rw [Sz155]; exact own_in i1
  refine own_step (X80.iaload hx (j := ((i1 &&& (2147483647 : Int32)) % (25 : Int32))) (v := (.int (gf80 (((i1 &&& (2147483647 : Int32)) % (25 : Int32))).toNatClampNeg))) (by rw [e80]; exact Ar155.1) (State.isArrayOf_alike hZ.alike Ar155.2.1) Ar155.2.2 hin155 (Ht155 _ (by have hq := Nat.lt_of_not_le (fun y => hin155 (Or.inr y)); rw [Sz155] at hq; exact hq)) (g := (mkF m 155 #[.val (.int i0), .val (.int i1), .val (.int i2), .val (.ref b55), .unset] [(.int ((i1 &&& (2147483647 : Int32)) % (25 : Int32))), (.ref b55)])) rfl rfl (hb hby at_155)) ?_
  show own_Fin p e below s Q 16 128 (T80.setTop (mkF m 156 #[.val (.int i0), .val (.int i1), .val (.int i2), .val (.ref b55), .unset] [(.int (gf80 (((i1 &&& (2147483647 : Int32)) % (25 : Int32))).toNatClampNeg))]))
  refine own_step (fun t k => XS.iloadN X80.here hx rfl (hb hby at_156) rfl  k) ?_
  show own_Fin p e below s Q 16 128 (T80.setTop (mkF m 157 #[.val (.int i0), .val (.int i1), .val (.int i2), .val (.ref b55), .unset] [(.int i2), (.int (gf80 (((i1 &&& (2147483647 : Int32)) % (25 : Int32))).toNatClampNeg))]))
  refine own_step (fun t k => XS.iconst X80.here hx rfl (hb hby at_157) k) ?_
  show own_Fin p e below s Q 16 128 (T80.setTop (mkF m 158 #[.val (.int i0), .val (.int i1), .val (.int i2), .val (.ref b55), .unset] [(.int (3 : Int32)), (.int i2), (.int (gf80 (((i1 &&& (2147483647 : Int32)) % (25 : Int32))).toNatClampNeg))]))
  refine own_step (fun t k => XS.iand X80.here hx rfl (hb hby at_158) rfl k) ?_
  show own_Fin p e below s Q 16 128 (T80.setTop (mkF m 159 #[.val (.int i0), .val (.int i1), .val (.int i2), .val (.ref b55), .unset] [(.int (i2 &&& (3 : Int32))), (.int (gf80 (((i1 &&& (2147483647 : Int32)) % (25 : Int32))).toNatClampNeg))]))
  refine own_step (fun t k => XS.iconst X80.here hx rfl (hb hby at_159) k) ?_
  show own_Fin p e below s Q 16 128 (T80.setTop (mkF m 160 #[.val (.int i0), .val (.int i1), .val (.int i2), .val (.ref b55), .unset] [(.int (1 : Int32)), (.int (i2 &&& (3 : Int32))), (.int (gf80 (((i1 &&& (2147483647 : Int32)) % (25 : Int32))).toNatClampNeg))]))
  refine own_step (fun t k => XS.isub X80.here hx rfl (hb hby at_160) rfl k) ?_
  show own_Fin p e below s Q 16 128 (T80.setTop (mkF m 161 #[.val (.int i0), .val (.int i1), .val (.int i2), .val (.ref b55), .unset] [(.int ((i2 &&& (3 : Int32)) - (1 : Int32))), (.int (gf80 (((i1 &&& (2147483647 : Int32)) % (25 : Int32))).toNatClampNeg))]))
  refine own_step (fun t k => XS.iadd X80.here hx rfl (hb hby at_161) rfl k) ?_
  show own_Fin p e below s Q 16 128 (T80.setTop (mkF m 162 #[.val (.int i0), .val (.int i1), .val (.int i2), .val (.ref b55), .unset] [(.int ((gf80 (((i1 &&& (2147483647 : Int32)) % (25 : Int32))).toNatClampNeg) + ((i2 &&& (3 : Int32)) - (1 : Int32))))]))
  refine own_step (fun t k => XS.istore X80.here hx rfl (hb hby at_162) rfl (l' := #[.val (.int i0), .val (.int i1), .val (.int i2), .val (.ref b55), .val (.int ((gf80 (((i1 &&& (2147483647 : Int32)) % (25 : Int32))).toNatClampNeg) + ((i2 &&& (3 : Int32)) - (1 : Int32))))]) rfl k) ?_
  show own_Fin p e below s Q 16 128 (T80.setTop (mkF m 164 #[.val (.int i0), .val (.int i1), .val (.int i2), .val (.ref b55), .val (.int ((gf80 (((i1 &&& (2147483647 : Int32)) % (25 : Int32))).toNatClampNeg) + ((i2 &&& (3 : Int32)) - (1 : Int32))))] []))
  refine own_step (fun t k => XS.iloadN X80.here hx rfl (hb hby at_164) rfl  k) ?_
  show own_Fin p e below s Q 16 128 (T80.setTop (mkF m 165 #[.val (.int i0), .val (.int i1), .val (.int i2), .val (.ref b55), .val (.int ((gf80 (((i1 &&& (2147483647 : Int32)) % (25 : Int32))).toNatClampNeg) + ((i2 &&& (3 : Int32)) - (1 : Int32))))] [(.int i0)]))
  obtain ⟨_, _, ⟨T81, L81, k81, n81⟩, -, X81, ⟨Lc81, hQ81, l81, y81, z81⟩, st81⟩ := Jvm.LawKit.callS X80 hx (y := (⟨"com/example/caddisfly/caddisfly/template/Text", "isXmlChar", "(I)Z"⟩ : MethodName)) hown (mvT hZ (hw _ (List.mem_of_getElem? (i := 15) rfl))) (mvT hZ (hw _ (List.mem_of_getElem? (i := 16) rfl))) (mvT hZ (hw _ (List.mem_of_getElem? (i := 17) rfl))) (mvT hZ (hw _ (List.mem_of_getElem? (i := 18) rfl))) (by decide) (backOf (W := 0) (rm1 l Z a0 hw [] i0 h80 n0) hZ (hw _ (List.mem_of_getElem? (i := 18) rfl)) (hw _ (List.mem_of_getElem? (i := 17) rfl)) (by decide) (by decide)) (g := (mkF m 165 #[.val (.int i0), .val (.int i1), .val (.int i2), .val (.ref b55), .val (.int ((gf80 (((i1 &&& (2147483647 : Int32)) % (25 : Int32))).toNatClampNeg) + ((i2 &&& (3 : Int32)) - (1 : Int32))))] [(.int i0)])) rfl (by rw [hml]; rfl) (argsL := [(.int i0)]) (rest := []) (lenOf pdm_0 rfl) rfl (by show 2 * 0 + _ ≤ _; exact Nat.le_of_eq rfl) (hb hby at_165) (fun _ _ => ⟨rfl, e80, (show cells + 1 + 0 ≤ 16 from (Nat.le_trans (Nat.add_le_add_right hc 1) (by decide))), (show slots + 25 + 0 ≤ 128 from (Nat.le_trans (Nat.add_le_add_right hs 25) (by decide)))⟩)
  dsimp only [Pt.U, Pt.locs, Pt.cells, Pt.slots] at X81 l81 y81 z81 st81 hQ81
  have yy81 : k81 = cells + 1 + 0 := y81
  have zz81 : n81 = slots + 25 + 0 := z81
  rw [yy81, zz81, l81] at X81
  obtain ⟨rfl, N81q, e81⟩ := hQ81
  have N81 := Fr.app N80 N81q
  refine own_step st81 ?_
  show own_Fin p e below s Q 16 128 (T81.setTop (mkF m 168 #[.val (.int i0), .val (.int i1), .val (.int i2), .val (.ref b55), .val (.int ((gf80 (((i1 &&& (2147483647 : Int32)) % (25 : Int32))).toNatClampNeg) + ((i2 &&& (3 : Int32)) - (1 : Int32))))] [(.int (f1_0 i0))]))
  refine own_step (fun t k => XS.iloadN X81.here hx rfl (hb hby at_168) rfl  k) ?_
  show own_Fin p e below s Q 16 128 (T81.setTop (mkF m 169 #[.val (.int i0), .val (.int i1), .val (.int i2), .val (.ref b55), .val (.int ((gf80 (((i1 &&& (2147483647 : Int32)) % (25 : Int32))).toNatClampNeg) + ((i2 &&& (3 : Int32)) - (1 : Int32))))] [(.int i0), (.int (f1_0 i0))]))
  obtain ⟨_, _, ⟨T82, L82, k82, n82⟩, -, X82, ⟨Lc82, hQ82, l82, y82, z82⟩, st82⟩ := Jvm.LawKit.callS X81 hx (y := (⟨"com/example/caddisfly/caddisfly/template/TextIsXmlCharPinLaw", "reference", "(I)Z"⟩ : MethodName)) hown (mvT hZ (hw _ (List.mem_of_getElem? (i := 21) rfl))) (mvT hZ (hw _ (List.mem_of_getElem? (i := 22) rfl))) (mvT hZ (hw _ (List.mem_of_getElem? (i := 23) rfl))) (mvT hZ (hw _ (List.mem_of_getElem? (i := 24) rfl))) (by decide) (backOf (W := 1) (rm2 l Z a0 hw [] i0 h80 n0) hZ (hw _ (List.mem_of_getElem? (i := 24) rfl)) (hw _ (List.mem_of_getElem? (i := 23) rfl)) (by decide) (by decide)) (g := (mkF m 169 #[.val (.int i0), .val (.int i1), .val (.int i2), .val (.ref b55), .val (.int ((gf80 (((i1 &&& (2147483647 : Int32)) % (25 : Int32))).toNatClampNeg) + ((i2 &&& (3 : Int32)) - (1 : Int32))))] [(.int i0), (.int (f1_0 i0))])) rfl (by rw [hml]; rfl) (argsL := [(.int i0)]) (rest := [(.int (f1_0 i0))]) (lenOf pdm_0 rfl) rfl (by show 2 * 0 + _ ≤ _; exact Nat.le_of_eq rfl) (hb hby at_169) (fun _ _ => ⟨rfl, e81, (show cells + 1 + 0 + 0 ≤ 16 from (Nat.le_trans (Nat.add_le_add_right hc 1) (by decide))), (show slots + 25 + 0 + 0 ≤ 128 from (Nat.le_trans (Nat.add_le_add_right hs 25) (by decide)))⟩)
  dsimp only [Pt.U, Pt.locs, Pt.cells, Pt.slots] at X82 l82 y82 z82 st82 hQ82
  have yy82 : k82 = cells + 1 + 0 + 0 := y82
  have zz82 : n82 = slots + 25 + 0 + 0 := z82
  rw [yy82, zz82, l82] at X82
  obtain ⟨rfl, N82q, e82⟩ := hQ82
  have N82 := Fr.app N81 N82q
  refine own_step st82 ?_
  show own_Fin p e below s Q 16 128 (T82.setTop (mkF m 172 #[.val (.int i0), .val (.int i1), .val (.int i2), .val (.ref b55), .val (.int ((gf80 (((i1 &&& (2147483647 : Int32)) % (25 : Int32))).toNatClampNeg) + ((i2 &&& (3 : Int32)) - (1 : Int32))))] [(.int (f2_0 i0)), (.int (f1_0 i0))]))
  refine own_step (fun t k => XS.icmpNo X82.here hx rfl (hb hby at_172) rfl (teq (own_eq _)).2 k) ?_
  show own_Fin p e below s Q 16 128 (T82.setTop (mkF m 175 #[.val (.int i0), .val (.int i1), .val (.int i2), .val (.ref b55), .val (.int ((gf80 (((i1 &&& (2147483647 : Int32)) % (25 : Int32))).toNatClampNeg) + ((i2 &&& (3 : Int32)) - (1 : Int32))))] []))
  refine own_step (fun t k => XS.iload X82.here hx rfl (hb hby at_175) rfl  k) ?_
  show own_Fin p e below s Q 16 128 (T82.setTop (mkF m 177 #[.val (.int i0), .val (.int i1), .val (.int i2), .val (.ref b55), .val (.int ((gf80 (((i1 &&& (2147483647 : Int32)) % (25 : Int32))).toNatClampNeg) + ((i2 &&& (3 : Int32)) - (1 : Int32))))] [(.int ((gf80 (((i1 &&& (2147483647 : Int32)) % (25 : Int32))).toNatClampNeg) + ((i2 &&& (3 : Int32)) - (1 : Int32))))]))
  obtain ⟨_, _, ⟨T83, L83, k83, n83⟩, -, X83, ⟨Lc83, hQ83, l83, y83, z83⟩, st83⟩ := Jvm.LawKit.callS X82 hx (y := (⟨"com/example/caddisfly/caddisfly/template/Text", "isXmlChar", "(I)Z"⟩ : MethodName)) hown (mvT hZ (hw _ (List.mem_of_getElem? (i := 15) rfl))) (mvT hZ (hw _ (List.mem_of_getElem? (i := 16) rfl))) (mvT hZ (hw _ (List.mem_of_getElem? (i := 17) rfl))) (mvT hZ (hw _ (List.mem_of_getElem? (i := 18) rfl))) (by decide) (backOf (W := 0) (rm1 l Z a0 hw [] ((gf80 (((i1 &&& (2147483647 : Int32)) % (25 : Int32))).toNatClampNeg) + ((i2 &&& (3 : Int32)) - (1 : Int32))) h80 n0) hZ (hw _ (List.mem_of_getElem? (i := 18) rfl)) (hw _ (List.mem_of_getElem? (i := 17) rfl)) (by decide) (by decide)) (g := (mkF m 177 #[.val (.int i0), .val (.int i1), .val (.int i2), .val (.ref b55), .val (.int ((gf80 (((i1 &&& (2147483647 : Int32)) % (25 : Int32))).toNatClampNeg) + ((i2 &&& (3 : Int32)) - (1 : Int32))))] [(.int ((gf80 (((i1 &&& (2147483647 : Int32)) % (25 : Int32))).toNatClampNeg) + ((i2 &&& (3 : Int32)) - (1 : Int32))))])) rfl (by rw [hml]; rfl) (argsL := [(.int ((gf80 (((i1 &&& (2147483647 : Int32)) % (25 : Int32))).toNatClampNeg) + ((i2 &&& (3 : Int32)) - (1 : Int32))))]) (rest := []) (lenOf pdm_0 rfl) rfl (by show 2 * 0 + _ ≤ _; exact Nat.le_of_eq rfl) (hb hby at_177) (fun _ _ => ⟨rfl, e82, (show cells + 1 + 0 + 0 + 0 ≤ 16 from (Nat.le_trans (Nat.add_le_add_right hc 1) (by decide))), (show slots + 25 + 0 + 0 + 0 ≤ 128 from (Nat.le_trans (Nat.add_le_add_right hs 25) (by decide)))⟩)
  dsimp only [Pt.U, Pt.locs, Pt.cells, Pt.slots] at X83 l83 y83 z83 st83 hQ83
  have yy83 : k83 = cells + 1 + 0 + 0 + 0 := y83
  have zz83 : n83 = slots + 25 + 0 + 0 + 0 := z83
  rw [yy83, zz83, l83] at X83
  obtain ⟨rfl, N83q, e83⟩ := hQ83
  have N83 := Fr.app N82 N83q
  refine own_step st83 ?_
  show own_Fin p e below s Q 16 128 (T83.setTop (mkF m 180 #[.val (.int i0), .val (.int i1), .val (.int i2), .val (.ref b55), .val (.int ((gf80 (((i1 &&& (2147483647 : Int32)) % (25 : Int32))).toNatClampNeg) + ((i2 &&& (3 : Int32)) - (1 : Int32))))] [(.int (f1_0 ((gf80 (((i1 &&& (2147483647 : Int32)) % (25 : Int32))).toNatClampNeg) + ((i2 &&& (3 : Int32)) - (1 : Int32)))))]))
  refine own_step (fun t k => XS.iload X83.here hx rfl (hb hby at_180) rfl  k) ?_
  show own_Fin p e below s Q 16 128 (T83.setTop (mkF m 182 #[.val (.int i0), .val (.int i1), .val (.int i2), .val (.ref b55), .val (.int ((gf80 (((i1 &&& (2147483647 : Int32)) % (25 : Int32))).toNatClampNeg) + ((i2 &&& (3 : Int32)) - (1 : Int32))))] [(.int ((gf80 (((i1 &&& (2147483647 : Int32)) % (25 : Int32))).toNatClampNeg) + ((i2 &&& (3 : Int32)) - (1 : Int32)))), (.int (f1_0 ((gf80 (((i1 &&& (2147483647 : Int32)) % (25 : Int32))).toNatClampNeg) + ((i2 &&& (3 : Int32)) - (1 : Int32)))))]))
  obtain ⟨_, _, ⟨T84, L84, k84, n84⟩, -, X84, ⟨Lc84, hQ84, l84, y84, z84⟩, st84⟩ := Jvm.LawKit.callS X83 hx (y := (⟨"com/example/caddisfly/caddisfly/template/TextIsXmlCharPinLaw", "reference", "(I)Z"⟩ : MethodName)) hown (mvT hZ (hw _ (List.mem_of_getElem? (i := 21) rfl))) (mvT hZ (hw _ (List.mem_of_getElem? (i := 22) rfl))) (mvT hZ (hw _ (List.mem_of_getElem? (i := 23) rfl))) (mvT hZ (hw _ (List.mem_of_getElem? (i := 24) rfl))) (by decide) (backOf (W := 1) (rm2 l Z a0 hw [] ((gf80 (((i1 &&& (2147483647 : Int32)) % (25 : Int32))).toNatClampNeg) + ((i2 &&& (3 : Int32)) - (1 : Int32))) h80 n0) hZ (hw _ (List.mem_of_getElem? (i := 24) rfl)) (hw _ (List.mem_of_getElem? (i := 23) rfl)) (by decide) (by decide)) (g := (mkF m 182 #[.val (.int i0), .val (.int i1), .val (.int i2), .val (.ref b55), .val (.int ((gf80 (((i1 &&& (2147483647 : Int32)) % (25 : Int32))).toNatClampNeg) + ((i2 &&& (3 : Int32)) - (1 : Int32))))] [(.int ((gf80 (((i1 &&& (2147483647 : Int32)) % (25 : Int32))).toNatClampNeg) + ((i2 &&& (3 : Int32)) - (1 : Int32)))), (.int (f1_0 ((gf80 (((i1 &&& (2147483647 : Int32)) % (25 : Int32))).toNatClampNeg) + ((i2 &&& (3 : Int32)) - (1 : Int32)))))])) rfl (by rw [hml]; rfl) (argsL := [(.int ((gf80 (((i1 &&& (2147483647 : Int32)) % (25 : Int32))).toNatClampNeg) + ((i2 &&& (3 : Int32)) - (1 : Int32))))]) (rest := [(.int (f1_0 ((gf80 (((i1 &&& (2147483647 : Int32)) % (25 : Int32))).toNatClampNeg) + ((i2 &&& (3 : Int32)) - (1 : Int32)))))]) (lenOf pdm_0 rfl) rfl (by show 2 * 0 + _ ≤ _; exact Nat.le_of_eq rfl) (hb hby at_182) (fun _ _ => ⟨rfl, e83, (show cells + 1 + 0 + 0 + 0 + 0 ≤ 16 from (Nat.le_trans (Nat.add_le_add_right hc 1) (by decide))), (show slots + 25 + 0 + 0 + 0 + 0 ≤ 128 from (Nat.le_trans (Nat.add_le_add_right hs 25) (by decide)))⟩)
  dsimp only [Pt.U, Pt.locs, Pt.cells, Pt.slots] at X84 l84 y84 z84 st84 hQ84
  have yy84 : k84 = cells + 1 + 0 + 0 + 0 + 0 := y84
  have zz84 : n84 = slots + 25 + 0 + 0 + 0 + 0 := z84
  rw [yy84, zz84, l84] at X84
  obtain ⟨rfl, N84q, e84⟩ := hQ84
  have N84 := Fr.app N83 N84q
  refine own_step st84 ?_
  show own_Fin p e below s Q 16 128 (T84.setTop (mkF m 185 #[.val (.int i0), .val (.int i1), .val (.int i2), .val (.ref b55), .val (.int ((gf80 (((i1 &&& (2147483647 : Int32)) % (25 : Int32))).toNatClampNeg) + ((i2 &&& (3 : Int32)) - (1 : Int32))))] [(.int (f2_0 ((gf80 (((i1 &&& (2147483647 : Int32)) % (25 : Int32))).toNatClampNeg) + ((i2 &&& (3 : Int32)) - (1 : Int32))))), (.int (f1_0 ((gf80 (((i1 &&& (2147483647 : Int32)) % (25 : Int32))).toNatClampNeg) + ((i2 &&& (3 : Int32)) - (1 : Int32)))))]))
  refine own_step (fun t k => XS.icmpNo X84.here hx rfl (hb hby at_185) rfl (teq (own_eq _)).2 k) ?_
  show own_Fin p e below s Q 16 128 (T84.setTop (mkF m 188 #[.val (.int i0), .val (.int i1), .val (.int i2), .val (.ref b55), .val (.int ((gf80 (((i1 &&& (2147483647 : Int32)) % (25 : Int32))).toNatClampNeg) + ((i2 &&& (3 : Int32)) - (1 : Int32))))] []))
  refine own_step (fun t k => XS.iconst X84.here hx rfl (hb hby at_188) k) ?_
  show own_Fin p e below s Q 16 128 (T84.setTop (mkF m 189 #[.val (.int i0), .val (.int i1), .val (.int i2), .val (.ref b55), .val (.int ((gf80 (((i1 &&& (2147483647 : Int32)) % (25 : Int32))).toNatClampNeg) + ((i2 &&& (3 : Int32)) - (1 : Int32))))] [(.int (1 : Int32))]))
  refine own_step (fun t k => XS.goto X84.here hx rfl (pc0 := 189) (pc' := 193) rfl (hb hby at_189) (by decide) (by decide) k) ?_
  show own_Fin p e below s Q 16 128 (T84.setTop (mkF m 193 #[.val (.int i0), .val (.int i1), .val (.int i2), .val (.ref b55), .val (.int ((gf80 (((i1 &&& (2147483647 : Int32)) % (25 : Int32))).toNatClampNeg) + ((i2 &&& (3 : Int32)) - (1 : Int32))))] [(.int (1 : Int32))]))
  exact own_retN X84 hx hlk hret (by simp) (hb hby at_193) (Nat.le_trans (Nat.add_le_add_right hc 1) (by decide)) (Nat.le_trans (Nat.add_le_add_right hs 25) (by decide)) rfl N84 (fun L' n' => hQ _ L' n') (rfl)
theorem pdm_1 : parseMethodDescriptor "(III)Z" = some ⟨[.int, .int, .int], some .boolean⟩ := by decide +kernel
theorem ef_0 (m : MethodId) (i0 : Int32) (i1 : Int32) (i2 : Int32) : entryFrame m #[(.int i0), (.int i1), (.int i2)] maxLocals = (mkF m 0 #[.val (.int i0), .val (.int i1), .val (.int i2), .unset, .unset] []) := by first | (simp [entryFrame, mkF, argsToLocals, Value.category, maxLocals]; done) | rfl
def Q0 (i0 : Int32) (i1 : Int32) (i2 : Int32) (h0 : Heap) (n0 : Nat) (v : Option Value) (h : Heap) (L : List Loc) : Prop := v = some (.int 1) ∧ Fr n0 L
set_option maxRecDepth 65536 in
set_option maxHeartbeats 4000000 in
theorem rm0 (l : Launch) (Z : State) (a0 : Array Value) (hw : ∀ d ∈ tables_1, d.before a0 Z = true) (ws : List Jvm.Cond) (i0 : Int32) (i1 : Int32) (i2 : Int32) (h0 : Heap) (n0 : Nat) (Z0 : n0 ≤ h0.size) :
    MetFree l x (head1 (Jvm.Cond.code x code maxLocals ret :: ws) room_1) (fun a U => a = #[(.int i0), (.int i1), (.int i2)] ∧ Z.Warmed39 U.vm ∧ U.heap = h0) (fun _ _ _ _ _ => True) (fun _ U o U' => ∃ v L, o = .returned v ∧ Q0 i0 i1 i2 h0 n0 v U'.heap L ∧ FrameEnd U o U' L 16 128) := by
  refine MetFree.of_bodySF (plainFor_of_name pnm_1) hisR ?_
  intro p e s m args below meth c s₁ Bd hml0 hP hK
  obtain ⟨rfl, hZ, hh⟩ := hP
  have hx := Bd.exec
  have hby := Bd.bytes
  have hml : c.maxLocals = 5 := hml0
  have hown : s.vm.findClass "com/example/caddisfly/caddisfly/template/TextIsXmlCharPinLaw" = some m.cls := findClass_of_methodNamed Bd.named
  have X0 : Stand p l e room_1 s m #[(.int i0), (.int i1), (.int i2)] below meth c s₁ [] 0 0 := Stand.of_body Bd
  have e0 : s₁.heap = h0 := by rw [← hh, Bd.state]; rfl
  have fin := b0_0 i0 i1 i2 (Q := Q0 i0 i1 i2 h0 n0) hw X0 hx hZ hby hml hown Bd.returns (BodyLoose.notSynchronized Bd) e0 (Fr.nil n0) (Nat.zero_le _) (Nat.zero_le _) Z0 (fun H' L' n' => ⟨rfl, n'⟩)
  exact own_step (fun t k => castTop (ef_0 m i0 i1 i2) k) fin
set_option maxRecDepth 65536 in
set_option maxHeartbeats 40000000 in
theorem comes_1 {Post : Tables → Env → Array Value → State → Outcome → State → Prop} (hpost : ∀ tb e args s v u, (limb_1_1.after args s (.returned v) u = true ∧ limb_1_2.after args s (.returned v) u = true ∧ True) → FrameEnd s (.returned v) u (Jvm.fieldLocs frame_1_writes args s ++ Jvm.arrayLocs frame_1_arrays args s ++ Jvm.staticLocs frame_1_statics s) 16 128 → Post tb e args s (.returned v) u) :
    ArmFor flags0 classFile x code maxLocals ret World_1 tables_1 room_1 Calls_1 rest_1 Pre_1 Post := by
  intro l hfl _ _ p e ha hc hk s m args below hf hA hF happ hP
  obtain ⟨hcalls, hrest, hpre⟩ := hP
  obtain ⟨-, -, -, hnamed, -, -, -, hat⟩ := (Spec.applies_iff hf).mp happ
  obtain ⟨hg, hn⟩ := and_e (Cond.before_iff.mp (show (Jvm.Cond.and given_1 narrow_1).before args s = true from hpre))
  obtain ⟨g1, g2⟩ := and_e hg
  obtain ⟨g3, g4⟩ := and_e g2
  obtain ⟨g5, g6⟩ := and_e g4
  obtain ⟨w0, w1, w2, rfl⟩ : ∃ w0 w1 w2 : Value, args = #[w0, w1, w2] := by
    have hs : args.size = 3 := by simpa [Cond.value, given_1] using g1
    obtain ⟨L⟩ := args
    match L, hs with
    | [w0, w1, w2], _ => exact ⟨w0, w1, w2, rfl⟩
  have hw := fun d (hd : d ∈ tables_1) => atoms_spec (ws := Jvm.Cond.code x code maxLocals ret :: tables_1) hat d (List.mem_cons_of_mem _ hd)
  obtain ⟨i0, ei0⟩ := is_v g3
  obtain rfl : w0 = (.int i0) := Option.some.inj ei0
  obtain ⟨i1, ei1⟩ := is_v g5
  obtain rfl : w1 = (.int i1) := Option.some.inj ei1
  obtain ⟨i2, ei2⟩ := is_v g6
  obtain rfl : w2 = (.int i2) := Option.some.inj ei2
  obtain ⟨n, o, h1, h2, h3, _, L, rfl, ⟨hval, N⟩, hq⟩ := rm0 l s _ hw tables_1 i0 i1 i2 s.heap s.heap.size (Nat.le_refl _) p e ha hc hk s m _ below hf ((Spec.applies_iff_loose hf).mp happ).1 ⟨rfl, State.Warmed39.refl s, rfl⟩ trivial
  subst hval
  refine ⟨n, _, h1, h2, h3, hpost _ _ _ _ _ _ ⟨Cond.after_iff.mpr rfl, Cond.after_iff.mpr (eq_i res_at (Term.int_eval (1)) rfl), trivial⟩ ⟨hq.1, hq.2.1, (hq.2.2.sift fun y hy => Or.inr (N y hy)).mono (by decide) (by decide)⟩⟩
theorem main_1_1 : Claimed_1_1 := comes_1 fun _ _ _ _ _ _ h hF => ⟨h.1, hF⟩
theorem main_1_2 : Claimed_1_2 := comes_1 fun _ _ _ _ _ _ h hF => ⟨h.2.1, hF⟩
end Jvm.Pilot.@@N@@
namespace Jvm.Pilot.@@N@@
open Jvm Jvm.ClassFile Sem Op Lib Jvm.Free Jvm.Stand Jvm.Pilot.@@N@@.Jvm.D
/-! MADE BY PROGRAM (witnessworld.py) out of the Statement's table words and the real class files: 10 classes; the members and pool entries that the words name. The judged class is class 1, her method 2. -/
namespace start1
open Jvm.ClassFile
def u (s : String) : CpInfo := .utf8 (stringToUtf16 s)
/-- a pool by its gaps: so many unusable entries, then the entry; so many at the end -/
def gap : Nat → List CpInfo → List CpInfo
  | 0, r => r
  | n + 1, r => .unusable :: gap n r
def poolList (es : List (Nat × CpInfo)) (last : Nat) : List CpInfo := es.foldr (fun e r => gap e.1 (e.2 :: r)) (gap last [])
def pool (es : List (Nat × CpInfo)) (last : Nat) : Array CpInfo := ⟨poolList es last⟩
def fileOf (pool : Array CpInfo) (this : Nat) (attrs : Array Attribute := #[]) (ms : Array MethodInfo := #[]) (fl : Nat := 33) (sup : Nat := 0) (ifs : Array Nat := #[]) (fds : Array FieldInfo := #[]) : ClassFile where
  minorVersion := 0
  majorVersion := 65
  constantPool := pool
  accessFlags := fl
  thisClass := this
  superClass := sup
  interfaces := ifs
  fields := fds
  methods := ms
  attributes := attrs
def plain (name : String) (sup : Option ClassId) : Class where
  name := name
  kind := .ordinary
  loader := none
  accessFlags := 33
  super := sup
  interfaces := #[]
  cf := none
  fields := #[]
  methods := #[]
  instanceTypes := #[]
  staticTypes := #[]
  resolved := #[]
  callSites := []
  init := .initialized
  statics := none
  mirror := none

def pool0 : Array CpInfo := pool [(5, u "<init>"), (0, u "()V"), (1, .class_ 10), (1, u "java/lang/Object")] 113

def k0m0 : Method := { name := "<init>", desc := "()V", sig := { parameters := [], returnType := none }, accessFlags := 1, code := none }
/-- java/lang/Object -/
def k0 : Class := { plain "java/lang/Object" none with
  accessFlags := 33
  interfaces := #[]
  cf := some (fileOf pool0 8 #[] #[{ accessFlags := 1, nameIndex := 5, descriptorIndex := 6, attributes := #[] }] 33 0 #[] #[])
  fields := #[]
  methods := #[k0m0]
  instanceTypes := #[]
  staticTypes := #[]
  resolved := Array.replicate 124 none
  statics := none }

def pool1 : Array CpInfo := pool [(2, .class_ 4), (1, u "java/lang/Object"), (0, u "<init>"), (0, u "()V"), (0, .integer 55296), (0, .integer 57344), (0, .integer 65534), (0, .integer 65536), (0, .integer 1114112), (2, .integer 2147483648), (0, .integer 55295), (0, .integer 56319), (0, .integer 56320), (0, .integer 57343), (0, .integer 65533), (0, .integer 65535), (0, .integer 1114111), (0, .integer 2147483647), (0, .methodref 24 25), (0, .class_ 26), (0, .nameAndType 27 28), (0, u "com/example/caddisfly/caddisfly/template/Text"), (0, u "isXmlChar"), (0, u "(I)Z"), (0, .methodref 30 31), (0, .class_ 32), (0, .nameAndType 33 28), (0, u "com/example/caddisfly/caddisfly/template/TextIsXmlCharPinLaw"), (0, u "reference"), (3, u "law"), (0, u "(III)Z")] 4

def k1m0 : Method := { name := "<init>", desc := "()V", sig := { parameters := [], returnType := none }, accessFlags := 1, code := none }
def k1c1 : Code := { maxStack := 2, maxLocals := 1, code := method_2_code, exceptionTable := #[], attributes := #[] }
def k1m1 : Method := { name := "reference", desc := "(I)Z", sig := { parameters := [.int], returnType := some .boolean }, accessFlags := 10, code := some k1c1 }
def k1c2 : Code := { maxStack := 4, maxLocals := 5, code := code, exceptionTable := #[], attributes := #[] }
def k1m2 : Method := { name := "law", desc := "(III)Z", sig := { parameters := [.int, .int, .int], returnType := some .boolean }, accessFlags := 9, code := some k1c2 }
/-- com/example/caddisfly/caddisfly/template/TextIsXmlCharPinLaw -/
def k1 : Class := { plain "com/example/caddisfly/caddisfly/template/TextIsXmlCharPinLaw" (some 0) with
  accessFlags := 49
  interfaces := #[]
  cf := some (fileOf pool1 30 #[] #[{ accessFlags := 1, nameIndex := 5, descriptorIndex := 6, attributes := #[] }, { accessFlags := 10, nameIndex := 33, descriptorIndex := 28, attributes := #[] }, { accessFlags := 9, nameIndex := 37, descriptorIndex := 38, attributes := #[] }] 49 2 #[] #[])
  fields := #[]
  methods := #[k1m0, k1m1, k1m2]
  instanceTypes := #[]
  staticTypes := #[]
  resolved := Array.replicate 43 none
  statics := none }

def pool2 : Array CpInfo := pool [(2, .class_ 4), (1, u "java/lang/Object"), (0, u "<init>"), (0, u "()V"), (0, .class_ 8), (0, u "com/example/caddisfly/caddisfly/template/Node")] 13

def k2m0 : Method := { name := "<init>", desc := "()V", sig := { parameters := [], returnType := none }, accessFlags := 1, code := none }
/-- com/example/caddisfly/caddisfly/template/Node -/
def k2 : Class := { plain "com/example/caddisfly/caddisfly/template/Node" (some 0) with
  accessFlags := 1057
  interfaces := #[]
  cf := some (fileOf pool2 7 #[] #[{ accessFlags := 1, nameIndex := 5, descriptorIndex := 6, attributes := #[] }] 1057 2 #[] #[])
  fields := #[]
  methods := #[k2m0]
  instanceTypes := #[]
  staticTypes := #[]
  resolved := Array.replicate 22 none
  statics := none }

def pool3 : Array CpInfo := pool [(2, .class_ 4), (1, u "com/example/caddisfly/caddisfly/template/Node"), (3, .class_ 10), (1, u "com/example/caddisfly/caddisfly/template/Text"), (0, u "_text"), (0, u "Ljava/lang/String;"), (24, u "isXmlChar"), (0, u "(I)Z"), (5, .integer 55295), (0, .integer 57344), (0, .integer 65533), (0, .integer 65536), (0, .integer 1114111)] 19

def k3c0 : Code := { maxStack := 2, maxLocals := 1, code := prog_189_method_7_code, exceptionTable := #[], attributes := #[] }
def k3m0 : Method := { name := "isXmlChar", desc := "(I)Z", sig := { parameters := [.int], returnType := some .boolean }, accessFlags := 9, code := some k3c0 }
/-- com/example/caddisfly/caddisfly/template/Text -/
def k3 : Class := { plain "com/example/caddisfly/caddisfly/template/Text" (some 2) with
  accessFlags := 49
  interfaces := #[]
  cf := some (fileOf pool3 8 #[] #[{ accessFlags := 9, nameIndex := 37, descriptorIndex := 38, attributes := #[] }] 49 2 #[] #[{ accessFlags := 18, nameIndex := 11, descriptorIndex := 12, attributes := #[] }])
  fields := #[{ name := "_text", type := (.object "java/lang/String"), accessFlags := 18, slot := 0, constantValue := 0 }]
  methods := #[k3m0]
  instanceTypes := #[(.object "java/lang/String")]
  staticTypes := #[]
  resolved := Array.replicate 68 none
  statics := none }

def pool4 : Array CpInfo := pool [(1, u "java/lang/Cloneable"), (0, .class_ 1), (0, u "java/lang/Object"), (0, .class_ 3)] 3

/-- java/lang/Cloneable -/
def k4 : Class := { plain "java/lang/Cloneable" (some 0) with
  accessFlags := 1537
  interfaces := #[]
  cf := some (fileOf pool4 2 #[] #[] 1537 4 #[] #[])
  fields := #[]
  methods := #[]
  instanceTypes := #[]
  staticTypes := #[]
  resolved := Array.replicate 8 none
  statics := none }

def pool5 : Array CpInfo := pool [(1, u "java/io/Serializable"), (0, .class_ 1), (0, u "java/lang/Object"), (0, .class_ 3)] 3

/-- java/io/Serializable -/
def k5 : Class := { plain "java/io/Serializable" (some 0) with
  accessFlags := 1537
  interfaces := #[]
  cf := some (fileOf pool5 2 #[] #[] 1537 4 #[] #[])
  fields := #[]
  methods := #[]
  instanceTypes := #[]
  staticTypes := #[]
  resolved := Array.replicate 8 none
  statics := none }

/-- the primitive byte -/
def k6 : Class := { plain "byte" none with kind := .primitive 'B', accessFlags := 0x411 }
/-- [B -/
def k7 : Class := { plain "[B" (some 0) with kind := .array 6 .byte, interfaces := #[4, 5], accessFlags := 1041 }

/-- the primitive int -/
def k8 : Class := { plain "int" none with kind := .primitive 'I', accessFlags := 0x411 }
/-- [I -/
def k9 : Class := { plain "[I" (some 0) with kind := .array 8 .int, interfaces := #[4, 5], accessFlags := 1041 }

def heap : Heap := #[]
def classes : Array Class := #[k0, k1, k2, k3, k4, k5, k6, k7, k8, k9]
def interned : List (Array UInt16 × Addr) := []
def slotsUsed : Nat := 0
def theMethod : MethodId := ⟨1, 2⟩
def args0 : Array Value := #[.int 5, .int 5, .int 5]
def aboutOver (below : List Frame) : State where
  vm := { classes := classes, interned := interned.toArray }
  heap := heap
  slotsUsed := slotsUsed
  threads := #[{ frames := .invoking theMethod args0 :: below }]
def below0 : List Frame := [.native { method := ⟨0, 0⟩, args := #[] }]
def about1 : State := aboutOver below0
def p0 : Program := .bare "" "" ""
def e0 : Env := launch0.env 0 0 0
theorem w_frames : about1.frames = Frame.invoking theMethod args0 :: below0 := rfl
set_option maxRecDepth 65536 in
theorem w_args : argsFit about1.vm theMethod args0 = true := by decide +kernel
set_option maxRecDepth 65536 in
theorem w_heap : heapFits about1 = true := by decide +kernel
set_option maxRecDepth 65536 in
theorem w_runnable : about1.curStatus? = some .runnable := by decide +kernel
set_option maxRecDepth 65536 in
theorem w_alone : about1.alone = true := by decide +kernel
set_option maxRecDepth 65536 in
theorem w_named : about1.methodNamed? x = some theMethod := by decide +kernel
set_option maxRecDepth 65536 in
theorem w_hears : about1.hears theMethod below0 = true := by decide +kernel
set_option maxRecDepth 65536 in
theorem w_ripe : about1.ripe theMethod args0 below0 = true := by decide +kernel
theorem w_running : about1.status = .running := rfl
set_option maxRecDepth 65536 in
theorem w_room : about1.hasRoom e0.platform room_1 = true :=
  launch0.hasRoom_least _ room_1 (by decide +kernel) (by decide +kernel) (by decide +kernel) (by decide +kernel) (by decide +kernel) (by decide +kernel)
theorem allAtoms_all (ts : List Jvm.Cond) (a : Array Jvm.Value) (st : Jvm.State) : (allAtoms ts).before a st = ts.all (fun c => c.before a st) := by
  induction ts with
  | nil => rfl
  | cons c t ih =>
    show (Jvm.Cond.and c (allAtoms t)).before a st = _
    rw [Jvm.Cond.before_and, ih, List.all_cons]
def words1 : List Jvm.Cond := Jvm.Cond.code x code maxLocals ret :: tables_1
/-- a 'code' word, met by the world's own term for the bytes: nothing is compared byte by byte -/
theorem code_word {y : MethodName} {bytes : ByteArray} {mx : Nat} {rt : Option FieldType} {a : Array Value} {s : State} {m : MethodId} {meth : Method} {c : Code} (h1 : s.methodNamed? y = some m) (h2 : s.vm.method? m = some meth) (h3 : meth.code = some c) (h4 : c.code = bytes)
    (h5 : (c.maxLocals == mx && c.exceptionTable.isEmpty && decide (c.maxStack ≤ mostOperands) && decide (meth.sig.returnType = rt) && !meth.locks && decide (parseMethodDescriptor y.desc = some meth.sig)) = true) : (Jvm.Cond.code y bytes mx rt).before a s = true := by
  simp only [Bool.and_eq_true, beq_iff_eq, Bool.not_eq_true', decide_eq_true_eq] at h5
  obtain ⟨⟨⟨⟨⟨g1, g2⟩, g3⟩, g4⟩, g5⟩, g6⟩ := h5
  simp [Cond.before, Cond.holds, Cond.value, h1, h2, h3, h4, g1, g2, g3, g4, g5, g6]
def isCode : Jvm.Cond → Bool
  | .code _ _ _ _ => true
  | _ => false
theorem all_split {L : List Jvm.Cond} {P : Jvm.Cond → Bool} (h1 : L.all (fun c => isCode c || P c) = true) (h2 : ∀ c ∈ L.filter isCode, P c = true) : L.all P = true := by
  refine List.all_eq_true.mpr fun c hc => ?_
  have h := List.all_eq_true.mp h1 c hc
  rcases Bool.eq_false_or_eq_true (isCode c) with hi | hi
  · exact h2 c (List.mem_filter.mpr ⟨hc, hi⟩)
  · simpa [hi] using h
set_option maxRecDepth 65536 in
theorem w_c0 : (Jvm.Cond.code x code maxLocals ret).before args0 about1 = true := code_word (m := ⟨1, 2⟩) (meth := k1m2) (c := k1c2) (by decide +kernel) rfl rfl rfl (by decide +kernel)
set_option maxRecDepth 65536 in
theorem w_c1 : (Jvm.Cond.code ({ cls := "com/example/caddisfly/caddisfly/template/Text", name := "isXmlChar", desc := "(I)Z" } : Jvm.MethodName) prog_189_method_7_code (1 : Nat) (Option.some Jvm.ClassFile.FieldType.boolean)).before args0 about1 = true := code_word (m := ⟨3, 0⟩) (meth := k3m0) (c := k3c0) (by decide +kernel) rfl rfl rfl (by decide +kernel)
set_option maxRecDepth 65536 in
theorem w_c2 : (Jvm.Cond.code ({ cls := "com/example/caddisfly/caddisfly/template/TextIsXmlCharPinLaw", name := "reference", desc := "(I)Z" } : Jvm.MethodName) method_2_code (1 : Nat) (Option.some Jvm.ClassFile.FieldType.boolean)).before args0 about1 = true := code_word (m := ⟨1, 1⟩) (meth := k1m1) (c := k1c1) (by decide +kernel) rfl rfl rfl (by decide +kernel)
def codes1 : List Jvm.Cond := [Jvm.Cond.code x code maxLocals ret, Jvm.Cond.code ({ cls := "com/example/caddisfly/caddisfly/template/Text", name := "isXmlChar", desc := "(I)Z" } : Jvm.MethodName) prog_189_method_7_code (1 : Nat) (Option.some Jvm.ClassFile.FieldType.boolean), Jvm.Cond.code ({ cls := "com/example/caddisfly/caddisfly/template/TextIsXmlCharPinLaw", name := "reference", desc := "(I)Z" } : Jvm.MethodName) method_2_code (1 : Nat) (Option.some Jvm.ClassFile.FieldType.boolean)]
set_option maxRecDepth 65536 in
theorem codes_eq : words1.filter isCode = codes1 := rfl
theorem w_codes : ∀ c ∈ words1.filter isCode, c.before args0 about1 = true := by
  rw [codes_eq]
  intro c hc
  simp only [codes1, List.mem_cons, List.not_mem_nil, or_false] at hc
  rcases hc with rfl | rfl | rfl
  · exact w_c0
  · exact w_c1
  · exact w_c2
set_option maxRecDepth 65536 in
theorem w_t1 : (words1.take 24).all (fun c => isCode c || c.before args0 about1) = true := by decide +kernel
set_option maxRecDepth 65536 in
theorem w_t2 : (words1.drop 24).all (fun c => isCode c || c.before args0 about1) = true := by decide +kernel
theorem w_tables : (allAtoms (Jvm.Cond.code x code maxLocals ret :: tables_1)).before args0 about1 = true := by
  rw [allAtoms_all]
  show words1.all (fun c => c.before args0 about1) = true
  refine all_split ?_ w_codes
  rw [← List.take_append_drop 24 words1, List.all_append, w_t1, w_t2]
  rfl
set_option maxRecDepth 65536 in
theorem w_case : (Jvm.Cond.and given_1 narrow_1).before args0 about1 = true := by decide +kernel
theorem w_applies : (headSpec (Jvm.Cond.code x code maxLocals ret :: tables_1) room_1).applies x e0.platform about1 = true :=
  (Spec.applies_iff w_frames).mpr ⟨w_running, w_runnable, w_alone, w_named, w_hears, w_ripe, w_room, w_tables⟩
theorem atStart : AtStart classFile x code maxLocals ret World_1 tables_1 room_1 Calls_1 rest_1 Pre_1 launch0 p0 e0 about1 theMethod args0 below0 :=
  ⟨lists_1, trivial, launch0.admits_env _ _ _, launch0.least_env, fairChoices_fair.cas, fairChoices_fair.clock, w_frames, w_args, w_heap, w_applies, trivial, trivial, w_case⟩
end start1
theorem witness_1 : WitnessClaimed_1 := ⟨start1.p0, start1.e0, start1.about1, start1.theMethod, start1.args0, start1.below0, start1.atStart⟩
end Jvm.Pilot.@@N@@

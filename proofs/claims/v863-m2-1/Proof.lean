import JvmDerived
import JvmDerived.Pilot.@@N@@Statement
import JvmDerived.Pilot.@@N@@Code
set_option linter.unusedVariables false
set_option linter.unusedSimpArgs false
namespace Jvm.RoadKit
open Sem ClassFile Op Lib Jvm.Stand Jvm.Free Jvm.LawKit
section New
variable {p : Program} {l : Launch} {e : Env} {R : Room} {s : State} {m : MethodId} {args : Array Value} {below : List Frame} {meth : Method} {c : Code} {T : State} {locs : List Loc} {cells slots : Nat}
theorem retI (X : Stand p l e R s m args below meth c T locs cells slots) (hx : p.tables.exec = Jvm.exec) {pc : Nat} {Ls : Array Slot} {z : Int32} {rest : List Value} (hret : meth.sig.returnType = some .int) (hd : decode c.code pc = .ok (.ireturn, 1)) {fs : List Frame}
    (hl : ∀ (f : JFrame) (acts : List Action), f.method = m → f.locked = none → f.entered = [] → (doReturn e (T.setTop f) acts (some (.int z))).1 = T.setFrames fs) : Steps p.tables e below (T.setTop (mkF m pc Ls (.int z :: rest))) (T.setFrames fs) := by
  have hm' : T.vm.method? m = some meth := X.method'
  have hn : narrow .int (.int z) = .int z := rfl
  show Steps p.tables e below (T.setTop { method := m, pc := pc, locals := Ls, stack := _ :: rest, locked := none }) _
  jvm_step X.here [X.here.top, hx, hd, hm', hret, hn]
  first | (intro acts; rw [hl _ acts rfl rfl rfl]) | rw [hl _ _ rfl rfl rfl]
  exact Steps.refl _
end New
end Jvm.RoadKit
namespace Jvm.Pilot.@@N@@
open Jvm Jvm.ClassFile Sem Op Lib Jvm.Free Jvm.Stand Jvm.LawKit Jvm.RoadKit Bundle Jvm.Pilot.@@N@@.Jvm.D
section OwnKit
variable {p : Program} {l : Launch} {e : Env} {R : Room} {s : State} {m : MethodId} {args : Array Value} {below : List Frame} {meth : Method} {c : Code} {T : State} {locs : List Loc} {cells slots : Nat}
/-- what a body owes from the state A on: it comes to its return, and what it returned, the heap and the written places satisfy Q -/
def own_Fin (p : Program) (e : Env) (below : List Frame) (s : State) (Q : Option Value → Heap → List Loc → Prop) (rc rs : Nat) (A : State) : Prop :=
  ∃ s₂ o, Steps p.tables e below A s₂ ∧ s₂.status = .running ∧ Ended s₂ below o ∧ ∃ v L, o = .returned v ∧ Q v s₂.heap L ∧ FrameEnd s o s₂ L rc rs
theorem own_step {Q : Option Value → Heap → List Loc → Prop} {rc rs : Nat} {A B : State} (k : ∀ t, Steps p.tables e below B t → Steps p.tables e below A t) (h : own_Fin p e below s Q rc rs B) : own_Fin p e below s Q rc rs A := by
  obtain ⟨s₂, o, h1, h2⟩ := h
  exact ⟨s₂, o, k _ h1, h2⟩
theorem own_retN (X : Stand p l e R s m args below meth c T locs cells slots) (hx : p.tables.exec = Jvm.exec) (hlk : meth.locks = false) {Q : Option Value → Heap → List Loc → Prop} {rc rs n0 : Nat} {h : Heap} {pc : Nat} {Ls : Array Slot} {z v : Int32} {t : FieldType} {rest : List Value} (hret : meth.sig.returnType = some t) (ht : t = .boolean ∨ t = .byte ∨ t = .char ∨ t = .short)
    (hd : decode c.code pc = .ok (.ireturn, 1)) (hc : cells ≤ rc) (hs : slots ≤ rs) (eT : T.heap = h) (N : Fr n0 locs) (hQ : ∀ L', Fr n0 L' → Q (some (.int v)) h L') (hv : v = nar t z) :
    own_Fin p e below s Q rc rs (T.setTop (mkF m pc Ls (.int z :: rest))) := by
  subst hv
  obtain ⟨fs, hr, hrun, hended, hW, hsame⟩ := X.leave (v := some (.int (nar t z))) (fun h => by rw [hret] at h; cases h) hlk
  refine ⟨_, _, retN X hx hret ht hd hr, hrun, hended, _, _, rfl, ?_, ⟨_, rfl⟩, hW, hsame.mono hc hs⟩
  show Q _ T.heap _
  rw [eT]
  exact hQ _ N
theorem own_retI (X : Stand p l e R s m args below meth c T locs cells slots) (hx : p.tables.exec = Jvm.exec) (hlk : meth.locks = false) {Q : Option Value → Heap → List Loc → Prop} {rc rs n0 : Nat} {h : Heap} {pc : Nat} {Ls : Array Slot} {z v : Int32} {rest : List Value} (hret : meth.sig.returnType = some .int)
    (hd : decode c.code pc = .ok (.ireturn, 1)) (hc : cells ≤ rc) (hs : slots ≤ rs) (eT : T.heap = h) (N : Fr n0 locs) (hQ : ∀ L', Fr n0 L' → Q (some (.int v)) h L') (hv : v = z) :
    own_Fin p e below s Q rc rs (T.setTop (mkF m pc Ls (.int z :: rest))) := by
  subst hv
  obtain ⟨fs, hr, hrun, hended, hW, hsame⟩ := X.leave (v := some (.int v)) (fun h => by rw [hret] at h; cases h) hlk
  refine ⟨_, _, retI X hx hret hd hr, hrun, hended, _, _, rfl, ?_, ⟨_, rfl⟩, hW, hsame.mono hc hs⟩
  show Q _ T.heap _
  rw [eT]
  exact hQ _ N
theorem own_ret0 (X : Stand p l e R s m args below meth c T locs cells slots) (hx : p.tables.exec = Jvm.exec) (hlk : meth.locks = false) {Q : Option Value → Heap → List Loc → Prop} {rc rs : Nat} {h : Heap} {pc : Nat} {Ls : Array Slot} (hret : meth.sig.returnType = none)
    (hd : decode c.code pc = .ok (.return_, 1)) (hc : cells ≤ rc) (hs : slots ≤ rs) (eT : T.heap = h) (hQ : Q none h locs) :
    own_Fin p e below s Q rc rs (T.setTop (mkF m pc Ls [])) := by
  obtain ⟨fs, hr, hrun, hended, hW, hsame⟩ := X.leave (v := none) (fun _ => rfl) hlk
  refine ⟨_, _, X.returnOut hx hret hd hr, hrun, hended, _, _, rfl, ?_, ⟨_, rfl⟩, hW, hsame.mono hc hs⟩
  show Q _ T.heap _
  rw [eT]
  exact hQ
end OwnKit
/-- an array of n ints (bytes, ..) at a: its i-th is g i -/
def own_AF (Z : State) (h : Heap) (a : Addr) (ty : FieldType) (n : Nat) (g : Nat → Int32) : Prop := ∃ c : Cell, Arr Z h a c ty ∧ c.slots.size = n ∧ ∀ i, i < n → c.slots[i]? = some (.int (g i))
def own_In (n : Nat) (j : Int32) : Prop := ¬ (j < 0 ∨ n ≤ j.toNatClampNeg)
theorem own_AF.lt {Z : State} {h : Heap} {a : Addr} {ty : FieldType} {n : Nat} {g : Nat → Int32} (F : own_AF Z h a ty n g) : a < h.size := by obtain ⟨c, A, -⟩ := F; exact A.lt
theorem own_AFext {Z : State} {h h' : Heap} {a : Addr} {ty : FieldType} {n : Nat} {g : Nat → Int32} (F : own_AF Z h a ty n g) (E : Ext h h') : own_AF Z h' a ty n g := by obtain ⟨c, A, r⟩ := F; exact ⟨c, A.ext E, r⟩
theorem own_AFoth {Z : State} {h h' : Heap} {a b : Addr} {sl : Nat} {v : Value} {ty : FieldType} {n : Nat} {g : Nat → Int32} (F : own_AF Z h b ty n g) (W : Wr h h' a sl v) (q : b ≠ a) : own_AF Z h' b ty n g := by obtain ⟨c, A, r⟩ := F; exact ⟨c, A.other W q, r⟩
theorem own_AFkeep {Z : State} {h h' : Heap} {a : Addr} {ws : List Addr} {ty : FieldType} {n : Nat} {g : Nat → Int32} (F : own_AF Z h a ty n g) (K : Keep h h' ws) (q : a ∉ ws) : own_AF Z h' a ty n g := by obtain ⟨c, A, r⟩ := F; exact ⟨c, ⟨K.2.1 a c A.1 q, A.2⟩, r⟩
theorem own_AFset {Z : State} {h h' : Heap} {a : Addr} {ty : FieldType} {n k : Nat} {g : Nat → Int32} {c : Cell} {x : Int32} (A : Arr Z h a c ty) (S : c.slots.size = n) (H : ∀ i, i < n → c.slots[i]? = some (.int (g i))) (W : Wr h h' a k (.int x)) : own_AF Z h' a ty n (fun i => if i = k then x else g i) := by
  obtain ⟨c', e1, e2, e3, e4, e5, e6, e7⟩ := wr_at W A.1
  refine ⟨c', ⟨e1, ?_⟩, e4.trans S, fun i hi => ?_⟩
  · rw [(e7 rfl).1]; exact A.2
  · by_cases q : i = k
    · subst q
      show c'.slots[i]? = some (.int (if i = i then x else g i))
      rw [if_pos rfl]
      exact (e7 rfl).2.1
    · show c'.slots[i]? = some (.int (if i = k then x else g i))
      rw [e6 i q, if_neg q]
      exact H i hi
theorem own_AFnew {Z : State} {h : Heap} {a : Addr} {k : ClassId} {ty : FieldType} {z : Int32} {n : Nat} (A : Arr Z h a (newA k ty z) ty) (hn : z.toNatClampNeg = n) (hd : defaultValue ty = .int 0 := by rfl) : own_AF Z h a ty n (fun _ => 0) :=
  ⟨_, A, (sz_new _ _ _).trans hn, fun i hi => by
    have hs : (newA k ty z).slots = Array.replicate z.toNatClampNeg (defaultValue ty) := rfl
    rw [hs, hn, hd]
    simp [hi]⟩
theorem own_eqi {x y : Int32} {b : Int} (h : y.toInt = b) : x = y ↔ x.toInt = b := by rw [← h]; exact Int32.toInt_inj.symm

theorem d2_0 : decode method_2_code 0 = .ok (.iload_n 0, 1) := by decide +kernel
theorem d2_1 : decode method_2_code 1 = .ok (.bipush 32, 2) := by decide +kernel
theorem d2_3 : decode method_2_code 3 = .ok (.ior, 1) := by decide +kernel
theorem d2_4 : decode method_2_code 4 = .ok (.istore_n 1, 1) := by decide +kernel
theorem d2_5 : decode method_2_code 5 = .ok (.iload_n 1, 1) := by decide +kernel
theorem d2_6 : decode method_2_code 6 = .ok (.bipush 97, 2) := by decide +kernel
theorem d2_8 : decode method_2_code 8 = .ok (.if_icmp .lt 13, 3) := by decide +kernel
theorem d2_11 : decode method_2_code 11 = .ok (.iload_n 1, 1) := by decide +kernel
theorem d2_12 : decode method_2_code 12 = .ok (.bipush 122, 2) := by decide +kernel
theorem d2_14 : decode method_2_code 14 = .ok (.if_icmp .gt 7, 3) := by decide +kernel
theorem d2_17 : decode method_2_code 17 = .ok (.iconst 1, 1) := by decide +kernel
theorem d2_18 : decode method_2_code 18 = .ok (.goto 4, 3) := by decide +kernel
theorem d2_21 : decode method_2_code 21 = .ok (.iconst 0, 1) := by decide +kernel
theorem d2_22 : decode method_2_code 22 = .ok (.ireturn, 1) := by decide +kernel
def f2_22 (i0 : Int32) (i1 : Int32) (is0 : Int32) : Int32 := (nar .boolean is0)
set_option maxRecDepth 65536 in
set_option maxHeartbeats 40000000 in
theorem b2_22 {p : Program} {l : Launch} {e : Env} {s : State} {m : MethodId} {args : Array Value} {below : List Frame} {meth : Method} {c : Code} {T : State} {locs : List Loc} {cells slots : Nat} {Z : State} {a0 : Array Value} {h : Heap} {n0 : Nat} {Q : Option Value → Heap → List Loc → Prop} (i0 : Int32) (i1 : Int32) (is0 : Int32) (hw : ∀ d ∈ tables_1, d.before a0 Z = true) (X : Stand p l e ({ frames := 0, cells := 0, slots := 0, locals := 0 } : Room) s m args below meth c T locs cells slots) (hx : p.tables.exec = Jvm.exec) (hZ : Z.Warmed39 s.vm) (hby : c.code = method_2_code) (hml : c.maxLocals = 2) (hown : s.vm.findClass "com/example/waymark/waymark/util/AsciiIsAlphaPinLaw" = some m.cls) (hret : meth.sig.returnType = some .boolean) (hlk : meth.locks = false) (eT : T.heap = h) (N : Fr n0 locs) (hc : cells ≤ 0) (hs : slots ≤ 0) (v : Int32) (hv : v = f2_22 i0 i1 is0) (hQ : ∀ L', Fr n0 L' → Q (some (.int v)) h L') :
    own_Fin p e below s Q 0 0 (T.setTop (mkF m 22 #[.val (.int i0), .val (.int i1)] [(.int is0)])) := by
  exact own_retN X hx hlk hret (by simp) (hb hby d2_22) (by omega) (by omega) eT N hQ (hv)
def f2_21 (i0 : Int32) (i1 : Int32) : Int32 := f2_22 i0 i1 (0 : Int32)
set_option maxRecDepth 65536 in
set_option maxHeartbeats 40000000 in
theorem b2_21 {p : Program} {l : Launch} {e : Env} {s : State} {m : MethodId} {args : Array Value} {below : List Frame} {meth : Method} {c : Code} {T : State} {locs : List Loc} {cells slots : Nat} {Z : State} {a0 : Array Value} {h : Heap} {n0 : Nat} {Q : Option Value → Heap → List Loc → Prop} (i0 : Int32) (i1 : Int32) (hw : ∀ d ∈ tables_1, d.before a0 Z = true) (X : Stand p l e ({ frames := 0, cells := 0, slots := 0, locals := 0 } : Room) s m args below meth c T locs cells slots) (hx : p.tables.exec = Jvm.exec) (hZ : Z.Warmed39 s.vm) (hby : c.code = method_2_code) (hml : c.maxLocals = 2) (hown : s.vm.findClass "com/example/waymark/waymark/util/AsciiIsAlphaPinLaw" = some m.cls) (hret : meth.sig.returnType = some .boolean) (hlk : meth.locks = false) (eT : T.heap = h) (N : Fr n0 locs) (hc : cells ≤ 0) (hs : slots ≤ 0) (v : Int32) (hv : v = f2_21 i0 i1) (hQ : ∀ L', Fr n0 L' → Q (some (.int v)) h L') :
    own_Fin p e below s Q 0 0 (T.setTop (mkF m 21 #[.val (.int i0), .val (.int i1)] [])) := by
  refine own_step (fun t k => XS.iconst X.here hx rfl (hb hby d2_21) k) ?_
  exact b2_22 i0 i1 (0 : Int32) hw X hx hZ hby hml hown hret hlk eT N (by omega) (by omega) v (hv) hQ
def f2_17 (i0 : Int32) (i1 : Int32) : Int32 := f2_22 i0 i1 (1 : Int32)
set_option maxRecDepth 65536 in
set_option maxHeartbeats 40000000 in
theorem b2_17 {p : Program} {l : Launch} {e : Env} {s : State} {m : MethodId} {args : Array Value} {below : List Frame} {meth : Method} {c : Code} {T : State} {locs : List Loc} {cells slots : Nat} {Z : State} {a0 : Array Value} {h : Heap} {n0 : Nat} {Q : Option Value → Heap → List Loc → Prop} (i0 : Int32) (i1 : Int32) (hw : ∀ d ∈ tables_1, d.before a0 Z = true) (X : Stand p l e ({ frames := 0, cells := 0, slots := 0, locals := 0 } : Room) s m args below meth c T locs cells slots) (hx : p.tables.exec = Jvm.exec) (hZ : Z.Warmed39 s.vm) (hby : c.code = method_2_code) (hml : c.maxLocals = 2) (hown : s.vm.findClass "com/example/waymark/waymark/util/AsciiIsAlphaPinLaw" = some m.cls) (hret : meth.sig.returnType = some .boolean) (hlk : meth.locks = false) (eT : T.heap = h) (N : Fr n0 locs) (hc : cells ≤ 0) (hs : slots ≤ 0) (v : Int32) (hv : v = f2_17 i0 i1) (hQ : ∀ L', Fr n0 L' → Q (some (.int v)) h L') :
    own_Fin p e below s Q 0 0 (T.setTop (mkF m 17 #[.val (.int i0), .val (.int i1)] [])) := by
  refine own_step (fun t k => XS.iconst X.here hx rfl (hb hby d2_17) k) ?_
  show own_Fin p e below s Q 0 0 (T.setTop (mkF m 18 #[.val (.int i0), .val (.int i1)] [(.int (1 : Int32))]))
  refine own_step (fun t k => XS.goto X.here hx rfl (pc0 := 18) (pc' := 22) rfl (hb hby d2_18) (by decide) (by decide) k) ?_
  exact b2_22 i0 i1 (1 : Int32) hw X hx hZ hby hml hown hret hlk eT N (by omega) (by omega) v (hv) hQ
def f2_11 (i0 : Int32) (i1 : Int32) : Int32 := if (122 : Int32) < i1 then f2_21 i0 i1 else f2_17 i0 i1
set_option maxRecDepth 65536 in
set_option maxHeartbeats 40000000 in
theorem b2_11 {p : Program} {l : Launch} {e : Env} {s : State} {m : MethodId} {args : Array Value} {below : List Frame} {meth : Method} {c : Code} {T : State} {locs : List Loc} {cells slots : Nat} {Z : State} {a0 : Array Value} {h : Heap} {n0 : Nat} {Q : Option Value → Heap → List Loc → Prop} (i0 : Int32) (i1 : Int32) (hw : ∀ d ∈ tables_1, d.before a0 Z = true) (X : Stand p l e ({ frames := 0, cells := 0, slots := 0, locals := 0 } : Room) s m args below meth c T locs cells slots) (hx : p.tables.exec = Jvm.exec) (hZ : Z.Warmed39 s.vm) (hby : c.code = method_2_code) (hml : c.maxLocals = 2) (hown : s.vm.findClass "com/example/waymark/waymark/util/AsciiIsAlphaPinLaw" = some m.cls) (hret : meth.sig.returnType = some .boolean) (hlk : meth.locks = false) (eT : T.heap = h) (N : Fr n0 locs) (hc : cells ≤ 0) (hs : slots ≤ 0) (v : Int32) (hv : v = f2_11 i0 i1) (hQ : ∀ L', Fr n0 L' → Q (some (.int v)) h L') :
    own_Fin p e below s Q 0 0 (T.setTop (mkF m 11 #[.val (.int i0), .val (.int i1)] [])) := by
  refine own_step (fun t k => XS.iloadN X.here hx rfl (hb hby d2_11) rfl  k) ?_
  show own_Fin p e below s Q 0 0 (T.setTop (mkF m 12 #[.val (.int i0), .val (.int i1)] [(.int i1)]))
  refine own_step (fun t k => XS.bipush X.here hx rfl (hb hby d2_12) k) ?_
  show own_Fin p e below s Q 0 0 (T.setTop (mkF m 14 #[.val (.int i0), .val (.int i1)] [(.int (122 : Int32)), (.int i1)]))
  by_cases hB14_4 : (122 : Int32) < i1
  · refine own_step (fun t k => XS.icmpYes X.here hx rfl (pc0 := 14) (pc' := 21) rfl (hb hby d2_14) rfl (tlt hB14_4).2.2.1 (by decide) (by decide) k) ?_
    exact b2_21 i0 i1 hw X hx hZ hby hml hown hret hlk eT N (by omega) (by omega) v (hv.trans (if_pos hB14_4)) hQ
  · refine own_step (fun t k => XS.icmpNo X.here hx rfl (hb hby d2_14) rfl (flt hB14_4).2.2.1 k) ?_
    exact b2_17 i0 i1 hw X hx hZ hby hml hown hret hlk eT N (by omega) (by omega) v (hv.trans (if_neg hB14_4)) hQ
def f2_0 (i0 : Int32) : Int32 := if (i0 ||| (32 : Int32)) < (97 : Int32) then f2_21 i0 (i0 ||| (32 : Int32)) else f2_11 i0 (i0 ||| (32 : Int32))
set_option maxRecDepth 65536 in
set_option maxHeartbeats 40000000 in
theorem b2_0 {p : Program} {l : Launch} {e : Env} {s : State} {m : MethodId} {args : Array Value} {below : List Frame} {meth : Method} {c : Code} {T : State} {locs : List Loc} {cells slots : Nat} {Z : State} {a0 : Array Value} {h : Heap} {n0 : Nat} {Q : Option Value → Heap → List Loc → Prop} (i0 : Int32) (hw : ∀ d ∈ tables_1, d.before a0 Z = true) (X : Stand p l e ({ frames := 0, cells := 0, slots := 0, locals := 0 } : Room) s m args below meth c T locs cells slots) (hx : p.tables.exec = Jvm.exec) (hZ : Z.Warmed39 s.vm) (hby : c.code = method_2_code) (hml : c.maxLocals = 2) (hown : s.vm.findClass "com/example/waymark/waymark/util/AsciiIsAlphaPinLaw" = some m.cls) (hret : meth.sig.returnType = some .boolean) (hlk : meth.locks = false) (eT : T.heap = h) (N : Fr n0 locs) (hc : cells ≤ 0) (hs : slots ≤ 0) (v : Int32) (hv : v = f2_0 i0) (hQ : ∀ L', Fr n0 L' → Q (some (.int v)) h L') :
    own_Fin p e below s Q 0 0 (T.setTop (mkF m 0 #[.val (.int i0), .unset] [])) := by
  refine own_step (fun t k => XS.iloadN X.here hx rfl (hb hby d2_0) rfl  k) ?_
  show own_Fin p e below s Q 0 0 (T.setTop (mkF m 1 #[.val (.int i0), .unset] [(.int i0)]))
  refine own_step (fun t k => XS.bipush X.here hx rfl (hb hby d2_1) k) ?_
  show own_Fin p e below s Q 0 0 (T.setTop (mkF m 3 #[.val (.int i0), .unset] [(.int (32 : Int32)), (.int i0)]))
  refine own_step (fun t k => XS.ior X.here hx rfl (hb hby d2_3) rfl k) ?_
  show own_Fin p e below s Q 0 0 (T.setTop (mkF m 4 #[.val (.int i0), .unset] [(.int (i0 ||| (32 : Int32)))]))
  refine own_step (fun t k => XS.istoreN X.here hx rfl (hb hby d2_4) rfl (l' := #[.val (.int i0), .val (.int (i0 ||| (32 : Int32)))]) rfl k) ?_
  show own_Fin p e below s Q 0 0 (T.setTop (mkF m 5 #[.val (.int i0), .val (.int (i0 ||| (32 : Int32)))] []))
  refine own_step (fun t k => XS.iloadN X.here hx rfl (hb hby d2_5) rfl  k) ?_
  show own_Fin p e below s Q 0 0 (T.setTop (mkF m 6 #[.val (.int i0), .val (.int (i0 ||| (32 : Int32)))] [(.int (i0 ||| (32 : Int32)))]))
  refine own_step (fun t k => XS.bipush X.here hx rfl (hb hby d2_6) k) ?_
  show own_Fin p e below s Q 0 0 (T.setTop (mkF m 8 #[.val (.int i0), .val (.int (i0 ||| (32 : Int32)))] [(.int (97 : Int32)), (.int (i0 ||| (32 : Int32)))]))
  by_cases hB8_1 : (i0 ||| (32 : Int32)) < (97 : Int32)
  · refine own_step (fun t k => XS.icmpYes X.here hx rfl (pc0 := 8) (pc' := 21) rfl (hb hby d2_8) rfl (tlt hB8_1).1 (by decide) (by decide) k) ?_
    exact b2_21 i0 (i0 ||| (32 : Int32)) hw X hx hZ hby hml hown hret hlk eT N (by omega) (by omega) v (hv.trans (if_pos hB8_1)) hQ
  · refine own_step (fun t k => XS.icmpNo X.here hx rfl (hb hby d2_8) rfl (flt hB8_1).1 k) ?_
    exact b2_11 i0 (i0 ||| (32 : Int32)) hw X hx hZ hby hml hown hret hlk eT N (by omega) (by omega) v (hv.trans (if_neg hB8_1)) hQ
theorem pnm_0 : plainName "com/example/waymark/waymark/util/AsciiIsAlphaPinLaw" = true := by first | (simp [plainName, overriddenIn]; done) | decide +kernel
theorem pdm_0 : parseMethodDescriptor "(I)Z" = some ⟨[.int], some .boolean⟩ := by decide +kernel
theorem ef_2 (m : MethodId) (i0 : Int32) : entryFrame m #[(.int i0)] 2 = (mkF m 0 #[.val (.int i0), .unset] []) := by first | (simp [entryFrame, mkF, argsToLocals, Value.category]; done) | rfl
def Q2 (i0 : Int32) (h0 : Heap) (n0 : Nat) (v : Option Value) (h : Heap) (L : List Loc) : Prop := v = some (.int (f2_0 i0)) ∧ Fr n0 L ∧ h = h0
set_option maxRecDepth 65536 in
set_option maxHeartbeats 4000000 in
theorem rm2 (l : Launch) (Z : State) (a0 : Array Value) (hw : ∀ d ∈ tables_1, d.before a0 Z = true) (ws : List Jvm.Cond) (i0 : Int32) (h0 : Heap) (n0 : Nat) :
    MetFree l (⟨"com/example/waymark/waymark/util/AsciiIsAlphaPinLaw", "ref", "(I)Z"⟩ : MethodName) (head1 (Jvm.Cond.code (⟨"com/example/waymark/waymark/util/AsciiIsAlphaPinLaw", "ref", "(I)Z"⟩ : MethodName) method_2_code 2 (some .boolean) :: ws) ({ frames := 0, cells := 0, slots := 0, locals := 0 } : Room)) (fun a U => a = #[(.int i0)] ∧ Z.Warmed39 U.vm ∧ U.heap = h0) (fun _ _ _ _ _ => True) (fun _ U o U' => ∃ v L, o = .returned v ∧ Q2 i0 h0 n0 v U'.heap L ∧ FrameEnd U o U' L ({ frames := 0, cells := 0, slots := 0, locals := 0 } : Room).cells ({ frames := 0, cells := 0, slots := 0, locals := 0 } : Room).slots) := by
  refine MetFree.of_bodySF (plainFor_of_name pnm_0) hisR ?_
  intro p e s m args below meth c s₁ Bd hml0 hP hK
  obtain ⟨rfl, hZ, hh⟩ := hP
  have hx := Bd.exec
  have hby := Bd.bytes
  have hml : c.maxLocals = 2 := hml0
  have hown : s.vm.findClass "com/example/waymark/waymark/util/AsciiIsAlphaPinLaw" = some m.cls := findClass_of_methodNamed Bd.named
  have X0 : Stand p l e ({ frames := 0, cells := 0, slots := 0, locals := 0 } : Room) s m #[(.int i0)] below meth c s₁ [] 0 0 := Stand.of_body Bd
  have e0 : s₁.heap = h0 := by rw [← hh, Bd.state]; rfl
  have fin := b2_0 i0 (Q := Q2 i0 h0 n0) hw X0 hx hZ hby hml hown Bd.returns (BodyLoose.notSynchronized Bd) e0 (Fr.nil n0) (Nat.zero_le _) (Nat.zero_le _) _ rfl (fun L' n' => ⟨rfl, n', rfl⟩)
  exact own_step (fun t k => castTop (ef_2 m i0) k) fin
theorem d1_0 : decode prog_44_method_2_code 0 = .ok (.iload_n 0, 1) := by decide +kernel
theorem d1_1 : decode prog_44_method_2_code 1 = .ok (.bipush 65, 2) := by decide +kernel
theorem d1_3 : decode prog_44_method_2_code 3 = .ok (.if_icmp .lt 9, 3) := by decide +kernel
theorem d1_6 : decode prog_44_method_2_code 6 = .ok (.iload_n 0, 1) := by decide +kernel
theorem d1_7 : decode prog_44_method_2_code 7 = .ok (.bipush 90, 2) := by decide +kernel
theorem d1_9 : decode prog_44_method_2_code 9 = .ok (.if_icmp .le 15, 3) := by decide +kernel
theorem d1_12 : decode prog_44_method_2_code 12 = .ok (.iload_n 0, 1) := by decide +kernel
theorem d1_13 : decode prog_44_method_2_code 13 = .ok (.bipush 97, 2) := by decide +kernel
theorem d1_15 : decode prog_44_method_2_code 15 = .ok (.if_icmp .lt 13, 3) := by decide +kernel
theorem d1_18 : decode prog_44_method_2_code 18 = .ok (.iload_n 0, 1) := by decide +kernel
theorem d1_19 : decode prog_44_method_2_code 19 = .ok (.bipush 122, 2) := by decide +kernel
theorem d1_21 : decode prog_44_method_2_code 21 = .ok (.if_icmp .gt 7, 3) := by decide +kernel
theorem d1_24 : decode prog_44_method_2_code 24 = .ok (.iconst 1, 1) := by decide +kernel
theorem d1_25 : decode prog_44_method_2_code 25 = .ok (.goto 4, 3) := by decide +kernel
theorem d1_28 : decode prog_44_method_2_code 28 = .ok (.iconst 0, 1) := by decide +kernel
theorem d1_29 : decode prog_44_method_2_code 29 = .ok (.ireturn, 1) := by decide +kernel
def f1_29 (i0 : Int32) (is0 : Int32) : Int32 := (nar .boolean is0)
set_option maxRecDepth 65536 in
set_option maxHeartbeats 40000000 in
theorem b1_29 {p : Program} {l : Launch} {e : Env} {s : State} {m : MethodId} {args : Array Value} {below : List Frame} {meth : Method} {c : Code} {T : State} {locs : List Loc} {cells slots : Nat} {Z : State} {a0 : Array Value} {h : Heap} {n0 : Nat} {Q : Option Value → Heap → List Loc → Prop} (i0 : Int32) (is0 : Int32) (hw : ∀ d ∈ tables_1, d.before a0 Z = true) (X : Stand p l e ({ frames := 0, cells := 0, slots := 0, locals := 0 } : Room) s m args below meth c T locs cells slots) (hx : p.tables.exec = Jvm.exec) (hZ : Z.Warmed39 s.vm) (hby : c.code = prog_44_method_2_code) (hml : c.maxLocals = 1) (hown : s.vm.findClass "com/example/waymark/waymark/util/Ascii" = some m.cls) (hret : meth.sig.returnType = some .boolean) (hlk : meth.locks = false) (eT : T.heap = h) (N : Fr n0 locs) (hc : cells ≤ 0) (hs : slots ≤ 0) (v : Int32) (hv : v = f1_29 i0 is0) (hQ : ∀ L', Fr n0 L' → Q (some (.int v)) h L') :
    own_Fin p e below s Q 0 0 (T.setTop (mkF m 29 #[.val (.int i0)] [(.int is0)])) := by
  exact own_retN X hx hlk hret (by simp) (hb hby d1_29) (by omega) (by omega) eT N hQ (hv)
def f1_28 (i0 : Int32) : Int32 := f1_29 i0 (0 : Int32)
set_option maxRecDepth 65536 in
set_option maxHeartbeats 40000000 in
theorem b1_28 {p : Program} {l : Launch} {e : Env} {s : State} {m : MethodId} {args : Array Value} {below : List Frame} {meth : Method} {c : Code} {T : State} {locs : List Loc} {cells slots : Nat} {Z : State} {a0 : Array Value} {h : Heap} {n0 : Nat} {Q : Option Value → Heap → List Loc → Prop} (i0 : Int32) (hw : ∀ d ∈ tables_1, d.before a0 Z = true) (X : Stand p l e ({ frames := 0, cells := 0, slots := 0, locals := 0 } : Room) s m args below meth c T locs cells slots) (hx : p.tables.exec = Jvm.exec) (hZ : Z.Warmed39 s.vm) (hby : c.code = prog_44_method_2_code) (hml : c.maxLocals = 1) (hown : s.vm.findClass "com/example/waymark/waymark/util/Ascii" = some m.cls) (hret : meth.sig.returnType = some .boolean) (hlk : meth.locks = false) (eT : T.heap = h) (N : Fr n0 locs) (hc : cells ≤ 0) (hs : slots ≤ 0) (v : Int32) (hv : v = f1_28 i0) (hQ : ∀ L', Fr n0 L' → Q (some (.int v)) h L') :
    own_Fin p e below s Q 0 0 (T.setTop (mkF m 28 #[.val (.int i0)] [])) := by
  refine own_step (fun t k => XS.iconst X.here hx rfl (hb hby d1_28) k) ?_
  exact b1_29 i0 (0 : Int32) hw X hx hZ hby hml hown hret hlk eT N (by omega) (by omega) v (hv) hQ
def f1_24 (i0 : Int32) : Int32 := f1_29 i0 (1 : Int32)
set_option maxRecDepth 65536 in
set_option maxHeartbeats 40000000 in
theorem b1_24 {p : Program} {l : Launch} {e : Env} {s : State} {m : MethodId} {args : Array Value} {below : List Frame} {meth : Method} {c : Code} {T : State} {locs : List Loc} {cells slots : Nat} {Z : State} {a0 : Array Value} {h : Heap} {n0 : Nat} {Q : Option Value → Heap → List Loc → Prop} (i0 : Int32) (hw : ∀ d ∈ tables_1, d.before a0 Z = true) (X : Stand p l e ({ frames := 0, cells := 0, slots := 0, locals := 0 } : Room) s m args below meth c T locs cells slots) (hx : p.tables.exec = Jvm.exec) (hZ : Z.Warmed39 s.vm) (hby : c.code = prog_44_method_2_code) (hml : c.maxLocals = 1) (hown : s.vm.findClass "com/example/waymark/waymark/util/Ascii" = some m.cls) (hret : meth.sig.returnType = some .boolean) (hlk : meth.locks = false) (eT : T.heap = h) (N : Fr n0 locs) (hc : cells ≤ 0) (hs : slots ≤ 0) (v : Int32) (hv : v = f1_24 i0) (hQ : ∀ L', Fr n0 L' → Q (some (.int v)) h L') :
    own_Fin p e below s Q 0 0 (T.setTop (mkF m 24 #[.val (.int i0)] [])) := by
  refine own_step (fun t k => XS.iconst X.here hx rfl (hb hby d1_24) k) ?_
  show own_Fin p e below s Q 0 0 (T.setTop (mkF m 25 #[.val (.int i0)] [(.int (1 : Int32))]))
  refine own_step (fun t k => XS.goto X.here hx rfl (pc0 := 25) (pc' := 29) rfl (hb hby d1_25) (by decide) (by decide) k) ?_
  exact b1_29 i0 (1 : Int32) hw X hx hZ hby hml hown hret hlk eT N (by omega) (by omega) v (hv) hQ
def f1_18 (i0 : Int32) : Int32 := if (122 : Int32) < i0 then f1_28 i0 else f1_24 i0
set_option maxRecDepth 65536 in
set_option maxHeartbeats 40000000 in
theorem b1_18 {p : Program} {l : Launch} {e : Env} {s : State} {m : MethodId} {args : Array Value} {below : List Frame} {meth : Method} {c : Code} {T : State} {locs : List Loc} {cells slots : Nat} {Z : State} {a0 : Array Value} {h : Heap} {n0 : Nat} {Q : Option Value → Heap → List Loc → Prop} (i0 : Int32) (hw : ∀ d ∈ tables_1, d.before a0 Z = true) (X : Stand p l e ({ frames := 0, cells := 0, slots := 0, locals := 0 } : Room) s m args below meth c T locs cells slots) (hx : p.tables.exec = Jvm.exec) (hZ : Z.Warmed39 s.vm) (hby : c.code = prog_44_method_2_code) (hml : c.maxLocals = 1) (hown : s.vm.findClass "com/example/waymark/waymark/util/Ascii" = some m.cls) (hret : meth.sig.returnType = some .boolean) (hlk : meth.locks = false) (eT : T.heap = h) (N : Fr n0 locs) (hc : cells ≤ 0) (hs : slots ≤ 0) (v : Int32) (hv : v = f1_18 i0) (hQ : ∀ L', Fr n0 L' → Q (some (.int v)) h L') :
    own_Fin p e below s Q 0 0 (T.setTop (mkF m 18 #[.val (.int i0)] [])) := by
  refine own_step (fun t k => XS.iloadN X.here hx rfl (hb hby d1_18) rfl  k) ?_
  show own_Fin p e below s Q 0 0 (T.setTop (mkF m 19 #[.val (.int i0)] [(.int i0)]))
  refine own_step (fun t k => XS.bipush X.here hx rfl (hb hby d1_19) k) ?_
  show own_Fin p e below s Q 0 0 (T.setTop (mkF m 21 #[.val (.int i0)] [(.int (122 : Int32)), (.int i0)]))
  by_cases hB21_12 : (122 : Int32) < i0
  · refine own_step (fun t k => XS.icmpYes X.here hx rfl (pc0 := 21) (pc' := 28) rfl (hb hby d1_21) rfl (tlt hB21_12).2.2.1 (by decide) (by decide) k) ?_
    exact b1_28 i0 hw X hx hZ hby hml hown hret hlk eT N (by omega) (by omega) v (hv.trans (if_pos hB21_12)) hQ
  · refine own_step (fun t k => XS.icmpNo X.here hx rfl (hb hby d1_21) rfl (flt hB21_12).2.2.1 k) ?_
    exact b1_24 i0 hw X hx hZ hby hml hown hret hlk eT N (by omega) (by omega) v (hv.trans (if_neg hB21_12)) hQ
def f1_12 (i0 : Int32) : Int32 := if i0 < (97 : Int32) then f1_28 i0 else f1_18 i0
set_option maxRecDepth 65536 in
set_option maxHeartbeats 40000000 in
theorem b1_12 {p : Program} {l : Launch} {e : Env} {s : State} {m : MethodId} {args : Array Value} {below : List Frame} {meth : Method} {c : Code} {T : State} {locs : List Loc} {cells slots : Nat} {Z : State} {a0 : Array Value} {h : Heap} {n0 : Nat} {Q : Option Value → Heap → List Loc → Prop} (i0 : Int32) (hw : ∀ d ∈ tables_1, d.before a0 Z = true) (X : Stand p l e ({ frames := 0, cells := 0, slots := 0, locals := 0 } : Room) s m args below meth c T locs cells slots) (hx : p.tables.exec = Jvm.exec) (hZ : Z.Warmed39 s.vm) (hby : c.code = prog_44_method_2_code) (hml : c.maxLocals = 1) (hown : s.vm.findClass "com/example/waymark/waymark/util/Ascii" = some m.cls) (hret : meth.sig.returnType = some .boolean) (hlk : meth.locks = false) (eT : T.heap = h) (N : Fr n0 locs) (hc : cells ≤ 0) (hs : slots ≤ 0) (v : Int32) (hv : v = f1_12 i0) (hQ : ∀ L', Fr n0 L' → Q (some (.int v)) h L') :
    own_Fin p e below s Q 0 0 (T.setTop (mkF m 12 #[.val (.int i0)] [])) := by
  refine own_step (fun t k => XS.iloadN X.here hx rfl (hb hby d1_12) rfl  k) ?_
  show own_Fin p e below s Q 0 0 (T.setTop (mkF m 13 #[.val (.int i0)] [(.int i0)]))
  refine own_step (fun t k => XS.bipush X.here hx rfl (hb hby d1_13) k) ?_
  show own_Fin p e below s Q 0 0 (T.setTop (mkF m 15 #[.val (.int i0)] [(.int (97 : Int32)), (.int i0)]))
  by_cases hB15_9 : i0 < (97 : Int32)
  · refine own_step (fun t k => XS.icmpYes X.here hx rfl (pc0 := 15) (pc' := 28) rfl (hb hby d1_15) rfl (tlt hB15_9).1 (by decide) (by decide) k) ?_
    exact b1_28 i0 hw X hx hZ hby hml hown hret hlk eT N (by omega) (by omega) v (hv.trans (if_pos hB15_9)) hQ
  · refine own_step (fun t k => XS.icmpNo X.here hx rfl (hb hby d1_15) rfl (flt hB15_9).1 k) ?_
    exact b1_18 i0 hw X hx hZ hby hml hown hret hlk eT N (by omega) (by omega) v (hv.trans (if_neg hB15_9)) hQ
def f1_6 (i0 : Int32) : Int32 := if (90 : Int32) < i0 then f1_12 i0 else f1_24 i0
set_option maxRecDepth 65536 in
set_option maxHeartbeats 40000000 in
theorem b1_6 {p : Program} {l : Launch} {e : Env} {s : State} {m : MethodId} {args : Array Value} {below : List Frame} {meth : Method} {c : Code} {T : State} {locs : List Loc} {cells slots : Nat} {Z : State} {a0 : Array Value} {h : Heap} {n0 : Nat} {Q : Option Value → Heap → List Loc → Prop} (i0 : Int32) (hw : ∀ d ∈ tables_1, d.before a0 Z = true) (X : Stand p l e ({ frames := 0, cells := 0, slots := 0, locals := 0 } : Room) s m args below meth c T locs cells slots) (hx : p.tables.exec = Jvm.exec) (hZ : Z.Warmed39 s.vm) (hby : c.code = prog_44_method_2_code) (hml : c.maxLocals = 1) (hown : s.vm.findClass "com/example/waymark/waymark/util/Ascii" = some m.cls) (hret : meth.sig.returnType = some .boolean) (hlk : meth.locks = false) (eT : T.heap = h) (N : Fr n0 locs) (hc : cells ≤ 0) (hs : slots ≤ 0) (v : Int32) (hv : v = f1_6 i0) (hQ : ∀ L', Fr n0 L' → Q (some (.int v)) h L') :
    own_Fin p e below s Q 0 0 (T.setTop (mkF m 6 #[.val (.int i0)] [])) := by
  refine own_step (fun t k => XS.iloadN X.here hx rfl (hb hby d1_6) rfl  k) ?_
  show own_Fin p e below s Q 0 0 (T.setTop (mkF m 7 #[.val (.int i0)] [(.int i0)]))
  refine own_step (fun t k => XS.bipush X.here hx rfl (hb hby d1_7) k) ?_
  show own_Fin p e below s Q 0 0 (T.setTop (mkF m 9 #[.val (.int i0)] [(.int (90 : Int32)), (.int i0)]))
  by_cases hB9_16 : (90 : Int32) < i0
  · refine own_step (fun t k => XS.icmpNo X.here hx rfl (hb hby d1_9) rfl (tlt hB9_16).2.2.2 k) ?_
    exact b1_12 i0 hw X hx hZ hby hml hown hret hlk eT N (by omega) (by omega) v (hv.trans (if_pos hB9_16)) hQ
  · refine own_step (fun t k => XS.icmpYes X.here hx rfl (pc0 := 9) (pc' := 24) rfl (hb hby d1_9) rfl (flt hB9_16).2.2.2 (by decide) (by decide) k) ?_
    exact b1_24 i0 hw X hx hZ hby hml hown hret hlk eT N (by omega) (by omega) v (hv.trans (if_neg hB9_16)) hQ
def f1_0 (i0 : Int32) : Int32 := if i0 < (65 : Int32) then f1_12 i0 else f1_6 i0
set_option maxRecDepth 65536 in
set_option maxHeartbeats 40000000 in
theorem b1_0 {p : Program} {l : Launch} {e : Env} {s : State} {m : MethodId} {args : Array Value} {below : List Frame} {meth : Method} {c : Code} {T : State} {locs : List Loc} {cells slots : Nat} {Z : State} {a0 : Array Value} {h : Heap} {n0 : Nat} {Q : Option Value → Heap → List Loc → Prop} (i0 : Int32) (hw : ∀ d ∈ tables_1, d.before a0 Z = true) (X : Stand p l e ({ frames := 0, cells := 0, slots := 0, locals := 0 } : Room) s m args below meth c T locs cells slots) (hx : p.tables.exec = Jvm.exec) (hZ : Z.Warmed39 s.vm) (hby : c.code = prog_44_method_2_code) (hml : c.maxLocals = 1) (hown : s.vm.findClass "com/example/waymark/waymark/util/Ascii" = some m.cls) (hret : meth.sig.returnType = some .boolean) (hlk : meth.locks = false) (eT : T.heap = h) (N : Fr n0 locs) (hc : cells ≤ 0) (hs : slots ≤ 0) (v : Int32) (hv : v = f1_0 i0) (hQ : ∀ L', Fr n0 L' → Q (some (.int v)) h L') :
    own_Fin p e below s Q 0 0 (T.setTop (mkF m 0 #[.val (.int i0)] [])) := by
  refine own_step (fun t k => XS.iloadN X.here hx rfl (hb hby d1_0) rfl  k) ?_
  show own_Fin p e below s Q 0 0 (T.setTop (mkF m 1 #[.val (.int i0)] [(.int i0)]))
  refine own_step (fun t k => XS.bipush X.here hx rfl (hb hby d1_1) k) ?_
  show own_Fin p e below s Q 0 0 (T.setTop (mkF m 3 #[.val (.int i0)] [(.int (65 : Int32)), (.int i0)]))
  by_cases hB3_7 : i0 < (65 : Int32)
  · refine own_step (fun t k => XS.icmpYes X.here hx rfl (pc0 := 3) (pc' := 12) rfl (hb hby d1_3) rfl (tlt hB3_7).1 (by decide) (by decide) k) ?_
    exact b1_12 i0 hw X hx hZ hby hml hown hret hlk eT N (by omega) (by omega) v (hv.trans (if_pos hB3_7)) hQ
  · refine own_step (fun t k => XS.icmpNo X.here hx rfl (hb hby d1_3) rfl (flt hB3_7).1 k) ?_
    exact b1_6 i0 hw X hx hZ hby hml hown hret hlk eT N (by omega) (by omega) v (hv.trans (if_neg hB3_7)) hQ
theorem pnm_1 : plainName "com/example/waymark/waymark/util/Ascii" = true := by first | (simp [plainName, overriddenIn]; done) | decide +kernel
theorem ef_1 (m : MethodId) (i0 : Int32) : entryFrame m #[(.int i0)] 1 = (mkF m 0 #[.val (.int i0)] []) := by first | (simp [entryFrame, mkF, argsToLocals, Value.category]; done) | rfl
def Q1 (i0 : Int32) (h0 : Heap) (n0 : Nat) (v : Option Value) (h : Heap) (L : List Loc) : Prop := v = some (.int (f1_0 i0)) ∧ Fr n0 L ∧ h = h0
set_option maxRecDepth 65536 in
set_option maxHeartbeats 4000000 in
theorem rm1 (l : Launch) (Z : State) (a0 : Array Value) (hw : ∀ d ∈ tables_1, d.before a0 Z = true) (ws : List Jvm.Cond) (i0 : Int32) (h0 : Heap) (n0 : Nat) :
    MetFree l (⟨"com/example/waymark/waymark/util/Ascii", "isAlpha", "(I)Z"⟩ : MethodName) (head1 (Jvm.Cond.code (⟨"com/example/waymark/waymark/util/Ascii", "isAlpha", "(I)Z"⟩ : MethodName) prog_44_method_2_code 1 (some .boolean) :: ws) ({ frames := 0, cells := 0, slots := 0, locals := 0 } : Room)) (fun a U => a = #[(.int i0)] ∧ Z.Warmed39 U.vm ∧ U.heap = h0) (fun _ _ _ _ _ => True) (fun _ U o U' => ∃ v L, o = .returned v ∧ Q1 i0 h0 n0 v U'.heap L ∧ FrameEnd U o U' L ({ frames := 0, cells := 0, slots := 0, locals := 0 } : Room).cells ({ frames := 0, cells := 0, slots := 0, locals := 0 } : Room).slots) := by
  refine MetFree.of_bodySF (plainFor_of_name pnm_1) hisR ?_
  intro p e s m args below meth c s₁ Bd hml0 hP hK
  obtain ⟨rfl, hZ, hh⟩ := hP
  have hx := Bd.exec
  have hby := Bd.bytes
  have hml : c.maxLocals = 1 := hml0
  have hown : s.vm.findClass "com/example/waymark/waymark/util/Ascii" = some m.cls := findClass_of_methodNamed Bd.named
  have X0 : Stand p l e ({ frames := 0, cells := 0, slots := 0, locals := 0 } : Room) s m #[(.int i0)] below meth c s₁ [] 0 0 := Stand.of_body Bd
  have e0 : s₁.heap = h0 := by rw [← hh, Bd.state]; rfl
  have fin := b1_0 i0 (Q := Q1 i0 h0 n0) hw X0 hx hZ hby hml hown Bd.returns (BodyLoose.notSynchronized Bd) e0 (Fr.nil n0) (Nat.zero_le _) (Nat.zero_le _) _ rfl (fun L' n' => ⟨rfl, n', rfl⟩)
  exact own_step (fun t k => castTop (ef_1 m i0) k) fin
def f0_57 (i0 : Int32) (i1 : Int32) (i2 : Int32) (i3 : Int32) (i4 : Int32) (is0 : Int32) : Int32 := (nar .boolean is0)
set_option maxRecDepth 65536 in
set_option maxHeartbeats 40000000 in
theorem b0_57 {p : Program} {l : Launch} {e : Env} {s : State} {m : MethodId} {args : Array Value} {below : List Frame} {meth : Method} {c : Code} {T : State} {locs : List Loc} {cells slots : Nat} {Z : State} {a0 : Array Value} {h : Heap} {n0 : Nat} {Q : Option Value → Heap → List Loc → Prop} (i0 : Int32) (i1 : Int32) (i2 : Int32) (i3 : Int32) (i4 : Int32) (is0 : Int32) (hw : ∀ d ∈ tables_1, d.before a0 Z = true) (X : Stand p l e room_1 s m args below meth c T locs cells slots) (hx : p.tables.exec = Jvm.exec) (hZ : Z.Warmed39 s.vm) (hby : c.code = code) (hml : c.maxLocals = 5) (hown : s.vm.findClass "com/example/waymark/waymark/util/AsciiIsAlphaPinLaw" = some m.cls) (hret : meth.sig.returnType = some .boolean) (hlk : meth.locks = false) (eT : T.heap = h) (N : Fr n0 locs) (hc : cells ≤ 0) (hs : slots ≤ 0) (v : Int32) (hv : v = f0_57 i0 i1 i2 i3 i4 is0) (hQ : ∀ L', Fr n0 L' → Q (some (.int v)) h L') :
    own_Fin p e below s Q 0 0 (T.setTop (mkF m 57 #[.val (.int i0), .val (.int i1), .val (.int i2), .val (.int i3), .val (.int i4)] [(.int is0)])) := by
  exact own_retN X hx hlk hret (by simp) (hb hby at_57) (by omega) (by omega) eT N hQ (hv)
def f0_56 (i0 : Int32) (i1 : Int32) (i2 : Int32) (i3 : Int32) (i4 : Int32) : Int32 := f0_57 i0 i1 i2 i3 i4 (0 : Int32)
set_option maxRecDepth 65536 in
set_option maxHeartbeats 40000000 in
theorem b0_56 {p : Program} {l : Launch} {e : Env} {s : State} {m : MethodId} {args : Array Value} {below : List Frame} {meth : Method} {c : Code} {T : State} {locs : List Loc} {cells slots : Nat} {Z : State} {a0 : Array Value} {h : Heap} {n0 : Nat} {Q : Option Value → Heap → List Loc → Prop} (i0 : Int32) (i1 : Int32) (i2 : Int32) (i3 : Int32) (i4 : Int32) (hw : ∀ d ∈ tables_1, d.before a0 Z = true) (X : Stand p l e room_1 s m args below meth c T locs cells slots) (hx : p.tables.exec = Jvm.exec) (hZ : Z.Warmed39 s.vm) (hby : c.code = code) (hml : c.maxLocals = 5) (hown : s.vm.findClass "com/example/waymark/waymark/util/AsciiIsAlphaPinLaw" = some m.cls) (hret : meth.sig.returnType = some .boolean) (hlk : meth.locks = false) (eT : T.heap = h) (N : Fr n0 locs) (hc : cells ≤ 0) (hs : slots ≤ 0) (v : Int32) (hv : v = f0_56 i0 i1 i2 i3 i4) (hQ : ∀ L', Fr n0 L' → Q (some (.int v)) h L') :
    own_Fin p e below s Q 0 0 (T.setTop (mkF m 56 #[.val (.int i0), .val (.int i1), .val (.int i2), .val (.int i3), .val (.int i4)] [])) := by
  refine own_step (fun t k => XS.iconst X.here hx rfl (hb hby at_56) k) ?_
  exact b0_57 i0 i1 i2 i3 i4 (0 : Int32) hw X hx hZ hby hml hown hret hlk eT N (by omega) (by omega) v (hv) hQ
def f0_52 (i0 : Int32) (i1 : Int32) (i2 : Int32) (i3 : Int32) (i4 : Int32) : Int32 := f0_57 i0 i1 i2 i3 i4 (1 : Int32)
set_option maxRecDepth 65536 in
set_option maxHeartbeats 40000000 in
theorem b0_52 {p : Program} {l : Launch} {e : Env} {s : State} {m : MethodId} {args : Array Value} {below : List Frame} {meth : Method} {c : Code} {T : State} {locs : List Loc} {cells slots : Nat} {Z : State} {a0 : Array Value} {h : Heap} {n0 : Nat} {Q : Option Value → Heap → List Loc → Prop} (i0 : Int32) (i1 : Int32) (i2 : Int32) (i3 : Int32) (i4 : Int32) (hw : ∀ d ∈ tables_1, d.before a0 Z = true) (X : Stand p l e room_1 s m args below meth c T locs cells slots) (hx : p.tables.exec = Jvm.exec) (hZ : Z.Warmed39 s.vm) (hby : c.code = code) (hml : c.maxLocals = 5) (hown : s.vm.findClass "com/example/waymark/waymark/util/AsciiIsAlphaPinLaw" = some m.cls) (hret : meth.sig.returnType = some .boolean) (hlk : meth.locks = false) (eT : T.heap = h) (N : Fr n0 locs) (hc : cells ≤ 0) (hs : slots ≤ 0) (v : Int32) (hv : v = f0_52 i0 i1 i2 i3 i4) (hQ : ∀ L', Fr n0 L' → Q (some (.int v)) h L') :
    own_Fin p e below s Q 0 0 (T.setTop (mkF m 52 #[.val (.int i0), .val (.int i1), .val (.int i2), .val (.int i3), .val (.int i4)] [])) := by
  refine own_step (fun t k => XS.iconst X.here hx rfl (hb hby at_52) k) ?_
  show own_Fin p e below s Q 0 0 (T.setTop (mkF m 53 #[.val (.int i0), .val (.int i1), .val (.int i2), .val (.int i3), .val (.int i4)] [(.int (1 : Int32))]))
  refine own_step (fun t k => XS.goto X.here hx rfl (pc0 := 53) (pc' := 57) rfl (hb hby at_53) (by decide) (by decide) k) ?_
  exact b0_57 i0 i1 i2 i3 i4 (1 : Int32) hw X hx hZ hby hml hown hret hlk eT N (by omega) (by omega) v (hv) hQ
def f0_47 (i0 : Int32) (i1 : Int32) (i2 : Int32) (i3 : Int32) (i4 : Int32) : Int32 := if i4 = (0 : Int32) then f0_56 i0 i1 i2 i3 i4 else f0_52 i0 i1 i2 i3 i4
set_option maxRecDepth 65536 in
set_option maxHeartbeats 40000000 in
theorem b0_47 {p : Program} {l : Launch} {e : Env} {s : State} {m : MethodId} {args : Array Value} {below : List Frame} {meth : Method} {c : Code} {T : State} {locs : List Loc} {cells slots : Nat} {Z : State} {a0 : Array Value} {h : Heap} {n0 : Nat} {Q : Option Value → Heap → List Loc → Prop} (i0 : Int32) (i1 : Int32) (i2 : Int32) (i3 : Int32) (i4 : Int32) (hw : ∀ d ∈ tables_1, d.before a0 Z = true) (X : Stand p l e room_1 s m args below meth c T locs cells slots) (hx : p.tables.exec = Jvm.exec) (hZ : Z.Warmed39 s.vm) (hby : c.code = code) (hml : c.maxLocals = 5) (hown : s.vm.findClass "com/example/waymark/waymark/util/AsciiIsAlphaPinLaw" = some m.cls) (hret : meth.sig.returnType = some .boolean) (hlk : meth.locks = false) (eT : T.heap = h) (N : Fr n0 locs) (hc : cells ≤ 0) (hs : slots ≤ 0) (v : Int32) (hv : v = f0_47 i0 i1 i2 i3 i4) (hQ : ∀ L', Fr n0 L' → Q (some (.int v)) h L') :
    own_Fin p e below s Q 0 0 (T.setTop (mkF m 47 #[.val (.int i0), .val (.int i1), .val (.int i2), .val (.int i3), .val (.int i4)] [])) := by
  refine own_step (fun t k => XS.iload X.here hx rfl (hb hby at_47) rfl  k) ?_
  show own_Fin p e below s Q 0 0 (T.setTop (mkF m 49 #[.val (.int i0), .val (.int i1), .val (.int i2), .val (.int i3), .val (.int i4)] [(.int i4)]))
  by_cases hB49_30 : i4 = (0 : Int32)
  · refine own_step (fun t k => XS.ifYes X.here hx rfl (pc0 := 49) (pc' := 56) rfl (hb hby at_49) rfl ((if0 _ _).trans (teq hB49_30).1) (by decide) (by decide) k) ?_
    exact b0_56 i0 i1 i2 i3 i4 hw X hx hZ hby hml hown hret hlk eT N (by omega) (by omega) v (hv.trans (if_pos hB49_30)) hQ
  · refine own_step (fun t k => XS.ifNo X.here hx rfl (hb hby at_49) rfl ((if0 _ _).trans (feq hB49_30).1) k) ?_
    exact b0_52 i0 i1 i2 i3 i4 hw X hx hZ hby hml hown hret hlk eT N (by omega) (by omega) v (hv.trans (if_neg hB49_30)) hQ
def f0_41 (i0 : Int32) (i1 : Int32) (i2 : Int32) (i3 : Int32) (is0 : Int32) : Int32 := if i3 = (0 : Int32) then f0_56 i0 i1 i2 i3 is0 else f0_47 i0 i1 i2 i3 is0
set_option maxRecDepth 65536 in
set_option maxHeartbeats 40000000 in
theorem b0_41 {p : Program} {l : Launch} {e : Env} {s : State} {m : MethodId} {args : Array Value} {below : List Frame} {meth : Method} {c : Code} {T : State} {locs : List Loc} {cells slots : Nat} {Z : State} {a0 : Array Value} {h : Heap} {n0 : Nat} {Q : Option Value → Heap → List Loc → Prop} (i0 : Int32) (i1 : Int32) (i2 : Int32) (i3 : Int32) (is0 : Int32) (hw : ∀ d ∈ tables_1, d.before a0 Z = true) (X : Stand p l e room_1 s m args below meth c T locs cells slots) (hx : p.tables.exec = Jvm.exec) (hZ : Z.Warmed39 s.vm) (hby : c.code = code) (hml : c.maxLocals = 5) (hown : s.vm.findClass "com/example/waymark/waymark/util/AsciiIsAlphaPinLaw" = some m.cls) (hret : meth.sig.returnType = some .boolean) (hlk : meth.locks = false) (eT : T.heap = h) (N : Fr n0 locs) (hc : cells ≤ 0) (hs : slots ≤ 0) (v : Int32) (hv : v = f0_41 i0 i1 i2 i3 is0) (hQ : ∀ L', Fr n0 L' → Q (some (.int v)) h L') :
    own_Fin p e below s Q 0 0 (T.setTop (mkF m 41 #[.val (.int i0), .val (.int i1), .val (.int i2), .val (.int i3), .unset] [(.int is0)])) := by
  refine own_step (fun t k => XS.istore X.here hx rfl (hb hby at_41) rfl (l' := #[.val (.int i0), .val (.int i1), .val (.int i2), .val (.int i3), .val (.int is0)]) rfl k) ?_
  show own_Fin p e below s Q 0 0 (T.setTop (mkF m 43 #[.val (.int i0), .val (.int i1), .val (.int i2), .val (.int i3), .val (.int is0)] []))
  refine own_step (fun t k => XS.iloadN X.here hx rfl (hb hby at_43) rfl  k) ?_
  show own_Fin p e below s Q 0 0 (T.setTop (mkF m 44 #[.val (.int i0), .val (.int i1), .val (.int i2), .val (.int i3), .val (.int is0)] [(.int i3)]))
  by_cases hB44_27 : i3 = (0 : Int32)
  · refine own_step (fun t k => XS.ifYes X.here hx rfl (pc0 := 44) (pc' := 56) rfl (hb hby at_44) rfl ((if0 _ _).trans (teq hB44_27).1) (by decide) (by decide) k) ?_
    exact b0_56 i0 i1 i2 i3 is0 hw X hx hZ hby hml hown hret hlk eT N (by omega) (by omega) v (hv.trans (if_pos hB44_27)) hQ
  · refine own_step (fun t k => XS.ifNo X.here hx rfl (hb hby at_44) rfl ((if0 _ _).trans (feq hB44_27).1) k) ?_
    exact b0_47 i0 i1 i2 i3 is0 hw X hx hZ hby hml hown hret hlk eT N (by omega) (by omega) v (hv.trans (if_neg hB44_27)) hQ
def f0_36 (i0 : Int32) (i1 : Int32) (i2 : Int32) (i3 : Int32) : Int32 := f0_41 i0 i1 i2 i3 (1 : Int32)
set_option maxRecDepth 65536 in
set_option maxHeartbeats 40000000 in
theorem b0_36 {p : Program} {l : Launch} {e : Env} {s : State} {m : MethodId} {args : Array Value} {below : List Frame} {meth : Method} {c : Code} {T : State} {locs : List Loc} {cells slots : Nat} {Z : State} {a0 : Array Value} {h : Heap} {n0 : Nat} {Q : Option Value → Heap → List Loc → Prop} (i0 : Int32) (i1 : Int32) (i2 : Int32) (i3 : Int32) (hw : ∀ d ∈ tables_1, d.before a0 Z = true) (X : Stand p l e room_1 s m args below meth c T locs cells slots) (hx : p.tables.exec = Jvm.exec) (hZ : Z.Warmed39 s.vm) (hby : c.code = code) (hml : c.maxLocals = 5) (hown : s.vm.findClass "com/example/waymark/waymark/util/AsciiIsAlphaPinLaw" = some m.cls) (hret : meth.sig.returnType = some .boolean) (hlk : meth.locks = false) (eT : T.heap = h) (N : Fr n0 locs) (hc : cells ≤ 0) (hs : slots ≤ 0) (v : Int32) (hv : v = f0_36 i0 i1 i2 i3) (hQ : ∀ L', Fr n0 L' → Q (some (.int v)) h L') :
    own_Fin p e below s Q 0 0 (T.setTop (mkF m 36 #[.val (.int i0), .val (.int i1), .val (.int i2), .val (.int i3), .unset] [])) := by
  refine own_step (fun t k => XS.iconst X.here hx rfl (hb hby at_36) k) ?_
  show own_Fin p e below s Q 0 0 (T.setTop (mkF m 37 #[.val (.int i0), .val (.int i1), .val (.int i2), .val (.int i3), .unset] [(.int (1 : Int32))]))
  refine own_step (fun t k => XS.goto X.here hx rfl (pc0 := 37) (pc' := 41) rfl (hb hby at_37) (by decide) (by decide) k) ?_
  exact b0_41 i0 i1 i2 i3 (1 : Int32) hw X hx hZ hby hml hown hret hlk eT N (by omega) (by omega) v (hv) hQ
def f0_40 (i0 : Int32) (i1 : Int32) (i2 : Int32) (i3 : Int32) : Int32 := f0_41 i0 i1 i2 i3 (0 : Int32)
set_option maxRecDepth 65536 in
set_option maxHeartbeats 40000000 in
theorem b0_40 {p : Program} {l : Launch} {e : Env} {s : State} {m : MethodId} {args : Array Value} {below : List Frame} {meth : Method} {c : Code} {T : State} {locs : List Loc} {cells slots : Nat} {Z : State} {a0 : Array Value} {h : Heap} {n0 : Nat} {Q : Option Value → Heap → List Loc → Prop} (i0 : Int32) (i1 : Int32) (i2 : Int32) (i3 : Int32) (hw : ∀ d ∈ tables_1, d.before a0 Z = true) (X : Stand p l e room_1 s m args below meth c T locs cells slots) (hx : p.tables.exec = Jvm.exec) (hZ : Z.Warmed39 s.vm) (hby : c.code = code) (hml : c.maxLocals = 5) (hown : s.vm.findClass "com/example/waymark/waymark/util/AsciiIsAlphaPinLaw" = some m.cls) (hret : meth.sig.returnType = some .boolean) (hlk : meth.locks = false) (eT : T.heap = h) (N : Fr n0 locs) (hc : cells ≤ 0) (hs : slots ≤ 0) (v : Int32) (hv : v = f0_40 i0 i1 i2 i3) (hQ : ∀ L', Fr n0 L' → Q (some (.int v)) h L') :
    own_Fin p e below s Q 0 0 (T.setTop (mkF m 40 #[.val (.int i0), .val (.int i1), .val (.int i2), .val (.int i3), .unset] [])) := by
  refine own_step (fun t k => XS.iconst X.here hx rfl (hb hby at_40) k) ?_
  exact b0_41 i0 i1 i2 i3 (0 : Int32) hw X hx hZ hby hml hown hret hlk eT N (by omega) (by omega) v (hv) hQ
def f0_24 (i0 : Int32) (i1 : Int32) (i2 : Int32) (is0 : Int32) : Int32 := if (f1_0 i2) = (f2_0 i2) then f0_36 i0 i1 i2 is0 else f0_40 i0 i1 i2 is0
set_option maxRecDepth 65536 in
set_option maxHeartbeats 40000000 in
theorem b0_24 {p : Program} {l : Launch} {e : Env} {s : State} {m : MethodId} {args : Array Value} {below : List Frame} {meth : Method} {c : Code} {T : State} {locs : List Loc} {cells slots : Nat} {Z : State} {a0 : Array Value} {h : Heap} {n0 : Nat} {Q : Option Value → Heap → List Loc → Prop} (i0 : Int32) (i1 : Int32) (i2 : Int32) (is0 : Int32) (hw : ∀ d ∈ tables_1, d.before a0 Z = true) (X : Stand p l e room_1 s m args below meth c T locs cells slots) (hx : p.tables.exec = Jvm.exec) (hZ : Z.Warmed39 s.vm) (hby : c.code = code) (hml : c.maxLocals = 5) (hown : s.vm.findClass "com/example/waymark/waymark/util/AsciiIsAlphaPinLaw" = some m.cls) (hret : meth.sig.returnType = some .boolean) (hlk : meth.locks = false) (eT : T.heap = h) (N : Fr n0 locs) (hc : cells ≤ 0) (hs : slots ≤ 0) (v : Int32) (hv : v = f0_24 i0 i1 i2 is0) (hQ : ∀ L', Fr n0 L' → Q (some (.int v)) h L') :
    own_Fin p e below s Q 0 0 (T.setTop (mkF m 24 #[.val (.int i0), .val (.int i1), .val (.int i2), .unset, .unset] [(.int is0)])) := by
  refine own_step (fun t k => XS.istoreN X.here hx rfl (hb hby at_24) rfl (l' := #[.val (.int i0), .val (.int i1), .val (.int i2), .val (.int is0), .unset]) rfl k) ?_
  show own_Fin p e below s Q 0 0 (T.setTop (mkF m 25 #[.val (.int i0), .val (.int i1), .val (.int i2), .val (.int is0), .unset] []))
  refine own_step (fun t k => XS.iloadN X.here hx rfl (hb hby at_25) rfl  k) ?_
  show own_Fin p e below s Q 0 0 (T.setTop (mkF m 26 #[.val (.int i0), .val (.int i1), .val (.int i2), .val (.int is0), .unset] [(.int i2)]))
  obtain ⟨_, _, ⟨T23, L23, k23, n23⟩, -, X23, ⟨Lc23, hQ23, l23, y23, z23⟩, st23⟩ := Jvm.LawKit.callS X hx (y := (⟨"com/example/waymark/waymark/util/Ascii", "isAlpha", "(I)Z"⟩ : MethodName)) hown (mvT hZ (hw _ (List.mem_of_getElem? (i := 0) rfl))) (mvT hZ (hw _ (List.mem_of_getElem? (i := 1) rfl))) (mvT hZ (hw _ (List.mem_of_getElem? (i := 2) rfl))) (mvT hZ (hw _ (List.mem_of_getElem? (i := 3) rfl))) (by decide) (backOf (W := 0) (rm1 l Z a0 hw [] i2 h n0) hZ (hw _ (List.mem_of_getElem? (i := 3) rfl)) (hw _ (List.mem_of_getElem? (i := 2) rfl)) (by decide) (by decide)) (g := (mkF m 26 #[.val (.int i0), .val (.int i1), .val (.int i2), .val (.int is0), .unset] [(.int i2)])) rfl (by rw [hml]; rfl) (argsL := [(.int i2)]) (rest := []) (lenOf pdm_0 rfl) rfl (by show 2 * 0 + _ ≤ _; exact Nat.le_of_eq rfl) (hb hby at_26) (fun _ _ => ⟨rfl, eT, (by show (_ : Nat) ≤ 0; omega), (by show (_ : Nat) ≤ 0; omega)⟩)
  dsimp only [Pt.U, Pt.locs, Pt.cells, Pt.slots] at X23 l23 y23 z23 st23 hQ23
  subst l23 y23 z23
  obtain ⟨rfl, N23q, e23⟩ := hQ23
  have N23 := Fr.app N N23q
  refine own_step st23 ?_
  show own_Fin p e below s Q 0 0 (T23.setTop (mkF m 29 #[.val (.int i0), .val (.int i1), .val (.int i2), .val (.int is0), .unset] [(.int (f1_0 i2))]))
  refine own_step (fun t k => XS.iloadN X23.here hx rfl (hb hby at_29) rfl  k) ?_
  show own_Fin p e below s Q 0 0 (T23.setTop (mkF m 30 #[.val (.int i0), .val (.int i1), .val (.int i2), .val (.int is0), .unset] [(.int i2), (.int (f1_0 i2))]))
  obtain ⟨_, _, ⟨T24, L24, k24, n24⟩, -, X24, ⟨Lc24, hQ24, l24, y24, z24⟩, st24⟩ := Jvm.LawKit.callS X23 hx (y := (⟨"com/example/waymark/waymark/util/AsciiIsAlphaPinLaw", "ref", "(I)Z"⟩ : MethodName)) hown (mvT hZ (hw _ (List.mem_of_getElem? (i := 4) rfl))) (mvT hZ (hw _ (List.mem_of_getElem? (i := 5) rfl))) (mvT hZ (hw _ (List.mem_of_getElem? (i := 6) rfl))) (mvT hZ (hw _ (List.mem_of_getElem? (i := 7) rfl))) (by decide) (backOf (W := 1) (rm2 l Z a0 hw [] i2 h n0) hZ (hw _ (List.mem_of_getElem? (i := 7) rfl)) (hw _ (List.mem_of_getElem? (i := 6) rfl)) (by decide) (by decide)) (g := (mkF m 30 #[.val (.int i0), .val (.int i1), .val (.int i2), .val (.int is0), .unset] [(.int i2), (.int (f1_0 i2))])) rfl (by rw [hml]; rfl) (argsL := [(.int i2)]) (rest := [(.int (f1_0 i2))]) (lenOf pdm_0 rfl) rfl (by show 2 * 0 + _ ≤ _; exact Nat.le_of_eq rfl) (hb hby at_30) (fun _ _ => ⟨rfl, e23, (by show (_ : Nat) ≤ 0; omega), (by show (_ : Nat) ≤ 0; omega)⟩)
  dsimp only [Pt.U, Pt.locs, Pt.cells, Pt.slots] at X24 l24 y24 z24 st24 hQ24
  subst l24 y24 z24
  obtain ⟨rfl, N24q, e24⟩ := hQ24
  have N24 := Fr.app N23 N24q
  refine own_step st24 ?_
  show own_Fin p e below s Q 0 0 (T24.setTop (mkF m 33 #[.val (.int i0), .val (.int i1), .val (.int i2), .val (.int is0), .unset] [(.int (f2_0 i2)), (.int (f1_0 i2))]))
  by_cases hB33_25 : (f1_0 i2) = (f2_0 i2)
  · refine own_step (fun t k => XS.icmpNo X24.here hx rfl (hb hby at_33) rfl (teq hB33_25).2 k) ?_
    exact b0_36 i0 i1 i2 is0 hw X24 hx hZ hby hml hown hret hlk e24 N24 (by omega) (by omega) v (hv.trans (if_pos hB33_25)) hQ
  · refine own_step (fun t k => XS.icmpYes X24.here hx rfl (pc0 := 33) (pc' := 40) rfl (hb hby at_33) rfl (feq hB33_25).2 (by decide) (by decide) k) ?_
    exact b0_40 i0 i1 i2 is0 hw X24 hx hZ hby hml hown hret hlk e24 N24 (by omega) (by omega) v (hv.trans (if_neg hB33_25)) hQ
def f0_19 (i0 : Int32) (i1 : Int32) (i2 : Int32) : Int32 := f0_24 i0 i1 i2 (1 : Int32)
set_option maxRecDepth 65536 in
set_option maxHeartbeats 40000000 in
theorem b0_19 {p : Program} {l : Launch} {e : Env} {s : State} {m : MethodId} {args : Array Value} {below : List Frame} {meth : Method} {c : Code} {T : State} {locs : List Loc} {cells slots : Nat} {Z : State} {a0 : Array Value} {h : Heap} {n0 : Nat} {Q : Option Value → Heap → List Loc → Prop} (i0 : Int32) (i1 : Int32) (i2 : Int32) (hw : ∀ d ∈ tables_1, d.before a0 Z = true) (X : Stand p l e room_1 s m args below meth c T locs cells slots) (hx : p.tables.exec = Jvm.exec) (hZ : Z.Warmed39 s.vm) (hby : c.code = code) (hml : c.maxLocals = 5) (hown : s.vm.findClass "com/example/waymark/waymark/util/AsciiIsAlphaPinLaw" = some m.cls) (hret : meth.sig.returnType = some .boolean) (hlk : meth.locks = false) (eT : T.heap = h) (N : Fr n0 locs) (hc : cells ≤ 0) (hs : slots ≤ 0) (v : Int32) (hv : v = f0_19 i0 i1 i2) (hQ : ∀ L', Fr n0 L' → Q (some (.int v)) h L') :
    own_Fin p e below s Q 0 0 (T.setTop (mkF m 19 #[.val (.int i0), .val (.int i1), .val (.int i2), .unset, .unset] [])) := by
  refine own_step (fun t k => XS.iconst X.here hx rfl (hb hby at_19) k) ?_
  show own_Fin p e below s Q 0 0 (T.setTop (mkF m 20 #[.val (.int i0), .val (.int i1), .val (.int i2), .unset, .unset] [(.int (1 : Int32))]))
  refine own_step (fun t k => XS.goto X.here hx rfl (pc0 := 20) (pc' := 24) rfl (hb hby at_20) (by decide) (by decide) k) ?_
  exact b0_24 i0 i1 i2 (1 : Int32) hw X hx hZ hby hml hown hret hlk eT N (by omega) (by omega) v (hv) hQ
def f0_23 (i0 : Int32) (i1 : Int32) (i2 : Int32) : Int32 := f0_24 i0 i1 i2 (0 : Int32)
set_option maxRecDepth 65536 in
set_option maxHeartbeats 40000000 in
theorem b0_23 {p : Program} {l : Launch} {e : Env} {s : State} {m : MethodId} {args : Array Value} {below : List Frame} {meth : Method} {c : Code} {T : State} {locs : List Loc} {cells slots : Nat} {Z : State} {a0 : Array Value} {h : Heap} {n0 : Nat} {Q : Option Value → Heap → List Loc → Prop} (i0 : Int32) (i1 : Int32) (i2 : Int32) (hw : ∀ d ∈ tables_1, d.before a0 Z = true) (X : Stand p l e room_1 s m args below meth c T locs cells slots) (hx : p.tables.exec = Jvm.exec) (hZ : Z.Warmed39 s.vm) (hby : c.code = code) (hml : c.maxLocals = 5) (hown : s.vm.findClass "com/example/waymark/waymark/util/AsciiIsAlphaPinLaw" = some m.cls) (hret : meth.sig.returnType = some .boolean) (hlk : meth.locks = false) (eT : T.heap = h) (N : Fr n0 locs) (hc : cells ≤ 0) (hs : slots ≤ 0) (v : Int32) (hv : v = f0_23 i0 i1 i2) (hQ : ∀ L', Fr n0 L' → Q (some (.int v)) h L') :
    own_Fin p e below s Q 0 0 (T.setTop (mkF m 23 #[.val (.int i0), .val (.int i1), .val (.int i2), .unset, .unset] [])) := by
  refine own_step (fun t k => XS.iconst X.here hx rfl (hb hby at_23) k) ?_
  exact b0_24 i0 i1 i2 (0 : Int32) hw X hx hZ hby hml hown hret hlk eT N (by omega) (by omega) v (hv) hQ
def f0_0 (i0 : Int32) (i1 : Int32) : Int32 := if (f1_0 i0) = (f2_0 i0) then f0_19 i0 i1 ((64 : Int32) + (i1 &&& (63 : Int32))) else f0_23 i0 i1 ((64 : Int32) + (i1 &&& (63 : Int32)))
set_option maxRecDepth 65536 in
set_option maxHeartbeats 40000000 in
theorem b0_0 {p : Program} {l : Launch} {e : Env} {s : State} {m : MethodId} {args : Array Value} {below : List Frame} {meth : Method} {c : Code} {T : State} {locs : List Loc} {cells slots : Nat} {Z : State} {a0 : Array Value} {h : Heap} {n0 : Nat} {Q : Option Value → Heap → List Loc → Prop} (i0 : Int32) (i1 : Int32) (hw : ∀ d ∈ tables_1, d.before a0 Z = true) (X : Stand p l e room_1 s m args below meth c T locs cells slots) (hx : p.tables.exec = Jvm.exec) (hZ : Z.Warmed39 s.vm) (hby : c.code = code) (hml : c.maxLocals = 5) (hown : s.vm.findClass "com/example/waymark/waymark/util/AsciiIsAlphaPinLaw" = some m.cls) (hret : meth.sig.returnType = some .boolean) (hlk : meth.locks = false) (eT : T.heap = h) (N : Fr n0 locs) (hc : cells ≤ 0) (hs : slots ≤ 0) (v : Int32) (hv : v = f0_0 i0 i1) (hQ : ∀ L', Fr n0 L' → Q (some (.int v)) h L') :
    own_Fin p e below s Q 0 0 (T.setTop (mkF m 0 #[.val (.int i0), .val (.int i1), .unset, .unset, .unset] [])) := by
  refine own_step (fun t k => XS.bipush X.here hx rfl (hb hby at_0) k) ?_
  show own_Fin p e below s Q 0 0 (T.setTop (mkF m 2 #[.val (.int i0), .val (.int i1), .unset, .unset, .unset] [(.int (64 : Int32))]))
  refine own_step (fun t k => XS.iloadN X.here hx rfl (hb hby at_2) rfl  k) ?_
  show own_Fin p e below s Q 0 0 (T.setTop (mkF m 3 #[.val (.int i0), .val (.int i1), .unset, .unset, .unset] [(.int i1), (.int (64 : Int32))]))
  refine own_step (fun t k => XS.bipush X.here hx rfl (hb hby at_3) k) ?_
  show own_Fin p e below s Q 0 0 (T.setTop (mkF m 5 #[.val (.int i0), .val (.int i1), .unset, .unset, .unset] [(.int (63 : Int32)), (.int i1), (.int (64 : Int32))]))
  refine own_step (fun t k => XS.iand X.here hx rfl (hb hby at_5) rfl k) ?_
  show own_Fin p e below s Q 0 0 (T.setTop (mkF m 6 #[.val (.int i0), .val (.int i1), .unset, .unset, .unset] [(.int (i1 &&& (63 : Int32))), (.int (64 : Int32))]))
  refine own_step (fun t k => XS.iadd X.here hx rfl (hb hby at_6) rfl k) ?_
  show own_Fin p e below s Q 0 0 (T.setTop (mkF m 7 #[.val (.int i0), .val (.int i1), .unset, .unset, .unset] [(.int ((64 : Int32) + (i1 &&& (63 : Int32))))]))
  refine own_step (fun t k => XS.istoreN X.here hx rfl (hb hby at_7) rfl (l' := #[.val (.int i0), .val (.int i1), .val (.int ((64 : Int32) + (i1 &&& (63 : Int32)))), .unset, .unset]) rfl k) ?_
  show own_Fin p e below s Q 0 0 (T.setTop (mkF m 8 #[.val (.int i0), .val (.int i1), .val (.int ((64 : Int32) + (i1 &&& (63 : Int32)))), .unset, .unset] []))
  refine own_step (fun t k => XS.iloadN X.here hx rfl (hb hby at_8) rfl  k) ?_
  show own_Fin p e below s Q 0 0 (T.setTop (mkF m 9 #[.val (.int i0), .val (.int i1), .val (.int ((64 : Int32) + (i1 &&& (63 : Int32)))), .unset, .unset] [(.int i0)]))
  obtain ⟨_, _, ⟨T19, L19, k19, n19⟩, -, X19, ⟨Lc19, hQ19, l19, y19, z19⟩, st19⟩ := Jvm.LawKit.callS X hx (y := (⟨"com/example/waymark/waymark/util/Ascii", "isAlpha", "(I)Z"⟩ : MethodName)) hown (mvT hZ (hw _ (List.mem_of_getElem? (i := 0) rfl))) (mvT hZ (hw _ (List.mem_of_getElem? (i := 1) rfl))) (mvT hZ (hw _ (List.mem_of_getElem? (i := 2) rfl))) (mvT hZ (hw _ (List.mem_of_getElem? (i := 3) rfl))) (by decide) (backOf (W := 0) (rm1 l Z a0 hw [] i0 h n0) hZ (hw _ (List.mem_of_getElem? (i := 3) rfl)) (hw _ (List.mem_of_getElem? (i := 2) rfl)) (by decide) (by decide)) (g := (mkF m 9 #[.val (.int i0), .val (.int i1), .val (.int ((64 : Int32) + (i1 &&& (63 : Int32)))), .unset, .unset] [(.int i0)])) rfl (by rw [hml]; rfl) (argsL := [(.int i0)]) (rest := []) (lenOf pdm_0 rfl) rfl (by show 2 * 0 + _ ≤ _; exact Nat.le_of_eq rfl) (hb hby at_9) (fun _ _ => ⟨rfl, eT, (by show (_ : Nat) ≤ 0; omega), (by show (_ : Nat) ≤ 0; omega)⟩)
  dsimp only [Pt.U, Pt.locs, Pt.cells, Pt.slots] at X19 l19 y19 z19 st19 hQ19
  subst l19 y19 z19
  obtain ⟨rfl, N19q, e19⟩ := hQ19
  have N19 := Fr.app N N19q
  refine own_step st19 ?_
  show own_Fin p e below s Q 0 0 (T19.setTop (mkF m 12 #[.val (.int i0), .val (.int i1), .val (.int ((64 : Int32) + (i1 &&& (63 : Int32)))), .unset, .unset] [(.int (f1_0 i0))]))
  refine own_step (fun t k => XS.iloadN X19.here hx rfl (hb hby at_12) rfl  k) ?_
  show own_Fin p e below s Q 0 0 (T19.setTop (mkF m 13 #[.val (.int i0), .val (.int i1), .val (.int ((64 : Int32) + (i1 &&& (63 : Int32)))), .unset, .unset] [(.int i0), (.int (f1_0 i0))]))
  obtain ⟨_, _, ⟨T20, L20, k20, n20⟩, -, X20, ⟨Lc20, hQ20, l20, y20, z20⟩, st20⟩ := Jvm.LawKit.callS X19 hx (y := (⟨"com/example/waymark/waymark/util/AsciiIsAlphaPinLaw", "ref", "(I)Z"⟩ : MethodName)) hown (mvT hZ (hw _ (List.mem_of_getElem? (i := 4) rfl))) (mvT hZ (hw _ (List.mem_of_getElem? (i := 5) rfl))) (mvT hZ (hw _ (List.mem_of_getElem? (i := 6) rfl))) (mvT hZ (hw _ (List.mem_of_getElem? (i := 7) rfl))) (by decide) (backOf (W := 1) (rm2 l Z a0 hw [] i0 h n0) hZ (hw _ (List.mem_of_getElem? (i := 7) rfl)) (hw _ (List.mem_of_getElem? (i := 6) rfl)) (by decide) (by decide)) (g := (mkF m 13 #[.val (.int i0), .val (.int i1), .val (.int ((64 : Int32) + (i1 &&& (63 : Int32)))), .unset, .unset] [(.int i0), (.int (f1_0 i0))])) rfl (by rw [hml]; rfl) (argsL := [(.int i0)]) (rest := [(.int (f1_0 i0))]) (lenOf pdm_0 rfl) rfl (by show 2 * 0 + _ ≤ _; exact Nat.le_of_eq rfl) (hb hby at_13) (fun _ _ => ⟨rfl, e19, (by show (_ : Nat) ≤ 0; omega), (by show (_ : Nat) ≤ 0; omega)⟩)
  dsimp only [Pt.U, Pt.locs, Pt.cells, Pt.slots] at X20 l20 y20 z20 st20 hQ20
  subst l20 y20 z20
  obtain ⟨rfl, N20q, e20⟩ := hQ20
  have N20 := Fr.app N19 N20q
  refine own_step st20 ?_
  show own_Fin p e below s Q 0 0 (T20.setTop (mkF m 16 #[.val (.int i0), .val (.int i1), .val (.int ((64 : Int32) + (i1 &&& (63 : Int32)))), .unset, .unset] [(.int (f2_0 i0)), (.int (f1_0 i0))]))
  by_cases hB16_21 : (f1_0 i0) = (f2_0 i0)
  · refine own_step (fun t k => XS.icmpNo X20.here hx rfl (hb hby at_16) rfl (teq hB16_21).2 k) ?_
    exact b0_19 i0 i1 ((64 : Int32) + (i1 &&& (63 : Int32))) hw X20 hx hZ hby hml hown hret hlk e20 N20 (by omega) (by omega) v (hv.trans (if_pos hB16_21)) hQ
  · refine own_step (fun t k => XS.icmpYes X20.here hx rfl (pc0 := 16) (pc' := 23) rfl (hb hby at_16) rfl (feq hB16_21).2 (by decide) (by decide) k) ?_
    exact b0_23 i0 i1 ((64 : Int32) + (i1 &&& (63 : Int32))) hw X20 hx hZ hby hml hown hret hlk e20 N20 (by omega) (by omega) v (hv.trans (if_neg hB16_21)) hQ
theorem pdm_1 : parseMethodDescriptor "(II)Z" = some ⟨[.int, .int], some .boolean⟩ := by decide +kernel
theorem ef_0 (m : MethodId) (i0 : Int32) (i1 : Int32) : entryFrame m #[(.int i0), (.int i1)] maxLocals = (mkF m 0 #[.val (.int i0), .val (.int i1), .unset, .unset, .unset] []) := by first | (simp [entryFrame, mkF, argsToLocals, Value.category, maxLocals]; done) | rfl
def Q0 (i0 : Int32) (i1 : Int32) (h0 : Heap) (n0 : Nat) (v : Option Value) (h : Heap) (L : List Loc) : Prop := v = some (.int (f0_0 i0 i1)) ∧ Fr n0 L ∧ h = h0
set_option maxRecDepth 65536 in
set_option maxHeartbeats 4000000 in
theorem rm0 (l : Launch) (Z : State) (a0 : Array Value) (hw : ∀ d ∈ tables_1, d.before a0 Z = true) (ws : List Jvm.Cond) (i0 : Int32) (i1 : Int32) (h0 : Heap) (n0 : Nat) :
    MetFree l x (head1 (Jvm.Cond.code x code maxLocals ret :: ws) room_1) (fun a U => a = #[(.int i0), (.int i1)] ∧ Z.Warmed39 U.vm ∧ U.heap = h0) (fun _ _ _ _ _ => True) (fun _ U o U' => ∃ v L, o = .returned v ∧ Q0 i0 i1 h0 n0 v U'.heap L ∧ FrameEnd U o U' L 0 0) := by
  refine MetFree.of_bodySF (plainFor_of_name pnm_0) hisR ?_
  intro p e s m args below meth c s₁ Bd hml0 hP hK
  obtain ⟨rfl, hZ, hh⟩ := hP
  have hx := Bd.exec
  have hby := Bd.bytes
  have hml : c.maxLocals = 5 := hml0
  have hown : s.vm.findClass "com/example/waymark/waymark/util/AsciiIsAlphaPinLaw" = some m.cls := findClass_of_methodNamed Bd.named
  have X0 : Stand p l e room_1 s m #[(.int i0), (.int i1)] below meth c s₁ [] 0 0 := Stand.of_body Bd
  have e0 : s₁.heap = h0 := by rw [← hh, Bd.state]; rfl
  have fin := b0_0 i0 i1 (Q := Q0 i0 i1 h0 n0) hw X0 hx hZ hby hml hown Bd.returns (BodyLoose.notSynchronized Bd) e0 (Fr.nil n0) (Nat.zero_le _) (Nat.zero_le _) _ rfl (fun L' n' => ⟨rfl, n', rfl⟩)
  exact own_step (fun t k => castTop (ef_0 m i0 i1) k) fin
theorem own_fold0 : ∀ k : Fin 128, (97 ≤ ((Int32.ofInt (k.1 : Int)) ||| (32 : Int32)).toInt ∧ ((Int32.ofInt (k.1 : Int)) ||| (32 : Int32)).toInt ≤ 122) ↔ (65 ≤ (k.1 : Int) ∧ (k.1 : Int) ≤ 90) ∨ (97 ≤ (k.1 : Int) ∧ (k.1 : Int) ≤ 122) := by decide +kernel
theorem own_fold (x : Int32) : (97 ≤ (x ||| (32 : Int32)).toInt ∧ (x ||| (32 : Int32)).toInt ≤ 122) ↔ (65 ≤ x.toInt ∧ x.toInt ≤ 90) ∨ (97 ≤ x.toInt ∧ x.toInt ≤ 122) := by
  by_cases h0 : x.toInt < 0
  · have h1 := (c_orS x 32).2.1 h0
    omega
  · by_cases h1 : x.toInt < 128
    · have h2 := own_fold0 ⟨x.toInt.toNat, by omega⟩
      have h3 : ((x.toInt.toNat : Nat) : Int) = x.toInt := Int.toNat_of_nonneg (by omega)
      have h4 : Int32.ofInt ((x.toInt.toNat : Nat) : Int) = x := by rw [h3]; exact Int32.ofInt_toInt x
      dsimp only at h2
      rw [h4, h3] at h2
      exact h2
    · have h2 := (c_or0 x 32 (by omega) (by decide)).1
      omega
theorem own_c1_29_0 (x : Int32) : (False → f1_29 x (0 : Int32) = 1) ∧ (¬ (False) → f1_29 x (0 : Int32) = 0) := by
  exact ⟨fun d => False.elim d, fun d => rfl⟩
theorem own_c1_28 (x : Int32) : (False → f1_28 x = 1) ∧ (¬ (False) → f1_28 x = 0) := by
  exact own_c1_29_0 x
theorem own_c1_29_1 (x : Int32) : (True → f1_29 x (1 : Int32) = 1) ∧ (¬ (True) → f1_29 x (1 : Int32) = 0) := by
  exact ⟨fun d => rfl, fun d => absurd trivial d⟩
theorem own_c1_24 (x : Int32) : (True → f1_24 x = 1) ∧ (¬ (True) → f1_24 x = 0) := by
  exact own_c1_29_1 x
theorem own_c1_18 (x : Int32) : (x.toInt ≤ 122 → f1_18 x = 1) ∧ (¬ (x.toInt ≤ 122) → f1_18 x = 0) := by
  have hi : ((122 : Int32) < x) ↔ 122 < x.toInt := Int32.lt_iff_toInt_lt
  have r1 := Int32.le_toInt x
  have r2 := Int32.toInt_lt x
  by_cases hB : (122 : Int32) < x
  · have hb : 122 < x.toInt := hi.mp hB
    exact ⟨fun d => ((if_pos hB) : f1_18 x = _).trans ((own_c1_28 x).1 (by first | exact trivial | exact not_false | omega)), fun d => ((if_pos hB) : f1_18 x = _).trans ((own_c1_28 x).2 (by first | exact trivial | exact not_false | omega))⟩
  · have hb : ¬ (122 < x.toInt) := fun y => hB (hi.mpr y)
    exact ⟨fun d => ((if_neg hB) : f1_18 x = _).trans ((own_c1_24 x).1 (by first | exact trivial | exact not_false | omega)), fun d => ((if_neg hB) : f1_18 x = _).trans ((own_c1_24 x).2 (by first | exact trivial | exact not_false | omega))⟩
theorem own_c1_12 (x : Int32) : ((97 ≤ x.toInt ∧ x.toInt ≤ 122) → f1_12 x = 1) ∧ (¬ ((97 ≤ x.toInt ∧ x.toInt ≤ 122)) → f1_12 x = 0) := by
  have hi : (x < (97 : Int32)) ↔ x.toInt < 97 := Int32.lt_iff_toInt_lt
  have r1 := Int32.le_toInt x
  have r2 := Int32.toInt_lt x
  by_cases hB : x < (97 : Int32)
  · have hb : x.toInt < 97 := hi.mp hB
    exact ⟨fun d => ((if_pos hB) : f1_12 x = _).trans ((own_c1_28 x).1 (by first | exact trivial | exact not_false | omega)), fun d => ((if_pos hB) : f1_12 x = _).trans ((own_c1_28 x).2 (by first | exact trivial | exact not_false | omega))⟩
  · have hb : ¬ (x.toInt < 97) := fun y => hB (hi.mpr y)
    exact ⟨fun d => ((if_neg hB) : f1_12 x = _).trans ((own_c1_18 x).1 (by first | exact trivial | exact not_false | omega)), fun d => ((if_neg hB) : f1_12 x = _).trans ((own_c1_18 x).2 (by first | exact trivial | exact not_false | omega))⟩
theorem own_c1_6 (x : Int32) : (x.toInt ≤ 90 ∨ (97 ≤ x.toInt ∧ x.toInt ≤ 122) → f1_6 x = 1) ∧ (¬ (x.toInt ≤ 90 ∨ (97 ≤ x.toInt ∧ x.toInt ≤ 122)) → f1_6 x = 0) := by
  have hi : ((90 : Int32) < x) ↔ 90 < x.toInt := Int32.lt_iff_toInt_lt
  have r1 := Int32.le_toInt x
  have r2 := Int32.toInt_lt x
  by_cases hB : (90 : Int32) < x
  · have hb : 90 < x.toInt := hi.mp hB
    exact ⟨fun d => ((if_pos hB) : f1_6 x = _).trans ((own_c1_12 x).1 (by first | exact trivial | exact not_false | omega)), fun d => ((if_pos hB) : f1_6 x = _).trans ((own_c1_12 x).2 (by first | exact trivial | exact not_false | omega))⟩
  · have hb : ¬ (90 < x.toInt) := fun y => hB (hi.mpr y)
    exact ⟨fun d => ((if_neg hB) : f1_6 x = _).trans ((own_c1_24 x).1 (by first | exact trivial | exact not_false | omega)), fun d => ((if_neg hB) : f1_6 x = _).trans ((own_c1_24 x).2 (by first | exact trivial | exact not_false | omega))⟩
theorem own_c1_0 (x : Int32) : ((65 ≤ x.toInt ∧ x.toInt ≤ 90) ∨ (97 ≤ x.toInt ∧ x.toInt ≤ 122) → f1_0 x = 1) ∧ (¬ ((65 ≤ x.toInt ∧ x.toInt ≤ 90) ∨ (97 ≤ x.toInt ∧ x.toInt ≤ 122)) → f1_0 x = 0) := by
  have hi : (x < (65 : Int32)) ↔ x.toInt < 65 := Int32.lt_iff_toInt_lt
  have r1 := Int32.le_toInt x
  have r2 := Int32.toInt_lt x
  by_cases hB : x < (65 : Int32)
  · have hb : x.toInt < 65 := hi.mp hB
    exact ⟨fun d => ((if_pos hB) : f1_0 x = _).trans ((own_c1_12 x).1 (by first | exact trivial | exact not_false | omega)), fun d => ((if_pos hB) : f1_0 x = _).trans ((own_c1_12 x).2 (by first | exact trivial | exact not_false | omega))⟩
  · have hb : ¬ (x.toInt < 65) := fun y => hB (hi.mpr y)
    exact ⟨fun d => ((if_neg hB) : f1_0 x = _).trans ((own_c1_6 x).1 (by first | exact trivial | exact not_false | omega)), fun d => ((if_neg hB) : f1_0 x = _).trans ((own_c1_6 x).2 (by first | exact trivial | exact not_false | omega))⟩
theorem own_f2 (x : Int32) : ((97 ≤ (x ||| (32 : Int32)).toInt ∧ (x ||| (32 : Int32)).toInt ≤ 122) → f2_0 x = 1) ∧ (¬ (97 ≤ (x ||| (32 : Int32)).toInt ∧ (x ||| (32 : Int32)).toInt ≤ 122) → f2_0 x = 0) := by
  have q1 : (x ||| (32 : Int32)) < (97 : Int32) ↔ (x ||| (32 : Int32)).toInt < 97 := Int32.lt_iff_toInt_lt
  have q2 : (122 : Int32) < (x ||| (32 : Int32)) ↔ 122 < (x ||| (32 : Int32)).toInt := Int32.lt_iff_toInt_lt
  unfold f2_0 f2_11
  by_cases h1 : (x ||| (32 : Int32)) < (97 : Int32)
  · rw [if_pos h1]
    have := q1.mp h1
    exact ⟨fun d => by omega, fun _ => rfl⟩
  · rw [if_neg h1]
    have h1' : ¬ (x ||| (32 : Int32)).toInt < 97 := fun y => h1 (q1.mpr y)
    by_cases h2 : (122 : Int32) < (x ||| (32 : Int32))
    · rw [if_pos h2]
      have := q2.mp h2
      exact ⟨fun d => by omega, fun _ => rfl⟩
    · rw [if_neg h2]
      have h2' : ¬ 122 < (x ||| (32 : Int32)).toInt := fun y => h2 (q2.mpr y)
      exact ⟨fun _ => rfl, fun d => by omega⟩
theorem own_eq (x : Int32) : f1_0 x = f2_0 x := by
  have h1 := own_c1_0 x
  have h2 := own_f2 x
  have h3 := own_fold x
  by_cases d : (65 ≤ x.toInt ∧ x.toInt ≤ 90) ∨ (97 ≤ x.toInt ∧ x.toInt ≤ 122)
  · rw [h1.1 d, h2.1 (h3.mpr d)]
  · rw [h1.2 d, h2.2 (fun y => d (h3.mp y))]
theorem own_24 (a b c : Int32) : f0_24 a b c 1 = 1 := by
  unfold f0_24
  rw [if_pos (own_eq c)]
  rfl
theorem own_law (i0 i1 : Int32) : f0_0 i0 i1 = 1 := by
  unfold f0_0
  rw [if_pos (own_eq i0)]
  exact own_24 _ _ _
set_option maxRecDepth 65536 in
set_option maxHeartbeats 40000000 in
theorem comes_1 {Post : Tables → Env → Array Value → State → Outcome → State → Prop} (hpost : ∀ tb e args s v u, (limb_1_1.after args s (.returned v) u = true ∧ limb_1_2.after args s (.returned v) u = true ∧ True) → FrameEnd s (.returned v) u (Jvm.fieldLocs frame_1_writes args s ++ Jvm.arrayLocs frame_1_arrays args s ++ Jvm.staticLocs frame_1_statics s) 0 0 → Post tb e args s (.returned v) u) :
    ArmFor flags0 classFile x code maxLocals ret World_1 tables_1 room_1 Calls_1 rest_1 Pre_1 Post := by
  intro l hfl _ _ p e ha hc hk s m args below hf hA hF happ hP
  obtain ⟨hcalls, hrest, hpre⟩ := hP
  obtain ⟨-, -, -, hnamed, -, -, -, hat⟩ := (Spec.applies_iff hf).mp happ
  obtain ⟨hg, hn⟩ := and_e (Cond.before_iff.mp (show (Jvm.Cond.and given_1 narrow_1).before args s = true from hpre))
  obtain ⟨g1, g2⟩ := and_e hg
  obtain ⟨g3, g4⟩ := and_e g2
  obtain ⟨w0, w1, rfl⟩ : ∃ w0 w1 : Value, args = #[w0, w1] := by
    have hs : args.size = 2 := by simpa [Cond.value, given_1] using g1
    obtain ⟨L⟩ := args
    match L, hs with
    | [w0, w1], _ => exact ⟨w0, w1, rfl⟩
  have hw := fun d (hd : d ∈ tables_1) => atoms_spec (ws := Jvm.Cond.code x code maxLocals ret :: tables_1) hat d (List.mem_cons_of_mem _ hd)
  obtain ⟨i0, ei0⟩ := is_v g3
  obtain rfl : w0 = (.int i0) := Option.some.inj ei0
  obtain ⟨i1, ei1⟩ := is_v g4
  obtain rfl : w1 = (.int i1) := Option.some.inj ei1
  obtain ⟨n, o, h1, h2, h3, _, L, rfl, ⟨hval, N, -⟩, hq⟩ := rm0 l s _ hw tables_1 i0 i1 s.heap s.heap.size p e ha hc hk s m _ below hf ((Spec.applies_iff_loose hf).mp happ).1 ⟨rfl, State.Warmed39.refl s, rfl⟩ trivial
  rw [own_law i0 i1] at hval
  subst hval
  refine ⟨n, _, h1, h2, h3, hpost _ _ _ _ _ _ ⟨Cond.after_iff.mpr rfl, Cond.after_iff.mpr (eq_i res_at (Term.int_eval (1)) rfl), trivial⟩ ⟨hq.1, hq.2.1, (hq.2.2.sift fun y hy => Or.inr (N y hy)).mono (by decide) (by decide)⟩⟩
theorem main_1_1 : Claimed_1_1 := comes_1 fun _ _ _ _ _ _ h hF => ⟨h.1, hF⟩
theorem main_1_2 : Claimed_1_2 := comes_1 fun _ _ _ _ _ _ h hF => ⟨h.2.1, hF⟩
end Jvm.Pilot.@@N@@
namespace Jvm.Pilot.@@N@@
open Jvm Jvm.ClassFile Sem Op Lib Jvm.Free Jvm.Stand Jvm.Pilot.@@N@@.Jvm.D
/-! MADE BY PROGRAM (witnessworld.py) out of the Statement's table words and the real class files: 9 classes; the members and pool entries that the words name. The judged class is class 1, her method 2. -/
namespace start1
open Jvm.ClassFile
def u (s : String) : CpInfo := .utf8 (stringToUtf16 s)
/-- a pool by its gaps: so many unusable entries, then the entry; so many at the end -/
def gap : Nat → List CpInfo → List CpInfo
  | 0, r => r
  | n + 1, r => .unusable :: gap n r
def poolList (es : List (Nat × CpInfo)) (last : Nat) : List CpInfo := es.foldr (fun e r => gap e.1 (e.2 :: r)) (gap last [])
def pool (es : List (Nat × CpInfo)) (last : Nat) : Array CpInfo := ⟨poolList es last⟩
def fileOf (pool : Array CpInfo) (this : Nat) (attrs : Array Attribute := #[]) (ms : Array MethodInfo := #[]) (fl : Nat := 33) (sup : Nat := 0) (ifs : Array Nat := #[]) (fds : Array FieldInfo := #[]) : ClassFile where
  minorVersion := 0
  majorVersion := 65
  constantPool := pool
  accessFlags := fl
  thisClass := this
  superClass := sup
  interfaces := ifs
  fields := fds
  methods := ms
  attributes := attrs
def plain (name : String) (sup : Option ClassId) : Class where
  name := name
  kind := .ordinary
  loader := none
  accessFlags := 33
  super := sup
  interfaces := #[]
  cf := none
  fields := #[]
  methods := #[]
  instanceTypes := #[]
  staticTypes := #[]
  resolved := #[]
  callSites := []
  init := .initialized
  statics := none
  mirror := none

def pool0 : Array CpInfo := pool [(5, u "<init>"), (0, u "()V"), (1, .class_ 10), (1, u "java/lang/Object")] 113

def k0m0 : Method := { name := "<init>", desc := "()V", sig := { parameters := [], returnType := none }, accessFlags := 1, code := none }
/-- java/lang/Object -/
def k0 : Class := { plain "java/lang/Object" none with
  accessFlags := 33
  interfaces := #[]
  cf := some (fileOf pool0 8 #[] #[{ accessFlags := 1, nameIndex := 5, descriptorIndex := 6, attributes := #[] }] 33 0 #[] #[])
  fields := #[]
  methods := #[k0m0]
  instanceTypes := #[]
  staticTypes := #[]
  resolved := Array.replicate 124 none
  statics := none }

def pool1 : Array CpInfo := pool [(2, .class_ 4), (1, u "java/lang/Object"), (0, u "<init>"), (0, u "()V"), (0, .methodref 8 9), (0, .class_ 10), (0, .nameAndType 11 12), (0, u "com/example/waymark/waymark/util/Ascii"), (0, u "isAlpha"), (0, u "(I)Z"), (0, .methodref 14 15), (0, .class_ 16), (0, .nameAndType 17 12), (0, u "com/example/waymark/waymark/util/AsciiIsAlphaPinLaw"), (0, u "ref"), (3, u "law"), (0, u "(II)Z")] 2

def k1m0 : Method := { name := "<init>", desc := "()V", sig := { parameters := [], returnType := none }, accessFlags := 2, code := none }
def k1c1 : Code := { maxStack := 2, maxLocals := 2, code := method_2_code, exceptionTable := #[], attributes := #[] }
def k1m1 : Method := { name := "ref", desc := "(I)Z", sig := { parameters := [.int], returnType := some .boolean }, accessFlags := 10, code := some k1c1 }
def k1c2 : Code := { maxStack := 3, maxLocals := 5, code := code, exceptionTable := #[], attributes := #[] }
def k1m2 : Method := { name := "law", desc := "(II)Z", sig := { parameters := [.int, .int], returnType := some .boolean }, accessFlags := 9, code := some k1c2 }
/-- com/example/waymark/waymark/util/AsciiIsAlphaPinLaw -/
def k1 : Class := { plain "com/example/waymark/waymark/util/AsciiIsAlphaPinLaw" (some 0) with
  accessFlags := 49
  interfaces := #[]
  cf := some (fileOf pool1 14 #[] #[{ accessFlags := 2, nameIndex := 5, descriptorIndex := 6, attributes := #[] }, { accessFlags := 10, nameIndex := 17, descriptorIndex := 12, attributes := #[] }, { accessFlags := 9, nameIndex := 21, descriptorIndex := 22, attributes := #[] }] 49 2 #[] #[])
  fields := #[]
  methods := #[k1m0, k1m1, k1m2]
  instanceTypes := #[]
  staticTypes := #[]
  resolved := Array.replicate 25 none
  statics := none }

def pool2 : Array CpInfo := pool [(2, .class_ 4), (1, u "java/lang/Object"), (0, u "<init>"), (0, u "()V"), (1, .class_ 10), (1, u "com/example/waymark/waymark/util/Ascii"), (1, u "(I)Z"), (16, u "isAlpha")] 7

def k2m0 : Method := { name := "<init>", desc := "()V", sig := { parameters := [], returnType := none }, accessFlags := 2, code := none }
def k2c1 : Code := { maxStack := 2, maxLocals := 1, code := prog_44_method_2_code, exceptionTable := #[], attributes := #[] }
def k2m1 : Method := { name := "isAlpha", desc := "(I)Z", sig := { parameters := [.int], returnType := some .boolean }, accessFlags := 9, code := some k2c1 }
/-- com/example/waymark/waymark/util/Ascii -/
def k2 : Class := { plain "com/example/waymark/waymark/util/Ascii" (some 0) with
  accessFlags := 49
  interfaces := #[]
  cf := some (fileOf pool2 8 #[] #[{ accessFlags := 2, nameIndex := 5, descriptorIndex := 6, attributes := #[] }, { accessFlags := 9, nameIndex := 29, descriptorIndex := 12, attributes := #[] }] 49 2 #[] #[])
  fields := #[]
  methods := #[k2m0, k2m1]
  instanceTypes := #[]
  staticTypes := #[]
  resolved := Array.replicate 37 none
  statics := none }

def pool3 : Array CpInfo := pool [(1, u "java/lang/Cloneable"), (0, .class_ 1), (0, u "java/lang/Object"), (0, .class_ 3)] 3

/-- java/lang/Cloneable -/
def k3 : Class := { plain "java/lang/Cloneable" (some 0) with
  accessFlags := 1537
  interfaces := #[]
  cf := some (fileOf pool3 2 #[] #[] 1537 4 #[] #[])
  fields := #[]
  methods := #[]
  instanceTypes := #[]
  staticTypes := #[]
  resolved := Array.replicate 8 none
  statics := none }

def pool4 : Array CpInfo := pool [(1, u "java/io/Serializable"), (0, .class_ 1), (0, u "java/lang/Object"), (0, .class_ 3)] 3

/-- java/io/Serializable -/
def k4 : Class := { plain "java/io/Serializable" (some 0) with
  accessFlags := 1537
  interfaces := #[]
  cf := some (fileOf pool4 2 #[] #[] 1537 4 #[] #[])
  fields := #[]
  methods := #[]
  instanceTypes := #[]
  staticTypes := #[]
  resolved := Array.replicate 8 none
  statics := none }

/-- the primitive byte -/
def k5 : Class := { plain "byte" none with kind := .primitive 'B', accessFlags := 0x411 }
/-- [B -/
def k6 : Class := { plain "[B" (some 0) with kind := .array 5 .byte, interfaces := #[3, 4], accessFlags := 1041 }

/-- the primitive int -/
def k7 : Class := { plain "int" none with kind := .primitive 'I', accessFlags := 0x411 }
/-- [I -/
def k8 : Class := { plain "[I" (some 0) with kind := .array 7 .int, interfaces := #[3, 4], accessFlags := 1041 }

def heap : Heap := #[]
def classes : Array Class := #[k0, k1, k2, k3, k4, k5, k6, k7, k8]
def interned : List (Array UInt16 × Addr) := []
def slotsUsed : Nat := 0
def theMethod : MethodId := ⟨1, 2⟩
def args0 : Array Value := #[.int 5, .int 5]
def aboutOver (below : List Frame) : State where
  vm := { classes := classes, interned := interned.toArray }
  heap := heap
  slotsUsed := slotsUsed
  threads := #[{ frames := .invoking theMethod args0 :: below }]
def below0 : List Frame := [.native { method := ⟨0, 0⟩, args := #[] }]
def about1 : State := aboutOver below0
def p0 : Program := .bare "" "" ""
def e0 : Env := launch0.env 0 0 0
theorem w_frames : about1.frames = Frame.invoking theMethod args0 :: below0 := rfl
set_option maxRecDepth 65536 in
theorem w_args : argsFit about1.vm theMethod args0 = true := by decide +kernel
set_option maxRecDepth 65536 in
theorem w_heap : heapFits about1 = true := by decide +kernel
set_option maxRecDepth 65536 in
theorem w_runnable : about1.curStatus? = some .runnable := by decide +kernel
set_option maxRecDepth 65536 in
theorem w_alone : about1.alone = true := by decide +kernel
set_option maxRecDepth 65536 in
theorem w_named : about1.methodNamed? x = some theMethod := by decide +kernel
set_option maxRecDepth 65536 in
theorem w_hears : about1.hears theMethod below0 = true := by decide +kernel
set_option maxRecDepth 65536 in
theorem w_ripe : about1.ripe theMethod args0 below0 = true := by decide +kernel
theorem w_running : about1.status = .running := rfl
set_option maxRecDepth 65536 in
theorem w_room : about1.hasRoom e0.platform room_1 = true :=
  launch0.hasRoom_least _ room_1 (by decide +kernel) (by decide +kernel) (by decide +kernel) (by decide +kernel) (by decide +kernel) (by decide +kernel)
theorem allAtoms_all (ts : List Jvm.Cond) (a : Array Jvm.Value) (st : Jvm.State) : (allAtoms ts).before a st = ts.all (fun c => c.before a st) := by
  induction ts with
  | nil => rfl
  | cons c t ih =>
    show (Jvm.Cond.and c (allAtoms t)).before a st = _
    rw [Jvm.Cond.before_and, ih, List.all_cons]
def words1 : List Jvm.Cond := Jvm.Cond.code x code maxLocals ret :: tables_1
/-- a 'code' word, met by the world's own term for the bytes: nothing is compared byte by byte -/
theorem code_word {y : MethodName} {bytes : ByteArray} {mx : Nat} {rt : Option FieldType} {a : Array Value} {s : State} {m : MethodId} {meth : Method} {c : Code} (h1 : s.methodNamed? y = some m) (h2 : s.vm.method? m = some meth) (h3 : meth.code = some c) (h4 : c.code = bytes)
    (h5 : (c.maxLocals == mx && c.exceptionTable.isEmpty && decide (c.maxStack ≤ mostOperands) && decide (meth.sig.returnType = rt) && !meth.locks && decide (parseMethodDescriptor y.desc = some meth.sig)) = true) : (Jvm.Cond.code y bytes mx rt).before a s = true := by
  simp only [Bool.and_eq_true, beq_iff_eq, Bool.not_eq_true', decide_eq_true_eq] at h5
  obtain ⟨⟨⟨⟨⟨g1, g2⟩, g3⟩, g4⟩, g5⟩, g6⟩ := h5
  simp [Cond.before, Cond.holds, Cond.value, h1, h2, h3, h4, g1, g2, g3, g4, g5, g6]
def isCode : Jvm.Cond → Bool
  | .code _ _ _ _ => true
  | _ => false
theorem all_split {L : List Jvm.Cond} {P : Jvm.Cond → Bool} (h1 : L.all (fun c => isCode c || P c) = true) (h2 : ∀ c ∈ L.filter isCode, P c = true) : L.all P = true := by
  refine List.all_eq_true.mpr fun c hc => ?_
  have h := List.all_eq_true.mp h1 c hc
  rcases Bool.eq_false_or_eq_true (isCode c) with hi | hi
  · exact h2 c (List.mem_filter.mpr ⟨hc, hi⟩)
  · simpa [hi] using h
set_option maxRecDepth 65536 in
theorem w_c0 : (Jvm.Cond.code x code maxLocals ret).before args0 about1 = true := code_word (m := ⟨1, 2⟩) (meth := k1m2) (c := k1c2) (by decide +kernel) rfl rfl rfl (by decide +kernel)
set_option maxRecDepth 65536 in
theorem w_c1 : (Jvm.Cond.code ({ cls := "com/example/waymark/waymark/util/Ascii", name := "isAlpha", desc := "(I)Z" } : Jvm.MethodName) prog_44_method_2_code (1 : Nat) (Option.some Jvm.ClassFile.FieldType.boolean)).before args0 about1 = true := code_word (m := ⟨2, 1⟩) (meth := k2m1) (c := k2c1) (by decide +kernel) rfl rfl rfl (by decide +kernel)
set_option maxRecDepth 65536 in
theorem w_c2 : (Jvm.Cond.code ({ cls := "com/example/waymark/waymark/util/AsciiIsAlphaPinLaw", name := "ref", desc := "(I)Z" } : Jvm.MethodName) method_2_code (2 : Nat) (Option.some Jvm.ClassFile.FieldType.boolean)).before args0 about1 = true := code_word (m := ⟨1, 1⟩) (meth := k1m1) (c := k1c1) (by decide +kernel) rfl rfl rfl (by decide +kernel)
def codes1 : List Jvm.Cond := [Jvm.Cond.code x code maxLocals ret, Jvm.Cond.code ({ cls := "com/example/waymark/waymark/util/Ascii", name := "isAlpha", desc := "(I)Z" } : Jvm.MethodName) prog_44_method_2_code (1 : Nat) (Option.some Jvm.ClassFile.FieldType.boolean), Jvm.Cond.code ({ cls := "com/example/waymark/waymark/util/AsciiIsAlphaPinLaw", name := "ref", desc := "(I)Z" } : Jvm.MethodName) method_2_code (2 : Nat) (Option.some Jvm.ClassFile.FieldType.boolean)]
set_option maxRecDepth 65536 in
theorem codes_eq : words1.filter isCode = codes1 := rfl
theorem w_codes : ∀ c ∈ words1.filter isCode, c.before args0 about1 = true := by
  rw [codes_eq]
  intro c hc
  simp only [codes1, List.mem_cons, List.not_mem_nil, or_false] at hc
  rcases hc with rfl | rfl | rfl
  · exact w_c0
  · exact w_c1
  · exact w_c2
set_option maxRecDepth 65536 in
theorem w_t1 : words1.all (fun c => isCode c || c.before args0 about1) = true := by decide +kernel
theorem w_tables : (allAtoms (Jvm.Cond.code x code maxLocals ret :: tables_1)).before args0 about1 = true := by
  rw [allAtoms_all]
  show words1.all (fun c => c.before args0 about1) = true
  refine all_split ?_ w_codes
  rw [w_t1]
set_option maxRecDepth 65536 in
theorem w_case : (Jvm.Cond.and given_1 narrow_1).before args0 about1 = true := by decide +kernel
theorem w_applies : (headSpec (Jvm.Cond.code x code maxLocals ret :: tables_1) room_1).applies x e0.platform about1 = true :=
  (Spec.applies_iff w_frames).mpr ⟨w_running, w_runnable, w_alone, w_named, w_hears, w_ripe, w_room, w_tables⟩
theorem atStart : AtStart classFile x code maxLocals ret World_1 tables_1 room_1 Calls_1 rest_1 Pre_1 launch0 p0 e0 about1 theMethod args0 below0 :=
  ⟨lists_1, trivial, launch0.admits_env _ _ _, launch0.least_env, fairChoices_fair.cas, fairChoices_fair.clock, w_frames, w_args, w_heap, w_applies, trivial, trivial, w_case⟩
end start1
theorem witness_1 : WitnessClaimed_1 := ⟨start1.p0, start1.e0, start1.about1, start1.theMethod, start1.args0, start1.below0, start1.atStart⟩
end Jvm.Pilot.@@N@@

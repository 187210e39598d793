import JvmDerived
import JvmDerived.Pilot.@@N@@Statement
import JvmDerived.Pilot.@@N@@Code
set_option linter.unusedVariables false
set_option linter.unusedSimpArgs false
namespace Jvm.RoadKit
open Sem ClassFile Op Lib Jvm.Stand Jvm.Free Jvm.LawKit
section New
variable {p : Program} {l : Launch} {e : Env} {R : Room} {s : State} {m : MethodId} {args : Array Value} {below : List Frame} {meth : Method} {c : Code} {T : State} {locs : List Loc} {cells slots : Nat}
theorem retI (X : Stand p l e R s m args below meth c T locs cells slots) (hx : p.tables.exec = Jvm.exec) {pc : Nat} {Ls : Array Slot} {z : Int32} {rest : List Value} (hret : meth.sig.returnType = some .int) (hd : decode c.code pc = .ok (.ireturn, 1)) {fs : List Frame}
    (hl : ∀ (f : JFrame) (acts : List Action), f.method = m → f.locked = none → f.entered = [] → (doReturn e (T.setTop f) acts (some (.int z))).1 = T.setFrames fs) : Steps p.tables e below (T.setTop (mkF m pc Ls (.int z :: rest))) (T.setFrames fs) := by
  have hm' : T.vm.method? m = some meth := X.method'
  have hn : narrow .int (.int z) = .int z := rfl
  show Steps p.tables e below (T.setTop { method := m, pc := pc, locals := Ls, stack := _ :: rest, locked := none }) _
  jvm_step X.here [X.here.top, hx, hd, hm', hret, hn]
  first | (intro acts; rw [hl _ acts rfl rfl rfl]) | rw [hl _ _ rfl rfl rfl]
  exact Steps.refl _
end New
end Jvm.RoadKit
namespace Jvm.Pilot.@@N@@
open Jvm Jvm.ClassFile Sem Op Lib Jvm.Free Jvm.Stand Jvm.LawKit Jvm.RoadKit Bundle Jvm.Pilot.@@N@@.Jvm.D
section OwnKit
variable {p : Program} {l : Launch} {e : Env} {R : Room} {s : State} {m : MethodId} {args : Array Value} {below : List Frame} {meth : Method} {c : Code} {T : State} {locs : List Loc} {cells slots : Nat}
/-- what a body owes from the state A on: it comes to its return, and what it returned, the heap and the written places satisfy Q -/
def own_Fin (p : Program) (e : Env) (below : List Frame) (s : State) (Q : Option Value → Heap → List Loc → Prop) (rc rs : Nat) (A : State) : Prop :=
  ∃ s₂ o, Steps p.tables e below A s₂ ∧ s₂.status = .running ∧ Ended s₂ below o ∧ ∃ v L, o = .returned v ∧ Q v s₂.heap L ∧ FrameEnd s o s₂ L rc rs
theorem own_step {Q : Option Value → Heap → List Loc → Prop} {rc rs : Nat} {A B : State} (k : ∀ t, Steps p.tables e below B t → Steps p.tables e below A t) (h : own_Fin p e below s Q rc rs B) : own_Fin p e below s Q rc rs A := by
  obtain ⟨s₂, o, h1, h2⟩ := h
  exact ⟨s₂, o, k _ h1, h2⟩
theorem own_retN (X : Stand p l e R s m args below meth c T locs cells slots) (hx : p.tables.exec = Jvm.exec) (hlk : meth.locks = false) {Q : Option Value → Heap → List Loc → Prop} {rc rs n0 : Nat} {h : Heap} {pc : Nat} {Ls : Array Slot} {z v : Int32} {t : FieldType} {rest : List Value} (hret : meth.sig.returnType = some t) (ht : t = .boolean ∨ t = .byte ∨ t = .char ∨ t = .short)
    (hd : decode c.code pc = .ok (.ireturn, 1)) (hc : cells ≤ rc) (hs : slots ≤ rs) (eT : T.heap = h) (N : Fr n0 locs) (hQ : ∀ L', Fr n0 L' → Q (some (.int v)) h L') (hv : v = nar t z) :
    own_Fin p e below s Q rc rs (T.setTop (mkF m pc Ls (.int z :: rest))) := by
  subst hv
  obtain ⟨fs, hr, hrun, hended, hW, hsame⟩ := X.leave (v := some (.int (nar t z))) (fun h => by rw [hret] at h; cases h) hlk
  refine ⟨_, _, retN X hx hret ht hd hr, hrun, hended, _, _, rfl, ?_, ⟨_, rfl⟩, hW, hsame.mono hc hs⟩
  show Q _ T.heap _
  rw [eT]
  exact hQ _ N
theorem own_retI (X : Stand p l e R s m args below meth c T locs cells slots) (hx : p.tables.exec = Jvm.exec) (hlk : meth.locks = false) {Q : Option Value → Heap → List Loc → Prop} {rc rs n0 : Nat} {h : Heap} {pc : Nat} {Ls : Array Slot} {z v : Int32} {rest : List Value} (hret : meth.sig.returnType = some .int)
    (hd : decode c.code pc = .ok (.ireturn, 1)) (hc : cells ≤ rc) (hs : slots ≤ rs) (eT : T.heap = h) (N : Fr n0 locs) (hQ : ∀ L', Fr n0 L' → Q (some (.int v)) h L') (hv : v = z) :
    own_Fin p e below s Q rc rs (T.setTop (mkF m pc Ls (.int z :: rest))) := by
  subst hv
  obtain ⟨fs, hr, hrun, hended, hW, hsame⟩ := X.leave (v := some (.int v)) (fun h => by rw [hret] at h; cases h) hlk
  refine ⟨_, _, retI X hx hret hd hr, hrun, hended, _, _, rfl, ?_, ⟨_, rfl⟩, hW, hsame.mono hc hs⟩
  show Q _ T.heap _
  rw [eT]
  exact hQ _ N
theorem own_ret0 (X : Stand p l e R s m args below meth c T locs cells slots) (hx : p.tables.exec = Jvm.exec) (hlk : meth.locks = false) {Q : Option Value → Heap → List Loc → Prop} {rc rs : Nat} {h : Heap} {pc : Nat} {Ls : Array Slot} (hret : meth.sig.returnType = none)
    (hd : decode c.code pc = .ok (.return_, 1)) (hc : cells ≤ rc) (hs : slots ≤ rs) (eT : T.heap = h) (hQ : Q none h locs) :
    own_Fin p e below s Q rc rs (T.setTop (mkF m pc Ls [])) := by
  obtain ⟨fs, hr, hrun, hended, hW, hsame⟩ := X.leave (v := none) (fun _ => rfl) hlk
  refine ⟨_, _, X.returnOut hx hret hd hr, hrun, hended, _, _, rfl, ?_, ⟨_, rfl⟩, hW, hsame.mono hc hs⟩
  show Q _ T.heap _
  rw [eT]
  exact hQ
end OwnKit
/-- an array of n ints (bytes, ..) at a: its i-th is g i -/
def own_AF (Z : State) (h : Heap) (a : Addr) (ty : FieldType) (n : Nat) (g : Nat → Int32) : Prop := ∃ c : Cell, Arr Z h a c ty ∧ c.slots.size = n ∧ ∀ i, i < n → c.slots[i]? = some (.int (g i))
def own_In (n : Nat) (j : Int32) : Prop := ¬ (j < 0 ∨ n ≤ j.toNatClampNeg)
theorem own_AF.lt {Z : State} {h : Heap} {a : Addr} {ty : FieldType} {n : Nat} {g : Nat → Int32} (F : own_AF Z h a ty n g) : a < h.size := by obtain ⟨c, A, -⟩ := F; exact A.lt
theorem own_AFext {Z : State} {h h' : Heap} {a : Addr} {ty : FieldType} {n : Nat} {g : Nat → Int32} (F : own_AF Z h a ty n g) (E : Ext h h') : own_AF Z h' a ty n g := by obtain ⟨c, A, r⟩ := F; exact ⟨c, A.ext E, r⟩
theorem own_AFoth {Z : State} {h h' : Heap} {a b : Addr} {sl : Nat} {v : Value} {ty : FieldType} {n : Nat} {g : Nat → Int32} (F : own_AF Z h b ty n g) (W : Wr h h' a sl v) (q : b ≠ a) : own_AF Z h' b ty n g := by obtain ⟨c, A, r⟩ := F; exact ⟨c, A.other W q, r⟩
theorem own_AFkeep {Z : State} {h h' : Heap} {a : Addr} {ws : List Addr} {ty : FieldType} {n : Nat} {g : Nat → Int32} (F : own_AF Z h a ty n g) (K : Keep h h' ws) (q : a ∉ ws) : own_AF Z h' a ty n g := by obtain ⟨c, A, r⟩ := F; exact ⟨c, ⟨K.2.1 a c A.1 q, A.2⟩, r⟩
theorem own_AFset {Z : State} {h h' : Heap} {a : Addr} {ty : FieldType} {n k : Nat} {g : Nat → Int32} {c : Cell} {x : Int32} (A : Arr Z h a c ty) (S : c.slots.size = n) (H : ∀ i, i < n → c.slots[i]? = some (.int (g i))) (W : Wr h h' a k (.int x)) : own_AF Z h' a ty n (fun i => if i = k then x else g i) := by
  obtain ⟨c', e1, e2, e3, e4, e5, e6, e7⟩ := wr_at W A.1
  refine ⟨c', ⟨e1, ?_⟩, e4.trans S, fun i hi => ?_⟩
  · rw [(e7 rfl).1]; exact A.2
  · by_cases q : i = k
    · subst q
      show c'.slots[i]? = some (.int (if i = i then x else g i))
      rw [if_pos rfl]
      exact (e7 rfl).2.1
    · show c'.slots[i]? = some (.int (if i = k then x else g i))
      rw [e6 i q, if_neg q]
      exact H i hi
theorem own_AFnew {Z : State} {h : Heap} {a : Addr} {k : ClassId} {ty : FieldType} {z : Int32} {n : Nat} (A : Arr Z h a (newA k ty z) ty) (hn : z.toNatClampNeg = n) (hd : defaultValue ty = .int 0 := by rfl) : own_AF Z h a ty n (fun _ => 0) :=
  ⟨_, A, (sz_new _ _ _).trans hn, fun i hi => by
    have hs : (newA k ty z).slots = Array.replicate z.toNatClampNeg (defaultValue ty) := rfl
    rw [hs, hn, hd]
    simp [hi]⟩
theorem own_eqi {x y : Int32} {b : Int} (h : y.toInt = b) : x = y ↔ x.toInt = b := by rw [← h]; exact Int32.toInt_inj.symm

theorem d2_0 : decode method_2_code 0 = .ok (.iload_n 0, 1) := by decide +kernel
theorem d2_1 : decode method_2_code 1 = .ok (.bipush 48, 2) := by decide +kernel
theorem d2_3 : decode method_2_code 3 = .ok (.if_icmp .eq 57, 3) := by decide +kernel
theorem d2_6 : decode method_2_code 6 = .ok (.iload_n 0, 1) := by decide +kernel
theorem d2_7 : decode method_2_code 7 = .ok (.bipush 49, 2) := by decide +kernel
theorem d2_9 : decode method_2_code 9 = .ok (.if_icmp .eq 51, 3) := by decide +kernel
theorem d2_12 : decode method_2_code 12 = .ok (.iload_n 0, 1) := by decide +kernel
theorem d2_13 : decode method_2_code 13 = .ok (.bipush 50, 2) := by decide +kernel
theorem d2_15 : decode method_2_code 15 = .ok (.if_icmp .eq 45, 3) := by decide +kernel
theorem d2_18 : decode method_2_code 18 = .ok (.iload_n 0, 1) := by decide +kernel
theorem d2_19 : decode method_2_code 19 = .ok (.bipush 51, 2) := by decide +kernel
theorem d2_21 : decode method_2_code 21 = .ok (.if_icmp .eq 39, 3) := by decide +kernel
theorem d2_24 : decode method_2_code 24 = .ok (.iload_n 0, 1) := by decide +kernel
theorem d2_25 : decode method_2_code 25 = .ok (.bipush 52, 2) := by decide +kernel
theorem d2_27 : decode method_2_code 27 = .ok (.if_icmp .eq 33, 3) := by decide +kernel
theorem d2_30 : decode method_2_code 30 = .ok (.iload_n 0, 1) := by decide +kernel
theorem d2_31 : decode method_2_code 31 = .ok (.bipush 53, 2) := by decide +kernel
theorem d2_33 : decode method_2_code 33 = .ok (.if_icmp .eq 27, 3) := by decide +kernel
theorem d2_36 : decode method_2_code 36 = .ok (.iload_n 0, 1) := by decide +kernel
theorem d2_37 : decode method_2_code 37 = .ok (.bipush 54, 2) := by decide +kernel
theorem d2_39 : decode method_2_code 39 = .ok (.if_icmp .eq 21, 3) := by decide +kernel
theorem d2_42 : decode method_2_code 42 = .ok (.iload_n 0, 1) := by decide +kernel
theorem d2_43 : decode method_2_code 43 = .ok (.bipush 55, 2) := by decide +kernel
theorem d2_45 : decode method_2_code 45 = .ok (.if_icmp .eq 15, 3) := by decide +kernel
theorem d2_48 : decode method_2_code 48 = .ok (.iload_n 0, 1) := by decide +kernel
theorem d2_49 : decode method_2_code 49 = .ok (.bipush 56, 2) := by decide +kernel
theorem d2_51 : decode method_2_code 51 = .ok (.if_icmp .eq 9, 3) := by decide +kernel
theorem d2_54 : decode method_2_code 54 = .ok (.iload_n 0, 1) := by decide +kernel
theorem d2_55 : decode method_2_code 55 = .ok (.bipush 57, 2) := by decide +kernel
theorem d2_57 : decode method_2_code 57 = .ok (.if_icmp .ne 7, 3) := by decide +kernel
theorem d2_60 : decode method_2_code 60 = .ok (.iconst 1, 1) := by decide +kernel
theorem d2_61 : decode method_2_code 61 = .ok (.goto 4, 3) := by decide +kernel
theorem d2_64 : decode method_2_code 64 = .ok (.iconst 0, 1) := by decide +kernel
theorem d2_65 : decode method_2_code 65 = .ok (.ireturn, 1) := by decide +kernel
def f2_65 (i0 : Int32) (is0 : Int32) : Int32 := (nar .boolean is0)
set_option maxRecDepth 65536 in
set_option maxHeartbeats 40000000 in
theorem b2_65 {p : Program} {l : Launch} {e : Env} {s : State} {m : MethodId} {args : Array Value} {below : List Frame} {meth : Method} {c : Code} {T : State} {locs : List Loc} {cells slots : Nat} {Z : State} {a0 : Array Value} {h : Heap} {n0 : Nat} {Q : Option Value → Heap → List Loc → Prop} (i0 : Int32) (is0 : Int32) (hw : ∀ d ∈ tables_1, d.before a0 Z = true) (X : Stand p l e ({ frames := 0, cells := 0, slots := 0, locals := 0 } : Room) s m args below meth c T locs cells slots) (hx : p.tables.exec = Jvm.exec) (hZ : Z.Warmed39 s.vm) (hby : c.code = method_2_code) (hml : c.maxLocals = 1) (hown : s.vm.findClass "com/example/waymark/waymark/util/AsciiIsDigitPinLaw" = some m.cls) (hret : meth.sig.returnType = some .boolean) (hlk : meth.locks = false) (eT : T.heap = h) (N : Fr n0 locs) (hc : cells ≤ 0) (hs : slots ≤ 0) (v : Int32) (hv : v = f2_65 i0 is0) (hQ : ∀ L', Fr n0 L' → Q (some (.int v)) h L') :
    own_Fin p e below s Q 0 0 (T.setTop (mkF m 65 #[.val (.int i0)] [(.int is0)])) := by
  exact own_retN X hx hlk hret (by simp) (hb hby d2_65) (by omega) (by omega) eT N hQ (hv)
def f2_60 (i0 : Int32) : Int32 := f2_65 i0 (1 : Int32)
set_option maxRecDepth 65536 in
set_option maxHeartbeats 40000000 in
theorem b2_60 {p : Program} {l : Launch} {e : Env} {s : State} {m : MethodId} {args : Array Value} {below : List Frame} {meth : Method} {c : Code} {T : State} {locs : List Loc} {cells slots : Nat} {Z : State} {a0 : Array Value} {h : Heap} {n0 : Nat} {Q : Option Value → Heap → List Loc → Prop} (i0 : Int32) (hw : ∀ d ∈ tables_1, d.before a0 Z = true) (X : Stand p l e ({ frames := 0, cells := 0, slots := 0, locals := 0 } : Room) s m args below meth c T locs cells slots) (hx : p.tables.exec = Jvm.exec) (hZ : Z.Warmed39 s.vm) (hby : c.code = method_2_code) (hml : c.maxLocals = 1) (hown : s.vm.findClass "com/example/waymark/waymark/util/AsciiIsDigitPinLaw" = some m.cls) (hret : meth.sig.returnType = some .boolean) (hlk : meth.locks = false) (eT : T.heap = h) (N : Fr n0 locs) (hc : cells ≤ 0) (hs : slots ≤ 0) (v : Int32) (hv : v = f2_60 i0) (hQ : ∀ L', Fr n0 L' → Q (some (.int v)) h L') :
    own_Fin p e below s Q 0 0 (T.setTop (mkF m 60 #[.val (.int i0)] [])) := by
  refine own_step (fun t k => XS.iconst X.here hx rfl (hb hby d2_60) k) ?_
  show own_Fin p e below s Q 0 0 (T.setTop (mkF m 61 #[.val (.int i0)] [(.int (1 : Int32))]))
  refine own_step (fun t k => XS.goto X.here hx rfl (pc0 := 61) (pc' := 65) rfl (hb hby d2_61) (by decide) (by decide) k) ?_
  exact b2_65 i0 (1 : Int32) hw X hx hZ hby hml hown hret hlk eT N (by omega) (by omega) v (hv) hQ
def f2_64 (i0 : Int32) : Int32 := f2_65 i0 (0 : Int32)
set_option maxRecDepth 65536 in
set_option maxHeartbeats 40000000 in
theorem b2_64 {p : Program} {l : Launch} {e : Env} {s : State} {m : MethodId} {args : Array Value} {below : List Frame} {meth : Method} {c : Code} {T : State} {locs : List Loc} {cells slots : Nat} {Z : State} {a0 : Array Value} {h : Heap} {n0 : Nat} {Q : Option Value → Heap → List Loc → Prop} (i0 : Int32) (hw : ∀ d ∈ tables_1, d.before a0 Z = true) (X : Stand p l e ({ frames := 0, cells := 0, slots := 0, locals := 0 } : Room) s m args below meth c T locs cells slots) (hx : p.tables.exec = Jvm.exec) (hZ : Z.Warmed39 s.vm) (hby : c.code = method_2_code) (hml : c.maxLocals = 1) (hown : s.vm.findClass "com/example/waymark/waymark/util/AsciiIsDigitPinLaw" = some m.cls) (hret : meth.sig.returnType = some .boolean) (hlk : meth.locks = false) (eT : T.heap = h) (N : Fr n0 locs) (hc : cells ≤ 0) (hs : slots ≤ 0) (v : Int32) (hv : v = f2_64 i0) (hQ : ∀ L', Fr n0 L' → Q (some (.int v)) h L') :
    own_Fin p e below s Q 0 0 (T.setTop (mkF m 64 #[.val (.int i0)] [])) := by
  refine own_step (fun t k => XS.iconst X.here hx rfl (hb hby d2_64) k) ?_
  exact b2_65 i0 (0 : Int32) hw X hx hZ hby hml hown hret hlk eT N (by omega) (by omega) v (hv) hQ
def f2_54 (i0 : Int32) : Int32 := if i0 = (57 : Int32) then f2_60 i0 else f2_64 i0
set_option maxRecDepth 65536 in
set_option maxHeartbeats 40000000 in
theorem b2_54 {p : Program} {l : Launch} {e : Env} {s : State} {m : MethodId} {args : Array Value} {below : List Frame} {meth : Method} {c : Code} {T : State} {locs : List Loc} {cells slots : Nat} {Z : State} {a0 : Array Value} {h : Heap} {n0 : Nat} {Q : Option Value → Heap → List Loc → Prop} (i0 : Int32) (hw : ∀ d ∈ tables_1, d.before a0 Z = true) (X : Stand p l e ({ frames := 0, cells := 0, slots := 0, locals := 0 } : Room) s m args below meth c T locs cells slots) (hx : p.tables.exec = Jvm.exec) (hZ : Z.Warmed39 s.vm) (hby : c.code = method_2_code) (hml : c.maxLocals = 1) (hown : s.vm.findClass "com/example/waymark/waymark/util/AsciiIsDigitPinLaw" = some m.cls) (hret : meth.sig.returnType = some .boolean) (hlk : meth.locks = false) (eT : T.heap = h) (N : Fr n0 locs) (hc : cells ≤ 0) (hs : slots ≤ 0) (v : Int32) (hv : v = f2_54 i0) (hQ : ∀ L', Fr n0 L' → Q (some (.int v)) h L') :
    own_Fin p e below s Q 0 0 (T.setTop (mkF m 54 #[.val (.int i0)] [])) := by
  refine own_step (fun t k => XS.iloadN X.here hx rfl (hb hby d2_54) rfl  k) ?_
  show own_Fin p e below s Q 0 0 (T.setTop (mkF m 55 #[.val (.int i0)] [(.int i0)]))
  refine own_step (fun t k => XS.bipush X.here hx rfl (hb hby d2_55) k) ?_
  show own_Fin p e below s Q 0 0 (T.setTop (mkF m 57 #[.val (.int i0)] [(.int (57 : Int32)), (.int i0)]))
  by_cases hB57_28 : i0 = (57 : Int32)
  · refine own_step (fun t k => XS.icmpNo X.here hx rfl (hb hby d2_57) rfl (teq hB57_28).2 k) ?_
    exact b2_60 i0 hw X hx hZ hby hml hown hret hlk eT N (by omega) (by omega) v (hv.trans (if_pos hB57_28)) hQ
  · refine own_step (fun t k => XS.icmpYes X.here hx rfl (pc0 := 57) (pc' := 64) rfl (hb hby d2_57) rfl (feq hB57_28).2 (by decide) (by decide) k) ?_
    exact b2_64 i0 hw X hx hZ hby hml hown hret hlk eT N (by omega) (by omega) v (hv.trans (if_neg hB57_28)) hQ
def f2_48 (i0 : Int32) : Int32 := if i0 = (56 : Int32) then f2_60 i0 else f2_54 i0
set_option maxRecDepth 65536 in
set_option maxHeartbeats 40000000 in
theorem b2_48 {p : Program} {l : Launch} {e : Env} {s : State} {m : MethodId} {args : Array Value} {below : List Frame} {meth : Method} {c : Code} {T : State} {locs : List Loc} {cells slots : Nat} {Z : State} {a0 : Array Value} {h : Heap} {n0 : Nat} {Q : Option Value → Heap → List Loc → Prop} (i0 : Int32) (hw : ∀ d ∈ tables_1, d.before a0 Z = true) (X : Stand p l e ({ frames := 0, cells := 0, slots := 0, locals := 0 } : Room) s m args below meth c T locs cells slots) (hx : p.tables.exec = Jvm.exec) (hZ : Z.Warmed39 s.vm) (hby : c.code = method_2_code) (hml : c.maxLocals = 1) (hown : s.vm.findClass "com/example/waymark/waymark/util/AsciiIsDigitPinLaw" = some m.cls) (hret : meth.sig.returnType = some .boolean) (hlk : meth.locks = false) (eT : T.heap = h) (N : Fr n0 locs) (hc : cells ≤ 0) (hs : slots ≤ 0) (v : Int32) (hv : v = f2_48 i0) (hQ : ∀ L', Fr n0 L' → Q (some (.int v)) h L') :
    own_Fin p e below s Q 0 0 (T.setTop (mkF m 48 #[.val (.int i0)] [])) := by
  refine own_step (fun t k => XS.iloadN X.here hx rfl (hb hby d2_48) rfl  k) ?_
  show own_Fin p e below s Q 0 0 (T.setTop (mkF m 49 #[.val (.int i0)] [(.int i0)]))
  refine own_step (fun t k => XS.bipush X.here hx rfl (hb hby d2_49) k) ?_
  show own_Fin p e below s Q 0 0 (T.setTop (mkF m 51 #[.val (.int i0)] [(.int (56 : Int32)), (.int i0)]))
  by_cases hB51_25 : i0 = (56 : Int32)
  · refine own_step (fun t k => XS.icmpYes X.here hx rfl (pc0 := 51) (pc' := 60) rfl (hb hby d2_51) rfl (teq hB51_25).1 (by decide) (by decide) k) ?_
    exact b2_60 i0 hw X hx hZ hby hml hown hret hlk eT N (by omega) (by omega) v (hv.trans (if_pos hB51_25)) hQ
  · refine own_step (fun t k => XS.icmpNo X.here hx rfl (hb hby d2_51) rfl (feq hB51_25).1 k) ?_
    exact b2_54 i0 hw X hx hZ hby hml hown hret hlk eT N (by omega) (by omega) v (hv.trans (if_neg hB51_25)) hQ
def f2_42 (i0 : Int32) : Int32 := if i0 = (55 : Int32) then f2_60 i0 else f2_48 i0
set_option maxRecDepth 65536 in
set_option maxHeartbeats 40000000 in
theorem b2_42 {p : Program} {l : Launch} {e : Env} {s : State} {m : MethodId} {args : Array Value} {below : List Frame} {meth : Method} {c : Code} {T : State} {locs : List Loc} {cells slots : Nat} {Z : State} {a0 : Array Value} {h : Heap} {n0 : Nat} {Q : Option Value → Heap → List Loc → Prop} (i0 : Int32) (hw : ∀ d ∈ tables_1, d.before a0 Z = true) (X : Stand p l e ({ frames := 0, cells := 0, slots := 0, locals := 0 } : Room) s m args below meth c T locs cells slots) (hx : p.tables.exec = Jvm.exec) (hZ : Z.Warmed39 s.vm) (hby : c.code = method_2_code) (hml : c.maxLocals = 1) (hown : s.vm.findClass "com/example/waymark/waymark/util/AsciiIsDigitPinLaw" = some m.cls) (hret : meth.sig.returnType = some .boolean) (hlk : meth.locks = false) (eT : T.heap = h) (N : Fr n0 locs) (hc : cells ≤ 0) (hs : slots ≤ 0) (v : Int32) (hv : v = f2_42 i0) (hQ : ∀ L', Fr n0 L' → Q (some (.int v)) h L') :
    own_Fin p e below s Q 0 0 (T.setTop (mkF m 42 #[.val (.int i0)] [])) := by
  refine own_step (fun t k => XS.iloadN X.here hx rfl (hb hby d2_42) rfl  k) ?_
  show own_Fin p e below s Q 0 0 (T.setTop (mkF m 43 #[.val (.int i0)] [(.int i0)]))
  refine own_step (fun t k => XS.bipush X.here hx rfl (hb hby d2_43) k) ?_
  show own_Fin p e below s Q 0 0 (T.setTop (mkF m 45 #[.val (.int i0)] [(.int (55 : Int32)), (.int i0)]))
  by_cases hB45_22 : i0 = (55 : Int32)
  · refine own_step (fun t k => XS.icmpYes X.here hx rfl (pc0 := 45) (pc' := 60) rfl (hb hby d2_45) rfl (teq hB45_22).1 (by decide) (by decide) k) ?_
    exact b2_60 i0 hw X hx hZ hby hml hown hret hlk eT N (by omega) (by omega) v (hv.trans (if_pos hB45_22)) hQ
  · refine own_step (fun t k => XS.icmpNo X.here hx rfl (hb hby d2_45) rfl (feq hB45_22).1 k) ?_
    exact b2_48 i0 hw X hx hZ hby hml hown hret hlk eT N (by omega) (by omega) v (hv.trans (if_neg hB45_22)) hQ
def f2_36 (i0 : Int32) : Int32 := if i0 = (54 : Int32) then f2_60 i0 else f2_42 i0
set_option maxRecDepth 65536 in
set_option maxHeartbeats 40000000 in
theorem b2_36 {p : Program} {l : Launch} {e : Env} {s : State} {m : MethodId} {args : Array Value} {below : List Frame} {meth : Method} {c : Code} {T : State} {locs : List Loc} {cells slots : Nat} {Z : State} {a0 : Array Value} {h : Heap} {n0 : Nat} {Q : Option Value → Heap → List Loc → Prop} (i0 : Int32) (hw : ∀ d ∈ tables_1, d.before a0 Z = true) (X : Stand p l e ({ frames := 0, cells := 0, slots := 0, locals := 0 } : Room) s m args below meth c T locs cells slots) (hx : p.tables.exec = Jvm.exec) (hZ : Z.Warmed39 s.vm) (hby : c.code = method_2_code) (hml : c.maxLocals = 1) (hown : s.vm.findClass "com/example/waymark/waymark/util/AsciiIsDigitPinLaw" = some m.cls) (hret : meth.sig.returnType = some .boolean) (hlk : meth.locks = false) (eT : T.heap = h) (N : Fr n0 locs) (hc : cells ≤ 0) (hs : slots ≤ 0) (v : Int32) (hv : v = f2_36 i0) (hQ : ∀ L', Fr n0 L' → Q (some (.int v)) h L') :
    own_Fin p e below s Q 0 0 (T.setTop (mkF m 36 #[.val (.int i0)] [])) := by
  refine own_step (fun t k => XS.iloadN X.here hx rfl (hb hby d2_36) rfl  k) ?_
  show own_Fin p e below s Q 0 0 (T.setTop (mkF m 37 #[.val (.int i0)] [(.int i0)]))
  refine own_step (fun t k => XS.bipush X.here hx rfl (hb hby d2_37) k) ?_
  show own_Fin p e below s Q 0 0 (T.setTop (mkF m 39 #[.val (.int i0)] [(.int (54 : Int32)), (.int i0)]))
  by_cases hB39_19 : i0 = (54 : Int32)
  · refine own_step (fun t k => XS.icmpYes X.here hx rfl (pc0 := 39) (pc' := 60) rfl (hb hby d2_39) rfl (teq hB39_19).1 (by decide) (by decide) k) ?_
    exact b2_60 i0 hw X hx hZ hby hml hown hret hlk eT N (by omega) (by omega) v (hv.trans (if_pos hB39_19)) hQ
  · refine own_step (fun t k => XS.icmpNo X.here hx rfl (hb hby d2_39) rfl (feq hB39_19).1 k) ?_
    exact b2_42 i0 hw X hx hZ hby hml hown hret hlk eT N (by omega) (by omega) v (hv.trans (if_neg hB39_19)) hQ
def f2_30 (i0 : Int32) : Int32 := if i0 = (53 : Int32) then f2_60 i0 else f2_36 i0
set_option maxRecDepth 65536 in
set_option maxHeartbeats 40000000 in
theorem b2_30 {p : Program} {l : Launch} {e : Env} {s : State} {m : MethodId} {args : Array Value} {below : List Frame} {meth : Method} {c : Code} {T : State} {locs : List Loc} {cells slots : Nat} {Z : State} {a0 : Array Value} {h : Heap} {n0 : Nat} {Q : Option Value → Heap → List Loc → Prop} (i0 : Int32) (hw : ∀ d ∈ tables_1, d.before a0 Z = true) (X : Stand p l e ({ frames := 0, cells := 0, slots := 0, locals := 0 } : Room) s m args below meth c T locs cells slots) (hx : p.tables.exec = Jvm.exec) (hZ : Z.Warmed39 s.vm) (hby : c.code = method_2_code) (hml : c.maxLocals = 1) (hown : s.vm.findClass "com/example/waymark/waymark/util/AsciiIsDigitPinLaw" = some m.cls) (hret : meth.sig.returnType = some .boolean) (hlk : meth.locks = false) (eT : T.heap = h) (N : Fr n0 locs) (hc : cells ≤ 0) (hs : slots ≤ 0) (v : Int32) (hv : v = f2_30 i0) (hQ : ∀ L', Fr n0 L' → Q (some (.int v)) h L') :
    own_Fin p e below s Q 0 0 (T.setTop (mkF m 30 #[.val (.int i0)] [])) := by
  refine own_step (fun t k => XS.iloadN X.here hx rfl (hb hby d2_30) rfl  k) ?_
  show own_Fin p e below s Q 0 0 (T.setTop (mkF m 31 #[.val (.int i0)] [(.int i0)]))
  refine own_step (fun t k => XS.bipush X.here hx rfl (hb hby d2_31) k) ?_
  show own_Fin p e below s Q 0 0 (T.setTop (mkF m 33 #[.val (.int i0)] [(.int (53 : Int32)), (.int i0)]))
  by_cases hB33_16 : i0 = (53 : Int32)
  · refine own_step (fun t k => XS.icmpYes X.here hx rfl (pc0 := 33) (pc' := 60) rfl (hb hby d2_33) rfl (teq hB33_16).1 (by decide) (by decide) k) ?_
    exact b2_60 i0 hw X hx hZ hby hml hown hret hlk eT N (by omega) (by omega) v (hv.trans (if_pos hB33_16)) hQ
  · refine own_step (fun t k => XS.icmpNo X.here hx rfl (hb hby d2_33) rfl (feq hB33_16).1 k) ?_
    exact b2_36 i0 hw X hx hZ hby hml hown hret hlk eT N (by omega) (by omega) v (hv.trans (if_neg hB33_16)) hQ
def f2_24 (i0 : Int32) : Int32 := if i0 = (52 : Int32) then f2_60 i0 else f2_30 i0
set_option maxRecDepth 65536 in
set_option maxHeartbeats 40000000 in
theorem b2_24 {p : Program} {l : Launch} {e : Env} {s : State} {m : MethodId} {args : Array Value} {below : List Frame} {meth : Method} {c : Code} {T : State} {locs : List Loc} {cells slots : Nat} {Z : State} {a0 : Array Value} {h : Heap} {n0 : Nat} {Q : Option Value → Heap → List Loc → Prop} (i0 : Int32) (hw : ∀ d ∈ tables_1, d.before a0 Z = true) (X : Stand p l e ({ frames := 0, cells := 0, slots := 0, locals := 0 } : Room) s m args below meth c T locs cells slots) (hx : p.tables.exec = Jvm.exec) (hZ : Z.Warmed39 s.vm) (hby : c.code = method_2_code) (hml : c.maxLocals = 1) (hown : s.vm.findClass "com/example/waymark/waymark/util/AsciiIsDigitPinLaw" = some m.cls) (hret : meth.sig.returnType = some .boolean) (hlk : meth.locks = false) (eT : T.heap = h) (N : Fr n0 locs) (hc : cells ≤ 0) (hs : slots ≤ 0) (v : Int32) (hv : v = f2_24 i0) (hQ : ∀ L', Fr n0 L' → Q (some (.int v)) h L') :
    own_Fin p e below s Q 0 0 (T.setTop (mkF m 24 #[.val (.int i0)] [])) := by
  refine own_step (fun t k => XS.iloadN X.here hx rfl (hb hby d2_24) rfl  k) ?_
  show own_Fin p e below s Q 0 0 (T.setTop (mkF m 25 #[.val (.int i0)] [(.int i0)]))
  refine own_step (fun t k => XS.bipush X.here hx rfl (hb hby d2_25) k) ?_
  show own_Fin p e below s Q 0 0 (T.setTop (mkF m 27 #[.val (.int i0)] [(.int (52 : Int32)), (.int i0)]))
  by_cases hB27_13 : i0 = (52 : Int32)
  · refine own_step (fun t k => XS.icmpYes X.here hx rfl (pc0 := 27) (pc' := 60) rfl (hb hby d2_27) rfl (teq hB27_13).1 (by decide) (by decide) k) ?_
    exact b2_60 i0 hw X hx hZ hby hml hown hret hlk eT N (by omega) (by omega) v (hv.trans (if_pos hB27_13)) hQ
  · refine own_step (fun t k => XS.icmpNo X.here hx rfl (hb hby d2_27) rfl (feq hB27_13).1 k) ?_
    exact b2_30 i0 hw X hx hZ hby hml hown hret hlk eT N (by omega) (by omega) v (hv.trans (if_neg hB27_13)) hQ
def f2_18 (i0 : Int32) : Int32 := if i0 = (51 : Int32) then f2_60 i0 else f2_24 i0
set_option maxRecDepth 65536 in
set_option maxHeartbeats 40000000 in
theorem b2_18 {p : Program} {l : Launch} {e : Env} {s : State} {m : MethodId} {args : Array Value} {below : List Frame} {meth : Method} {c : Code} {T : State} {locs : List Loc} {cells slots : Nat} {Z : State} {a0 : Array Value} {h : Heap} {n0 : Nat} {Q : Option Value → Heap → List Loc → Prop} (i0 : Int32) (hw : ∀ d ∈ tables_1, d.before a0 Z = true) (X : Stand p l e ({ frames := 0, cells := 0, slots := 0, locals := 0 } : Room) s m args below meth c T locs cells slots) (hx : p.tables.exec = Jvm.exec) (hZ : Z.Warmed39 s.vm) (hby : c.code = method_2_code) (hml : c.maxLocals = 1) (hown : s.vm.findClass "com/example/waymark/waymark/util/AsciiIsDigitPinLaw" = some m.cls) (hret : meth.sig.returnType = some .boolean) (hlk : meth.locks = false) (eT : T.heap = h) (N : Fr n0 locs) (hc : cells ≤ 0) (hs : slots ≤ 0) (v : Int32) (hv : v = f2_18 i0) (hQ : ∀ L', Fr n0 L' → Q (some (.int v)) h L') :
    own_Fin p e below s Q 0 0 (T.setTop (mkF m 18 #[.val (.int i0)] [])) := by
  refine own_step (fun t k => XS.iloadN X.here hx rfl (hb hby d2_18) rfl  k) ?_
  show own_Fin p e below s Q 0 0 (T.setTop (mkF m 19 #[.val (.int i0)] [(.int i0)]))
  refine own_step (fun t k => XS.bipush X.here hx rfl (hb hby d2_19) k) ?_
  show own_Fin p e below s Q 0 0 (T.setTop (mkF m 21 #[.val (.int i0)] [(.int (51 : Int32)), (.int i0)]))
  by_cases hB21_10 : i0 = (51 : Int32)
  · refine own_step (fun t k => XS.icmpYes X.here hx rfl (pc0 := 21) (pc' := 60) rfl (hb hby d2_21) rfl (teq hB21_10).1 (by decide) (by decide) k) ?_
    exact b2_60 i0 hw X hx hZ hby hml hown hret hlk eT N (by omega) (by omega) v (hv.trans (if_pos hB21_10)) hQ
  · refine own_step (fun t k => XS.icmpNo X.here hx rfl (hb hby d2_21) rfl (feq hB21_10).1 k) ?_
    exact b2_24 i0 hw X hx hZ hby hml hown hret hlk eT N (by omega) (by omega) v (hv.trans (if_neg hB21_10)) hQ
def f2_12 (i0 : Int32) : Int32 := if i0 = (50 : Int32) then f2_60 i0 else f2_18 i0
set_option maxRecDepth 65536 in
set_option maxHeartbeats 40000000 in
theorem b2_12 {p : Program} {l : Launch} {e : Env} {s : State} {m : MethodId} {args : Array Value} {below : List Frame} {meth : Method} {c : Code} {T : State} {locs : List Loc} {cells slots : Nat} {Z : State} {a0 : Array Value} {h : Heap} {n0 : Nat} {Q : Option Value → Heap → List Loc → Prop} (i0 : Int32) (hw : ∀ d ∈ tables_1, d.before a0 Z = true) (X : Stand p l e ({ frames := 0, cells := 0, slots := 0, locals := 0 } : Room) s m args below meth c T locs cells slots) (hx : p.tables.exec = Jvm.exec) (hZ : Z.Warmed39 s.vm) (hby : c.code = method_2_code) (hml : c.maxLocals = 1) (hown : s.vm.findClass "com/example/waymark/waymark/util/AsciiIsDigitPinLaw" = some m.cls) (hret : meth.sig.returnType = some .boolean) (hlk : meth.locks = false) (eT : T.heap = h) (N : Fr n0 locs) (hc : cells ≤ 0) (hs : slots ≤ 0) (v : Int32) (hv : v = f2_12 i0) (hQ : ∀ L', Fr n0 L' → Q (some (.int v)) h L') :
    own_Fin p e below s Q 0 0 (T.setTop (mkF m 12 #[.val (.int i0)] [])) := by
  refine own_step (fun t k => XS.iloadN X.here hx rfl (hb hby d2_12) rfl  k) ?_
  show own_Fin p e below s Q 0 0 (T.setTop (mkF m 13 #[.val (.int i0)] [(.int i0)]))
  refine own_step (fun t k => XS.bipush X.here hx rfl (hb hby d2_13) k) ?_
  show own_Fin p e below s Q 0 0 (T.setTop (mkF m 15 #[.val (.int i0)] [(.int (50 : Int32)), (.int i0)]))
  by_cases hB15_7 : i0 = (50 : Int32)
  · refine own_step (fun t k => XS.icmpYes X.here hx rfl (pc0 := 15) (pc' := 60) rfl (hb hby d2_15) rfl (teq hB15_7).1 (by decide) (by decide) k) ?_
    exact b2_60 i0 hw X hx hZ hby hml hown hret hlk eT N (by omega) (by omega) v (hv.trans (if_pos hB15_7)) hQ
  · refine own_step (fun t k => XS.icmpNo X.here hx rfl (hb hby d2_15) rfl (feq hB15_7).1 k) ?_
    exact b2_18 i0 hw X hx hZ hby hml hown hret hlk eT N (by omega) (by omega) v (hv.trans (if_neg hB15_7)) hQ
def f2_6 (i0 : Int32) : Int32 := if i0 = (49 : Int32) then f2_60 i0 else f2_12 i0
set_option maxRecDepth 65536 in
set_option maxHeartbeats 40000000 in
theorem b2_6 {p : Program} {l : Launch} {e : Env} {s : State} {m : MethodId} {args : Array Value} {below : List Frame} {meth : Method} {c : Code} {T : State} {locs : List Loc} {cells slots : Nat} {Z : State} {a0 : Array Value} {h : Heap} {n0 : Nat} {Q : Option Value → Heap → List Loc → Prop} (i0 : Int32) (hw : ∀ d ∈ tables_1, d.before a0 Z = true) (X : Stand p l e ({ frames := 0, cells := 0, slots := 0, locals := 0 } : Room) s m args below meth c T locs cells slots) (hx : p.tables.exec = Jvm.exec) (hZ : Z.Warmed39 s.vm) (hby : c.code = method_2_code) (hml : c.maxLocals = 1) (hown : s.vm.findClass "com/example/waymark/waymark/util/AsciiIsDigitPinLaw" = some m.cls) (hret : meth.sig.returnType = some .boolean) (hlk : meth.locks = false) (eT : T.heap = h) (N : Fr n0 locs) (hc : cells ≤ 0) (hs : slots ≤ 0) (v : Int32) (hv : v = f2_6 i0) (hQ : ∀ L', Fr n0 L' → Q (some (.int v)) h L') :
    own_Fin p e below s Q 0 0 (T.setTop (mkF m 6 #[.val (.int i0)] [])) := by
  refine own_step (fun t k => XS.iloadN X.here hx rfl (hb hby d2_6) rfl  k) ?_
  show own_Fin p e below s Q 0 0 (T.setTop (mkF m 7 #[.val (.int i0)] [(.int i0)]))
  refine own_step (fun t k => XS.bipush X.here hx rfl (hb hby d2_7) k) ?_
  show own_Fin p e below s Q 0 0 (T.setTop (mkF m 9 #[.val (.int i0)] [(.int (49 : Int32)), (.int i0)]))
  by_cases hB9_4 : i0 = (49 : Int32)
  · refine own_step (fun t k => XS.icmpYes X.here hx rfl (pc0 := 9) (pc' := 60) rfl (hb hby d2_9) rfl (teq hB9_4).1 (by decide) (by decide) k) ?_
    exact b2_60 i0 hw X hx hZ hby hml hown hret hlk eT N (by omega) (by omega) v (hv.trans (if_pos hB9_4)) hQ
  · refine own_step (fun t k => XS.icmpNo X.here hx rfl (hb hby d2_9) rfl (feq hB9_4).1 k) ?_
    exact b2_12 i0 hw X hx hZ hby hml hown hret hlk eT N (by omega) (by omega) v (hv.trans (if_neg hB9_4)) hQ
def f2_0 (i0 : Int32) : Int32 := if i0 = (48 : Int32) then f2_60 i0 else f2_6 i0
set_option maxRecDepth 65536 in
set_option maxHeartbeats 40000000 in
theorem b2_0 {p : Program} {l : Launch} {e : Env} {s : State} {m : MethodId} {args : Array Value} {below : List Frame} {meth : Method} {c : Code} {T : State} {locs : List Loc} {cells slots : Nat} {Z : State} {a0 : Array Value} {h : Heap} {n0 : Nat} {Q : Option Value → Heap → List Loc → Prop} (i0 : Int32) (hw : ∀ d ∈ tables_1, d.before a0 Z = true) (X : Stand p l e ({ frames := 0, cells := 0, slots := 0, locals := 0 } : Room) s m args below meth c T locs cells slots) (hx : p.tables.exec = Jvm.exec) (hZ : Z.Warmed39 s.vm) (hby : c.code = method_2_code) (hml : c.maxLocals = 1) (hown : s.vm.findClass "com/example/waymark/waymark/util/AsciiIsDigitPinLaw" = some m.cls) (hret : meth.sig.returnType = some .boolean) (hlk : meth.locks = false) (eT : T.heap = h) (N : Fr n0 locs) (hc : cells ≤ 0) (hs : slots ≤ 0) (v : Int32) (hv : v = f2_0 i0) (hQ : ∀ L', Fr n0 L' → Q (some (.int v)) h L') :
    own_Fin p e below s Q 0 0 (T.setTop (mkF m 0 #[.val (.int i0)] [])) := by
  refine own_step (fun t k => XS.iloadN X.here hx rfl (hb hby d2_0) rfl  k) ?_
  show own_Fin p e below s Q 0 0 (T.setTop (mkF m 1 #[.val (.int i0)] [(.int i0)]))
  refine own_step (fun t k => XS.bipush X.here hx rfl (hb hby d2_1) k) ?_
  show own_Fin p e below s Q 0 0 (T.setTop (mkF m 3 #[.val (.int i0)] [(.int (48 : Int32)), (.int i0)]))
  by_cases hB3_1 : i0 = (48 : Int32)
  · refine own_step (fun t k => XS.icmpYes X.here hx rfl (pc0 := 3) (pc' := 60) rfl (hb hby d2_3) rfl (teq hB3_1).1 (by decide) (by decide) k) ?_
    exact b2_60 i0 hw X hx hZ hby hml hown hret hlk eT N (by omega) (by omega) v (hv.trans (if_pos hB3_1)) hQ
  · refine own_step (fun t k => XS.icmpNo X.here hx rfl (hb hby d2_3) rfl (feq hB3_1).1 k) ?_
    exact b2_6 i0 hw X hx hZ hby hml hown hret hlk eT N (by omega) (by omega) v (hv.trans (if_neg hB3_1)) hQ
theorem pnm_0 : plainName "com/example/waymark/waymark/util/AsciiIsDigitPinLaw" = true := by first | (simp [plainName, overriddenIn]; done) | decide +kernel
theorem pdm_0 : parseMethodDescriptor "(I)Z" = some ⟨[.int], some .boolean⟩ := by decide +kernel
theorem ef_2 (m : MethodId) (i0 : Int32) : entryFrame m #[(.int i0)] 1 = (mkF m 0 #[.val (.int i0)] []) := by first | (simp [entryFrame, mkF, argsToLocals, Value.category]; done) | rfl
def Q2 (i0 : Int32) (h0 : Heap) (n0 : Nat) (v : Option Value) (h : Heap) (L : List Loc) : Prop := v = some (.int (f2_0 i0)) ∧ Fr n0 L ∧ h = h0
set_option maxRecDepth 65536 in
set_option maxHeartbeats 4000000 in
theorem rm2 (l : Launch) (Z : State) (a0 : Array Value) (hw : ∀ d ∈ tables_1, d.before a0 Z = true) (ws : List Jvm.Cond) (i0 : Int32) (h0 : Heap) (n0 : Nat) :
    MetFree l (⟨"com/example/waymark/waymark/util/AsciiIsDigitPinLaw", "ref", "(I)Z"⟩ : MethodName) (head1 (Jvm.Cond.code (⟨"com/example/waymark/waymark/util/AsciiIsDigitPinLaw", "ref", "(I)Z"⟩ : MethodName) method_2_code 1 (some .boolean) :: ws) ({ frames := 0, cells := 0, slots := 0, locals := 0 } : Room)) (fun a U => a = #[(.int i0)] ∧ Z.Warmed39 U.vm ∧ U.heap = h0) (fun _ _ _ _ _ => True) (fun _ U o U' => ∃ v L, o = .returned v ∧ Q2 i0 h0 n0 v U'.heap L ∧ FrameEnd U o U' L ({ frames := 0, cells := 0, slots := 0, locals := 0 } : Room).cells ({ frames := 0, cells := 0, slots := 0, locals := 0 } : Room).slots) := by
  refine MetFree.of_bodySF (plainFor_of_name pnm_0) hisR ?_
  intro p e s m args below meth c s₁ Bd hml0 hP hK
  obtain ⟨rfl, hZ, hh⟩ := hP
  have hx := Bd.exec
  have hby := Bd.bytes
  have hml : c.maxLocals = 1 := hml0
  have hown : s.vm.findClass "com/example/waymark/waymark/util/AsciiIsDigitPinLaw" = some m.cls := findClass_of_methodNamed Bd.named
  have X0 : Stand p l e ({ frames := 0, cells := 0, slots := 0, locals := 0 } : Room) s m #[(.int i0)] below meth c s₁ [] 0 0 := Stand.of_body Bd
  have e0 : s₁.heap = h0 := by rw [← hh, Bd.state]; rfl
  have fin := b2_0 i0 (Q := Q2 i0 h0 n0) hw X0 hx hZ hby hml hown Bd.returns (BodyLoose.notSynchronized Bd) e0 (Fr.nil n0) (Nat.zero_le _) (Nat.zero_le _) _ rfl (fun L' n' => ⟨rfl, n', rfl⟩)
  exact own_step (fun t k => castTop (ef_2 m i0) k) fin
theorem d1_0 : decode prog_44_method_3_code 0 = .ok (.iload_n 0, 1) := by decide +kernel
theorem d1_1 : decode prog_44_method_3_code 1 = .ok (.bipush 48, 2) := by decide +kernel
theorem d1_3 : decode prog_44_method_3_code 3 = .ok (.if_icmp .lt 13, 3) := by decide +kernel
theorem d1_6 : decode prog_44_method_3_code 6 = .ok (.iload_n 0, 1) := by decide +kernel
theorem d1_7 : decode prog_44_method_3_code 7 = .ok (.bipush 57, 2) := by decide +kernel
theorem d1_9 : decode prog_44_method_3_code 9 = .ok (.if_icmp .gt 7, 3) := by decide +kernel
theorem d1_12 : decode prog_44_method_3_code 12 = .ok (.iconst 1, 1) := by decide +kernel
theorem d1_13 : decode prog_44_method_3_code 13 = .ok (.goto 4, 3) := by decide +kernel
theorem d1_16 : decode prog_44_method_3_code 16 = .ok (.iconst 0, 1) := by decide +kernel
theorem d1_17 : decode prog_44_method_3_code 17 = .ok (.ireturn, 1) := by decide +kernel
def f1_17 (i0 : Int32) (is0 : Int32) : Int32 := (nar .boolean is0)
set_option maxRecDepth 65536 in
set_option maxHeartbeats 40000000 in
theorem b1_17 {p : Program} {l : Launch} {e : Env} {s : State} {m : MethodId} {args : Array Value} {below : List Frame} {meth : Method} {c : Code} {T : State} {locs : List Loc} {cells slots : Nat} {Z : State} {a0 : Array Value} {h : Heap} {n0 : Nat} {Q : Option Value → Heap → List Loc → Prop} (i0 : Int32) (is0 : Int32) (hw : ∀ d ∈ tables_1, d.before a0 Z = true) (X : Stand p l e ({ frames := 0, cells := 0, slots := 0, locals := 0 } : Room) s m args below meth c T locs cells slots) (hx : p.tables.exec = Jvm.exec) (hZ : Z.Warmed39 s.vm) (hby : c.code = prog_44_method_3_code) (hml : c.maxLocals = 1) (hown : s.vm.findClass "com/example/waymark/waymark/util/Ascii" = some m.cls) (hret : meth.sig.returnType = some .boolean) (hlk : meth.locks = false) (eT : T.heap = h) (N : Fr n0 locs) (hc : cells ≤ 0) (hs : slots ≤ 0) (v : Int32) (hv : v = f1_17 i0 is0) (hQ : ∀ L', Fr n0 L' → Q (some (.int v)) h L') :
    own_Fin p e below s Q 0 0 (T.setTop (mkF m 17 #[.val (.int i0)] [(.int is0)])) := by
  exact own_retN X hx hlk hret (by simp) (hb hby d1_17) (by omega) (by omega) eT N hQ (hv)
def f1_16 (i0 : Int32) : Int32 := f1_17 i0 (0 : Int32)
set_option maxRecDepth 65536 in
set_option maxHeartbeats 40000000 in
theorem b1_16 {p : Program} {l : Launch} {e : Env} {s : State} {m : MethodId} {args : Array Value} {below : List Frame} {meth : Method} {c : Code} {T : State} {locs : List Loc} {cells slots : Nat} {Z : State} {a0 : Array Value} {h : Heap} {n0 : Nat} {Q : Option Value → Heap → List Loc → Prop} (i0 : Int32) (hw : ∀ d ∈ tables_1, d.before a0 Z = true) (X : Stand p l e ({ frames := 0, cells := 0, slots := 0, locals := 0 } : Room) s m args below meth c T locs cells slots) (hx : p.tables.exec = Jvm.exec) (hZ : Z.Warmed39 s.vm) (hby : c.code = prog_44_method_3_code) (hml : c.maxLocals = 1) (hown : s.vm.findClass "com/example/waymark/waymark/util/Ascii" = some m.cls) (hret : meth.sig.returnType = some .boolean) (hlk : meth.locks = false) (eT : T.heap = h) (N : Fr n0 locs) (hc : cells ≤ 0) (hs : slots ≤ 0) (v : Int32) (hv : v = f1_16 i0) (hQ : ∀ L', Fr n0 L' → Q (some (.int v)) h L') :
    own_Fin p e below s Q 0 0 (T.setTop (mkF m 16 #[.val (.int i0)] [])) := by
  refine own_step (fun t k => XS.iconst X.here hx rfl (hb hby d1_16) k) ?_
  exact b1_17 i0 (0 : Int32) hw X hx hZ hby hml hown hret hlk eT N (by omega) (by omega) v (hv) hQ
def f1_12 (i0 : Int32) : Int32 := f1_17 i0 (1 : Int32)
set_option maxRecDepth 65536 in
set_option maxHeartbeats 40000000 in
theorem b1_12 {p : Program} {l : Launch} {e : Env} {s : State} {m : MethodId} {args : Array Value} {below : List Frame} {meth : Method} {c : Code} {T : State} {locs : List Loc} {cells slots : Nat} {Z : State} {a0 : Array Value} {h : Heap} {n0 : Nat} {Q : Option Value → Heap → List Loc → Prop} (i0 : Int32) (hw : ∀ d ∈ tables_1, d.before a0 Z = true) (X : Stand p l e ({ frames := 0, cells := 0, slots := 0, locals := 0 } : Room) s m args below meth c T locs cells slots) (hx : p.tables.exec = Jvm.exec) (hZ : Z.Warmed39 s.vm) (hby : c.code = prog_44_method_3_code) (hml : c.maxLocals = 1) (hown : s.vm.findClass "com/example/waymark/waymark/util/Ascii" = some m.cls) (hret : meth.sig.returnType = some .boolean) (hlk : meth.locks = false) (eT : T.heap = h) (N : Fr n0 locs) (hc : cells ≤ 0) (hs : slots ≤ 0) (v : Int32) (hv : v = f1_12 i0) (hQ : ∀ L', Fr n0 L' → Q (some (.int v)) h L') :
    own_Fin p e below s Q 0 0 (T.setTop (mkF m 12 #[.val (.int i0)] [])) := by
  refine own_step (fun t k => XS.iconst X.here hx rfl (hb hby d1_12) k) ?_
  show own_Fin p e below s Q 0 0 (T.setTop (mkF m 13 #[.val (.int i0)] [(.int (1 : Int32))]))
  refine own_step (fun t k => XS.goto X.here hx rfl (pc0 := 13) (pc' := 17) rfl (hb hby d1_13) (by decide) (by decide) k) ?_
  exact b1_17 i0 (1 : Int32) hw X hx hZ hby hml hown hret hlk eT N (by omega) (by omega) v (hv) hQ
def f1_6 (i0 : Int32) : Int32 := if (57 : Int32) < i0 then f1_16 i0 else f1_12 i0
set_option maxRecDepth 65536 in
set_option maxHeartbeats 40000000 in
theorem b1_6 {p : Program} {l : Launch} {e : Env} {s : State} {m : MethodId} {args : Array Value} {below : List Frame} {meth : Method} {c : Code} {T : State} {locs : List Loc} {cells slots : Nat} {Z : State} {a0 : Array Value} {h : Heap} {n0 : Nat} {Q : Option Value → Heap → List Loc → Prop} (i0 : Int32) (hw : ∀ d ∈ tables_1, d.before a0 Z = true) (X : Stand p l e ({ frames := 0, cells := 0, slots := 0, locals := 0 } : Room) s m args below meth c T locs cells slots) (hx : p.tables.exec = Jvm.exec) (hZ : Z.Warmed39 s.vm) (hby : c.code = prog_44_method_3_code) (hml : c.maxLocals = 1) (hown : s.vm.findClass "com/example/waymark/waymark/util/Ascii" = some m.cls) (hret : meth.sig.returnType = some .boolean) (hlk : meth.locks = false) (eT : T.heap = h) (N : Fr n0 locs) (hc : cells ≤ 0) (hs : slots ≤ 0) (v : Int32) (hv : v = f1_6 i0) (hQ : ∀ L', Fr n0 L' → Q (some (.int v)) h L') :
    own_Fin p e below s Q 0 0 (T.setTop (mkF m 6 #[.val (.int i0)] [])) := by
  refine own_step (fun t k => XS.iloadN X.here hx rfl (hb hby d1_6) rfl  k) ?_
  show own_Fin p e below s Q 0 0 (T.setTop (mkF m 7 #[.val (.int i0)] [(.int i0)]))
  refine own_step (fun t k => XS.bipush X.here hx rfl (hb hby d1_7) k) ?_
  show own_Fin p e below s Q 0 0 (T.setTop (mkF m 9 #[.val (.int i0)] [(.int (57 : Int32)), (.int i0)]))
  by_cases hB9_34 : (57 : Int32) < i0
  · refine own_step (fun t k => XS.icmpYes X.here hx rfl (pc0 := 9) (pc' := 16) rfl (hb hby d1_9) rfl (tlt hB9_34).2.2.1 (by decide) (by decide) k) ?_
    exact b1_16 i0 hw X hx hZ hby hml hown hret hlk eT N (by omega) (by omega) v (hv.trans (if_pos hB9_34)) hQ
  · refine own_step (fun t k => XS.icmpNo X.here hx rfl (hb hby d1_9) rfl (flt hB9_34).2.2.1 k) ?_
    exact b1_12 i0 hw X hx hZ hby hml hown hret hlk eT N (by omega) (by omega) v (hv.trans (if_neg hB9_34)) hQ
def f1_0 (i0 : Int32) : Int32 := if i0 < (48 : Int32) then f1_16 i0 else f1_6 i0
set_option maxRecDepth 65536 in
set_option maxHeartbeats 40000000 in
theorem b1_0 {p : Program} {l : Launch} {e : Env} {s : State} {m : MethodId} {args : Array Value} {below : List Frame} {meth : Method} {c : Code} {T : State} {locs : List Loc} {cells slots : Nat} {Z : State} {a0 : Array Value} {h : Heap} {n0 : Nat} {Q : Option Value → Heap → List Loc → Prop} (i0 : Int32) (hw : ∀ d ∈ tables_1, d.before a0 Z = true) (X : Stand p l e ({ frames := 0, cells := 0, slots := 0, locals := 0 } : Room) s m args below meth c T locs cells slots) (hx : p.tables.exec = Jvm.exec) (hZ : Z.Warmed39 s.vm) (hby : c.code = prog_44_method_3_code) (hml : c.maxLocals = 1) (hown : s.vm.findClass "com/example/waymark/waymark/util/Ascii" = some m.cls) (hret : meth.sig.returnType = some .boolean) (hlk : meth.locks = false) (eT : T.heap = h) (N : Fr n0 locs) (hc : cells ≤ 0) (hs : slots ≤ 0) (v : Int32) (hv : v = f1_0 i0) (hQ : ∀ L', Fr n0 L' → Q (some (.int v)) h L') :
    own_Fin p e below s Q 0 0 (T.setTop (mkF m 0 #[.val (.int i0)] [])) := by
  refine own_step (fun t k => XS.iloadN X.here hx rfl (hb hby d1_0) rfl  k) ?_
  show own_Fin p e below s Q 0 0 (T.setTop (mkF m 1 #[.val (.int i0)] [(.int i0)]))
  refine own_step (fun t k => XS.bipush X.here hx rfl (hb hby d1_1) k) ?_
  show own_Fin p e below s Q 0 0 (T.setTop (mkF m 3 #[.val (.int i0)] [(.int (48 : Int32)), (.int i0)]))
  by_cases hB3_31 : i0 < (48 : Int32)
  · refine own_step (fun t k => XS.icmpYes X.here hx rfl (pc0 := 3) (pc' := 16) rfl (hb hby d1_3) rfl (tlt hB3_31).1 (by decide) (by decide) k) ?_
    exact b1_16 i0 hw X hx hZ hby hml hown hret hlk eT N (by omega) (by omega) v (hv.trans (if_pos hB3_31)) hQ
  · refine own_step (fun t k => XS.icmpNo X.here hx rfl (hb hby d1_3) rfl (flt hB3_31).1 k) ?_
    exact b1_6 i0 hw X hx hZ hby hml hown hret hlk eT N (by omega) (by omega) v (hv.trans (if_neg hB3_31)) hQ
theorem pnm_1 : plainName "com/example/waymark/waymark/util/Ascii" = true := by first | (simp [plainName, overriddenIn]; done) | decide +kernel
theorem ef_1 (m : MethodId) (i0 : Int32) : entryFrame m #[(.int i0)] 1 = (mkF m 0 #[.val (.int i0)] []) := by first | (simp [entryFrame, mkF, argsToLocals, Value.category]; done) | rfl
def Q1 (i0 : Int32) (h0 : Heap) (n0 : Nat) (v : Option Value) (h : Heap) (L : List Loc) : Prop := v = some (.int (f1_0 i0)) ∧ Fr n0 L ∧ h = h0
set_option maxRecDepth 65536 in
set_option maxHeartbeats 4000000 in
theorem rm1 (l : Launch) (Z : State) (a0 : Array Value) (hw : ∀ d ∈ tables_1, d.before a0 Z = true) (ws : List Jvm.Cond) (i0 : Int32) (h0 : Heap) (n0 : Nat) :
    MetFree l (⟨"com/example/waymark/waymark/util/Ascii", "isDigit", "(I)Z"⟩ : MethodName) (head1 (Jvm.Cond.code (⟨"com/example/waymark/waymark/util/Ascii", "isDigit", "(I)Z"⟩ : MethodName) prog_44_method_3_code 1 (some .boolean) :: ws) ({ frames := 0, cells := 0, slots := 0, locals := 0 } : Room)) (fun a U => a = #[(.int i0)] ∧ Z.Warmed39 U.vm ∧ U.heap = h0) (fun _ _ _ _ _ => True) (fun _ U o U' => ∃ v L, o = .returned v ∧ Q1 i0 h0 n0 v U'.heap L ∧ FrameEnd U o U' L ({ frames := 0, cells := 0, slots := 0, locals := 0 } : Room).cells ({ frames := 0, cells := 0, slots := 0, locals := 0 } : Room).slots) := by
  refine MetFree.of_bodySF (plainFor_of_name pnm_1) hisR ?_
  intro p e s m args below meth c s₁ Bd hml0 hP hK
  obtain ⟨rfl, hZ, hh⟩ := hP
  have hx := Bd.exec
  have hby := Bd.bytes
  have hml : c.maxLocals = 1 := hml0
  have hown : s.vm.findClass "com/example/waymark/waymark/util/Ascii" = some m.cls := findClass_of_methodNamed Bd.named
  have X0 : Stand p l e ({ frames := 0, cells := 0, slots := 0, locals := 0 } : Room) s m #[(.int i0)] below meth c s₁ [] 0 0 := Stand.of_body Bd
  have e0 : s₁.heap = h0 := by rw [← hh, Bd.state]; rfl
  have fin := b1_0 i0 (Q := Q1 i0 h0 n0) hw X0 hx hZ hby hml hown Bd.returns (BodyLoose.notSynchronized Bd) e0 (Fr.nil n0) (Nat.zero_le _) (Nat.zero_le _) _ rfl (fun L' n' => ⟨rfl, n', rfl⟩)
  exact own_step (fun t k => castTop (ef_1 m i0) k) fin
def f0_35 (i0 : Int32) (i1 : Int32) (i2 : Int32) (is0 : Int32) : Int32 := (nar .boolean is0)
set_option maxRecDepth 65536 in
set_option maxHeartbeats 40000000 in
theorem b0_35 {p : Program} {l : Launch} {e : Env} {s : State} {m : MethodId} {args : Array Value} {below : List Frame} {meth : Method} {c : Code} {T : State} {locs : List Loc} {cells slots : Nat} {Z : State} {a0 : Array Value} {h : Heap} {n0 : Nat} {Q : Option Value → Heap → List Loc → Prop} (i0 : Int32) (i1 : Int32) (i2 : Int32) (is0 : Int32) (hw : ∀ d ∈ tables_1, d.before a0 Z = true) (X : Stand p l e room_1 s m args below meth c T locs cells slots) (hx : p.tables.exec = Jvm.exec) (hZ : Z.Warmed39 s.vm) (hby : c.code = code) (hml : c.maxLocals = 3) (hown : s.vm.findClass "com/example/waymark/waymark/util/AsciiIsDigitPinLaw" = some m.cls) (hret : meth.sig.returnType = some .boolean) (hlk : meth.locks = false) (eT : T.heap = h) (N : Fr n0 locs) (hc : cells ≤ 0) (hs : slots ≤ 0) (v : Int32) (hv : v = f0_35 i0 i1 i2 is0) (hQ : ∀ L', Fr n0 L' → Q (some (.int v)) h L') :
    own_Fin p e below s Q 0 0 (T.setTop (mkF m 35 #[.val (.int i0), .val (.int i1), .val (.int i2)] [(.int is0)])) := by
  exact own_retN X hx hlk hret (by simp) (hb hby at_35) (by omega) (by omega) eT N hQ (hv)
def f0_30 (i0 : Int32) (i1 : Int32) (i2 : Int32) : Int32 := f0_35 i0 i1 i2 (1 : Int32)
set_option maxRecDepth 65536 in
set_option maxHeartbeats 40000000 in
theorem b0_30 {p : Program} {l : Launch} {e : Env} {s : State} {m : MethodId} {args : Array Value} {below : List Frame} {meth : Method} {c : Code} {T : State} {locs : List Loc} {cells slots : Nat} {Z : State} {a0 : Array Value} {h : Heap} {n0 : Nat} {Q : Option Value → Heap → List Loc → Prop} (i0 : Int32) (i1 : Int32) (i2 : Int32) (hw : ∀ d ∈ tables_1, d.before a0 Z = true) (X : Stand p l e room_1 s m args below meth c T locs cells slots) (hx : p.tables.exec = Jvm.exec) (hZ : Z.Warmed39 s.vm) (hby : c.code = code) (hml : c.maxLocals = 3) (hown : s.vm.findClass "com/example/waymark/waymark/util/AsciiIsDigitPinLaw" = some m.cls) (hret : meth.sig.returnType = some .boolean) (hlk : meth.locks = false) (eT : T.heap = h) (N : Fr n0 locs) (hc : cells ≤ 0) (hs : slots ≤ 0) (v : Int32) (hv : v = f0_30 i0 i1 i2) (hQ : ∀ L', Fr n0 L' → Q (some (.int v)) h L') :
    own_Fin p e below s Q 0 0 (T.setTop (mkF m 30 #[.val (.int i0), .val (.int i1), .val (.int i2)] [])) := by
  refine own_step (fun t k => XS.iconst X.here hx rfl (hb hby at_30) k) ?_
  show own_Fin p e below s Q 0 0 (T.setTop (mkF m 31 #[.val (.int i0), .val (.int i1), .val (.int i2)] [(.int (1 : Int32))]))
  refine own_step (fun t k => XS.goto X.here hx rfl (pc0 := 31) (pc' := 35) rfl (hb hby at_31) (by decide) (by decide) k) ?_
  exact b0_35 i0 i1 i2 (1 : Int32) hw X hx hZ hby hml hown hret hlk eT N (by omega) (by omega) v (hv) hQ
def f0_34 (i0 : Int32) (i1 : Int32) (i2 : Int32) : Int32 := f0_35 i0 i1 i2 (0 : Int32)
set_option maxRecDepth 65536 in
set_option maxHeartbeats 40000000 in
theorem b0_34 {p : Program} {l : Launch} {e : Env} {s : State} {m : MethodId} {args : Array Value} {below : List Frame} {meth : Method} {c : Code} {T : State} {locs : List Loc} {cells slots : Nat} {Z : State} {a0 : Array Value} {h : Heap} {n0 : Nat} {Q : Option Value → Heap → List Loc → Prop} (i0 : Int32) (i1 : Int32) (i2 : Int32) (hw : ∀ d ∈ tables_1, d.before a0 Z = true) (X : Stand p l e room_1 s m args below meth c T locs cells slots) (hx : p.tables.exec = Jvm.exec) (hZ : Z.Warmed39 s.vm) (hby : c.code = code) (hml : c.maxLocals = 3) (hown : s.vm.findClass "com/example/waymark/waymark/util/AsciiIsDigitPinLaw" = some m.cls) (hret : meth.sig.returnType = some .boolean) (hlk : meth.locks = false) (eT : T.heap = h) (N : Fr n0 locs) (hc : cells ≤ 0) (hs : slots ≤ 0) (v : Int32) (hv : v = f0_34 i0 i1 i2) (hQ : ∀ L', Fr n0 L' → Q (some (.int v)) h L') :
    own_Fin p e below s Q 0 0 (T.setTop (mkF m 34 #[.val (.int i0), .val (.int i1), .val (.int i2)] [])) := by
  refine own_step (fun t k => XS.iconst X.here hx rfl (hb hby at_34) k) ?_
  exact b0_35 i0 i1 i2 (0 : Int32) hw X hx hZ hby hml hown hret hlk eT N (by omega) (by omega) v (hv) hQ
def f0_19 (i0 : Int32) (i1 : Int32) (i2 : Int32) : Int32 := if (f1_0 i2) = (f2_0 i2) then f0_30 i0 i1 i2 else f0_34 i0 i1 i2
set_option maxRecDepth 65536 in
set_option maxHeartbeats 40000000 in
theorem b0_19 {p : Program} {l : Launch} {e : Env} {s : State} {m : MethodId} {args : Array Value} {below : List Frame} {meth : Method} {c : Code} {T : State} {locs : List Loc} {cells slots : Nat} {Z : State} {a0 : Array Value} {h : Heap} {n0 : Nat} {Q : Option Value → Heap → List Loc → Prop} (i0 : Int32) (i1 : Int32) (i2 : Int32) (hw : ∀ d ∈ tables_1, d.before a0 Z = true) (X : Stand p l e room_1 s m args below meth c T locs cells slots) (hx : p.tables.exec = Jvm.exec) (hZ : Z.Warmed39 s.vm) (hby : c.code = code) (hml : c.maxLocals = 3) (hown : s.vm.findClass "com/example/waymark/waymark/util/AsciiIsDigitPinLaw" = some m.cls) (hret : meth.sig.returnType = some .boolean) (hlk : meth.locks = false) (eT : T.heap = h) (N : Fr n0 locs) (hc : cells ≤ 0) (hs : slots ≤ 0) (v : Int32) (hv : v = f0_19 i0 i1 i2) (hQ : ∀ L', Fr n0 L' → Q (some (.int v)) h L') :
    own_Fin p e below s Q 0 0 (T.setTop (mkF m 19 #[.val (.int i0), .val (.int i1), .val (.int i2)] [])) := by
  refine own_step (fun t k => XS.iloadN X.here hx rfl (hb hby at_19) rfl  k) ?_
  show own_Fin p e below s Q 0 0 (T.setTop (mkF m 20 #[.val (.int i0), .val (.int i1), .val (.int i2)] [(.int i2)]))
  obtain ⟨_, _, ⟨T41, L41, k41, n41⟩, -, X41, ⟨Lc41, hQ41, l41, y41, z41⟩, st41⟩ := Jvm.LawKit.callS X hx (y := (⟨"com/example/waymark/waymark/util/Ascii", "isDigit", "(I)Z"⟩ : MethodName)) hown (mvT hZ (hw _ (List.mem_of_getElem? (i := 0) rfl))) (mvT hZ (hw _ (List.mem_of_getElem? (i := 1) rfl))) (mvT hZ (hw _ (List.mem_of_getElem? (i := 2) rfl))) (mvT hZ (hw _ (List.mem_of_getElem? (i := 3) rfl))) (by decide) (backOf (W := 0) (rm1 l Z a0 hw [] i2 h n0) hZ (hw _ (List.mem_of_getElem? (i := 3) rfl)) (hw _ (List.mem_of_getElem? (i := 2) rfl)) (by decide) (by decide)) (g := (mkF m 20 #[.val (.int i0), .val (.int i1), .val (.int i2)] [(.int i2)])) rfl (by rw [hml]; rfl) (argsL := [(.int i2)]) (rest := []) (lenOf pdm_0 rfl) rfl (by show 2 * 0 + _ ≤ _; exact Nat.le_of_eq rfl) (hb hby at_20) (fun _ _ => ⟨rfl, eT, (by show (_ : Nat) ≤ 0; omega), (by show (_ : Nat) ≤ 0; omega)⟩)
  dsimp only [Pt.U, Pt.locs, Pt.cells, Pt.slots] at X41 l41 y41 z41 st41 hQ41
  subst l41 y41 z41
  obtain ⟨rfl, N41q, e41⟩ := hQ41
  have N41 := Fr.app N N41q
  refine own_step st41 ?_
  show own_Fin p e below s Q 0 0 (T41.setTop (mkF m 23 #[.val (.int i0), .val (.int i1), .val (.int i2)] [(.int (f1_0 i2))]))
  refine own_step (fun t k => XS.iloadN X41.here hx rfl (hb hby at_23) rfl  k) ?_
  show own_Fin p e below s Q 0 0 (T41.setTop (mkF m 24 #[.val (.int i0), .val (.int i1), .val (.int i2)] [(.int i2), (.int (f1_0 i2))]))
  obtain ⟨_, _, ⟨T42, L42, k42, n42⟩, -, X42, ⟨Lc42, hQ42, l42, y42, z42⟩, st42⟩ := Jvm.LawKit.callS X41 hx (y := (⟨"com/example/waymark/waymark/util/AsciiIsDigitPinLaw", "ref", "(I)Z"⟩ : MethodName)) hown (mvT hZ (hw _ (List.mem_of_getElem? (i := 4) rfl))) (mvT hZ (hw _ (List.mem_of_getElem? (i := 5) rfl))) (mvT hZ (hw _ (List.mem_of_getElem? (i := 6) rfl))) (mvT hZ (hw _ (List.mem_of_getElem? (i := 7) rfl))) (by decide) (backOf (W := 1) (rm2 l Z a0 hw [] i2 h n0) hZ (hw _ (List.mem_of_getElem? (i := 7) rfl)) (hw _ (List.mem_of_getElem? (i := 6) rfl)) (by decide) (by decide)) (g := (mkF m 24 #[.val (.int i0), .val (.int i1), .val (.int i2)] [(.int i2), (.int (f1_0 i2))])) rfl (by rw [hml]; rfl) (argsL := [(.int i2)]) (rest := [(.int (f1_0 i2))]) (lenOf pdm_0 rfl) rfl (by show 2 * 0 + _ ≤ _; exact Nat.le_of_eq rfl) (hb hby at_24) (fun _ _ => ⟨rfl, e41, (by show (_ : Nat) ≤ 0; omega), (by show (_ : Nat) ≤ 0; omega)⟩)
  dsimp only [Pt.U, Pt.locs, Pt.cells, Pt.slots] at X42 l42 y42 z42 st42 hQ42
  subst l42 y42 z42
  obtain ⟨rfl, N42q, e42⟩ := hQ42
  have N42 := Fr.app N41 N42q
  refine own_step st42 ?_
  show own_Fin p e below s Q 0 0 (T42.setTop (mkF m 27 #[.val (.int i0), .val (.int i1), .val (.int i2)] [(.int (f2_0 i2)), (.int (f1_0 i2))]))
  by_cases hB27_43 : (f1_0 i2) = (f2_0 i2)
  · refine own_step (fun t k => XS.icmpNo X42.here hx rfl (hb hby at_27) rfl (teq hB27_43).2 k) ?_
    exact b0_30 i0 i1 i2 hw X42 hx hZ hby hml hown hret hlk e42 N42 (by omega) (by omega) v (hv.trans (if_pos hB27_43)) hQ
  · refine own_step (fun t k => XS.icmpYes X42.here hx rfl (pc0 := 27) (pc' := 34) rfl (hb hby at_27) rfl (feq hB27_43).2 (by decide) (by decide) k) ?_
    exact b0_34 i0 i1 i2 hw X42 hx hZ hby hml hown hret hlk e42 N42 (by omega) (by omega) v (hv.trans (if_neg hB27_43)) hQ
def f0_0 (i0 : Int32) (i1 : Int32) : Int32 := if (f1_0 i0) = (f2_0 i0) then f0_19 i0 i1 ((44 : Int32) + (i1 &&& (15 : Int32))) else f0_34 i0 i1 ((44 : Int32) + (i1 &&& (15 : Int32)))
set_option maxRecDepth 65536 in
set_option maxHeartbeats 40000000 in
theorem b0_0 {p : Program} {l : Launch} {e : Env} {s : State} {m : MethodId} {args : Array Value} {below : List Frame} {meth : Method} {c : Code} {T : State} {locs : List Loc} {cells slots : Nat} {Z : State} {a0 : Array Value} {h : Heap} {n0 : Nat} {Q : Option Value → Heap → List Loc → Prop} (i0 : Int32) (i1 : Int32) (hw : ∀ d ∈ tables_1, d.before a0 Z = true) (X : Stand p l e room_1 s m args below meth c T locs cells slots) (hx : p.tables.exec = Jvm.exec) (hZ : Z.Warmed39 s.vm) (hby : c.code = code) (hml : c.maxLocals = 3) (hown : s.vm.findClass "com/example/waymark/waymark/util/AsciiIsDigitPinLaw" = some m.cls) (hret : meth.sig.returnType = some .boolean) (hlk : meth.locks = false) (eT : T.heap = h) (N : Fr n0 locs) (hc : cells ≤ 0) (hs : slots ≤ 0) (v : Int32) (hv : v = f0_0 i0 i1) (hQ : ∀ L', Fr n0 L' → Q (some (.int v)) h L') :
    own_Fin p e below s Q 0 0 (T.setTop (mkF m 0 #[.val (.int i0), .val (.int i1), .unset] [])) := by
  refine own_step (fun t k => XS.bipush X.here hx rfl (hb hby at_0) k) ?_
  show own_Fin p e below s Q 0 0 (T.setTop (mkF m 2 #[.val (.int i0), .val (.int i1), .unset] [(.int (44 : Int32))]))
  refine own_step (fun t k => XS.iloadN X.here hx rfl (hb hby at_2) rfl  k) ?_
  show own_Fin p e below s Q 0 0 (T.setTop (mkF m 3 #[.val (.int i0), .val (.int i1), .unset] [(.int i1), (.int (44 : Int32))]))
  refine own_step (fun t k => XS.bipush X.here hx rfl (hb hby at_3) k) ?_
  show own_Fin p e below s Q 0 0 (T.setTop (mkF m 5 #[.val (.int i0), .val (.int i1), .unset] [(.int (15 : Int32)), (.int i1), (.int (44 : Int32))]))
  refine own_step (fun t k => XS.iand X.here hx rfl (hb hby at_5) rfl k) ?_
  show own_Fin p e below s Q 0 0 (T.setTop (mkF m 6 #[.val (.int i0), .val (.int i1), .unset] [(.int (i1 &&& (15 : Int32))), (.int (44 : Int32))]))
  refine own_step (fun t k => XS.iadd X.here hx rfl (hb hby at_6) rfl k) ?_
  show own_Fin p e below s Q 0 0 (T.setTop (mkF m 7 #[.val (.int i0), .val (.int i1), .unset] [(.int ((44 : Int32) + (i1 &&& (15 : Int32))))]))
  refine own_step (fun t k => XS.istoreN X.here hx rfl (hb hby at_7) rfl (l' := #[.val (.int i0), .val (.int i1), .val (.int ((44 : Int32) + (i1 &&& (15 : Int32))))]) rfl k) ?_
  show own_Fin p e below s Q 0 0 (T.setTop (mkF m 8 #[.val (.int i0), .val (.int i1), .val (.int ((44 : Int32) + (i1 &&& (15 : Int32))))] []))
  refine own_step (fun t k => XS.iloadN X.here hx rfl (hb hby at_8) rfl  k) ?_
  show own_Fin p e below s Q 0 0 (T.setTop (mkF m 9 #[.val (.int i0), .val (.int i1), .val (.int ((44 : Int32) + (i1 &&& (15 : Int32))))] [(.int i0)]))
  obtain ⟨_, _, ⟨T37, L37, k37, n37⟩, -, X37, ⟨Lc37, hQ37, l37, y37, z37⟩, st37⟩ := Jvm.LawKit.callS X hx (y := (⟨"com/example/waymark/waymark/util/Ascii", "isDigit", "(I)Z"⟩ : MethodName)) hown (mvT hZ (hw _ (List.mem_of_getElem? (i := 0) rfl))) (mvT hZ (hw _ (List.mem_of_getElem? (i := 1) rfl))) (mvT hZ (hw _ (List.mem_of_getElem? (i := 2) rfl))) (mvT hZ (hw _ (List.mem_of_getElem? (i := 3) rfl))) (by decide) (backOf (W := 0) (rm1 l Z a0 hw [] i0 h n0) hZ (hw _ (List.mem_of_getElem? (i := 3) rfl)) (hw _ (List.mem_of_getElem? (i := 2) rfl)) (by decide) (by decide)) (g := (mkF m 9 #[.val (.int i0), .val (.int i1), .val (.int ((44 : Int32) + (i1 &&& (15 : Int32))))] [(.int i0)])) rfl (by rw [hml]; rfl) (argsL := [(.int i0)]) (rest := []) (lenOf pdm_0 rfl) rfl (by show 2 * 0 + _ ≤ _; exact Nat.le_of_eq rfl) (hb hby at_9) (fun _ _ => ⟨rfl, eT, (by show (_ : Nat) ≤ 0; omega), (by show (_ : Nat) ≤ 0; omega)⟩)
  dsimp only [Pt.U, Pt.locs, Pt.cells, Pt.slots] at X37 l37 y37 z37 st37 hQ37
  subst l37 y37 z37
  obtain ⟨rfl, N37q, e37⟩ := hQ37
  have N37 := Fr.app N N37q
  refine own_step st37 ?_
  show own_Fin p e below s Q 0 0 (T37.setTop (mkF m 12 #[.val (.int i0), .val (.int i1), .val (.int ((44 : Int32) + (i1 &&& (15 : Int32))))] [(.int (f1_0 i0))]))
  refine own_step (fun t k => XS.iloadN X37.here hx rfl (hb hby at_12) rfl  k) ?_
  show own_Fin p e below s Q 0 0 (T37.setTop (mkF m 13 #[.val (.int i0), .val (.int i1), .val (.int ((44 : Int32) + (i1 &&& (15 : Int32))))] [(.int i0), (.int (f1_0 i0))]))
  obtain ⟨_, _, ⟨T38, L38, k38, n38⟩, -, X38, ⟨Lc38, hQ38, l38, y38, z38⟩, st38⟩ := Jvm.LawKit.callS X37 hx (y := (⟨"com/example/waymark/waymark/util/AsciiIsDigitPinLaw", "ref", "(I)Z"⟩ : MethodName)) hown (mvT hZ (hw _ (List.mem_of_getElem? (i := 4) rfl))) (mvT hZ (hw _ (List.mem_of_getElem? (i := 5) rfl))) (mvT hZ (hw _ (List.mem_of_getElem? (i := 6) rfl))) (mvT hZ (hw _ (List.mem_of_getElem? (i := 7) rfl))) (by decide) (backOf (W := 1) (rm2 l Z a0 hw [] i0 h n0) hZ (hw _ (List.mem_of_getElem? (i := 7) rfl)) (hw _ (List.mem_of_getElem? (i := 6) rfl)) (by decide) (by decide)) (g := (mkF m 13 #[.val (.int i0), .val (.int i1), .val (.int ((44 : Int32) + (i1 &&& (15 : Int32))))] [(.int i0), (.int (f1_0 i0))])) rfl (by rw [hml]; rfl) (argsL := [(.int i0)]) (rest := [(.int (f1_0 i0))]) (lenOf pdm_0 rfl) rfl (by show 2 * 0 + _ ≤ _; exact Nat.le_of_eq rfl) (hb hby at_13) (fun _ _ => ⟨rfl, e37, (by show (_ : Nat) ≤ 0; omega), (by show (_ : Nat) ≤ 0; omega)⟩)
  dsimp only [Pt.U, Pt.locs, Pt.cells, Pt.slots] at X38 l38 y38 z38 st38 hQ38
  subst l38 y38 z38
  obtain ⟨rfl, N38q, e38⟩ := hQ38
  have N38 := Fr.app N37 N38q
  refine own_step st38 ?_
  show own_Fin p e below s Q 0 0 (T38.setTop (mkF m 16 #[.val (.int i0), .val (.int i1), .val (.int ((44 : Int32) + (i1 &&& (15 : Int32))))] [(.int (f2_0 i0)), (.int (f1_0 i0))]))
  by_cases hB16_39 : (f1_0 i0) = (f2_0 i0)
  · refine own_step (fun t k => XS.icmpNo X38.here hx rfl (hb hby at_16) rfl (teq hB16_39).2 k) ?_
    exact b0_19 i0 i1 ((44 : Int32) + (i1 &&& (15 : Int32))) hw X38 hx hZ hby hml hown hret hlk e38 N38 (by omega) (by omega) v (hv.trans (if_pos hB16_39)) hQ
  · refine own_step (fun t k => XS.icmpYes X38.here hx rfl (pc0 := 16) (pc' := 34) rfl (hb hby at_16) rfl (feq hB16_39).2 (by decide) (by decide) k) ?_
    exact b0_34 i0 i1 ((44 : Int32) + (i1 &&& (15 : Int32))) hw X38 hx hZ hby hml hown hret hlk e38 N38 (by omega) (by omega) v (hv.trans (if_neg hB16_39)) hQ
theorem pdm_1 : parseMethodDescriptor "(II)Z" = some ⟨[.int, .int], some .boolean⟩ := by decide +kernel
theorem ef_0 (m : MethodId) (i0 : Int32) (i1 : Int32) : entryFrame m #[(.int i0), (.int i1)] maxLocals = (mkF m 0 #[.val (.int i0), .val (.int i1), .unset] []) := by first | (simp [entryFrame, mkF, argsToLocals, Value.category, maxLocals]; done) | rfl
def Q0 (i0 : Int32) (i1 : Int32) (h0 : Heap) (n0 : Nat) (v : Option Value) (h : Heap) (L : List Loc) : Prop := v = some (.int (f0_0 i0 i1)) ∧ Fr n0 L ∧ h = h0
set_option maxRecDepth 65536 in
set_option maxHeartbeats 4000000 in
theorem rm0 (l : Launch) (Z : State) (a0 : Array Value) (hw : ∀ d ∈ tables_1, d.before a0 Z = true) (ws : List Jvm.Cond) (i0 : Int32) (i1 : Int32) (h0 : Heap) (n0 : Nat) :
    MetFree l x (head1 (Jvm.Cond.code x code maxLocals ret :: ws) room_1) (fun a U => a = #[(.int i0), (.int i1)] ∧ Z.Warmed39 U.vm ∧ U.heap = h0) (fun _ _ _ _ _ => True) (fun _ U o U' => ∃ v L, o = .returned v ∧ Q0 i0 i1 h0 n0 v U'.heap L ∧ FrameEnd U o U' L 0 0) := by
  refine MetFree.of_bodySF (plainFor_of_name pnm_0) hisR ?_
  intro p e s m args below meth c s₁ Bd hml0 hP hK
  obtain ⟨rfl, hZ, hh⟩ := hP
  have hx := Bd.exec
  have hby := Bd.bytes
  have hml : c.maxLocals = 3 := hml0
  have hown : s.vm.findClass "com/example/waymark/waymark/util/AsciiIsDigitPinLaw" = some m.cls := findClass_of_methodNamed Bd.named
  have X0 : Stand p l e room_1 s m #[(.int i0), (.int i1)] below meth c s₁ [] 0 0 := Stand.of_body Bd
  have e0 : s₁.heap = h0 := by rw [← hh, Bd.state]; rfl
  have fin := b0_0 i0 i1 (Q := Q0 i0 i1 h0 n0) hw X0 hx hZ hby hml hown Bd.returns (BodyLoose.notSynchronized Bd) e0 (Fr.nil n0) (Nat.zero_le _) (Nat.zero_le _) _ rfl (fun L' n' => ⟨rfl, n', rfl⟩)
  exact own_step (fun t k => castTop (ef_0 m i0 i1) k) fin
theorem own_c2_65_1 (x : Int32) : (True → f2_65 x (1 : Int32) = 1) ∧ (¬ (True) → f2_65 x (1 : Int32) = 0) := by
  exact ⟨fun d => rfl, fun d => absurd trivial d⟩
theorem own_c2_60 (x : Int32) : (True → f2_60 x = 1) ∧ (¬ (True) → f2_60 x = 0) := by
  exact own_c2_65_1 x
theorem own_c2_65_0 (x : Int32) : (False → f2_65 x (0 : Int32) = 1) ∧ (¬ (False) → f2_65 x (0 : Int32) = 0) := by
  exact ⟨fun d => False.elim d, fun d => rfl⟩
theorem own_c2_64 (x : Int32) : (False → f2_64 x = 1) ∧ (¬ (False) → f2_64 x = 0) := by
  exact own_c2_65_0 x
theorem own_c2_54 (x : Int32) : (x.toInt = 57 → f2_54 x = 1) ∧ (¬ (x.toInt = 57) → f2_54 x = 0) := by
  have hi : (x = (57 : Int32)) ↔ x.toInt = 57 := own_eqi (by decide)
  have r1 := Int32.le_toInt x
  have r2 := Int32.toInt_lt x
  by_cases hB : x = (57 : Int32)
  · have hb : x.toInt = 57 := hi.mp hB
    exact ⟨fun d => ((if_pos hB) : f2_54 x = _).trans ((own_c2_60 x).1 (by first | exact trivial | exact not_false | omega)), fun d => ((if_pos hB) : f2_54 x = _).trans ((own_c2_60 x).2 (by first | exact trivial | exact not_false | omega))⟩
  · have hb : ¬ (x.toInt = 57) := fun y => hB (hi.mpr y)
    exact ⟨fun d => ((if_neg hB) : f2_54 x = _).trans ((own_c2_64 x).1 (by first | exact trivial | exact not_false | omega)), fun d => ((if_neg hB) : f2_54 x = _).trans ((own_c2_64 x).2 (by first | exact trivial | exact not_false | omega))⟩
theorem own_c2_48 (x : Int32) : ((56 ≤ x.toInt ∧ x.toInt ≤ 57) → f2_48 x = 1) ∧ (¬ ((56 ≤ x.toInt ∧ x.toInt ≤ 57)) → f2_48 x = 0) := by
  have hi : (x = (56 : Int32)) ↔ x.toInt = 56 := own_eqi (by decide)
  have r1 := Int32.le_toInt x
  have r2 := Int32.toInt_lt x
  by_cases hB : x = (56 : Int32)
  · have hb : x.toInt = 56 := hi.mp hB
    exact ⟨fun d => ((if_pos hB) : f2_48 x = _).trans ((own_c2_60 x).1 (by first | exact trivial | exact not_false | omega)), fun d => ((if_pos hB) : f2_48 x = _).trans ((own_c2_60 x).2 (by first | exact trivial | exact not_false | omega))⟩
  · have hb : ¬ (x.toInt = 56) := fun y => hB (hi.mpr y)
    exact ⟨fun d => ((if_neg hB) : f2_48 x = _).trans ((own_c2_54 x).1 (by first | exact trivial | exact not_false | omega)), fun d => ((if_neg hB) : f2_48 x = _).trans ((own_c2_54 x).2 (by first | exact trivial | exact not_false | omega))⟩
theorem own_c2_42 (x : Int32) : ((55 ≤ x.toInt ∧ x.toInt ≤ 57) → f2_42 x = 1) ∧ (¬ ((55 ≤ x.toInt ∧ x.toInt ≤ 57)) → f2_42 x = 0) := by
  have hi : (x = (55 : Int32)) ↔ x.toInt = 55 := own_eqi (by decide)
  have r1 := Int32.le_toInt x
  have r2 := Int32.toInt_lt x
  by_cases hB : x = (55 : Int32)
  · have hb : x.toInt = 55 := hi.mp hB
    exact ⟨fun d => ((if_pos hB) : f2_42 x = _).trans ((own_c2_60 x).1 (by first | exact trivial | exact not_false | omega)), fun d => ((if_pos hB) : f2_42 x = _).trans ((own_c2_60 x).2 (by first | exact trivial | exact not_false | omega))⟩
  · have hb : ¬ (x.toInt = 55) := fun y => hB (hi.mpr y)
    exact ⟨fun d => ((if_neg hB) : f2_42 x = _).trans ((own_c2_48 x).1 (by first | exact trivial | exact not_false | omega)), fun d => ((if_neg hB) : f2_42 x = _).trans ((own_c2_48 x).2 (by first | exact trivial | exact not_false | omega))⟩
theorem own_c2_36 (x : Int32) : ((54 ≤ x.toInt ∧ x.toInt ≤ 57) → f2_36 x = 1) ∧ (¬ ((54 ≤ x.toInt ∧ x.toInt ≤ 57)) → f2_36 x = 0) := by
  have hi : (x = (54 : Int32)) ↔ x.toInt = 54 := own_eqi (by decide)
  have r1 := Int32.le_toInt x
  have r2 := Int32.toInt_lt x
  by_cases hB : x = (54 : Int32)
  · have hb : x.toInt = 54 := hi.mp hB
    exact ⟨fun d => ((if_pos hB) : f2_36 x = _).trans ((own_c2_60 x).1 (by first | exact trivial | exact not_false | omega)), fun d => ((if_pos hB) : f2_36 x = _).trans ((own_c2_60 x).2 (by first | exact trivial | exact not_false | omega))⟩
  · have hb : ¬ (x.toInt = 54) := fun y => hB (hi.mpr y)
    exact ⟨fun d => ((if_neg hB) : f2_36 x = _).trans ((own_c2_42 x).1 (by first | exact trivial | exact not_false | omega)), fun d => ((if_neg hB) : f2_36 x = _).trans ((own_c2_42 x).2 (by first | exact trivial | exact not_false | omega))⟩
theorem own_c2_30 (x : Int32) : ((53 ≤ x.toInt ∧ x.toInt ≤ 57) → f2_30 x = 1) ∧ (¬ ((53 ≤ x.toInt ∧ x.toInt ≤ 57)) → f2_30 x = 0) := by
  have hi : (x = (53 : Int32)) ↔ x.toInt = 53 := own_eqi (by decide)
  have r1 := Int32.le_toInt x
  have r2 := Int32.toInt_lt x
  by_cases hB : x = (53 : Int32)
  · have hb : x.toInt = 53 := hi.mp hB
    exact ⟨fun d => ((if_pos hB) : f2_30 x = _).trans ((own_c2_60 x).1 (by first | exact trivial | exact not_false | omega)), fun d => ((if_pos hB) : f2_30 x = _).trans ((own_c2_60 x).2 (by first | exact trivial | exact not_false | omega))⟩
  · have hb : ¬ (x.toInt = 53) := fun y => hB (hi.mpr y)
    exact ⟨fun d => ((if_neg hB) : f2_30 x = _).trans ((own_c2_36 x).1 (by first | exact trivial | exact not_false | omega)), fun d => ((if_neg hB) : f2_30 x = _).trans ((own_c2_36 x).2 (by first | exact trivial | exact not_false | omega))⟩
theorem own_c2_24 (x : Int32) : ((52 ≤ x.toInt ∧ x.toInt ≤ 57) → f2_24 x = 1) ∧ (¬ ((52 ≤ x.toInt ∧ x.toInt ≤ 57)) → f2_24 x = 0) := by
  have hi : (x = (52 : Int32)) ↔ x.toInt = 52 := own_eqi (by decide)
  have r1 := Int32.le_toInt x
  have r2 := Int32.toInt_lt x
  by_cases hB : x = (52 : Int32)
  · have hb : x.toInt = 52 := hi.mp hB
    exact ⟨fun d => ((if_pos hB) : f2_24 x = _).trans ((own_c2_60 x).1 (by first | exact trivial | exact not_false | omega)), fun d => ((if_pos hB) : f2_24 x = _).trans ((own_c2_60 x).2 (by first | exact trivial | exact not_false | omega))⟩
  · have hb : ¬ (x.toInt = 52) := fun y => hB (hi.mpr y)
    exact ⟨fun d => ((if_neg hB) : f2_24 x = _).trans ((own_c2_30 x).1 (by first | exact trivial | exact not_false | omega)), fun d => ((if_neg hB) : f2_24 x = _).trans ((own_c2_30 x).2 (by first | exact trivial | exact not_false | omega))⟩
theorem own_c2_18 (x : Int32) : ((51 ≤ x.toInt ∧ x.toInt ≤ 57) → f2_18 x = 1) ∧ (¬ ((51 ≤ x.toInt ∧ x.toInt ≤ 57)) → f2_18 x = 0) := by
  have hi : (x = (51 : Int32)) ↔ x.toInt = 51 := own_eqi (by decide)
  have r1 := Int32.le_toInt x
  have r2 := Int32.toInt_lt x
  by_cases hB : x = (51 : Int32)
  · have hb : x.toInt = 51 := hi.mp hB
    exact ⟨fun d => ((if_pos hB) : f2_18 x = _).trans ((own_c2_60 x).1 (by first | exact trivial | exact not_false | omega)), fun d => ((if_pos hB) : f2_18 x = _).trans ((own_c2_60 x).2 (by first | exact trivial | exact not_false | omega))⟩
  · have hb : ¬ (x.toInt = 51) := fun y => hB (hi.mpr y)
    exact ⟨fun d => ((if_neg hB) : f2_18 x = _).trans ((own_c2_24 x).1 (by first | exact trivial | exact not_false | omega)), fun d => ((if_neg hB) : f2_18 x = _).trans ((own_c2_24 x).2 (by first | exact trivial | exact not_false | omega))⟩
theorem own_c2_12 (x : Int32) : ((50 ≤ x.toInt ∧ x.toInt ≤ 57) → f2_12 x = 1) ∧ (¬ ((50 ≤ x.toInt ∧ x.toInt ≤ 57)) → f2_12 x = 0) := by
  have hi : (x = (50 : Int32)) ↔ x.toInt = 50 := own_eqi (by decide)
  have r1 := Int32.le_toInt x
  have r2 := Int32.toInt_lt x
  by_cases hB : x = (50 : Int32)
  · have hb : x.toInt = 50 := hi.mp hB
    exact ⟨fun d => ((if_pos hB) : f2_12 x = _).trans ((own_c2_60 x).1 (by first | exact trivial | exact not_false | omega)), fun d => ((if_pos hB) : f2_12 x = _).trans ((own_c2_60 x).2 (by first | exact trivial | exact not_false | omega))⟩
  · have hb : ¬ (x.toInt = 50) := fun y => hB (hi.mpr y)
    exact ⟨fun d => ((if_neg hB) : f2_12 x = _).trans ((own_c2_18 x).1 (by first | exact trivial | exact not_false | omega)), fun d => ((if_neg hB) : f2_12 x = _).trans ((own_c2_18 x).2 (by first | exact trivial | exact not_false | omega))⟩
theorem own_c2_6 (x : Int32) : ((49 ≤ x.toInt ∧ x.toInt ≤ 57) → f2_6 x = 1) ∧ (¬ ((49 ≤ x.toInt ∧ x.toInt ≤ 57)) → f2_6 x = 0) := by
  have hi : (x = (49 : Int32)) ↔ x.toInt = 49 := own_eqi (by decide)
  have r1 := Int32.le_toInt x
  have r2 := Int32.toInt_lt x
  by_cases hB : x = (49 : Int32)
  · have hb : x.toInt = 49 := hi.mp hB
    exact ⟨fun d => ((if_pos hB) : f2_6 x = _).trans ((own_c2_60 x).1 (by first | exact trivial | exact not_false | omega)), fun d => ((if_pos hB) : f2_6 x = _).trans ((own_c2_60 x).2 (by first | exact trivial | exact not_false | omega))⟩
  · have hb : ¬ (x.toInt = 49) := fun y => hB (hi.mpr y)
    exact ⟨fun d => ((if_neg hB) : f2_6 x = _).trans ((own_c2_12 x).1 (by first | exact trivial | exact not_false | omega)), fun d => ((if_neg hB) : f2_6 x = _).trans ((own_c2_12 x).2 (by first | exact trivial | exact not_false | omega))⟩
theorem own_c2_0 (x : Int32) : ((48 ≤ x.toInt ∧ x.toInt ≤ 57) → f2_0 x = 1) ∧ (¬ ((48 ≤ x.toInt ∧ x.toInt ≤ 57)) → f2_0 x = 0) := by
  have hi : (x = (48 : Int32)) ↔ x.toInt = 48 := own_eqi (by decide)
  have r1 := Int32.le_toInt x
  have r2 := Int32.toInt_lt x
  by_cases hB : x = (48 : Int32)
  · have hb : x.toInt = 48 := hi.mp hB
    exact ⟨fun d => ((if_pos hB) : f2_0 x = _).trans ((own_c2_60 x).1 (by first | exact trivial | exact not_false | omega)), fun d => ((if_pos hB) : f2_0 x = _).trans ((own_c2_60 x).2 (by first | exact trivial | exact not_false | omega))⟩
  · have hb : ¬ (x.toInt = 48) := fun y => hB (hi.mpr y)
    exact ⟨fun d => ((if_neg hB) : f2_0 x = _).trans ((own_c2_6 x).1 (by first | exact trivial | exact not_false | omega)), fun d => ((if_neg hB) : f2_0 x = _).trans ((own_c2_6 x).2 (by first | exact trivial | exact not_false | omega))⟩
theorem own_c1_17_0 (x : Int32) : (False → f1_17 x (0 : Int32) = 1) ∧ (¬ (False) → f1_17 x (0 : Int32) = 0) := by
  exact ⟨fun d => False.elim d, fun d => rfl⟩
theorem own_c1_16 (x : Int32) : (False → f1_16 x = 1) ∧ (¬ (False) → f1_16 x = 0) := by
  exact own_c1_17_0 x
theorem own_c1_17_1 (x : Int32) : (True → f1_17 x (1 : Int32) = 1) ∧ (¬ (True) → f1_17 x (1 : Int32) = 0) := by
  exact ⟨fun d => rfl, fun d => absurd trivial d⟩
theorem own_c1_12 (x : Int32) : (True → f1_12 x = 1) ∧ (¬ (True) → f1_12 x = 0) := by
  exact own_c1_17_1 x
theorem own_c1_6 (x : Int32) : (x.toInt ≤ 57 → f1_6 x = 1) ∧ (¬ (x.toInt ≤ 57) → f1_6 x = 0) := by
  have hi : ((57 : Int32) < x) ↔ 57 < x.toInt := Int32.lt_iff_toInt_lt
  have r1 := Int32.le_toInt x
  have r2 := Int32.toInt_lt x
  by_cases hB : (57 : Int32) < x
  · have hb : 57 < x.toInt := hi.mp hB
    exact ⟨fun d => ((if_pos hB) : f1_6 x = _).trans ((own_c1_16 x).1 (by first | exact trivial | exact not_false | omega)), fun d => ((if_pos hB) : f1_6 x = _).trans ((own_c1_16 x).2 (by first | exact trivial | exact not_false | omega))⟩
  · have hb : ¬ (57 < x.toInt) := fun y => hB (hi.mpr y)
    exact ⟨fun d => ((if_neg hB) : f1_6 x = _).trans ((own_c1_12 x).1 (by first | exact trivial | exact not_false | omega)), fun d => ((if_neg hB) : f1_6 x = _).trans ((own_c1_12 x).2 (by first | exact trivial | exact not_false | omega))⟩
theorem own_c1_0 (x : Int32) : ((48 ≤ x.toInt ∧ x.toInt ≤ 57) → f1_0 x = 1) ∧ (¬ ((48 ≤ x.toInt ∧ x.toInt ≤ 57)) → f1_0 x = 0) := by
  have hi : (x < (48 : Int32)) ↔ x.toInt < 48 := Int32.lt_iff_toInt_lt
  have r1 := Int32.le_toInt x
  have r2 := Int32.toInt_lt x
  by_cases hB : x < (48 : Int32)
  · have hb : x.toInt < 48 := hi.mp hB
    exact ⟨fun d => ((if_pos hB) : f1_0 x = _).trans ((own_c1_16 x).1 (by first | exact trivial | exact not_false | omega)), fun d => ((if_pos hB) : f1_0 x = _).trans ((own_c1_16 x).2 (by first | exact trivial | exact not_false | omega))⟩
  · have hb : ¬ (x.toInt < 48) := fun y => hB (hi.mpr y)
    exact ⟨fun d => ((if_neg hB) : f1_0 x = _).trans ((own_c1_6 x).1 (by first | exact trivial | exact not_false | omega)), fun d => ((if_neg hB) : f1_0 x = _).trans ((own_c1_6 x).2 (by first | exact trivial | exact not_false | omega))⟩
theorem own_eq (x : Int32) : f1_0 x = f2_0 x := by
  have h1 := own_c1_0 x
  have h2 := own_c2_0 x
  by_cases d : (48 ≤ x.toInt ∧ x.toInt ≤ 57)
  · rw [h1.1 d, h2.1 (by omega)]
  · rw [h1.2 d, h2.2 (by omega)]
theorem own_law (i0 i1 : Int32) : f0_0 i0 i1 = 1 := by
  unfold f0_0
  rw [if_pos (own_eq i0)]
  unfold f0_19
  rw [if_pos (own_eq _)]
  rfl
set_option maxRecDepth 65536 in
set_option maxHeartbeats 40000000 in
theorem comes_1 {Post : Tables → Env → Array Value → State → Outcome → State → Prop} (hpost : ∀ tb e args s v u, (limb_1_1.after args s (.returned v) u = true ∧ limb_1_2.after args s (.returned v) u = true ∧ True) → FrameEnd s (.returned v) u (Jvm.fieldLocs frame_1_writes args s ++ Jvm.arrayLocs frame_1_arrays args s ++ Jvm.staticLocs frame_1_statics s) 0 0 → Post tb e args s (.returned v) u) :
    ArmFor flags0 classFile x code maxLocals ret World_1 tables_1 room_1 Calls_1 rest_1 Pre_1 Post := by
  intro l hfl _ _ p e ha hc hk s m args below hf hA hF happ hP
  obtain ⟨hcalls, hrest, hpre⟩ := hP
  obtain ⟨-, -, -, hnamed, -, -, -, hat⟩ := (Spec.applies_iff hf).mp happ
  obtain ⟨hg, hn⟩ := and_e (Cond.before_iff.mp (show (Jvm.Cond.and given_1 narrow_1).before args s = true from hpre))
  obtain ⟨g1, g2⟩ := and_e hg
  obtain ⟨g3, g4⟩ := and_e g2
  obtain ⟨w0, w1, rfl⟩ : ∃ w0 w1 : Value, args = #[w0, w1] := by
    have hs : args.size = 2 := by simpa [Cond.value, given_1] using g1
    obtain ⟨L⟩ := args
    match L, hs with
    | [w0, w1], _ => exact ⟨w0, w1, rfl⟩
  have hw := fun d (hd : d ∈ tables_1) => atoms_spec (ws := Jvm.Cond.code x code maxLocals ret :: tables_1) hat d (List.mem_cons_of_mem _ hd)
  obtain ⟨i0, ei0⟩ := is_v g3
  obtain rfl : w0 = (.int i0) := Option.some.inj ei0
  obtain ⟨i1, ei1⟩ := is_v g4
  obtain rfl : w1 = (.int i1) := Option.some.inj ei1
  obtain ⟨n, o, h1, h2, h3, _, L, rfl, ⟨hval, N, -⟩, hq⟩ := rm0 l s _ hw tables_1 i0 i1 s.heap s.heap.size p e ha hc hk s m _ below hf ((Spec.applies_iff_loose hf).mp happ).1 ⟨rfl, State.Warmed39.refl s, rfl⟩ trivial
  rw [own_law i0 i1] at hval
  subst hval
  refine ⟨n, _, h1, h2, h3, hpost _ _ _ _ _ _ ⟨Cond.after_iff.mpr rfl, Cond.after_iff.mpr (eq_i res_at (Term.int_eval (1)) rfl), trivial⟩ ⟨hq.1, hq.2.1, (hq.2.2.sift fun y hy => Or.inr (N y hy)).mono (by decide) (by decide)⟩⟩
theorem main_1_1 : Claimed_1_1 := comes_1 fun _ _ _ _ _ _ h hF => ⟨h.1, hF⟩
theorem main_1_2 : Claimed_1_2 := comes_1 fun _ _ _ _ _ _ h hF => ⟨h.2.1, hF⟩
end Jvm.Pilot.@@N@@
namespace Jvm.Pilot.@@N@@
open Jvm Jvm.ClassFile Sem Op Lib Jvm.Free Jvm.Stand Jvm.Pilot.@@N@@.Jvm.D
/-! MADE BY PROGRAM (witnessworld.py) out of the Statement's table words and the real class files: 9 classes; the members and pool entries that the words name. The judged class is class 1, her method 2. -/
namespace start1
open Jvm.ClassFile
def u (s : String) : CpInfo := .utf8 (stringToUtf16 s)
/-- a pool by its gaps: so many unusable entries, then the entry; so many at the end -/
def gap : Nat → List CpInfo → List CpInfo
  | 0, r => r
  | n + 1, r => .unusable :: gap n r
def poolList (es : List (Nat × CpInfo)) (last : Nat) : List CpInfo := es.foldr (fun e r => gap e.1 (e.2 :: r)) (gap last [])
def pool (es : List (Nat × CpInfo)) (last : Nat) : Array CpInfo := ⟨poolList es last⟩
def fileOf (pool : Array CpInfo) (this : Nat) (attrs : Array Attribute := #[]) (ms : Array MethodInfo := #[]) (fl : Nat := 33) (sup : Nat := 0) (ifs : Array Nat := #[]) (fds : Array FieldInfo := #[]) : ClassFile where
  minorVersion := 0
  majorVersion := 65
  constantPool := pool
  accessFlags := fl
  thisClass := this
  superClass := sup
  interfaces := ifs
  fields := fds
  methods := ms
  attributes := attrs
def plain (name : String) (sup : Option ClassId) : Class where
  name := name
  kind := .ordinary
  loader := none
  accessFlags := 33
  super := sup
  interfaces := #[]
  cf := none
  fields := #[]
  methods := #[]
  instanceTypes := #[]
  staticTypes := #[]
  resolved := #[]
  callSites := []
  init := .initialized
  statics := none
  mirror := none

def pool0 : Array CpInfo := pool [(5, u "<init>"), (0, u "()V"), (1, .class_ 10), (1, u "java/lang/Object")] 113

def k0m0 : Method := { name := "<init>", desc := "()V", sig := { parameters := [], returnType := none }, accessFlags := 1, code := none }
/-- java/lang/Object -/
def k0 : Class := { plain "java/lang/Object" none with
  accessFlags := 33
  interfaces := #[]
  cf := some (fileOf pool0 8 #[] #[{ accessFlags := 1, nameIndex := 5, descriptorIndex := 6, attributes := #[] }] 33 0 #[] #[])
  fields := #[]
  methods := #[k0m0]
  instanceTypes := #[]
  staticTypes := #[]
  resolved := Array.replicate 124 none
  statics := none }

def pool1 : Array CpInfo := pool [(2, .class_ 4), (1, u "java/lang/Object"), (0, u "<init>"), (0, u "()V"), (0, .methodref 8 9), (0, .class_ 10), (0, .nameAndType 11 12), (0, u "com/example/waymark/waymark/util/Ascii"), (0, u "isDigit"), (0, u "(I)Z"), (0, .methodref 14 15), (0, .class_ 16), (0, .nameAndType 17 12), (0, u "com/example/waymark/waymark/util/AsciiIsDigitPinLaw"), (0, u "ref"), (3, u "law"), (0, u "(II)Z")] 2

def k1m0 : Method := { name := "<init>", desc := "()V", sig := { parameters := [], returnType := none }, accessFlags := 1, code := none }
def k1c1 : Code := { maxStack := 2, maxLocals := 1, code := method_2_code, exceptionTable := #[], attributes := #[] }
def k1m1 : Method := { name := "ref", desc := "(I)Z", sig := { parameters := [.int], returnType := some .boolean }, accessFlags := 10, code := some k1c1 }
def k1c2 : Code := { maxStack := 3, maxLocals := 3, code := code, exceptionTable := #[], attributes := #[] }
def k1m2 : Method := { name := "law", desc := "(II)Z", sig := { parameters := [.int, .int], returnType := some .boolean }, accessFlags := 9, code := some k1c2 }
/-- com/example/waymark/waymark/util/AsciiIsDigitPinLaw -/
def k1 : Class := { plain "com/example/waymark/waymark/util/AsciiIsDigitPinLaw" (some 0) with
  accessFlags := 49
  interfaces := #[]
  cf := some (fileOf pool1 14 #[] #[{ accessFlags := 1, nameIndex := 5, descriptorIndex := 6, attributes := #[] }, { accessFlags := 10, nameIndex := 17, descriptorIndex := 12, attributes := #[] }, { accessFlags := 9, nameIndex := 21, descriptorIndex := 22, attributes := #[] }] 49 2 #[] #[])
  fields := #[]
  methods := #[k1m0, k1m1, k1m2]
  instanceTypes := #[]
  staticTypes := #[]
  resolved := Array.replicate 25 none
  statics := none }

def pool2 : Array CpInfo := pool [(2, .class_ 4), (1, u "java/lang/Object"), (0, u "<init>"), (0, u "()V"), (1, .class_ 10), (1, u "com/example/waymark/waymark/util/Ascii"), (0, u "isDigit"), (0, u "(I)Z")] 24

def k2m0 : Method := { name := "<init>", desc := "()V", sig := { parameters := [], returnType := none }, accessFlags := 2, code := none }
def k2c1 : Code := { maxStack := 2, maxLocals := 1, code := prog_44_method_3_code, exceptionTable := #[], attributes := #[] }
def k2m1 : Method := { name := "isDigit", desc := "(I)Z", sig := { parameters := [.int], returnType := some .boolean }, accessFlags := 9, code := some k2c1 }
/-- com/example/waymark/waymark/util/Ascii -/
def k2 : Class := { plain "com/example/waymark/waymark/util/Ascii" (some 0) with
  accessFlags := 49
  interfaces := #[]
  cf := some (fileOf pool2 8 #[] #[{ accessFlags := 2, nameIndex := 5, descriptorIndex := 6, attributes := #[] }, { accessFlags := 9, nameIndex := 11, descriptorIndex := 12, attributes := #[] }] 49 2 #[] #[])
  fields := #[]
  methods := #[k2m0, k2m1]
  instanceTypes := #[]
  staticTypes := #[]
  resolved := Array.replicate 37 none
  statics := none }

def pool3 : Array CpInfo := pool [(1, u "java/lang/Cloneable"), (0, .class_ 1), (0, u "java/lang/Object"), (0, .class_ 3)] 3

/-- java/lang/Cloneable -/
def k3 : Class := { plain "java/lang/Cloneable" (some 0) with
  accessFlags := 1537
  interfaces := #[]
  cf := some (fileOf pool3 2 #[] #[] 1537 4 #[] #[])
  fields := #[]
  methods := #[]
  instanceTypes := #[]
  staticTypes := #[]
  resolved := Array.replicate 8 none
  statics := none }

def pool4 : Array CpInfo := pool [(1, u "java/io/Serializable"), (0, .class_ 1), (0, u "java/lang/Object"), (0, .class_ 3)] 3

/-- java/io/Serializable -/
def k4 : Class := { plain "java/io/Serializable" (some 0) with
  accessFlags := 1537
  interfaces := #[]
  cf := some (fileOf pool4 2 #[] #[] 1537 4 #[] #[])
  fields := #[]
  methods := #[]
  instanceTypes := #[]
  staticTypes := #[]
  resolved := Array.replicate 8 none
  statics := none }

/-- the primitive byte -/
def k5 : Class := { plain "byte" none with kind := .primitive 'B', accessFlags := 0x411 }
/-- [B -/
def k6 : Class := { plain "[B" (some 0) with kind := .array 5 .byte, interfaces := #[3, 4], accessFlags := 1041 }

/-- the primitive int -/
def k7 : Class := { plain "int" none with kind := .primitive 'I', accessFlags := 0x411 }
/-- [I -/
def k8 : Class := { plain "[I" (some 0) with kind := .array 7 .int, interfaces := #[3, 4], accessFlags := 1041 }

def heap : Heap := #[]
def classes : Array Class := #[k0, k1, k2, k3, k4, k5, k6, k7, k8]
def interned : List (Array UInt16 × Addr) := []
def slotsUsed : Nat := 0
def theMethod : MethodId := ⟨1, 2⟩
def args0 : Array Value := #[.int 5, .int 5]
def aboutOver (below : List Frame) : State where
  vm := { classes := classes, interned := interned.toArray }
  heap := heap
  slotsUsed := slotsUsed
  threads := #[{ frames := .invoking theMethod args0 :: below }]
def below0 : List Frame := [.native { method := ⟨0, 0⟩, args := #[] }]
def about1 : State := aboutOver below0
def p0 : Program := .bare "" "" ""
def e0 : Env := launch0.env 0 0 0
theorem w_frames : about1.frames = Frame.invoking theMethod args0 :: below0 := rfl
set_option maxRecDepth 65536 in
theorem w_args : argsFit about1.vm theMethod args0 = true := by decide +kernel
set_option maxRecDepth 65536 in
theorem w_heap : heapFits about1 = true := by decide +kernel
set_option maxRecDepth 65536 in
theorem w_runnable : about1.curStatus? = some .runnable := by decide +kernel
set_option maxRecDepth 65536 in
theorem w_alone : about1.alone = true := by decide +kernel
set_option maxRecDepth 65536 in
theorem w_named : about1.methodNamed? x = some theMethod := by decide +kernel
set_option maxRecDepth 65536 in
theorem w_hears : about1.hears theMethod below0 = true := by decide +kernel
set_option maxRecDepth 65536 in
theorem w_ripe : about1.ripe theMethod args0 below0 = true := by decide +kernel
theorem w_running : about1.status = .running := rfl
set_option maxRecDepth 65536 in
theorem w_room : about1.hasRoom e0.platform room_1 = true :=
  launch0.hasRoom_least _ room_1 (by decide +kernel) (by decide +kernel) (by decide +kernel) (by decide +kernel) (by decide +kernel) (by decide +kernel)
theorem allAtoms_all (ts : List Jvm.Cond) (a : Array Jvm.Value) (st : Jvm.State) : (allAtoms ts).before a st = ts.all (fun c => c.before a st) := by
  induction ts with
  | nil => rfl
  | cons c t ih =>
    show (Jvm.Cond.and c (allAtoms t)).before a st = _
    rw [Jvm.Cond.before_and, ih, List.all_cons]
def words1 : List Jvm.Cond := Jvm.Cond.code x code maxLocals ret :: tables_1
/-- a 'code' word, met by the world's own term for the bytes: nothing is compared byte by byte -/
theorem code_word {y : MethodName} {bytes : ByteArray} {mx : Nat} {rt : Option FieldType} {a : Array Value} {s : State} {m : MethodId} {meth : Method} {c : Code} (h1 : s.methodNamed? y = some m) (h2 : s.vm.method? m = some meth) (h3 : meth.code = some c) (h4 : c.code = bytes)
    (h5 : (c.maxLocals == mx && c.exceptionTable.isEmpty && decide (c.maxStack ≤ mostOperands) && decide (meth.sig.returnType = rt) && !meth.locks && decide (parseMethodDescriptor y.desc = some meth.sig)) = true) : (Jvm.Cond.code y bytes mx rt).before a s = true := by
  simp only [Bool.and_eq_true, beq_iff_eq, Bool.not_eq_true', decide_eq_true_eq] at h5
  obtain ⟨⟨⟨⟨⟨g1, g2⟩, g3⟩, g4⟩, g5⟩, g6⟩ := h5
  simp [Cond.before, Cond.holds, Cond.value, h1, h2, h3, h4, g1, g2, g3, g4, g5, g6]
def isCode : Jvm.Cond → Bool
  | .code _ _ _ _ => true
  | _ => false
theorem all_split {L : List Jvm.Cond} {P : Jvm.Cond → Bool} (h1 : L.all (fun c => isCode c || P c) = true) (h2 : ∀ c ∈ L.filter isCode, P c = true) : L.all P = true := by
  refine List.all_eq_true.mpr fun c hc => ?_
  have h := List.all_eq_true.mp h1 c hc
  rcases Bool.eq_false_or_eq_true (isCode c) with hi | hi
  · exact h2 c (List.mem_filter.mpr ⟨hc, hi⟩)
  · simpa [hi] using h
set_option maxRecDepth 65536 in
theorem w_c0 : (Jvm.Cond.code x code maxLocals ret).before args0 about1 = true := code_word (m := ⟨1, 2⟩) (meth := k1m2) (c := k1c2) (by decide +kernel) rfl rfl rfl (by decide +kernel)
set_option maxRecDepth 65536 in
theorem w_c1 : (Jvm.Cond.code ({ cls := "com/example/waymark/waymark/util/Ascii", name := "isDigit", desc := "(I)Z" } : Jvm.MethodName) prog_44_method_3_code (1 : Nat) (Option.some Jvm.ClassFile.FieldType.boolean)).before args0 about1 = true := code_word (m := ⟨2, 1⟩) (meth := k2m1) (c := k2c1) (by decide +kernel) rfl rfl rfl (by decide +kernel)
set_option maxRecDepth 65536 in
theorem w_c2 : (Jvm.Cond.code ({ cls := "com/example/waymark/waymark/util/AsciiIsDigitPinLaw", name := "ref", desc := "(I)Z" } : Jvm.MethodName) method_2_code (1 : Nat) (Option.some Jvm.ClassFile.FieldType.boolean)).before args0 about1 = true := code_word (m := ⟨1, 1⟩) (meth := k1m1) (c := k1c1) (by decide +kernel) rfl rfl rfl (by decide +kernel)
def codes1 : List Jvm.Cond := [Jvm.Cond.code x code maxLocals ret, Jvm.Cond.code ({ cls := "com/example/waymark/waymark/util/Ascii", name := "isDigit", desc := "(I)Z" } : Jvm.MethodName) prog_44_method_3_code (1 : Nat) (Option.some Jvm.ClassFile.FieldType.boolean), Jvm.Cond.code ({ cls := "com/example/waymark/waymark/util/AsciiIsDigitPinLaw", name := "ref", desc := "(I)Z" } : Jvm.MethodName) method_2_code (1 : Nat) (Option.some Jvm.ClassFile.FieldType.boolean)]
set_option maxRecDepth 65536 in
theorem codes_eq : words1.filter isCode = codes1 := rfl
theorem w_codes : ∀ c ∈ words1.filter isCode, c.before args0 about1 = true := by
  rw [codes_eq]
  intro c hc
  simp only [codes1, List.mem_cons, List.not_mem_nil, or_false] at hc
  rcases hc with rfl | rfl | rfl
  · exact w_c0
  · exact w_c1
  · exact w_c2
set_option maxRecDepth 65536 in
theorem w_t1 : words1.all (fun c => isCode c || c.before args0 about1) = true := by decide +kernel
theorem w_tables : (allAtoms (Jvm.Cond.code x code maxLocals ret :: tables_1)).before args0 about1 = true := by
  rw [allAtoms_all]
  show words1.all (fun c => c.before args0 about1) = true
  refine all_split ?_ w_codes
  rw [w_t1]
set_option maxRecDepth 65536 in
theorem w_case : (Jvm.Cond.and given_1 narrow_1).before args0 about1 = true := by decide +kernel
theorem w_applies : (headSpec (Jvm.Cond.code x code maxLocals ret :: tables_1) room_1).applies x e0.platform about1 = true :=
  (Spec.applies_iff w_frames).mpr ⟨w_running, w_runnable, w_alone, w_named, w_hears, w_ripe, w_room, w_tables⟩
theorem atStart : AtStart classFile x code maxLocals ret World_1 tables_1 room_1 Calls_1 rest_1 Pre_1 launch0 p0 e0 about1 theMethod args0 below0 :=
  ⟨lists_1, trivial, launch0.admits_env _ _ _, launch0.least_env, fairChoices_fair.cas, fairChoices_fair.clock, w_frames, w_args, w_heap, w_applies, trivial, trivial, w_case⟩
end start1
theorem witness_1 : WitnessClaimed_1 := ⟨start1.p0, start1.e0, start1.about1, start1.theMethod, start1.args0, start1.below0, start1.atStart⟩
end Jvm.Pilot.@@N@@

import JvmDerived
import JvmDerived.Pilot.@@N@@Statement
import JvmDerived.Pilot.@@N@@Code
set_option linter.unusedVariables false
set_option linter.unusedSimpArgs false
namespace Jvm.RoadKit
open Sem ClassFile Op Lib Jvm.Stand Jvm.Free Jvm.LawKit
section New
variable {p : Program} {l : Launch} {e : Env} {R : Room} {s : State} {m : MethodId} {args : Array Value} {below : List Frame} {meth : Method} {c : Code} {T : State} {locs : List Loc} {cells slots : Nat}
theorem retI (X : Stand p l e R s m args below meth c T locs cells slots) (hx : p.tables.exec = Jvm.exec) {pc : Nat} {Ls : Array Slot} {z : Int32} {rest : List Value} (hret : meth.sig.returnType = some .int) (hd : decode c.code pc = .ok (.ireturn, 1)) {fs : List Frame}
    (hl : ∀ (f : JFrame) (acts : List Action), f.method = m → f.locked = none → f.entered = [] → (doReturn e (T.setTop f) acts (some (.int z))).1 = T.setFrames fs) : Steps p.tables e below (T.setTop (mkF m pc Ls (.int z :: rest))) (T.setFrames fs) := by
  have hm' : T.vm.method? m = some meth := X.method'
  have hn : narrow .int (.int z) = .int z := rfl
  show Steps p.tables e below (T.setTop { method := m, pc := pc, locals := Ls, stack := _ :: rest, locked := none }) _
  jvm_step X.here [X.here.top, hx, hd, hm', hret, hn]
  first | (intro acts; rw [hl _ acts rfl rfl rfl]) | rw [hl _ _ rfl rfl rfl]
  exact Steps.refl _
end New
end Jvm.RoadKit
namespace Jvm.Pilot.@@N@@
open Jvm Jvm.ClassFile Sem Op Lib Jvm.Free Jvm.Stand Jvm.LawKit Jvm.RoadKit Bundle Jvm.Pilot.@@N@@.Jvm.D
section OwnKit
variable {p : Program} {l : Launch} {e : Env} {R : Room} {s : State} {m : MethodId} {args : Array Value} {below : List Frame} {meth : Method} {c : Code} {T : State} {locs : List Loc} {cells slots : Nat}
/-- what a body owes from the state A on: it comes to its return, and what it returned, the heap and the written places satisfy Q -/
def own_Fin (p : Program) (e : Env) (below : List Frame) (s : State) (Q : Option Value → Heap → List Loc → Prop) (rc rs : Nat) (A : State) : Prop :=
  ∃ s₂ o, Steps p.tables e below A s₂ ∧ s₂.status = .running ∧ Ended s₂ below o ∧ ∃ v L, o = .returned v ∧ Q v s₂.heap L ∧ FrameEnd s o s₂ L rc rs
theorem own_step {Q : Option Value → Heap → List Loc → Prop} {rc rs : Nat} {A B : State} (k : ∀ t, Steps p.tables e below B t → Steps p.tables e below A t) (h : own_Fin p e below s Q rc rs B) : own_Fin p e below s Q rc rs A := by
  obtain ⟨s₂, o, h1, h2⟩ := h
  exact ⟨s₂, o, k _ h1, h2⟩
theorem own_retN (X : Stand p l e R s m args below meth c T locs cells slots) (hx : p.tables.exec = Jvm.exec) (hlk : meth.locks = false) {Q : Option Value → Heap → List Loc → Prop} {rc rs n0 : Nat} {h : Heap} {pc : Nat} {Ls : Array Slot} {z v : Int32} {t : FieldType} {rest : List Value} (hret : meth.sig.returnType = some t) (ht : t = .boolean ∨ t = .byte ∨ t = .char ∨ t = .short)
    (hd : decode c.code pc = .ok (.ireturn, 1)) (hc : cells ≤ rc) (hs : slots ≤ rs) (eT : T.heap = h) (N : Fr n0 locs) (hQ : ∀ L', Fr n0 L' → Q (some (.int v)) h L') (hv : v = nar t z) :
    own_Fin p e below s Q rc rs (T.setTop (mkF m pc Ls (.int z :: rest))) := by
  subst hv
  obtain ⟨fs, hr, hrun, hended, hW, hsame⟩ := X.leave (v := some (.int (nar t z))) (fun h => by rw [hret] at h; cases h) hlk
  refine ⟨_, _, retN X hx hret ht hd hr, hrun, hended, _, _, rfl, ?_, ⟨_, rfl⟩, hW, hsame.mono hc hs⟩
  show Q _ T.heap _
  rw [eT]
  exact hQ _ N
theorem own_retI (X : Stand p l e R s m args below meth c T locs cells slots) (hx : p.tables.exec = Jvm.exec) (hlk : meth.locks = false) {Q : Option Value → Heap → List Loc → Prop} {rc rs n0 : Nat} {h : Heap} {pc : Nat} {Ls : Array Slot} {z v : Int32} {rest : List Value} (hret : meth.sig.returnType = some .int)
    (hd : decode c.code pc = .ok (.ireturn, 1)) (hc : cells ≤ rc) (hs : slots ≤ rs) (eT : T.heap = h) (N : Fr n0 locs) (hQ : ∀ L', Fr n0 L' → Q (some (.int v)) h L') (hv : v = z) :
    own_Fin p e below s Q rc rs (T.setTop (mkF m pc Ls (.int z :: rest))) := by
  subst hv
  obtain ⟨fs, hr, hrun, hended, hW, hsame⟩ := X.leave (v := some (.int v)) (fun h => by rw [hret] at h; cases h) hlk
  refine ⟨_, _, retI X hx hret hd hr, hrun, hended, _, _, rfl, ?_, ⟨_, rfl⟩, hW, hsame.mono hc hs⟩
  show Q _ T.heap _
  rw [eT]
  exact hQ _ N
theorem own_ret0 (X : Stand p l e R s m args below meth c T locs cells slots) (hx : p.tables.exec = Jvm.exec) (hlk : meth.locks = false) {Q : Option Value → Heap → List Loc → Prop} {rc rs : Nat} {h : Heap} {pc : Nat} {Ls : Array Slot} (hret : meth.sig.returnType = none)
    (hd : decode c.code pc = .ok (.return_, 1)) (hc : cells ≤ rc) (hs : slots ≤ rs) (eT : T.heap = h) (hQ : Q none h locs) :
    own_Fin p e below s Q rc rs (T.setTop (mkF m pc Ls [])) := by
  obtain ⟨fs, hr, hrun, hended, hW, hsame⟩ := X.leave (v := none) (fun _ => rfl) hlk
  refine ⟨_, _, X.returnOut hx hret hd hr, hrun, hended, _, _, rfl, ?_, ⟨_, rfl⟩, hW, hsame.mono hc hs⟩
  show Q _ T.heap _
  rw [eT]
  exact hQ
end OwnKit
/-- an array of n ints (bytes, ..) at a: its i-th is g i -/
def own_AF (Z : State) (h : Heap) (a : Addr) (ty : FieldType) (n : Nat) (g : Nat → Int32) : Prop := ∃ c : Cell, Arr Z h a c ty ∧ c.slots.size = n ∧ ∀ i, i < n → c.slots[i]? = some (.int (g i))
def own_In (n : Nat) (j : Int32) : Prop := ¬ (j < 0 ∨ n ≤ j.toNatClampNeg)
theorem own_AF.lt {Z : State} {h : Heap} {a : Addr} {ty : FieldType} {n : Nat} {g : Nat → Int32} (F : own_AF Z h a ty n g) : a < h.size := by obtain ⟨c, A, -⟩ := F; exact A.lt
theorem own_AFext {Z : State} {h h' : Heap} {a : Addr} {ty : FieldType} {n : Nat} {g : Nat → Int32} (F : own_AF Z h a ty n g) (E : Ext h h') : own_AF Z h' a ty n g := by obtain ⟨c, A, r⟩ := F; exact ⟨c, A.ext E, r⟩
theorem own_AFoth {Z : State} {h h' : Heap} {a b : Addr} {sl : Nat} {v : Value} {ty : FieldType} {n : Nat} {g : Nat → Int32} (F : own_AF Z h b ty n g) (W : Wr h h' a sl v) (q : b ≠ a) : own_AF Z h' b ty n g := by obtain ⟨c, A, r⟩ := F; exact ⟨c, A.other W q, r⟩
theorem own_AFkeep {Z : State} {h h' : Heap} {a : Addr} {ws : List Addr} {ty : FieldType} {n : Nat} {g : Nat → Int32} (F : own_AF Z h a ty n g) (K : Keep h h' ws) (q : a ∉ ws) : own_AF Z h' a ty n g := by obtain ⟨c, A, r⟩ := F; exact ⟨c, ⟨K.2.1 a c A.1 q, A.2⟩, r⟩
theorem own_AFset {Z : State} {h h' : Heap} {a : Addr} {ty : FieldType} {n k : Nat} {g : Nat → Int32} {c : Cell} {x : Int32} (A : Arr Z h a c ty) (S : c.slots.size = n) (H : ∀ i, i < n → c.slots[i]? = some (.int (g i))) (W : Wr h h' a k (.int x)) : own_AF Z h' a ty n (fun i => if i = k then x else g i) := by
  obtain ⟨c', e1, e2, e3, e4, e5, e6, e7⟩ := wr_at W A.1
  refine ⟨c', ⟨e1, ?_⟩, e4.trans S, fun i hi => ?_⟩
  · rw [(e7 rfl).1]; exact A.2
  · by_cases q : i = k
    · subst q
      show c'.slots[i]? = some (.int (if i = i then x else g i))
      rw [if_pos rfl]
      exact (e7 rfl).2.1
    · show c'.slots[i]? = some (.int (if i = k then x else g i))
      rw [e6 i q, if_neg q]
      exact H i hi
theorem own_AFnew {Z : State} {h : Heap} {a : Addr} {k : ClassId} {ty : FieldType} {z : Int32} {n : Nat} (A : Arr Z h a (newA k ty z) ty) (hn : z.toNatClampNeg = n) (hd : defaultValue ty = .int 0 := by rfl) : own_AF Z h a ty n (fun _ => 0) :=
  ⟨_, A, (sz_new _ _ _).trans hn, fun i hi => by
    have hs : (newA k ty z).slots = Array.replicate z.toNatClampNeg (defaultValue ty) := rfl
    rw [hs, hn, hd]
    simp [hi]⟩
theorem own_eqi {x y : Int32} {b : Int} (h : y.toInt = b) : x = y ↔ x.toInt = b := by rw [← h]; exact Int32.toInt_inj.symm

theorem d1_0 : decode prog_169_method_5_code 0 = .ok (.iload_n 0, 1) := by decide +kernel
theorem d1_1 : decode prog_169_method_5_code 1 = .ok (.bipush 97, 2) := by decide +kernel
theorem d1_3 : decode prog_169_method_5_code 3 = .ok (.if_icmp .lt 9, 3) := by decide +kernel
theorem d1_6 : decode prog_169_method_5_code 6 = .ok (.iload_n 0, 1) := by decide +kernel
theorem d1_7 : decode prog_169_method_5_code 7 = .ok (.bipush 122, 2) := by decide +kernel
theorem d1_9 : decode prog_169_method_5_code 9 = .ok (.if_icmp .le 21, 3) := by decide +kernel
theorem d1_12 : decode prog_169_method_5_code 12 = .ok (.iload_n 0, 1) := by decide +kernel
theorem d1_13 : decode prog_169_method_5_code 13 = .ok (.bipush 65, 2) := by decide +kernel
theorem d1_15 : decode prog_169_method_5_code 15 = .ok (.if_icmp .lt 9, 3) := by decide +kernel
theorem d1_18 : decode prog_169_method_5_code 18 = .ok (.iload_n 0, 1) := by decide +kernel
theorem d1_19 : decode prog_169_method_5_code 19 = .ok (.bipush 90, 2) := by decide +kernel
theorem d1_21 : decode prog_169_method_5_code 21 = .ok (.if_icmp .le 9, 3) := by decide +kernel
theorem d1_24 : decode prog_169_method_5_code 24 = .ok (.iload_n 0, 1) := by decide +kernel
theorem d1_25 : decode prog_169_method_5_code 25 = .ok (.bipush 95, 2) := by decide +kernel
theorem d1_27 : decode prog_169_method_5_code 27 = .ok (.if_icmp .ne 7, 3) := by decide +kernel
theorem d1_30 : decode prog_169_method_5_code 30 = .ok (.iconst 1, 1) := by decide +kernel
theorem d1_31 : decode prog_169_method_5_code 31 = .ok (.goto 4, 3) := by decide +kernel
theorem d1_34 : decode prog_169_method_5_code 34 = .ok (.iconst 0, 1) := by decide +kernel
theorem d1_35 : decode prog_169_method_5_code 35 = .ok (.ireturn, 1) := by decide +kernel
def f1_35 (i0 : Int32) (is0 : Int32) : Int32 := (nar .boolean is0)
set_option maxRecDepth 65536 in
set_option maxHeartbeats 40000000 in
theorem b1_35 {p : Program} {l : Launch} {e : Env} {s : State} {m : MethodId} {args : Array Value} {below : List Frame} {meth : Method} {c : Code} {T : State} {locs : List Loc} {cells slots : Nat} {Z : State} {a0 : Array Value} {h : Heap} {n0 : Nat} {Q : Option Value → Heap → List Loc → Prop} (i0 : Int32) (is0 : Int32) (hw : ∀ d ∈ tables_1, d.before a0 Z = true) (X : Stand p l e ({ frames := 0, cells := 0, slots := 0, locals := 0 } : Room) s m args below meth c T locs cells slots) (hx : p.tables.exec = Jvm.exec) (hZ : Z.Warmed39 s.vm) (hby : c.code = prog_169_method_5_code) (hml : c.maxLocals = 1) (hown : s.vm.findClass "com/example/caddisfly/caddisfly/template/Gap" = some m.cls) (hret : meth.sig.returnType = some .boolean) (hlk : meth.locks = false) (eT : T.heap = h) (N : Fr n0 locs) (hc : cells ≤ 0) (hs : slots ≤ 0) (v : Int32) (hv : v = f1_35 i0 is0) (hQ : ∀ L', Fr n0 L' → Q (some (.int v)) h L') :
    own_Fin p e below s Q 0 0 (T.setTop (mkF m 35 #[.val (.int i0)] [(.int is0)])) := by
  exact own_retN X hx hlk hret (by simp) (hb hby d1_35) (by omega) (by omega) eT N hQ (hv)
def f1_30 (i0 : Int32) : Int32 := f1_35 i0 (1 : Int32)
set_option maxRecDepth 65536 in
set_option maxHeartbeats 40000000 in
theorem b1_30 {p : Program} {l : Launch} {e : Env} {s : State} {m : MethodId} {args : Array Value} {below : List Frame} {meth : Method} {c : Code} {T : State} {locs : List Loc} {cells slots : Nat} {Z : State} {a0 : Array Value} {h : Heap} {n0 : Nat} {Q : Option Value → Heap → List Loc → Prop} (i0 : Int32) (hw : ∀ d ∈ tables_1, d.before a0 Z = true) (X : Stand p l e ({ frames := 0, cells := 0, slots := 0, locals := 0 } : Room) s m args below meth c T locs cells slots) (hx : p.tables.exec = Jvm.exec) (hZ : Z.Warmed39 s.vm) (hby : c.code = prog_169_method_5_code) (hml : c.maxLocals = 1) (hown : s.vm.findClass "com/example/caddisfly/caddisfly/template/Gap" = some m.cls) (hret : meth.sig.returnType = some .boolean) (hlk : meth.locks = false) (eT : T.heap = h) (N : Fr n0 locs) (hc : cells ≤ 0) (hs : slots ≤ 0) (v : Int32) (hv : v = f1_30 i0) (hQ : ∀ L', Fr n0 L' → Q (some (.int v)) h L') :
    own_Fin p e below s Q 0 0 (T.setTop (mkF m 30 #[.val (.int i0)] [])) := by
  refine own_step (fun t k => XS.iconst X.here hx rfl (hb hby d1_30) k) ?_
  show own_Fin p e below s Q 0 0 (T.setTop (mkF m 31 #[.val (.int i0)] [(.int (1 : Int32))]))
  refine own_step (fun t k => XS.goto X.here hx rfl (pc0 := 31) (pc' := 35) rfl (hb hby d1_31) (by decide) (by decide) k) ?_
  exact b1_35 i0 (1 : Int32) hw X hx hZ hby hml hown hret hlk eT N (by omega) (by omega) v (hv) hQ
def f1_34 (i0 : Int32) : Int32 := f1_35 i0 (0 : Int32)
set_option maxRecDepth 65536 in
set_option maxHeartbeats 40000000 in
theorem b1_34 {p : Program} {l : Launch} {e : Env} {s : State} {m : MethodId} {args : Array Value} {below : List Frame} {meth : Method} {c : Code} {T : State} {locs : List Loc} {cells slots : Nat} {Z : State} {a0 : Array Value} {h : Heap} {n0 : Nat} {Q : Option Value → Heap → List Loc → Prop} (i0 : Int32) (hw : ∀ d ∈ tables_1, d.before a0 Z = true) (X : Stand p l e ({ frames := 0, cells := 0, slots := 0, locals := 0 } : Room) s m args below meth c T locs cells slots) (hx : p.tables.exec = Jvm.exec) (hZ : Z.Warmed39 s.vm) (hby : c.code = prog_169_method_5_code) (hml : c.maxLocals = 1) (hown : s.vm.findClass "com/example/caddisfly/caddisfly/template/Gap" = some m.cls) (hret : meth.sig.returnType = some .boolean) (hlk : meth.locks = false) (eT : T.heap = h) (N : Fr n0 locs) (hc : cells ≤ 0) (hs : slots ≤ 0) (v : Int32) (hv : v = f1_34 i0) (hQ : ∀ L', Fr n0 L' → Q (some (.int v)) h L') :
    own_Fin p e below s Q 0 0 (T.setTop (mkF m 34 #[.val (.int i0)] [])) := by
  refine own_step (fun t k => XS.iconst X.here hx rfl (hb hby d1_34) k) ?_
  exact b1_35 i0 (0 : Int32) hw X hx hZ hby hml hown hret hlk eT N (by omega) (by omega) v (hv) hQ
def f1_24 (i0 : Int32) : Int32 := if i0 = (95 : Int32) then f1_30 i0 else f1_34 i0
set_option maxRecDepth 65536 in
set_option maxHeartbeats 40000000 in
theorem b1_24 {p : Program} {l : Launch} {e : Env} {s : State} {m : MethodId} {args : Array Value} {below : List Frame} {meth : Method} {c : Code} {T : State} {locs : List Loc} {cells slots : Nat} {Z : State} {a0 : Array Value} {h : Heap} {n0 : Nat} {Q : Option Value → Heap → List Loc → Prop} (i0 : Int32) (hw : ∀ d ∈ tables_1, d.before a0 Z = true) (X : Stand p l e ({ frames := 0, cells := 0, slots := 0, locals := 0 } : Room) s m args below meth c T locs cells slots) (hx : p.tables.exec = Jvm.exec) (hZ : Z.Warmed39 s.vm) (hby : c.code = prog_169_method_5_code) (hml : c.maxLocals = 1) (hown : s.vm.findClass "com/example/caddisfly/caddisfly/template/Gap" = some m.cls) (hret : meth.sig.returnType = some .boolean) (hlk : meth.locks = false) (eT : T.heap = h) (N : Fr n0 locs) (hc : cells ≤ 0) (hs : slots ≤ 0) (v : Int32) (hv : v = f1_24 i0) (hQ : ∀ L', Fr n0 L' → Q (some (.int v)) h L') :
    own_Fin p e below s Q 0 0 (T.setTop (mkF m 24 #[.val (.int i0)] [])) := by
  refine own_step (fun t k => XS.iloadN X.here hx rfl (hb hby d1_24) rfl  k) ?_
  show own_Fin p e below s Q 0 0 (T.setTop (mkF m 25 #[.val (.int i0)] [(.int i0)]))
  refine own_step (fun t k => XS.bipush X.here hx rfl (hb hby d1_25) k) ?_
  show own_Fin p e below s Q 0 0 (T.setTop (mkF m 27 #[.val (.int i0)] [(.int (95 : Int32)), (.int i0)]))
  by_cases hB27_5 : i0 = (95 : Int32)
  · refine own_step (fun t k => XS.icmpNo X.here hx rfl (hb hby d1_27) rfl (teq hB27_5).2 k) ?_
    exact b1_30 i0 hw X hx hZ hby hml hown hret hlk eT N (by omega) (by omega) v (hv.trans (if_pos hB27_5)) hQ
  · refine own_step (fun t k => XS.icmpYes X.here hx rfl (pc0 := 27) (pc' := 34) rfl (hb hby d1_27) rfl (feq hB27_5).2 (by decide) (by decide) k) ?_
    exact b1_34 i0 hw X hx hZ hby hml hown hret hlk eT N (by omega) (by omega) v (hv.trans (if_neg hB27_5)) hQ
def f1_18 (i0 : Int32) : Int32 := if (90 : Int32) < i0 then f1_24 i0 else f1_30 i0
set_option maxRecDepth 65536 in
set_option maxHeartbeats 40000000 in
theorem b1_18 {p : Program} {l : Launch} {e : Env} {s : State} {m : MethodId} {args : Array Value} {below : List Frame} {meth : Method} {c : Code} {T : State} {locs : List Loc} {cells slots : Nat} {Z : State} {a0 : Array Value} {h : Heap} {n0 : Nat} {Q : Option Value → Heap → List Loc → Prop} (i0 : Int32) (hw : ∀ d ∈ tables_1, d.before a0 Z = true) (X : Stand p l e ({ frames := 0, cells := 0, slots := 0, locals := 0 } : Room) s m args below meth c T locs cells slots) (hx : p.tables.exec = Jvm.exec) (hZ : Z.Warmed39 s.vm) (hby : c.code = prog_169_method_5_code) (hml : c.maxLocals = 1) (hown : s.vm.findClass "com/example/caddisfly/caddisfly/template/Gap" = some m.cls) (hret : meth.sig.returnType = some .boolean) (hlk : meth.locks = false) (eT : T.heap = h) (N : Fr n0 locs) (hc : cells ≤ 0) (hs : slots ≤ 0) (v : Int32) (hv : v = f1_18 i0) (hQ : ∀ L', Fr n0 L' → Q (some (.int v)) h L') :
    own_Fin p e below s Q 0 0 (T.setTop (mkF m 18 #[.val (.int i0)] [])) := by
  refine own_step (fun t k => XS.iloadN X.here hx rfl (hb hby d1_18) rfl  k) ?_
  show own_Fin p e below s Q 0 0 (T.setTop (mkF m 19 #[.val (.int i0)] [(.int i0)]))
  refine own_step (fun t k => XS.bipush X.here hx rfl (hb hby d1_19) k) ?_
  show own_Fin p e below s Q 0 0 (T.setTop (mkF m 21 #[.val (.int i0)] [(.int (90 : Int32)), (.int i0)]))
  by_cases hB21_9 : (90 : Int32) < i0
  · refine own_step (fun t k => XS.icmpNo X.here hx rfl (hb hby d1_21) rfl (tlt hB21_9).2.2.2 k) ?_
    exact b1_24 i0 hw X hx hZ hby hml hown hret hlk eT N (by omega) (by omega) v (hv.trans (if_pos hB21_9)) hQ
  · refine own_step (fun t k => XS.icmpYes X.here hx rfl (pc0 := 21) (pc' := 30) rfl (hb hby d1_21) rfl (flt hB21_9).2.2.2 (by decide) (by decide) k) ?_
    exact b1_30 i0 hw X hx hZ hby hml hown hret hlk eT N (by omega) (by omega) v (hv.trans (if_neg hB21_9)) hQ
def f1_12 (i0 : Int32) : Int32 := if i0 < (65 : Int32) then f1_24 i0 else f1_18 i0
set_option maxRecDepth 65536 in
set_option maxHeartbeats 40000000 in
theorem b1_12 {p : Program} {l : Launch} {e : Env} {s : State} {m : MethodId} {args : Array Value} {below : List Frame} {meth : Method} {c : Code} {T : State} {locs : List Loc} {cells slots : Nat} {Z : State} {a0 : Array Value} {h : Heap} {n0 : Nat} {Q : Option Value → Heap → List Loc → Prop} (i0 : Int32) (hw : ∀ d ∈ tables_1, d.before a0 Z = true) (X : Stand p l e ({ frames := 0, cells := 0, slots := 0, locals := 0 } : Room) s m args below meth c T locs cells slots) (hx : p.tables.exec = Jvm.exec) (hZ : Z.Warmed39 s.vm) (hby : c.code = prog_169_method_5_code) (hml : c.maxLocals = 1) (hown : s.vm.findClass "com/example/caddisfly/caddisfly/template/Gap" = some m.cls) (hret : meth.sig.returnType = some .boolean) (hlk : meth.locks = false) (eT : T.heap = h) (N : Fr n0 locs) (hc : cells ≤ 0) (hs : slots ≤ 0) (v : Int32) (hv : v = f1_12 i0) (hQ : ∀ L', Fr n0 L' → Q (some (.int v)) h L') :
    own_Fin p e below s Q 0 0 (T.setTop (mkF m 12 #[.val (.int i0)] [])) := by
  refine own_step (fun t k => XS.iloadN X.here hx rfl (hb hby d1_12) rfl  k) ?_
  show own_Fin p e below s Q 0 0 (T.setTop (mkF m 13 #[.val (.int i0)] [(.int i0)]))
  refine own_step (fun t k => XS.bipush X.here hx rfl (hb hby d1_13) k) ?_
  show own_Fin p e below s Q 0 0 (T.setTop (mkF m 15 #[.val (.int i0)] [(.int (65 : Int32)), (.int i0)]))
  by_cases hB15_3 : i0 < (65 : Int32)
  · refine own_step (fun t k => XS.icmpYes X.here hx rfl (pc0 := 15) (pc' := 24) rfl (hb hby d1_15) rfl (tlt hB15_3).1 (by decide) (by decide) k) ?_
    exact b1_24 i0 hw X hx hZ hby hml hown hret hlk eT N (by omega) (by omega) v (hv.trans (if_pos hB15_3)) hQ
  · refine own_step (fun t k => XS.icmpNo X.here hx rfl (hb hby d1_15) rfl (flt hB15_3).1 k) ?_
    exact b1_18 i0 hw X hx hZ hby hml hown hret hlk eT N (by omega) (by omega) v (hv.trans (if_neg hB15_3)) hQ
def f1_6 (i0 : Int32) : Int32 := if (122 : Int32) < i0 then f1_12 i0 else f1_30 i0
set_option maxRecDepth 65536 in
set_option maxHeartbeats 40000000 in
theorem b1_6 {p : Program} {l : Launch} {e : Env} {s : State} {m : MethodId} {args : Array Value} {below : List Frame} {meth : Method} {c : Code} {T : State} {locs : List Loc} {cells slots : Nat} {Z : State} {a0 : Array Value} {h : Heap} {n0 : Nat} {Q : Option Value → Heap → List Loc → Prop} (i0 : Int32) (hw : ∀ d ∈ tables_1, d.before a0 Z = true) (X : Stand p l e ({ frames := 0, cells := 0, slots := 0, locals := 0 } : Room) s m args below meth c T locs cells slots) (hx : p.tables.exec = Jvm.exec) (hZ : Z.Warmed39 s.vm) (hby : c.code = prog_169_method_5_code) (hml : c.maxLocals = 1) (hown : s.vm.findClass "com/example/caddisfly/caddisfly/template/Gap" = some m.cls) (hret : meth.sig.returnType = some .boolean) (hlk : meth.locks = false) (eT : T.heap = h) (N : Fr n0 locs) (hc : cells ≤ 0) (hs : slots ≤ 0) (v : Int32) (hv : v = f1_6 i0) (hQ : ∀ L', Fr n0 L' → Q (some (.int v)) h L') :
    own_Fin p e below s Q 0 0 (T.setTop (mkF m 6 #[.val (.int i0)] [])) := by
  refine own_step (fun t k => XS.iloadN X.here hx rfl (hb hby d1_6) rfl  k) ?_
  show own_Fin p e below s Q 0 0 (T.setTop (mkF m 7 #[.val (.int i0)] [(.int i0)]))
  refine own_step (fun t k => XS.bipush X.here hx rfl (hb hby d1_7) k) ?_
  show own_Fin p e below s Q 0 0 (T.setTop (mkF m 9 #[.val (.int i0)] [(.int (122 : Int32)), (.int i0)]))
  by_cases hB9_13 : (122 : Int32) < i0
  · refine own_step (fun t k => XS.icmpNo X.here hx rfl (hb hby d1_9) rfl (tlt hB9_13).2.2.2 k) ?_
    exact b1_12 i0 hw X hx hZ hby hml hown hret hlk eT N (by omega) (by omega) v (hv.trans (if_pos hB9_13)) hQ
  · refine own_step (fun t k => XS.icmpYes X.here hx rfl (pc0 := 9) (pc' := 30) rfl (hb hby d1_9) rfl (flt hB9_13).2.2.2 (by decide) (by decide) k) ?_
    exact b1_30 i0 hw X hx hZ hby hml hown hret hlk eT N (by omega) (by omega) v (hv.trans (if_neg hB9_13)) hQ
def f1_0 (i0 : Int32) : Int32 := if i0 < (97 : Int32) then f1_12 i0 else f1_6 i0
set_option maxRecDepth 65536 in
set_option maxHeartbeats 40000000 in
theorem b1_0 {p : Program} {l : Launch} {e : Env} {s : State} {m : MethodId} {args : Array Value} {below : List Frame} {meth : Method} {c : Code} {T : State} {locs : List Loc} {cells slots : Nat} {Z : State} {a0 : Array Value} {h : Heap} {n0 : Nat} {Q : Option Value → Heap → List Loc → Prop} (i0 : Int32) (hw : ∀ d ∈ tables_1, d.before a0 Z = true) (X : Stand p l e ({ frames := 0, cells := 0, slots := 0, locals := 0 } : Room) s m args below meth c T locs cells slots) (hx : p.tables.exec = Jvm.exec) (hZ : Z.Warmed39 s.vm) (hby : c.code = prog_169_method_5_code) (hml : c.maxLocals = 1) (hown : s.vm.findClass "com/example/caddisfly/caddisfly/template/Gap" = some m.cls) (hret : meth.sig.returnType = some .boolean) (hlk : meth.locks = false) (eT : T.heap = h) (N : Fr n0 locs) (hc : cells ≤ 0) (hs : slots ≤ 0) (v : Int32) (hv : v = f1_0 i0) (hQ : ∀ L', Fr n0 L' → Q (some (.int v)) h L') :
    own_Fin p e below s Q 0 0 (T.setTop (mkF m 0 #[.val (.int i0)] [])) := by
  refine own_step (fun t k => XS.iloadN X.here hx rfl (hb hby d1_0) rfl  k) ?_
  show own_Fin p e below s Q 0 0 (T.setTop (mkF m 1 #[.val (.int i0)] [(.int i0)]))
  refine own_step (fun t k => XS.bipush X.here hx rfl (hb hby d1_1) k) ?_
  show own_Fin p e below s Q 0 0 (T.setTop (mkF m 3 #[.val (.int i0)] [(.int (97 : Int32)), (.int i0)]))
  by_cases hB3_1 : i0 < (97 : Int32)
  · refine own_step (fun t k => XS.icmpYes X.here hx rfl (pc0 := 3) (pc' := 12) rfl (hb hby d1_3) rfl (tlt hB3_1).1 (by decide) (by decide) k) ?_
    exact b1_12 i0 hw X hx hZ hby hml hown hret hlk eT N (by omega) (by omega) v (hv.trans (if_pos hB3_1)) hQ
  · refine own_step (fun t k => XS.icmpNo X.here hx rfl (hb hby d1_3) rfl (flt hB3_1).1 k) ?_
    exact b1_6 i0 hw X hx hZ hby hml hown hret hlk eT N (by omega) (by omega) v (hv.trans (if_neg hB3_1)) hQ
theorem pnm_0 : plainName "com/example/caddisfly/caddisfly/template/Gap" = true := by first | (simp [plainName, overriddenIn]; done) | decide +kernel
theorem pdm_0 : parseMethodDescriptor "(C)Z" = some ⟨[.char], some .boolean⟩ := by decide +kernel
theorem ef_1 (m : MethodId) (i0 : Int32) : entryFrame m #[(.int i0)] 1 = (mkF m 0 #[.val (.int i0)] []) := by first | (simp [entryFrame, mkF, argsToLocals, Value.category]; done) | rfl
def Q1 (i0 : Int32) (h0 : Heap) (n0 : Nat) (v : Option Value) (h : Heap) (L : List Loc) : Prop := v = some (.int (f1_0 i0)) ∧ Fr n0 L ∧ h = h0
set_option maxRecDepth 65536 in
set_option maxHeartbeats 4000000 in
theorem rm1 (l : Launch) (Z : State) (a0 : Array Value) (hw : ∀ d ∈ tables_1, d.before a0 Z = true) (ws : List Jvm.Cond) (i0 : Int32) (h0 : Heap) (n0 : Nat) :
    MetFree l (⟨"com/example/caddisfly/caddisfly/template/Gap", "isNameStart", "(C)Z"⟩ : MethodName) (head1 (Jvm.Cond.code (⟨"com/example/caddisfly/caddisfly/template/Gap", "isNameStart", "(C)Z"⟩ : MethodName) prog_169_method_5_code 1 (some .boolean) :: ws) ({ frames := 0, cells := 0, slots := 0, locals := 0 } : Room)) (fun a U => a = #[(.int i0)] ∧ Z.Warmed39 U.vm ∧ U.heap = h0) (fun _ _ _ _ _ => True) (fun _ U o U' => ∃ v L, o = .returned v ∧ Q1 i0 h0 n0 v U'.heap L ∧ FrameEnd U o U' L ({ frames := 0, cells := 0, slots := 0, locals := 0 } : Room).cells ({ frames := 0, cells := 0, slots := 0, locals := 0 } : Room).slots) := by
  refine MetFree.of_bodySF (plainFor_of_name pnm_0) hisR ?_
  intro p e s m args below meth c s₁ Bd hml0 hP hK
  obtain ⟨rfl, hZ, hh⟩ := hP
  have hx := Bd.exec
  have hby := Bd.bytes
  have hml : c.maxLocals = 1 := hml0
  have hown : s.vm.findClass "com/example/caddisfly/caddisfly/template/Gap" = some m.cls := findClass_of_methodNamed Bd.named
  have X0 : Stand p l e ({ frames := 0, cells := 0, slots := 0, locals := 0 } : Room) s m #[(.int i0)] below meth c s₁ [] 0 0 := Stand.of_body Bd
  have e0 : s₁.heap = h0 := by rw [← hh, Bd.state]; rfl
  have fin := b1_0 i0 (Q := Q1 i0 h0 n0) hw X0 hx hZ hby hml hown Bd.returns (BodyLoose.notSynchronized Bd) e0 (Fr.nil n0) (Nat.zero_le _) (Nat.zero_le _) _ rfl (fun L' n' => ⟨rfl, n', rfl⟩)
  exact own_step (fun t k => castTop (ef_1 m i0) k) fin
def f0_57 (i0 : Int32) (i1 : Int32) (i2 : Int32) (i3 : Int32) (i4 : Int32) (is0 : Int32) : Int32 := (nar .boolean is0)
set_option maxRecDepth 65536 in
set_option maxHeartbeats 40000000 in
theorem b0_57 {p : Program} {l : Launch} {e : Env} {s : State} {m : MethodId} {args : Array Value} {below : List Frame} {meth : Method} {c : Code} {T : State} {locs : List Loc} {cells slots : Nat} {Z : State} {a0 : Array Value} {h : Heap} {n0 : Nat} {Q : Option Value → Heap → List Loc → Prop} (i0 : Int32) (i1 : Int32) (i2 : Int32) (i3 : Int32) (i4 : Int32) (is0 : Int32) (hw : ∀ d ∈ tables_1, d.before a0 Z = true) (X : Stand p l e room_1 s m args below meth c T locs cells slots) (hx : p.tables.exec = Jvm.exec) (hZ : Z.Warmed39 s.vm) (hby : c.code = code) (hml : c.maxLocals = 5) (hown : s.vm.findClass "com/example/caddisfly/caddisfly/template/GapIsNameStartPinLaw" = some m.cls) (hret : meth.sig.returnType = some .boolean) (hlk : meth.locks = false) (eT : T.heap = h) (N : Fr n0 locs) (hc : cells ≤ 0) (hs : slots ≤ 0) (v : Int32) (hv : v = f0_57 i0 i1 i2 i3 i4 is0) (hQ : ∀ L', Fr n0 L' → Q (some (.int v)) h L') :
    own_Fin p e below s Q 0 0 (T.setTop (mkF m 57 #[.val (.int i0), .val (.int i1), .val (.int i2), .val (.int i3), .val (.int i4)] [(.int is0)])) := by
  exact own_retN X hx hlk hret (by simp) (hb hby at_57) (by omega) (by omega) eT N hQ (hv)
def f0_52 (i0 : Int32) (i1 : Int32) (i2 : Int32) (i3 : Int32) (i4 : Int32) : Int32 := f0_57 i0 i1 i2 i3 i4 (1 : Int32)
set_option maxRecDepth 65536 in
set_option maxHeartbeats 40000000 in
theorem b0_52 {p : Program} {l : Launch} {e : Env} {s : State} {m : MethodId} {args : Array Value} {below : List Frame} {meth : Method} {c : Code} {T : State} {locs : List Loc} {cells slots : Nat} {Z : State} {a0 : Array Value} {h : Heap} {n0 : Nat} {Q : Option Value → Heap → List Loc → Prop} (i0 : Int32) (i1 : Int32) (i2 : Int32) (i3 : Int32) (i4 : Int32) (hw : ∀ d ∈ tables_1, d.before a0 Z = true) (X : Stand p l e room_1 s m args below meth c T locs cells slots) (hx : p.tables.exec = Jvm.exec) (hZ : Z.Warmed39 s.vm) (hby : c.code = code) (hml : c.maxLocals = 5) (hown : s.vm.findClass "com/example/caddisfly/caddisfly/template/GapIsNameStartPinLaw" = some m.cls) (hret : meth.sig.returnType = some .boolean) (hlk : meth.locks = false) (eT : T.heap = h) (N : Fr n0 locs) (hc : cells ≤ 0) (hs : slots ≤ 0) (v : Int32) (hv : v = f0_52 i0 i1 i2 i3 i4) (hQ : ∀ L', Fr n0 L' → Q (some (.int v)) h L') :
    own_Fin p e below s Q 0 0 (T.setTop (mkF m 52 #[.val (.int i0), .val (.int i1), .val (.int i2), .val (.int i3), .val (.int i4)] [])) := by
  refine own_step (fun t k => XS.iconst X.here hx rfl (hb hby at_52) k) ?_
  show own_Fin p e below s Q 0 0 (T.setTop (mkF m 53 #[.val (.int i0), .val (.int i1), .val (.int i2), .val (.int i3), .val (.int i4)] [(.int (1 : Int32))]))
  refine own_step (fun t k => XS.goto X.here hx rfl (pc0 := 53) (pc' := 57) rfl (hb hby at_53) (by decide) (by decide) k) ?_
  exact b0_57 i0 i1 i2 i3 i4 (1 : Int32) hw X hx hZ hby hml hown hret hlk eT N (by omega) (by omega) v (hv) hQ
def f0_56 (i0 : Int32) (i1 : Int32) (i2 : Int32) (i3 : Int32) (i4 : Int32) : Int32 := f0_57 i0 i1 i2 i3 i4 (0 : Int32)
set_option maxRecDepth 65536 in
set_option maxHeartbeats 40000000 in
theorem b0_56 {p : Program} {l : Launch} {e : Env} {s : State} {m : MethodId} {args : Array Value} {below : List Frame} {meth : Method} {c : Code} {T : State} {locs : List Loc} {cells slots : Nat} {Z : State} {a0 : Array Value} {h : Heap} {n0 : Nat} {Q : Option Value → Heap → List Loc → Prop} (i0 : Int32) (i1 : Int32) (i2 : Int32) (i3 : Int32) (i4 : Int32) (hw : ∀ d ∈ tables_1, d.before a0 Z = true) (X : Stand p l e room_1 s m args below meth c T locs cells slots) (hx : p.tables.exec = Jvm.exec) (hZ : Z.Warmed39 s.vm) (hby : c.code = code) (hml : c.maxLocals = 5) (hown : s.vm.findClass "com/example/caddisfly/caddisfly/template/GapIsNameStartPinLaw" = some m.cls) (hret : meth.sig.returnType = some .boolean) (hlk : meth.locks = false) (eT : T.heap = h) (N : Fr n0 locs) (hc : cells ≤ 0) (hs : slots ≤ 0) (v : Int32) (hv : v = f0_56 i0 i1 i2 i3 i4) (hQ : ∀ L', Fr n0 L' → Q (some (.int v)) h L') :
    own_Fin p e below s Q 0 0 (T.setTop (mkF m 56 #[.val (.int i0), .val (.int i1), .val (.int i2), .val (.int i3), .val (.int i4)] [])) := by
  refine own_step (fun t k => XS.iconst X.here hx rfl (hb hby at_56) k) ?_
  exact b0_57 i0 i1 i2 i3 i4 (0 : Int32) hw X hx hZ hby hml hown hret hlk eT N (by omega) (by omega) v (hv) hQ
def f0_41 (i0 : Int32) (i1 : Int32) (i2 : Int32) (i3 : Int32) (is0 : Int32) : Int32 := if (f1_0 i1) = is0 then f0_52 i0 i1 i2 i3 is0 else f0_56 i0 i1 i2 i3 is0
set_option maxRecDepth 65536 in
set_option maxHeartbeats 40000000 in
theorem b0_41 {p : Program} {l : Launch} {e : Env} {s : State} {m : MethodId} {args : Array Value} {below : List Frame} {meth : Method} {c : Code} {T : State} {locs : List Loc} {cells slots : Nat} {Z : State} {a0 : Array Value} {h : Heap} {n0 : Nat} {Q : Option Value → Heap → List Loc → Prop} (i0 : Int32) (i1 : Int32) (i2 : Int32) (i3 : Int32) (is0 : Int32) (hw : ∀ d ∈ tables_1, d.before a0 Z = true) (X : Stand p l e room_1 s m args below meth c T locs cells slots) (hx : p.tables.exec = Jvm.exec) (hZ : Z.Warmed39 s.vm) (hby : c.code = code) (hml : c.maxLocals = 5) (hown : s.vm.findClass "com/example/caddisfly/caddisfly/template/GapIsNameStartPinLaw" = some m.cls) (hret : meth.sig.returnType = some .boolean) (hlk : meth.locks = false) (eT : T.heap = h) (N : Fr n0 locs) (hc : cells ≤ 0) (hs : slots ≤ 0) (v : Int32) (hv : v = f0_41 i0 i1 i2 i3 is0) (hQ : ∀ L', Fr n0 L' → Q (some (.int v)) h L') :
    own_Fin p e below s Q 0 0 (T.setTop (mkF m 41 #[.val (.int i0), .val (.int i1), .val (.int i2), .val (.int i3), .unset] [(.int is0)])) := by
  refine own_step (fun t k => XS.istore X.here hx rfl (hb hby at_41) rfl (l' := #[.val (.int i0), .val (.int i1), .val (.int i2), .val (.int i3), .val (.int is0)]) rfl k) ?_
  show own_Fin p e below s Q 0 0 (T.setTop (mkF m 43 #[.val (.int i0), .val (.int i1), .val (.int i2), .val (.int i3), .val (.int is0)] []))
  refine own_step (fun t k => XS.iloadN X.here hx rfl (hb hby at_43) rfl  k) ?_
  show own_Fin p e below s Q 0 0 (T.setTop (mkF m 44 #[.val (.int i0), .val (.int i1), .val (.int i2), .val (.int i3), .val (.int is0)] [(.int i1)]))
  obtain ⟨_, _, ⟨T22, L22, k22, n22⟩, -, X22, ⟨Lc22, hQ22, l22, y22, z22⟩, st22⟩ := Jvm.LawKit.callS X hx (y := (⟨"com/example/caddisfly/caddisfly/template/Gap", "isNameStart", "(C)Z"⟩ : MethodName)) hown (mvT hZ (hw _ (List.mem_of_getElem? (i := 0) rfl))) (mvT hZ (hw _ (List.mem_of_getElem? (i := 1) rfl))) (mvT hZ (hw _ (List.mem_of_getElem? (i := 2) rfl))) (mvT hZ (hw _ (List.mem_of_getElem? (i := 3) rfl))) (by decide) (backOf (W := 0) (rm1 l Z a0 hw [] i1 h n0) hZ (hw _ (List.mem_of_getElem? (i := 3) rfl)) (hw _ (List.mem_of_getElem? (i := 2) rfl)) (by decide) (by decide)) (g := (mkF m 44 #[.val (.int i0), .val (.int i1), .val (.int i2), .val (.int i3), .val (.int is0)] [(.int i1)])) rfl (by rw [hml]; rfl) (argsL := [(.int i1)]) (rest := []) (lenOf pdm_0 rfl) rfl (by show 2 * 0 + _ ≤ _; exact Nat.le_of_eq rfl) (hb hby at_44) (fun _ _ => ⟨rfl, eT, (by show (_ : Nat) ≤ 0; omega), (by show (_ : Nat) ≤ 0; omega)⟩)
  dsimp only [Pt.U, Pt.locs, Pt.cells, Pt.slots] at X22 l22 y22 z22 st22 hQ22
  subst l22 y22 z22
  obtain ⟨rfl, N22q, e22⟩ := hQ22
  have N22 := Fr.app N N22q
  refine own_step st22 ?_
  show own_Fin p e below s Q 0 0 (T22.setTop (mkF m 47 #[.val (.int i0), .val (.int i1), .val (.int i2), .val (.int i3), .val (.int is0)] [(.int (f1_0 i1))]))
  refine own_step (fun t k => XS.iload X22.here hx rfl (hb hby at_47) rfl  k) ?_
  show own_Fin p e below s Q 0 0 (T22.setTop (mkF m 49 #[.val (.int i0), .val (.int i1), .val (.int i2), .val (.int i3), .val (.int is0)] [(.int is0), (.int (f1_0 i1))]))
  by_cases hB49_23 : (f1_0 i1) = is0
  · refine own_step (fun t k => XS.icmpNo X22.here hx rfl (hb hby at_49) rfl (teq hB49_23).2 k) ?_
    exact b0_52 i0 i1 i2 i3 is0 hw X22 hx hZ hby hml hown hret hlk e22 N22 (by omega) (by omega) v (hv.trans (if_pos hB49_23)) hQ
  · refine own_step (fun t k => XS.icmpYes X22.here hx rfl (pc0 := 49) (pc' := 56) rfl (hb hby at_49) rfl (feq hB49_23).2 (by decide) (by decide) k) ?_
    exact b0_56 i0 i1 i2 i3 is0 hw X22 hx hZ hby hml hown hret hlk e22 N22 (by omega) (by omega) v (hv.trans (if_neg hB49_23)) hQ
def f0_36 (i0 : Int32) (i1 : Int32) (i2 : Int32) (i3 : Int32) : Int32 := f0_41 i0 i1 i2 i3 (1 : Int32)
set_option maxRecDepth 65536 in
set_option maxHeartbeats 40000000 in
theorem b0_36 {p : Program} {l : Launch} {e : Env} {s : State} {m : MethodId} {args : Array Value} {below : List Frame} {meth : Method} {c : Code} {T : State} {locs : List Loc} {cells slots : Nat} {Z : State} {a0 : Array Value} {h : Heap} {n0 : Nat} {Q : Option Value → Heap → List Loc → Prop} (i0 : Int32) (i1 : Int32) (i2 : Int32) (i3 : Int32) (hw : ∀ d ∈ tables_1, d.before a0 Z = true) (X : Stand p l e room_1 s m args below meth c T locs cells slots) (hx : p.tables.exec = Jvm.exec) (hZ : Z.Warmed39 s.vm) (hby : c.code = code) (hml : c.maxLocals = 5) (hown : s.vm.findClass "com/example/caddisfly/caddisfly/template/GapIsNameStartPinLaw" = some m.cls) (hret : meth.sig.returnType = some .boolean) (hlk : meth.locks = false) (eT : T.heap = h) (N : Fr n0 locs) (hc : cells ≤ 0) (hs : slots ≤ 0) (v : Int32) (hv : v = f0_36 i0 i1 i2 i3) (hQ : ∀ L', Fr n0 L' → Q (some (.int v)) h L') :
    own_Fin p e below s Q 0 0 (T.setTop (mkF m 36 #[.val (.int i0), .val (.int i1), .val (.int i2), .val (.int i3), .unset] [])) := by
  refine own_step (fun t k => XS.iconst X.here hx rfl (hb hby at_36) k) ?_
  show own_Fin p e below s Q 0 0 (T.setTop (mkF m 37 #[.val (.int i0), .val (.int i1), .val (.int i2), .val (.int i3), .unset] [(.int (1 : Int32))]))
  refine own_step (fun t k => XS.goto X.here hx rfl (pc0 := 37) (pc' := 41) rfl (hb hby at_37) (by decide) (by decide) k) ?_
  exact b0_41 i0 i1 i2 i3 (1 : Int32) hw X hx hZ hby hml hown hret hlk eT N (by omega) (by omega) v (hv) hQ
def f0_40 (i0 : Int32) (i1 : Int32) (i2 : Int32) (i3 : Int32) : Int32 := f0_41 i0 i1 i2 i3 (0 : Int32)
set_option maxRecDepth 65536 in
set_option maxHeartbeats 40000000 in
theorem b0_40 {p : Program} {l : Launch} {e : Env} {s : State} {m : MethodId} {args : Array Value} {below : List Frame} {meth : Method} {c : Code} {T : State} {locs : List Loc} {cells slots : Nat} {Z : State} {a0 : Array Value} {h : Heap} {n0 : Nat} {Q : Option Value → Heap → List Loc → Prop} (i0 : Int32) (i1 : Int32) (i2 : Int32) (i3 : Int32) (hw : ∀ d ∈ tables_1, d.before a0 Z = true) (X : Stand p l e room_1 s m args below meth c T locs cells slots) (hx : p.tables.exec = Jvm.exec) (hZ : Z.Warmed39 s.vm) (hby : c.code = code) (hml : c.maxLocals = 5) (hown : s.vm.findClass "com/example/caddisfly/caddisfly/template/GapIsNameStartPinLaw" = some m.cls) (hret : meth.sig.returnType = some .boolean) (hlk : meth.locks = false) (eT : T.heap = h) (N : Fr n0 locs) (hc : cells ≤ 0) (hs : slots ≤ 0) (v : Int32) (hv : v = f0_40 i0 i1 i2 i3) (hQ : ∀ L', Fr n0 L' → Q (some (.int v)) h L') :
    own_Fin p e below s Q 0 0 (T.setTop (mkF m 40 #[.val (.int i0), .val (.int i1), .val (.int i2), .val (.int i3), .unset] [])) := by
  refine own_step (fun t k => XS.iconst X.here hx rfl (hb hby at_40) k) ?_
  exact b0_41 i0 i1 i2 i3 (0 : Int32) hw X hx hZ hby hml hown hret hlk eT N (by omega) (by omega) v (hv) hQ
def f0_30 (i0 : Int32) (i1 : Int32) (i2 : Int32) (i3 : Int32) : Int32 := if i1 = (95 : Int32) then f0_36 i0 i1 i2 i3 else f0_40 i0 i1 i2 i3
set_option maxRecDepth 65536 in
set_option maxHeartbeats 40000000 in
theorem b0_30 {p : Program} {l : Launch} {e : Env} {s : State} {m : MethodId} {args : Array Value} {below : List Frame} {meth : Method} {c : Code} {T : State} {locs : List Loc} {cells slots : Nat} {Z : State} {a0 : Array Value} {h : Heap} {n0 : Nat} {Q : Option Value → Heap → List Loc → Prop} (i0 : Int32) (i1 : Int32) (i2 : Int32) (i3 : Int32) (hw : ∀ d ∈ tables_1, d.before a0 Z = true) (X : Stand p l e room_1 s m args below meth c T locs cells slots) (hx : p.tables.exec = Jvm.exec) (hZ : Z.Warmed39 s.vm) (hby : c.code = code) (hml : c.maxLocals = 5) (hown : s.vm.findClass "com/example/caddisfly/caddisfly/template/GapIsNameStartPinLaw" = some m.cls) (hret : meth.sig.returnType = some .boolean) (hlk : meth.locks = false) (eT : T.heap = h) (N : Fr n0 locs) (hc : cells ≤ 0) (hs : slots ≤ 0) (v : Int32) (hv : v = f0_30 i0 i1 i2 i3) (hQ : ∀ L', Fr n0 L' → Q (some (.int v)) h L') :
    own_Fin p e below s Q 0 0 (T.setTop (mkF m 30 #[.val (.int i0), .val (.int i1), .val (.int i2), .val (.int i3), .unset] [])) := by
  refine own_step (fun t k => XS.iloadN X.here hx rfl (hb hby at_30) rfl  k) ?_
  show own_Fin p e below s Q 0 0 (T.setTop (mkF m 31 #[.val (.int i0), .val (.int i1), .val (.int i2), .val (.int i3), .unset] [(.int i1)]))
  refine own_step (fun t k => XS.bipush X.here hx rfl (hb hby at_31) k) ?_
  show own_Fin p e below s Q 0 0 (T.setTop (mkF m 33 #[.val (.int i0), .val (.int i1), .val (.int i2), .val (.int i3), .unset] [(.int (95 : Int32)), (.int i1)]))
  by_cases hB33_20 : i1 = (95 : Int32)
  · refine own_step (fun t k => XS.icmpNo X.here hx rfl (hb hby at_33) rfl (teq hB33_20).2 k) ?_
    exact b0_36 i0 i1 i2 i3 hw X hx hZ hby hml hown hret hlk eT N (by omega) (by omega) v (hv.trans (if_pos hB33_20)) hQ
  · refine own_step (fun t k => XS.icmpYes X.here hx rfl (pc0 := 33) (pc' := 40) rfl (hb hby at_33) rfl (feq hB33_20).2 (by decide) (by decide) k) ?_
    exact b0_40 i0 i1 i2 i3 hw X hx hZ hby hml hown hret hlk eT N (by omega) (by omega) v (hv.trans (if_neg hB33_20)) hQ
def f0_25 (i0 : Int32) (i1 : Int32) (i2 : Int32) (is0 : Int32) : Int32 := if is0 = (0 : Int32) then f0_30 i0 i1 i2 is0 else f0_36 i0 i1 i2 is0
set_option maxRecDepth 65536 in
set_option maxHeartbeats 40000000 in
theorem b0_25 {p : Program} {l : Launch} {e : Env} {s : State} {m : MethodId} {args : Array Value} {below : List Frame} {meth : Method} {c : Code} {T : State} {locs : List Loc} {cells slots : Nat} {Z : State} {a0 : Array Value} {h : Heap} {n0 : Nat} {Q : Option Value → Heap → List Loc → Prop} (i0 : Int32) (i1 : Int32) (i2 : Int32) (is0 : Int32) (hw : ∀ d ∈ tables_1, d.before a0 Z = true) (X : Stand p l e room_1 s m args below meth c T locs cells slots) (hx : p.tables.exec = Jvm.exec) (hZ : Z.Warmed39 s.vm) (hby : c.code = code) (hml : c.maxLocals = 5) (hown : s.vm.findClass "com/example/caddisfly/caddisfly/template/GapIsNameStartPinLaw" = some m.cls) (hret : meth.sig.returnType = some .boolean) (hlk : meth.locks = false) (eT : T.heap = h) (N : Fr n0 locs) (hc : cells ≤ 0) (hs : slots ≤ 0) (v : Int32) (hv : v = f0_25 i0 i1 i2 is0) (hQ : ∀ L', Fr n0 L' → Q (some (.int v)) h L') :
    own_Fin p e below s Q 0 0 (T.setTop (mkF m 25 #[.val (.int i0), .val (.int i1), .val (.int i2), .unset, .unset] [(.int is0)])) := by
  refine own_step (fun t k => XS.istoreN X.here hx rfl (hb hby at_25) rfl (l' := #[.val (.int i0), .val (.int i1), .val (.int i2), .val (.int is0), .unset]) rfl k) ?_
  show own_Fin p e below s Q 0 0 (T.setTop (mkF m 26 #[.val (.int i0), .val (.int i1), .val (.int i2), .val (.int is0), .unset] []))
  refine own_step (fun t k => XS.iloadN X.here hx rfl (hb hby at_26) rfl  k) ?_
  show own_Fin p e below s Q 0 0 (T.setTop (mkF m 27 #[.val (.int i0), .val (.int i1), .val (.int i2), .val (.int is0), .unset] [(.int is0)]))
  by_cases hB27_18 : is0 = (0 : Int32)
  · refine own_step (fun t k => XS.ifNo X.here hx rfl (hb hby at_27) rfl ((if0 _ _).trans (teq hB27_18).2) k) ?_
    exact b0_30 i0 i1 i2 is0 hw X hx hZ hby hml hown hret hlk eT N (by omega) (by omega) v (hv.trans (if_pos hB27_18)) hQ
  · refine own_step (fun t k => XS.ifYes X.here hx rfl (pc0 := 27) (pc' := 36) rfl (hb hby at_27) rfl ((if0 _ _).trans (feq hB27_18).2) (by decide) (by decide) k) ?_
    exact b0_36 i0 i1 i2 is0 hw X hx hZ hby hml hown hret hlk eT N (by omega) (by omega) v (hv.trans (if_neg hB27_18)) hQ
def f0_24 (i0 : Int32) (i1 : Int32) (i2 : Int32) : Int32 := f0_25 i0 i1 i2 (0 : Int32)
set_option maxRecDepth 65536 in
set_option maxHeartbeats 40000000 in
theorem b0_24 {p : Program} {l : Launch} {e : Env} {s : State} {m : MethodId} {args : Array Value} {below : List Frame} {meth : Method} {c : Code} {T : State} {locs : List Loc} {cells slots : Nat} {Z : State} {a0 : Array Value} {h : Heap} {n0 : Nat} {Q : Option Value → Heap → List Loc → Prop} (i0 : Int32) (i1 : Int32) (i2 : Int32) (hw : ∀ d ∈ tables_1, d.before a0 Z = true) (X : Stand p l e room_1 s m args below meth c T locs cells slots) (hx : p.tables.exec = Jvm.exec) (hZ : Z.Warmed39 s.vm) (hby : c.code = code) (hml : c.maxLocals = 5) (hown : s.vm.findClass "com/example/caddisfly/caddisfly/template/GapIsNameStartPinLaw" = some m.cls) (hret : meth.sig.returnType = some .boolean) (hlk : meth.locks = false) (eT : T.heap = h) (N : Fr n0 locs) (hc : cells ≤ 0) (hs : slots ≤ 0) (v : Int32) (hv : v = f0_24 i0 i1 i2) (hQ : ∀ L', Fr n0 L' → Q (some (.int v)) h L') :
    own_Fin p e below s Q 0 0 (T.setTop (mkF m 24 #[.val (.int i0), .val (.int i1), .val (.int i2), .unset, .unset] [])) := by
  refine own_step (fun t k => XS.iconst X.here hx rfl (hb hby at_24) k) ?_
  exact b0_25 i0 i1 i2 (0 : Int32) hw X hx hZ hby hml hown hret hlk eT N (by omega) (by omega) v (hv) hQ
def f0_20 (i0 : Int32) (i1 : Int32) (i2 : Int32) : Int32 := f0_25 i0 i1 i2 (1 : Int32)
set_option maxRecDepth 65536 in
set_option maxHeartbeats 40000000 in
theorem b0_20 {p : Program} {l : Launch} {e : Env} {s : State} {m : MethodId} {args : Array Value} {below : List Frame} {meth : Method} {c : Code} {T : State} {locs : List Loc} {cells slots : Nat} {Z : State} {a0 : Array Value} {h : Heap} {n0 : Nat} {Q : Option Value → Heap → List Loc → Prop} (i0 : Int32) (i1 : Int32) (i2 : Int32) (hw : ∀ d ∈ tables_1, d.before a0 Z = true) (X : Stand p l e room_1 s m args below meth c T locs cells slots) (hx : p.tables.exec = Jvm.exec) (hZ : Z.Warmed39 s.vm) (hby : c.code = code) (hml : c.maxLocals = 5) (hown : s.vm.findClass "com/example/caddisfly/caddisfly/template/GapIsNameStartPinLaw" = some m.cls) (hret : meth.sig.returnType = some .boolean) (hlk : meth.locks = false) (eT : T.heap = h) (N : Fr n0 locs) (hc : cells ≤ 0) (hs : slots ≤ 0) (v : Int32) (hv : v = f0_20 i0 i1 i2) (hQ : ∀ L', Fr n0 L' → Q (some (.int v)) h L') :
    own_Fin p e below s Q 0 0 (T.setTop (mkF m 20 #[.val (.int i0), .val (.int i1), .val (.int i2), .unset, .unset] [])) := by
  refine own_step (fun t k => XS.iconst X.here hx rfl (hb hby at_20) k) ?_
  show own_Fin p e below s Q 0 0 (T.setTop (mkF m 21 #[.val (.int i0), .val (.int i1), .val (.int i2), .unset, .unset] [(.int (1 : Int32))]))
  refine own_step (fun t k => XS.goto X.here hx rfl (pc0 := 21) (pc' := 25) rfl (hb hby at_21) (by decide) (by decide) k) ?_
  exact b0_25 i0 i1 i2 (1 : Int32) hw X hx hZ hby hml hown hret hlk eT N (by omega) (by omega) v (hv) hQ
def f0_14 (i0 : Int32) (i1 : Int32) (i2 : Int32) : Int32 := if (122 : Int32) < i2 then f0_24 i0 i1 i2 else f0_20 i0 i1 i2
set_option maxRecDepth 65536 in
set_option maxHeartbeats 40000000 in
theorem b0_14 {p : Program} {l : Launch} {e : Env} {s : State} {m : MethodId} {args : Array Value} {below : List Frame} {meth : Method} {c : Code} {T : State} {locs : List Loc} {cells slots : Nat} {Z : State} {a0 : Array Value} {h : Heap} {n0 : Nat} {Q : Option Value → Heap → List Loc → Prop} (i0 : Int32) (i1 : Int32) (i2 : Int32) (hw : ∀ d ∈ tables_1, d.before a0 Z = true) (X : Stand p l e room_1 s m args below meth c T locs cells slots) (hx : p.tables.exec = Jvm.exec) (hZ : Z.Warmed39 s.vm) (hby : c.code = code) (hml : c.maxLocals = 5) (hown : s.vm.findClass "com/example/caddisfly/caddisfly/template/GapIsNameStartPinLaw" = some m.cls) (hret : meth.sig.returnType = some .boolean) (hlk : meth.locks = false) (eT : T.heap = h) (N : Fr n0 locs) (hc : cells ≤ 0) (hs : slots ≤ 0) (v : Int32) (hv : v = f0_14 i0 i1 i2) (hQ : ∀ L', Fr n0 L' → Q (some (.int v)) h L') :
    own_Fin p e below s Q 0 0 (T.setTop (mkF m 14 #[.val (.int i0), .val (.int i1), .val (.int i2), .unset, .unset] [])) := by
  refine own_step (fun t k => XS.iloadN X.here hx rfl (hb hby at_14) rfl  k) ?_
  show own_Fin p e below s Q 0 0 (T.setTop (mkF m 15 #[.val (.int i0), .val (.int i1), .val (.int i2), .unset, .unset] [(.int i2)]))
  refine own_step (fun t k => XS.bipush X.here hx rfl (hb hby at_15) k) ?_
  show own_Fin p e below s Q 0 0 (T.setTop (mkF m 17 #[.val (.int i0), .val (.int i1), .val (.int i2), .unset, .unset] [(.int (122 : Int32)), (.int i2)]))
  by_cases hB17_29 : (122 : Int32) < i2
  · refine own_step (fun t k => XS.icmpYes X.here hx rfl (pc0 := 17) (pc' := 24) rfl (hb hby at_17) rfl (tlt hB17_29).2.2.1 (by decide) (by decide) k) ?_
    exact b0_24 i0 i1 i2 hw X hx hZ hby hml hown hret hlk eT N (by omega) (by omega) v (hv.trans (if_pos hB17_29)) hQ
  · refine own_step (fun t k => XS.icmpNo X.here hx rfl (hb hby at_17) rfl (flt hB17_29).2.2.1 k) ?_
    exact b0_20 i0 i1 i2 hw X hx hZ hby hml hown hret hlk eT N (by omega) (by omega) v (hv.trans (if_neg hB17_29)) hQ
def f0_0 (i0 : Int32) : Int32 := if ((i0.toUInt32.toUInt16.toUInt32.toInt32) ||| (32 : Int32)) < (97 : Int32) then f0_24 i0 (i0.toUInt32.toUInt16.toUInt32.toInt32) ((i0.toUInt32.toUInt16.toUInt32.toInt32) ||| (32 : Int32)) else f0_14 i0 (i0.toUInt32.toUInt16.toUInt32.toInt32) ((i0.toUInt32.toUInt16.toUInt32.toInt32) ||| (32 : Int32))
set_option maxRecDepth 65536 in
set_option maxHeartbeats 40000000 in
theorem b0_0 {p : Program} {l : Launch} {e : Env} {s : State} {m : MethodId} {args : Array Value} {below : List Frame} {meth : Method} {c : Code} {T : State} {locs : List Loc} {cells slots : Nat} {Z : State} {a0 : Array Value} {h : Heap} {n0 : Nat} {Q : Option Value → Heap → List Loc → Prop} (i0 : Int32) (hw : ∀ d ∈ tables_1, d.before a0 Z = true) (X : Stand p l e room_1 s m args below meth c T locs cells slots) (hx : p.tables.exec = Jvm.exec) (hZ : Z.Warmed39 s.vm) (hby : c.code = code) (hml : c.maxLocals = 5) (hown : s.vm.findClass "com/example/caddisfly/caddisfly/template/GapIsNameStartPinLaw" = some m.cls) (hret : meth.sig.returnType = some .boolean) (hlk : meth.locks = false) (eT : T.heap = h) (N : Fr n0 locs) (hc : cells ≤ 0) (hs : slots ≤ 0) (v : Int32) (hv : v = f0_0 i0) (hQ : ∀ L', Fr n0 L' → Q (some (.int v)) h L') :
    own_Fin p e below s Q 0 0 (T.setTop (mkF m 0 #[.val (.int i0), .unset, .unset, .unset, .unset] [])) := by
  refine own_step (fun t k => XS.iloadN X.here hx rfl (hb hby at_0) rfl  k) ?_
  show own_Fin p e below s Q 0 0 (T.setTop (mkF m 1 #[.val (.int i0), .unset, .unset, .unset, .unset] [(.int i0)]))
  refine own_step (fun t k => XS.i2c X.here hx rfl (hb hby at_1) rfl k) ?_
  show own_Fin p e below s Q 0 0 (T.setTop (mkF m 2 #[.val (.int i0), .unset, .unset, .unset, .unset] [(.int (i0.toUInt32.toUInt16.toUInt32.toInt32))]))
  refine own_step (fun t k => XS.istoreN X.here hx rfl (hb hby at_2) rfl (l' := #[.val (.int i0), .val (.int (i0.toUInt32.toUInt16.toUInt32.toInt32)), .unset, .unset, .unset]) rfl k) ?_
  show own_Fin p e below s Q 0 0 (T.setTop (mkF m 3 #[.val (.int i0), .val (.int (i0.toUInt32.toUInt16.toUInt32.toInt32)), .unset, .unset, .unset] []))
  refine own_step (fun t k => XS.iloadN X.here hx rfl (hb hby at_3) rfl  k) ?_
  show own_Fin p e below s Q 0 0 (T.setTop (mkF m 4 #[.val (.int i0), .val (.int (i0.toUInt32.toUInt16.toUInt32.toInt32)), .unset, .unset, .unset] [(.int (i0.toUInt32.toUInt16.toUInt32.toInt32))]))
  refine own_step (fun t k => XS.bipush X.here hx rfl (hb hby at_4) k) ?_
  show own_Fin p e below s Q 0 0 (T.setTop (mkF m 6 #[.val (.int i0), .val (.int (i0.toUInt32.toUInt16.toUInt32.toInt32)), .unset, .unset, .unset] [(.int (32 : Int32)), (.int (i0.toUInt32.toUInt16.toUInt32.toInt32))]))
  refine own_step (fun t k => XS.ior X.here hx rfl (hb hby at_6) rfl k) ?_
  show own_Fin p e below s Q 0 0 (T.setTop (mkF m 7 #[.val (.int i0), .val (.int (i0.toUInt32.toUInt16.toUInt32.toInt32)), .unset, .unset, .unset] [(.int ((i0.toUInt32.toUInt16.toUInt32.toInt32) ||| (32 : Int32)))]))
  refine own_step (fun t k => XS.istoreN X.here hx rfl (hb hby at_7) rfl (l' := #[.val (.int i0), .val (.int (i0.toUInt32.toUInt16.toUInt32.toInt32)), .val (.int ((i0.toUInt32.toUInt16.toUInt32.toInt32) ||| (32 : Int32))), .unset, .unset]) rfl k) ?_
  show own_Fin p e below s Q 0 0 (T.setTop (mkF m 8 #[.val (.int i0), .val (.int (i0.toUInt32.toUInt16.toUInt32.toInt32)), .val (.int ((i0.toUInt32.toUInt16.toUInt32.toInt32) ||| (32 : Int32))), .unset, .unset] []))
  refine own_step (fun t k => XS.iloadN X.here hx rfl (hb hby at_8) rfl  k) ?_
  show own_Fin p e below s Q 0 0 (T.setTop (mkF m 9 #[.val (.int i0), .val (.int (i0.toUInt32.toUInt16.toUInt32.toInt32)), .val (.int ((i0.toUInt32.toUInt16.toUInt32.toInt32) ||| (32 : Int32))), .unset, .unset] [(.int ((i0.toUInt32.toUInt16.toUInt32.toInt32) ||| (32 : Int32)))]))
  refine own_step (fun t k => XS.bipush X.here hx rfl (hb hby at_9) k) ?_
  show own_Fin p e below s Q 0 0 (T.setTop (mkF m 11 #[.val (.int i0), .val (.int (i0.toUInt32.toUInt16.toUInt32.toInt32)), .val (.int ((i0.toUInt32.toUInt16.toUInt32.toInt32) ||| (32 : Int32))), .unset, .unset] [(.int (97 : Int32)), (.int ((i0.toUInt32.toUInt16.toUInt32.toInt32) ||| (32 : Int32)))]))
  by_cases hB11_16 : ((i0.toUInt32.toUInt16.toUInt32.toInt32) ||| (32 : Int32)) < (97 : Int32)
  · refine own_step (fun t k => XS.icmpYes X.here hx rfl (pc0 := 11) (pc' := 24) rfl (hb hby at_11) rfl (tlt hB11_16).1 (by decide) (by decide) k) ?_
    exact b0_24 i0 (i0.toUInt32.toUInt16.toUInt32.toInt32) ((i0.toUInt32.toUInt16.toUInt32.toInt32) ||| (32 : Int32)) hw X hx hZ hby hml hown hret hlk eT N (by omega) (by omega) v (hv.trans (if_pos hB11_16)) hQ
  · refine own_step (fun t k => XS.icmpNo X.here hx rfl (hb hby at_11) rfl (flt hB11_16).1 k) ?_
    exact b0_14 i0 (i0.toUInt32.toUInt16.toUInt32.toInt32) ((i0.toUInt32.toUInt16.toUInt32.toInt32) ||| (32 : Int32)) hw X hx hZ hby hml hown hret hlk eT N (by omega) (by omega) v (hv.trans (if_neg hB11_16)) hQ
theorem pnm_1 : plainName "com/example/caddisfly/caddisfly/template/GapIsNameStartPinLaw" = true := by first | (simp [plainName, overriddenIn]; done) | decide +kernel
theorem pdm_1 : parseMethodDescriptor "(I)Z" = some ⟨[.int], some .boolean⟩ := by decide +kernel
theorem ef_0 (m : MethodId) (i0 : Int32) : entryFrame m #[(.int i0)] maxLocals = (mkF m 0 #[.val (.int i0), .unset, .unset, .unset, .unset] []) := by first | (simp [entryFrame, mkF, argsToLocals, Value.category, maxLocals]; done) | rfl
def Q0 (i0 : Int32) (h0 : Heap) (n0 : Nat) (v : Option Value) (h : Heap) (L : List Loc) : Prop := v = some (.int (f0_0 i0)) ∧ Fr n0 L ∧ h = h0
set_option maxRecDepth 65536 in
set_option maxHeartbeats 4000000 in
theorem rm0 (l : Launch) (Z : State) (a0 : Array Value) (hw : ∀ d ∈ tables_1, d.before a0 Z = true) (ws : List Jvm.Cond) (i0 : Int32) (h0 : Heap) (n0 : Nat) :
    MetFree l x (head1 (Jvm.Cond.code x code maxLocals ret :: ws) room_1) (fun a U => a = #[(.int i0)] ∧ Z.Warmed39 U.vm ∧ U.heap = h0) (fun _ _ _ _ _ => True) (fun _ U o U' => ∃ v L, o = .returned v ∧ Q0 i0 h0 n0 v U'.heap L ∧ FrameEnd U o U' L 0 0) := by
  refine MetFree.of_bodySF (plainFor_of_name pnm_1) hisR ?_
  intro p e s m args below meth c s₁ Bd hml0 hP hK
  obtain ⟨rfl, hZ, hh⟩ := hP
  have hx := Bd.exec
  have hby := Bd.bytes
  have hml : c.maxLocals = 5 := hml0
  have hown : s.vm.findClass "com/example/caddisfly/caddisfly/template/GapIsNameStartPinLaw" = some m.cls := findClass_of_methodNamed Bd.named
  have X0 : Stand p l e room_1 s m #[(.int i0)] below meth c s₁ [] 0 0 := Stand.of_body Bd
  have e0 : s₁.heap = h0 := by rw [← hh, Bd.state]; rfl
  have fin := b0_0 i0 (Q := Q0 i0 h0 n0) hw X0 hx hZ hby hml hown Bd.returns (BodyLoose.notSynchronized Bd) e0 (Fr.nil n0) (Nat.zero_le _) (Nat.zero_le _) _ rfl (fun L' n' => ⟨rfl, n', rfl⟩)
  exact own_step (fun t k => castTop (ef_0 m i0) k) fin
theorem own_fold0 : ∀ k : Fin 128, (97 ≤ ((Int32.ofInt (k.1 : Int)) ||| (32 : Int32)).toInt ∧ ((Int32.ofInt (k.1 : Int)) ||| (32 : Int32)).toInt ≤ 122) ↔ (65 ≤ (k.1 : Int) ∧ (k.1 : Int) ≤ 90) ∨ (97 ≤ (k.1 : Int) ∧ (k.1 : Int) ≤ 122) := by decide +kernel
theorem own_fold (x : Int32) : (97 ≤ (x ||| (32 : Int32)).toInt ∧ (x ||| (32 : Int32)).toInt ≤ 122) ↔ (65 ≤ x.toInt ∧ x.toInt ≤ 90) ∨ (97 ≤ x.toInt ∧ x.toInt ≤ 122) := by
  by_cases h0 : x.toInt < 0
  · have h1 := (c_orS x 32).2.1 h0
    omega
  · by_cases h1 : x.toInt < 128
    · have h2 := own_fold0 ⟨x.toInt.toNat, by omega⟩
      have h3 : ((x.toInt.toNat : Nat) : Int) = x.toInt := Int.toNat_of_nonneg (by omega)
      have h4 : Int32.ofInt ((x.toInt.toNat : Nat) : Int) = x := by rw [h3]; exact Int32.ofInt_toInt x
      dsimp only at h2
      rw [h4, h3] at h2
      exact h2
    · have h2 := (c_or0 x 32 (by omega) (by decide)).1
      omega
theorem own_c1_35_1 (x : Int32) : (True → f1_35 x (1 : Int32) = 1) ∧ (¬ (True) → f1_35 x (1 : Int32) = 0) := by
  exact ⟨fun d => rfl, fun d => absurd trivial d⟩
theorem own_c1_30 (x : Int32) : (True → f1_30 x = 1) ∧ (¬ (True) → f1_30 x = 0) := by
  exact own_c1_35_1 x
theorem own_c1_35_0 (x : Int32) : (False → f1_35 x (0 : Int32) = 1) ∧ (¬ (False) → f1_35 x (0 : Int32) = 0) := by
  exact ⟨fun d => False.elim d, fun d => rfl⟩
theorem own_c1_34 (x : Int32) : (False → f1_34 x = 1) ∧ (¬ (False) → f1_34 x = 0) := by
  exact own_c1_35_0 x
theorem own_c1_24 (x : Int32) : (x.toInt = 95 → f1_24 x = 1) ∧ (¬ (x.toInt = 95) → f1_24 x = 0) := by
  have hi : (x = (95 : Int32)) ↔ x.toInt = 95 := own_eqi (by decide)
  have r1 := Int32.le_toInt x
  have r2 := Int32.toInt_lt x
  by_cases hB : x = (95 : Int32)
  · have hb : x.toInt = 95 := hi.mp hB
    exact ⟨fun d => ((if_pos hB) : f1_24 x = _).trans ((own_c1_30 x).1 (by first | exact trivial | exact not_false | omega)), fun d => ((if_pos hB) : f1_24 x = _).trans ((own_c1_30 x).2 (by first | exact trivial | exact not_false | omega))⟩
  · have hb : ¬ (x.toInt = 95) := fun y => hB (hi.mpr y)
    exact ⟨fun d => ((if_neg hB) : f1_24 x = _).trans ((own_c1_34 x).1 (by first | exact trivial | exact not_false | omega)), fun d => ((if_neg hB) : f1_24 x = _).trans ((own_c1_34 x).2 (by first | exact trivial | exact not_false | omega))⟩
theorem own_c1_18 (x : Int32) : (x.toInt ≤ 90 ∨ x.toInt = 95 → f1_18 x = 1) ∧ (¬ (x.toInt ≤ 90 ∨ x.toInt = 95) → f1_18 x = 0) := by
  have hi : ((90 : Int32) < x) ↔ 90 < x.toInt := Int32.lt_iff_toInt_lt
  have r1 := Int32.le_toInt x
  have r2 := Int32.toInt_lt x
  by_cases hB : (90 : Int32) < x
  · have hb : 90 < x.toInt := hi.mp hB
    exact ⟨fun d => ((if_pos hB) : f1_18 x = _).trans ((own_c1_24 x).1 (by first | exact trivial | exact not_false | omega)), fun d => ((if_pos hB) : f1_18 x = _).trans ((own_c1_24 x).2 (by first | exact trivial | exact not_false | omega))⟩
  · have hb : ¬ (90 < x.toInt) := fun y => hB (hi.mpr y)
    exact ⟨fun d => ((if_neg hB) : f1_18 x = _).trans ((own_c1_30 x).1 (by first | exact trivial | exact not_false | omega)), fun d => ((if_neg hB) : f1_18 x = _).trans ((own_c1_30 x).2 (by first | exact trivial | exact not_false | omega))⟩
theorem own_c1_12 (x : Int32) : ((65 ≤ x.toInt ∧ x.toInt ≤ 90) ∨ x.toInt = 95 → f1_12 x = 1) ∧ (¬ ((65 ≤ x.toInt ∧ x.toInt ≤ 90) ∨ x.toInt = 95) → f1_12 x = 0) := by
  have hi : (x < (65 : Int32)) ↔ x.toInt < 65 := Int32.lt_iff_toInt_lt
  have r1 := Int32.le_toInt x
  have r2 := Int32.toInt_lt x
  by_cases hB : x < (65 : Int32)
  · have hb : x.toInt < 65 := hi.mp hB
    exact ⟨fun d => ((if_pos hB) : f1_12 x = _).trans ((own_c1_24 x).1 (by first | exact trivial | exact not_false | omega)), fun d => ((if_pos hB) : f1_12 x = _).trans ((own_c1_24 x).2 (by first | exact trivial | exact not_false | omega))⟩
  · have hb : ¬ (x.toInt < 65) := fun y => hB (hi.mpr y)
    exact ⟨fun d => ((if_neg hB) : f1_12 x = _).trans ((own_c1_18 x).1 (by first | exact trivial | exact not_false | omega)), fun d => ((if_neg hB) : f1_12 x = _).trans ((own_c1_18 x).2 (by first | exact trivial | exact not_false | omega))⟩
theorem own_c1_6 (x : Int32) : (x.toInt ≤ 122 → f1_6 x = 1) ∧ (¬ (x.toInt ≤ 122) → f1_6 x = 0) := by
  have hi : ((122 : Int32) < x) ↔ 122 < x.toInt := Int32.lt_iff_toInt_lt
  have r1 := Int32.le_toInt x
  have r2 := Int32.toInt_lt x
  by_cases hB : (122 : Int32) < x
  · have hb : 122 < x.toInt := hi.mp hB
    exact ⟨fun d => ((if_pos hB) : f1_6 x = _).trans ((own_c1_12 x).1 (by first | exact trivial | exact not_false | omega)), fun d => ((if_pos hB) : f1_6 x = _).trans ((own_c1_12 x).2 (by first | exact trivial | exact not_false | omega))⟩
  · have hb : ¬ (122 < x.toInt) := fun y => hB (hi.mpr y)
    exact ⟨fun d => ((if_neg hB) : f1_6 x = _).trans ((own_c1_30 x).1 (by first | exact trivial | exact not_false | omega)), fun d => ((if_neg hB) : f1_6 x = _).trans ((own_c1_30 x).2 (by first | exact trivial | exact not_false | omega))⟩
theorem own_c1_0 (x : Int32) : ((65 ≤ x.toInt ∧ x.toInt ≤ 90) ∨ x.toInt = 95 ∨ (97 ≤ x.toInt ∧ x.toInt ≤ 122) → f1_0 x = 1) ∧ (¬ ((65 ≤ x.toInt ∧ x.toInt ≤ 90) ∨ x.toInt = 95 ∨ (97 ≤ x.toInt ∧ x.toInt ≤ 122)) → f1_0 x = 0) := by
  have hi : (x < (97 : Int32)) ↔ x.toInt < 97 := Int32.lt_iff_toInt_lt
  have r1 := Int32.le_toInt x
  have r2 := Int32.toInt_lt x
  by_cases hB : x < (97 : Int32)
  · have hb : x.toInt < 97 := hi.mp hB
    exact ⟨fun d => ((if_pos hB) : f1_0 x = _).trans ((own_c1_12 x).1 (by first | exact trivial | exact not_false | omega)), fun d => ((if_pos hB) : f1_0 x = _).trans ((own_c1_12 x).2 (by first | exact trivial | exact not_false | omega))⟩
  · have hb : ¬ (x.toInt < 97) := fun y => hB (hi.mpr y)
    exact ⟨fun d => ((if_neg hB) : f1_0 x = _).trans ((own_c1_6 x).1 (by first | exact trivial | exact not_false | omega)), fun d => ((if_neg hB) : f1_0 x = _).trans ((own_c1_6 x).2 (by first | exact trivial | exact not_false | omega))⟩
theorem own_30 (a c d e : Int32) (hc : c = 95 → f1_0 c = 1) (hn : ¬ c = 95 → f1_0 c = 0) : f0_30 a c d e = 1 := by
  unfold f0_30
  by_cases h : c = 95
  · rw [if_pos h]
    unfold f0_36 f0_41
    rw [if_pos (hc h)]
    rfl
  · rw [if_neg h]
    unfold f0_40 f0_41
    rw [if_pos (hn h)]
    rfl
theorem own_law (i0 : Int32) : f0_0 i0 = 1 := by
  unfold f0_0
  generalize (i0.toUInt32.toUInt16.toUInt32.toInt32) = x
  have q1 : (x ||| (32 : Int32)) < (97 : Int32) ↔ (x ||| (32 : Int32)).toInt < 97 := Int32.lt_iff_toInt_lt
  have q2 : (122 : Int32) < (x ||| (32 : Int32)) ↔ 122 < (x ||| (32 : Int32)).toInt := Int32.lt_iff_toInt_lt
  have q3 : x = (95 : Int32) ↔ x.toInt = 95 := own_eqi (by decide)
  have h1 := own_c1_0 x
  have h3 := own_fold x
  have k0 : ¬ (97 ≤ (x ||| (32 : Int32)).toInt ∧ (x ||| (32 : Int32)).toInt ≤ 122) → f0_30 i0 x (x ||| (32 : Int32)) 0 = 1 := fun d =>
    own_30 _ _ _ _ (fun y => h1.1 (by have := q3.mp y; omega)) (fun y => h1.2 (by have : ¬ x.toInt = 95 := fun z => y (q3.mpr z); omega))
  have k1 : (97 ≤ (x ||| (32 : Int32)).toInt ∧ (x ||| (32 : Int32)).toInt ≤ 122) → f0_20 i0 x (x ||| (32 : Int32)) = 1 := fun d => by
    show f0_36 i0 x (x ||| (32 : Int32)) 1 = 1
    unfold f0_36 f0_41
    rw [if_pos (h1.1 (by have := h3.mp d; omega))]
    rfl
  by_cases a1 : (x ||| (32 : Int32)) < (97 : Int32)
  · rw [if_pos a1]
    have := q1.mp a1
    exact k0 (by omega)
  · rw [if_neg a1]
    have a1' : ¬ (x ||| (32 : Int32)).toInt < 97 := fun y => a1 (q1.mpr y)
    unfold f0_14
    by_cases a2 : (122 : Int32) < (x ||| (32 : Int32))
    · rw [if_pos a2]
      have := q2.mp a2
      exact k0 (by omega)
    · rw [if_neg a2]
      have a2' : ¬ 122 < (x ||| (32 : Int32)).toInt := fun y => a2 (q2.mpr y)
      exact k1 (by omega)
set_option maxRecDepth 65536 in
set_option maxHeartbeats 40000000 in
theorem comes_1 {Post : Tables → Env → Array Value → State → Outcome → State → Prop} (hpost : ∀ tb e args s v u, (limb_1_1.after args s (.returned v) u = true ∧ limb_1_2.after args s (.returned v) u = true ∧ True) → FrameEnd s (.returned v) u (Jvm.fieldLocs frame_1_writes args s ++ Jvm.arrayLocs frame_1_arrays args s ++ Jvm.staticLocs frame_1_statics s) 0 0 → Post tb e args s (.returned v) u) :
    ArmFor flags0 classFile x code maxLocals ret World_1 tables_1 room_1 Calls_1 rest_1 Pre_1 Post := by
  intro l hfl _ _ p e ha hc hk s m args below hf hA hF happ hP
  obtain ⟨hcalls, hrest, hpre⟩ := hP
  obtain ⟨-, -, -, hnamed, -, -, -, hat⟩ := (Spec.applies_iff hf).mp happ
  obtain ⟨hg, hn⟩ := and_e (Cond.before_iff.mp (show (Jvm.Cond.and given_1 narrow_1).before args s = true from hpre))
  obtain ⟨g1, g2⟩ := and_e hg
  obtain ⟨w0, rfl⟩ : ∃ w0 : Value, args = #[w0] := by
    have hs : args.size = 1 := by simpa [Cond.value, given_1] using g1
    obtain ⟨L⟩ := args
    match L, hs with
    | [w0], _ => exact ⟨w0, rfl⟩
  have hw := fun d (hd : d ∈ tables_1) => atoms_spec (ws := Jvm.Cond.code x code maxLocals ret :: tables_1) hat d (List.mem_cons_of_mem _ hd)
  obtain ⟨i0, ei0⟩ := is_v g2
  obtain rfl : w0 = (.int i0) := Option.some.inj ei0
  obtain ⟨n, o, h1, h2, h3, _, L, rfl, ⟨hval, N, -⟩, hq⟩ := rm0 l s _ hw tables_1 i0 s.heap s.heap.size p e ha hc hk s m _ below hf ((Spec.applies_iff_loose hf).mp happ).1 ⟨rfl, State.Warmed39.refl s, rfl⟩ trivial
  rw [own_law i0] at hval
  subst hval
  refine ⟨n, _, h1, h2, h3, hpost _ _ _ _ _ _ ⟨Cond.after_iff.mpr rfl, Cond.after_iff.mpr (eq_i res_at (Term.int_eval (1)) rfl), trivial⟩ ⟨hq.1, hq.2.1, (hq.2.2.sift fun y hy => Or.inr (N y hy)).mono (by decide) (by decide)⟩⟩
theorem main_1_1 : Claimed_1_1 := comes_1 fun _ _ _ _ _ _ h hF => ⟨h.1, hF⟩
theorem main_1_2 : Claimed_1_2 := comes_1 fun _ _ _ _ _ _ h hF => ⟨h.2.1, hF⟩
end Jvm.Pilot.@@N@@
namespace Jvm.Pilot.@@N@@
open Jvm Jvm.ClassFile Sem Op Lib Jvm.Free Jvm.Stand Jvm.Pilot.@@N@@.Jvm.D
/-! MADE BY PROGRAM (witnessworld.py) out of the Statement's table words and the real class files: 10 classes; the members and pool entries that the words name. The judged class is class 1, her method 1. -/
namespace start1
open Jvm.ClassFile
def u (s : String) : CpInfo := .utf8 (stringToUtf16 s)
/-- a pool by its gaps: so many unusable entries, then the entry; so many at the end -/
def gap : Nat → List CpInfo → List CpInfo
  | 0, r => r
  | n + 1, r => .unusable :: gap n r
def poolList (es : List (Nat × CpInfo)) (last : Nat) : List CpInfo := es.foldr (fun e r => gap e.1 (e.2 :: r)) (gap last [])
def pool (es : List (Nat × CpInfo)) (last : Nat) : Array CpInfo := ⟨poolList es last⟩
def fileOf (pool : Array CpInfo) (this : Nat) (attrs : Array Attribute := #[]) (ms : Array MethodInfo := #[]) (fl : Nat := 33) (sup : Nat := 0) (ifs : Array Nat := #[]) (fds : Array FieldInfo := #[]) : ClassFile where
  minorVersion := 0
  majorVersion := 65
  constantPool := pool
  accessFlags := fl
  thisClass := this
  superClass := sup
  interfaces := ifs
  fields := fds
  methods := ms
  attributes := attrs
def plain (name : String) (sup : Option ClassId) : Class where
  name := name
  kind := .ordinary
  loader := none
  accessFlags := 33
  super := sup
  interfaces := #[]
  cf := none
  fields := #[]
  methods := #[]
  instanceTypes := #[]
  staticTypes := #[]
  resolved := #[]
  callSites := []
  init := .initialized
  statics := none
  mirror := none

def pool0 : Array CpInfo := pool [(5, u "<init>"), (0, u "()V"), (1, .class_ 10), (1, u "java/lang/Object")] 113

def k0m0 : Method := { name := "<init>", desc := "()V", sig := { parameters := [], returnType := none }, accessFlags := 1, code := none }
/-- java/lang/Object -/
def k0 : Class := { plain "java/lang/Object" none with
  accessFlags := 33
  interfaces := #[]
  cf := some (fileOf pool0 8 #[] #[{ accessFlags := 1, nameIndex := 5, descriptorIndex := 6, attributes := #[] }] 33 0 #[] #[])
  fields := #[]
  methods := #[k0m0]
  instanceTypes := #[]
  staticTypes := #[]
  resolved := Array.replicate 124 none
  statics := none }

def pool1 : Array CpInfo := pool [(2, .class_ 4), (1, u "java/lang/Object"), (0, u "<init>"), (0, u "()V"), (0, .methodref 8 9), (0, .class_ 10), (0, .nameAndType 11 12), (0, u "com/example/caddisfly/caddisfly/template/Gap"), (0, u "isNameStart"), (0, u "(C)Z"), (0, .class_ 14), (0, u "com/example/caddisfly/caddisfly/template/GapIsNameStartPinLaw"), (2, u "law"), (0, u "(I)Z")] 3

def k1m0 : Method := { name := "<init>", desc := "()V", sig := { parameters := [], returnType := none }, accessFlags := 1, code := none }
def k1c1 : Code := { maxStack := 2, maxLocals := 5, code := code, exceptionTable := #[], attributes := #[] }
def k1m1 : Method := { name := "law", desc := "(I)Z", sig := { parameters := [.int], returnType := some .boolean }, accessFlags := 9, code := some k1c1 }
/-- com/example/caddisfly/caddisfly/template/GapIsNameStartPinLaw -/
def k1 : Class := { plain "com/example/caddisfly/caddisfly/template/GapIsNameStartPinLaw" (some 0) with
  accessFlags := 49
  interfaces := #[]
  cf := some (fileOf pool1 13 #[] #[{ accessFlags := 1, nameIndex := 5, descriptorIndex := 6, attributes := #[] }, { accessFlags := 9, nameIndex := 17, descriptorIndex := 18, attributes := #[] }] 49 2 #[] #[])
  fields := #[]
  methods := #[k1m0, k1m1]
  instanceTypes := #[]
  staticTypes := #[]
  resolved := Array.replicate 22 none
  statics := none }

def pool2 : Array CpInfo := pool [(2, .class_ 4), (1, u "java/lang/Object"), (0, u "<init>"), (0, u "()V"), (0, .class_ 8), (0, u "com/example/caddisfly/caddisfly/template/Node")] 13

def k2m0 : Method := { name := "<init>", desc := "()V", sig := { parameters := [], returnType := none }, accessFlags := 1, code := none }
/-- com/example/caddisfly/caddisfly/template/Node -/
def k2 : Class := { plain "com/example/caddisfly/caddisfly/template/Node" (some 0) with
  accessFlags := 1057
  interfaces := #[]
  cf := some (fileOf pool2 7 #[] #[{ accessFlags := 1, nameIndex := 5, descriptorIndex := 6, attributes := #[] }] 1057 2 #[] #[])
  fields := #[]
  methods := #[k2m0]
  instanceTypes := #[]
  staticTypes := #[]
  resolved := Array.replicate 22 none
  statics := none }

def pool3 : Array CpInfo := pool [(2, .class_ 4), (1, u "com/example/caddisfly/caddisfly/template/Node"), (9, .class_ 16), (1, u "com/example/caddisfly/caddisfly/template/Gap"), (0, u "_name"), (0, u "Ljava/lang/String;"), (24, u "isNameStart"), (0, u "(C)Z"), (9, u "NAME_RULE")] 26

def k3c0 : Code := { maxStack := 2, maxLocals := 1, code := prog_169_method_5_code, exceptionTable := #[], attributes := #[] }
def k3m0 : Method := { name := "isNameStart", desc := "(C)Z", sig := { parameters := [.char], returnType := some .boolean }, accessFlags := 8, code := some k3c0 }
/-- com/example/caddisfly/caddisfly/template/Gap -/
def k3 : Class := { plain "com/example/caddisfly/caddisfly/template/Gap" (some 2) with
  accessFlags := 49
  interfaces := #[]
  cf := some (fileOf pool3 14 #[] #[{ accessFlags := 8, nameIndex := 43, descriptorIndex := 44, attributes := #[] }] 49 2 #[] #[{ accessFlags := 24, nameIndex := 54, descriptorIndex := 18, attributes := #[] }, { accessFlags := 18, nameIndex := 17, descriptorIndex := 18, attributes := #[] }])
  fields := #[{ name := "NAME_RULE", type := (.object "java/lang/String"), accessFlags := 24, slot := 0, constantValue := 0 }, { name := "_name", type := (.object "java/lang/String"), accessFlags := 18, slot := 0, constantValue := 0 }]
  methods := #[k3m0]
  instanceTypes := #[(.object "java/lang/String")]
  staticTypes := #[(.object "java/lang/String")]
  resolved := Array.replicate 81 none
  statics := none }

def pool4 : Array CpInfo := pool [(1, u "java/lang/Cloneable"), (0, .class_ 1), (0, u "java/lang/Object"), (0, .class_ 3)] 3

/-- java/lang/Cloneable -/
def k4 : Class := { plain "java/lang/Cloneable" (some 0) with
  accessFlags := 1537
  interfaces := #[]
  cf := some (fileOf pool4 2 #[] #[] 1537 4 #[] #[])
  fields := #[]
  methods := #[]
  instanceTypes := #[]
  staticTypes := #[]
  resolved := Array.replicate 8 none
  statics := none }

def pool5 : Array CpInfo := pool [(1, u "java/io/Serializable"), (0, .class_ 1), (0, u "java/lang/Object"), (0, .class_ 3)] 3

/-- java/io/Serializable -/
def k5 : Class := { plain "java/io/Serializable" (some 0) with
  accessFlags := 1537
  interfaces := #[]
  cf := some (fileOf pool5 2 #[] #[] 1537 4 #[] #[])
  fields := #[]
  methods := #[]
  instanceTypes := #[]
  staticTypes := #[]
  resolved := Array.replicate 8 none
  statics := none }

/-- the primitive byte -/
def k6 : Class := { plain "byte" none with kind := .primitive 'B', accessFlags := 0x411 }
/-- [B -/
def k7 : Class := { plain "[B" (some 0) with kind := .array 6 .byte, interfaces := #[4, 5], accessFlags := 1041 }

/-- the primitive int -/
def k8 : Class := { plain "int" none with kind := .primitive 'I', accessFlags := 0x411 }
/-- [I -/
def k9 : Class := { plain "[I" (some 0) with kind := .array 8 .int, interfaces := #[4, 5], accessFlags := 1041 }

def heap : Heap := #[]
def classes : Array Class := #[k0, k1, k2, k3, k4, k5, k6, k7, k8, k9]
def interned : List (Array UInt16 × Addr) := []
def slotsUsed : Nat := 0
def theMethod : MethodId := ⟨1, 1⟩
def args0 : Array Value := #[.int 5]
def aboutOver (below : List Frame) : State where
  vm := { classes := classes, interned := interned.toArray }
  heap := heap
  slotsUsed := slotsUsed
  threads := #[{ frames := .invoking theMethod args0 :: below }]
def below0 : List Frame := [.native { method := ⟨0, 0⟩, args := #[] }]
def about1 : State := aboutOver below0
def p0 : Program := .bare "" "" ""
def e0 : Env := launch0.env 0 0 0
theorem w_frames : about1.frames = Frame.invoking theMethod args0 :: below0 := rfl
set_option maxRecDepth 65536 in
theorem w_args : argsFit about1.vm theMethod args0 = true := by decide +kernel
set_option maxRecDepth 65536 in
theorem w_heap : heapFits about1 = true := by decide +kernel
set_option maxRecDepth 65536 in
theorem w_runnable : about1.curStatus? = some .runnable := by decide +kernel
set_option maxRecDepth 65536 in
theorem w_alone : about1.alone = true := by decide +kernel
set_option maxRecDepth 65536 in
theorem w_named : about1.methodNamed? x = some theMethod := by decide +kernel
set_option maxRecDepth 65536 in
theorem w_hears : about1.hears theMethod below0 = true := by decide +kernel
set_option maxRecDepth 65536 in
theorem w_ripe : about1.ripe theMethod args0 below0 = true := by decide +kernel
theorem w_running : about1.status = .running := rfl
set_option maxRecDepth 65536 in
theorem w_room : about1.hasRoom e0.platform room_1 = true :=
  launch0.hasRoom_least _ room_1 (by decide +kernel) (by decide +kernel) (by decide +kernel) (by decide +kernel) (by decide +kernel) (by decide +kernel)
theorem allAtoms_all (ts : List Jvm.Cond) (a : Array Jvm.Value) (st : Jvm.State) : (allAtoms ts).before a st = ts.all (fun c => c.before a st) := by
  induction ts with
  | nil => rfl
  | cons c t ih =>
    show (Jvm.Cond.and c (allAtoms t)).before a st = _
    rw [Jvm.Cond.before_and, ih, List.all_cons]
def words1 : List Jvm.Cond := Jvm.Cond.code x code maxLocals ret :: tables_1
/-- a 'code' word, met by the world's own term for the bytes: nothing is compared byte by byte -/
theorem code_word {y : MethodName} {bytes : ByteArray} {mx : Nat} {rt : Option FieldType} {a : Array Value} {s : State} {m : MethodId} {meth : Method} {c : Code} (h1 : s.methodNamed? y = some m) (h2 : s.vm.method? m = some meth) (h3 : meth.code = some c) (h4 : c.code = bytes)
    (h5 : (c.maxLocals == mx && c.exceptionTable.isEmpty && decide (c.maxStack ≤ mostOperands) && decide (meth.sig.returnType = rt) && !meth.locks && decide (parseMethodDescriptor y.desc = some meth.sig)) = true) : (Jvm.Cond.code y bytes mx rt).before a s = true := by
  simp only [Bool.and_eq_true, beq_iff_eq, Bool.not_eq_true', decide_eq_true_eq] at h5
  obtain ⟨⟨⟨⟨⟨g1, g2⟩, g3⟩, g4⟩, g5⟩, g6⟩ := h5
  simp [Cond.before, Cond.holds, Cond.value, h1, h2, h3, h4, g1, g2, g3, g4, g5, g6]
def isCode : Jvm.Cond → Bool
  | .code _ _ _ _ => true
  | _ => false
theorem all_split {L : List Jvm.Cond} {P : Jvm.Cond → Bool} (h1 : L.all (fun c => isCode c || P c) = true) (h2 : ∀ c ∈ L.filter isCode, P c = true) : L.all P = true := by
  refine List.all_eq_true.mpr fun c hc => ?_
  have h := List.all_eq_true.mp h1 c hc
  rcases Bool.eq_false_or_eq_true (isCode c) with hi | hi
  · exact h2 c (List.mem_filter.mpr ⟨hc, hi⟩)
  · simpa [hi] using h
set_option maxRecDepth 65536 in
theorem w_c0 : (Jvm.Cond.code x code maxLocals ret).before args0 about1 = true := code_word (m := ⟨1, 1⟩) (meth := k1m1) (c := k1c1) (by decide +kernel) rfl rfl rfl (by decide +kernel)
set_option maxRecDepth 65536 in
theorem w_c1 : (Jvm.Cond.code ({ cls := "com/example/caddisfly/caddisfly/template/Gap", name := "isNameStart", desc := "(C)Z" } : Jvm.MethodName) prog_169_method_5_code (1 : Nat) (Option.some Jvm.ClassFile.FieldType.boolean)).before args0 about1 = true := code_word (m := ⟨3, 0⟩) (meth := k3m0) (c := k3c0) (by decide +kernel) rfl rfl rfl (by decide +kernel)
def codes1 : List Jvm.Cond := [Jvm.Cond.code x code maxLocals ret, Jvm.Cond.code ({ cls := "com/example/caddisfly/caddisfly/template/Gap", name := "isNameStart", desc := "(C)Z" } : Jvm.MethodName) prog_169_method_5_code (1 : Nat) (Option.some Jvm.ClassFile.FieldType.boolean)]
set_option maxRecDepth 65536 in
theorem codes_eq : words1.filter isCode = codes1 := rfl
theorem w_codes : ∀ c ∈ words1.filter isCode, c.before args0 about1 = true := by
  rw [codes_eq]
  intro c hc
  simp only [codes1, List.mem_cons, List.not_mem_nil, or_false] at hc
  rcases hc with rfl | rfl
  · exact w_c0
  · exact w_c1
set_option maxRecDepth 65536 in
theorem w_t1 : words1.all (fun c => isCode c || c.before args0 about1) = true := by decide +kernel
theorem w_tables : (allAtoms (Jvm.Cond.code x code maxLocals ret :: tables_1)).before args0 about1 = true := by
  rw [allAtoms_all]
  show words1.all (fun c => c.before args0 about1) = true
  refine all_split ?_ w_codes
  rw [w_t1]
set_option maxRecDepth 65536 in
theorem w_case : (Jvm.Cond.and given_1 narrow_1).before args0 about1 = true := by decide +kernel
theorem w_applies : (headSpec (Jvm.Cond.code x code maxLocals ret :: tables_1) room_1).applies x e0.platform about1 = true :=
  (Spec.applies_iff w_frames).mpr ⟨w_running, w_runnable, w_alone, w_named, w_hears, w_ripe, w_room, w_tables⟩
theorem atStart : AtStart classFile x code maxLocals ret World_1 tables_1 room_1 Calls_1 rest_1 Pre_1 launch0 p0 e0 about1 theMethod args0 below0 :=
  ⟨lists_1, trivial, launch0.admits_env _ _ _, launch0.least_env, fairChoices_fair.cas, fairChoices_fair.clock, w_frames, w_args, w_heap, w_applies, trivial, trivial, w_case⟩
end start1
theorem witness_1 : WitnessClaimed_1 := ⟨start1.p0, start1.e0, start1.about1, start1.theMethod, start1.args0, start1.below0, start1.atStart⟩
end Jvm.Pilot.@@N@@

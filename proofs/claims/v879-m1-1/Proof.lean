import JvmDerived
import JvmDerived.Pilot.@@N@@Statement
import JvmDerived.Pilot.@@N@@Code
set_option linter.unusedVariables false
set_option linter.unusedSimpArgs false
namespace Jvm.RoadKit
open Sem ClassFile Op Lib Jvm.Stand Jvm.Free Jvm.LawKit
section New
variable {p : Program} {l : Launch} {e : Env} {R : Room} {s : State} {m : MethodId} {args : Array Value} {below : List Frame} {meth : Method} {c : Code} {T : State} {locs : List Loc} {cells slots : Nat}
theorem retI (X : Stand p l e R s m args below meth c T locs cells slots) (hx : p.tables.exec = Jvm.exec) {pc : Nat} {Ls : Array Slot} {z : Int32} {rest : List Value} (hret : meth.sig.returnType = some .int) (hd : decode c.code pc = .ok (.ireturn, 1)) {fs : List Frame}
    (hl : ∀ (f : JFrame) (acts : List Action), f.method = m → f.locked = none → f.entered = [] → (doReturn e (T.setTop f) acts (some (.int z))).1 = T.setFrames fs) : Steps p.tables e below (T.setTop (mkF m pc Ls (.int z :: rest))) (T.setFrames fs) := by
  have hm' : T.vm.method? m = some meth := X.method'
  have hn : narrow .int (.int z) = .int z := rfl
  show Steps p.tables e below (T.setTop { method := m, pc := pc, locals := Ls, stack := _ :: rest, locked := none }) _
  jvm_step X.here [X.here.top, hx, hd, hm', hret, hn]
  first | (intro acts; rw [hl _ acts rfl rfl rfl]) | rw [hl _ _ rfl rfl rfl]
  exact Steps.refl _
end New
end Jvm.RoadKit
namespace Jvm.Pilot.@@N@@
open Jvm Jvm.ClassFile Sem Op Lib Jvm.Free Jvm.Stand Jvm.LawKit Jvm.RoadKit Bundle Jvm.Pilot.@@N@@.Jvm.D
section OwnKit
variable {p : Program} {l : Launch} {e : Env} {R : Room} {s : State} {m : MethodId} {args : Array Value} {below : List Frame} {meth : Method} {c : Code} {T : State} {locs : List Loc} {cells slots : Nat}
/-- what a body owes from the state A on: it comes to its return, and what it returned, the heap and the written places satisfy Q -/
def own_Fin (p : Program) (e : Env) (below : List Frame) (s : State) (Q : Option Value → Heap → List Loc → Prop) (rc rs : Nat) (A : State) : Prop :=
  ∃ s₂ o, Steps p.tables e below A s₂ ∧ s₂.status = .running ∧ Ended s₂ below o ∧ ∃ v L, o = .returned v ∧ Q v s₂.heap L ∧ FrameEnd s o s₂ L rc rs
theorem own_step {Q : Option Value → Heap → List Loc → Prop} {rc rs : Nat} {A B : State} (k : ∀ t, Steps p.tables e below B t → Steps p.tables e below A t) (h : own_Fin p e below s Q rc rs B) : own_Fin p e below s Q rc rs A := by
  obtain ⟨s₂, o, h1, h2⟩ := h
  exact ⟨s₂, o, k _ h1, h2⟩
theorem own_retN (X : Stand p l e R s m args below meth c T locs cells slots) (hx : p.tables.exec = Jvm.exec) (hlk : meth.locks = false) {Q : Option Value → Heap → List Loc → Prop} {rc rs n0 : Nat} {h : Heap} {pc : Nat} {Ls : Array Slot} {z v : Int32} {t : FieldType} {rest : List Value} (hret : meth.sig.returnType = some t) (ht : t = .boolean ∨ t = .byte ∨ t = .char ∨ t = .short)
    (hd : decode c.code pc = .ok (.ireturn, 1)) (hc : cells ≤ rc) (hs : slots ≤ rs) (eT : T.heap = h) (N : Fr n0 locs) (hQ : ∀ L', Fr n0 L' → Q (some (.int v)) h L') (hv : v = nar t z) :
    own_Fin p e below s Q rc rs (T.setTop (mkF m pc Ls (.int z :: rest))) := by
  subst hv
  obtain ⟨fs, hr, hrun, hended, hW, hsame⟩ := X.leave (v := some (.int (nar t z))) (fun h => by rw [hret] at h; cases h) hlk
  refine ⟨_, _, retN X hx hret ht hd hr, hrun, hended, _, _, rfl, ?_, ⟨_, rfl⟩, hW, hsame.mono hc hs⟩
  show Q _ T.heap _
  rw [eT]
  exact hQ _ N
theorem own_retI (X : Stand p l e R s m args below meth c T locs cells slots) (hx : p.tables.exec = Jvm.exec) (hlk : meth.locks = false) {Q : Option Value → Heap → List Loc → Prop} {rc rs n0 : Nat} {h : Heap} {pc : Nat} {Ls : Array Slot} {z v : Int32} {rest : List Value} (hret : meth.sig.returnType = some .int)
    (hd : decode c.code pc = .ok (.ireturn, 1)) (hc : cells ≤ rc) (hs : slots ≤ rs) (eT : T.heap = h) (N : Fr n0 locs) (hQ : ∀ L', Fr n0 L' → Q (some (.int v)) h L') (hv : v = z) :
    own_Fin p e below s Q rc rs (T.setTop (mkF m pc Ls (.int z :: rest))) := by
  subst hv
  obtain ⟨fs, hr, hrun, hended, hW, hsame⟩ := X.leave (v := some (.int v)) (fun h => by rw [hret] at h; cases h) hlk
  refine ⟨_, _, retI X hx hret hd hr, hrun, hended, _, _, rfl, ?_, ⟨_, rfl⟩, hW, hsame.mono hc hs⟩
  show Q _ T.heap _
  rw [eT]
  exact hQ _ N
theorem own_ret0 (X : Stand p l e R s m args below meth c T locs cells slots) (hx : p.tables.exec = Jvm.exec) (hlk : meth.locks = false) {Q : Option Value → Heap → List Loc → Prop} {rc rs : Nat} {h : Heap} {pc : Nat} {Ls : Array Slot} (hret : meth.sig.returnType = none)
    (hd : decode c.code pc = .ok (.return_, 1)) (hc : cells ≤ rc) (hs : slots ≤ rs) (eT : T.heap = h) (hQ : Q none h locs) :
    own_Fin p e below s Q rc rs (T.setTop (mkF m pc Ls [])) := by
  obtain ⟨fs, hr, hrun, hended, hW, hsame⟩ := X.leave (v := none) (fun _ => rfl) hlk
  refine ⟨_, _, X.returnOut hx hret hd hr, hrun, hended, _, _, rfl, ?_, ⟨_, rfl⟩, hW, hsame.mono hc hs⟩
  show Q _ T.heap _
  rw [eT]
  exact hQ
end OwnKit
/-- an array of n ints (bytes, ..) at a: its i-th is g i -/
def own_AF (Z : State) (h : Heap) (a : Addr) (ty : FieldType) (n : Nat) (g : Nat → Int32) : Prop := ∃ c : Cell, Arr Z h a c ty ∧ c.slots.size = n ∧ ∀ i, i < n → c.slots[i]? = some (.int (g i))
def own_In (n : Nat) (j : Int32) : Prop := ¬ (j < 0 ∨ n ≤ j.toNatClampNeg)
theorem own_AF.lt {Z : State} {h : Heap} {a : Addr} {ty : FieldType} {n : Nat} {g : Nat → Int32} (F : own_AF Z h a ty n g) : a < h.size := by obtain ⟨c, A, -⟩ := F; exact A.lt
theorem own_AFext {Z : State} {h h' : Heap} {a : Addr} {ty : FieldType} {n : Nat} {g : Nat → Int32} (F : own_AF Z h a ty n g) (E : Ext h h') : own_AF Z h' a ty n g := by obtain ⟨c, A, r⟩ := F; exact ⟨c, A.ext E, r⟩
theorem own_AFoth {Z : State} {h h' : Heap} {a b : Addr} {sl : Nat} {v : Value} {ty : FieldType} {n : Nat} {g : Nat → Int32} (F : own_AF Z h b ty n g) (W : Wr h h' a sl v) (q : b ≠ a) : own_AF Z h' b ty n g := by obtain ⟨c, A, r⟩ := F; exact ⟨c, A.other W q, r⟩
theorem own_AFkeep {Z : State} {h h' : Heap} {a : Addr} {ws : List Addr} {ty : FieldType} {n : Nat} {g : Nat → Int32} (F : own_AF Z h a ty n g) (K : Keep h h' ws) (q : a ∉ ws) : own_AF Z h' a ty n g := by obtain ⟨c, A, r⟩ := F; exact ⟨c, ⟨K.2.1 a c A.1 q, A.2⟩, r⟩
theorem own_AFset {Z : State} {h h' : Heap} {a : Addr} {ty : FieldType} {n k : Nat} {g : Nat → Int32} {c : Cell} {x : Int32} (A : Arr Z h a c ty) (S : c.slots.size = n) (H : ∀ i, i < n → c.slots[i]? = some (.int (g i))) (W : Wr h h' a k (.int x)) : own_AF Z h' a ty n (fun i => if i = k then x else g i) := by
  obtain ⟨c', e1, e2, e3, e4, e5, e6, e7⟩ := wr_at W A.1
  refine ⟨c', ⟨e1, ?_⟩, e4.trans S, fun i hi => ?_⟩
  · rw [(e7 rfl).1]; exact A.2
  · by_cases q : i = k
    · subst q
      show c'.slots[i]? = some (.int (if i = i then x else g i))
      rw [if_pos rfl]
      exact (e7 rfl).2.1
    · show c'.slots[i]? = some (.int (if i = k then x else g i))
      rw [e6 i q, if_neg q]
      exact H i hi
theorem own_AFnew {Z : State} {h : Heap} {a : Addr} {k : ClassId} {ty : FieldType} {z : Int32} {n : Nat} (A : Arr Z h a (newA k ty z) ty) (hn : z.toNatClampNeg = n) (hd : defaultValue ty = .int 0 := by rfl) : own_AF Z h a ty n (fun _ => 0) :=
  ⟨_, A, (sz_new _ _ _).trans hn, fun i hi => by
    have hs : (newA k ty z).slots = Array.replicate z.toNatClampNeg (defaultValue ty) := rfl
    rw [hs, hn, hd]
    simp [hi]⟩
theorem own_eqi {x y : Int32} {b : Int} (h : y.toInt = b) : x = y ↔ x.toInt = b := by rw [← h]; exact Int32.toInt_inj.symm

theorem d1_0 : decode jdk_29_method_69_code 0 = .ok (.iload_n 0, 1) := by decide +kernel
theorem d1_1 : decode jdk_29_method_69_code 1 = .ok (.iload_n 1, 1) := by decide +kernel
theorem d1_2 : decode jdk_29_method_69_code 2 = .ok (.if_icmp .gt 7, 3) := by decide +kernel
theorem d1_5 : decode jdk_29_method_69_code 5 = .ok (.iload_n 0, 1) := by decide +kernel
theorem d1_6 : decode jdk_29_method_69_code 6 = .ok (.goto 4, 3) := by decide +kernel
theorem d1_9 : decode jdk_29_method_69_code 9 = .ok (.iload_n 1, 1) := by decide +kernel
theorem d1_10 : decode jdk_29_method_69_code 10 = .ok (.ireturn, 1) := by decide +kernel
def f1_0 (i0 : Int32) (i1 : Int32) : Int32 := if i1 < i0 then i1 else i0
set_option maxRecDepth 65536 in
set_option maxHeartbeats 40000000 in
theorem b1_0 {p : Program} {l : Launch} {e : Env} {s : State} {m : MethodId} {args : Array Value} {below : List Frame} {meth : Method} {c : Code} {T : State} {locs : List Loc} {cells slots : Nat} {Z : State} {a0 : Array Value} {h : Heap} {n0 : Nat} {Q : Option Value → Heap → List Loc → Prop} (i0 : Int32) (i1 : Int32) (hw : ∀ d ∈ tables_1, d.before a0 Z = true) (X : Stand p l e ({ frames := 0, cells := 0, slots := 0, locals := 0 } : Room) s m args below meth c T locs cells slots) (hx : p.tables.exec = Jvm.exec) (hZ : Z.Warmed39 s.vm) (hby : c.code = jdk_29_method_69_code) (hml : c.maxLocals = 2) (hown : s.vm.findClass "java/lang/Math" = some m.cls) (hret : meth.sig.returnType = some .int) (hlk : meth.locks = false) (eT : T.heap = h) (N : Fr n0 locs) (hc : cells ≤ 0) (hs : slots ≤ 0) (v : Int32) (hv : v = f1_0 i0 i1) (hQ : ∀ L', Fr n0 L' → Q (some (.int v)) h L') :
    own_Fin p e below s Q 0 0 (T.setTop (mkF m 0 #[.val (.int i0), .val (.int i1)] [])) := by
  refine own_step (fun t k => XS.iloadN X.here hx rfl (hb hby d1_0) rfl  k) ?_
  show own_Fin p e below s Q 0 0 (T.setTop (mkF m 1 #[.val (.int i0), .val (.int i1)] [(.int i0)]))
  refine own_step (fun t k => XS.iloadN X.here hx rfl (hb hby d1_1) rfl  k) ?_
  show own_Fin p e below s Q 0 0 (T.setTop (mkF m 2 #[.val (.int i0), .val (.int i1)] [(.int i1), (.int i0)]))
  by_cases hB2_1 : i1 < i0
  · refine own_step (fun t k => XS.icmpYes X.here hx rfl (pc0 := 2) (pc' := 9) rfl (hb hby d1_2) rfl (tlt hB2_1).2.2.1 (by decide) (by decide) k) ?_
    have hvhB2_1 : v = i1 := hv.trans (if_pos hB2_1)
    show own_Fin p e below s Q 0 0 (T.setTop (mkF m 9 #[.val (.int i0), .val (.int i1)] []))
    refine own_step (fun t k => XS.iloadN X.here hx rfl (hb hby d1_9) rfl  k) ?_
    show own_Fin p e below s Q 0 0 (T.setTop (mkF m 10 #[.val (.int i0), .val (.int i1)] [(.int i1)]))
    exact own_retI X hx hlk hret (hb hby d1_10) (Nat.le_trans (Nat.add_le_add_right hc 0) (by decide)) (Nat.le_trans (Nat.add_le_add_right hs 0) (by decide)) eT N hQ (hvhB2_1)
  · refine own_step (fun t k => XS.icmpNo X.here hx rfl (hb hby d1_2) rfl (flt hB2_1).2.2.1 k) ?_
    have hvhB2_1 : v = i0 := hv.trans (if_neg hB2_1)
    show own_Fin p e below s Q 0 0 (T.setTop (mkF m 5 #[.val (.int i0), .val (.int i1)] []))
    refine own_step (fun t k => XS.iloadN X.here hx rfl (hb hby d1_5) rfl  k) ?_
    show own_Fin p e below s Q 0 0 (T.setTop (mkF m 6 #[.val (.int i0), .val (.int i1)] [(.int i0)]))
    refine own_step (fun t k => XS.goto X.here hx rfl (pc0 := 6) (pc' := 10) rfl (hb hby d1_6) (by decide) (by decide) k) ?_
    show own_Fin p e below s Q 0 0 (T.setTop (mkF m 10 #[.val (.int i0), .val (.int i1)] [(.int i0)]))
    exact own_retI X hx hlk hret (hb hby d1_10) (Nat.le_trans (Nat.add_le_add_right hc 0) (by decide)) (Nat.le_trans (Nat.add_le_add_right hs 0) (by decide)) eT N hQ (hvhB2_1)
theorem pdm_0 : parseMethodDescriptor "(II)I" = some ⟨[.int, .int], some .int⟩ := by decide +kernel
theorem ef_1 (m : MethodId) (i0 : Int32) (i1 : Int32) : entryFrame m #[(.int i0), (.int i1)] 2 = (mkF m 0 #[.val (.int i0), .val (.int i1)] []) := by first | (simp [entryFrame, mkF, argsToLocals, Value.category]; done) | rfl
def Q1 (i0 : Int32) (i1 : Int32) (h0 : Heap) (n0 : Nat) (v : Option Value) (h : Heap) (L : List Loc) : Prop := v = some (.int (f1_0 i0 i1)) ∧ Fr n0 L ∧ h = h0
set_option maxRecDepth 65536 in
set_option maxHeartbeats 4000000 in
theorem rm1 (l : Launch) (Z : State) (a0 : Array Value) (hw : ∀ d ∈ tables_1, d.before a0 Z = true) (ws : List Jvm.Cond) (i0 : Int32) (i1 : Int32) (h0 : Heap) (n0 : Nat) :
    MetFree l (⟨"java/lang/Math", "min", "(II)I"⟩ : MethodName) (head1 (Jvm.Cond.code (⟨"java/lang/Math", "min", "(II)I"⟩ : MethodName) jdk_29_method_69_code 2 (some .int) :: ws) ({ frames := 0, cells := 0, slots := 0, locals := 0 } : Room)) (fun a U => a = #[(.int i0), (.int i1)] ∧ Z.Warmed39 U.vm ∧ U.heap = h0) (fun _ _ _ _ _ => True) (fun _ U o U' => ∃ v L, o = .returned v ∧ Q1 i0 i1 h0 n0 v U'.heap L ∧ FrameEnd U o U' L ({ frames := 0, cells := 0, slots := 0, locals := 0 } : Room).cells ({ frames := 0, cells := 0, slots := 0, locals := 0 } : Room).slots) := by
  refine MetFree.of_bodySF (Jvm.Free.JP.mathPlain rfl (by decide +kernel)) hisR ?_
  intro p e s m args below meth c s₁ Bd hml0 hP hK
  obtain ⟨rfl, hZ, hh⟩ := hP
  have hx := Bd.exec
  have hby := Bd.bytes
  have hml : c.maxLocals = 2 := hml0
  have hown : s.vm.findClass "java/lang/Math" = some m.cls := findClass_of_methodNamed Bd.named
  have X0 : Stand p l e ({ frames := 0, cells := 0, slots := 0, locals := 0 } : Room) s m #[(.int i0), (.int i1)] below meth c s₁ [] 0 0 := Stand.of_body Bd
  have e0 : s₁.heap = h0 := by rw [← hh, Bd.state]; rfl
  have fin := b1_0 i0 i1 (Q := Q1 i0 i1 h0 n0) hw X0 hx hZ hby hml hown Bd.returns (BodyLoose.notSynchronized Bd) e0 (Fr.nil n0) (Nat.zero_le _) (Nat.zero_le _) _ rfl (fun L' n' => ⟨rfl, n', rfl⟩)
  exact own_step (fun t k => castTop (ef_1 m i0 i1) k) fin
theorem d2_0 : decode jdk_29_method_65_code 0 = .ok (.iload_n 0, 1) := by decide +kernel
theorem d2_1 : decode jdk_29_method_65_code 1 = .ok (.iload_n 1, 1) := by decide +kernel
theorem d2_2 : decode jdk_29_method_65_code 2 = .ok (.if_icmp .lt 7, 3) := by decide +kernel
theorem d2_5 : decode jdk_29_method_65_code 5 = .ok (.iload_n 0, 1) := by decide +kernel
theorem d2_6 : decode jdk_29_method_65_code 6 = .ok (.goto 4, 3) := by decide +kernel
theorem d2_9 : decode jdk_29_method_65_code 9 = .ok (.iload_n 1, 1) := by decide +kernel
theorem d2_10 : decode jdk_29_method_65_code 10 = .ok (.ireturn, 1) := by decide +kernel
def f2_0 (i0 : Int32) (i1 : Int32) : Int32 := if i0 < i1 then i1 else i0
set_option maxRecDepth 65536 in
set_option maxHeartbeats 40000000 in
theorem b2_0 {p : Program} {l : Launch} {e : Env} {s : State} {m : MethodId} {args : Array Value} {below : List Frame} {meth : Method} {c : Code} {T : State} {locs : List Loc} {cells slots : Nat} {Z : State} {a0 : Array Value} {h : Heap} {n0 : Nat} {Q : Option Value → Heap → List Loc → Prop} (i0 : Int32) (i1 : Int32) (hw : ∀ d ∈ tables_1, d.before a0 Z = true) (X : Stand p l e ({ frames := 0, cells := 0, slots := 0, locals := 0 } : Room) s m args below meth c T locs cells slots) (hx : p.tables.exec = Jvm.exec) (hZ : Z.Warmed39 s.vm) (hby : c.code = jdk_29_method_65_code) (hml : c.maxLocals = 2) (hown : s.vm.findClass "java/lang/Math" = some m.cls) (hret : meth.sig.returnType = some .int) (hlk : meth.locks = false) (eT : T.heap = h) (N : Fr n0 locs) (hc : cells ≤ 0) (hs : slots ≤ 0) (v : Int32) (hv : v = f2_0 i0 i1) (hQ : ∀ L', Fr n0 L' → Q (some (.int v)) h L') :
    own_Fin p e below s Q 0 0 (T.setTop (mkF m 0 #[.val (.int i0), .val (.int i1)] [])) := by
  refine own_step (fun t k => XS.iloadN X.here hx rfl (hb hby d2_0) rfl  k) ?_
  show own_Fin p e below s Q 0 0 (T.setTop (mkF m 1 #[.val (.int i0), .val (.int i1)] [(.int i0)]))
  refine own_step (fun t k => XS.iloadN X.here hx rfl (hb hby d2_1) rfl  k) ?_
  show own_Fin p e below s Q 0 0 (T.setTop (mkF m 2 #[.val (.int i0), .val (.int i1)] [(.int i1), (.int i0)]))
  by_cases hB2_4 : i0 < i1
  · refine own_step (fun t k => XS.icmpYes X.here hx rfl (pc0 := 2) (pc' := 9) rfl (hb hby d2_2) rfl (tlt hB2_4).1 (by decide) (by decide) k) ?_
    have hvhB2_4 : v = i1 := hv.trans (if_pos hB2_4)
    show own_Fin p e below s Q 0 0 (T.setTop (mkF m 9 #[.val (.int i0), .val (.int i1)] []))
    refine own_step (fun t k => XS.iloadN X.here hx rfl (hb hby d2_9) rfl  k) ?_
    show own_Fin p e below s Q 0 0 (T.setTop (mkF m 10 #[.val (.int i0), .val (.int i1)] [(.int i1)]))
    exact own_retI X hx hlk hret (hb hby d2_10) (Nat.le_trans (Nat.add_le_add_right hc 0) (by decide)) (Nat.le_trans (Nat.add_le_add_right hs 0) (by decide)) eT N hQ (hvhB2_4)
  · refine own_step (fun t k => XS.icmpNo X.here hx rfl (hb hby d2_2) rfl (flt hB2_4).1 k) ?_
    have hvhB2_4 : v = i0 := hv.trans (if_neg hB2_4)
    show own_Fin p e below s Q 0 0 (T.setTop (mkF m 5 #[.val (.int i0), .val (.int i1)] []))
    refine own_step (fun t k => XS.iloadN X.here hx rfl (hb hby d2_5) rfl  k) ?_
    show own_Fin p e below s Q 0 0 (T.setTop (mkF m 6 #[.val (.int i0), .val (.int i1)] [(.int i0)]))
    refine own_step (fun t k => XS.goto X.here hx rfl (pc0 := 6) (pc' := 10) rfl (hb hby d2_6) (by decide) (by decide) k) ?_
    show own_Fin p e below s Q 0 0 (T.setTop (mkF m 10 #[.val (.int i0), .val (.int i1)] [(.int i0)]))
    exact own_retI X hx hlk hret (hb hby d2_10) (Nat.le_trans (Nat.add_le_add_right hc 0) (by decide)) (Nat.le_trans (Nat.add_le_add_right hs 0) (by decide)) eT N hQ (hvhB2_4)
theorem ef_2 (m : MethodId) (i0 : Int32) (i1 : Int32) : entryFrame m #[(.int i0), (.int i1)] 2 = (mkF m 0 #[.val (.int i0), .val (.int i1)] []) := by first | (simp [entryFrame, mkF, argsToLocals, Value.category]; done) | rfl
def Q2 (i0 : Int32) (i1 : Int32) (h0 : Heap) (n0 : Nat) (v : Option Value) (h : Heap) (L : List Loc) : Prop := v = some (.int (f2_0 i0 i1)) ∧ Fr n0 L ∧ h = h0
set_option maxRecDepth 65536 in
set_option maxHeartbeats 4000000 in
theorem rm2 (l : Launch) (Z : State) (a0 : Array Value) (hw : ∀ d ∈ tables_1, d.before a0 Z = true) (ws : List Jvm.Cond) (i0 : Int32) (i1 : Int32) (h0 : Heap) (n0 : Nat) :
    MetFree l (⟨"java/lang/Math", "max", "(II)I"⟩ : MethodName) (head1 (Jvm.Cond.code (⟨"java/lang/Math", "max", "(II)I"⟩ : MethodName) jdk_29_method_65_code 2 (some .int) :: ws) ({ frames := 0, cells := 0, slots := 0, locals := 0 } : Room)) (fun a U => a = #[(.int i0), (.int i1)] ∧ Z.Warmed39 U.vm ∧ U.heap = h0) (fun _ _ _ _ _ => True) (fun _ U o U' => ∃ v L, o = .returned v ∧ Q2 i0 i1 h0 n0 v U'.heap L ∧ FrameEnd U o U' L ({ frames := 0, cells := 0, slots := 0, locals := 0 } : Room).cells ({ frames := 0, cells := 0, slots := 0, locals := 0 } : Room).slots) := by
  refine MetFree.of_bodySF (Jvm.Free.JP.mathPlain rfl (by decide +kernel)) hisR ?_
  intro p e s m args below meth c s₁ Bd hml0 hP hK
  obtain ⟨rfl, hZ, hh⟩ := hP
  have hx := Bd.exec
  have hby := Bd.bytes
  have hml : c.maxLocals = 2 := hml0
  have hown : s.vm.findClass "java/lang/Math" = some m.cls := findClass_of_methodNamed Bd.named
  have X0 : Stand p l e ({ frames := 0, cells := 0, slots := 0, locals := 0 } : Room) s m #[(.int i0), (.int i1)] below meth c s₁ [] 0 0 := Stand.of_body Bd
  have e0 : s₁.heap = h0 := by rw [← hh, Bd.state]; rfl
  have fin := b2_0 i0 i1 (Q := Q2 i0 i1 h0 n0) hw X0 hx hZ hby hml hown Bd.returns (BodyLoose.notSynchronized Bd) e0 (Fr.nil n0) (Nat.zero_le _) (Nat.zero_le _) _ rfl (fun L' n' => ⟨rfl, n', rfl⟩)
  exact own_step (fun t k => castTop (ef_2 m i0 i1) k) fin
theorem d3_0 : decode method_4_code 0 = .ok (.iload_n 0, 1) := by decide +kernel
theorem d3_1 : decode method_4_code 1 = .ok (.iload_n 0, 1) := by decide +kernel
theorem d3_2 : decode method_4_code 2 = .ok (.bipush 16, 2) := by decide +kernel
theorem d3_4 : decode method_4_code 4 = .ok (.iushr, 1) := by decide +kernel
theorem d3_5 : decode method_4_code 5 = .ok (.ixor, 1) := by decide +kernel
theorem d3_6 : decode method_4_code 6 = .ok (.istore_n 0, 1) := by decide +kernel
theorem d3_7 : decode method_4_code 7 = .ok (.iload_n 0, 1) := by decide +kernel
theorem d3_8 : decode method_4_code 8 = .ok (.ldc 33, 2) := by decide +kernel
theorem d3_10 : decode method_4_code 10 = .ok (.imul, 1) := by decide +kernel
theorem d3_11 : decode method_4_code 11 = .ok (.istore_n 0, 1) := by decide +kernel
theorem d3_12 : decode method_4_code 12 = .ok (.iload_n 0, 1) := by decide +kernel
theorem d3_13 : decode method_4_code 13 = .ok (.iload_n 0, 1) := by decide +kernel
theorem d3_14 : decode method_4_code 14 = .ok (.bipush 13, 2) := by decide +kernel
theorem d3_16 : decode method_4_code 16 = .ok (.iushr, 1) := by decide +kernel
theorem d3_17 : decode method_4_code 17 = .ok (.ixor, 1) := by decide +kernel
theorem d3_18 : decode method_4_code 18 = .ok (.istore_n 0, 1) := by decide +kernel
theorem d3_19 : decode method_4_code 19 = .ok (.iload_n 0, 1) := by decide +kernel
theorem d3_20 : decode method_4_code 20 = .ok (.ldc 34, 2) := by decide +kernel
theorem d3_22 : decode method_4_code 22 = .ok (.imul, 1) := by decide +kernel
theorem d3_23 : decode method_4_code 23 = .ok (.istore_n 0, 1) := by decide +kernel
theorem d3_24 : decode method_4_code 24 = .ok (.iload_n 0, 1) := by decide +kernel
theorem d3_25 : decode method_4_code 25 = .ok (.iload_n 0, 1) := by decide +kernel
theorem d3_26 : decode method_4_code 26 = .ok (.bipush 16, 2) := by decide +kernel
theorem d3_28 : decode method_4_code 28 = .ok (.iushr, 1) := by decide +kernel
theorem d3_29 : decode method_4_code 29 = .ok (.ixor, 1) := by decide +kernel
theorem d3_30 : decode method_4_code 30 = .ok (.istore_n 0, 1) := by decide +kernel
theorem d3_31 : decode method_4_code 31 = .ok (.iload_n 0, 1) := by decide +kernel
theorem d3_32 : decode method_4_code 32 = .ok (.ireturn, 1) := by decide +kernel
def f3_0 (i0 : Int32) : Int32 := (((((i0 ^^^ ((i0.toUInt32 >>> ((16 : Int32) &&& 31).toUInt32).toInt32)) * (-2048144789 : Int32)) ^^^ ((((i0 ^^^ ((i0.toUInt32 >>> ((16 : Int32) &&& 31).toUInt32).toInt32)) * (-2048144789 : Int32)).toUInt32 >>> ((13 : Int32) &&& 31).toUInt32).toInt32)) * (-1028477387 : Int32)) ^^^ ((((((i0 ^^^ ((i0.toUInt32 >>> ((16 : Int32) &&& 31).toUInt32).toInt32)) * (-2048144789 : Int32)) ^^^ ((((i0 ^^^ ((i0.toUInt32 >>> ((16 : Int32) &&& 31).toUInt32).toInt32)) * (-2048144789 : Int32)).toUInt32 >>> ((13 : Int32) &&& 31).toUInt32).toInt32)) * (-1028477387 : Int32)).toUInt32 >>> ((16 : Int32) &&& 31).toUInt32).toInt32))
set_option maxRecDepth 65536 in
set_option maxHeartbeats 40000000 in
theorem b3_0 {p : Program} {l : Launch} {e : Env} {s : State} {m : MethodId} {args : Array Value} {below : List Frame} {meth : Method} {c : Code} {T : State} {locs : List Loc} {cells slots : Nat} {Z : State} {a0 : Array Value} {h : Heap} {n0 : Nat} {Q : Option Value → Heap → List Loc → Prop} (i0 : Int32) (hw : ∀ d ∈ tables_1, d.before a0 Z = true) (X : Stand p l e ({ frames := 0, cells := 0, slots := 0, locals := 0 } : Room) s m args below meth c T locs cells slots) (hx : p.tables.exec = Jvm.exec) (hZ : Z.Warmed39 s.vm) (hby : c.code = method_4_code) (hml : c.maxLocals = 1) (hown : s.vm.findClass "com/example/nuthatch/nuthatch/NameTableHashPinLaw" = some m.cls) (hret : meth.sig.returnType = some .int) (hlk : meth.locks = false) (eT : T.heap = h) (N : Fr n0 locs) (hc : cells ≤ 0) (hs : slots ≤ 0) (v : Int32) (hv : v = f3_0 i0) (hQ : ∀ L', Fr n0 L' → Q (some (.int v)) h L') :
    own_Fin p e below s Q 0 0 (T.setTop (mkF m 0 #[.val (.int i0)] [])) := by
  refine own_step (fun t k => XS.iloadN X.here hx rfl (hb hby d3_0) rfl  k) ?_
  show own_Fin p e below s Q 0 0 (T.setTop (mkF m 1 #[.val (.int i0)] [(.int i0)]))
  refine own_step (fun t k => XS.iloadN X.here hx rfl (hb hby d3_1) rfl  k) ?_
  show own_Fin p e below s Q 0 0 (T.setTop (mkF m 2 #[.val (.int i0)] [(.int i0), (.int i0)]))
  refine own_step (fun t k => XS.bipush X.here hx rfl (hb hby d3_2) k) ?_
  show own_Fin p e below s Q 0 0 (T.setTop (mkF m 4 #[.val (.int i0)] [(.int (16 : Int32)), (.int i0), (.int i0)]))
  refine own_step (fun t k => XS.iushr X.here hx rfl (hb hby d3_4) rfl k) ?_
  show own_Fin p e below s Q 0 0 (T.setTop (mkF m 5 #[.val (.int i0)] [(.int ((i0.toUInt32 >>> ((16 : Int32) &&& 31).toUInt32).toInt32)), (.int i0)]))
  refine own_step (fun t k => XS.ixor X.here hx rfl (hb hby d3_5) rfl k) ?_
  show own_Fin p e below s Q 0 0 (T.setTop (mkF m 6 #[.val (.int i0)] [(.int (i0 ^^^ ((i0.toUInt32 >>> ((16 : Int32) &&& 31).toUInt32).toInt32)))]))
  refine own_step (fun t k => XS.istoreN X.here hx rfl (hb hby d3_6) rfl (l' := #[.val (.int (i0 ^^^ ((i0.toUInt32 >>> ((16 : Int32) &&& 31).toUInt32).toInt32)))]) rfl k) ?_
  show own_Fin p e below s Q 0 0 (T.setTop (mkF m 7 #[.val (.int (i0 ^^^ ((i0.toUInt32 >>> ((16 : Int32) &&& 31).toUInt32).toInt32)))] []))
  refine own_step (fun t k => XS.iloadN X.here hx rfl (hb hby d3_7) rfl  k) ?_
  show own_Fin p e below s Q 0 0 (T.setTop (mkF m 8 #[.val (.int (i0 ^^^ ((i0.toUInt32 >>> ((16 : Int32) &&& 31).toUInt32).toInt32)))] [(.int (i0 ^^^ ((i0.toUInt32 >>> ((16 : Int32) &&& 31).toUInt32).toInt32)))]))
  refine own_step (X.ldcInt hx hown (mvT hZ (hw _ (List.mem_of_getElem? (i := 13) rfl))) (g := (mkF m 8 #[.val (.int (i0 ^^^ ((i0.toUInt32 >>> ((16 : Int32) &&& 31).toUInt32).toInt32)))] [(.int (i0 ^^^ ((i0.toUInt32 >>> ((16 : Int32) &&& 31).toUInt32).toInt32)))])) rfl (hb hby d3_8)) ?_
  show own_Fin p e below s Q 0 0 (T.setTop (mkF m 10 #[.val (.int (i0 ^^^ ((i0.toUInt32 >>> ((16 : Int32) &&& 31).toUInt32).toInt32)))] [(.int (-2048144789 : Int32)), (.int (i0 ^^^ ((i0.toUInt32 >>> ((16 : Int32) &&& 31).toUInt32).toInt32)))]))
  refine own_step (fun t k => XS.imul X.here hx rfl (hb hby d3_10) rfl k) ?_
  show own_Fin p e below s Q 0 0 (T.setTop (mkF m 11 #[.val (.int (i0 ^^^ ((i0.toUInt32 >>> ((16 : Int32) &&& 31).toUInt32).toInt32)))] [(.int ((i0 ^^^ ((i0.toUInt32 >>> ((16 : Int32) &&& 31).toUInt32).toInt32)) * (-2048144789 : Int32)))]))
  refine own_step (fun t k => XS.istoreN X.here hx rfl (hb hby d3_11) rfl (l' := #[.val (.int ((i0 ^^^ ((i0.toUInt32 >>> ((16 : Int32) &&& 31).toUInt32).toInt32)) * (-2048144789 : Int32)))]) rfl k) ?_
  show own_Fin p e below s Q 0 0 (T.setTop (mkF m 12 #[.val (.int ((i0 ^^^ ((i0.toUInt32 >>> ((16 : Int32) &&& 31).toUInt32).toInt32)) * (-2048144789 : Int32)))] []))
  refine own_step (fun t k => XS.iloadN X.here hx rfl (hb hby d3_12) rfl  k) ?_
  show own_Fin p e below s Q 0 0 (T.setTop (mkF m 13 #[.val (.int ((i0 ^^^ ((i0.toUInt32 >>> ((16 : Int32) &&& 31).toUInt32).toInt32)) * (-2048144789 : Int32)))] [(.int ((i0 ^^^ ((i0.toUInt32 >>> ((16 : Int32) &&& 31).toUInt32).toInt32)) * (-2048144789 : Int32)))]))
  refine own_step (fun t k => XS.iloadN X.here hx rfl (hb hby d3_13) rfl  k) ?_
  show own_Fin p e below s Q 0 0 (T.setTop (mkF m 14 #[.val (.int ((i0 ^^^ ((i0.toUInt32 >>> ((16 : Int32) &&& 31).toUInt32).toInt32)) * (-2048144789 : Int32)))] [(.int ((i0 ^^^ ((i0.toUInt32 >>> ((16 : Int32) &&& 31).toUInt32).toInt32)) * (-2048144789 : Int32))), (.int ((i0 ^^^ ((i0.toUInt32 >>> ((16 : Int32) &&& 31).toUInt32).toInt32)) * (-2048144789 : Int32)))]))
  refine own_step (fun t k => XS.bipush X.here hx rfl (hb hby d3_14) k) ?_
  show own_Fin p e below s Q 0 0 (T.setTop (mkF m 16 #[.val (.int ((i0 ^^^ ((i0.toUInt32 >>> ((16 : Int32) &&& 31).toUInt32).toInt32)) * (-2048144789 : Int32)))] [(.int (13 : Int32)), (.int ((i0 ^^^ ((i0.toUInt32 >>> ((16 : Int32) &&& 31).toUInt32).toInt32)) * (-2048144789 : Int32))), (.int ((i0 ^^^ ((i0.toUInt32 >>> ((16 : Int32) &&& 31).toUInt32).toInt32)) * (-2048144789 : Int32)))]))
  refine own_step (fun t k => XS.iushr X.here hx rfl (hb hby d3_16) rfl k) ?_
  show own_Fin p e below s Q 0 0 (T.setTop (mkF m 17 #[.val (.int ((i0 ^^^ ((i0.toUInt32 >>> ((16 : Int32) &&& 31).toUInt32).toInt32)) * (-2048144789 : Int32)))] [(.int ((((i0 ^^^ ((i0.toUInt32 >>> ((16 : Int32) &&& 31).toUInt32).toInt32)) * (-2048144789 : Int32)).toUInt32 >>> ((13 : Int32) &&& 31).toUInt32).toInt32)), (.int ((i0 ^^^ ((i0.toUInt32 >>> ((16 : Int32) &&& 31).toUInt32).toInt32)) * (-2048144789 : Int32)))]))
  refine own_step (fun t k => XS.ixor X.here hx rfl (hb hby d3_17) rfl k) ?_
  show own_Fin p e below s Q 0 0 (T.setTop (mkF m 18 #[.val (.int ((i0 ^^^ ((i0.toUInt32 >>> ((16 : Int32) &&& 31).toUInt32).toInt32)) * (-2048144789 : Int32)))] [(.int (((i0 ^^^ ((i0.toUInt32 >>> ((16 : Int32) &&& 31).toUInt32).toInt32)) * (-2048144789 : Int32)) ^^^ ((((i0 ^^^ ((i0.toUInt32 >>> ((16 : Int32) &&& 31).toUInt32).toInt32)) * (-2048144789 : Int32)).toUInt32 >>> ((13 : Int32) &&& 31).toUInt32).toInt32)))]))
  refine own_step (fun t k => XS.istoreN X.here hx rfl (hb hby d3_18) rfl (l' := #[.val (.int (((i0 ^^^ ((i0.toUInt32 >>> ((16 : Int32) &&& 31).toUInt32).toInt32)) * (-2048144789 : Int32)) ^^^ ((((i0 ^^^ ((i0.toUInt32 >>> ((16 : Int32) &&& 31).toUInt32).toInt32)) * (-2048144789 : Int32)).toUInt32 >>> ((13 : Int32) &&& 31).toUInt32).toInt32)))]) rfl k) ?_
  show own_Fin p e below s Q 0 0 (T.setTop (mkF m 19 #[.val (.int (((i0 ^^^ ((i0.toUInt32 >>> ((16 : Int32) &&& 31).toUInt32).toInt32)) * (-2048144789 : Int32)) ^^^ ((((i0 ^^^ ((i0.toUInt32 >>> ((16 : Int32) &&& 31).toUInt32).toInt32)) * (-2048144789 : Int32)).toUInt32 >>> ((13 : Int32) &&& 31).toUInt32).toInt32)))] []))
  refine own_step (fun t k => XS.iloadN X.here hx rfl (hb hby d3_19) rfl  k) ?_
  show own_Fin p e below s Q 0 0 (T.setTop (mkF m 20 #[.val (.int (((i0 ^^^ ((i0.toUInt32 >>> ((16 : Int32) &&& 31).toUInt32).toInt32)) * (-2048144789 : Int32)) ^^^ ((((i0 ^^^ ((i0.toUInt32 >>> ((16 : Int32) &&& 31).toUInt32).toInt32)) * (-2048144789 : Int32)).toUInt32 >>> ((13 : Int32) &&& 31).toUInt32).toInt32)))] [(.int (((i0 ^^^ ((i0.toUInt32 >>> ((16 : Int32) &&& 31).toUInt32).toInt32)) * (-2048144789 : Int32)) ^^^ ((((i0 ^^^ ((i0.toUInt32 >>> ((16 : Int32) &&& 31).toUInt32).toInt32)) * (-2048144789 : Int32)).toUInt32 >>> ((13 : Int32) &&& 31).toUInt32).toInt32)))]))
  refine own_step (X.ldcInt hx hown (mvT hZ (hw _ (List.mem_of_getElem? (i := 14) rfl))) (g := (mkF m 20 #[.val (.int (((i0 ^^^ ((i0.toUInt32 >>> ((16 : Int32) &&& 31).toUInt32).toInt32)) * (-2048144789 : Int32)) ^^^ ((((i0 ^^^ ((i0.toUInt32 >>> ((16 : Int32) &&& 31).toUInt32).toInt32)) * (-2048144789 : Int32)).toUInt32 >>> ((13 : Int32) &&& 31).toUInt32).toInt32)))] [(.int (((i0 ^^^ ((i0.toUInt32 >>> ((16 : Int32) &&& 31).toUInt32).toInt32)) * (-2048144789 : Int32)) ^^^ ((((i0 ^^^ ((i0.toUInt32 >>> ((16 : Int32) &&& 31).toUInt32).toInt32)) * (-2048144789 : Int32)).toUInt32 >>> ((13 : Int32) &&& 31).toUInt32).toInt32)))])) rfl (hb hby d3_20)) ?_
  show own_Fin p e below s Q 0 0 (T.setTop (mkF m 22 #[.val (.int (((i0 ^^^ ((i0.toUInt32 >>> ((16 : Int32) &&& 31).toUInt32).toInt32)) * (-2048144789 : Int32)) ^^^ ((((i0 ^^^ ((i0.toUInt32 >>> ((16 : Int32) &&& 31).toUInt32).toInt32)) * (-2048144789 : Int32)).toUInt32 >>> ((13 : Int32) &&& 31).toUInt32).toInt32)))] [(.int (-1028477387 : Int32)), (.int (((i0 ^^^ ((i0.toUInt32 >>> ((16 : Int32) &&& 31).toUInt32).toInt32)) * (-2048144789 : Int32)) ^^^ ((((i0 ^^^ ((i0.toUInt32 >>> ((16 : Int32) &&& 31).toUInt32).toInt32)) * (-2048144789 : Int32)).toUInt32 >>> ((13 : Int32) &&& 31).toUInt32).toInt32)))]))
  refine own_step (fun t k => XS.imul X.here hx rfl (hb hby d3_22) rfl k) ?_
  show own_Fin p e below s Q 0 0 (T.setTop (mkF m 23 #[.val (.int (((i0 ^^^ ((i0.toUInt32 >>> ((16 : Int32) &&& 31).toUInt32).toInt32)) * (-2048144789 : Int32)) ^^^ ((((i0 ^^^ ((i0.toUInt32 >>> ((16 : Int32) &&& 31).toUInt32).toInt32)) * (-2048144789 : Int32)).toUInt32 >>> ((13 : Int32) &&& 31).toUInt32).toInt32)))] [(.int ((((i0 ^^^ ((i0.toUInt32 >>> ((16 : Int32) &&& 31).toUInt32).toInt32)) * (-2048144789 : Int32)) ^^^ ((((i0 ^^^ ((i0.toUInt32 >>> ((16 : Int32) &&& 31).toUInt32).toInt32)) * (-2048144789 : Int32)).toUInt32 >>> ((13 : Int32) &&& 31).toUInt32).toInt32)) * (-1028477387 : Int32)))]))
  refine own_step (fun t k => XS.istoreN X.here hx rfl (hb hby d3_23) rfl (l' := #[.val (.int ((((i0 ^^^ ((i0.toUInt32 >>> ((16 : Int32) &&& 31).toUInt32).toInt32)) * (-2048144789 : Int32)) ^^^ ((((i0 ^^^ ((i0.toUInt32 >>> ((16 : Int32) &&& 31).toUInt32).toInt32)) * (-2048144789 : Int32)).toUInt32 >>> ((13 : Int32) &&& 31).toUInt32).toInt32)) * (-1028477387 : Int32)))]) rfl k) ?_
  show own_Fin p e below s Q 0 0 (T.setTop (mkF m 24 #[.val (.int ((((i0 ^^^ ((i0.toUInt32 >>> ((16 : Int32) &&& 31).toUInt32).toInt32)) * (-2048144789 : Int32)) ^^^ ((((i0 ^^^ ((i0.toUInt32 >>> ((16 : Int32) &&& 31).toUInt32).toInt32)) * (-2048144789 : Int32)).toUInt32 >>> ((13 : Int32) &&& 31).toUInt32).toInt32)) * (-1028477387 : Int32)))] []))
  refine own_step (fun t k => XS.iloadN X.here hx rfl (hb hby d3_24) rfl  k) ?_
  show own_Fin p e below s Q 0 0 (T.setTop (mkF m 25 #[.val (.int ((((i0 ^^^ ((i0.toUInt32 >>> ((16 : Int32) &&& 31).toUInt32).toInt32)) * (-2048144789 : Int32)) ^^^ ((((i0 ^^^ ((i0.toUInt32 >>> ((16 : Int32) &&& 31).toUInt32).toInt32)) * (-2048144789 : Int32)).toUInt32 >>> ((13 : Int32) &&& 31).toUInt32).toInt32)) * (-1028477387 : Int32)))] [(.int ((((i0 ^^^ ((i0.toUInt32 >>> ((16 : Int32) &&& 31).toUInt32).toInt32)) * (-2048144789 : Int32)) ^^^ ((((i0 ^^^ ((i0.toUInt32 >>> ((16 : Int32) &&& 31).toUInt32).toInt32)) * (-2048144789 : Int32)).toUInt32 >>> ((13 : Int32) &&& 31).toUInt32).toInt32)) * (-1028477387 : Int32)))]))
  refine own_step (fun t k => XS.iloadN X.here hx rfl (hb hby d3_25) rfl  k) ?_
  show own_Fin p e below s Q 0 0 (T.setTop (mkF m 26 #[.val (.int ((((i0 ^^^ ((i0.toUInt32 >>> ((16 : Int32) &&& 31).toUInt32).toInt32)) * (-2048144789 : Int32)) ^^^ ((((i0 ^^^ ((i0.toUInt32 >>> ((16 : Int32) &&& 31).toUInt32).toInt32)) * (-2048144789 : Int32)).toUInt32 >>> ((13 : Int32) &&& 31).toUInt32).toInt32)) * (-1028477387 : Int32)))] [(.int ((((i0 ^^^ ((i0.toUInt32 >>> ((16 : Int32) &&& 31).toUInt32).toInt32)) * (-2048144789 : Int32)) ^^^ ((((i0 ^^^ ((i0.toUInt32 >>> ((16 : Int32) &&& 31).toUInt32).toInt32)) * (-2048144789 : Int32)).toUInt32 >>> ((13 : Int32) &&& 31).toUInt32).toInt32)) * (-1028477387 : Int32))), (.int ((((i0 ^^^ ((i0.toUInt32 >>> ((16 : Int32) &&& 31).toUInt32).toInt32)) * (-2048144789 : Int32)) ^^^ ((((i0 ^^^ ((i0.toUInt32 >>> ((16 : Int32) &&& 31).toUInt32).toInt32)) * (-2048144789 : Int32)).toUInt32 >>> ((13 : Int32) &&& 31).toUInt32).toInt32)) * (-1028477387 : Int32)))]))
  refine own_step (fun t k => XS.bipush X.here hx rfl (hb hby d3_26) k) ?_
  show own_Fin p e below s Q 0 0 (T.setTop (mkF m 28 #[.val (.int ((((i0 ^^^ ((i0.toUInt32 >>> ((16 : Int32) &&& 31).toUInt32).toInt32)) * (-2048144789 : Int32)) ^^^ ((((i0 ^^^ ((i0.toUInt32 >>> ((16 : Int32) &&& 31).toUInt32).toInt32)) * (-2048144789 : Int32)).toUInt32 >>> ((13 : Int32) &&& 31).toUInt32).toInt32)) * (-1028477387 : Int32)))] [(.int (16 : Int32)), (.int ((((i0 ^^^ ((i0.toUInt32 >>> ((16 : Int32) &&& 31).toUInt32).toInt32)) * (-2048144789 : Int32)) ^^^ ((((i0 ^^^ ((i0.toUInt32 >>> ((16 : Int32) &&& 31).toUInt32).toInt32)) * (-2048144789 : Int32)).toUInt32 >>> ((13 : Int32) &&& 31).toUInt32).toInt32)) * (-1028477387 : Int32))), (.int ((((i0 ^^^ ((i0.toUInt32 >>> ((16 : Int32) &&& 31).toUInt32).toInt32)) * (-2048144789 : Int32)) ^^^ ((((i0 ^^^ ((i0.toUInt32 >>> ((16 : Int32) &&& 31).toUInt32).toInt32)) * (-2048144789 : Int32)).toUInt32 >>> ((13 : Int32) &&& 31).toUInt32).toInt32)) * (-1028477387 : Int32)))]))
  refine own_step (fun t k => XS.iushr X.here hx rfl (hb hby d3_28) rfl k) ?_
  show own_Fin p e below s Q 0 0 (T.setTop (mkF m 29 #[.val (.int ((((i0 ^^^ ((i0.toUInt32 >>> ((16 : Int32) &&& 31).toUInt32).toInt32)) * (-2048144789 : Int32)) ^^^ ((((i0 ^^^ ((i0.toUInt32 >>> ((16 : Int32) &&& 31).toUInt32).toInt32)) * (-2048144789 : Int32)).toUInt32 >>> ((13 : Int32) &&& 31).toUInt32).toInt32)) * (-1028477387 : Int32)))] [(.int ((((((i0 ^^^ ((i0.toUInt32 >>> ((16 : Int32) &&& 31).toUInt32).toInt32)) * (-2048144789 : Int32)) ^^^ ((((i0 ^^^ ((i0.toUInt32 >>> ((16 : Int32) &&& 31).toUInt32).toInt32)) * (-2048144789 : Int32)).toUInt32 >>> ((13 : Int32) &&& 31).toUInt32).toInt32)) * (-1028477387 : Int32)).toUInt32 >>> ((16 : Int32) &&& 31).toUInt32).toInt32)), (.int ((((i0 ^^^ ((i0.toUInt32 >>> ((16 : Int32) &&& 31).toUInt32).toInt32)) * (-2048144789 : Int32)) ^^^ ((((i0 ^^^ ((i0.toUInt32 >>> ((16 : Int32) &&& 31).toUInt32).toInt32)) * (-2048144789 : Int32)).toUInt32 >>> ((13 : Int32) &&& 31).toUInt32).toInt32)) * (-1028477387 : Int32)))]))
  refine own_step (fun t k => XS.ixor X.here hx rfl (hb hby d3_29) rfl k) ?_
  show own_Fin p e below s Q 0 0 (T.setTop (mkF m 30 #[.val (.int ((((i0 ^^^ ((i0.toUInt32 >>> ((16 : Int32) &&& 31).toUInt32).toInt32)) * (-2048144789 : Int32)) ^^^ ((((i0 ^^^ ((i0.toUInt32 >>> ((16 : Int32) &&& 31).toUInt32).toInt32)) * (-2048144789 : Int32)).toUInt32 >>> ((13 : Int32) &&& 31).toUInt32).toInt32)) * (-1028477387 : Int32)))] [(.int (((((i0 ^^^ ((i0.toUInt32 >>> ((16 : Int32) &&& 31).toUInt32).toInt32)) * (-2048144789 : Int32)) ^^^ ((((i0 ^^^ ((i0.toUInt32 >>> ((16 : Int32) &&& 31).toUInt32).toInt32)) * (-2048144789 : Int32)).toUInt32 >>> ((13 : Int32) &&& 31).toUInt32).toInt32)) * (-1028477387 : Int32)) ^^^ ((((((i0 ^^^ ((i0.toUInt32 >>> ((16 : Int32) &&& 31).toUInt32).toInt32)) * (-2048144789 : Int32)) ^^^ ((((i0 ^^^ ((i0.toUInt32 >>> ((16 : Int32) &&& 31).toUInt32).toInt32)) * (-2048144789 : Int32)).toUInt32 >>> ((13 : Int32) &&& 31).toUInt32).toInt32)) * (-1028477387 : Int32)).toUInt32 >>> ((16 : Int32) &&& 31).toUInt32).toInt32)))]))
  refine own_step (fun t k => XS.istoreN X.here hx rfl (hb hby d3_30) rfl (l' := #[.val (.int (((((i0 ^^^ ((i0.toUInt32 >>> ((16 : Int32) &&& 31).toUInt32).toInt32)) * (-2048144789 : Int32)) ^^^ ((((i0 ^^^ ((i0.toUInt32 >>> ((16 : Int32) &&& 31).toUInt32).toInt32)) * (-2048144789 : Int32)).toUInt32 >>> ((13 : Int32) &&& 31).toUInt32).toInt32)) * (-1028477387 : Int32)) ^^^ ((((((i0 ^^^ ((i0.toUInt32 >>> ((16 : Int32) &&& 31).toUInt32).toInt32)) * (-2048144789 : Int32)) ^^^ ((((i0 ^^^ ((i0.toUInt32 >>> ((16 : Int32) &&& 31).toUInt32).toInt32)) * (-2048144789 : Int32)).toUInt32 >>> ((13 : Int32) &&& 31).toUInt32).toInt32)) * (-1028477387 : Int32)).toUInt32 >>> ((16 : Int32) &&& 31).toUInt32).toInt32)))]) rfl k) ?_
  show own_Fin p e below s Q 0 0 (T.setTop (mkF m 31 #[.val (.int (((((i0 ^^^ ((i0.toUInt32 >>> ((16 : Int32) &&& 31).toUInt32).toInt32)) * (-2048144789 : Int32)) ^^^ ((((i0 ^^^ ((i0.toUInt32 >>> ((16 : Int32) &&& 31).toUInt32).toInt32)) * (-2048144789 : Int32)).toUInt32 >>> ((13 : Int32) &&& 31).toUInt32).toInt32)) * (-1028477387 : Int32)) ^^^ ((((((i0 ^^^ ((i0.toUInt32 >>> ((16 : Int32) &&& 31).toUInt32).toInt32)) * (-2048144789 : Int32)) ^^^ ((((i0 ^^^ ((i0.toUInt32 >>> ((16 : Int32) &&& 31).toUInt32).toInt32)) * (-2048144789 : Int32)).toUInt32 >>> ((13 : Int32) &&& 31).toUInt32).toInt32)) * (-1028477387 : Int32)).toUInt32 >>> ((16 : Int32) &&& 31).toUInt32).toInt32)))] []))
  refine own_step (fun t k => XS.iloadN X.here hx rfl (hb hby d3_31) rfl  k) ?_
  show own_Fin p e below s Q 0 0 (T.setTop (mkF m 32 #[.val (.int (((((i0 ^^^ ((i0.toUInt32 >>> ((16 : Int32) &&& 31).toUInt32).toInt32)) * (-2048144789 : Int32)) ^^^ ((((i0 ^^^ ((i0.toUInt32 >>> ((16 : Int32) &&& 31).toUInt32).toInt32)) * (-2048144789 : Int32)).toUInt32 >>> ((13 : Int32) &&& 31).toUInt32).toInt32)) * (-1028477387 : Int32)) ^^^ ((((((i0 ^^^ ((i0.toUInt32 >>> ((16 : Int32) &&& 31).toUInt32).toInt32)) * (-2048144789 : Int32)) ^^^ ((((i0 ^^^ ((i0.toUInt32 >>> ((16 : Int32) &&& 31).toUInt32).toInt32)) * (-2048144789 : Int32)).toUInt32 >>> ((13 : Int32) &&& 31).toUInt32).toInt32)) * (-1028477387 : Int32)).toUInt32 >>> ((16 : Int32) &&& 31).toUInt32).toInt32)))] [(.int (((((i0 ^^^ ((i0.toUInt32 >>> ((16 : Int32) &&& 31).toUInt32).toInt32)) * (-2048144789 : Int32)) ^^^ ((((i0 ^^^ ((i0.toUInt32 >>> ((16 : Int32) &&& 31).toUInt32).toInt32)) * (-2048144789 : Int32)).toUInt32 >>> ((13 : Int32) &&& 31).toUInt32).toInt32)) * (-1028477387 : Int32)) ^^^ ((((((i0 ^^^ ((i0.toUInt32 >>> ((16 : Int32) &&& 31).toUInt32).toInt32)) * (-2048144789 : Int32)) ^^^ ((((i0 ^^^ ((i0.toUInt32 >>> ((16 : Int32) &&& 31).toUInt32).toInt32)) * (-2048144789 : Int32)).toUInt32 >>> ((13 : Int32) &&& 31).toUInt32).toInt32)) * (-1028477387 : Int32)).toUInt32 >>> ((16 : Int32) &&& 31).toUInt32).toInt32)))]))
  exact own_retI X hx hlk hret (hb hby d3_32) (Nat.le_trans (Nat.add_le_add_right hc 0) (by decide)) (Nat.le_trans (Nat.add_le_add_right hs 0) (by decide)) eT N hQ (hv)
theorem pnm_0 : plainName "com/example/nuthatch/nuthatch/NameTableHashPinLaw" = true := by first | (simp [plainName, overriddenIn]; done) | decide +kernel
theorem pdm_1 : parseMethodDescriptor "(I)I" = some ⟨[.int], some .int⟩ := by decide +kernel
theorem ef_3 (m : MethodId) (i0 : Int32) : entryFrame m #[(.int i0)] 1 = (mkF m 0 #[.val (.int i0)] []) := by first | (simp [entryFrame, mkF, argsToLocals, Value.category]; done) | rfl
def Q3 (i0 : Int32) (h0 : Heap) (n0 : Nat) (v : Option Value) (h : Heap) (L : List Loc) : Prop := v = some (.int (f3_0 i0)) ∧ Fr n0 L ∧ h = h0
set_option maxRecDepth 65536 in
set_option maxHeartbeats 4000000 in
theorem rm3 (l : Launch) (Z : State) (a0 : Array Value) (hw : ∀ d ∈ tables_1, d.before a0 Z = true) (ws : List Jvm.Cond) (i0 : Int32) (h0 : Heap) (n0 : Nat) :
    MetFree l (⟨"com/example/nuthatch/nuthatch/NameTableHashPinLaw", "fmix", "(I)I"⟩ : MethodName) (head1 (Jvm.Cond.code (⟨"com/example/nuthatch/nuthatch/NameTableHashPinLaw", "fmix", "(I)I"⟩ : MethodName) method_4_code 1 (some .int) :: ws) ({ frames := 0, cells := 0, slots := 0, locals := 0 } : Room)) (fun a U => a = #[(.int i0)] ∧ Z.Warmed39 U.vm ∧ U.heap = h0) (fun _ _ _ _ _ => True) (fun _ U o U' => ∃ v L, o = .returned v ∧ Q3 i0 h0 n0 v U'.heap L ∧ FrameEnd U o U' L ({ frames := 0, cells := 0, slots := 0, locals := 0 } : Room).cells ({ frames := 0, cells := 0, slots := 0, locals := 0 } : Room).slots) := by
  refine MetFree.of_bodySF (plainFor_of_name pnm_0) hisR ?_
  intro p e s m args below meth c s₁ Bd hml0 hP hK
  obtain ⟨rfl, hZ, hh⟩ := hP
  have hx := Bd.exec
  have hby := Bd.bytes
  have hml : c.maxLocals = 1 := hml0
  have hown : s.vm.findClass "com/example/nuthatch/nuthatch/NameTableHashPinLaw" = some m.cls := findClass_of_methodNamed Bd.named
  have X0 : Stand p l e ({ frames := 0, cells := 0, slots := 0, locals := 0 } : Room) s m #[(.int i0)] below meth c s₁ [] 0 0 := Stand.of_body Bd
  have e0 : s₁.heap = h0 := by rw [← hh, Bd.state]; rfl
  have fin := b3_0 i0 (Q := Q3 i0 h0 n0) hw X0 hx hZ hby hml hown Bd.returns (BodyLoose.notSynchronized Bd) e0 (Fr.nil n0) (Nat.zero_le _) (Nat.zero_le _) _ rfl (fun L' n' => ⟨rfl, n', rfl⟩)
  exact own_step (fun t k => castTop (ef_3 m i0) k) fin
theorem d5_0 : decode method_3_code 0 = .ok (.iload_n 0, 1) := by decide +kernel
theorem d5_1 : decode method_3_code 1 = .ok (.iload_n 1, 1) := by decide +kernel
theorem d5_2 : decode method_3_code 2 = .ok (.sipush 255, 3) := by decide +kernel
theorem d5_5 : decode method_3_code 5 = .ok (.iand, 1) := by decide +kernel
theorem d5_6 : decode method_3_code 6 = .ok (.ixor, 1) := by decide +kernel
theorem d5_7 : decode method_3_code 7 = .ok (.ldc 32, 2) := by decide +kernel
theorem d5_9 : decode method_3_code 9 = .ok (.imul, 1) := by decide +kernel
theorem d5_10 : decode method_3_code 10 = .ok (.ireturn, 1) := by decide +kernel
def f5_0 (i0 : Int32) (i1 : Int32) : Int32 := ((i0 ^^^ (i1 &&& (255 : Int32))) * (16777619 : Int32))
set_option maxRecDepth 65536 in
set_option maxHeartbeats 40000000 in
theorem b5_0 {p : Program} {l : Launch} {e : Env} {s : State} {m : MethodId} {args : Array Value} {below : List Frame} {meth : Method} {c : Code} {T : State} {locs : List Loc} {cells slots : Nat} {Z : State} {a0 : Array Value} {h : Heap} {n0 : Nat} {Q : Option Value → Heap → List Loc → Prop} (i0 : Int32) (i1 : Int32) (hw : ∀ d ∈ tables_1, d.before a0 Z = true) (X : Stand p l e ({ frames := 0, cells := 0, slots := 0, locals := 0 } : Room) s m args below meth c T locs cells slots) (hx : p.tables.exec = Jvm.exec) (hZ : Z.Warmed39 s.vm) (hby : c.code = method_3_code) (hml : c.maxLocals = 2) (hown : s.vm.findClass "com/example/nuthatch/nuthatch/NameTableHashPinLaw" = some m.cls) (hret : meth.sig.returnType = some .int) (hlk : meth.locks = false) (eT : T.heap = h) (N : Fr n0 locs) (hc : cells ≤ 0) (hs : slots ≤ 0) (v : Int32) (hv : v = f5_0 i0 i1) (hQ : ∀ L', Fr n0 L' → Q (some (.int v)) h L') :
    own_Fin p e below s Q 0 0 (T.setTop (mkF m 0 #[.val (.int i0), .val (.int i1)] [])) := by
  refine own_step (fun t k => XS.iloadN X.here hx rfl (hb hby d5_0) rfl  k) ?_
  show own_Fin p e below s Q 0 0 (T.setTop (mkF m 1 #[.val (.int i0), .val (.int i1)] [(.int i0)]))
  refine own_step (fun t k => XS.iloadN X.here hx rfl (hb hby d5_1) rfl  k) ?_
  show own_Fin p e below s Q 0 0 (T.setTop (mkF m 2 #[.val (.int i0), .val (.int i1)] [(.int i1), (.int i0)]))
  refine own_step (fun t k => XS.sipush X.here hx rfl (hb hby d5_2) k) ?_
  show own_Fin p e below s Q 0 0 (T.setTop (mkF m 5 #[.val (.int i0), .val (.int i1)] [(.int (255 : Int32)), (.int i1), (.int i0)]))
  refine own_step (fun t k => XS.iand X.here hx rfl (hb hby d5_5) rfl k) ?_
  show own_Fin p e below s Q 0 0 (T.setTop (mkF m 6 #[.val (.int i0), .val (.int i1)] [(.int (i1 &&& (255 : Int32))), (.int i0)]))
  refine own_step (fun t k => XS.ixor X.here hx rfl (hb hby d5_6) rfl k) ?_
  show own_Fin p e below s Q 0 0 (T.setTop (mkF m 7 #[.val (.int i0), .val (.int i1)] [(.int (i0 ^^^ (i1 &&& (255 : Int32))))]))
  refine own_step (X.ldcInt hx hown (mvT hZ (hw _ (List.mem_of_getElem? (i := 25) rfl))) (g := (mkF m 7 #[.val (.int i0), .val (.int i1)] [(.int (i0 ^^^ (i1 &&& (255 : Int32))))])) rfl (hb hby d5_7)) ?_
  show own_Fin p e below s Q 0 0 (T.setTop (mkF m 9 #[.val (.int i0), .val (.int i1)] [(.int (16777619 : Int32)), (.int (i0 ^^^ (i1 &&& (255 : Int32))))]))
  refine own_step (fun t k => XS.imul X.here hx rfl (hb hby d5_9) rfl k) ?_
  show own_Fin p e below s Q 0 0 (T.setTop (mkF m 10 #[.val (.int i0), .val (.int i1)] [(.int ((i0 ^^^ (i1 &&& (255 : Int32))) * (16777619 : Int32)))]))
  exact own_retI X hx hlk hret (hb hby d5_10) (Nat.le_trans (Nat.add_le_add_right hc 0) (by decide)) (Nat.le_trans (Nat.add_le_add_right hs 0) (by decide)) eT N hQ (hv)
theorem ef_5 (m : MethodId) (i0 : Int32) (i1 : Int32) : entryFrame m #[(.int i0), (.int i1)] 2 = (mkF m 0 #[.val (.int i0), .val (.int i1)] []) := by first | (simp [entryFrame, mkF, argsToLocals, Value.category]; done) | rfl
def Q5 (i0 : Int32) (i1 : Int32) (h0 : Heap) (n0 : Nat) (v : Option Value) (h : Heap) (L : List Loc) : Prop := v = some (.int (f5_0 i0 i1)) ∧ Fr n0 L ∧ h = h0
set_option maxRecDepth 65536 in
set_option maxHeartbeats 4000000 in
theorem rm5 (l : Launch) (Z : State) (a0 : Array Value) (hw : ∀ d ∈ tables_1, d.before a0 Z = true) (ws : List Jvm.Cond) (i0 : Int32) (i1 : Int32) (h0 : Heap) (n0 : Nat) :
    MetFree l (⟨"com/example/nuthatch/nuthatch/NameTableHashPinLaw", "step", "(II)I"⟩ : MethodName) (head1 (Jvm.Cond.code (⟨"com/example/nuthatch/nuthatch/NameTableHashPinLaw", "step", "(II)I"⟩ : MethodName) method_3_code 2 (some .int) :: ws) ({ frames := 0, cells := 0, slots := 0, locals := 0 } : Room)) (fun a U => a = #[(.int i0), (.int i1)] ∧ Z.Warmed39 U.vm ∧ U.heap = h0) (fun _ _ _ _ _ => True) (fun _ U o U' => ∃ v L, o = .returned v ∧ Q5 i0 i1 h0 n0 v U'.heap L ∧ FrameEnd U o U' L ({ frames := 0, cells := 0, slots := 0, locals := 0 } : Room).cells ({ frames := 0, cells := 0, slots := 0, locals := 0 } : Room).slots) := by
  refine MetFree.of_bodySF (plainFor_of_name pnm_0) hisR ?_
  intro p e s m args below meth c s₁ Bd hml0 hP hK
  obtain ⟨rfl, hZ, hh⟩ := hP
  have hx := Bd.exec
  have hby := Bd.bytes
  have hml : c.maxLocals = 2 := hml0
  have hown : s.vm.findClass "com/example/nuthatch/nuthatch/NameTableHashPinLaw" = some m.cls := findClass_of_methodNamed Bd.named
  have X0 : Stand p l e ({ frames := 0, cells := 0, slots := 0, locals := 0 } : Room) s m #[(.int i0), (.int i1)] below meth c s₁ [] 0 0 := Stand.of_body Bd
  have e0 : s₁.heap = h0 := by rw [← hh, Bd.state]; rfl
  have fin := b5_0 i0 i1 (Q := Q5 i0 i1 h0 n0) hw X0 hx hZ hby hml hown Bd.returns (BodyLoose.notSynchronized Bd) e0 (Fr.nil n0) (Nat.zero_le _) (Nat.zero_le _) _ rfl (fun L' n' => ⟨rfl, n', rfl⟩)
  exact own_step (fun t k => castTop (ef_5 m i0 i1) k) fin
/-- a count i going up to n with k turns left, over an array of z -/
def own_lp (i n : Int32) (k z : Nat) : Prop := i.toInt + (k : Int) = n.toInt ∧ 0 ≤ i.toInt ∧ n.toInt ≤ (z : Int)
theorem own_lp0 {i n : Int32} {z : Nat} (h : own_lp i n 0 z) : ¬ i < n := fun q => by
  have := Int32.lt_iff_toInt_lt.mp q
  have := h.1
  omega
theorem own_lp1 {i n : Int32} {k z : Nat} (h : own_lp i n (k + 1) z) : i < n := Int32.lt_iff_toInt_lt.mpr (by have := h.1; omega)
theorem own_lz : (0 : Int32).toInt = 0 := by decide
theorem own_lpin {i n : Int32} {k z : Nat} (h : own_lp i n (k + 1) z) : own_In z i := fun q => by
  obtain ⟨h1, h2, h3⟩ := h
  have e : ¬ i < (0 : Int32) := fun y => by have := Int32.lt_iff_toInt_lt.mp y; rw [own_lz] at this; omega
  have e2 := nat_of e
  rcases q with q | q
  · exact e q
  · omega
theorem own_lps {i n : Int32} {k z : Nat} (h : own_lp i n (k + 1) z) : own_lp (i + (1 : Int32)) n k z := by
  obtain ⟨h1, h2, h3⟩ := h
  have e := c_iadd i 1
  have e1 : (1 : Int32).toInt = 1 := by decide
  have r := rng32 (i + 1)
  have r2 := rng32 n
  refine ⟨?_, ?_, h3⟩ <;> omega
theorem d4_0 : decode prog_18_method_20_code 0 = .ok (.ldc 152, 2) := by decide +kernel
theorem d4_2 : decode prog_18_method_20_code 2 = .ok (.istore_n 3, 1) := by decide +kernel
theorem d4_3 : decode prog_18_method_20_code 3 = .ok (.iload_n 1, 1) := by decide +kernel
theorem d4_4 : decode prog_18_method_20_code 4 = .ok (.istore 4, 2) := by decide +kernel
theorem d4_6 : decode prog_18_method_20_code 6 = .ok (.iload 4, 2) := by decide +kernel
theorem d4_8 : decode prog_18_method_20_code 8 = .ok (.iload_n 2, 1) := by decide +kernel
theorem d4_9 : decode prog_18_method_20_code 9 = .ok (.if_icmp .ge 23, 3) := by decide +kernel
theorem d4_12 : decode prog_18_method_20_code 12 = .ok (.iload_n 3, 1) := by decide +kernel
theorem d4_13 : decode prog_18_method_20_code 13 = .ok (.aload_n 0, 1) := by decide +kernel
theorem d4_14 : decode prog_18_method_20_code 14 = .ok (.iload 4, 2) := by decide +kernel
theorem d4_16 : decode prog_18_method_20_code 16 = .ok (.baload, 1) := by decide +kernel
theorem d4_17 : decode prog_18_method_20_code 17 = .ok (.sipush 255, 3) := by decide +kernel
theorem d4_20 : decode prog_18_method_20_code 20 = .ok (.iand, 1) := by decide +kernel
theorem d4_21 : decode prog_18_method_20_code 21 = .ok (.ixor, 1) := by decide +kernel
theorem d4_22 : decode prog_18_method_20_code 22 = .ok (.ldc 153, 2) := by decide +kernel
theorem d4_24 : decode prog_18_method_20_code 24 = .ok (.imul, 1) := by decide +kernel
theorem d4_25 : decode prog_18_method_20_code 25 = .ok (.istore_n 3, 1) := by decide +kernel
theorem d4_26 : decode prog_18_method_20_code 26 = .ok (.iinc 4 1, 3) := by decide +kernel
theorem d4_29 : decode prog_18_method_20_code 29 = .ok (.goto (-23), 3) := by decide +kernel
theorem d4_32 : decode prog_18_method_20_code 32 = .ok (.iload_n 3, 1) := by decide +kernel
theorem d4_33 : decode prog_18_method_20_code 33 = .ok (.iload_n 3, 1) := by decide +kernel
theorem d4_34 : decode prog_18_method_20_code 34 = .ok (.bipush 16, 2) := by decide +kernel
theorem d4_36 : decode prog_18_method_20_code 36 = .ok (.iushr, 1) := by decide +kernel
theorem d4_37 : decode prog_18_method_20_code 37 = .ok (.ixor, 1) := by decide +kernel
theorem d4_38 : decode prog_18_method_20_code 38 = .ok (.istore_n 3, 1) := by decide +kernel
theorem d4_39 : decode prog_18_method_20_code 39 = .ok (.iload_n 3, 1) := by decide +kernel
theorem d4_40 : decode prog_18_method_20_code 40 = .ok (.ldc 154, 2) := by decide +kernel
theorem d4_42 : decode prog_18_method_20_code 42 = .ok (.imul, 1) := by decide +kernel
theorem d4_43 : decode prog_18_method_20_code 43 = .ok (.istore_n 3, 1) := by decide +kernel
theorem d4_44 : decode prog_18_method_20_code 44 = .ok (.iload_n 3, 1) := by decide +kernel
theorem d4_45 : decode prog_18_method_20_code 45 = .ok (.iload_n 3, 1) := by decide +kernel
theorem d4_46 : decode prog_18_method_20_code 46 = .ok (.bipush 13, 2) := by decide +kernel
theorem d4_48 : decode prog_18_method_20_code 48 = .ok (.iushr, 1) := by decide +kernel
theorem d4_49 : decode prog_18_method_20_code 49 = .ok (.ixor, 1) := by decide +kernel
theorem d4_50 : decode prog_18_method_20_code 50 = .ok (.istore_n 3, 1) := by decide +kernel
theorem d4_51 : decode prog_18_method_20_code 51 = .ok (.iload_n 3, 1) := by decide +kernel
theorem d4_52 : decode prog_18_method_20_code 52 = .ok (.ldc 155, 2) := by decide +kernel
theorem d4_54 : decode prog_18_method_20_code 54 = .ok (.imul, 1) := by decide +kernel
theorem d4_55 : decode prog_18_method_20_code 55 = .ok (.istore_n 3, 1) := by decide +kernel
theorem d4_56 : decode prog_18_method_20_code 56 = .ok (.iload_n 3, 1) := by decide +kernel
theorem d4_57 : decode prog_18_method_20_code 57 = .ok (.iload_n 3, 1) := by decide +kernel
theorem d4_58 : decode prog_18_method_20_code 58 = .ok (.bipush 16, 2) := by decide +kernel
theorem d4_60 : decode prog_18_method_20_code 60 = .ok (.iushr, 1) := by decide +kernel
theorem d4_61 : decode prog_18_method_20_code 61 = .ok (.ixor, 1) := by decide +kernel
theorem d4_62 : decode prog_18_method_20_code 62 = .ok (.istore_n 3, 1) := by decide +kernel
theorem d4_63 : decode prog_18_method_20_code 63 = .ok (.iload_n 3, 1) := by decide +kernel
theorem d4_64 : decode prog_18_method_20_code 64 = .ok (.ireturn, 1) := by decide +kernel
def f4_6 (g0 : Nat → Int32) (i1 : Int32) (i2 : Int32) (i3 : Int32) (i4 : Int32) (k : Nat) : Int32 := match k with
  | 0 => (((((i3 ^^^ ((i3.toUInt32 >>> ((16 : Int32) &&& 31).toUInt32).toInt32)) * (-2048144789 : Int32)) ^^^ ((((i3 ^^^ ((i3.toUInt32 >>> ((16 : Int32) &&& 31).toUInt32).toInt32)) * (-2048144789 : Int32)).toUInt32 >>> ((13 : Int32) &&& 31).toUInt32).toInt32)) * (-1028477387 : Int32)) ^^^ ((((((i3 ^^^ ((i3.toUInt32 >>> ((16 : Int32) &&& 31).toUInt32).toInt32)) * (-2048144789 : Int32)) ^^^ ((((i3 ^^^ ((i3.toUInt32 >>> ((16 : Int32) &&& 31).toUInt32).toInt32)) * (-2048144789 : Int32)).toUInt32 >>> ((13 : Int32) &&& 31).toUInt32).toInt32)) * (-1028477387 : Int32)).toUInt32 >>> ((16 : Int32) &&& 31).toUInt32).toInt32))
  | k + 1 => f4_6 g0 i1 i2 ((i3 ^^^ ((g0 (i4).toNatClampNeg) &&& (255 : Int32))) * (16777619 : Int32)) (i4 + (1 : Int32)) k
set_option maxRecDepth 65536 in
set_option maxHeartbeats 40000000 in
theorem b4_6 {p : Program} {l : Launch} {e : Env} {s : State} {m : MethodId} {args : Array Value} {below : List Frame} {meth : Method} {c : Code} {Z : State} {a0 : Array Value} {h : Heap} {n0 : Nat} {Q : Option Value → Heap → List Loc → Prop} (k : Nat) : ∀ {T : State} {locs : List Loc} {cells slots : Nat} (o0 : Addr) (g0 : Nat → Int32) (z0 : Nat) (i1 : Int32) (i2 : Int32) (i3 : Int32) (i4 : Int32) (hw : ∀ d ∈ tables_1, d.before a0 Z = true) (X : Stand p l e ({ frames := 0, cells := 0, slots := 0, locals := 0 } : Room) s m args below meth c T locs cells slots) (hx : p.tables.exec = Jvm.exec) (hZ : Z.Warmed39 s.vm) (hby : c.code = prog_18_method_20_code) (hml : c.maxLocals = 5) (hown : s.vm.findClass "com/example/nuthatch/nuthatch/NameTable" = some m.cls) (hret : meth.sig.returnType = some .int) (hlk : meth.locks = false) (eT : T.heap = h) (N : Fr n0 locs) (hc : cells ≤ 0) (hs : slots ≤ 0) (A0 : own_AF Z h o0 .byte z0 g0) (hk0 : own_lp i1 i2 ((i2.toInt - i1.toInt).toNat) z0) (hk : own_lp i4 i2 k z0) (v : Int32) (hv : v = f4_6 g0 i1 i2 i3 i4 k) (hQ : ∀ L', Fr n0 L' → Q (some (.int v)) h L'),
    own_Fin p e below s Q 0 0 (T.setTop (mkF m 6 #[.val (.ref o0), .val (.int i1), .val (.int i2), .val (.int i3), .val (.int i4)] [])) := by
  induction k with
  | zero =>
    intro T locs cells slots o0 g0 z0 i1 i2 i3 i4 hw X hx hZ hby hml hown hret hlk eT N hc hs A0 hk0 hk v hv hQ
    refine own_step (fun t k => XS.iload X.here hx rfl (hb hby d4_6) rfl  k) ?_
    show own_Fin p e below s Q 0 0 (T.setTop (mkF m 8 #[.val (.ref o0), .val (.int i1), .val (.int i2), .val (.int i3), .val (.int i4)] [(.int i4)]))
    refine own_step (fun t k => XS.iloadN X.here hx rfl (hb hby d4_8) rfl  k) ?_
    show own_Fin p e below s Q 0 0 (T.setTop (mkF m 9 #[.val (.ref o0), .val (.int i1), .val (.int i2), .val (.int i3), .val (.int i4)] [(.int i2), (.int i4)]))
    refine own_step (fun t k => XS.icmpYes X.here hx rfl (pc0 := 9) (pc' := 32) rfl (hb hby d4_9) rfl (flt (own_lp0 hk)).2.1 (by decide) (by decide) k) ?_
    show own_Fin p e below s Q 0 0 (T.setTop (mkF m 32 #[.val (.ref o0), .val (.int i1), .val (.int i2), .val (.int i3), .val (.int i4)] []))
    refine own_step (fun t k => XS.iloadN X.here hx rfl (hb hby d4_32) rfl  k) ?_
    show own_Fin p e below s Q 0 0 (T.setTop (mkF m 33 #[.val (.ref o0), .val (.int i1), .val (.int i2), .val (.int i3), .val (.int i4)] [(.int i3)]))
    refine own_step (fun t k => XS.iloadN X.here hx rfl (hb hby d4_33) rfl  k) ?_
    show own_Fin p e below s Q 0 0 (T.setTop (mkF m 34 #[.val (.ref o0), .val (.int i1), .val (.int i2), .val (.int i3), .val (.int i4)] [(.int i3), (.int i3)]))
    refine own_step (fun t k => XS.bipush X.here hx rfl (hb hby d4_34) k) ?_
    show own_Fin p e below s Q 0 0 (T.setTop (mkF m 36 #[.val (.ref o0), .val (.int i1), .val (.int i2), .val (.int i3), .val (.int i4)] [(.int (16 : Int32)), (.int i3), (.int i3)]))
    refine own_step (fun t k => XS.iushr X.here hx rfl (hb hby d4_36) rfl k) ?_
    show own_Fin p e below s Q 0 0 (T.setTop (mkF m 37 #[.val (.ref o0), .val (.int i1), .val (.int i2), .val (.int i3), .val (.int i4)] [(.int ((i3.toUInt32 >>> ((16 : Int32) &&& 31).toUInt32).toInt32)), (.int i3)]))
    refine own_step (fun t k => XS.ixor X.here hx rfl (hb hby d4_37) rfl k) ?_
    show own_Fin p e below s Q 0 0 (T.setTop (mkF m 38 #[.val (.ref o0), .val (.int i1), .val (.int i2), .val (.int i3), .val (.int i4)] [(.int (i3 ^^^ ((i3.toUInt32 >>> ((16 : Int32) &&& 31).toUInt32).toInt32)))]))
    refine own_step (fun t k => XS.istoreN X.here hx rfl (hb hby d4_38) rfl (l' := #[.val (.ref o0), .val (.int i1), .val (.int i2), .val (.int (i3 ^^^ ((i3.toUInt32 >>> ((16 : Int32) &&& 31).toUInt32).toInt32))), .val (.int i4)]) rfl k) ?_
    show own_Fin p e below s Q 0 0 (T.setTop (mkF m 39 #[.val (.ref o0), .val (.int i1), .val (.int i2), .val (.int (i3 ^^^ ((i3.toUInt32 >>> ((16 : Int32) &&& 31).toUInt32).toInt32))), .val (.int i4)] []))
    refine own_step (fun t k => XS.iloadN X.here hx rfl (hb hby d4_39) rfl  k) ?_
    show own_Fin p e below s Q 0 0 (T.setTop (mkF m 40 #[.val (.ref o0), .val (.int i1), .val (.int i2), .val (.int (i3 ^^^ ((i3.toUInt32 >>> ((16 : Int32) &&& 31).toUInt32).toInt32))), .val (.int i4)] [(.int (i3 ^^^ ((i3.toUInt32 >>> ((16 : Int32) &&& 31).toUInt32).toInt32)))]))
    refine own_step (X.ldcInt hx hown (mvT hZ (hw _ (List.mem_of_getElem? (i := 20) rfl))) (g := (mkF m 40 #[.val (.ref o0), .val (.int i1), .val (.int i2), .val (.int (i3 ^^^ ((i3.toUInt32 >>> ((16 : Int32) &&& 31).toUInt32).toInt32))), .val (.int i4)] [(.int (i3 ^^^ ((i3.toUInt32 >>> ((16 : Int32) &&& 31).toUInt32).toInt32)))])) rfl (hb hby d4_40)) ?_
    show own_Fin p e below s Q 0 0 (T.setTop (mkF m 42 #[.val (.ref o0), .val (.int i1), .val (.int i2), .val (.int (i3 ^^^ ((i3.toUInt32 >>> ((16 : Int32) &&& 31).toUInt32).toInt32))), .val (.int i4)] [(.int (-2048144789 : Int32)), (.int (i3 ^^^ ((i3.toUInt32 >>> ((16 : Int32) &&& 31).toUInt32).toInt32)))]))
    refine own_step (fun t k => XS.imul X.here hx rfl (hb hby d4_42) rfl k) ?_
    show own_Fin p e below s Q 0 0 (T.setTop (mkF m 43 #[.val (.ref o0), .val (.int i1), .val (.int i2), .val (.int (i3 ^^^ ((i3.toUInt32 >>> ((16 : Int32) &&& 31).toUInt32).toInt32))), .val (.int i4)] [(.int ((i3 ^^^ ((i3.toUInt32 >>> ((16 : Int32) &&& 31).toUInt32).toInt32)) * (-2048144789 : Int32)))]))
    refine own_step (fun t k => XS.istoreN X.here hx rfl (hb hby d4_43) rfl (l' := #[.val (.ref o0), .val (.int i1), .val (.int i2), .val (.int ((i3 ^^^ ((i3.toUInt32 >>> ((16 : Int32) &&& 31).toUInt32).toInt32)) * (-2048144789 : Int32))), .val (.int i4)]) rfl k) ?_
    show own_Fin p e below s Q 0 0 (T.setTop (mkF m 44 #[.val (.ref o0), .val (.int i1), .val (.int i2), .val (.int ((i3 ^^^ ((i3.toUInt32 >>> ((16 : Int32) &&& 31).toUInt32).toInt32)) * (-2048144789 : Int32))), .val (.int i4)] []))
    refine own_step (fun t k => XS.iloadN X.here hx rfl (hb hby d4_44) rfl  k) ?_
    show own_Fin p e below s Q 0 0 (T.setTop (mkF m 45 #[.val (.ref o0), .val (.int i1), .val (.int i2), .val (.int ((i3 ^^^ ((i3.toUInt32 >>> ((16 : Int32) &&& 31).toUInt32).toInt32)) * (-2048144789 : Int32))), .val (.int i4)] [(.int ((i3 ^^^ ((i3.toUInt32 >>> ((16 : Int32) &&& 31).toUInt32).toInt32)) * (-2048144789 : Int32)))]))
    refine own_step (fun t k => XS.iloadN X.here hx rfl (hb hby d4_45) rfl  k) ?_
    show own_Fin p e below s Q 0 0 (T.setTop (mkF m 46 #[.val (.ref o0), .val (.int i1), .val (.int i2), .val (.int ((i3 ^^^ ((i3.toUInt32 >>> ((16 : Int32) &&& 31).toUInt32).toInt32)) * (-2048144789 : Int32))), .val (.int i4)] [(.int ((i3 ^^^ ((i3.toUInt32 >>> ((16 : Int32) &&& 31).toUInt32).toInt32)) * (-2048144789 : Int32))), (.int ((i3 ^^^ ((i3.toUInt32 >>> ((16 : Int32) &&& 31).toUInt32).toInt32)) * (-2048144789 : Int32)))]))
    refine own_step (fun t k => XS.bipush X.here hx rfl (hb hby d4_46) k) ?_
    show own_Fin p e below s Q 0 0 (T.setTop (mkF m 48 #[.val (.ref o0), .val (.int i1), .val (.int i2), .val (.int ((i3 ^^^ ((i3.toUInt32 >>> ((16 : Int32) &&& 31).toUInt32).toInt32)) * (-2048144789 : Int32))), .val (.int i4)] [(.int (13 : Int32)), (.int ((i3 ^^^ ((i3.toUInt32 >>> ((16 : Int32) &&& 31).toUInt32).toInt32)) * (-2048144789 : Int32))), (.int ((i3 ^^^ ((i3.toUInt32 >>> ((16 : Int32) &&& 31).toUInt32).toInt32)) * (-2048144789 : Int32)))]))
    refine own_step (fun t k => XS.iushr X.here hx rfl (hb hby d4_48) rfl k) ?_
    show own_Fin p e below s Q 0 0 (T.setTop (mkF m 49 #[.val (.ref o0), .val (.int i1), .val (.int i2), .val (.int ((i3 ^^^ ((i3.toUInt32 >>> ((16 : Int32) &&& 31).toUInt32).toInt32)) * (-2048144789 : Int32))), .val (.int i4)] [(.int ((((i3 ^^^ ((i3.toUInt32 >>> ((16 : Int32) &&& 31).toUInt32).toInt32)) * (-2048144789 : Int32)).toUInt32 >>> ((13 : Int32) &&& 31).toUInt32).toInt32)), (.int ((i3 ^^^ ((i3.toUInt32 >>> ((16 : Int32) &&& 31).toUInt32).toInt32)) * (-2048144789 : Int32)))]))
    refine own_step (fun t k => XS.ixor X.here hx rfl (hb hby d4_49) rfl k) ?_
    show own_Fin p e below s Q 0 0 (T.setTop (mkF m 50 #[.val (.ref o0), .val (.int i1), .val (.int i2), .val (.int ((i3 ^^^ ((i3.toUInt32 >>> ((16 : Int32) &&& 31).toUInt32).toInt32)) * (-2048144789 : Int32))), .val (.int i4)] [(.int (((i3 ^^^ ((i3.toUInt32 >>> ((16 : Int32) &&& 31).toUInt32).toInt32)) * (-2048144789 : Int32)) ^^^ ((((i3 ^^^ ((i3.toUInt32 >>> ((16 : Int32) &&& 31).toUInt32).toInt32)) * (-2048144789 : Int32)).toUInt32 >>> ((13 : Int32) &&& 31).toUInt32).toInt32)))]))
    refine own_step (fun t k => XS.istoreN X.here hx rfl (hb hby d4_50) rfl (l' := #[.val (.ref o0), .val (.int i1), .val (.int i2), .val (.int (((i3 ^^^ ((i3.toUInt32 >>> ((16 : Int32) &&& 31).toUInt32).toInt32)) * (-2048144789 : Int32)) ^^^ ((((i3 ^^^ ((i3.toUInt32 >>> ((16 : Int32) &&& 31).toUInt32).toInt32)) * (-2048144789 : Int32)).toUInt32 >>> ((13 : Int32) &&& 31).toUInt32).toInt32))), .val (.int i4)]) rfl k) ?_
    show own_Fin p e below s Q 0 0 (T.setTop (mkF m 51 #[.val (.ref o0), .val (.int i1), .val (.int i2), .val (.int (((i3 ^^^ ((i3.toUInt32 >>> ((16 : Int32) &&& 31).toUInt32).toInt32)) * (-2048144789 : Int32)) ^^^ ((((i3 ^^^ ((i3.toUInt32 >>> ((16 : Int32) &&& 31).toUInt32).toInt32)) * (-2048144789 : Int32)).toUInt32 >>> ((13 : Int32) &&& 31).toUInt32).toInt32))), .val (.int i4)] []))
    refine own_step (fun t k => XS.iloadN X.here hx rfl (hb hby d4_51) rfl  k) ?_
    show own_Fin p e below s Q 0 0 (T.setTop (mkF m 52 #[.val (.ref o0), .val (.int i1), .val (.int i2), .val (.int (((i3 ^^^ ((i3.toUInt32 >>> ((16 : Int32) &&& 31).toUInt32).toInt32)) * (-2048144789 : Int32)) ^^^ ((((i3 ^^^ ((i3.toUInt32 >>> ((16 : Int32) &&& 31).toUInt32).toInt32)) * (-2048144789 : Int32)).toUInt32 >>> ((13 : Int32) &&& 31).toUInt32).toInt32))), .val (.int i4)] [(.int (((i3 ^^^ ((i3.toUInt32 >>> ((16 : Int32) &&& 31).toUInt32).toInt32)) * (-2048144789 : Int32)) ^^^ ((((i3 ^^^ ((i3.toUInt32 >>> ((16 : Int32) &&& 31).toUInt32).toInt32)) * (-2048144789 : Int32)).toUInt32 >>> ((13 : Int32) &&& 31).toUInt32).toInt32)))]))
    refine own_step (X.ldcInt hx hown (mvT hZ (hw _ (List.mem_of_getElem? (i := 21) rfl))) (g := (mkF m 52 #[.val (.ref o0), .val (.int i1), .val (.int i2), .val (.int (((i3 ^^^ ((i3.toUInt32 >>> ((16 : Int32) &&& 31).toUInt32).toInt32)) * (-2048144789 : Int32)) ^^^ ((((i3 ^^^ ((i3.toUInt32 >>> ((16 : Int32) &&& 31).toUInt32).toInt32)) * (-2048144789 : Int32)).toUInt32 >>> ((13 : Int32) &&& 31).toUInt32).toInt32))), .val (.int i4)] [(.int (((i3 ^^^ ((i3.toUInt32 >>> ((16 : Int32) &&& 31).toUInt32).toInt32)) * (-2048144789 : Int32)) ^^^ ((((i3 ^^^ ((i3.toUInt32 >>> ((16 : Int32) &&& 31).toUInt32).toInt32)) * (-2048144789 : Int32)).toUInt32 >>> ((13 : Int32) &&& 31).toUInt32).toInt32)))])) rfl (hb hby d4_52)) ?_
    show own_Fin p e below s Q 0 0 (T.setTop (mkF m 54 #[.val (.ref o0), .val (.int i1), .val (.int i2), .val (.int (((i3 ^^^ ((i3.toUInt32 >>> ((16 : Int32) &&& 31).toUInt32).toInt32)) * (-2048144789 : Int32)) ^^^ ((((i3 ^^^ ((i3.toUInt32 >>> ((16 : Int32) &&& 31).toUInt32).toInt32)) * (-2048144789 : Int32)).toUInt32 >>> ((13 : Int32) &&& 31).toUInt32).toInt32))), .val (.int i4)] [(.int (-1028477387 : Int32)), (.int (((i3 ^^^ ((i3.toUInt32 >>> ((16 : Int32) &&& 31).toUInt32).toInt32)) * (-2048144789 : Int32)) ^^^ ((((i3 ^^^ ((i3.toUInt32 >>> ((16 : Int32) &&& 31).toUInt32).toInt32)) * (-2048144789 : Int32)).toUInt32 >>> ((13 : Int32) &&& 31).toUInt32).toInt32)))]))
    refine own_step (fun t k => XS.imul X.here hx rfl (hb hby d4_54) rfl k) ?_
    show own_Fin p e below s Q 0 0 (T.setTop (mkF m 55 #[.val (.ref o0), .val (.int i1), .val (.int i2), .val (.int (((i3 ^^^ ((i3.toUInt32 >>> ((16 : Int32) &&& 31).toUInt32).toInt32)) * (-2048144789 : Int32)) ^^^ ((((i3 ^^^ ((i3.toUInt32 >>> ((16 : Int32) &&& 31).toUInt32).toInt32)) * (-2048144789 : Int32)).toUInt32 >>> ((13 : Int32) &&& 31).toUInt32).toInt32))), .val (.int i4)] [(.int ((((i3 ^^^ ((i3.toUInt32 >>> ((16 : Int32) &&& 31).toUInt32).toInt32)) * (-2048144789 : Int32)) ^^^ ((((i3 ^^^ ((i3.toUInt32 >>> ((16 : Int32) &&& 31).toUInt32).toInt32)) * (-2048144789 : Int32)).toUInt32 >>> ((13 : Int32) &&& 31).toUInt32).toInt32)) * (-1028477387 : Int32)))]))
    refine own_step (fun t k => XS.istoreN X.here hx rfl (hb hby d4_55) rfl (l' := #[.val (.ref o0), .val (.int i1), .val (.int i2), .val (.int ((((i3 ^^^ ((i3.toUInt32 >>> ((16 : Int32) &&& 31).toUInt32).toInt32)) * (-2048144789 : Int32)) ^^^ ((((i3 ^^^ ((i3.toUInt32 >>> ((16 : Int32) &&& 31).toUInt32).toInt32)) * (-2048144789 : Int32)).toUInt32 >>> ((13 : Int32) &&& 31).toUInt32).toInt32)) * (-1028477387 : Int32))), .val (.int i4)]) rfl k) ?_
    show own_Fin p e below s Q 0 0 (T.setTop (mkF m 56 #[.val (.ref o0), .val (.int i1), .val (.int i2), .val (.int ((((i3 ^^^ ((i3.toUInt32 >>> ((16 : Int32) &&& 31).toUInt32).toInt32)) * (-2048144789 : Int32)) ^^^ ((((i3 ^^^ ((i3.toUInt32 >>> ((16 : Int32) &&& 31).toUInt32).toInt32)) * (-2048144789 : Int32)).toUInt32 >>> ((13 : Int32) &&& 31).toUInt32).toInt32)) * (-1028477387 : Int32))), .val (.int i4)] []))
    refine own_step (fun t k => XS.iloadN X.here hx rfl (hb hby d4_56) rfl  k) ?_
    show own_Fin p e below s Q 0 0 (T.setTop (mkF m 57 #[.val (.ref o0), .val (.int i1), .val (.int i2), .val (.int ((((i3 ^^^ ((i3.toUInt32 >>> ((16 : Int32) &&& 31).toUInt32).toInt32)) * (-2048144789 : Int32)) ^^^ ((((i3 ^^^ ((i3.toUInt32 >>> ((16 : Int32) &&& 31).toUInt32).toInt32)) * (-2048144789 : Int32)).toUInt32 >>> ((13 : Int32) &&& 31).toUInt32).toInt32)) * (-1028477387 : Int32))), .val (.int i4)] [(.int ((((i3 ^^^ ((i3.toUInt32 >>> ((16 : Int32) &&& 31).toUInt32).toInt32)) * (-2048144789 : Int32)) ^^^ ((((i3 ^^^ ((i3.toUInt32 >>> ((16 : Int32) &&& 31).toUInt32).toInt32)) * (-2048144789 : Int32)).toUInt32 >>> ((13 : Int32) &&& 31).toUInt32).toInt32)) * (-1028477387 : Int32)))]))
    refine own_step (fun t k => XS.iloadN X.here hx rfl (hb hby d4_57) rfl  k) ?_
    show own_Fin p e below s Q 0 0 (T.setTop (mkF m 58 #[.val (.ref o0), .val (.int i1), .val (.int i2), .val (.int ((((i3 ^^^ ((i3.toUInt32 >>> ((16 : Int32) &&& 31).toUInt32).toInt32)) * (-2048144789 : Int32)) ^^^ ((((i3 ^^^ ((i3.toUInt32 >>> ((16 : Int32) &&& 31).toUInt32).toInt32)) * (-2048144789 : Int32)).toUInt32 >>> ((13 : Int32) &&& 31).toUInt32).toInt32)) * (-1028477387 : Int32))), .val (.int i4)] [(.int ((((i3 ^^^ ((i3.toUInt32 >>> ((16 : Int32) &&& 31).toUInt32).toInt32)) * (-2048144789 : Int32)) ^^^ ((((i3 ^^^ ((i3.toUInt32 >>> ((16 : Int32) &&& 31).toUInt32).toInt32)) * (-2048144789 : Int32)).toUInt32 >>> ((13 : Int32) &&& 31).toUInt32).toInt32)) * (-1028477387 : Int32))), (.int ((((i3 ^^^ ((i3.toUInt32 >>> ((16 : Int32) &&& 31).toUInt32).toInt32)) * (-2048144789 : Int32)) ^^^ ((((i3 ^^^ ((i3.toUInt32 >>> ((16 : Int32) &&& 31).toUInt32).toInt32)) * (-2048144789 : Int32)).toUInt32 >>> ((13 : Int32) &&& 31).toUInt32).toInt32)) * (-1028477387 : Int32)))]))
    refine own_step (fun t k => XS.bipush X.here hx rfl (hb hby d4_58) k) ?_
    show own_Fin p e below s Q 0 0 (T.setTop (mkF m 60 #[.val (.ref o0), .val (.int i1), .val (.int i2), .val (.int ((((i3 ^^^ ((i3.toUInt32 >>> ((16 : Int32) &&& 31).toUInt32).toInt32)) * (-2048144789 : Int32)) ^^^ ((((i3 ^^^ ((i3.toUInt32 >>> ((16 : Int32) &&& 31).toUInt32).toInt32)) * (-2048144789 : Int32)).toUInt32 >>> ((13 : Int32) &&& 31).toUInt32).toInt32)) * (-1028477387 : Int32))), .val (.int i4)] [(.int (16 : Int32)), (.int ((((i3 ^^^ ((i3.toUInt32 >>> ((16 : Int32) &&& 31).toUInt32).toInt32)) * (-2048144789 : Int32)) ^^^ ((((i3 ^^^ ((i3.toUInt32 >>> ((16 : Int32) &&& 31).toUInt32).toInt32)) * (-2048144789 : Int32)).toUInt32 >>> ((13 : Int32) &&& 31).toUInt32).toInt32)) * (-1028477387 : Int32))), (.int ((((i3 ^^^ ((i3.toUInt32 >>> ((16 : Int32) &&& 31).toUInt32).toInt32)) * (-2048144789 : Int32)) ^^^ ((((i3 ^^^ ((i3.toUInt32 >>> ((16 : Int32) &&& 31).toUInt32).toInt32)) * (-2048144789 : Int32)).toUInt32 >>> ((13 : Int32) &&& 31).toUInt32).toInt32)) * (-1028477387 : Int32)))]))
    refine own_step (fun t k => XS.iushr X.here hx rfl (hb hby d4_60) rfl k) ?_
    show own_Fin p e below s Q 0 0 (T.setTop (mkF m 61 #[.val (.ref o0), .val (.int i1), .val (.int i2), .val (.int ((((i3 ^^^ ((i3.toUInt32 >>> ((16 : Int32) &&& 31).toUInt32).toInt32)) * (-2048144789 : Int32)) ^^^ ((((i3 ^^^ ((i3.toUInt32 >>> ((16 : Int32) &&& 31).toUInt32).toInt32)) * (-2048144789 : Int32)).toUInt32 >>> ((13 : Int32) &&& 31).toUInt32).toInt32)) * (-1028477387 : Int32))), .val (.int i4)] [(.int ((((((i3 ^^^ ((i3.toUInt32 >>> ((16 : Int32) &&& 31).toUInt32).toInt32)) * (-2048144789 : Int32)) ^^^ ((((i3 ^^^ ((i3.toUInt32 >>> ((16 : Int32) &&& 31).toUInt32).toInt32)) * (-2048144789 : Int32)).toUInt32 >>> ((13 : Int32) &&& 31).toUInt32).toInt32)) * (-1028477387 : Int32)).toUInt32 >>> ((16 : Int32) &&& 31).toUInt32).toInt32)), (.int ((((i3 ^^^ ((i3.toUInt32 >>> ((16 : Int32) &&& 31).toUInt32).toInt32)) * (-2048144789 : Int32)) ^^^ ((((i3 ^^^ ((i3.toUInt32 >>> ((16 : Int32) &&& 31).toUInt32).toInt32)) * (-2048144789 : Int32)).toUInt32 >>> ((13 : Int32) &&& 31).toUInt32).toInt32)) * (-1028477387 : Int32)))]))
    refine own_step (fun t k => XS.ixor X.here hx rfl (hb hby d4_61) rfl k) ?_
    show own_Fin p e below s Q 0 0 (T.setTop (mkF m 62 #[.val (.ref o0), .val (.int i1), .val (.int i2), .val (.int ((((i3 ^^^ ((i3.toUInt32 >>> ((16 : Int32) &&& 31).toUInt32).toInt32)) * (-2048144789 : Int32)) ^^^ ((((i3 ^^^ ((i3.toUInt32 >>> ((16 : Int32) &&& 31).toUInt32).toInt32)) * (-2048144789 : Int32)).toUInt32 >>> ((13 : Int32) &&& 31).toUInt32).toInt32)) * (-1028477387 : Int32))), .val (.int i4)] [(.int (((((i3 ^^^ ((i3.toUInt32 >>> ((16 : Int32) &&& 31).toUInt32).toInt32)) * (-2048144789 : Int32)) ^^^ ((((i3 ^^^ ((i3.toUInt32 >>> ((16 : Int32) &&& 31).toUInt32).toInt32)) * (-2048144789 : Int32)).toUInt32 >>> ((13 : Int32) &&& 31).toUInt32).toInt32)) * (-1028477387 : Int32)) ^^^ ((((((i3 ^^^ ((i3.toUInt32 >>> ((16 : Int32) &&& 31).toUInt32).toInt32)) * (-2048144789 : Int32)) ^^^ ((((i3 ^^^ ((i3.toUInt32 >>> ((16 : Int32) &&& 31).toUInt32).toInt32)) * (-2048144789 : Int32)).toUInt32 >>> ((13 : Int32) &&& 31).toUInt32).toInt32)) * (-1028477387 : Int32)).toUInt32 >>> ((16 : Int32) &&& 31).toUInt32).toInt32)))]))
    refine own_step (fun t k => XS.istoreN X.here hx rfl (hb hby d4_62) rfl (l' := #[.val (.ref o0), .val (.int i1), .val (.int i2), .val (.int (((((i3 ^^^ ((i3.toUInt32 >>> ((16 : Int32) &&& 31).toUInt32).toInt32)) * (-2048144789 : Int32)) ^^^ ((((i3 ^^^ ((i3.toUInt32 >>> ((16 : Int32) &&& 31).toUInt32).toInt32)) * (-2048144789 : Int32)).toUInt32 >>> ((13 : Int32) &&& 31).toUInt32).toInt32)) * (-1028477387 : Int32)) ^^^ ((((((i3 ^^^ ((i3.toUInt32 >>> ((16 : Int32) &&& 31).toUInt32).toInt32)) * (-2048144789 : Int32)) ^^^ ((((i3 ^^^ ((i3.toUInt32 >>> ((16 : Int32) &&& 31).toUInt32).toInt32)) * (-2048144789 : Int32)).toUInt32 >>> ((13 : Int32) &&& 31).toUInt32).toInt32)) * (-1028477387 : Int32)).toUInt32 >>> ((16 : Int32) &&& 31).toUInt32).toInt32))), .val (.int i4)]) rfl k) ?_
    show own_Fin p e below s Q 0 0 (T.setTop (mkF m 63 #[.val (.ref o0), .val (.int i1), .val (.int i2), .val (.int (((((i3 ^^^ ((i3.toUInt32 >>> ((16 : Int32) &&& 31).toUInt32).toInt32)) * (-2048144789 : Int32)) ^^^ ((((i3 ^^^ ((i3.toUInt32 >>> ((16 : Int32) &&& 31).toUInt32).toInt32)) * (-2048144789 : Int32)).toUInt32 >>> ((13 : Int32) &&& 31).toUInt32).toInt32)) * (-1028477387 : Int32)) ^^^ ((((((i3 ^^^ ((i3.toUInt32 >>> ((16 : Int32) &&& 31).toUInt32).toInt32)) * (-2048144789 : Int32)) ^^^ ((((i3 ^^^ ((i3.toUInt32 >>> ((16 : Int32) &&& 31).toUInt32).toInt32)) * (-2048144789 : Int32)).toUInt32 >>> ((13 : Int32) &&& 31).toUInt32).toInt32)) * (-1028477387 : Int32)).toUInt32 >>> ((16 : Int32) &&& 31).toUInt32).toInt32))), .val (.int i4)] []))
    refine own_step (fun t k => XS.iloadN X.here hx rfl (hb hby d4_63) rfl  k) ?_
    show own_Fin p e below s Q 0 0 (T.setTop (mkF m 64 #[.val (.ref o0), .val (.int i1), .val (.int i2), .val (.int (((((i3 ^^^ ((i3.toUInt32 >>> ((16 : Int32) &&& 31).toUInt32).toInt32)) * (-2048144789 : Int32)) ^^^ ((((i3 ^^^ ((i3.toUInt32 >>> ((16 : Int32) &&& 31).toUInt32).toInt32)) * (-2048144789 : Int32)).toUInt32 >>> ((13 : Int32) &&& 31).toUInt32).toInt32)) * (-1028477387 : Int32)) ^^^ ((((((i3 ^^^ ((i3.toUInt32 >>> ((16 : Int32) &&& 31).toUInt32).toInt32)) * (-2048144789 : Int32)) ^^^ ((((i3 ^^^ ((i3.toUInt32 >>> ((16 : Int32) &&& 31).toUInt32).toInt32)) * (-2048144789 : Int32)).toUInt32 >>> ((13 : Int32) &&& 31).toUInt32).toInt32)) * (-1028477387 : Int32)).toUInt32 >>> ((16 : Int32) &&& 31).toUInt32).toInt32))), .val (.int i4)] [(.int (((((i3 ^^^ ((i3.toUInt32 >>> ((16 : Int32) &&& 31).toUInt32).toInt32)) * (-2048144789 : Int32)) ^^^ ((((i3 ^^^ ((i3.toUInt32 >>> ((16 : Int32) &&& 31).toUInt32).toInt32)) * (-2048144789 : Int32)).toUInt32 >>> ((13 : Int32) &&& 31).toUInt32).toInt32)) * (-1028477387 : Int32)) ^^^ ((((((i3 ^^^ ((i3.toUInt32 >>> ((16 : Int32) &&& 31).toUInt32).toInt32)) * (-2048144789 : Int32)) ^^^ ((((i3 ^^^ ((i3.toUInt32 >>> ((16 : Int32) &&& 31).toUInt32).toInt32)) * (-2048144789 : Int32)).toUInt32 >>> ((13 : Int32) &&& 31).toUInt32).toInt32)) * (-1028477387 : Int32)).toUInt32 >>> ((16 : Int32) &&& 31).toUInt32).toInt32)))]))
    exact own_retI X hx hlk hret (hb hby d4_64) (Nat.le_trans (Nat.add_le_add_right hc 0) (by decide)) (Nat.le_trans (Nat.add_le_add_right hs 0) (by decide)) eT N hQ (hv)
  | succ k ih =>
    intro T locs cells slots o0 g0 z0 i1 i2 i3 i4 hw X hx hZ hby hml hown hret hlk eT N hc hs A0 hk0 hk v hv hQ
    refine own_step (fun t k => XS.iload X.here hx rfl (hb hby d4_6) rfl  k) ?_
    show own_Fin p e below s Q 0 0 (T.setTop (mkF m 8 #[.val (.ref o0), .val (.int i1), .val (.int i2), .val (.int i3), .val (.int i4)] [(.int i4)]))
    refine own_step (fun t k => XS.iloadN X.here hx rfl (hb hby d4_8) rfl  k) ?_
    show own_Fin p e below s Q 0 0 (T.setTop (mkF m 9 #[.val (.ref o0), .val (.int i1), .val (.int i2), .val (.int i3), .val (.int i4)] [(.int i2), (.int i4)]))
    refine own_step (fun t k => XS.icmpNo X.here hx rfl (hb hby d4_9) rfl (tlt (own_lp1 hk)).2.1 k) ?_
    show own_Fin p e below s Q 0 0 (T.setTop (mkF m 12 #[.val (.ref o0), .val (.int i1), .val (.int i2), .val (.int i3), .val (.int i4)] []))
    refine own_step (fun t k => XS.iloadN X.here hx rfl (hb hby d4_12) rfl  k) ?_
    show own_Fin p e below s Q 0 0 (T.setTop (mkF m 13 #[.val (.ref o0), .val (.int i1), .val (.int i2), .val (.int i3), .val (.int i4)] [(.int i3)]))
    refine own_step (fun t k => XS.aloadN X.here hx rfl (hb hby d4_13) rfl rfl k) ?_
    show own_Fin p e below s Q 0 0 (T.setTop (mkF m 14 #[.val (.ref o0), .val (.int i1), .val (.int i2), .val (.int i3), .val (.int i4)] [(.ref o0), (.int i3)]))
    refine own_step (fun t k => XS.iload X.here hx rfl (hb hby d4_14) rfl  k) ?_
    show own_Fin p e below s Q 0 0 (T.setTop (mkF m 16 #[.val (.ref o0), .val (.int i1), .val (.int i2), .val (.int i3), .val (.int i4)] [(.int i4), (.ref o0), (.int i3)]))
    obtain ⟨ca16, Ar16, Sz16, Ht16⟩ := id A0
    have hin16 : ¬ (i4 < 0 ∨ ca16.slots.size ≤ (i4).toNatClampNeg) := by rw [Sz16]; exact own_lpin hk
    refine own_step (X.baloadBytes hx (j := i4) (v := (.int (g0 (i4).toNatClampNeg))) (by rw [eT]; exact Ar16.1) (State.isArrayOf_alike hZ.alike Ar16.2.1) Ar16.2.2 hin16 (Ht16 _ (by have hq := Nat.lt_of_not_le (fun y => hin16 (Or.inr y)); rw [Sz16] at hq; exact hq)) (g := (mkF m 16 #[.val (.ref o0), .val (.int i1), .val (.int i2), .val (.int i3), .val (.int i4)] [(.int i4), (.ref o0), (.int i3)])) rfl rfl (hb hby d4_16)) ?_
    show own_Fin p e below s Q 0 0 (T.setTop (mkF m 17 #[.val (.ref o0), .val (.int i1), .val (.int i2), .val (.int i3), .val (.int i4)] [(.int (g0 (i4).toNatClampNeg)), (.int i3)]))
    refine own_step (fun t k => XS.sipush X.here hx rfl (hb hby d4_17) k) ?_
    show own_Fin p e below s Q 0 0 (T.setTop (mkF m 20 #[.val (.ref o0), .val (.int i1), .val (.int i2), .val (.int i3), .val (.int i4)] [(.int (255 : Int32)), (.int (g0 (i4).toNatClampNeg)), (.int i3)]))
    refine own_step (fun t k => XS.iand X.here hx rfl (hb hby d4_20) rfl k) ?_
    show own_Fin p e below s Q 0 0 (T.setTop (mkF m 21 #[.val (.ref o0), .val (.int i1), .val (.int i2), .val (.int i3), .val (.int i4)] [(.int ((g0 (i4).toNatClampNeg) &&& (255 : Int32))), (.int i3)]))
    refine own_step (fun t k => XS.ixor X.here hx rfl (hb hby d4_21) rfl k) ?_
    show own_Fin p e below s Q 0 0 (T.setTop (mkF m 22 #[.val (.ref o0), .val (.int i1), .val (.int i2), .val (.int i3), .val (.int i4)] [(.int (i3 ^^^ ((g0 (i4).toNatClampNeg) &&& (255 : Int32))))]))
    refine own_step (X.ldcInt hx hown (mvT hZ (hw _ (List.mem_of_getElem? (i := 26) rfl))) (g := (mkF m 22 #[.val (.ref o0), .val (.int i1), .val (.int i2), .val (.int i3), .val (.int i4)] [(.int (i3 ^^^ ((g0 (i4).toNatClampNeg) &&& (255 : Int32))))])) rfl (hb hby d4_22)) ?_
    show own_Fin p e below s Q 0 0 (T.setTop (mkF m 24 #[.val (.ref o0), .val (.int i1), .val (.int i2), .val (.int i3), .val (.int i4)] [(.int (16777619 : Int32)), (.int (i3 ^^^ ((g0 (i4).toNatClampNeg) &&& (255 : Int32))))]))
    refine own_step (fun t k => XS.imul X.here hx rfl (hb hby d4_24) rfl k) ?_
    show own_Fin p e below s Q 0 0 (T.setTop (mkF m 25 #[.val (.ref o0), .val (.int i1), .val (.int i2), .val (.int i3), .val (.int i4)] [(.int ((i3 ^^^ ((g0 (i4).toNatClampNeg) &&& (255 : Int32))) * (16777619 : Int32)))]))
    refine own_step (fun t k => XS.istoreN X.here hx rfl (hb hby d4_25) rfl (l' := #[.val (.ref o0), .val (.int i1), .val (.int i2), .val (.int ((i3 ^^^ ((g0 (i4).toNatClampNeg) &&& (255 : Int32))) * (16777619 : Int32))), .val (.int i4)]) rfl k) ?_
    show own_Fin p e below s Q 0 0 (T.setTop (mkF m 26 #[.val (.ref o0), .val (.int i1), .val (.int i2), .val (.int ((i3 ^^^ ((g0 (i4).toNatClampNeg) &&& (255 : Int32))) * (16777619 : Int32))), .val (.int i4)] []))
    refine own_step (fun t k => XS.iinc X.here hx rfl (hb hby d4_26) rfl (l' := #[.val (.ref o0), .val (.int i1), .val (.int i2), .val (.int ((i3 ^^^ ((g0 (i4).toNatClampNeg) &&& (255 : Int32))) * (16777619 : Int32))), .val (.int (i4 + (1 : Int32)))]) rfl k) ?_
    show own_Fin p e below s Q 0 0 (T.setTop (mkF m 29 #[.val (.ref o0), .val (.int i1), .val (.int i2), .val (.int ((i3 ^^^ ((g0 (i4).toNatClampNeg) &&& (255 : Int32))) * (16777619 : Int32))), .val (.int (i4 + (1 : Int32)))] []))
    refine own_step (fun t k => XS.goto X.here hx rfl (pc0 := 29) (pc' := 6) rfl (hb hby d4_29) (by decide) (by decide) k) ?_
    exact ih o0 g0 z0 i1 i2 ((i3 ^^^ ((g0 (i4).toNatClampNeg) &&& (255 : Int32))) * (16777619 : Int32)) (i4 + (1 : Int32)) hw X hx hZ hby hml hown hret hlk eT N (Nat.le_trans (Nat.add_le_add_right hc 0) (by decide)) (Nat.le_trans (Nat.add_le_add_right hs 0) (by decide)) A0 hk0 (own_lps hk) v (hv) hQ
def f4_0 (g0 : Nat → Int32) (i1 : Int32) (i2 : Int32) : Int32 := f4_6 g0 i1 i2 (-2128831035 : Int32) i1 ((i2.toInt - i1.toInt).toNat)
set_option maxRecDepth 65536 in
set_option maxHeartbeats 40000000 in
theorem b4_0 {p : Program} {l : Launch} {e : Env} {s : State} {m : MethodId} {args : Array Value} {below : List Frame} {meth : Method} {c : Code} {T : State} {locs : List Loc} {cells slots : Nat} {Z : State} {a0 : Array Value} {h : Heap} {n0 : Nat} {Q : Option Value → Heap → List Loc → Prop} (o0 : Addr) (g0 : Nat → Int32) (z0 : Nat) (i1 : Int32) (i2 : Int32) (hw : ∀ d ∈ tables_1, d.before a0 Z = true) (X : Stand p l e ({ frames := 0, cells := 0, slots := 0, locals := 0 } : Room) s m args below meth c T locs cells slots) (hx : p.tables.exec = Jvm.exec) (hZ : Z.Warmed39 s.vm) (hby : c.code = prog_18_method_20_code) (hml : c.maxLocals = 5) (hown : s.vm.findClass "com/example/nuthatch/nuthatch/NameTable" = some m.cls) (hret : meth.sig.returnType = some .int) (hlk : meth.locks = false) (eT : T.heap = h) (N : Fr n0 locs) (hc : cells ≤ 0) (hs : slots ≤ 0) (A0 : own_AF Z h o0 .byte z0 g0) (hk0 : own_lp i1 i2 ((i2.toInt - i1.toInt).toNat) z0) (v : Int32) (hv : v = f4_0 g0 i1 i2) (hQ : ∀ L', Fr n0 L' → Q (some (.int v)) h L') :
    own_Fin p e below s Q 0 0 (T.setTop (mkF m 0 #[.val (.ref o0), .val (.int i1), .val (.int i2), .unset, .unset] [])) := by
  refine own_step (X.ldcInt hx hown (mvT hZ (hw _ (List.mem_of_getElem? (i := 19) rfl))) (g := (mkF m 0 #[.val (.ref o0), .val (.int i1), .val (.int i2), .unset, .unset] [])) rfl (hb hby d4_0)) ?_
  show own_Fin p e below s Q 0 0 (T.setTop (mkF m 2 #[.val (.ref o0), .val (.int i1), .val (.int i2), .unset, .unset] [(.int (-2128831035 : Int32))]))
  refine own_step (fun t k => XS.istoreN X.here hx rfl (hb hby d4_2) rfl (l' := #[.val (.ref o0), .val (.int i1), .val (.int i2), .val (.int (-2128831035 : Int32)), .unset]) rfl k) ?_
  show own_Fin p e below s Q 0 0 (T.setTop (mkF m 3 #[.val (.ref o0), .val (.int i1), .val (.int i2), .val (.int (-2128831035 : Int32)), .unset] []))
  refine own_step (fun t k => XS.iloadN X.here hx rfl (hb hby d4_3) rfl  k) ?_
  show own_Fin p e below s Q 0 0 (T.setTop (mkF m 4 #[.val (.ref o0), .val (.int i1), .val (.int i2), .val (.int (-2128831035 : Int32)), .unset] [(.int i1)]))
  refine own_step (fun t k => XS.istore X.here hx rfl (hb hby d4_4) rfl (l' := #[.val (.ref o0), .val (.int i1), .val (.int i2), .val (.int (-2128831035 : Int32)), .val (.int i1)]) rfl k) ?_
  exact b4_6 ((i2.toInt - i1.toInt).toNat) o0 g0 z0 i1 i2 (-2128831035 : Int32) i1 hw X hx hZ hby hml hown hret hlk eT N (Nat.le_trans (Nat.add_le_add_right hc 0) (by decide)) (Nat.le_trans (Nat.add_le_add_right hs 0) (by decide)) A0 hk0 (hk0) v (hv) hQ
theorem pnm_1 : plainName "com/example/nuthatch/nuthatch/NameTable" = true := by first | (simp [plainName, overriddenIn]; done) | decide +kernel
theorem pdm_2 : parseMethodDescriptor "([BII)I" = some ⟨[(.array .byte), .int, .int], some .int⟩ := by decide +kernel
theorem ef_4 (m : MethodId) (o0 : Addr) (i1 : Int32) (i2 : Int32) : entryFrame m #[(.ref o0), (.int i1), (.int i2)] 5 = (mkF m 0 #[.val (.ref o0), .val (.int i1), .val (.int i2), .unset, .unset] []) := by first | (simp [entryFrame, mkF, argsToLocals, Value.category]; done) | rfl
def Q4 (o0 : Addr) (g0 : Nat → Int32) (z0 : Nat) (i1 : Int32) (i2 : Int32) (h0 : Heap) (n0 : Nat) (v : Option Value) (h : Heap) (L : List Loc) : Prop := v = some (.int (f4_0 g0 i1 i2)) ∧ Fr n0 L ∧ h = h0
set_option maxRecDepth 65536 in
set_option maxHeartbeats 4000000 in
theorem rm4 (l : Launch) (Z : State) (a0 : Array Value) (hw : ∀ d ∈ tables_1, d.before a0 Z = true) (ws : List Jvm.Cond) (o0 : Addr) (g0 : Nat → Int32) (z0 : Nat) (i1 : Int32) (i2 : Int32) (h0 : Heap) (n0 : Nat) (A0 : own_AF Z h0 o0 .byte z0 g0) (hk0 : own_lp i1 i2 ((i2.toInt - i1.toInt).toNat) z0) :
    MetFree l (⟨"com/example/nuthatch/nuthatch/NameTable", "hash", "([BII)I"⟩ : MethodName) (head1 (Jvm.Cond.code (⟨"com/example/nuthatch/nuthatch/NameTable", "hash", "([BII)I"⟩ : MethodName) prog_18_method_20_code 5 (some .int) :: ws) ({ frames := 0, cells := 0, slots := 0, locals := 0 } : Room)) (fun a U => a = #[(.ref o0), (.int i1), (.int i2)] ∧ Z.Warmed39 U.vm ∧ U.heap = h0) (fun _ _ _ _ _ => True) (fun _ U o U' => ∃ v L, o = .returned v ∧ Q4 o0 g0 z0 i1 i2 h0 n0 v U'.heap L ∧ FrameEnd U o U' L ({ frames := 0, cells := 0, slots := 0, locals := 0 } : Room).cells ({ frames := 0, cells := 0, slots := 0, locals := 0 } : Room).slots) := by
  refine MetFree.of_bodySF (plainFor_of_name pnm_1) hisR ?_
  intro p e s m args below meth c s₁ Bd hml0 hP hK
  obtain ⟨rfl, hZ, hh⟩ := hP
  have hx := Bd.exec
  have hby := Bd.bytes
  have hml : c.maxLocals = 5 := hml0
  have hown : s.vm.findClass "com/example/nuthatch/nuthatch/NameTable" = some m.cls := findClass_of_methodNamed Bd.named
  have X0 : Stand p l e ({ frames := 0, cells := 0, slots := 0, locals := 0 } : Room) s m #[(.ref o0), (.int i1), (.int i2)] below meth c s₁ [] 0 0 := Stand.of_body Bd
  have e0 : s₁.heap = h0 := by rw [← hh, Bd.state]; rfl
  have fin := b4_0 o0 g0 z0 i1 i2 (Q := Q4 o0 g0 z0 i1 i2 h0 n0) hw X0 hx hZ hby hml hown Bd.returns (BodyLoose.notSynchronized Bd) e0 (Fr.nil n0) (Nat.zero_le _) (Nat.zero_le _) A0 hk0 _ rfl (fun L' n' => ⟨rfl, n', rfl⟩)
  exact own_step (fun t k => castTop (ef_4 m o0 i1 i2) k) fin
def own_st (s e j v h : Int32) : Int32 := if j < s then h else if j < e then f5_0 h v else h
def own_R (s e : Int32) : Prop := 0 ≤ s.toInt ∧ s.toInt ≤ e.toInt ∧ e.toInt ≤ 4
def own_G (g : Nat → Int32) (a b c d : Int32) : Prop := g 0 = nar .byte (a.toInt8.toInt32) ∧ g 1 = nar .byte (b.toInt8.toInt32) ∧ g 2 = nar .byte (c.toInt8.toInt32) ∧ g 3 = nar .byte (d.toInt8.toInt32)
theorem own_pre4 {s e : Int32} (h : own_R s e) : own_lp s e ((e.toInt - s.toInt).toNat) 4 := by
  obtain ⟨h1, h2, h3⟩ := h
  exact ⟨by omega, h1, by omega⟩
theorem own_o (k : Int32) : 0 ≤ (k &&& (3 : Int32)).toInt ∧ (k &&& (3 : Int32)).toInt ≤ 3 := c_and k 3 (by decide)
theorem own_add (s o : Int32) (hs : 0 ≤ s.toInt ∧ s.toInt ≤ 4) (ho : 0 ≤ o.toInt ∧ o.toInt ≤ 3) : (s + o).toInt = s.toInt + o.toInt := by
  have e := c_iadd s o
  have r := rng32 (s + o)
  omega
theorem own_pre8 {s e : Int32} (h : own_R s e) (k : Int32) : own_lp (s + (k &&& (3 : Int32))) (e + (k &&& (3 : Int32))) (((e + (k &&& (3 : Int32))).toInt - (s + (k &&& (3 : Int32))).toInt).toNat) 8 := by
  obtain ⟨h1, h2, h3⟩ := h
  have o := own_o k
  have e1 := own_add s _ (by omega) o
  have e2 := own_add e _ (by omega) o
  refine ⟨by omega, by omega, ?_⟩
  omega
theorem own_r5 (x : Int32) (h : 0 ≤ x.toInt) : 0 ≤ (x % (5 : Int32)).toInt ∧ (x % (5 : Int32)).toInt ≤ 4 := by
  have e1 := (c_irem x 5 5 (by decide)).1 h
  omega
theorem own_and7 (x : Int32) : 0 ≤ (x &&& (7 : Int32)).toInt := (c_and x 7 (by decide)).1
theorem own_min (x y : Int32) : (f1_0 x y = x ∧ x.toInt ≤ y.toInt) ∨ (f1_0 x y = y ∧ y.toInt ≤ x.toInt) := by
  unfold f1_0
  by_cases h : y < x
  · rw [if_pos h]; have := Int32.lt_iff_toInt_lt.mp h; exact Or.inr ⟨rfl, by omega⟩
  · rw [if_neg h]; have : ¬ y.toInt < x.toInt := fun q => h (Int32.lt_iff_toInt_lt.mpr q); exact Or.inl ⟨rfl, by omega⟩
theorem own_max (x y : Int32) : (f2_0 x y = y ∧ x.toInt ≤ y.toInt) ∨ (f2_0 x y = x ∧ y.toInt ≤ x.toInt) := by
  unfold f2_0
  by_cases h : x < y
  · rw [if_pos h]; have := Int32.lt_iff_toInt_lt.mp h; exact Or.inl ⟨rfl, by omega⟩
  · rw [if_neg h]; have : ¬ x.toInt < y.toInt := fun q => h (Int32.lt_iff_toInt_lt.mpr q); exact Or.inr ⟨rfl, by omega⟩
theorem own_R0 (x y : Int32) (hx : 0 ≤ x.toInt ∧ x.toInt ≤ 4) (hy : 0 ≤ y.toInt ∧ y.toInt ≤ 4) : own_R (f1_0 x y) (f2_0 x y) := by
  rcases own_min x y with ⟨e1, h1⟩ | ⟨e1, h1⟩ <;> rcases own_max x y with ⟨e2, h2⟩ | ⟨e2, h2⟩ <;> rw [e1, e2] <;> refine ⟨?_, ?_, ?_⟩ <;> omega
theorem own_hse (k : Int32) : own_R (f1_0 ((k &&& (7 : Int32)) % (5 : Int32)) ((((k.toUInt32 >>> ((3 : Int32) &&& 31).toUInt32).toInt32) &&& (7 : Int32)) % (5 : Int32))) (f2_0 ((k &&& (7 : Int32)) % (5 : Int32)) ((((k.toUInt32 >>> ((3 : Int32) &&& 31).toUInt32).toInt32) &&& (7 : Int32)) % (5 : Int32))) :=
  own_R0 _ _ (own_r5 _ (own_and7 _)) (own_r5 _ (own_and7 _))
def own_P (h x : Int32) : Int32 := (h ^^^ (x &&& (255 : Int32))) * (16777619 : Int32)
theorem own_f6s (g : Nat → Int32) (a b h i : Int32) (k : Nat) : f4_6 g a b h i (k + 1) = f4_6 g a b (own_P h (g (i).toNatClampNeg)) (i + (1 : Int32)) k := by
  unfold own_P
  exact f4_6.eq_2 g a b h i k
theorem own_f60 (g : Nat → Int32) (a b h i : Int32) : f4_6 g a b h i 0 = f3_0 h := by
  rw [f4_6.eq_1]
  unfold f3_0
  exact Eq.refl _
theorem own_255 (x : Int32) : (nar .byte (x.toInt8.toInt32)) &&& (255 : Int32) = x &&& (255 : Int32) := by
  have a := c_i2b x
  have b := c_i2b x.toInt8.toInt32
  have m1 := c_mask (nar .byte (x.toInt8.toInt32)) 255 8 (by decide) (by decide)
  have m2 := c_mask x 255 8 (by decide) (by decide)
  have p8 : ((2 ^ 8 : Nat) : Int) = 256 := rfl
  rw [p8] at m1 m2
  apply Int32.toInt_inj.mp
  rw [m1, m2]
  show x.toInt8.toInt32.toInt8.toInt32.toInt % 256 = _
  omega
theorem own_lit {x : Int32} (h : 0 ≤ x.toInt ∧ x.toInt ≤ 4) : x = 0 ∨ x = 1 ∨ x = 2 ∨ x = 3 ∨ x = 4 := by
  have h' : x.toInt = 0 ∨ x.toInt = 1 ∨ x.toInt = 2 ∨ x.toInt = 3 ∨ x.toInt = 4 := by omega
  rcases h' with q | q | q | q | q
  · exact Or.inl ((own_eqi (b := 0) (by decide)).mpr q)
  · exact Or.inr (Or.inl ((own_eqi (b := 1) (by decide)).mpr q))
  · exact Or.inr (Or.inr (Or.inl ((own_eqi (b := 2) (by decide)).mpr q)))
  · exact Or.inr (Or.inr (Or.inr (Or.inl ((own_eqi (b := 3) (by decide)).mpr q))))
  · exact Or.inr (Or.inr (Or.inr (Or.inr ((own_eqi (b := 4) (by decide)).mpr q))))
theorem own_st5 (h v w : Int32) (q : w &&& (255 : Int32) = v &&& (255 : Int32)) : f5_0 h v = own_P h w := by
  unfold f5_0 own_P
  rw [q]
theorem own_sN {s e j v h : Int32} (q : j < s) : own_st s e j v h = h := if_pos q
theorem own_sL {s e j v h : Int32} (q : ¬ j < s) (r : ¬ j < e) : own_st s e j v h = h := (if_neg q).trans (if_neg r)
theorem own_sF {s e j v h : Int32} (q : ¬ j < s) (r : j < e) : own_st s e j v h = f5_0 h v := (if_neg q).trans (if_pos r)
theorem own_sY {s e j v h w : Int32} (q : ¬ j < s) (r : j < e) (u : w &&& (255 : Int32) = v &&& (255 : Int32)) : own_st s e j v h = own_P h w := ((if_neg q).trans (if_pos r)).trans (own_st5 h v w u)
theorem own_pq {h v w : Int32} (q : w &&& (255 : Int32) = v &&& (255 : Int32)) : own_P h w = f5_0 h v := (own_st5 h v w q).symm
theorem own_r0 (g : Nat → Int32) (a b h i : Int32) : f4_6 g a b h i 0 = f3_0 h := by
  rw [own_f60]
theorem own_r1 (g : Nat → Int32) (a b h i v0 : Int32) (u0 : g (i).toNatClampNeg &&& (255 : Int32) = v0 &&& (255 : Int32)) : f4_6 g a b h i 1 = f3_0 (f5_0 h v0) := by
  rw [own_f6s, own_f60, own_pq u0]
theorem own_r2 (g : Nat → Int32) (a b h i v0 v1 : Int32) (u0 : g (i).toNatClampNeg &&& (255 : Int32) = v0 &&& (255 : Int32)) (u1 : g ((i + (1 : Int32))).toNatClampNeg &&& (255 : Int32) = v1 &&& (255 : Int32)) : f4_6 g a b h i 2 = f3_0 (f5_0 (f5_0 h v0) v1) := by
  rw [own_f6s, own_f6s, own_f60, own_pq u0, own_pq u1]
theorem own_r3 (g : Nat → Int32) (a b h i v0 v1 v2 : Int32) (u0 : g (i).toNatClampNeg &&& (255 : Int32) = v0 &&& (255 : Int32)) (u1 : g ((i + (1 : Int32))).toNatClampNeg &&& (255 : Int32) = v1 &&& (255 : Int32)) (u2 : g (((i + (1 : Int32)) + (1 : Int32))).toNatClampNeg &&& (255 : Int32) = v2 &&& (255 : Int32)) : f4_6 g a b h i 3 = f3_0 (f5_0 (f5_0 (f5_0 h v0) v1) v2) := by
  rw [own_f6s, own_f6s, own_f6s, own_f60, own_pq u0, own_pq u1, own_pq u2]
theorem own_r4 (g : Nat → Int32) (a b h i v0 v1 v2 v3 : Int32) (u0 : g (i).toNatClampNeg &&& (255 : Int32) = v0 &&& (255 : Int32)) (u1 : g ((i + (1 : Int32))).toNatClampNeg &&& (255 : Int32) = v1 &&& (255 : Int32)) (u2 : g (((i + (1 : Int32)) + (1 : Int32))).toNatClampNeg &&& (255 : Int32) = v2 &&& (255 : Int32)) (u3 : g ((((i + (1 : Int32)) + (1 : Int32)) + (1 : Int32))).toNatClampNeg &&& (255 : Int32) = v3 &&& (255 : Int32)) : f4_6 g a b h i 4 = f3_0 (f5_0 (f5_0 (f5_0 (f5_0 h v0) v1) v2) v3) := by
  rw [own_f6s, own_f6s, own_f6s, own_f6s, own_f60, own_pq u0, own_pq u1, own_pq u2, own_pq u3]
/-- what the law steps through is the hash of the places s to e; o: how far the places are moved -/
theorem own_at (i o : Int32) (j : Nat) (h : i.toInt = j + o.toInt) (ho : 0 ≤ o.toInt ∧ o.toInt ≤ 3) (hj : j ≤ 8) : (i).toNatClampNeg = j + o.toNatClampNeg ∧ (i + (1 : Int32)).toInt = ((j + 1 : Nat) : Int) + o.toInt := by
  have e := c_iadd i 1
  have z1 : (1 : Int32).toInt = 1 := by decide
  have r := rng32 (i + 1)
  have n1 := nat_of (j := i) (fun y => by have := Int32.lt_iff_toInt_lt.mp y; rw [own_lz] at this; omega)
  have n2 := nat_of (j := o) (fun y => by have := Int32.lt_iff_toInt_lt.mp y; rw [own_lz] at this; omega)
  constructor <;> omega
theorem own_main (g : Nat → Int32) (o s e a b c d h : Int32) (i n : Int32) (k : Nat) (ho : 0 ≤ o.toInt ∧ o.toInt ≤ 3) (hr : own_R s e) (hi : i.toInt = s.toInt + o.toInt) (hk : (e.toInt - s.toInt).toNat = k)
    (u0 : g (0 + o.toNatClampNeg) &&& (255 : Int32) = a &&& (255 : Int32)) (u1 : g (1 + o.toNatClampNeg) &&& (255 : Int32) = b &&& (255 : Int32)) (u2 : g (2 + o.toNatClampNeg) &&& (255 : Int32) = c &&& (255 : Int32)) (u3 : g (3 + o.toNatClampNeg) &&& (255 : Int32) = d &&& (255 : Int32)) (p q : Int32) :
    f4_6 g p q h i k = f3_0 (own_st s e 3 d (own_st s e 2 c (own_st s e 1 b (own_st s e 0 a h)))) := by
  obtain ⟨h1, h2, h3⟩ := hr
  subst hk
  obtain rfl | rfl | rfl | rfl | rfl := own_lit (x := s) (by omega)
  · obtain rfl | rfl | rfl | rfl | rfl := own_lit (x := e) (by omega)
    · have t0 : i.toInt = ((0 : Nat) : Int) + o.toInt := by rw [hi]; rfl
      rw [(by decide : ((0 : Int32).toInt - (0 : Int32).toInt).toNat = 0), own_sL (s := 0) (e := 0) (j := 0) (by decide) (by decide), own_sL (s := 0) (e := 0) (j := 1) (by decide) (by decide), own_sL (s := 0) (e := 0) (j := 2) (by decide) (by decide), own_sL (s := 0) (e := 0) (j := 3) (by decide) (by decide)]
      exact own_r0 g p q h i
    · have t0 : i.toInt = ((0 : Nat) : Int) + o.toInt := by rw [hi]; rfl
      obtain ⟨n0, t1⟩ := own_at i o 0 t0 ho (by decide)
      rw [(by decide : ((1 : Int32).toInt - (0 : Int32).toInt).toNat = 1), own_sF (s := 0) (e := 1) (j := 0) (by decide) (by decide), own_sL (s := 0) (e := 1) (j := 1) (by decide) (by decide), own_sL (s := 0) (e := 1) (j := 2) (by decide) (by decide), own_sL (s := 0) (e := 1) (j := 3) (by decide) (by decide)]
      exact own_r1 g p q h i a (by rw [n0]; exact u0)
    · have t0 : i.toInt = ((0 : Nat) : Int) + o.toInt := by rw [hi]; rfl
      obtain ⟨n0, t1⟩ := own_at i o 0 t0 ho (by decide)
      obtain ⟨n1, t2⟩ := own_at (i + (1 : Int32)) o 1 t1 ho (by decide)
      rw [(by decide : ((2 : Int32).toInt - (0 : Int32).toInt).toNat = 2), own_sF (s := 0) (e := 2) (j := 0) (by decide) (by decide), own_sF (s := 0) (e := 2) (j := 1) (by decide) (by decide), own_sL (s := 0) (e := 2) (j := 2) (by decide) (by decide), own_sL (s := 0) (e := 2) (j := 3) (by decide) (by decide)]
      exact own_r2 g p q h i a b (by rw [n0]; exact u0) (by rw [n1]; exact u1)
    · have t0 : i.toInt = ((0 : Nat) : Int) + o.toInt := by rw [hi]; rfl
      obtain ⟨n0, t1⟩ := own_at i o 0 t0 ho (by decide)
      obtain ⟨n1, t2⟩ := own_at (i + (1 : Int32)) o 1 t1 ho (by decide)
      obtain ⟨n2, t3⟩ := own_at ((i + (1 : Int32)) + (1 : Int32)) o 2 t2 ho (by decide)
      rw [(by decide : ((3 : Int32).toInt - (0 : Int32).toInt).toNat = 3), own_sF (s := 0) (e := 3) (j := 0) (by decide) (by decide), own_sF (s := 0) (e := 3) (j := 1) (by decide) (by decide), own_sF (s := 0) (e := 3) (j := 2) (by decide) (by decide), own_sL (s := 0) (e := 3) (j := 3) (by decide) (by decide)]
      exact own_r3 g p q h i a b c (by rw [n0]; exact u0) (by rw [n1]; exact u1) (by rw [n2]; exact u2)
    · have t0 : i.toInt = ((0 : Nat) : Int) + o.toInt := by rw [hi]; rfl
      obtain ⟨n0, t1⟩ := own_at i o 0 t0 ho (by decide)
      obtain ⟨n1, t2⟩ := own_at (i + (1 : Int32)) o 1 t1 ho (by decide)
      obtain ⟨n2, t3⟩ := own_at ((i + (1 : Int32)) + (1 : Int32)) o 2 t2 ho (by decide)
      obtain ⟨n3, t4⟩ := own_at (((i + (1 : Int32)) + (1 : Int32)) + (1 : Int32)) o 3 t3 ho (by decide)
      rw [(by decide : ((4 : Int32).toInt - (0 : Int32).toInt).toNat = 4), own_sF (s := 0) (e := 4) (j := 0) (by decide) (by decide), own_sF (s := 0) (e := 4) (j := 1) (by decide) (by decide), own_sF (s := 0) (e := 4) (j := 2) (by decide) (by decide), own_sF (s := 0) (e := 4) (j := 3) (by decide) (by decide)]
      exact own_r4 g p q h i a b c d (by rw [n0]; exact u0) (by rw [n1]; exact u1) (by rw [n2]; exact u2) (by rw [n3]; exact u3)
  · obtain rfl | rfl | rfl | rfl | rfl := own_lit (x := e) (by omega)
    · exact absurd h2 (by decide)
    · have t0 : i.toInt = ((1 : Nat) : Int) + o.toInt := by rw [hi]; rfl
      rw [(by decide : ((1 : Int32).toInt - (1 : Int32).toInt).toNat = 0), own_sN (s := 1) (e := 1) (j := 0) (by decide), own_sL (s := 1) (e := 1) (j := 1) (by decide) (by decide), own_sL (s := 1) (e := 1) (j := 2) (by decide) (by decide), own_sL (s := 1) (e := 1) (j := 3) (by decide) (by decide)]
      exact own_r0 g p q h i
    · have t0 : i.toInt = ((1 : Nat) : Int) + o.toInt := by rw [hi]; rfl
      obtain ⟨n0, t1⟩ := own_at i o 1 t0 ho (by decide)
      rw [(by decide : ((2 : Int32).toInt - (1 : Int32).toInt).toNat = 1), own_sN (s := 1) (e := 2) (j := 0) (by decide), own_sF (s := 1) (e := 2) (j := 1) (by decide) (by decide), own_sL (s := 1) (e := 2) (j := 2) (by decide) (by decide), own_sL (s := 1) (e := 2) (j := 3) (by decide) (by decide)]
      exact own_r1 g p q h i b (by rw [n0]; exact u1)
    · have t0 : i.toInt = ((1 : Nat) : Int) + o.toInt := by rw [hi]; rfl
      obtain ⟨n0, t1⟩ := own_at i o 1 t0 ho (by decide)
      obtain ⟨n1, t2⟩ := own_at (i + (1 : Int32)) o 2 t1 ho (by decide)
      rw [(by decide : ((3 : Int32).toInt - (1 : Int32).toInt).toNat = 2), own_sN (s := 1) (e := 3) (j := 0) (by decide), own_sF (s := 1) (e := 3) (j := 1) (by decide) (by decide), own_sF (s := 1) (e := 3) (j := 2) (by decide) (by decide), own_sL (s := 1) (e := 3) (j := 3) (by decide) (by decide)]
      exact own_r2 g p q h i b c (by rw [n0]; exact u1) (by rw [n1]; exact u2)
    · have t0 : i.toInt = ((1 : Nat) : Int) + o.toInt := by rw [hi]; rfl
      obtain ⟨n0, t1⟩ := own_at i o 1 t0 ho (by decide)
      obtain ⟨n1, t2⟩ := own_at (i + (1 : Int32)) o 2 t1 ho (by decide)
      obtain ⟨n2, t3⟩ := own_at ((i + (1 : Int32)) + (1 : Int32)) o 3 t2 ho (by decide)
      rw [(by decide : ((4 : Int32).toInt - (1 : Int32).toInt).toNat = 3), own_sN (s := 1) (e := 4) (j := 0) (by decide), own_sF (s := 1) (e := 4) (j := 1) (by decide) (by decide), own_sF (s := 1) (e := 4) (j := 2) (by decide) (by decide), own_sF (s := 1) (e := 4) (j := 3) (by decide) (by decide)]
      exact own_r3 g p q h i b c d (by rw [n0]; exact u1) (by rw [n1]; exact u2) (by rw [n2]; exact u3)
  · obtain rfl | rfl | rfl | rfl | rfl := own_lit (x := e) (by omega)
    · exact absurd h2 (by decide)
    · exact absurd h2 (by decide)
    · have t0 : i.toInt = ((2 : Nat) : Int) + o.toInt := by rw [hi]; rfl
      rw [(by decide : ((2 : Int32).toInt - (2 : Int32).toInt).toNat = 0), own_sN (s := 2) (e := 2) (j := 0) (by decide), own_sN (s := 2) (e := 2) (j := 1) (by decide), own_sL (s := 2) (e := 2) (j := 2) (by decide) (by decide), own_sL (s := 2) (e := 2) (j := 3) (by decide) (by decide)]
      exact own_r0 g p q h i
    · have t0 : i.toInt = ((2 : Nat) : Int) + o.toInt := by rw [hi]; rfl
      obtain ⟨n0, t1⟩ := own_at i o 2 t0 ho (by decide)
      rw [(by decide : ((3 : Int32).toInt - (2 : Int32).toInt).toNat = 1), own_sN (s := 2) (e := 3) (j := 0) (by decide), own_sN (s := 2) (e := 3) (j := 1) (by decide), own_sF (s := 2) (e := 3) (j := 2) (by decide) (by decide), own_sL (s := 2) (e := 3) (j := 3) (by decide) (by decide)]
      exact own_r1 g p q h i c (by rw [n0]; exact u2)
    · have t0 : i.toInt = ((2 : Nat) : Int) + o.toInt := by rw [hi]; rfl
      obtain ⟨n0, t1⟩ := own_at i o 2 t0 ho (by decide)
      obtain ⟨n1, t2⟩ := own_at (i + (1 : Int32)) o 3 t1 ho (by decide)
      rw [(by decide : ((4 : Int32).toInt - (2 : Int32).toInt).toNat = 2), own_sN (s := 2) (e := 4) (j := 0) (by decide), own_sN (s := 2) (e := 4) (j := 1) (by decide), own_sF (s := 2) (e := 4) (j := 2) (by decide) (by decide), own_sF (s := 2) (e := 4) (j := 3) (by decide) (by decide)]
      exact own_r2 g p q h i c d (by rw [n0]; exact u2) (by rw [n1]; exact u3)
  · obtain rfl | rfl | rfl | rfl | rfl := own_lit (x := e) (by omega)
    · exact absurd h2 (by decide)
    · exact absurd h2 (by decide)
    · exact absurd h2 (by decide)
    · have t0 : i.toInt = ((3 : Nat) : Int) + o.toInt := by rw [hi]; rfl
      rw [(by decide : ((3 : Int32).toInt - (3 : Int32).toInt).toNat = 0), own_sN (s := 3) (e := 3) (j := 0) (by decide), own_sN (s := 3) (e := 3) (j := 1) (by decide), own_sN (s := 3) (e := 3) (j := 2) (by decide), own_sL (s := 3) (e := 3) (j := 3) (by decide) (by decide)]
      exact own_r0 g p q h i
    · have t0 : i.toInt = ((3 : Nat) : Int) + o.toInt := by rw [hi]; rfl
      obtain ⟨n0, t1⟩ := own_at i o 3 t0 ho (by decide)
      rw [(by decide : ((4 : Int32).toInt - (3 : Int32).toInt).toNat = 1), own_sN (s := 3) (e := 4) (j := 0) (by decide), own_sN (s := 3) (e := 4) (j := 1) (by decide), own_sN (s := 3) (e := 4) (j := 2) (by decide), own_sF (s := 3) (e := 4) (j := 3) (by decide) (by decide)]
      exact own_r1 g p q h i d (by rw [n0]; exact u3)
  · obtain rfl | rfl | rfl | rfl | rfl := own_lit (x := e) (by omega)
    · exact absurd h2 (by decide)
    · exact absurd h2 (by decide)
    · exact absurd h2 (by decide)
    · exact absurd h2 (by decide)
    · have t0 : i.toInt = ((4 : Nat) : Int) + o.toInt := by rw [hi]; rfl
      rw [(by decide : ((4 : Int32).toInt - (4 : Int32).toInt).toNat = 0), own_sN (s := 4) (e := 4) (j := 0) (by decide), own_sN (s := 4) (e := 4) (j := 1) (by decide), own_sN (s := 4) (e := 4) (j := 2) (by decide), own_sN (s := 4) (e := 4) (j := 3) (by decide)]
      exact own_r0 g p q h i
theorem own_hash4 (g : Nat → Int32) (s e a b c d x : Int32) (hr : own_R s e) (hg : own_G g a b c d) (hh : x = own_st s e 3 d (own_st s e 2 c (own_st s e 1 b (own_st s e 0 a (-2128831035 : Int32))))) : f4_0 g s e = f3_0 x := by
  obtain ⟨g0, g1, g2, g3⟩ := hg
  rw [hh]
  unfold f4_0
  have z0 : (0 : Int32).toNatClampNeg = 0 := by decide
  exact own_main g 0 s e a b c d _ s 0 _ (by decide) hr (by rw [own_lz]; omega) rfl (by rw [z0, g0]; exact own_255 a) (by rw [z0, g1]; exact own_255 b) (by rw [z0, g2]; exact own_255 c) (by rw [z0, g3]; exact own_255 d) s e
theorem own_hash8 (g g' : Nat → Int32) (s e a b c d x k : Int32) (hr : own_R s e) (hg : own_G g a b c d) (hh : x = own_st s e 3 d (own_st s e 2 c (own_st s e 1 b (own_st s e 0 a (-2128831035 : Int32)))))
    (hg' : ∀ j, j < 4 → g' (j + (k &&& (3 : Int32)).toNatClampNeg) &&& (255 : Int32) = g j &&& (255 : Int32)) : f4_0 g' (s + (k &&& (3 : Int32))) (e + (k &&& (3 : Int32))) = f3_0 x := by
  obtain ⟨g0, g1, g2, g3⟩ := hg
  obtain ⟨h1, h2, h3⟩ := id hr
  have o := own_o k
  have e1 := own_add s _ (by omega) o
  have e2 := own_add e _ (by omega) o
  rw [hh]
  unfold f4_0
  exact own_main g' (k &&& (3 : Int32)) s e a b c d _ _ 0 _ o hr e1 (by rw [e1, e2]; omega) ((hg' 0 (by decide)).trans (by rw [g0]; exact own_255 a)) ((hg' 1 (by decide)).trans (by rw [g1]; exact own_255 b)) ((hg' 2 (by decide)).trans (by rw [g2]; exact own_255 c)) ((hg' 3 (by decide)).trans (by rw [g3]; exact own_255 d)) _ _
theorem own_in8 (j : Int32) (h : 0 ≤ j.toInt ∧ j.toInt < 8) : own_In 8 j := by
  intro q
  have e := nat_of (j := j) (fun y => by have := Int32.lt_iff_toInt_lt.mp y; rw [own_lz] at this; omega)
  rcases q with q | q
  · have := Int32.lt_iff_toInt_lt.mp q; rw [own_lz] at this; omega
  · omega
theorem own_od (k d : Int32) (D : Nat) (hd : d.toInt = D) (hD : D ≤ 3) : ((k &&& (3 : Int32)) + d).toInt = (k &&& (3 : Int32)).toInt + D := by
  have o := own_o k
  have e := c_iadd (k &&& (3 : Int32)) d
  have r := rng32 ((k &&& (3 : Int32)) + d)
  omega
theorem own_i0 (k : Int32) : own_In 8 (k &&& (3 : Int32)) := own_in8 _ (by have := own_o k; omega)
theorem own_i1 (k : Int32) : own_In 8 ((k &&& (3 : Int32)) + (1 : Int32)) := own_in8 _ (by have := own_o k; have := own_od k 1 1 (by decide) (by decide); omega)
theorem own_i2 (k : Int32) : own_In 8 ((k &&& (3 : Int32)) + (2 : Int32)) := own_in8 _ (by have := own_o k; have := own_od k 2 2 (by decide) (by decide); omega)
theorem own_i3 (k : Int32) : own_In 8 ((k &&& (3 : Int32)) + (3 : Int32)) := own_in8 _ (by have := own_o k; have := own_od k 3 3 (by decide) (by decide); omega)
theorem own_on (k d : Int32) (D : Nat) (hd : d.toInt = D) (hD : D ≤ 3) : ((k &&& (3 : Int32)) + d).toNatClampNeg = D + (k &&& (3 : Int32)).toNatClampNeg := by
  have e := own_od k d D hd hD
  have o := own_o k
  have n2 := nat_of (j := (k &&& (3 : Int32))) (fun y => by have := Int32.lt_iff_toInt_lt.mp y; rw [own_lz] at this; omega)
  have n3 := nat_of (j := (k &&& (3 : Int32)) + d) (fun y => by have := Int32.lt_iff_toInt_lt.mp y; rw [own_lz] at this; omega)
  omega
theorem own_nn (x : Int32) : (nar .byte x) &&& (255 : Int32) = x &&& (255 : Int32) := by
  have a := c_i2b x
  have m1 := c_mask (nar .byte x) 255 8 (by decide) (by decide)
  have m2 := c_mask x 255 8 (by decide) (by decide)
  have p8 : ((2 ^ 8 : Nat) : Int) = 256 := rfl
  rw [p8] at m1 m2
  apply Int32.toInt_inj.mp
  rw [m1, m2]
  show x.toInt8.toInt32.toInt % 256 = _
  omega
theorem own_wide (g q ga gb gc gd : Nat → Int32) (k : Int32) (hA : ga = (fun i => if i = ((k &&& (3 : Int32))).toNatClampNeg then (nar .byte (g ((0 : Int32)).toNatClampNeg)) else q i)) (hB : gb = (fun i => if i = (((k &&& (3 : Int32)) + (1 : Int32))).toNatClampNeg then (nar .byte (g ((1 : Int32)).toNatClampNeg)) else ga i)) (hC : gc = (fun i => if i = (((k &&& (3 : Int32)) + (2 : Int32))).toNatClampNeg then (nar .byte (g ((2 : Int32)).toNatClampNeg)) else gb i)) (hD : gd = (fun i => if i = (((k &&& (3 : Int32)) + (3 : Int32))).toNatClampNeg then (nar .byte (g ((3 : Int32)).toNatClampNeg)) else gc i)) :
    ∀ j, j < 4 → gd (j + (k &&& (3 : Int32)).toNatClampNeg) &&& (255 : Int32) = g j &&& (255 : Int32) := by
  have n1 := own_on k 1 1 (by decide) (by decide)
  have n2 := own_on k 2 2 (by decide) (by decide)
  have n3 := own_on k 3 3 (by decide) (by decide)
  have t0 : ((0 : Int32)).toNatClampNeg = 0 := by decide
  have t1 : ((1 : Int32)).toNatClampNeg = 1 := by decide
  have t2 : ((2 : Int32)).toNatClampNeg = 2 := by decide
  have t3 : ((3 : Int32)).toNatClampNeg = 3 := by decide
  rw [n3, t3] at hD
  rw [n2, t2] at hC
  rw [n1, t1] at hB
  rw [t0] at hA
  generalize ((k &&& (3 : Int32))).toNatClampNeg = n at *
  intro j hj
  obtain rfl | rfl | rfl | rfl : j = 0 ∨ j = 1 ∨ j = 2 ∨ j = 3 := by omega
  · have : gd (0 + n) = nar .byte (g 0) := by
      rw [hD, hC, hB, hA]; show (if 0 + n = 3 + n then _ else if 0 + n = 2 + n then _ else if 0 + n = 1 + n then _ else if 0 + n = n then _ else _) = _
      rw [if_neg (by omega), if_neg (by omega), if_neg (by omega), if_pos (by omega)]
    rw [this]; exact own_nn _
  · have : gd (1 + n) = nar .byte (g 1) := by
      rw [hD, hC, hB]; show (if 1 + n = 3 + n then _ else if 1 + n = 2 + n then _ else if 1 + n = 1 + n then _ else _) = _
      rw [if_neg (by omega), if_neg (by omega), if_pos rfl]
    rw [this]; exact own_nn _
  · have : gd (2 + n) = nar .byte (g 2) := by
      rw [hD, hC]; show (if 2 + n = 3 + n then _ else if 2 + n = 2 + n then _ else _) = _
      rw [if_neg (by omega), if_pos rfl]
    rw [this]; exact own_nn _
  · have : gd (3 + n) = nar .byte (g 3) := by
      rw [hD]; exact if_pos rfl
    rw [this]; exact own_nn _
set_option maxRecDepth 65536 in
set_option maxHeartbeats 40000000 in
theorem b0_146 {p : Program} {l : Launch} {e : Env} {s : State} {m : MethodId} {args : Array Value} {below : List Frame} {meth : Method} {c : Code} {T : State} {locs : List Loc} {cells slots : Nat} {Z : State} {a0 : Array Value} {h : Heap} {n0 : Nat} {Q : Option Value → Heap → List Loc → Prop} (i0 : Int32) (i1 : Int32) (i2 : Int32) (i3 : Int32) (i4 : Int32) (i5 : Int32) (o6 : Addr) (g6 : Nat → Int32) (i7 : Int32) (i8 : Int32) (i9 : Int32) (i10 : Int32) (i11 : Int32) (hw : ∀ d ∈ tables_1, d.before a0 Z = true) (X : Stand p l e room_1 s m args below meth c T locs cells slots) (hx : p.tables.exec = Jvm.exec) (hZ : Z.Warmed39 s.vm) (hby : c.code = code) (hml : c.maxLocals = 16) (hown : s.vm.findClass "com/example/nuthatch/nuthatch/NameTableHashPinLaw" = some m.cls) (hret : meth.sig.returnType = some .boolean) (hlk : meth.locks = false) (eT : T.heap = h) (N : Fr n0 locs) (hc : cells ≤ 1) (hs : slots ≤ 4) (A6 : own_AF Z h o6 .byte 4 g6) (fr6 : n0 ≤ o6) (hse : own_R i9 i10) (hg : own_G g6 i0 i1 i2 i3) (hh : i11 = (own_st i9 i10 (3 : Int32) i3 (own_st i9 i10 (2 : Int32) i2 (own_st i9 i10 (1 : Int32) i1 (own_st i9 i10 (0 : Int32) i0 (-2128831035 : Int32)))))) (Z0 : n0 ≤ h.size) (hQ : ∀ H' L', Fr n0 L' → Q (some (.int 1)) H' L') :
    own_Fin p e below s Q 16 128 (T.setTop (mkF m 146 #[.val (.int i0), .val (.int i1), .val (.int i2), .val (.int i3), .val (.int i4), .val (.int i5), .val (.ref o6), .val (.int i7), .val (.int i8), .val (.int i9), .val (.int i10), .val (.int i11), .unset, .unset, .unset, .unset] [])) := by
  refine own_step (fun t k => XS.iload X.here hx rfl (hb hby at_146) rfl  k) ?_
  show own_Fin p e below s Q 16 128 (T.setTop (mkF m 148 #[.val (.int i0), .val (.int i1), .val (.int i2), .val (.int i3), .val (.int i4), .val (.int i5), .val (.ref o6), .val (.int i7), .val (.int i8), .val (.int i9), .val (.int i10), .val (.int i11), .unset, .unset, .unset, .unset] [(.int i11)]))
  obtain ⟨_, _, ⟨T18, L18, k18, n18⟩, -, X18, ⟨Lc18, hQ18, l18, y18, z18⟩, st18⟩ := Jvm.LawKit.callS X hx (y := (⟨"com/example/nuthatch/nuthatch/NameTableHashPinLaw", "fmix", "(I)I"⟩ : MethodName)) hown (mvT hZ (hw _ (List.mem_of_getElem? (i := 9) rfl))) (mvT hZ (hw _ (List.mem_of_getElem? (i := 10) rfl))) (mvT hZ (hw _ (List.mem_of_getElem? (i := 11) rfl))) (mvT hZ (hw _ (List.mem_of_getElem? (i := 12) rfl))) (by decide) (backOf (W := 0) (rm3 l Z a0 hw [] i11 h n0) hZ (hw _ (List.mem_of_getElem? (i := 12) rfl)) (hw _ (List.mem_of_getElem? (i := 11) rfl)) (by decide) (by decide)) (g := (mkF m 148 #[.val (.int i0), .val (.int i1), .val (.int i2), .val (.int i3), .val (.int i4), .val (.int i5), .val (.ref o6), .val (.int i7), .val (.int i8), .val (.int i9), .val (.int i10), .val (.int i11), .unset, .unset, .unset, .unset] [(.int i11)])) rfl (by rw [hml]; rfl) (argsL := [(.int i11)]) (rest := []) (lenOf pdm_1 rfl) rfl (by show 2 * 0 + _ ≤ _; exact Nat.le_of_eq rfl) (hb hby at_148) (fun _ _ => ⟨rfl, eT, (show cells + 0 ≤ 16 from (Nat.le_trans (Nat.add_le_add_right hc 0) (by decide))), (show slots + 0 ≤ 128 from (Nat.le_trans (Nat.add_le_add_right hs 0) (by decide)))⟩)
  dsimp only [Pt.U, Pt.locs, Pt.cells, Pt.slots] at X18 l18 y18 z18 st18 hQ18
  have yy18 : k18 = cells + 0 := y18
  have zz18 : n18 = slots + 0 := z18
  rw [yy18, zz18, l18] at X18
  obtain ⟨rfl, N18q, e18⟩ := hQ18
  have N18 := Fr.app N N18q
  refine own_step st18 ?_
  show own_Fin p e below s Q 16 128 (T18.setTop (mkF m 151 #[.val (.int i0), .val (.int i1), .val (.int i2), .val (.int i3), .val (.int i4), .val (.int i5), .val (.ref o6), .val (.int i7), .val (.int i8), .val (.int i9), .val (.int i10), .val (.int i11), .unset, .unset, .unset, .unset] [(.int (f3_0 i11))]))
  refine own_step (fun t k => XS.istore X18.here hx rfl (hb hby at_151) rfl (l' := #[.val (.int i0), .val (.int i1), .val (.int i2), .val (.int i3), .val (.int i4), .val (.int i5), .val (.ref o6), .val (.int i7), .val (.int i8), .val (.int i9), .val (.int i10), .val (.int i11), .val (.int (f3_0 i11)), .unset, .unset, .unset]) rfl k) ?_
  show own_Fin p e below s Q 16 128 (T18.setTop (mkF m 153 #[.val (.int i0), .val (.int i1), .val (.int i2), .val (.int i3), .val (.int i4), .val (.int i5), .val (.ref o6), .val (.int i7), .val (.int i8), .val (.int i9), .val (.int i10), .val (.int i11), .val (.int (f3_0 i11)), .unset, .unset, .unset] []))
  refine own_step (fun t k => XS.iload X18.here hx rfl (hb hby at_153) rfl  k) ?_
  show own_Fin p e below s Q 16 128 (T18.setTop (mkF m 155 #[.val (.int i0), .val (.int i1), .val (.int i2), .val (.int i3), .val (.int i4), .val (.int i5), .val (.ref o6), .val (.int i7), .val (.int i8), .val (.int i9), .val (.int i10), .val (.int i11), .val (.int (f3_0 i11)), .unset, .unset, .unset] [(.int i5)]))
  refine own_step (fun t k => XS.iconst X18.here hx rfl (hb hby at_155) k) ?_
  show own_Fin p e below s Q 16 128 (T18.setTop (mkF m 156 #[.val (.int i0), .val (.int i1), .val (.int i2), .val (.int i3), .val (.int i4), .val (.int i5), .val (.ref o6), .val (.int i7), .val (.int i8), .val (.int i9), .val (.int i10), .val (.int i11), .val (.int (f3_0 i11)), .unset, .unset, .unset] [(.int (3 : Int32)), (.int i5)]))
  refine own_step (fun t k => XS.iand X18.here hx rfl (hb hby at_156) rfl k) ?_
  show own_Fin p e below s Q 16 128 (T18.setTop (mkF m 157 #[.val (.int i0), .val (.int i1), .val (.int i2), .val (.int i3), .val (.int i4), .val (.int i5), .val (.ref o6), .val (.int i7), .val (.int i8), .val (.int i9), .val (.int i10), .val (.int i11), .val (.int (f3_0 i11)), .unset, .unset, .unset] [(.int (i5 &&& (3 : Int32)))]))
  refine own_step (fun t k => XS.istore X18.here hx rfl (hb hby at_157) rfl (l' := #[.val (.int i0), .val (.int i1), .val (.int i2), .val (.int i3), .val (.int i4), .val (.int i5), .val (.ref o6), .val (.int i7), .val (.int i8), .val (.int i9), .val (.int i10), .val (.int i11), .val (.int (f3_0 i11)), .val (.int (i5 &&& (3 : Int32))), .unset, .unset]) rfl k) ?_
  show own_Fin p e below s Q 16 128 (T18.setTop (mkF m 159 #[.val (.int i0), .val (.int i1), .val (.int i2), .val (.int i3), .val (.int i4), .val (.int i5), .val (.ref o6), .val (.int i7), .val (.int i8), .val (.int i9), .val (.int i10), .val (.int i11), .val (.int (f3_0 i11)), .val (.int (i5 &&& (3 : Int32))), .unset, .unset] []))
  refine own_step (fun t k => XS.iload X18.here hx rfl (hb hby at_159) rfl  k) ?_
  show own_Fin p e below s Q 16 128 (T18.setTop (mkF m 161 #[.val (.int i0), .val (.int i1), .val (.int i2), .val (.int i3), .val (.int i4), .val (.int i5), .val (.ref o6), .val (.int i7), .val (.int i8), .val (.int i9), .val (.int i10), .val (.int i11), .val (.int (f3_0 i11)), .val (.int (i5 &&& (3 : Int32))), .unset, .unset] [(.int i5)]))
  refine own_step (fun t k => XS.iconst X18.here hx rfl (hb hby at_161) k) ?_
  show own_Fin p e below s Q 16 128 (T18.setTop (mkF m 162 #[.val (.int i0), .val (.int i1), .val (.int i2), .val (.int i3), .val (.int i4), .val (.int i5), .val (.ref o6), .val (.int i7), .val (.int i8), .val (.int i9), .val (.int i10), .val (.int i11), .val (.int (f3_0 i11)), .val (.int (i5 &&& (3 : Int32))), .unset, .unset] [(.int (2 : Int32)), (.int i5)]))
  refine own_step (fun t k => XS.iushr X18.here hx rfl (hb hby at_162) rfl k) ?_
  show own_Fin p e below s Q 16 128 (T18.setTop (mkF m 163 #[.val (.int i0), .val (.int i1), .val (.int i2), .val (.int i3), .val (.int i4), .val (.int i5), .val (.ref o6), .val (.int i7), .val (.int i8), .val (.int i9), .val (.int i10), .val (.int i11), .val (.int (f3_0 i11)), .val (.int (i5 &&& (3 : Int32))), .unset, .unset] [(.int ((i5.toUInt32 >>> ((2 : Int32) &&& 31).toUInt32).toInt32))]))
  refine own_step (fun t k => XS.i2b X18.here hx rfl (hb hby at_163) rfl k) ?_
  show own_Fin p e below s Q 16 128 (T18.setTop (mkF m 164 #[.val (.int i0), .val (.int i1), .val (.int i2), .val (.int i3), .val (.int i4), .val (.int i5), .val (.ref o6), .val (.int i7), .val (.int i8), .val (.int i9), .val (.int i10), .val (.int i11), .val (.int (f3_0 i11)), .val (.int (i5 &&& (3 : Int32))), .unset, .unset] [(.int (((i5.toUInt32 >>> ((2 : Int32) &&& 31).toUInt32).toInt32).toInt8.toInt32))]))
  refine own_step (fun t k => XS.istore X18.here hx rfl (hb hby at_164) rfl (l' := #[.val (.int i0), .val (.int i1), .val (.int i2), .val (.int i3), .val (.int i4), .val (.int i5), .val (.ref o6), .val (.int i7), .val (.int i8), .val (.int i9), .val (.int i10), .val (.int i11), .val (.int (f3_0 i11)), .val (.int (i5 &&& (3 : Int32))), .val (.int (((i5.toUInt32 >>> ((2 : Int32) &&& 31).toUInt32).toInt32).toInt8.toInt32)), .unset]) rfl k) ?_
  show own_Fin p e below s Q 16 128 (T18.setTop (mkF m 166 #[.val (.int i0), .val (.int i1), .val (.int i2), .val (.int i3), .val (.int i4), .val (.int i5), .val (.ref o6), .val (.int i7), .val (.int i8), .val (.int i9), .val (.int i10), .val (.int i11), .val (.int (f3_0 i11)), .val (.int (i5 &&& (3 : Int32))), .val (.int (((i5.toUInt32 >>> ((2 : Int32) &&& 31).toUInt32).toInt32).toInt8.toInt32)), .unset] []))
  refine own_step (fun t k => XS.bipush X18.here hx rfl (hb hby at_166) k) ?_
  show own_Fin p e below s Q 16 128 (T18.setTop (mkF m 168 #[.val (.int i0), .val (.int i1), .val (.int i2), .val (.int i3), .val (.int i4), .val (.int i5), .val (.ref o6), .val (.int i7), .val (.int i8), .val (.int i9), .val (.int i10), .val (.int i11), .val (.int (f3_0 i11)), .val (.int (i5 &&& (3 : Int32))), .val (.int (((i5.toUInt32 >>> ((2 : Int32) &&& 31).toUInt32).toInt32).toInt8.toInt32)), .unset] [(.int (8 : Int32))]))
  obtain ⟨T19, h19, k19, X19, e19, E19, AA19, st19⟩ := newP X18 hx hZ (hw _ (List.mem_of_getElem? (i := 0) rfl)) e18 (g := (mkF m 168 #[.val (.int i0), .val (.int i1), .val (.int i2), .val (.int i3), .val (.int i4), .val (.int i5), .val (.ref o6), .val (.int i7), .val (.int i8), .val (.int i9), .val (.int i10), .val (.int i11), .val (.int (f3_0 i11)), .val (.int (i5 &&& (3 : Int32))), .val (.int (((i5.toUInt32 >>> ((2 : Int32) &&& 31).toUInt32).toInt32).toInt8.toInt32)), .unset] [(.int (8 : Int32))])) rfl (hb hby at_168) rfl (by decide) (cap := 8) (by decide) (by decide) (show cells + 0 + 1 ≤ 16 from (Nat.le_trans (Nat.add_le_add_right hc 1) (by decide))) (show slots + 0 + 8 ≤ 128 from (Nat.le_trans (Nat.add_le_add_right hs 8) (by decide)))
  obtain ⟨b19, gg19⟩ : ∃ z, z = h.size := ⟨_, rfl⟩
  rw [← gg19] at AA19 st19
  have V19 : own_AF Z h19 b19 .byte 8 (fun _ => 0) := own_AFnew AA19 (by decide)
  have fr19 : n0 ≤ b19 := Nat.le_trans Z0 (Nat.le_of_eq gg19.symm)
  have Z019 : n0 ≤ h19.size := Nat.le_trans Z0 E19.1
  have neo6_19 : o6 ≠ b19 := Nat.ne_of_lt (Nat.lt_of_lt_of_le A6.lt (Nat.le_of_eq gg19.symm))
  have V19_o6 := own_AFext A6 E19
  refine own_step st19 ?_
  show own_Fin p e below s Q 16 128 (T19.setTop (mkF m 170 #[.val (.int i0), .val (.int i1), .val (.int i2), .val (.int i3), .val (.int i4), .val (.int i5), .val (.ref o6), .val (.int i7), .val (.int i8), .val (.int i9), .val (.int i10), .val (.int i11), .val (.int (f3_0 i11)), .val (.int (i5 &&& (3 : Int32))), .val (.int (((i5.toUInt32 >>> ((2 : Int32) &&& 31).toUInt32).toInt32).toInt8.toInt32)), .unset] [(.ref b19)]))
  refine own_step (fun t k => XS.dup X19.here hx rfl (hb hby at_170) rfl rfl k) ?_
  show own_Fin p e below s Q 16 128 (T19.setTop (mkF m 171 #[.val (.int i0), .val (.int i1), .val (.int i2), .val (.int i3), .val (.int i4), .val (.int i5), .val (.ref o6), .val (.int i7), .val (.int i8), .val (.int i9), .val (.int i10), .val (.int i11), .val (.int (f3_0 i11)), .val (.int (i5 &&& (3 : Int32))), .val (.int (((i5.toUInt32 >>> ((2 : Int32) &&& 31).toUInt32).toInt32).toInt8.toInt32)), .unset] [(.ref b19), (.ref b19)]))
  refine own_step (fun t k => XS.iconst X19.here hx rfl (hb hby at_171) k) ?_
  show own_Fin p e below s Q 16 128 (T19.setTop (mkF m 172 #[.val (.int i0), .val (.int i1), .val (.int i2), .val (.int i3), .val (.int i4), .val (.int i5), .val (.ref o6), .val (.int i7), .val (.int i8), .val (.int i9), .val (.int i10), .val (.int i11), .val (.int (f3_0 i11)), .val (.int (i5 &&& (3 : Int32))), .val (.int (((i5.toUInt32 >>> ((2 : Int32) &&& 31).toUInt32).toInt32).toInt8.toInt32)), .unset] [(.int (0 : Int32)), (.ref b19), (.ref b19)]))
  refine own_step (fun t k => XS.iload X19.here hx rfl (hb hby at_172) rfl  k) ?_
  show own_Fin p e below s Q 16 128 (T19.setTop (mkF m 174 #[.val (.int i0), .val (.int i1), .val (.int i2), .val (.int i3), .val (.int i4), .val (.int i5), .val (.ref o6), .val (.int i7), .val (.int i8), .val (.int i9), .val (.int i10), .val (.int i11), .val (.int (f3_0 i11)), .val (.int (i5 &&& (3 : Int32))), .val (.int (((i5.toUInt32 >>> ((2 : Int32) &&& 31).toUInt32).toInt32).toInt8.toInt32)), .unset] [(.int (((i5.toUInt32 >>> ((2 : Int32) &&& 31).toUInt32).toInt32).toInt8.toInt32)), (.int (0 : Int32)), (.ref b19), (.ref b19)]))
  obtain ⟨ca20, Ar20, Sz20, Ht20⟩ := id V19
  have hin20 : ¬ ((0 : Int32) < 0 ∨ ca20.slots.size ≤ ((0 : Int32)).toNatClampNeg) := by rw [Sz20]; exact (by decide)
  obtain ⟨T20, h20, X20, e20, W20, st20⟩ := stB X19 hx hZ e19 Ar20 (j := (0 : Int32)) hin20 (g := (mkF m 174 #[.val (.int i0), .val (.int i1), .val (.int i2), .val (.int i3), .val (.int i4), .val (.int i5), .val (.ref o6), .val (.int i7), .val (.int i8), .val (.int i9), .val (.int i10), .val (.int i11), .val (.int (f3_0 i11)), .val (.int (i5 &&& (3 : Int32))), .val (.int (((i5.toUInt32 >>> ((2 : Int32) &&& 31).toUInt32).toInt32).toInt8.toInt32)), .unset] [(.int (((i5.toUInt32 >>> ((2 : Int32) &&& 31).toUInt32).toInt32).toInt8.toInt32)), (.int (0 : Int32)), (.ref b19), (.ref b19)])) rfl rfl (hb hby at_174)
  have V20 : own_AF Z h20 b19 .byte 8 (fun i => if i = 0 then (nar .byte (((i5.toUInt32 >>> ((2 : Int32) &&& 31).toUInt32).toInt32).toInt8.toInt32)) else (fun _ => 0) i) := own_AFset Ar20 Sz20 Ht20 W20
  obtain ⟨gf20, hgf20⟩ : ∃ g' : Nat → Int32, g' = (fun i => if i = 0 then (nar .byte (((i5.toUInt32 >>> ((2 : Int32) &&& 31).toUInt32).toInt32).toInt8.toInt32)) else (fun _ => 0) i) := ⟨_, rfl⟩
  rw [← hgf20] at V20
  have N20 := Fr.snoc X20 N18 fr19
  have Z020 : n0 ≤ h20.size := Nat.le_trans Z019 (Nat.le_of_eq W20.size.symm)
  have V20_o6 := own_AFoth V19_o6 W20 neo6_19
  refine own_step st20 ?_
  show own_Fin p e below s Q 16 128 (T20.setTop (mkF m 175 #[.val (.int i0), .val (.int i1), .val (.int i2), .val (.int i3), .val (.int i4), .val (.int i5), .val (.ref o6), .val (.int i7), .val (.int i8), .val (.int i9), .val (.int i10), .val (.int i11), .val (.int (f3_0 i11)), .val (.int (i5 &&& (3 : Int32))), .val (.int (((i5.toUInt32 >>> ((2 : Int32) &&& 31).toUInt32).toInt32).toInt8.toInt32)), .unset] [(.ref b19)]))
  refine own_step (fun t k => XS.dup X20.here hx rfl (hb hby at_175) rfl rfl k) ?_
  show own_Fin p e below s Q 16 128 (T20.setTop (mkF m 176 #[.val (.int i0), .val (.int i1), .val (.int i2), .val (.int i3), .val (.int i4), .val (.int i5), .val (.ref o6), .val (.int i7), .val (.int i8), .val (.int i9), .val (.int i10), .val (.int i11), .val (.int (f3_0 i11)), .val (.int (i5 &&& (3 : Int32))), .val (.int (((i5.toUInt32 >>> ((2 : Int32) &&& 31).toUInt32).toInt32).toInt8.toInt32)), .unset] [(.ref b19), (.ref b19)]))
  refine own_step (fun t k => XS.iconst X20.here hx rfl (hb hby at_176) k) ?_
  show own_Fin p e below s Q 16 128 (T20.setTop (mkF m 177 #[.val (.int i0), .val (.int i1), .val (.int i2), .val (.int i3), .val (.int i4), .val (.int i5), .val (.ref o6), .val (.int i7), .val (.int i8), .val (.int i9), .val (.int i10), .val (.int i11), .val (.int (f3_0 i11)), .val (.int (i5 &&& (3 : Int32))), .val (.int (((i5.toUInt32 >>> ((2 : Int32) &&& 31).toUInt32).toInt32).toInt8.toInt32)), .unset] [(.int (1 : Int32)), (.ref b19), (.ref b19)]))
  refine own_step (fun t k => XS.iload X20.here hx rfl (hb hby at_177) rfl  k) ?_
  show own_Fin p e below s Q 16 128 (T20.setTop (mkF m 179 #[.val (.int i0), .val (.int i1), .val (.int i2), .val (.int i3), .val (.int i4), .val (.int i5), .val (.ref o6), .val (.int i7), .val (.int i8), .val (.int i9), .val (.int i10), .val (.int i11), .val (.int (f3_0 i11)), .val (.int (i5 &&& (3 : Int32))), .val (.int (((i5.toUInt32 >>> ((2 : Int32) &&& 31).toUInt32).toInt32).toInt8.toInt32)), .unset] [(.int (((i5.toUInt32 >>> ((2 : Int32) &&& 31).toUInt32).toInt32).toInt8.toInt32)), (.int (1 : Int32)), (.ref b19), (.ref b19)]))
  obtain ⟨ca21, Ar21, Sz21, Ht21⟩ := id V20
  have hin21 : ¬ ((1 : Int32) < 0 ∨ ca21.slots.size ≤ ((1 : Int32)).toNatClampNeg) := by rw [Sz21]; exact (by decide)
  obtain ⟨T21, h21, X21, e21, W21, st21⟩ := stB X20 hx hZ e20 Ar21 (j := (1 : Int32)) hin21 (g := (mkF m 179 #[.val (.int i0), .val (.int i1), .val (.int i2), .val (.int i3), .val (.int i4), .val (.int i5), .val (.ref o6), .val (.int i7), .val (.int i8), .val (.int i9), .val (.int i10), .val (.int i11), .val (.int (f3_0 i11)), .val (.int (i5 &&& (3 : Int32))), .val (.int (((i5.toUInt32 >>> ((2 : Int32) &&& 31).toUInt32).toInt32).toInt8.toInt32)), .unset] [(.int (((i5.toUInt32 >>> ((2 : Int32) &&& 31).toUInt32).toInt32).toInt8.toInt32)), (.int (1 : Int32)), (.ref b19), (.ref b19)])) rfl rfl (hb hby at_179)
  have V21 : own_AF Z h21 b19 .byte 8 (fun i => if i = 1 then (nar .byte (((i5.toUInt32 >>> ((2 : Int32) &&& 31).toUInt32).toInt32).toInt8.toInt32)) else gf20 i) := own_AFset Ar21 Sz21 Ht21 W21
  obtain ⟨gf21, hgf21⟩ : ∃ g' : Nat → Int32, g' = (fun i => if i = 1 then (nar .byte (((i5.toUInt32 >>> ((2 : Int32) &&& 31).toUInt32).toInt32).toInt8.toInt32)) else gf20 i) := ⟨_, rfl⟩
  rw [← hgf21] at V21
  have N21 := Fr.snoc X21 N20 fr19
  have Z021 : n0 ≤ h21.size := Nat.le_trans Z020 (Nat.le_of_eq W21.size.symm)
  have V21_o6 := own_AFoth V20_o6 W21 neo6_19
  refine own_step st21 ?_
  show own_Fin p e below s Q 16 128 (T21.setTop (mkF m 180 #[.val (.int i0), .val (.int i1), .val (.int i2), .val (.int i3), .val (.int i4), .val (.int i5), .val (.ref o6), .val (.int i7), .val (.int i8), .val (.int i9), .val (.int i10), .val (.int i11), .val (.int (f3_0 i11)), .val (.int (i5 &&& (3 : Int32))), .val (.int (((i5.toUInt32 >>> ((2 : Int32) &&& 31).toUInt32).toInt32).toInt8.toInt32)), .unset] [(.ref b19)]))
  refine own_step (fun t k => XS.dup X21.here hx rfl (hb hby at_180) rfl rfl k) ?_
  show own_Fin p e below s Q 16 128 (T21.setTop (mkF m 181 #[.val (.int i0), .val (.int i1), .val (.int i2), .val (.int i3), .val (.int i4), .val (.int i5), .val (.ref o6), .val (.int i7), .val (.int i8), .val (.int i9), .val (.int i10), .val (.int i11), .val (.int (f3_0 i11)), .val (.int (i5 &&& (3 : Int32))), .val (.int (((i5.toUInt32 >>> ((2 : Int32) &&& 31).toUInt32).toInt32).toInt8.toInt32)), .unset] [(.ref b19), (.ref b19)]))
  refine own_step (fun t k => XS.iconst X21.here hx rfl (hb hby at_181) k) ?_
  show own_Fin p e below s Q 16 128 (T21.setTop (mkF m 182 #[.val (.int i0), .val (.int i1), .val (.int i2), .val (.int i3), .val (.int i4), .val (.int i5), .val (.ref o6), .val (.int i7), .val (.int i8), .val (.int i9), .val (.int i10), .val (.int i11), .val (.int (f3_0 i11)), .val (.int (i5 &&& (3 : Int32))), .val (.int (((i5.toUInt32 >>> ((2 : Int32) &&& 31).toUInt32).toInt32).toInt8.toInt32)), .unset] [(.int (2 : Int32)), (.ref b19), (.ref b19)]))
  refine own_step (fun t k => XS.iload X21.here hx rfl (hb hby at_182) rfl  k) ?_
  show own_Fin p e below s Q 16 128 (T21.setTop (mkF m 184 #[.val (.int i0), .val (.int i1), .val (.int i2), .val (.int i3), .val (.int i4), .val (.int i5), .val (.ref o6), .val (.int i7), .val (.int i8), .val (.int i9), .val (.int i10), .val (.int i11), .val (.int (f3_0 i11)), .val (.int (i5 &&& (3 : Int32))), .val (.int (((i5.toUInt32 >>> ((2 : Int32) &&& 31).toUInt32).toInt32).toInt8.toInt32)), .unset] [(.int (((i5.toUInt32 >>> ((2 : Int32) &&& 31).toUInt32).toInt32).toInt8.toInt32)), (.int (2 : Int32)), (.ref b19), (.ref b19)]))
  obtain ⟨ca22, Ar22, Sz22, Ht22⟩ := id V21
  have hin22 : ¬ ((2 : Int32) < 0 ∨ ca22.slots.size ≤ ((2 : Int32)).toNatClampNeg) := by rw [Sz22]; exact (by decide)
  obtain ⟨T22, h22, X22, e22, W22, st22⟩ := stB X21 hx hZ e21 Ar22 (j := (2 : Int32)) hin22 (g := (mkF m 184 #[.val (.int i0), .val (.int i1), .val (.int i2), .val (.int i3), .val (.int i4), .val (.int i5), .val (.ref o6), .val (.int i7), .val (.int i8), .val (.int i9), .val (.int i10), .val (.int i11), .val (.int (f3_0 i11)), .val (.int (i5 &&& (3 : Int32))), .val (.int (((i5.toUInt32 >>> ((2 : Int32) &&& 31).toUInt32).toInt32).toInt8.toInt32)), .unset] [(.int (((i5.toUInt32 >>> ((2 : Int32) &&& 31).toUInt32).toInt32).toInt8.toInt32)), (.int (2 : Int32)), (.ref b19), (.ref b19)])) rfl rfl (hb hby at_184)
  have V22 : own_AF Z h22 b19 .byte 8 (fun i => if i = 2 then (nar .byte (((i5.toUInt32 >>> ((2 : Int32) &&& 31).toUInt32).toInt32).toInt8.toInt32)) else gf21 i) := own_AFset Ar22 Sz22 Ht22 W22
  obtain ⟨gf22, hgf22⟩ : ∃ g' : Nat → Int32, g' = (fun i => if i = 2 then (nar .byte (((i5.toUInt32 >>> ((2 : Int32) &&& 31).toUInt32).toInt32).toInt8.toInt32)) else gf21 i) := ⟨_, rfl⟩
  rw [← hgf22] at V22
  have N22 := Fr.snoc X22 N21 fr19
  have Z022 : n0 ≤ h22.size := Nat.le_trans Z021 (Nat.le_of_eq W22.size.symm)
  have V22_o6 := own_AFoth V21_o6 W22 neo6_19
  refine own_step st22 ?_
  show own_Fin p e below s Q 16 128 (T22.setTop (mkF m 185 #[.val (.int i0), .val (.int i1), .val (.int i2), .val (.int i3), .val (.int i4), .val (.int i5), .val (.ref o6), .val (.int i7), .val (.int i8), .val (.int i9), .val (.int i10), .val (.int i11), .val (.int (f3_0 i11)), .val (.int (i5 &&& (3 : Int32))), .val (.int (((i5.toUInt32 >>> ((2 : Int32) &&& 31).toUInt32).toInt32).toInt8.toInt32)), .unset] [(.ref b19)]))
  refine own_step (fun t k => XS.dup X22.here hx rfl (hb hby at_185) rfl rfl k) ?_
  show own_Fin p e below s Q 16 128 (T22.setTop (mkF m 186 #[.val (.int i0), .val (.int i1), .val (.int i2), .val (.int i3), .val (.int i4), .val (.int i5), .val (.ref o6), .val (.int i7), .val (.int i8), .val (.int i9), .val (.int i10), .val (.int i11), .val (.int (f3_0 i11)), .val (.int (i5 &&& (3 : Int32))), .val (.int (((i5.toUInt32 >>> ((2 : Int32) &&& 31).toUInt32).toInt32).toInt8.toInt32)), .unset] [(.ref b19), (.ref b19)]))
  refine own_step (fun t k => XS.iconst X22.here hx rfl (hb hby at_186) k) ?_
  show own_Fin p e below s Q 16 128 (T22.setTop (mkF m 187 #[.val (.int i0), .val (.int i1), .val (.int i2), .val (.int i3), .val (.int i4), .val (.int i5), .val (.ref o6), .val (.int i7), .val (.int i8), .val (.int i9), .val (.int i10), .val (.int i11), .val (.int (f3_0 i11)), .val (.int (i5 &&& (3 : Int32))), .val (.int (((i5.toUInt32 >>> ((2 : Int32) &&& 31).toUInt32).toInt32).toInt8.toInt32)), .unset] [(.int (3 : Int32)), (.ref b19), (.ref b19)]))
  refine own_step (fun t k => XS.iload X22.here hx rfl (hb hby at_187) rfl  k) ?_
  show own_Fin p e below s Q 16 128 (T22.setTop (mkF m 189 #[.val (.int i0), .val (.int i1), .val (.int i2), .val (.int i3), .val (.int i4), .val (.int i5), .val (.ref o6), .val (.int i7), .val (.int i8), .val (.int i9), .val (.int i10), .val (.int i11), .val (.int (f3_0 i11)), .val (.int (i5 &&& (3 : Int32))), .val (.int (((i5.toUInt32 >>> ((2 : Int32) &&& 31).toUInt32).toInt32).toInt8.toInt32)), .unset] [(.int (((i5.toUInt32 >>> ((2 : Int32) &&& 31).toUInt32).toInt32).toInt8.toInt32)), (.int (3 : Int32)), (.ref b19), (.ref b19)]))
  obtain ⟨ca23, Ar23, Sz23, Ht23⟩ := id V22
  have hin23 : ¬ ((3 : Int32) < 0 ∨ ca23.slots.size ≤ ((3 : Int32)).toNatClampNeg) := by rw [Sz23]; exact (by decide)
  obtain ⟨T23, h23, X23, e23, W23, st23⟩ := stB X22 hx hZ e22 Ar23 (j := (3 : Int32)) hin23 (g := (mkF m 189 #[.val (.int i0), .val (.int i1), .val (.int i2), .val (.int i3), .val (.int i4), .val (.int i5), .val (.ref o6), .val (.int i7), .val (.int i8), .val (.int i9), .val (.int i10), .val (.int i11), .val (.int (f3_0 i11)), .val (.int (i5 &&& (3 : Int32))), .val (.int (((i5.toUInt32 >>> ((2 : Int32) &&& 31).toUInt32).toInt32).toInt8.toInt32)), .unset] [(.int (((i5.toUInt32 >>> ((2 : Int32) &&& 31).toUInt32).toInt32).toInt8.toInt32)), (.int (3 : Int32)), (.ref b19), (.ref b19)])) rfl rfl (hb hby at_189)
  have V23 : own_AF Z h23 b19 .byte 8 (fun i => if i = 3 then (nar .byte (((i5.toUInt32 >>> ((2 : Int32) &&& 31).toUInt32).toInt32).toInt8.toInt32)) else gf22 i) := own_AFset Ar23 Sz23 Ht23 W23
  obtain ⟨gf23, hgf23⟩ : ∃ g' : Nat → Int32, g' = (fun i => if i = 3 then (nar .byte (((i5.toUInt32 >>> ((2 : Int32) &&& 31).toUInt32).toInt32).toInt8.toInt32)) else gf22 i) := ⟨_, rfl⟩
  rw [← hgf23] at V23
  have N23 := Fr.snoc X23 N22 fr19
  have Z023 : n0 ≤ h23.size := Nat.le_trans Z022 (Nat.le_of_eq W23.size.symm)
  have V23_o6 := own_AFoth V22_o6 W23 neo6_19
  refine own_step st23 ?_
  show own_Fin p e below s Q 16 128 (T23.setTop (mkF m 190 #[.val (.int i0), .val (.int i1), .val (.int i2), .val (.int i3), .val (.int i4), .val (.int i5), .val (.ref o6), .val (.int i7), .val (.int i8), .val (.int i9), .val (.int i10), .val (.int i11), .val (.int (f3_0 i11)), .val (.int (i5 &&& (3 : Int32))), .val (.int (((i5.toUInt32 >>> ((2 : Int32) &&& 31).toUInt32).toInt32).toInt8.toInt32)), .unset] [(.ref b19)]))
  refine own_step (fun t k => XS.dup X23.here hx rfl (hb hby at_190) rfl rfl k) ?_
  show own_Fin p e below s Q 16 128 (T23.setTop (mkF m 191 #[.val (.int i0), .val (.int i1), .val (.int i2), .val (.int i3), .val (.int i4), .val (.int i5), .val (.ref o6), .val (.int i7), .val (.int i8), .val (.int i9), .val (.int i10), .val (.int i11), .val (.int (f3_0 i11)), .val (.int (i5 &&& (3 : Int32))), .val (.int (((i5.toUInt32 >>> ((2 : Int32) &&& 31).toUInt32).toInt32).toInt8.toInt32)), .unset] [(.ref b19), (.ref b19)]))
  refine own_step (fun t k => XS.iconst X23.here hx rfl (hb hby at_191) k) ?_
  show own_Fin p e below s Q 16 128 (T23.setTop (mkF m 192 #[.val (.int i0), .val (.int i1), .val (.int i2), .val (.int i3), .val (.int i4), .val (.int i5), .val (.ref o6), .val (.int i7), .val (.int i8), .val (.int i9), .val (.int i10), .val (.int i11), .val (.int (f3_0 i11)), .val (.int (i5 &&& (3 : Int32))), .val (.int (((i5.toUInt32 >>> ((2 : Int32) &&& 31).toUInt32).toInt32).toInt8.toInt32)), .unset] [(.int (4 : Int32)), (.ref b19), (.ref b19)]))
  refine own_step (fun t k => XS.iload X23.here hx rfl (hb hby at_192) rfl  k) ?_
  show own_Fin p e below s Q 16 128 (T23.setTop (mkF m 194 #[.val (.int i0), .val (.int i1), .val (.int i2), .val (.int i3), .val (.int i4), .val (.int i5), .val (.ref o6), .val (.int i7), .val (.int i8), .val (.int i9), .val (.int i10), .val (.int i11), .val (.int (f3_0 i11)), .val (.int (i5 &&& (3 : Int32))), .val (.int (((i5.toUInt32 >>> ((2 : Int32) &&& 31).toUInt32).toInt32).toInt8.toInt32)), .unset] [(.int (((i5.toUInt32 >>> ((2 : Int32) &&& 31).toUInt32).toInt32).toInt8.toInt32)), (.int (4 : Int32)), (.ref b19), (.ref b19)]))
  obtain ⟨ca24, Ar24, Sz24, Ht24⟩ := id V23
  have hin24 : ¬ ((4 : Int32) < 0 ∨ ca24.slots.size ≤ ((4 : Int32)).toNatClampNeg) := by rw [Sz24]; exact (by decide)
  obtain ⟨T24, h24, X24, e24, W24, st24⟩ := stB X23 hx hZ e23 Ar24 (j := (4 : Int32)) hin24 (g := (mkF m 194 #[.val (.int i0), .val (.int i1), .val (.int i2), .val (.int i3), .val (.int i4), .val (.int i5), .val (.ref o6), .val (.int i7), .val (.int i8), .val (.int i9), .val (.int i10), .val (.int i11), .val (.int (f3_0 i11)), .val (.int (i5 &&& (3 : Int32))), .val (.int (((i5.toUInt32 >>> ((2 : Int32) &&& 31).toUInt32).toInt32).toInt8.toInt32)), .unset] [(.int (((i5.toUInt32 >>> ((2 : Int32) &&& 31).toUInt32).toInt32).toInt8.toInt32)), (.int (4 : Int32)), (.ref b19), (.ref b19)])) rfl rfl (hb hby at_194)
  have V24 : own_AF Z h24 b19 .byte 8 (fun i => if i = 4 then (nar .byte (((i5.toUInt32 >>> ((2 : Int32) &&& 31).toUInt32).toInt32).toInt8.toInt32)) else gf23 i) := own_AFset Ar24 Sz24 Ht24 W24
  obtain ⟨gf24, hgf24⟩ : ∃ g' : Nat → Int32, g' = (fun i => if i = 4 then (nar .byte (((i5.toUInt32 >>> ((2 : Int32) &&& 31).toUInt32).toInt32).toInt8.toInt32)) else gf23 i) := ⟨_, rfl⟩
  rw [← hgf24] at V24
  have N24 := Fr.snoc X24 N23 fr19
  have Z024 : n0 ≤ h24.size := Nat.le_trans Z023 (Nat.le_of_eq W24.size.symm)
  have V24_o6 := own_AFoth V23_o6 W24 neo6_19
  refine own_step st24 ?_
  show own_Fin p e below s Q 16 128 (T24.setTop (mkF m 195 #[.val (.int i0), .val (.int i1), .val (.int i2), .val (.int i3), .val (.int i4), .val (.int i5), .val (.ref o6), .val (.int i7), .val (.int i8), .val (.int i9), .val (.int i10), .val (.int i11), .val (.int (f3_0 i11)), .val (.int (i5 &&& (3 : Int32))), .val (.int (((i5.toUInt32 >>> ((2 : Int32) &&& 31).toUInt32).toInt32).toInt8.toInt32)), .unset] [(.ref b19)]))
  refine own_step (fun t k => XS.dup X24.here hx rfl (hb hby at_195) rfl rfl k) ?_
  show own_Fin p e below s Q 16 128 (T24.setTop (mkF m 196 #[.val (.int i0), .val (.int i1), .val (.int i2), .val (.int i3), .val (.int i4), .val (.int i5), .val (.ref o6), .val (.int i7), .val (.int i8), .val (.int i9), .val (.int i10), .val (.int i11), .val (.int (f3_0 i11)), .val (.int (i5 &&& (3 : Int32))), .val (.int (((i5.toUInt32 >>> ((2 : Int32) &&& 31).toUInt32).toInt32).toInt8.toInt32)), .unset] [(.ref b19), (.ref b19)]))
  refine own_step (fun t k => XS.iconst X24.here hx rfl (hb hby at_196) k) ?_
  show own_Fin p e below s Q 16 128 (T24.setTop (mkF m 197 #[.val (.int i0), .val (.int i1), .val (.int i2), .val (.int i3), .val (.int i4), .val (.int i5), .val (.ref o6), .val (.int i7), .val (.int i8), .val (.int i9), .val (.int i10), .val (.int i11), .val (.int (f3_0 i11)), .val (.int (i5 &&& (3 : Int32))), .val (.int (((i5.toUInt32 >>> ((2 : Int32) &&& 31).toUInt32).toInt32).toInt8.toInt32)), .unset] [(.int (5 : Int32)), (.ref b19), (.ref b19)]))
  refine own_step (fun t k => XS.iload X24.here hx rfl (hb hby at_197) rfl  k) ?_
  show own_Fin p e below s Q 16 128 (T24.setTop (mkF m 199 #[.val (.int i0), .val (.int i1), .val (.int i2), .val (.int i3), .val (.int i4), .val (.int i5), .val (.ref o6), .val (.int i7), .val (.int i8), .val (.int i9), .val (.int i10), .val (.int i11), .val (.int (f3_0 i11)), .val (.int (i5 &&& (3 : Int32))), .val (.int (((i5.toUInt32 >>> ((2 : Int32) &&& 31).toUInt32).toInt32).toInt8.toInt32)), .unset] [(.int (((i5.toUInt32 >>> ((2 : Int32) &&& 31).toUInt32).toInt32).toInt8.toInt32)), (.int (5 : Int32)), (.ref b19), (.ref b19)]))
  obtain ⟨ca25, Ar25, Sz25, Ht25⟩ := id V24
  have hin25 : ¬ ((5 : Int32) < 0 ∨ ca25.slots.size ≤ ((5 : Int32)).toNatClampNeg) := by rw [Sz25]; exact (by decide)
  obtain ⟨T25, h25, X25, e25, W25, st25⟩ := stB X24 hx hZ e24 Ar25 (j := (5 : Int32)) hin25 (g := (mkF m 199 #[.val (.int i0), .val (.int i1), .val (.int i2), .val (.int i3), .val (.int i4), .val (.int i5), .val (.ref o6), .val (.int i7), .val (.int i8), .val (.int i9), .val (.int i10), .val (.int i11), .val (.int (f3_0 i11)), .val (.int (i5 &&& (3 : Int32))), .val (.int (((i5.toUInt32 >>> ((2 : Int32) &&& 31).toUInt32).toInt32).toInt8.toInt32)), .unset] [(.int (((i5.toUInt32 >>> ((2 : Int32) &&& 31).toUInt32).toInt32).toInt8.toInt32)), (.int (5 : Int32)), (.ref b19), (.ref b19)])) rfl rfl (hb hby at_199)
  have V25 : own_AF Z h25 b19 .byte 8 (fun i => if i = 5 then (nar .byte (((i5.toUInt32 >>> ((2 : Int32) &&& 31).toUInt32).toInt32).toInt8.toInt32)) else gf24 i) := own_AFset Ar25 Sz25 Ht25 W25
  obtain ⟨gf25, hgf25⟩ : ∃ g' : Nat → Int32, g' = (fun i => if i = 5 then (nar .byte (((i5.toUInt32 >>> ((2 : Int32) &&& 31).toUInt32).toInt32).toInt8.toInt32)) else gf24 i) := ⟨_, rfl⟩
  rw [← hgf25] at V25
  have N25 := Fr.snoc X25 N24 fr19
  have Z025 : n0 ≤ h25.size := Nat.le_trans Z024 (Nat.le_of_eq W25.size.symm)
  have V25_o6 := own_AFoth V24_o6 W25 neo6_19
  refine own_step st25 ?_
  show own_Fin p e below s Q 16 128 (T25.setTop (mkF m 200 #[.val (.int i0), .val (.int i1), .val (.int i2), .val (.int i3), .val (.int i4), .val (.int i5), .val (.ref o6), .val (.int i7), .val (.int i8), .val (.int i9), .val (.int i10), .val (.int i11), .val (.int (f3_0 i11)), .val (.int (i5 &&& (3 : Int32))), .val (.int (((i5.toUInt32 >>> ((2 : Int32) &&& 31).toUInt32).toInt32).toInt8.toInt32)), .unset] [(.ref b19)]))
  refine own_step (fun t k => XS.dup X25.here hx rfl (hb hby at_200) rfl rfl k) ?_
  show own_Fin p e below s Q 16 128 (T25.setTop (mkF m 201 #[.val (.int i0), .val (.int i1), .val (.int i2), .val (.int i3), .val (.int i4), .val (.int i5), .val (.ref o6), .val (.int i7), .val (.int i8), .val (.int i9), .val (.int i10), .val (.int i11), .val (.int (f3_0 i11)), .val (.int (i5 &&& (3 : Int32))), .val (.int (((i5.toUInt32 >>> ((2 : Int32) &&& 31).toUInt32).toInt32).toInt8.toInt32)), .unset] [(.ref b19), (.ref b19)]))
  refine own_step (fun t k => XS.bipush X25.here hx rfl (hb hby at_201) k) ?_
  show own_Fin p e below s Q 16 128 (T25.setTop (mkF m 203 #[.val (.int i0), .val (.int i1), .val (.int i2), .val (.int i3), .val (.int i4), .val (.int i5), .val (.ref o6), .val (.int i7), .val (.int i8), .val (.int i9), .val (.int i10), .val (.int i11), .val (.int (f3_0 i11)), .val (.int (i5 &&& (3 : Int32))), .val (.int (((i5.toUInt32 >>> ((2 : Int32) &&& 31).toUInt32).toInt32).toInt8.toInt32)), .unset] [(.int (6 : Int32)), (.ref b19), (.ref b19)]))
  refine own_step (fun t k => XS.iload X25.here hx rfl (hb hby at_203) rfl  k) ?_
  show own_Fin p e below s Q 16 128 (T25.setTop (mkF m 205 #[.val (.int i0), .val (.int i1), .val (.int i2), .val (.int i3), .val (.int i4), .val (.int i5), .val (.ref o6), .val (.int i7), .val (.int i8), .val (.int i9), .val (.int i10), .val (.int i11), .val (.int (f3_0 i11)), .val (.int (i5 &&& (3 : Int32))), .val (.int (((i5.toUInt32 >>> ((2 : Int32) &&& 31).toUInt32).toInt32).toInt8.toInt32)), .unset] [(.int (((i5.toUInt32 >>> ((2 : Int32) &&& 31).toUInt32).toInt32).toInt8.toInt32)), (.int (6 : Int32)), (.ref b19), (.ref b19)]))
  obtain ⟨ca26, Ar26, Sz26, Ht26⟩ := id V25
  have hin26 : ¬ ((6 : Int32) < 0 ∨ ca26.slots.size ≤ ((6 : Int32)).toNatClampNeg) := by rw [Sz26]; exact (by decide)
  obtain ⟨T26, h26, X26, e26, W26, st26⟩ := stB X25 hx hZ e25 Ar26 (j := (6 : Int32)) hin26 (g := (mkF m 205 #[.val (.int i0), .val (.int i1), .val (.int i2), .val (.int i3), .val (.int i4), .val (.int i5), .val (.ref o6), .val (.int i7), .val (.int i8), .val (.int i9), .val (.int i10), .val (.int i11), .val (.int (f3_0 i11)), .val (.int (i5 &&& (3 : Int32))), .val (.int (((i5.toUInt32 >>> ((2 : Int32) &&& 31).toUInt32).toInt32).toInt8.toInt32)), .unset] [(.int (((i5.toUInt32 >>> ((2 : Int32) &&& 31).toUInt32).toInt32).toInt8.toInt32)), (.int (6 : Int32)), (.ref b19), (.ref b19)])) rfl rfl (hb hby at_205)
  have V26 : own_AF Z h26 b19 .byte 8 (fun i => if i = 6 then (nar .byte (((i5.toUInt32 >>> ((2 : Int32) &&& 31).toUInt32).toInt32).toInt8.toInt32)) else gf25 i) := own_AFset Ar26 Sz26 Ht26 W26
  obtain ⟨gf26, hgf26⟩ : ∃ g' : Nat → Int32, g' = (fun i => if i = 6 then (nar .byte (((i5.toUInt32 >>> ((2 : Int32) &&& 31).toUInt32).toInt32).toInt8.toInt32)) else gf25 i) := ⟨_, rfl⟩
  rw [← hgf26] at V26
  have N26 := Fr.snoc X26 N25 fr19
  have Z026 : n0 ≤ h26.size := Nat.le_trans Z025 (Nat.le_of_eq W26.size.symm)
  have V26_o6 := own_AFoth V25_o6 W26 neo6_19
  refine own_step st26 ?_
  show own_Fin p e below s Q 16 128 (T26.setTop (mkF m 206 #[.val (.int i0), .val (.int i1), .val (.int i2), .val (.int i3), .val (.int i4), .val (.int i5), .val (.ref o6), .val (.int i7), .val (.int i8), .val (.int i9), .val (.int i10), .val (.int i11), .val (.int (f3_0 i11)), .val (.int (i5 &&& (3 : Int32))), .val (.int (((i5.toUInt32 >>> ((2 : Int32) &&& 31).toUInt32).toInt32).toInt8.toInt32)), .unset] [(.ref b19)]))
  refine own_step (fun t k => XS.dup X26.here hx rfl (hb hby at_206) rfl rfl k) ?_
  show own_Fin p e below s Q 16 128 (T26.setTop (mkF m 207 #[.val (.int i0), .val (.int i1), .val (.int i2), .val (.int i3), .val (.int i4), .val (.int i5), .val (.ref o6), .val (.int i7), .val (.int i8), .val (.int i9), .val (.int i10), .val (.int i11), .val (.int (f3_0 i11)), .val (.int (i5 &&& (3 : Int32))), .val (.int (((i5.toUInt32 >>> ((2 : Int32) &&& 31).toUInt32).toInt32).toInt8.toInt32)), .unset] [(.ref b19), (.ref b19)]))
  refine own_step (fun t k => XS.bipush X26.here hx rfl (hb hby at_207) k) ?_
  show own_Fin p e below s Q 16 128 (T26.setTop (mkF m 209 #[.val (.int i0), .val (.int i1), .val (.int i2), .val (.int i3), .val (.int i4), .val (.int i5), .val (.ref o6), .val (.int i7), .val (.int i8), .val (.int i9), .val (.int i10), .val (.int i11), .val (.int (f3_0 i11)), .val (.int (i5 &&& (3 : Int32))), .val (.int (((i5.toUInt32 >>> ((2 : Int32) &&& 31).toUInt32).toInt32).toInt8.toInt32)), .unset] [(.int (7 : Int32)), (.ref b19), (.ref b19)]))
  refine own_step (fun t k => XS.iload X26.here hx rfl (hb hby at_209) rfl  k) ?_
  show own_Fin p e below s Q 16 128 (T26.setTop (mkF m 211 #[.val (.int i0), .val (.int i1), .val (.int i2), .val (.int i3), .val (.int i4), .val (.int i5), .val (.ref o6), .val (.int i7), .val (.int i8), .val (.int i9), .val (.int i10), .val (.int i11), .val (.int (f3_0 i11)), .val (.int (i5 &&& (3 : Int32))), .val (.int (((i5.toUInt32 >>> ((2 : Int32) &&& 31).toUInt32).toInt32).toInt8.toInt32)), .unset] [(.int (((i5.toUInt32 >>> ((2 : Int32) &&& 31).toUInt32).toInt32).toInt8.toInt32)), (.int (7 : Int32)), (.ref b19), (.ref b19)]))
  obtain ⟨ca27, Ar27, Sz27, Ht27⟩ := id V26
  have hin27 : ¬ ((7 : Int32) < 0 ∨ ca27.slots.size ≤ ((7 : Int32)).toNatClampNeg) := by rw [Sz27]; exact (by decide)
  obtain ⟨T27, h27, X27, e27, W27, st27⟩ := stB X26 hx hZ e26 Ar27 (j := (7 : Int32)) hin27 (g := (mkF m 211 #[.val (.int i0), .val (.int i1), .val (.int i2), .val (.int i3), .val (.int i4), .val (.int i5), .val (.ref o6), .val (.int i7), .val (.int i8), .val (.int i9), .val (.int i10), .val (.int i11), .val (.int (f3_0 i11)), .val (.int (i5 &&& (3 : Int32))), .val (.int (((i5.toUInt32 >>> ((2 : Int32) &&& 31).toUInt32).toInt32).toInt8.toInt32)), .unset] [(.int (((i5.toUInt32 >>> ((2 : Int32) &&& 31).toUInt32).toInt32).toInt8.toInt32)), (.int (7 : Int32)), (.ref b19), (.ref b19)])) rfl rfl (hb hby at_211)
  have V27 : own_AF Z h27 b19 .byte 8 (fun i => if i = 7 then (nar .byte (((i5.toUInt32 >>> ((2 : Int32) &&& 31).toUInt32).toInt32).toInt8.toInt32)) else gf26 i) := own_AFset Ar27 Sz27 Ht27 W27
  obtain ⟨gf27, hgf27⟩ : ∃ g' : Nat → Int32, g' = (fun i => if i = 7 then (nar .byte (((i5.toUInt32 >>> ((2 : Int32) &&& 31).toUInt32).toInt32).toInt8.toInt32)) else gf26 i) := ⟨_, rfl⟩
  rw [← hgf27] at V27
  have N27 := Fr.snoc X27 N26 fr19
  have Z027 : n0 ≤ h27.size := Nat.le_trans Z026 (Nat.le_of_eq W27.size.symm)
  have V27_o6 := own_AFoth V26_o6 W27 neo6_19
  refine own_step st27 ?_
  show own_Fin p e below s Q 16 128 (T27.setTop (mkF m 212 #[.val (.int i0), .val (.int i1), .val (.int i2), .val (.int i3), .val (.int i4), .val (.int i5), .val (.ref o6), .val (.int i7), .val (.int i8), .val (.int i9), .val (.int i10), .val (.int i11), .val (.int (f3_0 i11)), .val (.int (i5 &&& (3 : Int32))), .val (.int (((i5.toUInt32 >>> ((2 : Int32) &&& 31).toUInt32).toInt32).toInt8.toInt32)), .unset] [(.ref b19)]))
  refine own_step (fun t k => XS.astore X27.here hx rfl (hb hby at_212) rfl rfl (l' := #[.val (.int i0), .val (.int i1), .val (.int i2), .val (.int i3), .val (.int i4), .val (.int i5), .val (.ref o6), .val (.int i7), .val (.int i8), .val (.int i9), .val (.int i10), .val (.int i11), .val (.int (f3_0 i11)), .val (.int (i5 &&& (3 : Int32))), .val (.int (((i5.toUInt32 >>> ((2 : Int32) &&& 31).toUInt32).toInt32).toInt8.toInt32)), .val (.ref b19)]) rfl k) ?_
  show own_Fin p e below s Q 16 128 (T27.setTop (mkF m 214 #[.val (.int i0), .val (.int i1), .val (.int i2), .val (.int i3), .val (.int i4), .val (.int i5), .val (.ref o6), .val (.int i7), .val (.int i8), .val (.int i9), .val (.int i10), .val (.int i11), .val (.int (f3_0 i11)), .val (.int (i5 &&& (3 : Int32))), .val (.int (((i5.toUInt32 >>> ((2 : Int32) &&& 31).toUInt32).toInt32).toInt8.toInt32)), .val (.ref b19)] []))
  refine own_step (fun t k => XS.aload X27.here hx rfl (hb hby at_214) rfl rfl k) ?_
  show own_Fin p e below s Q 16 128 (T27.setTop (mkF m 216 #[.val (.int i0), .val (.int i1), .val (.int i2), .val (.int i3), .val (.int i4), .val (.int i5), .val (.ref o6), .val (.int i7), .val (.int i8), .val (.int i9), .val (.int i10), .val (.int i11), .val (.int (f3_0 i11)), .val (.int (i5 &&& (3 : Int32))), .val (.int (((i5.toUInt32 >>> ((2 : Int32) &&& 31).toUInt32).toInt32).toInt8.toInt32)), .val (.ref b19)] [(.ref b19)]))
  refine own_step (fun t k => XS.iload X27.here hx rfl (hb hby at_216) rfl  k) ?_
  show own_Fin p e below s Q 16 128 (T27.setTop (mkF m 218 #[.val (.int i0), .val (.int i1), .val (.int i2), .val (.int i3), .val (.int i4), .val (.int i5), .val (.ref o6), .val (.int i7), .val (.int i8), .val (.int i9), .val (.int i10), .val (.int i11), .val (.int (f3_0 i11)), .val (.int (i5 &&& (3 : Int32))), .val (.int (((i5.toUInt32 >>> ((2 : Int32) &&& 31).toUInt32).toInt32).toInt8.toInt32)), .val (.ref b19)] [(.int (i5 &&& (3 : Int32))), (.ref b19)]))
  refine own_step (fun t k => XS.aload X27.here hx rfl (hb hby at_218) rfl rfl k) ?_
  show own_Fin p e below s Q 16 128 (T27.setTop (mkF m 220 #[.val (.int i0), .val (.int i1), .val (.int i2), .val (.int i3), .val (.int i4), .val (.int i5), .val (.ref o6), .val (.int i7), .val (.int i8), .val (.int i9), .val (.int i10), .val (.int i11), .val (.int (f3_0 i11)), .val (.int (i5 &&& (3 : Int32))), .val (.int (((i5.toUInt32 >>> ((2 : Int32) &&& 31).toUInt32).toInt32).toInt8.toInt32)), .val (.ref b19)] [(.ref o6), (.int (i5 &&& (3 : Int32))), (.ref b19)]))
  refine own_step (fun t k => XS.iconst X27.here hx rfl (hb hby at_220) k) ?_
  show own_Fin p e below s Q 16 128 (T27.setTop (mkF m 221 #[.val (.int i0), .val (.int i1), .val (.int i2), .val (.int i3), .val (.int i4), .val (.int i5), .val (.ref o6), .val (.int i7), .val (.int i8), .val (.int i9), .val (.int i10), .val (.int i11), .val (.int (f3_0 i11)), .val (.int (i5 &&& (3 : Int32))), .val (.int (((i5.toUInt32 >>> ((2 : Int32) &&& 31).toUInt32).toInt32).toInt8.toInt32)), .val (.ref b19)] [(.int (0 : Int32)), (.ref o6), (.int (i5 &&& (3 : Int32))), (.ref b19)]))
  obtain ⟨ca221, Ar221, Sz221, Ht221⟩ := id V27_o6
  have hin221 : ¬ ((0 : Int32) < 0 ∨ ca221.slots.size ≤ ((0 : Int32)).toNatClampNeg) := by rw [Sz221]; exact (by decide)
  refine own_step (X27.baloadBytes hx (j := (0 : Int32)) (v := (.int (g6 ((0 : Int32)).toNatClampNeg))) (by rw [e27]; exact Ar221.1) (State.isArrayOf_alike hZ.alike Ar221.2.1) Ar221.2.2 hin221 (Ht221 _ (by have hq := Nat.lt_of_not_le (fun y => hin221 (Or.inr y)); rw [Sz221] at hq; exact hq)) (g := (mkF m 221 #[.val (.int i0), .val (.int i1), .val (.int i2), .val (.int i3), .val (.int i4), .val (.int i5), .val (.ref o6), .val (.int i7), .val (.int i8), .val (.int i9), .val (.int i10), .val (.int i11), .val (.int (f3_0 i11)), .val (.int (i5 &&& (3 : Int32))), .val (.int (((i5.toUInt32 >>> ((2 : Int32) &&& 31).toUInt32).toInt32).toInt8.toInt32)), .val (.ref b19)] [(.int (0 : Int32)), (.ref o6), (.int (i5 &&& (3 : Int32))), (.ref b19)])) rfl rfl (hb hby at_221)) ?_
  show own_Fin p e below s Q 16 128 (T27.setTop (mkF m 222 #[.val (.int i0), .val (.int i1), .val (.int i2), .val (.int i3), .val (.int i4), .val (.int i5), .val (.ref o6), .val (.int i7), .val (.int i8), .val (.int i9), .val (.int i10), .val (.int i11), .val (.int (f3_0 i11)), .val (.int (i5 &&& (3 : Int32))), .val (.int (((i5.toUInt32 >>> ((2 : Int32) &&& 31).toUInt32).toInt32).toInt8.toInt32)), .val (.ref b19)] [(.int (g6 ((0 : Int32)).toNatClampNeg)), (.int (i5 &&& (3 : Int32))), (.ref b19)]))
  obtain ⟨ca28, Ar28, Sz28, Ht28⟩ := id V27
  have hin28 : ¬ ((i5 &&& (3 : Int32)) < 0 ∨ ca28.slots.size ≤ ((i5 &&& (3 : Int32))).toNatClampNeg) := by rw [Sz28]; exact own_i0 i5
  obtain ⟨T28, h28, X28, e28, W28, st28⟩ := stB X27 hx hZ e27 Ar28 (j := (i5 &&& (3 : Int32))) hin28 (g := (mkF m 222 #[.val (.int i0), .val (.int i1), .val (.int i2), .val (.int i3), .val (.int i4), .val (.int i5), .val (.ref o6), .val (.int i7), .val (.int i8), .val (.int i9), .val (.int i10), .val (.int i11), .val (.int (f3_0 i11)), .val (.int (i5 &&& (3 : Int32))), .val (.int (((i5.toUInt32 >>> ((2 : Int32) &&& 31).toUInt32).toInt32).toInt8.toInt32)), .val (.ref b19)] [(.int (g6 ((0 : Int32)).toNatClampNeg)), (.int (i5 &&& (3 : Int32))), (.ref b19)])) rfl rfl (hb hby at_222)
  have V28 : own_AF Z h28 b19 .byte 8 (fun i => if i = ((i5 &&& (3 : Int32))).toNatClampNeg then (nar .byte (g6 ((0 : Int32)).toNatClampNeg)) else gf27 i) := own_AFset Ar28 Sz28 Ht28 W28
  obtain ⟨gf28, hgf28⟩ : ∃ g' : Nat → Int32, g' = (fun i => if i = ((i5 &&& (3 : Int32))).toNatClampNeg then (nar .byte (g6 ((0 : Int32)).toNatClampNeg)) else gf27 i) := ⟨_, rfl⟩
  rw [← hgf28] at V28
  have N28 := Fr.snoc X28 N27 fr19
  have Z028 : n0 ≤ h28.size := Nat.le_trans Z027 (Nat.le_of_eq W28.size.symm)
  have V28_o6 := own_AFoth V27_o6 W28 neo6_19
  refine own_step st28 ?_
  show own_Fin p e below s Q 16 128 (T28.setTop (mkF m 223 #[.val (.int i0), .val (.int i1), .val (.int i2), .val (.int i3), .val (.int i4), .val (.int i5), .val (.ref o6), .val (.int i7), .val (.int i8), .val (.int i9), .val (.int i10), .val (.int i11), .val (.int (f3_0 i11)), .val (.int (i5 &&& (3 : Int32))), .val (.int (((i5.toUInt32 >>> ((2 : Int32) &&& 31).toUInt32).toInt32).toInt8.toInt32)), .val (.ref b19)] []))
  refine own_step (fun t k => XS.aload X28.here hx rfl (hb hby at_223) rfl rfl k) ?_
  show own_Fin p e below s Q 16 128 (T28.setTop (mkF m 225 #[.val (.int i0), .val (.int i1), .val (.int i2), .val (.int i3), .val (.int i4), .val (.int i5), .val (.ref o6), .val (.int i7), .val (.int i8), .val (.int i9), .val (.int i10), .val (.int i11), .val (.int (f3_0 i11)), .val (.int (i5 &&& (3 : Int32))), .val (.int (((i5.toUInt32 >>> ((2 : Int32) &&& 31).toUInt32).toInt32).toInt8.toInt32)), .val (.ref b19)] [(.ref b19)]))
  refine own_step (fun t k => XS.iload X28.here hx rfl (hb hby at_225) rfl  k) ?_
  show own_Fin p e below s Q 16 128 (T28.setTop (mkF m 227 #[.val (.int i0), .val (.int i1), .val (.int i2), .val (.int i3), .val (.int i4), .val (.int i5), .val (.ref o6), .val (.int i7), .val (.int i8), .val (.int i9), .val (.int i10), .val (.int i11), .val (.int (f3_0 i11)), .val (.int (i5 &&& (3 : Int32))), .val (.int (((i5.toUInt32 >>> ((2 : Int32) &&& 31).toUInt32).toInt32).toInt8.toInt32)), .val (.ref b19)] [(.int (i5 &&& (3 : Int32))), (.ref b19)]))
  refine own_step (fun t k => XS.iconst X28.here hx rfl (hb hby at_227) k) ?_
  show own_Fin p e below s Q 16 128 (T28.setTop (mkF m 228 #[.val (.int i0), .val (.int i1), .val (.int i2), .val (.int i3), .val (.int i4), .val (.int i5), .val (.ref o6), .val (.int i7), .val (.int i8), .val (.int i9), .val (.int i10), .val (.int i11), .val (.int (f3_0 i11)), .val (.int (i5 &&& (3 : Int32))), .val (.int (((i5.toUInt32 >>> ((2 : Int32) &&& 31).toUInt32).toInt32).toInt8.toInt32)), .val (.ref b19)] [(.int (1 : Int32)), (.int (i5 &&& (3 : Int32))), (.ref b19)]))
  refine own_step (fun t k => XS.iadd X28.here hx rfl (hb hby at_228) rfl k) ?_
  show own_Fin p e below s Q 16 128 (T28.setTop (mkF m 229 #[.val (.int i0), .val (.int i1), .val (.int i2), .val (.int i3), .val (.int i4), .val (.int i5), .val (.ref o6), .val (.int i7), .val (.int i8), .val (.int i9), .val (.int i10), .val (.int i11), .val (.int (f3_0 i11)), .val (.int (i5 &&& (3 : Int32))), .val (.int (((i5.toUInt32 >>> ((2 : Int32) &&& 31).toUInt32).toInt32).toInt8.toInt32)), .val (.ref b19)] [(.int ((i5 &&& (3 : Int32)) + (1 : Int32))), (.ref b19)]))
  refine own_step (fun t k => XS.aload X28.here hx rfl (hb hby at_229) rfl rfl k) ?_
  show own_Fin p e below s Q 16 128 (T28.setTop (mkF m 231 #[.val (.int i0), .val (.int i1), .val (.int i2), .val (.int i3), .val (.int i4), .val (.int i5), .val (.ref o6), .val (.int i7), .val (.int i8), .val (.int i9), .val (.int i10), .val (.int i11), .val (.int (f3_0 i11)), .val (.int (i5 &&& (3 : Int32))), .val (.int (((i5.toUInt32 >>> ((2 : Int32) &&& 31).toUInt32).toInt32).toInt8.toInt32)), .val (.ref b19)] [(.ref o6), (.int ((i5 &&& (3 : Int32)) + (1 : Int32))), (.ref b19)]))
  refine own_step (fun t k => XS.iconst X28.here hx rfl (hb hby at_231) k) ?_
  show own_Fin p e below s Q 16 128 (T28.setTop (mkF m 232 #[.val (.int i0), .val (.int i1), .val (.int i2), .val (.int i3), .val (.int i4), .val (.int i5), .val (.ref o6), .val (.int i7), .val (.int i8), .val (.int i9), .val (.int i10), .val (.int i11), .val (.int (f3_0 i11)), .val (.int (i5 &&& (3 : Int32))), .val (.int (((i5.toUInt32 >>> ((2 : Int32) &&& 31).toUInt32).toInt32).toInt8.toInt32)), .val (.ref b19)] [(.int (1 : Int32)), (.ref o6), (.int ((i5 &&& (3 : Int32)) + (1 : Int32))), (.ref b19)]))
  obtain ⟨ca232, Ar232, Sz232, Ht232⟩ := id V28_o6
  have hin232 : ¬ ((1 : Int32) < 0 ∨ ca232.slots.size ≤ ((1 : Int32)).toNatClampNeg) := by rw [Sz232]; exact (by decide)
  refine own_step (X28.baloadBytes hx (j := (1 : Int32)) (v := (.int (g6 ((1 : Int32)).toNatClampNeg))) (by rw [e28]; exact Ar232.1) (State.isArrayOf_alike hZ.alike Ar232.2.1) Ar232.2.2 hin232 (Ht232 _ (by have hq := Nat.lt_of_not_le (fun y => hin232 (Or.inr y)); rw [Sz232] at hq; exact hq)) (g := (mkF m 232 #[.val (.int i0), .val (.int i1), .val (.int i2), .val (.int i3), .val (.int i4), .val (.int i5), .val (.ref o6), .val (.int i7), .val (.int i8), .val (.int i9), .val (.int i10), .val (.int i11), .val (.int (f3_0 i11)), .val (.int (i5 &&& (3 : Int32))), .val (.int (((i5.toUInt32 >>> ((2 : Int32) &&& 31).toUInt32).toInt32).toInt8.toInt32)), .val (.ref b19)] [(.int (1 : Int32)), (.ref o6), (.int ((i5 &&& (3 : Int32)) + (1 : Int32))), (.ref b19)])) rfl rfl (hb hby at_232)) ?_
  show own_Fin p e below s Q 16 128 (T28.setTop (mkF m 233 #[.val (.int i0), .val (.int i1), .val (.int i2), .val (.int i3), .val (.int i4), .val (.int i5), .val (.ref o6), .val (.int i7), .val (.int i8), .val (.int i9), .val (.int i10), .val (.int i11), .val (.int (f3_0 i11)), .val (.int (i5 &&& (3 : Int32))), .val (.int (((i5.toUInt32 >>> ((2 : Int32) &&& 31).toUInt32).toInt32).toInt8.toInt32)), .val (.ref b19)] [(.int (g6 ((1 : Int32)).toNatClampNeg)), (.int ((i5 &&& (3 : Int32)) + (1 : Int32))), (.ref b19)]))
  obtain ⟨ca29, Ar29, Sz29, Ht29⟩ := id V28
  have hin29 : ¬ (((i5 &&& (3 : Int32)) + (1 : Int32)) < 0 ∨ ca29.slots.size ≤ (((i5 &&& (3 : Int32)) + (1 : Int32))).toNatClampNeg) := by rw [Sz29]; exact own_i1 i5
  obtain ⟨T29, h29, X29, e29, W29, st29⟩ := stB X28 hx hZ e28 Ar29 (j := ((i5 &&& (3 : Int32)) + (1 : Int32))) hin29 (g := (mkF m 233 #[.val (.int i0), .val (.int i1), .val (.int i2), .val (.int i3), .val (.int i4), .val (.int i5), .val (.ref o6), .val (.int i7), .val (.int i8), .val (.int i9), .val (.int i10), .val (.int i11), .val (.int (f3_0 i11)), .val (.int (i5 &&& (3 : Int32))), .val (.int (((i5.toUInt32 >>> ((2 : Int32) &&& 31).toUInt32).toInt32).toInt8.toInt32)), .val (.ref b19)] [(.int (g6 ((1 : Int32)).toNatClampNeg)), (.int ((i5 &&& (3 : Int32)) + (1 : Int32))), (.ref b19)])) rfl rfl (hb hby at_233)
  have V29 : own_AF Z h29 b19 .byte 8 (fun i => if i = (((i5 &&& (3 : Int32)) + (1 : Int32))).toNatClampNeg then (nar .byte (g6 ((1 : Int32)).toNatClampNeg)) else gf28 i) := own_AFset Ar29 Sz29 Ht29 W29
  obtain ⟨gf29, hgf29⟩ : ∃ g' : Nat → Int32, g' = (fun i => if i = (((i5 &&& (3 : Int32)) + (1 : Int32))).toNatClampNeg then (nar .byte (g6 ((1 : Int32)).toNatClampNeg)) else gf28 i) := ⟨_, rfl⟩
  rw [← hgf29] at V29
  have N29 := Fr.snoc X29 N28 fr19
  have Z029 : n0 ≤ h29.size := Nat.le_trans Z028 (Nat.le_of_eq W29.size.symm)
  have V29_o6 := own_AFoth V28_o6 W29 neo6_19
  refine own_step st29 ?_
  show own_Fin p e below s Q 16 128 (T29.setTop (mkF m 234 #[.val (.int i0), .val (.int i1), .val (.int i2), .val (.int i3), .val (.int i4), .val (.int i5), .val (.ref o6), .val (.int i7), .val (.int i8), .val (.int i9), .val (.int i10), .val (.int i11), .val (.int (f3_0 i11)), .val (.int (i5 &&& (3 : Int32))), .val (.int (((i5.toUInt32 >>> ((2 : Int32) &&& 31).toUInt32).toInt32).toInt8.toInt32)), .val (.ref b19)] []))
  refine own_step (fun t k => XS.aload X29.here hx rfl (hb hby at_234) rfl rfl k) ?_
  show own_Fin p e below s Q 16 128 (T29.setTop (mkF m 236 #[.val (.int i0), .val (.int i1), .val (.int i2), .val (.int i3), .val (.int i4), .val (.int i5), .val (.ref o6), .val (.int i7), .val (.int i8), .val (.int i9), .val (.int i10), .val (.int i11), .val (.int (f3_0 i11)), .val (.int (i5 &&& (3 : Int32))), .val (.int (((i5.toUInt32 >>> ((2 : Int32) &&& 31).toUInt32).toInt32).toInt8.toInt32)), .val (.ref b19)] [(.ref b19)]))
  refine own_step (fun t k => XS.iload X29.here hx rfl (hb hby at_236) rfl  k) ?_
  show own_Fin p e below s Q 16 128 (T29.setTop (mkF m 238 #[.val (.int i0), .val (.int i1), .val (.int i2), .val (.int i3), .val (.int i4), .val (.int i5), .val (.ref o6), .val (.int i7), .val (.int i8), .val (.int i9), .val (.int i10), .val (.int i11), .val (.int (f3_0 i11)), .val (.int (i5 &&& (3 : Int32))), .val (.int (((i5.toUInt32 >>> ((2 : Int32) &&& 31).toUInt32).toInt32).toInt8.toInt32)), .val (.ref b19)] [(.int (i5 &&& (3 : Int32))), (.ref b19)]))
  refine own_step (fun t k => XS.iconst X29.here hx rfl (hb hby at_238) k) ?_
  show own_Fin p e below s Q 16 128 (T29.setTop (mkF m 239 #[.val (.int i0), .val (.int i1), .val (.int i2), .val (.int i3), .val (.int i4), .val (.int i5), .val (.ref o6), .val (.int i7), .val (.int i8), .val (.int i9), .val (.int i10), .val (.int i11), .val (.int (f3_0 i11)), .val (.int (i5 &&& (3 : Int32))), .val (.int (((i5.toUInt32 >>> ((2 : Int32) &&& 31).toUInt32).toInt32).toInt8.toInt32)), .val (.ref b19)] [(.int (2 : Int32)), (.int (i5 &&& (3 : Int32))), (.ref b19)]))
  refine own_step (fun t k => XS.iadd X29.here hx rfl (hb hby at_239) rfl k) ?_
  show own_Fin p e below s Q 16 128 (T29.setTop (mkF m 240 #[.val (.int i0), .val (.int i1), .val (.int i2), .val (.int i3), .val (.int i4), .val (.int i5), .val (.ref o6), .val (.int i7), .val (.int i8), .val (.int i9), .val (.int i10), .val (.int i11), .val (.int (f3_0 i11)), .val (.int (i5 &&& (3 : Int32))), .val (.int (((i5.toUInt32 >>> ((2 : Int32) &&& 31).toUInt32).toInt32).toInt8.toInt32)), .val (.ref b19)] [(.int ((i5 &&& (3 : Int32)) + (2 : Int32))), (.ref b19)]))
  refine own_step (fun t k => XS.aload X29.here hx rfl (hb hby at_240) rfl rfl k) ?_
  show own_Fin p e below s Q 16 128 (T29.setTop (mkF m 242 #[.val (.int i0), .val (.int i1), .val (.int i2), .val (.int i3), .val (.int i4), .val (.int i5), .val (.ref o6), .val (.int i7), .val (.int i8), .val (.int i9), .val (.int i10), .val (.int i11), .val (.int (f3_0 i11)), .val (.int (i5 &&& (3 : Int32))), .val (.int (((i5.toUInt32 >>> ((2 : Int32) &&& 31).toUInt32).toInt32).toInt8.toInt32)), .val (.ref b19)] [(.ref o6), (.int ((i5 &&& (3 : Int32)) + (2 : Int32))), (.ref b19)]))
  refine own_step (fun t k => XS.iconst X29.here hx rfl (hb hby at_242) k) ?_
  show own_Fin p e below s Q 16 128 (T29.setTop (mkF m 243 #[.val (.int i0), .val (.int i1), .val (.int i2), .val (.int i3), .val (.int i4), .val (.int i5), .val (.ref o6), .val (.int i7), .val (.int i8), .val (.int i9), .val (.int i10), .val (.int i11), .val (.int (f3_0 i11)), .val (.int (i5 &&& (3 : Int32))), .val (.int (((i5.toUInt32 >>> ((2 : Int32) &&& 31).toUInt32).toInt32).toInt8.toInt32)), .val (.ref b19)] [(.int (2 : Int32)), (.ref o6), (.int ((i5 &&& (3 : Int32)) + (2 : Int32))), (.ref b19)]))
  obtain ⟨ca243, Ar243, Sz243, Ht243⟩ := id V29_o6
  have hin243 : ¬ ((2 : Int32) < 0 ∨ ca243.slots.size ≤ ((2 : Int32)).toNatClampNeg) := by rw [Sz243]; exact (by decide)
  refine own_step (X29.baloadBytes hx (j := (2 : Int32)) (v := (.int (g6 ((2 : Int32)).toNatClampNeg))) (by rw [e29]; exact Ar243.1) (State.isArrayOf_alike hZ.alike Ar243.2.1) Ar243.2.2 hin243 (Ht243 _ (by have hq := Nat.lt_of_not_le (fun y => hin243 (Or.inr y)); rw [Sz243] at hq; exact hq)) (g := (mkF m 243 #[.val (.int i0), .val (.int i1), .val (.int i2), .val (.int i3), .val (.int i4), .val (.int i5), .val (.ref o6), .val (.int i7), .val (.int i8), .val (.int i9), .val (.int i10), .val (.int i11), .val (.int (f3_0 i11)), .val (.int (i5 &&& (3 : Int32))), .val (.int (((i5.toUInt32 >>> ((2 : Int32) &&& 31).toUInt32).toInt32).toInt8.toInt32)), .val (.ref b19)] [(.int (2 : Int32)), (.ref o6), (.int ((i5 &&& (3 : Int32)) + (2 : Int32))), (.ref b19)])) rfl rfl (hb hby at_243)) ?_
  show own_Fin p e below s Q 16 128 (T29.setTop (mkF m 244 #[.val (.int i0), .val (.int i1), .val (.int i2), .val (.int i3), .val (.int i4), .val (.int i5), .val (.ref o6), .val (.int i7), .val (.int i8), .val (.int i9), .val (.int i10), .val (.int i11), .val (.int (f3_0 i11)), .val (.int (i5 &&& (3 : Int32))), .val (.int (((i5.toUInt32 >>> ((2 : Int32) &&& 31).toUInt32).toInt32).toInt8.toInt32)), .val (.ref b19)] [(.int (g6 ((2 : Int32)).toNatClampNeg)), (.int ((i5 &&& (3 : Int32)) + (2 : Int32))), (.ref b19)]))
  obtain ⟨ca30, Ar30, Sz30, Ht30⟩ := id V29
  have hin30 : ¬ (((i5 &&& (3 : Int32)) + (2 : Int32)) < 0 ∨ ca30.slots.size ≤ (((i5 &&& (3 : Int32)) + (2 : Int32))).toNatClampNeg) := by rw [Sz30]; exact own_i2 i5
  obtain ⟨T30, h30, X30, e30, W30, st30⟩ := stB X29 hx hZ e29 Ar30 (j := ((i5 &&& (3 : Int32)) + (2 : Int32))) hin30 (g := (mkF m 244 #[.val (.int i0), .val (.int i1), .val (.int i2), .val (.int i3), .val (.int i4), .val (.int i5), .val (.ref o6), .val (.int i7), .val (.int i8), .val (.int i9), .val (.int i10), .val (.int i11), .val (.int (f3_0 i11)), .val (.int (i5 &&& (3 : Int32))), .val (.int (((i5.toUInt32 >>> ((2 : Int32) &&& 31).toUInt32).toInt32).toInt8.toInt32)), .val (.ref b19)] [(.int (g6 ((2 : Int32)).toNatClampNeg)), (.int ((i5 &&& (3 : Int32)) + (2 : Int32))), (.ref b19)])) rfl rfl (hb hby at_244)
  have V30 : own_AF Z h30 b19 .byte 8 (fun i => if i = (((i5 &&& (3 : Int32)) + (2 : Int32))).toNatClampNeg then (nar .byte (g6 ((2 : Int32)).toNatClampNeg)) else gf29 i) := own_AFset Ar30 Sz30 Ht30 W30
  obtain ⟨gf30, hgf30⟩ : ∃ g' : Nat → Int32, g' = (fun i => if i = (((i5 &&& (3 : Int32)) + (2 : Int32))).toNatClampNeg then (nar .byte (g6 ((2 : Int32)).toNatClampNeg)) else gf29 i) := ⟨_, rfl⟩
  rw [← hgf30] at V30
  have N30 := Fr.snoc X30 N29 fr19
  have Z030 : n0 ≤ h30.size := Nat.le_trans Z029 (Nat.le_of_eq W30.size.symm)
  have V30_o6 := own_AFoth V29_o6 W30 neo6_19
  refine own_step st30 ?_
  show own_Fin p e below s Q 16 128 (T30.setTop (mkF m 245 #[.val (.int i0), .val (.int i1), .val (.int i2), .val (.int i3), .val (.int i4), .val (.int i5), .val (.ref o6), .val (.int i7), .val (.int i8), .val (.int i9), .val (.int i10), .val (.int i11), .val (.int (f3_0 i11)), .val (.int (i5 &&& (3 : Int32))), .val (.int (((i5.toUInt32 >>> ((2 : Int32) &&& 31).toUInt32).toInt32).toInt8.toInt32)), .val (.ref b19)] []))
  refine own_step (fun t k => XS.aload X30.here hx rfl (hb hby at_245) rfl rfl k) ?_
  show own_Fin p e below s Q 16 128 (T30.setTop (mkF m 247 #[.val (.int i0), .val (.int i1), .val (.int i2), .val (.int i3), .val (.int i4), .val (.int i5), .val (.ref o6), .val (.int i7), .val (.int i8), .val (.int i9), .val (.int i10), .val (.int i11), .val (.int (f3_0 i11)), .val (.int (i5 &&& (3 : Int32))), .val (.int (((i5.toUInt32 >>> ((2 : Int32) &&& 31).toUInt32).toInt32).toInt8.toInt32)), .val (.ref b19)] [(.ref b19)]))
  refine own_step (fun t k => XS.iload X30.here hx rfl (hb hby at_247) rfl  k) ?_
  show own_Fin p e below s Q 16 128 (T30.setTop (mkF m 249 #[.val (.int i0), .val (.int i1), .val (.int i2), .val (.int i3), .val (.int i4), .val (.int i5), .val (.ref o6), .val (.int i7), .val (.int i8), .val (.int i9), .val (.int i10), .val (.int i11), .val (.int (f3_0 i11)), .val (.int (i5 &&& (3 : Int32))), .val (.int (((i5.toUInt32 >>> ((2 : Int32) &&& 31).toUInt32).toInt32).toInt8.toInt32)), .val (.ref b19)] [(.int (i5 &&& (3 : Int32))), (.ref b19)]))
  refine own_step (fun t k => XS.iconst X30.here hx rfl (hb hby at_249) k) ?_
  show own_Fin p e below s Q 16 128 (T30.setTop (mkF m 250 #[.val (.int i0), .val (.int i1), .val (.int i2), .val (.int i3), .val (.int i4), .val (.int i5), .val (.ref o6), .val (.int i7), .val (.int i8), .val (.int i9), .val (.int i10), .val (.int i11), .val (.int (f3_0 i11)), .val (.int (i5 &&& (3 : Int32))), .val (.int (((i5.toUInt32 >>> ((2 : Int32) &&& 31).toUInt32).toInt32).toInt8.toInt32)), .val (.ref b19)] [(.int (3 : Int32)), (.int (i5 &&& (3 : Int32))), (.ref b19)]))
  refine own_step (fun t k => XS.iadd X30.here hx rfl (hb hby at_250) rfl k) ?_
  show own_Fin p e below s Q 16 128 (T30.setTop (mkF m 251 #[.val (.int i0), .val (.int i1), .val (.int i2), .val (.int i3), .val (.int i4), .val (.int i5), .val (.ref o6), .val (.int i7), .val (.int i8), .val (.int i9), .val (.int i10), .val (.int i11), .val (.int (f3_0 i11)), .val (.int (i5 &&& (3 : Int32))), .val (.int (((i5.toUInt32 >>> ((2 : Int32) &&& 31).toUInt32).toInt32).toInt8.toInt32)), .val (.ref b19)] [(.int ((i5 &&& (3 : Int32)) + (3 : Int32))), (.ref b19)]))
  refine own_step (fun t k => XS.aload X30.here hx rfl (hb hby at_251) rfl rfl k) ?_
  show own_Fin p e below s Q 16 128 (T30.setTop (mkF m 253 #[.val (.int i0), .val (.int i1), .val (.int i2), .val (.int i3), .val (.int i4), .val (.int i5), .val (.ref o6), .val (.int i7), .val (.int i8), .val (.int i9), .val (.int i10), .val (.int i11), .val (.int (f3_0 i11)), .val (.int (i5 &&& (3 : Int32))), .val (.int (((i5.toUInt32 >>> ((2 : Int32) &&& 31).toUInt32).toInt32).toInt8.toInt32)), .val (.ref b19)] [(.ref o6), (.int ((i5 &&& (3 : Int32)) + (3 : Int32))), (.ref b19)]))
  refine own_step (fun t k => XS.iconst X30.here hx rfl (hb hby at_253) k) ?_
  show own_Fin p e below s Q 16 128 (T30.setTop (mkF m 254 #[.val (.int i0), .val (.int i1), .val (.int i2), .val (.int i3), .val (.int i4), .val (.int i5), .val (.ref o6), .val (.int i7), .val (.int i8), .val (.int i9), .val (.int i10), .val (.int i11), .val (.int (f3_0 i11)), .val (.int (i5 &&& (3 : Int32))), .val (.int (((i5.toUInt32 >>> ((2 : Int32) &&& 31).toUInt32).toInt32).toInt8.toInt32)), .val (.ref b19)] [(.int (3 : Int32)), (.ref o6), (.int ((i5 &&& (3 : Int32)) + (3 : Int32))), (.ref b19)]))
  obtain ⟨ca254, Ar254, Sz254, Ht254⟩ := id V30_o6
  have hin254 : ¬ ((3 : Int32) < 0 ∨ ca254.slots.size ≤ ((3 : Int32)).toNatClampNeg) := by rw [Sz254]; exact (by decide)
  refine own_step (X30.baloadBytes hx (j := (3 : Int32)) (v := (.int (g6 ((3 : Int32)).toNatClampNeg))) (by rw [e30]; exact Ar254.1) (State.isArrayOf_alike hZ.alike Ar254.2.1) Ar254.2.2 hin254 (Ht254 _ (by have hq := Nat.lt_of_not_le (fun y => hin254 (Or.inr y)); rw [Sz254] at hq; exact hq)) (g := (mkF m 254 #[.val (.int i0), .val (.int i1), .val (.int i2), .val (.int i3), .val (.int i4), .val (.int i5), .val (.ref o6), .val (.int i7), .val (.int i8), .val (.int i9), .val (.int i10), .val (.int i11), .val (.int (f3_0 i11)), .val (.int (i5 &&& (3 : Int32))), .val (.int (((i5.toUInt32 >>> ((2 : Int32) &&& 31).toUInt32).toInt32).toInt8.toInt32)), .val (.ref b19)] [(.int (3 : Int32)), (.ref o6), (.int ((i5 &&& (3 : Int32)) + (3 : Int32))), (.ref b19)])) rfl rfl (hb hby at_254)) ?_
  show own_Fin p e below s Q 16 128 (T30.setTop (mkF m 255 #[.val (.int i0), .val (.int i1), .val (.int i2), .val (.int i3), .val (.int i4), .val (.int i5), .val (.ref o6), .val (.int i7), .val (.int i8), .val (.int i9), .val (.int i10), .val (.int i11), .val (.int (f3_0 i11)), .val (.int (i5 &&& (3 : Int32))), .val (.int (((i5.toUInt32 >>> ((2 : Int32) &&& 31).toUInt32).toInt32).toInt8.toInt32)), .val (.ref b19)] [(.int (g6 ((3 : Int32)).toNatClampNeg)), (.int ((i5 &&& (3 : Int32)) + (3 : Int32))), (.ref b19)]))
  obtain ⟨ca31, Ar31, Sz31, Ht31⟩ := id V30
  have hin31 : ¬ (((i5 &&& (3 : Int32)) + (3 : Int32)) < 0 ∨ ca31.slots.size ≤ (((i5 &&& (3 : Int32)) + (3 : Int32))).toNatClampNeg) := by rw [Sz31]; exact own_i3 i5
  obtain ⟨T31, h31, X31, e31, W31, st31⟩ := stB X30 hx hZ e30 Ar31 (j := ((i5 &&& (3 : Int32)) + (3 : Int32))) hin31 (g := (mkF m 255 #[.val (.int i0), .val (.int i1), .val (.int i2), .val (.int i3), .val (.int i4), .val (.int i5), .val (.ref o6), .val (.int i7), .val (.int i8), .val (.int i9), .val (.int i10), .val (.int i11), .val (.int (f3_0 i11)), .val (.int (i5 &&& (3 : Int32))), .val (.int (((i5.toUInt32 >>> ((2 : Int32) &&& 31).toUInt32).toInt32).toInt8.toInt32)), .val (.ref b19)] [(.int (g6 ((3 : Int32)).toNatClampNeg)), (.int ((i5 &&& (3 : Int32)) + (3 : Int32))), (.ref b19)])) rfl rfl (hb hby at_255)
  have V31 : own_AF Z h31 b19 .byte 8 (fun i => if i = (((i5 &&& (3 : Int32)) + (3 : Int32))).toNatClampNeg then (nar .byte (g6 ((3 : Int32)).toNatClampNeg)) else gf30 i) := own_AFset Ar31 Sz31 Ht31 W31
  obtain ⟨gf31, hgf31⟩ : ∃ g' : Nat → Int32, g' = (fun i => if i = (((i5 &&& (3 : Int32)) + (3 : Int32))).toNatClampNeg then (nar .byte (g6 ((3 : Int32)).toNatClampNeg)) else gf30 i) := ⟨_, rfl⟩
  rw [← hgf31] at V31
  have N31 := Fr.snoc X31 N30 fr19
  have Z031 : n0 ≤ h31.size := Nat.le_trans Z030 (Nat.le_of_eq W31.size.symm)
  have V31_o6 := own_AFoth V30_o6 W31 neo6_19
  refine own_step st31 ?_
  show own_Fin p e below s Q 16 128 (T31.setTop (mkF m 256 #[.val (.int i0), .val (.int i1), .val (.int i2), .val (.int i3), .val (.int i4), .val (.int i5), .val (.ref o6), .val (.int i7), .val (.int i8), .val (.int i9), .val (.int i10), .val (.int i11), .val (.int (f3_0 i11)), .val (.int (i5 &&& (3 : Int32))), .val (.int (((i5.toUInt32 >>> ((2 : Int32) &&& 31).toUInt32).toInt32).toInt8.toInt32)), .val (.ref b19)] []))
  refine own_step (fun t k => XS.aload X31.here hx rfl (hb hby at_256) rfl rfl k) ?_
  show own_Fin p e below s Q 16 128 (T31.setTop (mkF m 258 #[.val (.int i0), .val (.int i1), .val (.int i2), .val (.int i3), .val (.int i4), .val (.int i5), .val (.ref o6), .val (.int i7), .val (.int i8), .val (.int i9), .val (.int i10), .val (.int i11), .val (.int (f3_0 i11)), .val (.int (i5 &&& (3 : Int32))), .val (.int (((i5.toUInt32 >>> ((2 : Int32) &&& 31).toUInt32).toInt32).toInt8.toInt32)), .val (.ref b19)] [(.ref o6)]))
  refine own_step (fun t k => XS.iload X31.here hx rfl (hb hby at_258) rfl  k) ?_
  show own_Fin p e below s Q 16 128 (T31.setTop (mkF m 260 #[.val (.int i0), .val (.int i1), .val (.int i2), .val (.int i3), .val (.int i4), .val (.int i5), .val (.ref o6), .val (.int i7), .val (.int i8), .val (.int i9), .val (.int i10), .val (.int i11), .val (.int (f3_0 i11)), .val (.int (i5 &&& (3 : Int32))), .val (.int (((i5.toUInt32 >>> ((2 : Int32) &&& 31).toUInt32).toInt32).toInt8.toInt32)), .val (.ref b19)] [(.int i9), (.ref o6)]))
  refine own_step (fun t k => XS.iload X31.here hx rfl (hb hby at_260) rfl  k) ?_
  show own_Fin p e below s Q 16 128 (T31.setTop (mkF m 262 #[.val (.int i0), .val (.int i1), .val (.int i2), .val (.int i3), .val (.int i4), .val (.int i5), .val (.ref o6), .val (.int i7), .val (.int i8), .val (.int i9), .val (.int i10), .val (.int i11), .val (.int (f3_0 i11)), .val (.int (i5 &&& (3 : Int32))), .val (.int (((i5.toUInt32 >>> ((2 : Int32) &&& 31).toUInt32).toInt32).toInt8.toInt32)), .val (.ref b19)] [(.int i10), (.int i9), (.ref o6)]))
  obtain ⟨_, _, ⟨T32, L32, k32, n32⟩, -, X32, ⟨Lc32, hQ32, l32, y32, z32⟩, st32⟩ := Jvm.LawKit.callS X31 hx (y := (⟨"com/example/nuthatch/nuthatch/NameTable", "hash", "([BII)I"⟩ : MethodName)) hown (mvT hZ (hw _ (List.mem_of_getElem? (i := 15) rfl))) (mvT hZ (hw _ (List.mem_of_getElem? (i := 16) rfl))) (mvT hZ (hw _ (List.mem_of_getElem? (i := 17) rfl))) (mvT hZ (hw _ (List.mem_of_getElem? (i := 18) rfl))) (by decide) (backOf (W := 0) (rm4 l Z a0 hw [] o6 g6 4 i9 i10 h31 n0 V31_o6 (own_pre4 hse)) hZ (hw _ (List.mem_of_getElem? (i := 18) rfl)) (hw _ (List.mem_of_getElem? (i := 17) rfl)) (by decide) (by decide)) (g := (mkF m 262 #[.val (.int i0), .val (.int i1), .val (.int i2), .val (.int i3), .val (.int i4), .val (.int i5), .val (.ref o6), .val (.int i7), .val (.int i8), .val (.int i9), .val (.int i10), .val (.int i11), .val (.int (f3_0 i11)), .val (.int (i5 &&& (3 : Int32))), .val (.int (((i5.toUInt32 >>> ((2 : Int32) &&& 31).toUInt32).toInt32).toInt8.toInt32)), .val (.ref b19)] [(.int i10), (.int i9), (.ref o6)])) rfl (by rw [hml]; rfl) (argsL := [(.ref o6), (.int i9), (.int i10)]) (rest := []) (lenOf pdm_2 rfl) rfl (by show 2 * 0 + _ ≤ _; exact Nat.le_of_eq rfl) (hb hby at_262) (fun _ _ => ⟨rfl, e31, (show cells + 0 + 1 + 0 ≤ 16 from (Nat.le_trans (Nat.add_le_add_right hc 1) (by decide))), (show slots + 0 + 8 + 0 ≤ 128 from (Nat.le_trans (Nat.add_le_add_right hs 8) (by decide)))⟩)
  dsimp only [Pt.U, Pt.locs, Pt.cells, Pt.slots] at X32 l32 y32 z32 st32 hQ32
  have yy32 : k32 = cells + 0 + 1 + 0 := y32
  have zz32 : n32 = slots + 0 + 8 + 0 := z32
  rw [yy32, zz32, l32] at X32
  obtain ⟨rfl, N32q, e32⟩ := hQ32
  have N32 := Fr.app N31 N32q
  refine own_step st32 ?_
  show own_Fin p e below s Q 16 128 (T32.setTop (mkF m 265 #[.val (.int i0), .val (.int i1), .val (.int i2), .val (.int i3), .val (.int i4), .val (.int i5), .val (.ref o6), .val (.int i7), .val (.int i8), .val (.int i9), .val (.int i10), .val (.int i11), .val (.int (f3_0 i11)), .val (.int (i5 &&& (3 : Int32))), .val (.int (((i5.toUInt32 >>> ((2 : Int32) &&& 31).toUInt32).toInt32).toInt8.toInt32)), .val (.ref b19)] [(.int (f4_0 g6 i9 i10))]))
  refine own_step (fun t k => XS.iload X32.here hx rfl (hb hby at_265) rfl  k) ?_
  show own_Fin p e below s Q 16 128 (T32.setTop (mkF m 267 #[.val (.int i0), .val (.int i1), .val (.int i2), .val (.int i3), .val (.int i4), .val (.int i5), .val (.ref o6), .val (.int i7), .val (.int i8), .val (.int i9), .val (.int i10), .val (.int i11), .val (.int (f3_0 i11)), .val (.int (i5 &&& (3 : Int32))), .val (.int (((i5.toUInt32 >>> ((2 : Int32) &&& 31).toUInt32).toInt32).toInt8.toInt32)), .val (.ref b19)] [(.int (f3_0 i11)), (.int (f4_0 g6 i9 i10))]))
  refine own_step (fun t k => XS.icmpNo X32.here hx rfl (hb hby at_267) rfl (teq (own_hash4 _ _ _ _ _ _ _ _ hse hg hh)).2 k) ?_
  show own_Fin p e below s Q 16 128 (T32.setTop (mkF m 270 #[.val (.int i0), .val (.int i1), .val (.int i2), .val (.int i3), .val (.int i4), .val (.int i5), .val (.ref o6), .val (.int i7), .val (.int i8), .val (.int i9), .val (.int i10), .val (.int i11), .val (.int (f3_0 i11)), .val (.int (i5 &&& (3 : Int32))), .val (.int (((i5.toUInt32 >>> ((2 : Int32) &&& 31).toUInt32).toInt32).toInt8.toInt32)), .val (.ref b19)] []))
  refine own_step (fun t k => XS.aload X32.here hx rfl (hb hby at_270) rfl rfl k) ?_
  show own_Fin p e below s Q 16 128 (T32.setTop (mkF m 272 #[.val (.int i0), .val (.int i1), .val (.int i2), .val (.int i3), .val (.int i4), .val (.int i5), .val (.ref o6), .val (.int i7), .val (.int i8), .val (.int i9), .val (.int i10), .val (.int i11), .val (.int (f3_0 i11)), .val (.int (i5 &&& (3 : Int32))), .val (.int (((i5.toUInt32 >>> ((2 : Int32) &&& 31).toUInt32).toInt32).toInt8.toInt32)), .val (.ref b19)] [(.ref b19)]))
  refine own_step (fun t k => XS.iload X32.here hx rfl (hb hby at_272) rfl  k) ?_
  show own_Fin p e below s Q 16 128 (T32.setTop (mkF m 274 #[.val (.int i0), .val (.int i1), .val (.int i2), .val (.int i3), .val (.int i4), .val (.int i5), .val (.ref o6), .val (.int i7), .val (.int i8), .val (.int i9), .val (.int i10), .val (.int i11), .val (.int (f3_0 i11)), .val (.int (i5 &&& (3 : Int32))), .val (.int (((i5.toUInt32 >>> ((2 : Int32) &&& 31).toUInt32).toInt32).toInt8.toInt32)), .val (.ref b19)] [(.int i9), (.ref b19)]))
  refine own_step (fun t k => XS.iload X32.here hx rfl (hb hby at_274) rfl  k) ?_
  show own_Fin p e below s Q 16 128 (T32.setTop (mkF m 276 #[.val (.int i0), .val (.int i1), .val (.int i2), .val (.int i3), .val (.int i4), .val (.int i5), .val (.ref o6), .val (.int i7), .val (.int i8), .val (.int i9), .val (.int i10), .val (.int i11), .val (.int (f3_0 i11)), .val (.int (i5 &&& (3 : Int32))), .val (.int (((i5.toUInt32 >>> ((2 : Int32) &&& 31).toUInt32).toInt32).toInt8.toInt32)), .val (.ref b19)] [(.int (i5 &&& (3 : Int32))), (.int i9), (.ref b19)]))
  refine own_step (fun t k => XS.iadd X32.here hx rfl (hb hby at_276) rfl k) ?_
  show own_Fin p e below s Q 16 128 (T32.setTop (mkF m 277 #[.val (.int i0), .val (.int i1), .val (.int i2), .val (.int i3), .val (.int i4), .val (.int i5), .val (.ref o6), .val (.int i7), .val (.int i8), .val (.int i9), .val (.int i10), .val (.int i11), .val (.int (f3_0 i11)), .val (.int (i5 &&& (3 : Int32))), .val (.int (((i5.toUInt32 >>> ((2 : Int32) &&& 31).toUInt32).toInt32).toInt8.toInt32)), .val (.ref b19)] [(.int (i9 + (i5 &&& (3 : Int32)))), (.ref b19)]))
  refine own_step (fun t k => XS.iload X32.here hx rfl (hb hby at_277) rfl  k) ?_
  show own_Fin p e below s Q 16 128 (T32.setTop (mkF m 279 #[.val (.int i0), .val (.int i1), .val (.int i2), .val (.int i3), .val (.int i4), .val (.int i5), .val (.ref o6), .val (.int i7), .val (.int i8), .val (.int i9), .val (.int i10), .val (.int i11), .val (.int (f3_0 i11)), .val (.int (i5 &&& (3 : Int32))), .val (.int (((i5.toUInt32 >>> ((2 : Int32) &&& 31).toUInt32).toInt32).toInt8.toInt32)), .val (.ref b19)] [(.int i10), (.int (i9 + (i5 &&& (3 : Int32)))), (.ref b19)]))
  refine own_step (fun t k => XS.iload X32.here hx rfl (hb hby at_279) rfl  k) ?_
  show own_Fin p e below s Q 16 128 (T32.setTop (mkF m 281 #[.val (.int i0), .val (.int i1), .val (.int i2), .val (.int i3), .val (.int i4), .val (.int i5), .val (.ref o6), .val (.int i7), .val (.int i8), .val (.int i9), .val (.int i10), .val (.int i11), .val (.int (f3_0 i11)), .val (.int (i5 &&& (3 : Int32))), .val (.int (((i5.toUInt32 >>> ((2 : Int32) &&& 31).toUInt32).toInt32).toInt8.toInt32)), .val (.ref b19)] [(.int (i5 &&& (3 : Int32))), (.int i10), (.int (i9 + (i5 &&& (3 : Int32)))), (.ref b19)]))
  refine own_step (fun t k => XS.iadd X32.here hx rfl (hb hby at_281) rfl k) ?_
  show own_Fin p e below s Q 16 128 (T32.setTop (mkF m 282 #[.val (.int i0), .val (.int i1), .val (.int i2), .val (.int i3), .val (.int i4), .val (.int i5), .val (.ref o6), .val (.int i7), .val (.int i8), .val (.int i9), .val (.int i10), .val (.int i11), .val (.int (f3_0 i11)), .val (.int (i5 &&& (3 : Int32))), .val (.int (((i5.toUInt32 >>> ((2 : Int32) &&& 31).toUInt32).toInt32).toInt8.toInt32)), .val (.ref b19)] [(.int (i10 + (i5 &&& (3 : Int32)))), (.int (i9 + (i5 &&& (3 : Int32)))), (.ref b19)]))
  obtain ⟨_, _, ⟨T33, L33, k33, n33⟩, -, X33, ⟨Lc33, hQ33, l33, y33, z33⟩, st33⟩ := Jvm.LawKit.callS X32 hx (y := (⟨"com/example/nuthatch/nuthatch/NameTable", "hash", "([BII)I"⟩ : MethodName)) hown (mvT hZ (hw _ (List.mem_of_getElem? (i := 15) rfl))) (mvT hZ (hw _ (List.mem_of_getElem? (i := 16) rfl))) (mvT hZ (hw _ (List.mem_of_getElem? (i := 17) rfl))) (mvT hZ (hw _ (List.mem_of_getElem? (i := 18) rfl))) (by decide) (backOf (W := 0) (rm4 l Z a0 hw [] b19 gf31 8 (i9 + (i5 &&& (3 : Int32))) (i10 + (i5 &&& (3 : Int32))) h31 n0 V31 (own_pre8 hse i5)) hZ (hw _ (List.mem_of_getElem? (i := 18) rfl)) (hw _ (List.mem_of_getElem? (i := 17) rfl)) (by decide) (by decide)) (g := (mkF m 282 #[.val (.int i0), .val (.int i1), .val (.int i2), .val (.int i3), .val (.int i4), .val (.int i5), .val (.ref o6), .val (.int i7), .val (.int i8), .val (.int i9), .val (.int i10), .val (.int i11), .val (.int (f3_0 i11)), .val (.int (i5 &&& (3 : Int32))), .val (.int (((i5.toUInt32 >>> ((2 : Int32) &&& 31).toUInt32).toInt32).toInt8.toInt32)), .val (.ref b19)] [(.int (i10 + (i5 &&& (3 : Int32)))), (.int (i9 + (i5 &&& (3 : Int32)))), (.ref b19)])) rfl (by rw [hml]; rfl) (argsL := [(.ref b19), (.int (i9 + (i5 &&& (3 : Int32)))), (.int (i10 + (i5 &&& (3 : Int32))))]) (rest := []) (lenOf pdm_2 rfl) rfl (by show 2 * 0 + _ ≤ _; exact Nat.le_of_eq rfl) (hb hby at_282) (fun _ _ => ⟨rfl, e32, (show cells + 0 + 1 + 0 + 0 ≤ 16 from (Nat.le_trans (Nat.add_le_add_right hc 1) (by decide))), (show slots + 0 + 8 + 0 + 0 ≤ 128 from (Nat.le_trans (Nat.add_le_add_right hs 8) (by decide)))⟩)
  dsimp only [Pt.U, Pt.locs, Pt.cells, Pt.slots] at X33 l33 y33 z33 st33 hQ33
  have yy33 : k33 = cells + 0 + 1 + 0 + 0 := y33
  have zz33 : n33 = slots + 0 + 8 + 0 + 0 := z33
  rw [yy33, zz33, l33] at X33
  obtain ⟨rfl, N33q, e33⟩ := hQ33
  have N33 := Fr.app N32 N33q
  refine own_step st33 ?_
  show own_Fin p e below s Q 16 128 (T33.setTop (mkF m 285 #[.val (.int i0), .val (.int i1), .val (.int i2), .val (.int i3), .val (.int i4), .val (.int i5), .val (.ref o6), .val (.int i7), .val (.int i8), .val (.int i9), .val (.int i10), .val (.int i11), .val (.int (f3_0 i11)), .val (.int (i5 &&& (3 : Int32))), .val (.int (((i5.toUInt32 >>> ((2 : Int32) &&& 31).toUInt32).toInt32).toInt8.toInt32)), .val (.ref b19)] [(.int (f4_0 gf31 (i9 + (i5 &&& (3 : Int32))) (i10 + (i5 &&& (3 : Int32)))))]))
  refine own_step (fun t k => XS.iload X33.here hx rfl (hb hby at_285) rfl  k) ?_
  show own_Fin p e below s Q 16 128 (T33.setTop (mkF m 287 #[.val (.int i0), .val (.int i1), .val (.int i2), .val (.int i3), .val (.int i4), .val (.int i5), .val (.ref o6), .val (.int i7), .val (.int i8), .val (.int i9), .val (.int i10), .val (.int i11), .val (.int (f3_0 i11)), .val (.int (i5 &&& (3 : Int32))), .val (.int (((i5.toUInt32 >>> ((2 : Int32) &&& 31).toUInt32).toInt32).toInt8.toInt32)), .val (.ref b19)] [(.int (f3_0 i11)), (.int (f4_0 gf31 (i9 + (i5 &&& (3 : Int32))) (i10 + (i5 &&& (3 : Int32)))))]))
  refine own_step (fun t k => XS.icmpNo X33.here hx rfl (hb hby at_287) rfl (teq (own_hash8 _ _ _ _ _ _ _ _ _ _ hse hg hh (own_wide _ _ _ _ _ _ _ hgf28 hgf29 hgf30 hgf31))).2 k) ?_
  show own_Fin p e below s Q 16 128 (T33.setTop (mkF m 290 #[.val (.int i0), .val (.int i1), .val (.int i2), .val (.int i3), .val (.int i4), .val (.int i5), .val (.ref o6), .val (.int i7), .val (.int i8), .val (.int i9), .val (.int i10), .val (.int i11), .val (.int (f3_0 i11)), .val (.int (i5 &&& (3 : Int32))), .val (.int (((i5.toUInt32 >>> ((2 : Int32) &&& 31).toUInt32).toInt32).toInt8.toInt32)), .val (.ref b19)] []))
  refine own_step (fun t k => XS.iconst X33.here hx rfl (hb hby at_290) k) ?_
  show own_Fin p e below s Q 16 128 (T33.setTop (mkF m 291 #[.val (.int i0), .val (.int i1), .val (.int i2), .val (.int i3), .val (.int i4), .val (.int i5), .val (.ref o6), .val (.int i7), .val (.int i8), .val (.int i9), .val (.int i10), .val (.int i11), .val (.int (f3_0 i11)), .val (.int (i5 &&& (3 : Int32))), .val (.int (((i5.toUInt32 >>> ((2 : Int32) &&& 31).toUInt32).toInt32).toInt8.toInt32)), .val (.ref b19)] [(.int (1 : Int32))]))
  refine own_step (fun t k => XS.goto X33.here hx rfl (pc0 := 291) (pc' := 295) rfl (hb hby at_291) (by decide) (by decide) k) ?_
  show own_Fin p e below s Q 16 128 (T33.setTop (mkF m 295 #[.val (.int i0), .val (.int i1), .val (.int i2), .val (.int i3), .val (.int i4), .val (.int i5), .val (.ref o6), .val (.int i7), .val (.int i8), .val (.int i9), .val (.int i10), .val (.int i11), .val (.int (f3_0 i11)), .val (.int (i5 &&& (3 : Int32))), .val (.int (((i5.toUInt32 >>> ((2 : Int32) &&& 31).toUInt32).toInt32).toInt8.toInt32)), .val (.ref b19)] [(.int (1 : Int32))]))
  exact own_retN X33 hx hlk hret (by simp) (hb hby at_295) (Nat.le_trans (Nat.add_le_add_right hc 1) (by decide)) (Nat.le_trans (Nat.add_le_add_right hs 8) (by decide)) rfl N33 (fun L' n' => hQ _ L' n') (rfl)
set_option maxRecDepth 65536 in
set_option maxHeartbeats 40000000 in
theorem b0_126 {p : Program} {l : Launch} {e : Env} {s : State} {m : MethodId} {args : Array Value} {below : List Frame} {meth : Method} {c : Code} {T : State} {locs : List Loc} {cells slots : Nat} {Z : State} {a0 : Array Value} {h : Heap} {n0 : Nat} {Q : Option Value → Heap → List Loc → Prop} (i0 : Int32) (i1 : Int32) (i2 : Int32) (i3 : Int32) (i4 : Int32) (i5 : Int32) (o6 : Addr) (g6 : Nat → Int32) (i7 : Int32) (i8 : Int32) (i9 : Int32) (i10 : Int32) (i11 : Int32) (hw : ∀ d ∈ tables_1, d.before a0 Z = true) (X : Stand p l e room_1 s m args below meth c T locs cells slots) (hx : p.tables.exec = Jvm.exec) (hZ : Z.Warmed39 s.vm) (hby : c.code = code) (hml : c.maxLocals = 16) (hown : s.vm.findClass "com/example/nuthatch/nuthatch/NameTableHashPinLaw" = some m.cls) (hret : meth.sig.returnType = some .boolean) (hlk : meth.locks = false) (eT : T.heap = h) (N : Fr n0 locs) (hc : cells ≤ 1) (hs : slots ≤ 4) (A6 : own_AF Z h o6 .byte 4 g6) (fr6 : n0 ≤ o6) (hse : own_R i9 i10) (hg : own_G g6 i0 i1 i2 i3) (hh : i11 = (own_st i9 i10 (2 : Int32) i2 (own_st i9 i10 (1 : Int32) i1 (own_st i9 i10 (0 : Int32) i0 (-2128831035 : Int32))))) (Z0 : n0 ≤ h.size) (hQ : ∀ H' L', Fr n0 L' → Q (some (.int 1)) H' L') :
    own_Fin p e below s Q 16 128 (T.setTop (mkF m 126 #[.val (.int i0), .val (.int i1), .val (.int i2), .val (.int i3), .val (.int i4), .val (.int i5), .val (.ref o6), .val (.int i7), .val (.int i8), .val (.int i9), .val (.int i10), .val (.int i11), .unset, .unset, .unset, .unset] [])) := by
  refine own_step (fun t k => XS.iload X.here hx rfl (hb hby at_126) rfl  k) ?_
  show own_Fin p e below s Q 16 128 (T.setTop (mkF m 128 #[.val (.int i0), .val (.int i1), .val (.int i2), .val (.int i3), .val (.int i4), .val (.int i5), .val (.ref o6), .val (.int i7), .val (.int i8), .val (.int i9), .val (.int i10), .val (.int i11), .unset, .unset, .unset, .unset] [(.int i9)]))
  refine own_step (fun t k => XS.iconst X.here hx rfl (hb hby at_128) k) ?_
  show own_Fin p e below s Q 16 128 (T.setTop (mkF m 129 #[.val (.int i0), .val (.int i1), .val (.int i2), .val (.int i3), .val (.int i4), .val (.int i5), .val (.ref o6), .val (.int i7), .val (.int i8), .val (.int i9), .val (.int i10), .val (.int i11), .unset, .unset, .unset, .unset] [(.int (3 : Int32)), (.int i9)]))
  by_cases hB129_17 : (3 : Int32) < i9
  · refine own_step (fun t k => XS.icmpYes X.here hx rfl (pc0 := 129) (pc' := 146) rfl (hb hby at_129) rfl (tlt hB129_17).2.2.1 (by decide) (by decide) k) ?_
    exact b0_146 i0 i1 i2 i3 i4 i5 o6 g6 i7 i8 i9 i10 i11 hw X hx hZ hby hml hown hret hlk eT N (Nat.le_trans (Nat.add_le_add_right hc 0) (by decide)) (Nat.le_trans (Nat.add_le_add_right hs 0) (by decide)) A6 fr6 (hse) (hg) (by rw [← hh]; exact (if_pos hB129_17).symm) Z0 hQ
  · refine own_step (fun t k => XS.icmpNo X.here hx rfl (hb hby at_129) rfl (flt hB129_17).2.2.1 k) ?_
    show own_Fin p e below s Q 16 128 (T.setTop (mkF m 132 #[.val (.int i0), .val (.int i1), .val (.int i2), .val (.int i3), .val (.int i4), .val (.int i5), .val (.ref o6), .val (.int i7), .val (.int i8), .val (.int i9), .val (.int i10), .val (.int i11), .unset, .unset, .unset, .unset] []))
    refine own_step (fun t k => XS.iconst X.here hx rfl (hb hby at_132) k) ?_
    show own_Fin p e below s Q 16 128 (T.setTop (mkF m 133 #[.val (.int i0), .val (.int i1), .val (.int i2), .val (.int i3), .val (.int i4), .val (.int i5), .val (.ref o6), .val (.int i7), .val (.int i8), .val (.int i9), .val (.int i10), .val (.int i11), .unset, .unset, .unset, .unset] [(.int (3 : Int32))]))
    refine own_step (fun t k => XS.iload X.here hx rfl (hb hby at_133) rfl  k) ?_
    show own_Fin p e below s Q 16 128 (T.setTop (mkF m 135 #[.val (.int i0), .val (.int i1), .val (.int i2), .val (.int i3), .val (.int i4), .val (.int i5), .val (.ref o6), .val (.int i7), .val (.int i8), .val (.int i9), .val (.int i10), .val (.int i11), .unset, .unset, .unset, .unset] [(.int i10), (.int (3 : Int32))]))
    by_cases hB135_34 : (3 : Int32) < i10
    · refine own_step (fun t k => XS.icmpNo X.here hx rfl (hb hby at_135) rfl (tlt hB135_34).2.1 k) ?_
      show own_Fin p e below s Q 16 128 (T.setTop (mkF m 138 #[.val (.int i0), .val (.int i1), .val (.int i2), .val (.int i3), .val (.int i4), .val (.int i5), .val (.ref o6), .val (.int i7), .val (.int i8), .val (.int i9), .val (.int i10), .val (.int i11), .unset, .unset, .unset, .unset] []))
      refine own_step (fun t k => XS.iload X.here hx rfl (hb hby at_138) rfl  k) ?_
      show own_Fin p e below s Q 16 128 (T.setTop (mkF m 140 #[.val (.int i0), .val (.int i1), .val (.int i2), .val (.int i3), .val (.int i4), .val (.int i5), .val (.ref o6), .val (.int i7), .val (.int i8), .val (.int i9), .val (.int i10), .val (.int i11), .unset, .unset, .unset, .unset] [(.int i11)]))
      refine own_step (fun t k => XS.iloadN X.here hx rfl (hb hby at_140) rfl  k) ?_
      show own_Fin p e below s Q 16 128 (T.setTop (mkF m 141 #[.val (.int i0), .val (.int i1), .val (.int i2), .val (.int i3), .val (.int i4), .val (.int i5), .val (.ref o6), .val (.int i7), .val (.int i8), .val (.int i9), .val (.int i10), .val (.int i11), .unset, .unset, .unset, .unset] [(.int i3), (.int i11)]))
      obtain ⟨_, _, ⟨T35, L35, k35, n35⟩, -, X35, ⟨Lc35, hQ35, l35, y35, z35⟩, st35⟩ := Jvm.LawKit.callS X hx (y := (⟨"com/example/nuthatch/nuthatch/NameTableHashPinLaw", "step", "(II)I"⟩ : MethodName)) hown (mvT hZ (hw _ (List.mem_of_getElem? (i := 22) rfl))) (mvT hZ (hw _ (List.mem_of_getElem? (i := 23) rfl))) (mvT hZ (hw _ (List.mem_of_getElem? (i := 11) rfl))) (mvT hZ (hw _ (List.mem_of_getElem? (i := 24) rfl))) (by decide) (backOf (W := 0) (rm5 l Z a0 hw [] i11 i3 h n0) hZ (hw _ (List.mem_of_getElem? (i := 24) rfl)) (hw _ (List.mem_of_getElem? (i := 11) rfl)) (by decide) (by decide)) (g := (mkF m 141 #[.val (.int i0), .val (.int i1), .val (.int i2), .val (.int i3), .val (.int i4), .val (.int i5), .val (.ref o6), .val (.int i7), .val (.int i8), .val (.int i9), .val (.int i10), .val (.int i11), .unset, .unset, .unset, .unset] [(.int i3), (.int i11)])) rfl (by rw [hml]; rfl) (argsL := [(.int i11), (.int i3)]) (rest := []) (lenOf pdm_0 rfl) rfl (by show 2 * 0 + _ ≤ _; exact Nat.le_of_eq rfl) (hb hby at_141) (fun _ _ => ⟨rfl, eT, (show cells + 0 ≤ 16 from (Nat.le_trans (Nat.add_le_add_right hc 0) (by decide))), (show slots + 0 ≤ 128 from (Nat.le_trans (Nat.add_le_add_right hs 0) (by decide)))⟩)
      dsimp only [Pt.U, Pt.locs, Pt.cells, Pt.slots] at X35 l35 y35 z35 st35 hQ35
      have yy35 : k35 = cells + 0 := y35
      have zz35 : n35 = slots + 0 := z35
      rw [yy35, zz35, l35] at X35
      obtain ⟨rfl, N35q, e35⟩ := hQ35
      have N35 := Fr.app N N35q
      refine own_step st35 ?_
      show own_Fin p e below s Q 16 128 (T35.setTop (mkF m 144 #[.val (.int i0), .val (.int i1), .val (.int i2), .val (.int i3), .val (.int i4), .val (.int i5), .val (.ref o6), .val (.int i7), .val (.int i8), .val (.int i9), .val (.int i10), .val (.int i11), .unset, .unset, .unset, .unset] [(.int (f5_0 i11 i3))]))
      refine own_step (fun t k => XS.istore X35.here hx rfl (hb hby at_144) rfl (l' := #[.val (.int i0), .val (.int i1), .val (.int i2), .val (.int i3), .val (.int i4), .val (.int i5), .val (.ref o6), .val (.int i7), .val (.int i8), .val (.int i9), .val (.int i10), .val (.int (f5_0 i11 i3)), .unset, .unset, .unset, .unset]) rfl k) ?_
      exact b0_146 i0 i1 i2 i3 i4 i5 o6 g6 i7 i8 i9 i10 (f5_0 i11 i3) hw X35 hx hZ hby hml hown hret hlk e35 N35 (Nat.le_trans (Nat.add_le_add_right hc 0) (by decide)) (Nat.le_trans (Nat.add_le_add_right hs 0) (by decide)) A6 fr6 (hse) (hg) (by rw [← hh]; exact ((if_neg hB129_17).trans (if_pos hB135_34)).symm) Z0 hQ
    · refine own_step (fun t k => XS.icmpYes X.here hx rfl (pc0 := 135) (pc' := 146) rfl (hb hby at_135) rfl (flt hB135_34).2.1 (by decide) (by decide) k) ?_
      exact b0_146 i0 i1 i2 i3 i4 i5 o6 g6 i7 i8 i9 i10 i11 hw X hx hZ hby hml hown hret hlk eT N (Nat.le_trans (Nat.add_le_add_right hc 0) (by decide)) (Nat.le_trans (Nat.add_le_add_right hs 0) (by decide)) A6 fr6 (hse) (hg) (by rw [← hh]; exact ((if_neg hB129_17).trans (if_neg hB135_34)).symm) Z0 hQ
set_option maxRecDepth 65536 in
set_option maxHeartbeats 40000000 in
theorem b0_106 {p : Program} {l : Launch} {e : Env} {s : State} {m : MethodId} {args : Array Value} {below : List Frame} {meth : Method} {c : Code} {T : State} {locs : List Loc} {cells slots : Nat} {Z : State} {a0 : Array Value} {h : Heap} {n0 : Nat} {Q : Option Value → Heap → List Loc → Prop} (i0 : Int32) (i1 : Int32) (i2 : Int32) (i3 : Int32) (i4 : Int32) (i5 : Int32) (o6 : Addr) (g6 : Nat → Int32) (i7 : Int32) (i8 : Int32) (i9 : Int32) (i10 : Int32) (i11 : Int32) (hw : ∀ d ∈ tables_1, d.before a0 Z = true) (X : Stand p l e room_1 s m args below meth c T locs cells slots) (hx : p.tables.exec = Jvm.exec) (hZ : Z.Warmed39 s.vm) (hby : c.code = code) (hml : c.maxLocals = 16) (hown : s.vm.findClass "com/example/nuthatch/nuthatch/NameTableHashPinLaw" = some m.cls) (hret : meth.sig.returnType = some .boolean) (hlk : meth.locks = false) (eT : T.heap = h) (N : Fr n0 locs) (hc : cells ≤ 1) (hs : slots ≤ 4) (A6 : own_AF Z h o6 .byte 4 g6) (fr6 : n0 ≤ o6) (hse : own_R i9 i10) (hg : own_G g6 i0 i1 i2 i3) (hh : i11 = (own_st i9 i10 (1 : Int32) i1 (own_st i9 i10 (0 : Int32) i0 (-2128831035 : Int32)))) (Z0 : n0 ≤ h.size) (hQ : ∀ H' L', Fr n0 L' → Q (some (.int 1)) H' L') :
    own_Fin p e below s Q 16 128 (T.setTop (mkF m 106 #[.val (.int i0), .val (.int i1), .val (.int i2), .val (.int i3), .val (.int i4), .val (.int i5), .val (.ref o6), .val (.int i7), .val (.int i8), .val (.int i9), .val (.int i10), .val (.int i11), .unset, .unset, .unset, .unset] [])) := by
  refine own_step (fun t k => XS.iload X.here hx rfl (hb hby at_106) rfl  k) ?_
  show own_Fin p e below s Q 16 128 (T.setTop (mkF m 108 #[.val (.int i0), .val (.int i1), .val (.int i2), .val (.int i3), .val (.int i4), .val (.int i5), .val (.ref o6), .val (.int i7), .val (.int i8), .val (.int i9), .val (.int i10), .val (.int i11), .unset, .unset, .unset, .unset] [(.int i9)]))
  refine own_step (fun t k => XS.iconst X.here hx rfl (hb hby at_108) k) ?_
  show own_Fin p e below s Q 16 128 (T.setTop (mkF m 109 #[.val (.int i0), .val (.int i1), .val (.int i2), .val (.int i3), .val (.int i4), .val (.int i5), .val (.ref o6), .val (.int i7), .val (.int i8), .val (.int i9), .val (.int i10), .val (.int i11), .unset, .unset, .unset, .unset] [(.int (2 : Int32)), (.int i9)]))
  by_cases hB109_16 : (2 : Int32) < i9
  · refine own_step (fun t k => XS.icmpYes X.here hx rfl (pc0 := 109) (pc' := 126) rfl (hb hby at_109) rfl (tlt hB109_16).2.2.1 (by decide) (by decide) k) ?_
    exact b0_126 i0 i1 i2 i3 i4 i5 o6 g6 i7 i8 i9 i10 i11 hw X hx hZ hby hml hown hret hlk eT N (Nat.le_trans (Nat.add_le_add_right hc 0) (by decide)) (Nat.le_trans (Nat.add_le_add_right hs 0) (by decide)) A6 fr6 (hse) (hg) (by rw [← hh]; exact (if_pos hB109_16).symm) Z0 hQ
  · refine own_step (fun t k => XS.icmpNo X.here hx rfl (hb hby at_109) rfl (flt hB109_16).2.2.1 k) ?_
    show own_Fin p e below s Q 16 128 (T.setTop (mkF m 112 #[.val (.int i0), .val (.int i1), .val (.int i2), .val (.int i3), .val (.int i4), .val (.int i5), .val (.ref o6), .val (.int i7), .val (.int i8), .val (.int i9), .val (.int i10), .val (.int i11), .unset, .unset, .unset, .unset] []))
    refine own_step (fun t k => XS.iconst X.here hx rfl (hb hby at_112) k) ?_
    show own_Fin p e below s Q 16 128 (T.setTop (mkF m 113 #[.val (.int i0), .val (.int i1), .val (.int i2), .val (.int i3), .val (.int i4), .val (.int i5), .val (.ref o6), .val (.int i7), .val (.int i8), .val (.int i9), .val (.int i10), .val (.int i11), .unset, .unset, .unset, .unset] [(.int (2 : Int32))]))
    refine own_step (fun t k => XS.iload X.here hx rfl (hb hby at_113) rfl  k) ?_
    show own_Fin p e below s Q 16 128 (T.setTop (mkF m 115 #[.val (.int i0), .val (.int i1), .val (.int i2), .val (.int i3), .val (.int i4), .val (.int i5), .val (.ref o6), .val (.int i7), .val (.int i8), .val (.int i9), .val (.int i10), .val (.int i11), .unset, .unset, .unset, .unset] [(.int i10), (.int (2 : Int32))]))
    by_cases hB115_36 : (2 : Int32) < i10
    · refine own_step (fun t k => XS.icmpNo X.here hx rfl (hb hby at_115) rfl (tlt hB115_36).2.1 k) ?_
      show own_Fin p e below s Q 16 128 (T.setTop (mkF m 118 #[.val (.int i0), .val (.int i1), .val (.int i2), .val (.int i3), .val (.int i4), .val (.int i5), .val (.ref o6), .val (.int i7), .val (.int i8), .val (.int i9), .val (.int i10), .val (.int i11), .unset, .unset, .unset, .unset] []))
      refine own_step (fun t k => XS.iload X.here hx rfl (hb hby at_118) rfl  k) ?_
      show own_Fin p e below s Q 16 128 (T.setTop (mkF m 120 #[.val (.int i0), .val (.int i1), .val (.int i2), .val (.int i3), .val (.int i4), .val (.int i5), .val (.ref o6), .val (.int i7), .val (.int i8), .val (.int i9), .val (.int i10), .val (.int i11), .unset, .unset, .unset, .unset] [(.int i11)]))
      refine own_step (fun t k => XS.iloadN X.here hx rfl (hb hby at_120) rfl  k) ?_
      show own_Fin p e below s Q 16 128 (T.setTop (mkF m 121 #[.val (.int i0), .val (.int i1), .val (.int i2), .val (.int i3), .val (.int i4), .val (.int i5), .val (.ref o6), .val (.int i7), .val (.int i8), .val (.int i9), .val (.int i10), .val (.int i11), .unset, .unset, .unset, .unset] [(.int i2), (.int i11)]))
      obtain ⟨_, _, ⟨T37, L37, k37, n37⟩, -, X37, ⟨Lc37, hQ37, l37, y37, z37⟩, st37⟩ := Jvm.LawKit.callS X hx (y := (⟨"com/example/nuthatch/nuthatch/NameTableHashPinLaw", "step", "(II)I"⟩ : MethodName)) hown (mvT hZ (hw _ (List.mem_of_getElem? (i := 22) rfl))) (mvT hZ (hw _ (List.mem_of_getElem? (i := 23) rfl))) (mvT hZ (hw _ (List.mem_of_getElem? (i := 11) rfl))) (mvT hZ (hw _ (List.mem_of_getElem? (i := 24) rfl))) (by decide) (backOf (W := 0) (rm5 l Z a0 hw [] i11 i2 h n0) hZ (hw _ (List.mem_of_getElem? (i := 24) rfl)) (hw _ (List.mem_of_getElem? (i := 11) rfl)) (by decide) (by decide)) (g := (mkF m 121 #[.val (.int i0), .val (.int i1), .val (.int i2), .val (.int i3), .val (.int i4), .val (.int i5), .val (.ref o6), .val (.int i7), .val (.int i8), .val (.int i9), .val (.int i10), .val (.int i11), .unset, .unset, .unset, .unset] [(.int i2), (.int i11)])) rfl (by rw [hml]; rfl) (argsL := [(.int i11), (.int i2)]) (rest := []) (lenOf pdm_0 rfl) rfl (by show 2 * 0 + _ ≤ _; exact Nat.le_of_eq rfl) (hb hby at_121) (fun _ _ => ⟨rfl, eT, (show cells + 0 ≤ 16 from (Nat.le_trans (Nat.add_le_add_right hc 0) (by decide))), (show slots + 0 ≤ 128 from (Nat.le_trans (Nat.add_le_add_right hs 0) (by decide)))⟩)
      dsimp only [Pt.U, Pt.locs, Pt.cells, Pt.slots] at X37 l37 y37 z37 st37 hQ37
      have yy37 : k37 = cells + 0 := y37
      have zz37 : n37 = slots + 0 := z37
      rw [yy37, zz37, l37] at X37
      obtain ⟨rfl, N37q, e37⟩ := hQ37
      have N37 := Fr.app N N37q
      refine own_step st37 ?_
      show own_Fin p e below s Q 16 128 (T37.setTop (mkF m 124 #[.val (.int i0), .val (.int i1), .val (.int i2), .val (.int i3), .val (.int i4), .val (.int i5), .val (.ref o6), .val (.int i7), .val (.int i8), .val (.int i9), .val (.int i10), .val (.int i11), .unset, .unset, .unset, .unset] [(.int (f5_0 i11 i2))]))
      refine own_step (fun t k => XS.istore X37.here hx rfl (hb hby at_124) rfl (l' := #[.val (.int i0), .val (.int i1), .val (.int i2), .val (.int i3), .val (.int i4), .val (.int i5), .val (.ref o6), .val (.int i7), .val (.int i8), .val (.int i9), .val (.int i10), .val (.int (f5_0 i11 i2)), .unset, .unset, .unset, .unset]) rfl k) ?_
      exact b0_126 i0 i1 i2 i3 i4 i5 o6 g6 i7 i8 i9 i10 (f5_0 i11 i2) hw X37 hx hZ hby hml hown hret hlk e37 N37 (Nat.le_trans (Nat.add_le_add_right hc 0) (by decide)) (Nat.le_trans (Nat.add_le_add_right hs 0) (by decide)) A6 fr6 (hse) (hg) (by rw [← hh]; exact ((if_neg hB109_16).trans (if_pos hB115_36)).symm) Z0 hQ
    · refine own_step (fun t k => XS.icmpYes X.here hx rfl (pc0 := 115) (pc' := 126) rfl (hb hby at_115) rfl (flt hB115_36).2.1 (by decide) (by decide) k) ?_
      exact b0_126 i0 i1 i2 i3 i4 i5 o6 g6 i7 i8 i9 i10 i11 hw X hx hZ hby hml hown hret hlk eT N (Nat.le_trans (Nat.add_le_add_right hc 0) (by decide)) (Nat.le_trans (Nat.add_le_add_right hs 0) (by decide)) A6 fr6 (hse) (hg) (by rw [← hh]; exact ((if_neg hB109_16).trans (if_neg hB115_36)).symm) Z0 hQ
set_option maxRecDepth 65536 in
set_option maxHeartbeats 40000000 in
theorem b0_86 {p : Program} {l : Launch} {e : Env} {s : State} {m : MethodId} {args : Array Value} {below : List Frame} {meth : Method} {c : Code} {T : State} {locs : List Loc} {cells slots : Nat} {Z : State} {a0 : Array Value} {h : Heap} {n0 : Nat} {Q : Option Value → Heap → List Loc → Prop} (i0 : Int32) (i1 : Int32) (i2 : Int32) (i3 : Int32) (i4 : Int32) (i5 : Int32) (o6 : Addr) (g6 : Nat → Int32) (i7 : Int32) (i8 : Int32) (i9 : Int32) (i10 : Int32) (i11 : Int32) (hw : ∀ d ∈ tables_1, d.before a0 Z = true) (X : Stand p l e room_1 s m args below meth c T locs cells slots) (hx : p.tables.exec = Jvm.exec) (hZ : Z.Warmed39 s.vm) (hby : c.code = code) (hml : c.maxLocals = 16) (hown : s.vm.findClass "com/example/nuthatch/nuthatch/NameTableHashPinLaw" = some m.cls) (hret : meth.sig.returnType = some .boolean) (hlk : meth.locks = false) (eT : T.heap = h) (N : Fr n0 locs) (hc : cells ≤ 1) (hs : slots ≤ 4) (A6 : own_AF Z h o6 .byte 4 g6) (fr6 : n0 ≤ o6) (hse : own_R i9 i10) (hg : own_G g6 i0 i1 i2 i3) (hh : i11 = (own_st i9 i10 (0 : Int32) i0 (-2128831035 : Int32))) (Z0 : n0 ≤ h.size) (hQ : ∀ H' L', Fr n0 L' → Q (some (.int 1)) H' L') :
    own_Fin p e below s Q 16 128 (T.setTop (mkF m 86 #[.val (.int i0), .val (.int i1), .val (.int i2), .val (.int i3), .val (.int i4), .val (.int i5), .val (.ref o6), .val (.int i7), .val (.int i8), .val (.int i9), .val (.int i10), .val (.int i11), .unset, .unset, .unset, .unset] [])) := by
  refine own_step (fun t k => XS.iload X.here hx rfl (hb hby at_86) rfl  k) ?_
  show own_Fin p e below s Q 16 128 (T.setTop (mkF m 88 #[.val (.int i0), .val (.int i1), .val (.int i2), .val (.int i3), .val (.int i4), .val (.int i5), .val (.ref o6), .val (.int i7), .val (.int i8), .val (.int i9), .val (.int i10), .val (.int i11), .unset, .unset, .unset, .unset] [(.int i9)]))
  refine own_step (fun t k => XS.iconst X.here hx rfl (hb hby at_88) k) ?_
  show own_Fin p e below s Q 16 128 (T.setTop (mkF m 89 #[.val (.int i0), .val (.int i1), .val (.int i2), .val (.int i3), .val (.int i4), .val (.int i5), .val (.ref o6), .val (.int i7), .val (.int i8), .val (.int i9), .val (.int i10), .val (.int i11), .unset, .unset, .unset, .unset] [(.int (1 : Int32)), (.int i9)]))
  by_cases hB89_15 : (1 : Int32) < i9
  · refine own_step (fun t k => XS.icmpYes X.here hx rfl (pc0 := 89) (pc' := 106) rfl (hb hby at_89) rfl (tlt hB89_15).2.2.1 (by decide) (by decide) k) ?_
    exact b0_106 i0 i1 i2 i3 i4 i5 o6 g6 i7 i8 i9 i10 i11 hw X hx hZ hby hml hown hret hlk eT N (Nat.le_trans (Nat.add_le_add_right hc 0) (by decide)) (Nat.le_trans (Nat.add_le_add_right hs 0) (by decide)) A6 fr6 (hse) (hg) (by rw [← hh]; exact (if_pos hB89_15).symm) Z0 hQ
  · refine own_step (fun t k => XS.icmpNo X.here hx rfl (hb hby at_89) rfl (flt hB89_15).2.2.1 k) ?_
    show own_Fin p e below s Q 16 128 (T.setTop (mkF m 92 #[.val (.int i0), .val (.int i1), .val (.int i2), .val (.int i3), .val (.int i4), .val (.int i5), .val (.ref o6), .val (.int i7), .val (.int i8), .val (.int i9), .val (.int i10), .val (.int i11), .unset, .unset, .unset, .unset] []))
    refine own_step (fun t k => XS.iconst X.here hx rfl (hb hby at_92) k) ?_
    show own_Fin p e below s Q 16 128 (T.setTop (mkF m 93 #[.val (.int i0), .val (.int i1), .val (.int i2), .val (.int i3), .val (.int i4), .val (.int i5), .val (.ref o6), .val (.int i7), .val (.int i8), .val (.int i9), .val (.int i10), .val (.int i11), .unset, .unset, .unset, .unset] [(.int (1 : Int32))]))
    refine own_step (fun t k => XS.iload X.here hx rfl (hb hby at_93) rfl  k) ?_
    show own_Fin p e below s Q 16 128 (T.setTop (mkF m 95 #[.val (.int i0), .val (.int i1), .val (.int i2), .val (.int i3), .val (.int i4), .val (.int i5), .val (.ref o6), .val (.int i7), .val (.int i8), .val (.int i9), .val (.int i10), .val (.int i11), .unset, .unset, .unset, .unset] [(.int i10), (.int (1 : Int32))]))
    by_cases hB95_38 : (1 : Int32) < i10
    · refine own_step (fun t k => XS.icmpNo X.here hx rfl (hb hby at_95) rfl (tlt hB95_38).2.1 k) ?_
      show own_Fin p e below s Q 16 128 (T.setTop (mkF m 98 #[.val (.int i0), .val (.int i1), .val (.int i2), .val (.int i3), .val (.int i4), .val (.int i5), .val (.ref o6), .val (.int i7), .val (.int i8), .val (.int i9), .val (.int i10), .val (.int i11), .unset, .unset, .unset, .unset] []))
      refine own_step (fun t k => XS.iload X.here hx rfl (hb hby at_98) rfl  k) ?_
      show own_Fin p e below s Q 16 128 (T.setTop (mkF m 100 #[.val (.int i0), .val (.int i1), .val (.int i2), .val (.int i3), .val (.int i4), .val (.int i5), .val (.ref o6), .val (.int i7), .val (.int i8), .val (.int i9), .val (.int i10), .val (.int i11), .unset, .unset, .unset, .unset] [(.int i11)]))
      refine own_step (fun t k => XS.iloadN X.here hx rfl (hb hby at_100) rfl  k) ?_
      show own_Fin p e below s Q 16 128 (T.setTop (mkF m 101 #[.val (.int i0), .val (.int i1), .val (.int i2), .val (.int i3), .val (.int i4), .val (.int i5), .val (.ref o6), .val (.int i7), .val (.int i8), .val (.int i9), .val (.int i10), .val (.int i11), .unset, .unset, .unset, .unset] [(.int i1), (.int i11)]))
      obtain ⟨_, _, ⟨T39, L39, k39, n39⟩, -, X39, ⟨Lc39, hQ39, l39, y39, z39⟩, st39⟩ := Jvm.LawKit.callS X hx (y := (⟨"com/example/nuthatch/nuthatch/NameTableHashPinLaw", "step", "(II)I"⟩ : MethodName)) hown (mvT hZ (hw _ (List.mem_of_getElem? (i := 22) rfl))) (mvT hZ (hw _ (List.mem_of_getElem? (i := 23) rfl))) (mvT hZ (hw _ (List.mem_of_getElem? (i := 11) rfl))) (mvT hZ (hw _ (List.mem_of_getElem? (i := 24) rfl))) (by decide) (backOf (W := 0) (rm5 l Z a0 hw [] i11 i1 h n0) hZ (hw _ (List.mem_of_getElem? (i := 24) rfl)) (hw _ (List.mem_of_getElem? (i := 11) rfl)) (by decide) (by decide)) (g := (mkF m 101 #[.val (.int i0), .val (.int i1), .val (.int i2), .val (.int i3), .val (.int i4), .val (.int i5), .val (.ref o6), .val (.int i7), .val (.int i8), .val (.int i9), .val (.int i10), .val (.int i11), .unset, .unset, .unset, .unset] [(.int i1), (.int i11)])) rfl (by rw [hml]; rfl) (argsL := [(.int i11), (.int i1)]) (rest := []) (lenOf pdm_0 rfl) rfl (by show 2 * 0 + _ ≤ _; exact Nat.le_of_eq rfl) (hb hby at_101) (fun _ _ => ⟨rfl, eT, (show cells + 0 ≤ 16 from (Nat.le_trans (Nat.add_le_add_right hc 0) (by decide))), (show slots + 0 ≤ 128 from (Nat.le_trans (Nat.add_le_add_right hs 0) (by decide)))⟩)
      dsimp only [Pt.U, Pt.locs, Pt.cells, Pt.slots] at X39 l39 y39 z39 st39 hQ39
      have yy39 : k39 = cells + 0 := y39
      have zz39 : n39 = slots + 0 := z39
      rw [yy39, zz39, l39] at X39
      obtain ⟨rfl, N39q, e39⟩ := hQ39
      have N39 := Fr.app N N39q
      refine own_step st39 ?_
      show own_Fin p e below s Q 16 128 (T39.setTop (mkF m 104 #[.val (.int i0), .val (.int i1), .val (.int i2), .val (.int i3), .val (.int i4), .val (.int i5), .val (.ref o6), .val (.int i7), .val (.int i8), .val (.int i9), .val (.int i10), .val (.int i11), .unset, .unset, .unset, .unset] [(.int (f5_0 i11 i1))]))
      refine own_step (fun t k => XS.istore X39.here hx rfl (hb hby at_104) rfl (l' := #[.val (.int i0), .val (.int i1), .val (.int i2), .val (.int i3), .val (.int i4), .val (.int i5), .val (.ref o6), .val (.int i7), .val (.int i8), .val (.int i9), .val (.int i10), .val (.int (f5_0 i11 i1)), .unset, .unset, .unset, .unset]) rfl k) ?_
      exact b0_106 i0 i1 i2 i3 i4 i5 o6 g6 i7 i8 i9 i10 (f5_0 i11 i1) hw X39 hx hZ hby hml hown hret hlk e39 N39 (Nat.le_trans (Nat.add_le_add_right hc 0) (by decide)) (Nat.le_trans (Nat.add_le_add_right hs 0) (by decide)) A6 fr6 (hse) (hg) (by rw [← hh]; exact ((if_neg hB89_15).trans (if_pos hB95_38)).symm) Z0 hQ
    · refine own_step (fun t k => XS.icmpYes X.here hx rfl (pc0 := 95) (pc' := 106) rfl (hb hby at_95) rfl (flt hB95_38).2.1 (by decide) (by decide) k) ?_
      exact b0_106 i0 i1 i2 i3 i4 i5 o6 g6 i7 i8 i9 i10 i11 hw X hx hZ hby hml hown hret hlk eT N (Nat.le_trans (Nat.add_le_add_right hc 0) (by decide)) (Nat.le_trans (Nat.add_le_add_right hs 0) (by decide)) A6 fr6 (hse) (hg) (by rw [← hh]; exact ((if_neg hB89_15).trans (if_neg hB95_38)).symm) Z0 hQ
set_option maxRecDepth 65536 in
set_option maxHeartbeats 40000000 in
theorem b0_0 {p : Program} {l : Launch} {e : Env} {s : State} {m : MethodId} {args : Array Value} {below : List Frame} {meth : Method} {c : Code} {T : State} {locs : List Loc} {cells slots : Nat} {Z : State} {a0 : Array Value} {h : Heap} {n0 : Nat} {Q : Option Value → Heap → List Loc → Prop} (i0 : Int32) (i1 : Int32) (i2 : Int32) (i3 : Int32) (i4 : Int32) (i5 : Int32) (hw : ∀ d ∈ tables_1, d.before a0 Z = true) (X : Stand p l e room_1 s m args below meth c T locs cells slots) (hx : p.tables.exec = Jvm.exec) (hZ : Z.Warmed39 s.vm) (hby : c.code = code) (hml : c.maxLocals = 16) (hown : s.vm.findClass "com/example/nuthatch/nuthatch/NameTableHashPinLaw" = some m.cls) (hret : meth.sig.returnType = some .boolean) (hlk : meth.locks = false) (eT : T.heap = h) (N : Fr n0 locs) (hc : cells ≤ 0) (hs : slots ≤ 0) (Z0 : n0 ≤ h.size) (hQ : ∀ H' L', Fr n0 L' → Q (some (.int 1)) H' L') :
    own_Fin p e below s Q 16 128 (T.setTop (mkF m 0 #[.val (.int i0), .val (.int i1), .val (.int i2), .val (.int i3), .val (.int i4), .val (.int i5), .unset, .unset, .unset, .unset, .unset, .unset, .unset, .unset, .unset, .unset] [])) := by
  refine own_step (fun t k => XS.iconst X.here hx rfl (hb hby at_0) k) ?_
  show own_Fin p e below s Q 16 128 (T.setTop (mkF m 1 #[.val (.int i0), .val (.int i1), .val (.int i2), .val (.int i3), .val (.int i4), .val (.int i5), .unset, .unset, .unset, .unset, .unset, .unset, .unset, .unset, .unset, .unset] [(.int (4 : Int32))]))
  obtain ⟨T7, h7, k7, X7, e7, E7, AA7, st7⟩ := newP X hx hZ (hw _ (List.mem_of_getElem? (i := 0) rfl)) eT (g := (mkF m 1 #[.val (.int i0), .val (.int i1), .val (.int i2), .val (.int i3), .val (.int i4), .val (.int i5), .unset, .unset, .unset, .unset, .unset, .unset, .unset, .unset, .unset, .unset] [(.int (4 : Int32))])) rfl (hb hby at_1) rfl (by decide) (cap := 4) (by decide) (by decide) (show cells + 1 ≤ 16 from (Nat.le_trans (Nat.add_le_add_right hc 1) (by decide))) (show slots + 4 ≤ 128 from (Nat.le_trans (Nat.add_le_add_right hs 4) (by decide)))
  obtain ⟨b7, gg7⟩ : ∃ z, z = h.size := ⟨_, rfl⟩
  rw [← gg7] at AA7 st7
  have V7 : own_AF Z h7 b7 .byte 4 (fun _ => 0) := own_AFnew AA7 (by decide)
  have fr7 : n0 ≤ b7 := Nat.le_trans Z0 (Nat.le_of_eq gg7.symm)
  have Z07 : n0 ≤ h7.size := Nat.le_trans Z0 E7.1
  refine own_step st7 ?_
  show own_Fin p e below s Q 16 128 (T7.setTop (mkF m 3 #[.val (.int i0), .val (.int i1), .val (.int i2), .val (.int i3), .val (.int i4), .val (.int i5), .unset, .unset, .unset, .unset, .unset, .unset, .unset, .unset, .unset, .unset] [(.ref b7)]))
  refine own_step (fun t k => XS.dup X7.here hx rfl (hb hby at_3) rfl rfl k) ?_
  show own_Fin p e below s Q 16 128 (T7.setTop (mkF m 4 #[.val (.int i0), .val (.int i1), .val (.int i2), .val (.int i3), .val (.int i4), .val (.int i5), .unset, .unset, .unset, .unset, .unset, .unset, .unset, .unset, .unset, .unset] [(.ref b7), (.ref b7)]))
  refine own_step (fun t k => XS.iconst X7.here hx rfl (hb hby at_4) k) ?_
  show own_Fin p e below s Q 16 128 (T7.setTop (mkF m 5 #[.val (.int i0), .val (.int i1), .val (.int i2), .val (.int i3), .val (.int i4), .val (.int i5), .unset, .unset, .unset, .unset, .unset, .unset, .unset, .unset, .unset, .unset] [(.int (0 : Int32)), (.ref b7), (.ref b7)]))
  refine own_step (fun t k => XS.iloadN X7.here hx rfl (hb hby at_5) rfl  k) ?_
  show own_Fin p e below s Q 16 128 (T7.setTop (mkF m 6 #[.val (.int i0), .val (.int i1), .val (.int i2), .val (.int i3), .val (.int i4), .val (.int i5), .unset, .unset, .unset, .unset, .unset, .unset, .unset, .unset, .unset, .unset] [(.int i0), (.int (0 : Int32)), (.ref b7), (.ref b7)]))
  refine own_step (fun t k => XS.i2b X7.here hx rfl (hb hby at_6) rfl k) ?_
  show own_Fin p e below s Q 16 128 (T7.setTop (mkF m 7 #[.val (.int i0), .val (.int i1), .val (.int i2), .val (.int i3), .val (.int i4), .val (.int i5), .unset, .unset, .unset, .unset, .unset, .unset, .unset, .unset, .unset, .unset] [(.int (i0.toInt8.toInt32)), (.int (0 : Int32)), (.ref b7), (.ref b7)]))
  obtain ⟨ca8, Ar8, Sz8, Ht8⟩ := id V7
  have hin8 : ¬ ((0 : Int32) < 0 ∨ ca8.slots.size ≤ ((0 : Int32)).toNatClampNeg) := by rw [Sz8]; exact (by decide)
  obtain ⟨T8, h8, X8, e8, W8, st8⟩ := stB X7 hx hZ e7 Ar8 (j := (0 : Int32)) hin8 (g := (mkF m 7 #[.val (.int i0), .val (.int i1), .val (.int i2), .val (.int i3), .val (.int i4), .val (.int i5), .unset, .unset, .unset, .unset, .unset, .unset, .unset, .unset, .unset, .unset] [(.int (i0.toInt8.toInt32)), (.int (0 : Int32)), (.ref b7), (.ref b7)])) rfl rfl (hb hby at_7)
  have V8 : own_AF Z h8 b7 .byte 4 (fun i => if i = 0 then (nar .byte (i0.toInt8.toInt32)) else (fun _ => 0) i) := own_AFset Ar8 Sz8 Ht8 W8
  obtain ⟨gf8, hgf8⟩ : ∃ g' : Nat → Int32, g' = (fun i => if i = 0 then (nar .byte (i0.toInt8.toInt32)) else (fun _ => 0) i) := ⟨_, rfl⟩
  rw [← hgf8] at V8
  have N8 := Fr.snoc X8 N fr7
  have Z08 : n0 ≤ h8.size := Nat.le_trans Z07 (Nat.le_of_eq W8.size.symm)
  refine own_step st8 ?_
  show own_Fin p e below s Q 16 128 (T8.setTop (mkF m 8 #[.val (.int i0), .val (.int i1), .val (.int i2), .val (.int i3), .val (.int i4), .val (.int i5), .unset, .unset, .unset, .unset, .unset, .unset, .unset, .unset, .unset, .unset] [(.ref b7)]))
  refine own_step (fun t k => XS.dup X8.here hx rfl (hb hby at_8) rfl rfl k) ?_
  show own_Fin p e below s Q 16 128 (T8.setTop (mkF m 9 #[.val (.int i0), .val (.int i1), .val (.int i2), .val (.int i3), .val (.int i4), .val (.int i5), .unset, .unset, .unset, .unset, .unset, .unset, .unset, .unset, .unset, .unset] [(.ref b7), (.ref b7)]))
  refine own_step (fun t k => XS.iconst X8.here hx rfl (hb hby at_9) k) ?_
  show own_Fin p e below s Q 16 128 (T8.setTop (mkF m 10 #[.val (.int i0), .val (.int i1), .val (.int i2), .val (.int i3), .val (.int i4), .val (.int i5), .unset, .unset, .unset, .unset, .unset, .unset, .unset, .unset, .unset, .unset] [(.int (1 : Int32)), (.ref b7), (.ref b7)]))
  refine own_step (fun t k => XS.iloadN X8.here hx rfl (hb hby at_10) rfl  k) ?_
  show own_Fin p e below s Q 16 128 (T8.setTop (mkF m 11 #[.val (.int i0), .val (.int i1), .val (.int i2), .val (.int i3), .val (.int i4), .val (.int i5), .unset, .unset, .unset, .unset, .unset, .unset, .unset, .unset, .unset, .unset] [(.int i1), (.int (1 : Int32)), (.ref b7), (.ref b7)]))
  refine own_step (fun t k => XS.i2b X8.here hx rfl (hb hby at_11) rfl k) ?_
  show own_Fin p e below s Q 16 128 (T8.setTop (mkF m 12 #[.val (.int i0), .val (.int i1), .val (.int i2), .val (.int i3), .val (.int i4), .val (.int i5), .unset, .unset, .unset, .unset, .unset, .unset, .unset, .unset, .unset, .unset] [(.int (i1.toInt8.toInt32)), (.int (1 : Int32)), (.ref b7), (.ref b7)]))
  obtain ⟨ca9, Ar9, Sz9, Ht9⟩ := id V8
  have hin9 : ¬ ((1 : Int32) < 0 ∨ ca9.slots.size ≤ ((1 : Int32)).toNatClampNeg) := by rw [Sz9]; exact (by decide)
  obtain ⟨T9, h9, X9, e9, W9, st9⟩ := stB X8 hx hZ e8 Ar9 (j := (1 : Int32)) hin9 (g := (mkF m 12 #[.val (.int i0), .val (.int i1), .val (.int i2), .val (.int i3), .val (.int i4), .val (.int i5), .unset, .unset, .unset, .unset, .unset, .unset, .unset, .unset, .unset, .unset] [(.int (i1.toInt8.toInt32)), (.int (1 : Int32)), (.ref b7), (.ref b7)])) rfl rfl (hb hby at_12)
  have V9 : own_AF Z h9 b7 .byte 4 (fun i => if i = 1 then (nar .byte (i1.toInt8.toInt32)) else gf8 i) := own_AFset Ar9 Sz9 Ht9 W9
  obtain ⟨gf9, hgf9⟩ : ∃ g' : Nat → Int32, g' = (fun i => if i = 1 then (nar .byte (i1.toInt8.toInt32)) else gf8 i) := ⟨_, rfl⟩
  rw [← hgf9] at V9
  have N9 := Fr.snoc X9 N8 fr7
  have Z09 : n0 ≤ h9.size := Nat.le_trans Z08 (Nat.le_of_eq W9.size.symm)
  refine own_step st9 ?_
  show own_Fin p e below s Q 16 128 (T9.setTop (mkF m 13 #[.val (.int i0), .val (.int i1), .val (.int i2), .val (.int i3), .val (.int i4), .val (.int i5), .unset, .unset, .unset, .unset, .unset, .unset, .unset, .unset, .unset, .unset] [(.ref b7)]))
  refine own_step (fun t k => XS.dup X9.here hx rfl (hb hby at_13) rfl rfl k) ?_
  show own_Fin p e below s Q 16 128 (T9.setTop (mkF m 14 #[.val (.int i0), .val (.int i1), .val (.int i2), .val (.int i3), .val (.int i4), .val (.int i5), .unset, .unset, .unset, .unset, .unset, .unset, .unset, .unset, .unset, .unset] [(.ref b7), (.ref b7)]))
  refine own_step (fun t k => XS.iconst X9.here hx rfl (hb hby at_14) k) ?_
  show own_Fin p e below s Q 16 128 (T9.setTop (mkF m 15 #[.val (.int i0), .val (.int i1), .val (.int i2), .val (.int i3), .val (.int i4), .val (.int i5), .unset, .unset, .unset, .unset, .unset, .unset, .unset, .unset, .unset, .unset] [(.int (2 : Int32)), (.ref b7), (.ref b7)]))
  refine own_step (fun t k => XS.iloadN X9.here hx rfl (hb hby at_15) rfl  k) ?_
  show own_Fin p e below s Q 16 128 (T9.setTop (mkF m 16 #[.val (.int i0), .val (.int i1), .val (.int i2), .val (.int i3), .val (.int i4), .val (.int i5), .unset, .unset, .unset, .unset, .unset, .unset, .unset, .unset, .unset, .unset] [(.int i2), (.int (2 : Int32)), (.ref b7), (.ref b7)]))
  refine own_step (fun t k => XS.i2b X9.here hx rfl (hb hby at_16) rfl k) ?_
  show own_Fin p e below s Q 16 128 (T9.setTop (mkF m 17 #[.val (.int i0), .val (.int i1), .val (.int i2), .val (.int i3), .val (.int i4), .val (.int i5), .unset, .unset, .unset, .unset, .unset, .unset, .unset, .unset, .unset, .unset] [(.int (i2.toInt8.toInt32)), (.int (2 : Int32)), (.ref b7), (.ref b7)]))
  obtain ⟨ca10, Ar10, Sz10, Ht10⟩ := id V9
  have hin10 : ¬ ((2 : Int32) < 0 ∨ ca10.slots.size ≤ ((2 : Int32)).toNatClampNeg) := by rw [Sz10]; exact (by decide)
  obtain ⟨T10, h10, X10, e10, W10, st10⟩ := stB X9 hx hZ e9 Ar10 (j := (2 : Int32)) hin10 (g := (mkF m 17 #[.val (.int i0), .val (.int i1), .val (.int i2), .val (.int i3), .val (.int i4), .val (.int i5), .unset, .unset, .unset, .unset, .unset, .unset, .unset, .unset, .unset, .unset] [(.int (i2.toInt8.toInt32)), (.int (2 : Int32)), (.ref b7), (.ref b7)])) rfl rfl (hb hby at_17)
  have V10 : own_AF Z h10 b7 .byte 4 (fun i => if i = 2 then (nar .byte (i2.toInt8.toInt32)) else gf9 i) := own_AFset Ar10 Sz10 Ht10 W10
  obtain ⟨gf10, hgf10⟩ : ∃ g' : Nat → Int32, g' = (fun i => if i = 2 then (nar .byte (i2.toInt8.toInt32)) else gf9 i) := ⟨_, rfl⟩
  rw [← hgf10] at V10
  have N10 := Fr.snoc X10 N9 fr7
  have Z010 : n0 ≤ h10.size := Nat.le_trans Z09 (Nat.le_of_eq W10.size.symm)
  refine own_step st10 ?_
  show own_Fin p e below s Q 16 128 (T10.setTop (mkF m 18 #[.val (.int i0), .val (.int i1), .val (.int i2), .val (.int i3), .val (.int i4), .val (.int i5), .unset, .unset, .unset, .unset, .unset, .unset, .unset, .unset, .unset, .unset] [(.ref b7)]))
  refine own_step (fun t k => XS.dup X10.here hx rfl (hb hby at_18) rfl rfl k) ?_
  show own_Fin p e below s Q 16 128 (T10.setTop (mkF m 19 #[.val (.int i0), .val (.int i1), .val (.int i2), .val (.int i3), .val (.int i4), .val (.int i5), .unset, .unset, .unset, .unset, .unset, .unset, .unset, .unset, .unset, .unset] [(.ref b7), (.ref b7)]))
  refine own_step (fun t k => XS.iconst X10.here hx rfl (hb hby at_19) k) ?_
  show own_Fin p e below s Q 16 128 (T10.setTop (mkF m 20 #[.val (.int i0), .val (.int i1), .val (.int i2), .val (.int i3), .val (.int i4), .val (.int i5), .unset, .unset, .unset, .unset, .unset, .unset, .unset, .unset, .unset, .unset] [(.int (3 : Int32)), (.ref b7), (.ref b7)]))
  refine own_step (fun t k => XS.iloadN X10.here hx rfl (hb hby at_20) rfl  k) ?_
  show own_Fin p e below s Q 16 128 (T10.setTop (mkF m 21 #[.val (.int i0), .val (.int i1), .val (.int i2), .val (.int i3), .val (.int i4), .val (.int i5), .unset, .unset, .unset, .unset, .unset, .unset, .unset, .unset, .unset, .unset] [(.int i3), (.int (3 : Int32)), (.ref b7), (.ref b7)]))
  refine own_step (fun t k => XS.i2b X10.here hx rfl (hb hby at_21) rfl k) ?_
  show own_Fin p e below s Q 16 128 (T10.setTop (mkF m 22 #[.val (.int i0), .val (.int i1), .val (.int i2), .val (.int i3), .val (.int i4), .val (.int i5), .unset, .unset, .unset, .unset, .unset, .unset, .unset, .unset, .unset, .unset] [(.int (i3.toInt8.toInt32)), (.int (3 : Int32)), (.ref b7), (.ref b7)]))
  obtain ⟨ca11, Ar11, Sz11, Ht11⟩ := id V10
  have hin11 : ¬ ((3 : Int32) < 0 ∨ ca11.slots.size ≤ ((3 : Int32)).toNatClampNeg) := by rw [Sz11]; exact (by decide)
  obtain ⟨T11, h11, X11, e11, W11, st11⟩ := stB X10 hx hZ e10 Ar11 (j := (3 : Int32)) hin11 (g := (mkF m 22 #[.val (.int i0), .val (.int i1), .val (.int i2), .val (.int i3), .val (.int i4), .val (.int i5), .unset, .unset, .unset, .unset, .unset, .unset, .unset, .unset, .unset, .unset] [(.int (i3.toInt8.toInt32)), (.int (3 : Int32)), (.ref b7), (.ref b7)])) rfl rfl (hb hby at_22)
  have V11 : own_AF Z h11 b7 .byte 4 (fun i => if i = 3 then (nar .byte (i3.toInt8.toInt32)) else gf10 i) := own_AFset Ar11 Sz11 Ht11 W11
  obtain ⟨gf11, hgf11⟩ : ∃ g' : Nat → Int32, g' = (fun i => if i = 3 then (nar .byte (i3.toInt8.toInt32)) else gf10 i) := ⟨_, rfl⟩
  rw [← hgf11] at V11
  have N11 := Fr.snoc X11 N10 fr7
  have Z011 : n0 ≤ h11.size := Nat.le_trans Z010 (Nat.le_of_eq W11.size.symm)
  refine own_step st11 ?_
  show own_Fin p e below s Q 16 128 (T11.setTop (mkF m 23 #[.val (.int i0), .val (.int i1), .val (.int i2), .val (.int i3), .val (.int i4), .val (.int i5), .unset, .unset, .unset, .unset, .unset, .unset, .unset, .unset, .unset, .unset] [(.ref b7)]))
  refine own_step (fun t k => XS.astore X11.here hx rfl (hb hby at_23) rfl rfl (l' := #[.val (.int i0), .val (.int i1), .val (.int i2), .val (.int i3), .val (.int i4), .val (.int i5), .val (.ref b7), .unset, .unset, .unset, .unset, .unset, .unset, .unset, .unset, .unset]) rfl k) ?_
  show own_Fin p e below s Q 16 128 (T11.setTop (mkF m 25 #[.val (.int i0), .val (.int i1), .val (.int i2), .val (.int i3), .val (.int i4), .val (.int i5), .val (.ref b7), .unset, .unset, .unset, .unset, .unset, .unset, .unset, .unset, .unset] []))
  refine own_step (fun t k => XS.iload X11.here hx rfl (hb hby at_25) rfl  k) ?_
  show own_Fin p e below s Q 16 128 (T11.setTop (mkF m 27 #[.val (.int i0), .val (.int i1), .val (.int i2), .val (.int i3), .val (.int i4), .val (.int i5), .val (.ref b7), .unset, .unset, .unset, .unset, .unset, .unset, .unset, .unset, .unset] [(.int i4)]))
  refine own_step (fun t k => XS.bipush X11.here hx rfl (hb hby at_27) k) ?_
  show own_Fin p e below s Q 16 128 (T11.setTop (mkF m 29 #[.val (.int i0), .val (.int i1), .val (.int i2), .val (.int i3), .val (.int i4), .val (.int i5), .val (.ref b7), .unset, .unset, .unset, .unset, .unset, .unset, .unset, .unset, .unset] [(.int (7 : Int32)), (.int i4)]))
  refine own_step (fun t k => XS.iand X11.here hx rfl (hb hby at_29) rfl k) ?_
  show own_Fin p e below s Q 16 128 (T11.setTop (mkF m 30 #[.val (.int i0), .val (.int i1), .val (.int i2), .val (.int i3), .val (.int i4), .val (.int i5), .val (.ref b7), .unset, .unset, .unset, .unset, .unset, .unset, .unset, .unset, .unset] [(.int (i4 &&& (7 : Int32)))]))
  refine own_step (fun t k => XS.iconst X11.here hx rfl (hb hby at_30) k) ?_
  show own_Fin p e below s Q 16 128 (T11.setTop (mkF m 31 #[.val (.int i0), .val (.int i1), .val (.int i2), .val (.int i3), .val (.int i4), .val (.int i5), .val (.ref b7), .unset, .unset, .unset, .unset, .unset, .unset, .unset, .unset, .unset] [(.int (5 : Int32)), (.int (i4 &&& (7 : Int32)))]))
  refine own_step (fun t k => XS.irem X11.here hx rfl (hb hby at_31) rfl (by decide) k) ?_
  rw [irem_eq_mod (i4 &&& (7 : Int32)) (5 : Int32)]
  show own_Fin p e below s Q 16 128 (T11.setTop (mkF m 32 #[.val (.int i0), .val (.int i1), .val (.int i2), .val (.int i3), .val (.int i4), .val (.int i5), .val (.ref b7), .unset, .unset, .unset, .unset, .unset, .unset, .unset, .unset, .unset] [(.int ((i4 &&& (7 : Int32)) % (5 : Int32)))]))
  refine own_step (fun t k => XS.istore X11.here hx rfl (hb hby at_32) rfl (l' := #[.val (.int i0), .val (.int i1), .val (.int i2), .val (.int i3), .val (.int i4), .val (.int i5), .val (.ref b7), .val (.int ((i4 &&& (7 : Int32)) % (5 : Int32))), .unset, .unset, .unset, .unset, .unset, .unset, .unset, .unset]) rfl k) ?_
  show own_Fin p e below s Q 16 128 (T11.setTop (mkF m 34 #[.val (.int i0), .val (.int i1), .val (.int i2), .val (.int i3), .val (.int i4), .val (.int i5), .val (.ref b7), .val (.int ((i4 &&& (7 : Int32)) % (5 : Int32))), .unset, .unset, .unset, .unset, .unset, .unset, .unset, .unset] []))
  refine own_step (fun t k => XS.iload X11.here hx rfl (hb hby at_34) rfl  k) ?_
  show own_Fin p e below s Q 16 128 (T11.setTop (mkF m 36 #[.val (.int i0), .val (.int i1), .val (.int i2), .val (.int i3), .val (.int i4), .val (.int i5), .val (.ref b7), .val (.int ((i4 &&& (7 : Int32)) % (5 : Int32))), .unset, .unset, .unset, .unset, .unset, .unset, .unset, .unset] [(.int i4)]))
  refine own_step (fun t k => XS.iconst X11.here hx rfl (hb hby at_36) k) ?_
  show own_Fin p e below s Q 16 128 (T11.setTop (mkF m 37 #[.val (.int i0), .val (.int i1), .val (.int i2), .val (.int i3), .val (.int i4), .val (.int i5), .val (.ref b7), .val (.int ((i4 &&& (7 : Int32)) % (5 : Int32))), .unset, .unset, .unset, .unset, .unset, .unset, .unset, .unset] [(.int (3 : Int32)), (.int i4)]))
  refine own_step (fun t k => XS.iushr X11.here hx rfl (hb hby at_37) rfl k) ?_
  show own_Fin p e below s Q 16 128 (T11.setTop (mkF m 38 #[.val (.int i0), .val (.int i1), .val (.int i2), .val (.int i3), .val (.int i4), .val (.int i5), .val (.ref b7), .val (.int ((i4 &&& (7 : Int32)) % (5 : Int32))), .unset, .unset, .unset, .unset, .unset, .unset, .unset, .unset] [(.int ((i4.toUInt32 >>> ((3 : Int32) &&& 31).toUInt32).toInt32))]))
  refine own_step (fun t k => XS.bipush X11.here hx rfl (hb hby at_38) k) ?_
  show own_Fin p e below s Q 16 128 (T11.setTop (mkF m 40 #[.val (.int i0), .val (.int i1), .val (.int i2), .val (.int i3), .val (.int i4), .val (.int i5), .val (.ref b7), .val (.int ((i4 &&& (7 : Int32)) % (5 : Int32))), .unset, .unset, .unset, .unset, .unset, .unset, .unset, .unset] [(.int (7 : Int32)), (.int ((i4.toUInt32 >>> ((3 : Int32) &&& 31).toUInt32).toInt32))]))
  refine own_step (fun t k => XS.iand X11.here hx rfl (hb hby at_40) rfl k) ?_
  show own_Fin p e below s Q 16 128 (T11.setTop (mkF m 41 #[.val (.int i0), .val (.int i1), .val (.int i2), .val (.int i3), .val (.int i4), .val (.int i5), .val (.ref b7), .val (.int ((i4 &&& (7 : Int32)) % (5 : Int32))), .unset, .unset, .unset, .unset, .unset, .unset, .unset, .unset] [(.int (((i4.toUInt32 >>> ((3 : Int32) &&& 31).toUInt32).toInt32) &&& (7 : Int32)))]))
  refine own_step (fun t k => XS.iconst X11.here hx rfl (hb hby at_41) k) ?_
  show own_Fin p e below s Q 16 128 (T11.setTop (mkF m 42 #[.val (.int i0), .val (.int i1), .val (.int i2), .val (.int i3), .val (.int i4), .val (.int i5), .val (.ref b7), .val (.int ((i4 &&& (7 : Int32)) % (5 : Int32))), .unset, .unset, .unset, .unset, .unset, .unset, .unset, .unset] [(.int (5 : Int32)), (.int (((i4.toUInt32 >>> ((3 : Int32) &&& 31).toUInt32).toInt32) &&& (7 : Int32)))]))
  refine own_step (fun t k => XS.irem X11.here hx rfl (hb hby at_42) rfl (by decide) k) ?_
  rw [irem_eq_mod (((i4.toUInt32 >>> ((3 : Int32) &&& 31).toUInt32).toInt32) &&& (7 : Int32)) (5 : Int32)]
  show own_Fin p e below s Q 16 128 (T11.setTop (mkF m 43 #[.val (.int i0), .val (.int i1), .val (.int i2), .val (.int i3), .val (.int i4), .val (.int i5), .val (.ref b7), .val (.int ((i4 &&& (7 : Int32)) % (5 : Int32))), .unset, .unset, .unset, .unset, .unset, .unset, .unset, .unset] [(.int ((((i4.toUInt32 >>> ((3 : Int32) &&& 31).toUInt32).toInt32) &&& (7 : Int32)) % (5 : Int32)))]))
  refine own_step (fun t k => XS.istore X11.here hx rfl (hb hby at_43) rfl (l' := #[.val (.int i0), .val (.int i1), .val (.int i2), .val (.int i3), .val (.int i4), .val (.int i5), .val (.ref b7), .val (.int ((i4 &&& (7 : Int32)) % (5 : Int32))), .val (.int ((((i4.toUInt32 >>> ((3 : Int32) &&& 31).toUInt32).toInt32) &&& (7 : Int32)) % (5 : Int32))), .unset, .unset, .unset, .unset, .unset, .unset, .unset]) rfl k) ?_
  show own_Fin p e below s Q 16 128 (T11.setTop (mkF m 45 #[.val (.int i0), .val (.int i1), .val (.int i2), .val (.int i3), .val (.int i4), .val (.int i5), .val (.ref b7), .val (.int ((i4 &&& (7 : Int32)) % (5 : Int32))), .val (.int ((((i4.toUInt32 >>> ((3 : Int32) &&& 31).toUInt32).toInt32) &&& (7 : Int32)) % (5 : Int32))), .unset, .unset, .unset, .unset, .unset, .unset, .unset] []))
  refine own_step (fun t k => XS.iload X11.here hx rfl (hb hby at_45) rfl  k) ?_
  show own_Fin p e below s Q 16 128 (T11.setTop (mkF m 47 #[.val (.int i0), .val (.int i1), .val (.int i2), .val (.int i3), .val (.int i4), .val (.int i5), .val (.ref b7), .val (.int ((i4 &&& (7 : Int32)) % (5 : Int32))), .val (.int ((((i4.toUInt32 >>> ((3 : Int32) &&& 31).toUInt32).toInt32) &&& (7 : Int32)) % (5 : Int32))), .unset, .unset, .unset, .unset, .unset, .unset, .unset] [(.int ((i4 &&& (7 : Int32)) % (5 : Int32)))]))
  refine own_step (fun t k => XS.iload X11.here hx rfl (hb hby at_47) rfl  k) ?_
  show own_Fin p e below s Q 16 128 (T11.setTop (mkF m 49 #[.val (.int i0), .val (.int i1), .val (.int i2), .val (.int i3), .val (.int i4), .val (.int i5), .val (.ref b7), .val (.int ((i4 &&& (7 : Int32)) % (5 : Int32))), .val (.int ((((i4.toUInt32 >>> ((3 : Int32) &&& 31).toUInt32).toInt32) &&& (7 : Int32)) % (5 : Int32))), .unset, .unset, .unset, .unset, .unset, .unset, .unset] [(.int ((((i4.toUInt32 >>> ((3 : Int32) &&& 31).toUInt32).toInt32) &&& (7 : Int32)) % (5 : Int32))), (.int ((i4 &&& (7 : Int32)) % (5 : Int32)))]))
  obtain ⟨_, _, ⟨T12, L12, k12, n12⟩, -, X12, ⟨Lc12, hQ12, l12, y12, z12⟩, st12⟩ := Jvm.LawKit.callS X11 hx (y := (⟨"java/lang/Math", "min", "(II)I"⟩ : MethodName)) hown (mvT hZ (hw _ (List.mem_of_getElem? (i := 1) rfl))) (mvT hZ (hw _ (List.mem_of_getElem? (i := 2) rfl))) (mvT hZ (hw _ (List.mem_of_getElem? (i := 3) rfl))) (mvT hZ (hw _ (List.mem_of_getElem? (i := 4) rfl))) (by decide) (backOf (W := 0) (rm1 l Z a0 hw [] ((i4 &&& (7 : Int32)) % (5 : Int32)) ((((i4.toUInt32 >>> ((3 : Int32) &&& 31).toUInt32).toInt32) &&& (7 : Int32)) % (5 : Int32)) h11 n0) hZ (hw _ (List.mem_of_getElem? (i := 4) rfl)) (hw _ (List.mem_of_getElem? (i := 3) rfl)) (by decide) (by decide)) (g := (mkF m 49 #[.val (.int i0), .val (.int i1), .val (.int i2), .val (.int i3), .val (.int i4), .val (.int i5), .val (.ref b7), .val (.int ((i4 &&& (7 : Int32)) % (5 : Int32))), .val (.int ((((i4.toUInt32 >>> ((3 : Int32) &&& 31).toUInt32).toInt32) &&& (7 : Int32)) % (5 : Int32))), .unset, .unset, .unset, .unset, .unset, .unset, .unset] [(.int ((((i4.toUInt32 >>> ((3 : Int32) &&& 31).toUInt32).toInt32) &&& (7 : Int32)) % (5 : Int32))), (.int ((i4 &&& (7 : Int32)) % (5 : Int32)))])) rfl (by rw [hml]; rfl) (argsL := [(.int ((i4 &&& (7 : Int32)) % (5 : Int32))), (.int ((((i4.toUInt32 >>> ((3 : Int32) &&& 31).toUInt32).toInt32) &&& (7 : Int32)) % (5 : Int32)))]) (rest := []) (lenOf pdm_0 rfl) rfl (by show 2 * 0 + _ ≤ _; exact Nat.le_of_eq rfl) (hb hby at_49) (fun _ _ => ⟨rfl, e11, (show cells + 1 + 0 ≤ 16 from (Nat.le_trans (Nat.add_le_add_right hc 1) (by decide))), (show slots + 4 + 0 ≤ 128 from (Nat.le_trans (Nat.add_le_add_right hs 4) (by decide)))⟩)
  dsimp only [Pt.U, Pt.locs, Pt.cells, Pt.slots] at X12 l12 y12 z12 st12 hQ12
  have yy12 : k12 = cells + 1 + 0 := y12
  have zz12 : n12 = slots + 4 + 0 := z12
  rw [yy12, zz12, l12] at X12
  obtain ⟨rfl, N12q, e12⟩ := hQ12
  have N12 := Fr.app N11 N12q
  refine own_step st12 ?_
  show own_Fin p e below s Q 16 128 (T12.setTop (mkF m 52 #[.val (.int i0), .val (.int i1), .val (.int i2), .val (.int i3), .val (.int i4), .val (.int i5), .val (.ref b7), .val (.int ((i4 &&& (7 : Int32)) % (5 : Int32))), .val (.int ((((i4.toUInt32 >>> ((3 : Int32) &&& 31).toUInt32).toInt32) &&& (7 : Int32)) % (5 : Int32))), .unset, .unset, .unset, .unset, .unset, .unset, .unset] [(.int (f1_0 ((i4 &&& (7 : Int32)) % (5 : Int32)) ((((i4.toUInt32 >>> ((3 : Int32) &&& 31).toUInt32).toInt32) &&& (7 : Int32)) % (5 : Int32))))]))
  refine own_step (fun t k => XS.istore X12.here hx rfl (hb hby at_52) rfl (l' := #[.val (.int i0), .val (.int i1), .val (.int i2), .val (.int i3), .val (.int i4), .val (.int i5), .val (.ref b7), .val (.int ((i4 &&& (7 : Int32)) % (5 : Int32))), .val (.int ((((i4.toUInt32 >>> ((3 : Int32) &&& 31).toUInt32).toInt32) &&& (7 : Int32)) % (5 : Int32))), .val (.int (f1_0 ((i4 &&& (7 : Int32)) % (5 : Int32)) ((((i4.toUInt32 >>> ((3 : Int32) &&& 31).toUInt32).toInt32) &&& (7 : Int32)) % (5 : Int32)))), .unset, .unset, .unset, .unset, .unset, .unset]) rfl k) ?_
  show own_Fin p e below s Q 16 128 (T12.setTop (mkF m 54 #[.val (.int i0), .val (.int i1), .val (.int i2), .val (.int i3), .val (.int i4), .val (.int i5), .val (.ref b7), .val (.int ((i4 &&& (7 : Int32)) % (5 : Int32))), .val (.int ((((i4.toUInt32 >>> ((3 : Int32) &&& 31).toUInt32).toInt32) &&& (7 : Int32)) % (5 : Int32))), .val (.int (f1_0 ((i4 &&& (7 : Int32)) % (5 : Int32)) ((((i4.toUInt32 >>> ((3 : Int32) &&& 31).toUInt32).toInt32) &&& (7 : Int32)) % (5 : Int32)))), .unset, .unset, .unset, .unset, .unset, .unset] []))
  refine own_step (fun t k => XS.iload X12.here hx rfl (hb hby at_54) rfl  k) ?_
  show own_Fin p e below s Q 16 128 (T12.setTop (mkF m 56 #[.val (.int i0), .val (.int i1), .val (.int i2), .val (.int i3), .val (.int i4), .val (.int i5), .val (.ref b7), .val (.int ((i4 &&& (7 : Int32)) % (5 : Int32))), .val (.int ((((i4.toUInt32 >>> ((3 : Int32) &&& 31).toUInt32).toInt32) &&& (7 : Int32)) % (5 : Int32))), .val (.int (f1_0 ((i4 &&& (7 : Int32)) % (5 : Int32)) ((((i4.toUInt32 >>> ((3 : Int32) &&& 31).toUInt32).toInt32) &&& (7 : Int32)) % (5 : Int32)))), .unset, .unset, .unset, .unset, .unset, .unset] [(.int ((i4 &&& (7 : Int32)) % (5 : Int32)))]))
  refine own_step (fun t k => XS.iload X12.here hx rfl (hb hby at_56) rfl  k) ?_
  show own_Fin p e below s Q 16 128 (T12.setTop (mkF m 58 #[.val (.int i0), .val (.int i1), .val (.int i2), .val (.int i3), .val (.int i4), .val (.int i5), .val (.ref b7), .val (.int ((i4 &&& (7 : Int32)) % (5 : Int32))), .val (.int ((((i4.toUInt32 >>> ((3 : Int32) &&& 31).toUInt32).toInt32) &&& (7 : Int32)) % (5 : Int32))), .val (.int (f1_0 ((i4 &&& (7 : Int32)) % (5 : Int32)) ((((i4.toUInt32 >>> ((3 : Int32) &&& 31).toUInt32).toInt32) &&& (7 : Int32)) % (5 : Int32)))), .unset, .unset, .unset, .unset, .unset, .unset] [(.int ((((i4.toUInt32 >>> ((3 : Int32) &&& 31).toUInt32).toInt32) &&& (7 : Int32)) % (5 : Int32))), (.int ((i4 &&& (7 : Int32)) % (5 : Int32)))]))
  obtain ⟨_, _, ⟨T13, L13, k13, n13⟩, -, X13, ⟨Lc13, hQ13, l13, y13, z13⟩, st13⟩ := Jvm.LawKit.callS X12 hx (y := (⟨"java/lang/Math", "max", "(II)I"⟩ : MethodName)) hown (mvT hZ (hw _ (List.mem_of_getElem? (i := 5) rfl))) (mvT hZ (hw _ (List.mem_of_getElem? (i := 6) rfl))) (mvT hZ (hw _ (List.mem_of_getElem? (i := 3) rfl))) (mvT hZ (hw _ (List.mem_of_getElem? (i := 7) rfl))) (by decide) (backOf (W := 0) (rm2 l Z a0 hw [] ((i4 &&& (7 : Int32)) % (5 : Int32)) ((((i4.toUInt32 >>> ((3 : Int32) &&& 31).toUInt32).toInt32) &&& (7 : Int32)) % (5 : Int32)) h11 n0) hZ (hw _ (List.mem_of_getElem? (i := 7) rfl)) (hw _ (List.mem_of_getElem? (i := 3) rfl)) (by decide) (by decide)) (g := (mkF m 58 #[.val (.int i0), .val (.int i1), .val (.int i2), .val (.int i3), .val (.int i4), .val (.int i5), .val (.ref b7), .val (.int ((i4 &&& (7 : Int32)) % (5 : Int32))), .val (.int ((((i4.toUInt32 >>> ((3 : Int32) &&& 31).toUInt32).toInt32) &&& (7 : Int32)) % (5 : Int32))), .val (.int (f1_0 ((i4 &&& (7 : Int32)) % (5 : Int32)) ((((i4.toUInt32 >>> ((3 : Int32) &&& 31).toUInt32).toInt32) &&& (7 : Int32)) % (5 : Int32)))), .unset, .unset, .unset, .unset, .unset, .unset] [(.int ((((i4.toUInt32 >>> ((3 : Int32) &&& 31).toUInt32).toInt32) &&& (7 : Int32)) % (5 : Int32))), (.int ((i4 &&& (7 : Int32)) % (5 : Int32)))])) rfl (by rw [hml]; rfl) (argsL := [(.int ((i4 &&& (7 : Int32)) % (5 : Int32))), (.int ((((i4.toUInt32 >>> ((3 : Int32) &&& 31).toUInt32).toInt32) &&& (7 : Int32)) % (5 : Int32)))]) (rest := []) (lenOf pdm_0 rfl) rfl (by show 2 * 0 + _ ≤ _; exact Nat.le_of_eq rfl) (hb hby at_58) (fun _ _ => ⟨rfl, e12, (show cells + 1 + 0 + 0 ≤ 16 from (Nat.le_trans (Nat.add_le_add_right hc 1) (by decide))), (show slots + 4 + 0 + 0 ≤ 128 from (Nat.le_trans (Nat.add_le_add_right hs 4) (by decide)))⟩)
  dsimp only [Pt.U, Pt.locs, Pt.cells, Pt.slots] at X13 l13 y13 z13 st13 hQ13
  have yy13 : k13 = cells + 1 + 0 + 0 := y13
  have zz13 : n13 = slots + 4 + 0 + 0 := z13
  rw [yy13, zz13, l13] at X13
  obtain ⟨rfl, N13q, e13⟩ := hQ13
  have N13 := Fr.app N12 N13q
  refine own_step st13 ?_
  show own_Fin p e below s Q 16 128 (T13.setTop (mkF m 61 #[.val (.int i0), .val (.int i1), .val (.int i2), .val (.int i3), .val (.int i4), .val (.int i5), .val (.ref b7), .val (.int ((i4 &&& (7 : Int32)) % (5 : Int32))), .val (.int ((((i4.toUInt32 >>> ((3 : Int32) &&& 31).toUInt32).toInt32) &&& (7 : Int32)) % (5 : Int32))), .val (.int (f1_0 ((i4 &&& (7 : Int32)) % (5 : Int32)) ((((i4.toUInt32 >>> ((3 : Int32) &&& 31).toUInt32).toInt32) &&& (7 : Int32)) % (5 : Int32)))), .unset, .unset, .unset, .unset, .unset, .unset] [(.int (f2_0 ((i4 &&& (7 : Int32)) % (5 : Int32)) ((((i4.toUInt32 >>> ((3 : Int32) &&& 31).toUInt32).toInt32) &&& (7 : Int32)) % (5 : Int32))))]))
  refine own_step (fun t k => XS.istore X13.here hx rfl (hb hby at_61) rfl (l' := #[.val (.int i0), .val (.int i1), .val (.int i2), .val (.int i3), .val (.int i4), .val (.int i5), .val (.ref b7), .val (.int ((i4 &&& (7 : Int32)) % (5 : Int32))), .val (.int ((((i4.toUInt32 >>> ((3 : Int32) &&& 31).toUInt32).toInt32) &&& (7 : Int32)) % (5 : Int32))), .val (.int (f1_0 ((i4 &&& (7 : Int32)) % (5 : Int32)) ((((i4.toUInt32 >>> ((3 : Int32) &&& 31).toUInt32).toInt32) &&& (7 : Int32)) % (5 : Int32)))), .val (.int (f2_0 ((i4 &&& (7 : Int32)) % (5 : Int32)) ((((i4.toUInt32 >>> ((3 : Int32) &&& 31).toUInt32).toInt32) &&& (7 : Int32)) % (5 : Int32)))), .unset, .unset, .unset, .unset, .unset]) rfl k) ?_
  show own_Fin p e below s Q 16 128 (T13.setTop (mkF m 63 #[.val (.int i0), .val (.int i1), .val (.int i2), .val (.int i3), .val (.int i4), .val (.int i5), .val (.ref b7), .val (.int ((i4 &&& (7 : Int32)) % (5 : Int32))), .val (.int ((((i4.toUInt32 >>> ((3 : Int32) &&& 31).toUInt32).toInt32) &&& (7 : Int32)) % (5 : Int32))), .val (.int (f1_0 ((i4 &&& (7 : Int32)) % (5 : Int32)) ((((i4.toUInt32 >>> ((3 : Int32) &&& 31).toUInt32).toInt32) &&& (7 : Int32)) % (5 : Int32)))), .val (.int (f2_0 ((i4 &&& (7 : Int32)) % (5 : Int32)) ((((i4.toUInt32 >>> ((3 : Int32) &&& 31).toUInt32).toInt32) &&& (7 : Int32)) % (5 : Int32)))), .unset, .unset, .unset, .unset, .unset] []))
  refine own_step (X13.ldcInt hx hown (mvT hZ (hw _ (List.mem_of_getElem? (i := 8) rfl))) (g := (mkF m 63 #[.val (.int i0), .val (.int i1), .val (.int i2), .val (.int i3), .val (.int i4), .val (.int i5), .val (.ref b7), .val (.int ((i4 &&& (7 : Int32)) % (5 : Int32))), .val (.int ((((i4.toUInt32 >>> ((3 : Int32) &&& 31).toUInt32).toInt32) &&& (7 : Int32)) % (5 : Int32))), .val (.int (f1_0 ((i4 &&& (7 : Int32)) % (5 : Int32)) ((((i4.toUInt32 >>> ((3 : Int32) &&& 31).toUInt32).toInt32) &&& (7 : Int32)) % (5 : Int32)))), .val (.int (f2_0 ((i4 &&& (7 : Int32)) % (5 : Int32)) ((((i4.toUInt32 >>> ((3 : Int32) &&& 31).toUInt32).toInt32) &&& (7 : Int32)) % (5 : Int32)))), .unset, .unset, .unset, .unset, .unset] [])) rfl (hb hby at_63)) ?_
  show own_Fin p e below s Q 16 128 (T13.setTop (mkF m 65 #[.val (.int i0), .val (.int i1), .val (.int i2), .val (.int i3), .val (.int i4), .val (.int i5), .val (.ref b7), .val (.int ((i4 &&& (7 : Int32)) % (5 : Int32))), .val (.int ((((i4.toUInt32 >>> ((3 : Int32) &&& 31).toUInt32).toInt32) &&& (7 : Int32)) % (5 : Int32))), .val (.int (f1_0 ((i4 &&& (7 : Int32)) % (5 : Int32)) ((((i4.toUInt32 >>> ((3 : Int32) &&& 31).toUInt32).toInt32) &&& (7 : Int32)) % (5 : Int32)))), .val (.int (f2_0 ((i4 &&& (7 : Int32)) % (5 : Int32)) ((((i4.toUInt32 >>> ((3 : Int32) &&& 31).toUInt32).toInt32) &&& (7 : Int32)) % (5 : Int32)))), .unset, .unset, .unset, .unset, .unset] [(.int (-2128831035 : Int32))]))
  refine own_step (fun t k => XS.istore X13.here hx rfl (hb hby at_65) rfl (l' := #[.val (.int i0), .val (.int i1), .val (.int i2), .val (.int i3), .val (.int i4), .val (.int i5), .val (.ref b7), .val (.int ((i4 &&& (7 : Int32)) % (5 : Int32))), .val (.int ((((i4.toUInt32 >>> ((3 : Int32) &&& 31).toUInt32).toInt32) &&& (7 : Int32)) % (5 : Int32))), .val (.int (f1_0 ((i4 &&& (7 : Int32)) % (5 : Int32)) ((((i4.toUInt32 >>> ((3 : Int32) &&& 31).toUInt32).toInt32) &&& (7 : Int32)) % (5 : Int32)))), .val (.int (f2_0 ((i4 &&& (7 : Int32)) % (5 : Int32)) ((((i4.toUInt32 >>> ((3 : Int32) &&& 31).toUInt32).toInt32) &&& (7 : Int32)) % (5 : Int32)))), .val (.int (-2128831035 : Int32)), .unset, .unset, .unset, .unset]) rfl k) ?_
  show own_Fin p e below s Q 16 128 (T13.setTop (mkF m 67 #[.val (.int i0), .val (.int i1), .val (.int i2), .val (.int i3), .val (.int i4), .val (.int i5), .val (.ref b7), .val (.int ((i4 &&& (7 : Int32)) % (5 : Int32))), .val (.int ((((i4.toUInt32 >>> ((3 : Int32) &&& 31).toUInt32).toInt32) &&& (7 : Int32)) % (5 : Int32))), .val (.int (f1_0 ((i4 &&& (7 : Int32)) % (5 : Int32)) ((((i4.toUInt32 >>> ((3 : Int32) &&& 31).toUInt32).toInt32) &&& (7 : Int32)) % (5 : Int32)))), .val (.int (f2_0 ((i4 &&& (7 : Int32)) % (5 : Int32)) ((((i4.toUInt32 >>> ((3 : Int32) &&& 31).toUInt32).toInt32) &&& (7 : Int32)) % (5 : Int32)))), .val (.int (-2128831035 : Int32)), .unset, .unset, .unset, .unset] []))
  refine own_step (fun t k => XS.iload X13.here hx rfl (hb hby at_67) rfl  k) ?_
  show own_Fin p e below s Q 16 128 (T13.setTop (mkF m 69 #[.val (.int i0), .val (.int i1), .val (.int i2), .val (.int i3), .val (.int i4), .val (.int i5), .val (.ref b7), .val (.int ((i4 &&& (7 : Int32)) % (5 : Int32))), .val (.int ((((i4.toUInt32 >>> ((3 : Int32) &&& 31).toUInt32).toInt32) &&& (7 : Int32)) % (5 : Int32))), .val (.int (f1_0 ((i4 &&& (7 : Int32)) % (5 : Int32)) ((((i4.toUInt32 >>> ((3 : Int32) &&& 31).toUInt32).toInt32) &&& (7 : Int32)) % (5 : Int32)))), .val (.int (f2_0 ((i4 &&& (7 : Int32)) % (5 : Int32)) ((((i4.toUInt32 >>> ((3 : Int32) &&& 31).toUInt32).toInt32) &&& (7 : Int32)) % (5 : Int32)))), .val (.int (-2128831035 : Int32)), .unset, .unset, .unset, .unset] [(.int (f1_0 ((i4 &&& (7 : Int32)) % (5 : Int32)) ((((i4.toUInt32 >>> ((3 : Int32) &&& 31).toUInt32).toInt32) &&& (7 : Int32)) % (5 : Int32))))]))
  by_cases hB69_14 : (0 : Int32) < (f1_0 ((i4 &&& (7 : Int32)) % (5 : Int32)) ((((i4.toUInt32 >>> ((3 : Int32) &&& 31).toUInt32).toInt32) &&& (7 : Int32)) % (5 : Int32)))
  · refine own_step (fun t k => XS.ifYes X13.here hx rfl (pc0 := 69) (pc' := 86) rfl (hb hby at_69) rfl ((if0 _ _).trans (tlt hB69_14).2.2.1) (by decide) (by decide) k) ?_
    exact b0_86 i0 i1 i2 i3 i4 i5 b7 gf11 ((i4 &&& (7 : Int32)) % (5 : Int32)) ((((i4.toUInt32 >>> ((3 : Int32) &&& 31).toUInt32).toInt32) &&& (7 : Int32)) % (5 : Int32)) (f1_0 ((i4 &&& (7 : Int32)) % (5 : Int32)) ((((i4.toUInt32 >>> ((3 : Int32) &&& 31).toUInt32).toInt32) &&& (7 : Int32)) % (5 : Int32))) (f2_0 ((i4 &&& (7 : Int32)) % (5 : Int32)) ((((i4.toUInt32 >>> ((3 : Int32) &&& 31).toUInt32).toInt32) &&& (7 : Int32)) % (5 : Int32))) (-2128831035 : Int32) hw X13 hx hZ hby hml hown hret hlk e13 N13 (Nat.le_trans (Nat.add_le_add_right hc 1) (by decide)) (Nat.le_trans (Nat.add_le_add_right hs 4) (by decide)) V11 fr7 (own_hse i4) (⟨by rw [hgf11, hgf10, hgf9, hgf8]; rfl, by rw [hgf11, hgf10, hgf9, hgf8]; rfl, by rw [hgf11, hgf10, hgf9, hgf8]; rfl, by rw [hgf11, hgf10, hgf9, hgf8]; rfl⟩) ((if_pos hB69_14).symm) Z011 hQ
  · refine own_step (fun t k => XS.ifNo X13.here hx rfl (hb hby at_69) rfl ((if0 _ _).trans (flt hB69_14).2.2.1) k) ?_
    show own_Fin p e below s Q 16 128 (T13.setTop (mkF m 72 #[.val (.int i0), .val (.int i1), .val (.int i2), .val (.int i3), .val (.int i4), .val (.int i5), .val (.ref b7), .val (.int ((i4 &&& (7 : Int32)) % (5 : Int32))), .val (.int ((((i4.toUInt32 >>> ((3 : Int32) &&& 31).toUInt32).toInt32) &&& (7 : Int32)) % (5 : Int32))), .val (.int (f1_0 ((i4 &&& (7 : Int32)) % (5 : Int32)) ((((i4.toUInt32 >>> ((3 : Int32) &&& 31).toUInt32).toInt32) &&& (7 : Int32)) % (5 : Int32)))), .val (.int (f2_0 ((i4 &&& (7 : Int32)) % (5 : Int32)) ((((i4.toUInt32 >>> ((3 : Int32) &&& 31).toUInt32).toInt32) &&& (7 : Int32)) % (5 : Int32)))), .val (.int (-2128831035 : Int32)), .unset, .unset, .unset, .unset] []))
    refine own_step (fun t k => XS.iconst X13.here hx rfl (hb hby at_72) k) ?_
    show own_Fin p e below s Q 16 128 (T13.setTop (mkF m 73 #[.val (.int i0), .val (.int i1), .val (.int i2), .val (.int i3), .val (.int i4), .val (.int i5), .val (.ref b7), .val (.int ((i4 &&& (7 : Int32)) % (5 : Int32))), .val (.int ((((i4.toUInt32 >>> ((3 : Int32) &&& 31).toUInt32).toInt32) &&& (7 : Int32)) % (5 : Int32))), .val (.int (f1_0 ((i4 &&& (7 : Int32)) % (5 : Int32)) ((((i4.toUInt32 >>> ((3 : Int32) &&& 31).toUInt32).toInt32) &&& (7 : Int32)) % (5 : Int32)))), .val (.int (f2_0 ((i4 &&& (7 : Int32)) % (5 : Int32)) ((((i4.toUInt32 >>> ((3 : Int32) &&& 31).toUInt32).toInt32) &&& (7 : Int32)) % (5 : Int32)))), .val (.int (-2128831035 : Int32)), .unset, .unset, .unset, .unset] [(.int (0 : Int32))]))
    refine own_step (fun t k => XS.iload X13.here hx rfl (hb hby at_73) rfl  k) ?_
    show own_Fin p e below s Q 16 128 (T13.setTop (mkF m 75 #[.val (.int i0), .val (.int i1), .val (.int i2), .val (.int i3), .val (.int i4), .val (.int i5), .val (.ref b7), .val (.int ((i4 &&& (7 : Int32)) % (5 : Int32))), .val (.int ((((i4.toUInt32 >>> ((3 : Int32) &&& 31).toUInt32).toInt32) &&& (7 : Int32)) % (5 : Int32))), .val (.int (f1_0 ((i4 &&& (7 : Int32)) % (5 : Int32)) ((((i4.toUInt32 >>> ((3 : Int32) &&& 31).toUInt32).toInt32) &&& (7 : Int32)) % (5 : Int32)))), .val (.int (f2_0 ((i4 &&& (7 : Int32)) % (5 : Int32)) ((((i4.toUInt32 >>> ((3 : Int32) &&& 31).toUInt32).toInt32) &&& (7 : Int32)) % (5 : Int32)))), .val (.int (-2128831035 : Int32)), .unset, .unset, .unset, .unset] [(.int (f2_0 ((i4 &&& (7 : Int32)) % (5 : Int32)) ((((i4.toUInt32 >>> ((3 : Int32) &&& 31).toUInt32).toInt32) &&& (7 : Int32)) % (5 : Int32)))), (.int (0 : Int32))]))
    by_cases hB75_40 : (0 : Int32) < (f2_0 ((i4 &&& (7 : Int32)) % (5 : Int32)) ((((i4.toUInt32 >>> ((3 : Int32) &&& 31).toUInt32).toInt32) &&& (7 : Int32)) % (5 : Int32)))
    · refine own_step (fun t k => XS.icmpNo X13.here hx rfl (hb hby at_75) rfl (tlt hB75_40).2.1 k) ?_
      show own_Fin p e below s Q 16 128 (T13.setTop (mkF m 78 #[.val (.int i0), .val (.int i1), .val (.int i2), .val (.int i3), .val (.int i4), .val (.int i5), .val (.ref b7), .val (.int ((i4 &&& (7 : Int32)) % (5 : Int32))), .val (.int ((((i4.toUInt32 >>> ((3 : Int32) &&& 31).toUInt32).toInt32) &&& (7 : Int32)) % (5 : Int32))), .val (.int (f1_0 ((i4 &&& (7 : Int32)) % (5 : Int32)) ((((i4.toUInt32 >>> ((3 : Int32) &&& 31).toUInt32).toInt32) &&& (7 : Int32)) % (5 : Int32)))), .val (.int (f2_0 ((i4 &&& (7 : Int32)) % (5 : Int32)) ((((i4.toUInt32 >>> ((3 : Int32) &&& 31).toUInt32).toInt32) &&& (7 : Int32)) % (5 : Int32)))), .val (.int (-2128831035 : Int32)), .unset, .unset, .unset, .unset] []))
      refine own_step (fun t k => XS.iload X13.here hx rfl (hb hby at_78) rfl  k) ?_
      show own_Fin p e below s Q 16 128 (T13.setTop (mkF m 80 #[.val (.int i0), .val (.int i1), .val (.int i2), .val (.int i3), .val (.int i4), .val (.int i5), .val (.ref b7), .val (.int ((i4 &&& (7 : Int32)) % (5 : Int32))), .val (.int ((((i4.toUInt32 >>> ((3 : Int32) &&& 31).toUInt32).toInt32) &&& (7 : Int32)) % (5 : Int32))), .val (.int (f1_0 ((i4 &&& (7 : Int32)) % (5 : Int32)) ((((i4.toUInt32 >>> ((3 : Int32) &&& 31).toUInt32).toInt32) &&& (7 : Int32)) % (5 : Int32)))), .val (.int (f2_0 ((i4 &&& (7 : Int32)) % (5 : Int32)) ((((i4.toUInt32 >>> ((3 : Int32) &&& 31).toUInt32).toInt32) &&& (7 : Int32)) % (5 : Int32)))), .val (.int (-2128831035 : Int32)), .unset, .unset, .unset, .unset] [(.int (-2128831035 : Int32))]))
      refine own_step (fun t k => XS.iloadN X13.here hx rfl (hb hby at_80) rfl  k) ?_
      show own_Fin p e below s Q 16 128 (T13.setTop (mkF m 81 #[.val (.int i0), .val (.int i1), .val (.int i2), .val (.int i3), .val (.int i4), .val (.int i5), .val (.ref b7), .val (.int ((i4 &&& (7 : Int32)) % (5 : Int32))), .val (.int ((((i4.toUInt32 >>> ((3 : Int32) &&& 31).toUInt32).toInt32) &&& (7 : Int32)) % (5 : Int32))), .val (.int (f1_0 ((i4 &&& (7 : Int32)) % (5 : Int32)) ((((i4.toUInt32 >>> ((3 : Int32) &&& 31).toUInt32).toInt32) &&& (7 : Int32)) % (5 : Int32)))), .val (.int (f2_0 ((i4 &&& (7 : Int32)) % (5 : Int32)) ((((i4.toUInt32 >>> ((3 : Int32) &&& 31).toUInt32).toInt32) &&& (7 : Int32)) % (5 : Int32)))), .val (.int (-2128831035 : Int32)), .unset, .unset, .unset, .unset] [(.int i0), (.int (-2128831035 : Int32))]))
      obtain ⟨_, _, ⟨T41, L41, k41, n41⟩, -, X41, ⟨Lc41, hQ41, l41, y41, z41⟩, st41⟩ := Jvm.LawKit.callS X13 hx (y := (⟨"com/example/nuthatch/nuthatch/NameTableHashPinLaw", "step", "(II)I"⟩ : MethodName)) hown (mvT hZ (hw _ (List.mem_of_getElem? (i := 22) rfl))) (mvT hZ (hw _ (List.mem_of_getElem? (i := 23) rfl))) (mvT hZ (hw _ (List.mem_of_getElem? (i := 11) rfl))) (mvT hZ (hw _ (List.mem_of_getElem? (i := 24) rfl))) (by decide) (backOf (W := 0) (rm5 l Z a0 hw [] (-2128831035 : Int32) i0 h11 n0) hZ (hw _ (List.mem_of_getElem? (i := 24) rfl)) (hw _ (List.mem_of_getElem? (i := 11) rfl)) (by decide) (by decide)) (g := (mkF m 81 #[.val (.int i0), .val (.int i1), .val (.int i2), .val (.int i3), .val (.int i4), .val (.int i5), .val (.ref b7), .val (.int ((i4 &&& (7 : Int32)) % (5 : Int32))), .val (.int ((((i4.toUInt32 >>> ((3 : Int32) &&& 31).toUInt32).toInt32) &&& (7 : Int32)) % (5 : Int32))), .val (.int (f1_0 ((i4 &&& (7 : Int32)) % (5 : Int32)) ((((i4.toUInt32 >>> ((3 : Int32) &&& 31).toUInt32).toInt32) &&& (7 : Int32)) % (5 : Int32)))), .val (.int (f2_0 ((i4 &&& (7 : Int32)) % (5 : Int32)) ((((i4.toUInt32 >>> ((3 : Int32) &&& 31).toUInt32).toInt32) &&& (7 : Int32)) % (5 : Int32)))), .val (.int (-2128831035 : Int32)), .unset, .unset, .unset, .unset] [(.int i0), (.int (-2128831035 : Int32))])) rfl (by rw [hml]; rfl) (argsL := [(.int (-2128831035 : Int32)), (.int i0)]) (rest := []) (lenOf pdm_0 rfl) rfl (by show 2 * 0 + _ ≤ _; exact Nat.le_of_eq rfl) (hb hby at_81) (fun _ _ => ⟨rfl, e13, (show cells + 1 + 0 + 0 + 0 ≤ 16 from (Nat.le_trans (Nat.add_le_add_right hc 1) (by decide))), (show slots + 4 + 0 + 0 + 0 ≤ 128 from (Nat.le_trans (Nat.add_le_add_right hs 4) (by decide)))⟩)
      dsimp only [Pt.U, Pt.locs, Pt.cells, Pt.slots] at X41 l41 y41 z41 st41 hQ41
      have yy41 : k41 = cells + 1 + 0 + 0 + 0 := y41
      have zz41 : n41 = slots + 4 + 0 + 0 + 0 := z41
      rw [yy41, zz41, l41] at X41
      obtain ⟨rfl, N41q, e41⟩ := hQ41
      have N41 := Fr.app N13 N41q
      refine own_step st41 ?_
      show own_Fin p e below s Q 16 128 (T41.setTop (mkF m 84 #[.val (.int i0), .val (.int i1), .val (.int i2), .val (.int i3), .val (.int i4), .val (.int i5), .val (.ref b7), .val (.int ((i4 &&& (7 : Int32)) % (5 : Int32))), .val (.int ((((i4.toUInt32 >>> ((3 : Int32) &&& 31).toUInt32).toInt32) &&& (7 : Int32)) % (5 : Int32))), .val (.int (f1_0 ((i4 &&& (7 : Int32)) % (5 : Int32)) ((((i4.toUInt32 >>> ((3 : Int32) &&& 31).toUInt32).toInt32) &&& (7 : Int32)) % (5 : Int32)))), .val (.int (f2_0 ((i4 &&& (7 : Int32)) % (5 : Int32)) ((((i4.toUInt32 >>> ((3 : Int32) &&& 31).toUInt32).toInt32) &&& (7 : Int32)) % (5 : Int32)))), .val (.int (-2128831035 : Int32)), .unset, .unset, .unset, .unset] [(.int (f5_0 (-2128831035 : Int32) i0))]))
      refine own_step (fun t k => XS.istore X41.here hx rfl (hb hby at_84) rfl (l' := #[.val (.int i0), .val (.int i1), .val (.int i2), .val (.int i3), .val (.int i4), .val (.int i5), .val (.ref b7), .val (.int ((i4 &&& (7 : Int32)) % (5 : Int32))), .val (.int ((((i4.toUInt32 >>> ((3 : Int32) &&& 31).toUInt32).toInt32) &&& (7 : Int32)) % (5 : Int32))), .val (.int (f1_0 ((i4 &&& (7 : Int32)) % (5 : Int32)) ((((i4.toUInt32 >>> ((3 : Int32) &&& 31).toUInt32).toInt32) &&& (7 : Int32)) % (5 : Int32)))), .val (.int (f2_0 ((i4 &&& (7 : Int32)) % (5 : Int32)) ((((i4.toUInt32 >>> ((3 : Int32) &&& 31).toUInt32).toInt32) &&& (7 : Int32)) % (5 : Int32)))), .val (.int (f5_0 (-2128831035 : Int32) i0)), .unset, .unset, .unset, .unset]) rfl k) ?_
      exact b0_86 i0 i1 i2 i3 i4 i5 b7 gf11 ((i4 &&& (7 : Int32)) % (5 : Int32)) ((((i4.toUInt32 >>> ((3 : Int32) &&& 31).toUInt32).toInt32) &&& (7 : Int32)) % (5 : Int32)) (f1_0 ((i4 &&& (7 : Int32)) % (5 : Int32)) ((((i4.toUInt32 >>> ((3 : Int32) &&& 31).toUInt32).toInt32) &&& (7 : Int32)) % (5 : Int32))) (f2_0 ((i4 &&& (7 : Int32)) % (5 : Int32)) ((((i4.toUInt32 >>> ((3 : Int32) &&& 31).toUInt32).toInt32) &&& (7 : Int32)) % (5 : Int32))) (f5_0 (-2128831035 : Int32) i0) hw X41 hx hZ hby hml hown hret hlk e41 N41 (Nat.le_trans (Nat.add_le_add_right hc 1) (by decide)) (Nat.le_trans (Nat.add_le_add_right hs 4) (by decide)) V11 fr7 (own_hse i4) (⟨by rw [hgf11, hgf10, hgf9, hgf8]; rfl, by rw [hgf11, hgf10, hgf9, hgf8]; rfl, by rw [hgf11, hgf10, hgf9, hgf8]; rfl, by rw [hgf11, hgf10, hgf9, hgf8]; rfl⟩) (((if_neg hB69_14).trans (if_pos hB75_40)).symm) Z011 hQ
    · refine own_step (fun t k => XS.icmpYes X13.here hx rfl (pc0 := 75) (pc' := 86) rfl (hb hby at_75) rfl (flt hB75_40).2.1 (by decide) (by decide) k) ?_
      exact b0_86 i0 i1 i2 i3 i4 i5 b7 gf11 ((i4 &&& (7 : Int32)) % (5 : Int32)) ((((i4.toUInt32 >>> ((3 : Int32) &&& 31).toUInt32).toInt32) &&& (7 : Int32)) % (5 : Int32)) (f1_0 ((i4 &&& (7 : Int32)) % (5 : Int32)) ((((i4.toUInt32 >>> ((3 : Int32) &&& 31).toUInt32).toInt32) &&& (7 : Int32)) % (5 : Int32))) (f2_0 ((i4 &&& (7 : Int32)) % (5 : Int32)) ((((i4.toUInt32 >>> ((3 : Int32) &&& 31).toUInt32).toInt32) &&& (7 : Int32)) % (5 : Int32))) (-2128831035 : Int32) hw X13 hx hZ hby hml hown hret hlk e13 N13 (Nat.le_trans (Nat.add_le_add_right hc 1) (by decide)) (Nat.le_trans (Nat.add_le_add_right hs 4) (by decide)) V11 fr7 (own_hse i4) (⟨by rw [hgf11, hgf10, hgf9, hgf8]; rfl, by rw [hgf11, hgf10, hgf9, hgf8]; rfl, by rw [hgf11, hgf10, hgf9, hgf8]; rfl, by rw [hgf11, hgf10, hgf9, hgf8]; rfl⟩) (((if_neg hB69_14).trans (if_neg hB75_40)).symm) Z011 hQ
theorem pdm_3 : parseMethodDescriptor "(IIIIII)Z" = some ⟨[.int, .int, .int, .int, .int, .int], some .boolean⟩ := by decide +kernel
theorem ef_0 (m : MethodId) (i0 : Int32) (i1 : Int32) (i2 : Int32) (i3 : Int32) (i4 : Int32) (i5 : Int32) : entryFrame m #[(.int i0), (.int i1), (.int i2), (.int i3), (.int i4), (.int i5)] maxLocals = (mkF m 0 #[.val (.int i0), .val (.int i1), .val (.int i2), .val (.int i3), .val (.int i4), .val (.int i5), .unset, .unset, .unset, .unset, .unset, .unset, .unset, .unset, .unset, .unset] []) := by first | (simp [entryFrame, mkF, argsToLocals, Value.category, maxLocals]; done) | rfl
def Q0 (i0 : Int32) (i1 : Int32) (i2 : Int32) (i3 : Int32) (i4 : Int32) (i5 : Int32) (h0 : Heap) (n0 : Nat) (v : Option Value) (h : Heap) (L : List Loc) : Prop := v = some (.int 1) ∧ Fr n0 L
set_option maxRecDepth 65536 in
set_option maxHeartbeats 4000000 in
theorem rm0 (l : Launch) (Z : State) (a0 : Array Value) (hw : ∀ d ∈ tables_1, d.before a0 Z = true) (ws : List Jvm.Cond) (i0 : Int32) (i1 : Int32) (i2 : Int32) (i3 : Int32) (i4 : Int32) (i5 : Int32) (h0 : Heap) (n0 : Nat) (Z0 : n0 ≤ h0.size) :
    MetFree l x (head1 (Jvm.Cond.code x code maxLocals ret :: ws) room_1) (fun a U => a = #[(.int i0), (.int i1), (.int i2), (.int i3), (.int i4), (.int i5)] ∧ Z.Warmed39 U.vm ∧ U.heap = h0) (fun _ _ _ _ _ => True) (fun _ U o U' => ∃ v L, o = .returned v ∧ Q0 i0 i1 i2 i3 i4 i5 h0 n0 v U'.heap L ∧ FrameEnd U o U' L 16 128) := by
  refine MetFree.of_bodySF (plainFor_of_name pnm_0) hisR ?_
  intro p e s m args below meth c s₁ Bd hml0 hP hK
  obtain ⟨rfl, hZ, hh⟩ := hP
  have hx := Bd.exec
  have hby := Bd.bytes
  have hml : c.maxLocals = 16 := hml0
  have hown : s.vm.findClass "com/example/nuthatch/nuthatch/NameTableHashPinLaw" = some m.cls := findClass_of_methodNamed Bd.named
  have X0 : Stand p l e room_1 s m #[(.int i0), (.int i1), (.int i2), (.int i3), (.int i4), (.int i5)] below meth c s₁ [] 0 0 := Stand.of_body Bd
  have e0 : s₁.heap = h0 := by rw [← hh, Bd.state]; rfl
  have fin := b0_0 i0 i1 i2 i3 i4 i5 (Q := Q0 i0 i1 i2 i3 i4 i5 h0 n0) hw X0 hx hZ hby hml hown Bd.returns (BodyLoose.notSynchronized Bd) e0 (Fr.nil n0) (Nat.zero_le _) (Nat.zero_le _) Z0 (fun H' L' n' => ⟨rfl, n'⟩)
  exact own_step (fun t k => castTop (ef_0 m i0 i1 i2 i3 i4 i5) k) fin
set_option maxRecDepth 65536 in
set_option maxHeartbeats 40000000 in
theorem comes_1 {Post : Tables → Env → Array Value → State → Outcome → State → Prop} (hpost : ∀ tb e args s v u, (limb_1_1.after args s (.returned v) u = true ∧ limb_1_2.after args s (.returned v) u = true ∧ True) → FrameEnd s (.returned v) u (Jvm.fieldLocs frame_1_writes args s ++ Jvm.arrayLocs frame_1_arrays args s ++ Jvm.staticLocs frame_1_statics s) 16 128 → Post tb e args s (.returned v) u) :
    ArmFor flags0 classFile x code maxLocals ret World_1 tables_1 room_1 Calls_1 rest_1 Pre_1 Post := by
  intro l hfl _ _ p e ha hc hk s m args below hf hA hF happ hP
  obtain ⟨hcalls, hrest, hpre⟩ := hP
  obtain ⟨-, -, -, hnamed, -, -, -, hat⟩ := (Spec.applies_iff hf).mp happ
  obtain ⟨hg, hn⟩ := and_e (Cond.before_iff.mp (show (Jvm.Cond.and given_1 narrow_1).before args s = true from hpre))
  obtain ⟨g1, g2⟩ := and_e hg
  obtain ⟨g3, g4⟩ := and_e g2
  obtain ⟨g5, g6⟩ := and_e g4
  obtain ⟨g7, g8⟩ := and_e g6
  obtain ⟨g9, g10⟩ := and_e g8
  obtain ⟨g11, g12⟩ := and_e g10
  obtain ⟨w0, w1, w2, w3, w4, w5, rfl⟩ : ∃ w0 w1 w2 w3 w4 w5 : Value, args = #[w0, w1, w2, w3, w4, w5] := by
    have hs : args.size = 6 := by simpa [Cond.value, given_1] using g1
    obtain ⟨L⟩ := args
    match L, hs with
    | [w0, w1, w2, w3, w4, w5], _ => exact ⟨w0, w1, w2, w3, w4, w5, rfl⟩
  have hw := fun d (hd : d ∈ tables_1) => atoms_spec (ws := Jvm.Cond.code x code maxLocals ret :: tables_1) hat d (List.mem_cons_of_mem _ hd)
  obtain ⟨i0, ei0⟩ := is_v g3
  obtain rfl : w0 = (.int i0) := Option.some.inj ei0
  obtain ⟨i1, ei1⟩ := is_v g5
  obtain rfl : w1 = (.int i1) := Option.some.inj ei1
  obtain ⟨i2, ei2⟩ := is_v g7
  obtain rfl : w2 = (.int i2) := Option.some.inj ei2
  obtain ⟨i3, ei3⟩ := is_v g9
  obtain rfl : w3 = (.int i3) := Option.some.inj ei3
  obtain ⟨i4, ei4⟩ := is_v g11
  obtain rfl : w4 = (.int i4) := Option.some.inj ei4
  obtain ⟨i5, ei5⟩ := is_v g12
  obtain rfl : w5 = (.int i5) := Option.some.inj ei5
  obtain ⟨n, o, h1, h2, h3, _, L, rfl, ⟨hval, N⟩, hq⟩ := rm0 l s _ hw tables_1 i0 i1 i2 i3 i4 i5 s.heap s.heap.size (Nat.le_refl _) p e ha hc hk s m _ below hf ((Spec.applies_iff_loose hf).mp happ).1 ⟨rfl, State.Warmed39.refl s, rfl⟩ trivial
  subst hval
  refine ⟨n, _, h1, h2, h3, hpost _ _ _ _ _ _ ⟨Cond.after_iff.mpr rfl, Cond.after_iff.mpr (eq_i res_at (Term.int_eval (1)) rfl), trivial⟩ ⟨hq.1, hq.2.1, (hq.2.2.sift fun y hy => Or.inr (N y hy)).mono (by decide) (by decide)⟩⟩
theorem main_1_1 : Claimed_1_1 := comes_1 fun _ _ _ _ _ _ h hF => ⟨h.1, hF⟩
theorem main_1_2 : Claimed_1_2 := comes_1 fun _ _ _ _ _ _ h hF => ⟨h.2.1, hF⟩
end Jvm.Pilot.@@N@@
namespace Jvm.Pilot.@@N@@
open Jvm Jvm.ClassFile Sem Op Lib Jvm.Free Jvm.Stand Jvm.Pilot.@@N@@.Jvm.D
/-! MADE BY PROGRAM (witnessworld.py) out of the Statement's table words and the real class files: 10 classes; the members and pool entries that the words name. The judged class is class 1, her method 1. -/
namespace start1
open Jvm.ClassFile
def u (s : String) : CpInfo := .utf8 (stringToUtf16 s)
/-- a pool by its gaps: so many unusable entries, then the entry; so many at the end -/
def gap : Nat → List CpInfo → List CpInfo
  | 0, r => r
  | n + 1, r => .unusable :: gap n r
def poolList (es : List (Nat × CpInfo)) (last : Nat) : List CpInfo := es.foldr (fun e r => gap e.1 (e.2 :: r)) (gap last [])
def pool (es : List (Nat × CpInfo)) (last : Nat) : Array CpInfo := ⟨poolList es last⟩
def fileOf (pool : Array CpInfo) (this : Nat) (attrs : Array Attribute := #[]) (ms : Array MethodInfo := #[]) (fl : Nat := 33) (sup : Nat := 0) (ifs : Array Nat := #[]) (fds : Array FieldInfo := #[]) : ClassFile where
  minorVersion := 0
  majorVersion := 65
  constantPool := pool
  accessFlags := fl
  thisClass := this
  superClass := sup
  interfaces := ifs
  fields := fds
  methods := ms
  attributes := attrs
def plain (name : String) (sup : Option ClassId) : Class where
  name := name
  kind := .ordinary
  loader := none
  accessFlags := 33
  super := sup
  interfaces := #[]
  cf := none
  fields := #[]
  methods := #[]
  instanceTypes := #[]
  staticTypes := #[]
  resolved := #[]
  callSites := []
  init := .initialized
  statics := none
  mirror := none

def pool0 : Array CpInfo := pool [(5, u "<init>"), (0, u "()V"), (1, .class_ 10), (1, u "java/lang/Object")] 113

def k0m0 : Method := { name := "<init>", desc := "()V", sig := { parameters := [], returnType := none }, accessFlags := 1, code := none }
/-- java/lang/Object -/
def k0 : Class := { plain "java/lang/Object" none with
  accessFlags := 33
  interfaces := #[]
  cf := some (fileOf pool0 8 #[] #[{ accessFlags := 1, nameIndex := 5, descriptorIndex := 6, attributes := #[] }] 33 0 #[] #[])
  fields := #[]
  methods := #[k0m0]
  instanceTypes := #[]
  staticTypes := #[]
  resolved := Array.replicate 124 none
  statics := none }

def pool1 : Array CpInfo := pool [(2, .class_ 4), (1, u "java/lang/Object"), (0, u "<init>"), (0, u "()V"), (0, .methodref 8 9), (0, .class_ 10), (0, .nameAndType 11 12), (0, u "java/lang/Math"), (0, u "min"), (0, u "(II)I"), (0, .methodref 8 14), (0, .nameAndType 15 12), (0, u "max"), (0, .integer 2166136261), (0, .methodref 18 19), (0, .class_ 20), (0, .nameAndType 21 12), (0, u "com/example/nuthatch/nuthatch/NameTableHashPinLaw"), (0, u "step"), (0, .methodref 18 23), (0, .nameAndType 24 25), (0, u "fmix"), (0, u "(I)I"), (0, .methodref 27 28), (0, .class_ 29), (0, .nameAndType 30 31), (0, u "com/example/nuthatch/nuthatch/NameTable"), (0, u "hash"), (0, u "([BII)I"), (0, .integer 16777619), (0, .integer 2246822507), (0, .integer 3266489909), (2, u "law"), (0, u "(IIIIII)Z")] 5

def k1m0 : Method := { name := "<init>", desc := "()V", sig := { parameters := [], returnType := none }, accessFlags := 1, code := none }
def k1c1 : Code := { maxStack := 4, maxLocals := 16, code := code, exceptionTable := #[], attributes := #[] }
def k1m1 : Method := { name := "law", desc := "(IIIIII)Z", sig := { parameters := [.int, .int, .int, .int, .int, .int], returnType := some .boolean }, accessFlags := 9, code := some k1c1 }
def k1c2 : Code := { maxStack := 3, maxLocals := 2, code := method_3_code, exceptionTable := #[], attributes := #[] }
def k1m2 : Method := { name := "step", desc := "(II)I", sig := { parameters := [.int, .int], returnType := some .int }, accessFlags := 10, code := some k1c2 }
def k1c3 : Code := { maxStack := 3, maxLocals := 1, code := method_4_code, exceptionTable := #[], attributes := #[] }
def k1m3 : Method := { name := "fmix", desc := "(I)I", sig := { parameters := [.int], returnType := some .int }, accessFlags := 10, code := some k1c3 }
/-- com/example/nuthatch/nuthatch/NameTableHashPinLaw -/
def k1 : Class := { plain "com/example/nuthatch/nuthatch/NameTableHashPinLaw" (some 0) with
  accessFlags := 49
  interfaces := #[]
  cf := some (fileOf pool1 18 #[] #[{ accessFlags := 1, nameIndex := 5, descriptorIndex := 6, attributes := #[] }, { accessFlags := 9, nameIndex := 37, descriptorIndex := 38, attributes := #[] }, { accessFlags := 10, nameIndex := 21, descriptorIndex := 12, attributes := #[] }, { accessFlags := 10, nameIndex := 24, descriptorIndex := 25, attributes := #[] }] 49 2 #[] #[])
  fields := #[]
  methods := #[k1m0, k1m1, k1m2, k1m3]
  instanceTypes := #[]
  staticTypes := #[]
  resolved := Array.replicate 44 none
  statics := none }

def pool2 : Array CpInfo := pool [(1, .class_ 2), (0, u "java/lang/Math"), (1, .class_ 6), (1, u "java/lang/Object"), (0, u "<init>"), (0, u "()V"), (89, .class_ 100), (1, u "java/lang/Math$RandomNumberGeneratorHolder"), (71, u "negativeZeroFloatBits"), (0, u "J"), (2, u "negativeZeroDoubleBits"), (21, u "max"), (2, u "min"), (43, u "$assertionsDisabled"), (0, u "Z"), (88, u "(II)I"), (2, u "twoToTheDoubleScaleDown"), (0, u "D"), (4, u "twoToTheDoubleScaleUp"), (9, u "E"), (3, u "PI"), (2, u "TAU"), (2, u "DEGREES_TO_RADIANS"), (0, u "RADIANS_TO_DEGREES")] 94

def k2m0 : Method := { name := "<init>", desc := "()V", sig := { parameters := [], returnType := none }, accessFlags := 2, code := none }
def k2c1 : Code := { maxStack := 2, maxLocals := 2, code := jdk_29_method_65_code, exceptionTable := #[], attributes := #[] }
def k2m1 : Method := { name := "max", desc := "(II)I", sig := { parameters := [.int, .int], returnType := some .int }, accessFlags := 9, code := some k2c1 }
def k2c2 : Code := { maxStack := 2, maxLocals := 2, code := jdk_29_method_69_code, exceptionTable := #[], attributes := #[] }
def k2m2 : Method := { name := "min", desc := "(II)I", sig := { parameters := [.int, .int], returnType := some .int }, accessFlags := 9, code := some k2c2 }
/-- java/lang/Math -/
def k2 : Class := { plain "java/lang/Math" (some 0) with
  accessFlags := 49
  interfaces := #[]
  cf := some (fileOf pool2 1 #[.nestMembers #[98]] #[{ accessFlags := 2, nameIndex := 7, descriptorIndex := 8, attributes := #[] }, { accessFlags := 9, nameIndex := 198, descriptorIndex := 335, attributes := #[] }, { accessFlags := 9, nameIndex := 201, descriptorIndex := 335, attributes := #[] }] 49 4 #[] #[{ accessFlags := 25, nameIndex := 354, descriptorIndex := 339, attributes := #[] }, { accessFlags := 25, nameIndex := 358, descriptorIndex := 339, attributes := #[] }, { accessFlags := 25, nameIndex := 361, descriptorIndex := 339, attributes := #[] }, { accessFlags := 26, nameIndex := 364, descriptorIndex := 339, attributes := #[] }, { accessFlags := 26, nameIndex := 365, descriptorIndex := 339, attributes := #[] }, { accessFlags := 26, nameIndex := 172, descriptorIndex := 173, attributes := #[] }, { accessFlags := 26, nameIndex := 176, descriptorIndex := 173, attributes := #[] }, { accessFlags := 8, nameIndex := 344, descriptorIndex := 339, attributes := #[] }, { accessFlags := 8, nameIndex := 338, descriptorIndex := 339, attributes := #[] }, { accessFlags := 4120, nameIndex := 245, descriptorIndex := 246, attributes := #[] }])
  fields := #[{ name := "E", type := .double, accessFlags := 25, slot := 0, constantValue := 0 }, { name := "PI", type := .double, accessFlags := 25, slot := 1, constantValue := 0 }, { name := "TAU", type := .double, accessFlags := 25, slot := 2, constantValue := 0 }, { name := "DEGREES_TO_RADIANS", type := .double, accessFlags := 26, slot := 3, constantValue := 0 }, { name := "RADIANS_TO_DEGREES", type := .double, accessFlags := 26, slot := 4, constantValue := 0 }, { name := "negativeZeroFloatBits", type := .long, accessFlags := 26, slot := 5, constantValue := 0 }, { name := "negativeZeroDoubleBits", type := .long, accessFlags := 26, slot := 6, constantValue := 0 }, { name := "twoToTheDoubleScaleUp", type := .double, accessFlags := 8, slot := 7, constantValue := 0 }, { name := "twoToTheDoubleScaleDown", type := .double, accessFlags := 8, slot := 8, constantValue := 0 }, { name := "$assertionsDisabled", type := .boolean, accessFlags := 4120, slot := 9, constantValue := 0 }]
  methods := #[k2m0, k2m1, k2m2]
  instanceTypes := #[]
  staticTypes := #[.double, .double, .double, .double, .double, .long, .long, .double, .double, .boolean]
  resolved := Array.replicate 460 none
  statics := none }

def pool3 : Array CpInfo := pool [(2, .class_ 4), (1, u "java/lang/Object"), (0, u "<init>"), (0, u "()V"), (1, .class_ 10), (1, u "com/example/nuthatch/nuthatch/NameTable"), (0, u "bytes"), (0, u "[B"), (2, u "starts"), (0, u "[I"), (6, u "slots"), (0, u "[J"), (2, u "hash"), (0, u "([BII)I"), (22, u "size"), (0, u "I"), (99, .integer 2166136261), (0, .integer 16777619), (0, .integer 2246822507), (0, .integer 3266489909), (0, u "EMPTY"), (0, u "J"), (1, u "NODE_BITS")] 31

def k3m0 : Method := { name := "<init>", desc := "()V", sig := { parameters := [], returnType := none }, accessFlags := 0, code := none }
def k3c1 : Code := { maxStack := 3, maxLocals := 5, code := prog_18_method_20_code, exceptionTable := #[], attributes := #[] }
def k3m1 : Method := { name := "hash", desc := "([BII)I", sig := { parameters := [(.array .byte), .int, .int], returnType := some .int }, accessFlags := 8, code := some k3c1 }
/-- com/example/nuthatch/nuthatch/NameTable -/
def k3 : Class := { plain "com/example/nuthatch/nuthatch/NameTable" (some 0) with
  accessFlags := 32
  interfaces := #[]
  cf := some (fileOf pool3 8 #[] #[{ accessFlags := 0, nameIndex := 5, descriptorIndex := 6, attributes := #[] }, { accessFlags := 8, nameIndex := 27, descriptorIndex := 28, attributes := #[] }] 32 2 #[] #[{ accessFlags := 26, nameIndex := 156, descriptorIndex := 157, attributes := #[] }, { accessFlags := 26, nameIndex := 159, descriptorIndex := 157, attributes := #[] }, { accessFlags := 2, nameIndex := 11, descriptorIndex := 12, attributes := #[] }, { accessFlags := 2, nameIndex := 15, descriptorIndex := 16, attributes := #[] }, { accessFlags := 2, nameIndex := 51, descriptorIndex := 52, attributes := #[] }, { accessFlags := 2, nameIndex := 23, descriptorIndex := 24, attributes := #[] }])
  fields := #[{ name := "EMPTY", type := .long, accessFlags := 26, slot := 0, constantValue := 0 }, { name := "NODE_BITS", type := .long, accessFlags := 26, slot := 1, constantValue := 0 }, { name := "bytes", type := (.array .byte), accessFlags := 2, slot := 0, constantValue := 0 }, { name := "starts", type := (.array .int), accessFlags := 2, slot := 1, constantValue := 0 }, { name := "size", type := .int, accessFlags := 2, slot := 2, constantValue := 0 }, { name := "slots", type := (.array .long), accessFlags := 2, slot := 3, constantValue := 0 }]
  methods := #[k3m0, k3m1]
  instanceTypes := #[(.array .byte), (.array .int), .int, (.array .long)]
  staticTypes := #[.long, .long]
  resolved := Array.replicate 191 none
  statics := none }

def pool4 : Array CpInfo := pool [(1, u "java/lang/Cloneable"), (0, .class_ 1), (0, u "java/lang/Object"), (0, .class_ 3)] 3

/-- java/lang/Cloneable -/
def k4 : Class := { plain "java/lang/Cloneable" (some 0) with
  accessFlags := 1537
  interfaces := #[]
  cf := some (fileOf pool4 2 #[] #[] 1537 4 #[] #[])
  fields := #[]
  methods := #[]
  instanceTypes := #[]
  staticTypes := #[]
  resolved := Array.replicate 8 none
  statics := none }

def pool5 : Array CpInfo := pool [(1, u "java/io/Serializable"), (0, .class_ 1), (0, u "java/lang/Object"), (0, .class_ 3)] 3

/-- java/io/Serializable -/
def k5 : Class := { plain "java/io/Serializable" (some 0) with
  accessFlags := 1537
  interfaces := #[]
  cf := some (fileOf pool5 2 #[] #[] 1537 4 #[] #[])
  fields := #[]
  methods := #[]
  instanceTypes := #[]
  staticTypes := #[]
  resolved := Array.replicate 8 none
  statics := none }

/-- the primitive byte -/
def k6 : Class := { plain "byte" none with kind := .primitive 'B', accessFlags := 0x411 }
/-- [B -/
def k7 : Class := { plain "[B" (some 0) with kind := .array 6 .byte, interfaces := #[4, 5], accessFlags := 1041 }

/-- the primitive int -/
def k8 : Class := { plain "int" none with kind := .primitive 'I', accessFlags := 0x411 }
/-- [I -/
def k9 : Class := { plain "[I" (some 0) with kind := .array 8 .int, interfaces := #[4, 5], accessFlags := 1041 }

def heap : Heap := #[]
def classes : Array Class := #[k0, k1, k2, k3, k4, k5, k6, k7, k8, k9]
def interned : List (Array UInt16 × Addr) := []
def slotsUsed : Nat := 0
def theMethod : MethodId := ⟨1, 1⟩
def args0 : Array Value := #[.int 5, .int 5, .int 5, .int 5, .int 5, .int 5]
def aboutOver (below : List Frame) : State where
  vm := { classes := classes, interned := interned.toArray }
  heap := heap
  slotsUsed := slotsUsed
  threads := #[{ frames := .invoking theMethod args0 :: below }]
def below0 : List Frame := [.native { method := ⟨0, 0⟩, args := #[] }]
def about1 : State := aboutOver below0
def p0 : Program := .bare "" "" ""
def e0 : Env := launch0.env 0 0 0
theorem w_frames : about1.frames = Frame.invoking theMethod args0 :: below0 := rfl
set_option maxRecDepth 65536 in
theorem w_args : argsFit about1.vm theMethod args0 = true := by decide +kernel
set_option maxRecDepth 65536 in
theorem w_heap : heapFits about1 = true := by decide +kernel
set_option maxRecDepth 65536 in
theorem w_runnable : about1.curStatus? = some .runnable := by decide +kernel
set_option maxRecDepth 65536 in
theorem w_alone : about1.alone = true := by decide +kernel
set_option maxRecDepth 65536 in
theorem w_named : about1.methodNamed? x = some theMethod := by decide +kernel
set_option maxRecDepth 65536 in
theorem w_hears : about1.hears theMethod below0 = true := by decide +kernel
set_option maxRecDepth 65536 in
theorem w_ripe : about1.ripe theMethod args0 below0 = true := by decide +kernel
theorem w_running : about1.status = .running := rfl
set_option maxRecDepth 65536 in
theorem w_room : about1.hasRoom e0.platform room_1 = true :=
  launch0.hasRoom_least _ room_1 (by decide +kernel) (by decide +kernel) (by decide +kernel) (by decide +kernel) (by decide +kernel) (by decide +kernel)
theorem allAtoms_all (ts : List Jvm.Cond) (a : Array Jvm.Value) (st : Jvm.State) : (allAtoms ts).before a st = ts.all (fun c => c.before a st) := by
  induction ts with
  | nil => rfl
  | cons c t ih =>
    show (Jvm.Cond.and c (allAtoms t)).before a st = _
    rw [Jvm.Cond.before_and, ih, List.all_cons]
def words1 : List Jvm.Cond := Jvm.Cond.code x code maxLocals ret :: tables_1
/-- a 'code' word, met by the world's own term for the bytes: nothing is compared byte by byte -/
theorem code_word {y : MethodName} {bytes : ByteArray} {mx : Nat} {rt : Option FieldType} {a : Array Value} {s : State} {m : MethodId} {meth : Method} {c : Code} (h1 : s.methodNamed? y = some m) (h2 : s.vm.method? m = some meth) (h3 : meth.code = some c) (h4 : c.code = bytes)
    (h5 : (c.maxLocals == mx && c.exceptionTable.isEmpty && decide (c.maxStack ≤ mostOperands) && decide (meth.sig.returnType = rt) && !meth.locks && decide (parseMethodDescriptor y.desc = some meth.sig)) = true) : (Jvm.Cond.code y bytes mx rt).before a s = true := by
  simp only [Bool.and_eq_true, beq_iff_eq, Bool.not_eq_true', decide_eq_true_eq] at h5
  obtain ⟨⟨⟨⟨⟨g1, g2⟩, g3⟩, g4⟩, g5⟩, g6⟩ := h5
  simp [Cond.before, Cond.holds, Cond.value, h1, h2, h3, h4, g1, g2, g3, g4, g5, g6]
def isCode : Jvm.Cond → Bool
  | .code _ _ _ _ => true
  | _ => false
theorem all_split {L : List Jvm.Cond} {P : Jvm.Cond → Bool} (h1 : L.all (fun c => isCode c || P c) = true) (h2 : ∀ c ∈ L.filter isCode, P c = true) : L.all P = true := by
  refine List.all_eq_true.mpr fun c hc => ?_
  have h := List.all_eq_true.mp h1 c hc
  rcases Bool.eq_false_or_eq_true (isCode c) with hi | hi
  · exact h2 c (List.mem_filter.mpr ⟨hc, hi⟩)
  · simpa [hi] using h
set_option maxRecDepth 65536 in
theorem w_c0 : (Jvm.Cond.code x code maxLocals ret).before args0 about1 = true := code_word (m := ⟨1, 1⟩) (meth := k1m1) (c := k1c1) (by decide +kernel) rfl rfl rfl (by decide +kernel)
set_option maxRecDepth 65536 in
theorem w_c1 : (Jvm.Cond.code ({ cls := "java/lang/Math", name := "min", desc := "(II)I" } : Jvm.MethodName) jdk_29_method_69_code (2 : Nat) (Option.some Jvm.ClassFile.FieldType.int)).before args0 about1 = true := code_word (m := ⟨2, 2⟩) (meth := k2m2) (c := k2c2) (by decide +kernel) rfl rfl rfl (by decide +kernel)
set_option maxRecDepth 65536 in
theorem w_c2 : (Jvm.Cond.code ({ cls := "java/lang/Math", name := "max", desc := "(II)I" } : Jvm.MethodName) jdk_29_method_65_code (2 : Nat) (Option.some Jvm.ClassFile.FieldType.int)).before args0 about1 = true := code_word (m := ⟨2, 1⟩) (meth := k2m1) (c := k2c1) (by decide +kernel) rfl rfl rfl (by decide +kernel)
set_option maxRecDepth 65536 in
theorem w_c3 : (Jvm.Cond.code ({ cls := "com/example/nuthatch/nuthatch/NameTableHashPinLaw", name := "fmix", desc := "(I)I" } : Jvm.MethodName) method_4_code (1 : Nat) (Option.some Jvm.ClassFile.FieldType.int)).before args0 about1 = true := code_word (m := ⟨1, 3⟩) (meth := k1m3) (c := k1c3) (by decide +kernel) rfl rfl rfl (by decide +kernel)
set_option maxRecDepth 65536 in
theorem w_c4 : (Jvm.Cond.code ({ cls := "com/example/nuthatch/nuthatch/NameTable", name := "hash", desc := "([BII)I" } : Jvm.MethodName) prog_18_method_20_code (5 : Nat) (Option.some Jvm.ClassFile.FieldType.int)).before args0 about1 = true := code_word (m := ⟨3, 1⟩) (meth := k3m1) (c := k3c1) (by decide +kernel) rfl rfl rfl (by decide +kernel)
set_option maxRecDepth 65536 in
theorem w_c5 : (Jvm.Cond.code ({ cls := "com/example/nuthatch/nuthatch/NameTableHashPinLaw", name := "step", desc := "(II)I" } : Jvm.MethodName) method_3_code (2 : Nat) (Option.some Jvm.ClassFile.FieldType.int)).before args0 about1 = true := code_word (m := ⟨1, 2⟩) (meth := k1m2) (c := k1c2) (by decide +kernel) rfl rfl rfl (by decide +kernel)
def codes1 : List Jvm.Cond := [Jvm.Cond.code x code maxLocals ret, Jvm.Cond.code ({ cls := "java/lang/Math", name := "min", desc := "(II)I" } : Jvm.MethodName) jdk_29_method_69_code (2 : Nat) (Option.some Jvm.ClassFile.FieldType.int), Jvm.Cond.code ({ cls := "java/lang/Math", name := "max", desc := "(II)I" } : Jvm.MethodName) jdk_29_method_65_code (2 : Nat) (Option.some Jvm.ClassFile.FieldType.int), Jvm.Cond.code ({ cls := "com/example/nuthatch/nuthatch/NameTableHashPinLaw", name := "fmix", desc := "(I)I" } : Jvm.MethodName) method_4_code (1 : Nat) (Option.some Jvm.ClassFile.FieldType.int), Jvm.Cond.code ({ cls := "com/example/nuthatch/nuthatch/NameTable", name := "hash", desc := "([BII)I" } : Jvm.MethodName) prog_18_method_20_code (5 : Nat) (Option.some Jvm.ClassFile.FieldType.int), Jvm.Cond.code ({ cls := "com/example/nuthatch/nuthatch/NameTableHashPinLaw", name := "step", desc := "(II)I" } : Jvm.MethodName) method_3_code (2 : Nat) (Option.some Jvm.ClassFile.FieldType.int)]
set_option maxRecDepth 65536 in
theorem codes_eq : words1.filter isCode = codes1 := rfl
theorem w_codes : ∀ c ∈ words1.filter isCode, c.before args0 about1 = true := by
  rw [codes_eq]
  intro c hc
  simp only [codes1, List.mem_cons, List.not_mem_nil, or_false] at hc
  rcases hc with rfl | rfl | rfl | rfl | rfl | rfl
  · exact w_c0
  · exact w_c1
  · exact w_c2
  · exact w_c3
  · exact w_c4
  · exact w_c5
set_option maxRecDepth 65536 in
theorem w_t1 : (words1.take 24).all (fun c => isCode c || c.before args0 about1) = true := by decide +kernel
set_option maxRecDepth 65536 in
theorem w_t2 : (words1.drop 24).all (fun c => isCode c || c.before args0 about1) = true := by decide +kernel
theorem w_tables : (allAtoms (Jvm.Cond.code x code maxLocals ret :: tables_1)).before args0 about1 = true := by
  rw [allAtoms_all]
  show words1.all (fun c => c.before args0 about1) = true
  refine all_split ?_ w_codes
  rw [← List.take_append_drop 24 words1, List.all_append, w_t1, w_t2]
  rfl
set_option maxRecDepth 65536 in
theorem w_case : (Jvm.Cond.and given_1 narrow_1).before args0 about1 = true := by decide +kernel
theorem w_applies : (headSpec (Jvm.Cond.code x code maxLocals ret :: tables_1) room_1).applies x e0.platform about1 = true :=
  (Spec.applies_iff w_frames).mpr ⟨w_running, w_runnable, w_alone, w_named, w_hears, w_ripe, w_room, w_tables⟩
theorem atStart : AtStart classFile x code maxLocals ret World_1 tables_1 room_1 Calls_1 rest_1 Pre_1 launch0 p0 e0 about1 theMethod args0 below0 :=
  ⟨lists_1, trivial, launch0.admits_env _ _ _, launch0.least_env, fairChoices_fair.cas, fairChoices_fair.clock, w_frames, w_args, w_heap, w_applies, trivial, trivial, w_case⟩
end start1
theorem witness_1 : WitnessClaimed_1 := ⟨start1.p0, start1.e0, start1.about1, start1.theMethod, start1.args0, start1.below0, start1.atStart⟩
end Jvm.Pilot.@@N@@

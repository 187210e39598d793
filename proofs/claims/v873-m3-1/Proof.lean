import JvmDerived
import JvmDerived.Pilot.@@N@@Statement
import JvmDerived.Pilot.@@N@@Code
set_option linter.unusedVariables false
set_option linter.unusedSimpArgs false
namespace Jvm.RoadKit
open Sem ClassFile Op Lib Jvm.Stand Jvm.Free Jvm.LawKit
section New
variable {p : Program} {l : Launch} {e : Env} {R : Room} {s : State} {m : MethodId} {args : Array Value} {below : List Frame} {meth : Method} {c : Code} {T : State} {locs : List Loc} {cells slots : Nat}
theorem retI (X : Stand p l e R s m args below meth c T locs cells slots) (hx : p.tables.exec = Jvm.exec) {pc : Nat} {Ls : Array Slot} {z : Int32} {rest : List Value} (hret : meth.sig.returnType = some .int) (hd : decode c.code pc = .ok (.ireturn, 1)) {fs : List Frame}
    (hl : ∀ (f : JFrame) (acts : List Action), f.method = m → f.locked = none → f.entered = [] → (doReturn e (T.setTop f) acts (some (.int z))).1 = T.setFrames fs) : Steps p.tables e below (T.setTop (mkF m pc Ls (.int z :: rest))) (T.setFrames fs) := by
  have hm' : T.vm.method? m = some meth := X.method'
  have hn : narrow .int (.int z) = .int z := rfl
  show Steps p.tables e below (T.setTop { method := m, pc := pc, locals := Ls, stack := _ :: rest, locked := none }) _
  jvm_step X.here [X.here.top, hx, hd, hm', hret, hn]
  first | (intro acts; rw [hl _ acts rfl rfl rfl]) | rw [hl _ _ rfl rfl rfl]
  exact Steps.refl _
end New
end Jvm.RoadKit
namespace Jvm.Pilot.@@N@@
open Jvm Jvm.ClassFile Sem Op Lib Jvm.Free Jvm.Stand Jvm.LawKit Jvm.RoadKit Bundle Jvm.Pilot.@@N@@.Jvm.D
section OwnKit
variable {p : Program} {l : Launch} {e : Env} {R : Room} {s : State} {m : MethodId} {args : Array Value} {below : List Frame} {meth : Method} {c : Code} {T : State} {locs : List Loc} {cells slots : Nat}
/-- what a body owes from the state A on: it comes to its return, and what it returned, the heap and the written places satisfy Q -/
def own_Fin (p : Program) (e : Env) (below : List Frame) (s : State) (Q : Option Value → Heap → List Loc → Prop) (rc rs : Nat) (A : State) : Prop :=
  ∃ s₂ o, Steps p.tables e below A s₂ ∧ s₂.status = .running ∧ Ended s₂ below o ∧ ∃ v L, o = .returned v ∧ Q v s₂.heap L ∧ FrameEnd s o s₂ L rc rs
theorem own_step {Q : Option Value → Heap → List Loc → Prop} {rc rs : Nat} {A B : State} (k : ∀ t, Steps p.tables e below B t → Steps p.tables e below A t) (h : own_Fin p e below s Q rc rs B) : own_Fin p e below s Q rc rs A := by
  obtain ⟨s₂, o, h1, h2⟩ := h
  exact ⟨s₂, o, k _ h1, h2⟩
theorem own_retN (X : Stand p l e R s m args below meth c T locs cells slots) (hx : p.tables.exec = Jvm.exec) (hlk : meth.locks = false) {Q : Option Value → Heap → List Loc → Prop} {rc rs n0 : Nat} {h : Heap} {pc : Nat} {Ls : Array Slot} {z v : Int32} {t : FieldType} {rest : List Value} (hret : meth.sig.returnType = some t) (ht : t = .boolean ∨ t = .byte ∨ t = .char ∨ t = .short)
    (hd : decode c.code pc = .ok (.ireturn, 1)) (hc : cells ≤ rc) (hs : slots ≤ rs) (eT : T.heap = h) (N : Fr n0 locs) (hQ : ∀ L', Fr n0 L' → Q (some (.int v)) h L') (hv : v = nar t z) :
    own_Fin p e below s Q rc rs (T.setTop (mkF m pc Ls (.int z :: rest))) := by
  subst hv
  obtain ⟨fs, hr, hrun, hended, hW, hsame⟩ := X.leave (v := some (.int (nar t z))) (fun h => by rw [hret] at h; cases h) hlk
  refine ⟨_, _, retN X hx hret ht hd hr, hrun, hended, _, _, rfl, ?_, ⟨_, rfl⟩, hW, hsame.mono hc hs⟩
  show Q _ T.heap _
  rw [eT]
  exact hQ _ N
theorem own_retI (X : Stand p l e R s m args below meth c T locs cells slots) (hx : p.tables.exec = Jvm.exec) (hlk : meth.locks = false) {Q : Option Value → Heap → List Loc → Prop} {rc rs n0 : Nat} {h : Heap} {pc : Nat} {Ls : Array Slot} {z v : Int32} {rest : List Value} (hret : meth.sig.returnType = some .int)
    (hd : decode c.code pc = .ok (.ireturn, 1)) (hc : cells ≤ rc) (hs : slots ≤ rs) (eT : T.heap = h) (N : Fr n0 locs) (hQ : ∀ L', Fr n0 L' → Q (some (.int v)) h L') (hv : v = z) :
    own_Fin p e below s Q rc rs (T.setTop (mkF m pc Ls (.int z :: rest))) := by
  subst hv
  obtain ⟨fs, hr, hrun, hended, hW, hsame⟩ := X.leave (v := some (.int v)) (fun h => by rw [hret] at h; cases h) hlk
  refine ⟨_, _, retI X hx hret hd hr, hrun, hended, _, _, rfl, ?_, ⟨_, rfl⟩, hW, hsame.mono hc hs⟩
  show Q _ T.heap _
  rw [eT]
  exact hQ _ N
theorem own_ret0 (X : Stand p l e R s m args below meth c T locs cells slots) (hx : p.tables.exec = Jvm.exec) (hlk : meth.locks = false) {Q : Option Value → Heap → List Loc → Prop} {rc rs : Nat} {h : Heap} {pc : Nat} {Ls : Array Slot} (hret : meth.sig.returnType = none)
    (hd : decode c.code pc = .ok (.return_, 1)) (hc : cells ≤ rc) (hs : slots ≤ rs) (eT : T.heap = h) (hQ : Q none h locs) :
    own_Fin p e below s Q rc rs (T.setTop (mkF m pc Ls [])) := by
  obtain ⟨fs, hr, hrun, hended, hW, hsame⟩ := X.leave (v := none) (fun _ => rfl) hlk
  refine ⟨_, _, X.returnOut hx hret hd hr, hrun, hended, _, _, rfl, ?_, ⟨_, rfl⟩, hW, hsame.mono hc hs⟩
  show Q _ T.heap _
  rw [eT]
  exact hQ
end OwnKit
/-- an array of n ints (bytes, ..) at a: its i-th is g i -/
def own_AF (Z : State) (h : Heap) (a : Addr) (ty : FieldType) (n : Nat) (g : Nat → Int32) : Prop := ∃ c : Cell, Arr Z h a c ty ∧ c.slots.size = n ∧ ∀ i, i < n → c.slots[i]? = some (.int (g i))
def own_In (n : Nat) (j : Int32) : Prop := ¬ (j < 0 ∨ n ≤ j.toNatClampNeg)
theorem own_AF.lt {Z : State} {h : Heap} {a : Addr} {ty : FieldType} {n : Nat} {g : Nat → Int32} (F : own_AF Z h a ty n g) : a < h.size := by obtain ⟨c, A, -⟩ := F; exact A.lt
theorem own_AFext {Z : State} {h h' : Heap} {a : Addr} {ty : FieldType} {n : Nat} {g : Nat → Int32} (F : own_AF Z h a ty n g) (E : Ext h h') : own_AF Z h' a ty n g := by obtain ⟨c, A, r⟩ := F; exact ⟨c, A.ext E, r⟩
theorem own_AFoth {Z : State} {h h' : Heap} {a b : Addr} {sl : Nat} {v : Value} {ty : FieldType} {n : Nat} {g : Nat → Int32} (F : own_AF Z h b ty n g) (W : Wr h h' a sl v) (q : b ≠ a) : own_AF Z h' b ty n g := by obtain ⟨c, A, r⟩ := F; exact ⟨c, A.other W q, r⟩
theorem own_AFkeep {Z : State} {h h' : Heap} {a : Addr} {ws : List Addr} {ty : FieldType} {n : Nat} {g : Nat → Int32} (F : own_AF Z h a ty n g) (K : Keep h h' ws) (q : a ∉ ws) : own_AF Z h' a ty n g := by obtain ⟨c, A, r⟩ := F; exact ⟨c, ⟨K.2.1 a c A.1 q, A.2⟩, r⟩
theorem own_AFset {Z : State} {h h' : Heap} {a : Addr} {ty : FieldType} {n k : Nat} {g : Nat → Int32} {c : Cell} {x : Int32} (A : Arr Z h a c ty) (S : c.slots.size = n) (H : ∀ i, i < n → c.slots[i]? = some (.int (g i))) (W : Wr h h' a k (.int x)) : own_AF Z h' a ty n (fun i => if i = k then x else g i) := by
  obtain ⟨c', e1, e2, e3, e4, e5, e6, e7⟩ := wr_at W A.1
  refine ⟨c', ⟨e1, ?_⟩, e4.trans S, fun i hi => ?_⟩
  · rw [(e7 rfl).1]; exact A.2
  · by_cases q : i = k
    · subst q
      show c'.slots[i]? = some (.int (if i = i then x else g i))
      rw [if_pos rfl]
      exact (e7 rfl).2.1
    · show c'.slots[i]? = some (.int (if i = k then x else g i))
      rw [e6 i q, if_neg q]
      exact H i hi
theorem own_AFnew {Z : State} {h : Heap} {a : Addr} {k : ClassId} {ty : FieldType} {z : Int32} {n : Nat} (A : Arr Z h a (newA k ty z) ty) (hn : z.toNatClampNeg = n) (hd : defaultValue ty = .int 0 := by rfl) : own_AF Z h a ty n (fun _ => 0) :=
  ⟨_, A, (sz_new _ _ _).trans hn, fun i hi => by
    have hs : (newA k ty z).slots = Array.replicate z.toNatClampNeg (defaultValue ty) := rfl
    rw [hs, hn, hd]
    simp [hi]⟩
theorem own_eqi {x y : Int32} {b : Int} (h : y.toInt = b) : x = y ↔ x.toInt = b := by rw [← h]; exact Int32.toInt_inj.symm

theorem d1_0 : decode jdk_29_method_69_code 0 = .ok (.iload_n 0, 1) := by decide +kernel
theorem d1_1 : decode jdk_29_method_69_code 1 = .ok (.iload_n 1, 1) := by decide +kernel
theorem d1_2 : decode jdk_29_method_69_code 2 = .ok (.if_icmp .gt 7, 3) := by decide +kernel
theorem d1_5 : decode jdk_29_method_69_code 5 = .ok (.iload_n 0, 1) := by decide +kernel
theorem d1_6 : decode jdk_29_method_69_code 6 = .ok (.goto 4, 3) := by decide +kernel
theorem d1_9 : decode jdk_29_method_69_code 9 = .ok (.iload_n 1, 1) := by decide +kernel
theorem d1_10 : decode jdk_29_method_69_code 10 = .ok (.ireturn, 1) := by decide +kernel
def f1_0 (i0 : Int32) (i1 : Int32) : Int32 := if i1 < i0 then i1 else i0
set_option maxRecDepth 65536 in
set_option maxHeartbeats 40000000 in
theorem b1_0 {p : Program} {l : Launch} {e : Env} {s : State} {m : MethodId} {args : Array Value} {below : List Frame} {meth : Method} {c : Code} {T : State} {locs : List Loc} {cells slots : Nat} {Z : State} {a0 : Array Value} {h : Heap} {n0 : Nat} {Q : Option Value → Heap → List Loc → Prop} (i0 : Int32) (i1 : Int32) (hw : ∀ d ∈ tables_1, d.before a0 Z = true) (X : Stand p l e ({ frames := 0, cells := 0, slots := 0, locals := 0 } : Room) s m args below meth c T locs cells slots) (hx : p.tables.exec = Jvm.exec) (hZ : Z.Warmed39 s.vm) (hby : c.code = jdk_29_method_69_code) (hml : c.maxLocals = 2) (hown : s.vm.findClass "java/lang/Math" = some m.cls) (hret : meth.sig.returnType = some .int) (hlk : meth.locks = false) (eT : T.heap = h) (N : Fr n0 locs) (hc : cells ≤ 0) (hs : slots ≤ 0) (v : Int32) (hv : v = f1_0 i0 i1) (hQ : ∀ L', Fr n0 L' → Q (some (.int v)) h L') :
    own_Fin p e below s Q 0 0 (T.setTop (mkF m 0 #[.val (.int i0), .val (.int i1)] [])) := by
  refine own_step (fun t k => XS.iloadN X.here hx rfl (hb hby d1_0) rfl  k) ?_
  show own_Fin p e below s Q 0 0 (T.setTop (mkF m 1 #[.val (.int i0), .val (.int i1)] [(.int i0)]))
  refine own_step (fun t k => XS.iloadN X.here hx rfl (hb hby d1_1) rfl  k) ?_
  show own_Fin p e below s Q 0 0 (T.setTop (mkF m 2 #[.val (.int i0), .val (.int i1)] [(.int i1), (.int i0)]))
  by_cases hB2_1 : i1 < i0
  · refine own_step (fun t k => XS.icmpYes X.here hx rfl (pc0 := 2) (pc' := 9) rfl (hb hby d1_2) rfl (tlt hB2_1).2.2.1 (by decide) (by decide) k) ?_
    have hvhB2_1 : v = i1 := hv.trans (if_pos hB2_1)
    show own_Fin p e below s Q 0 0 (T.setTop (mkF m 9 #[.val (.int i0), .val (.int i1)] []))
    refine own_step (fun t k => XS.iloadN X.here hx rfl (hb hby d1_9) rfl  k) ?_
    show own_Fin p e below s Q 0 0 (T.setTop (mkF m 10 #[.val (.int i0), .val (.int i1)] [(.int i1)]))
    exact own_retI X hx hlk hret (hb hby d1_10) (by omega) (by omega) eT N hQ (hvhB2_1)
  · refine own_step (fun t k => XS.icmpNo X.here hx rfl (hb hby d1_2) rfl (flt hB2_1).2.2.1 k) ?_
    have hvhB2_1 : v = i0 := hv.trans (if_neg hB2_1)
    show own_Fin p e below s Q 0 0 (T.setTop (mkF m 5 #[.val (.int i0), .val (.int i1)] []))
    refine own_step (fun t k => XS.iloadN X.here hx rfl (hb hby d1_5) rfl  k) ?_
    show own_Fin p e below s Q 0 0 (T.setTop (mkF m 6 #[.val (.int i0), .val (.int i1)] [(.int i0)]))
    refine own_step (fun t k => XS.goto X.here hx rfl (pc0 := 6) (pc' := 10) rfl (hb hby d1_6) (by decide) (by decide) k) ?_
    show own_Fin p e below s Q 0 0 (T.setTop (mkF m 10 #[.val (.int i0), .val (.int i1)] [(.int i0)]))
    exact own_retI X hx hlk hret (hb hby d1_10) (by omega) (by omega) eT N hQ (hvhB2_1)
theorem pdm_0 : parseMethodDescriptor "(II)I" = some ⟨[.int, .int], some .int⟩ := by decide +kernel
theorem ef_1 (m : MethodId) (i0 : Int32) (i1 : Int32) : entryFrame m #[(.int i0), (.int i1)] 2 = (mkF m 0 #[.val (.int i0), .val (.int i1)] []) := by first | (simp [entryFrame, mkF, argsToLocals, Value.category]; done) | rfl
def Q1 (i0 : Int32) (i1 : Int32) (h0 : Heap) (n0 : Nat) (v : Option Value) (h : Heap) (L : List Loc) : Prop := v = some (.int (f1_0 i0 i1)) ∧ Fr n0 L ∧ h = h0
set_option maxRecDepth 65536 in
set_option maxHeartbeats 4000000 in
theorem rm1 (l : Launch) (Z : State) (a0 : Array Value) (hw : ∀ d ∈ tables_1, d.before a0 Z = true) (ws : List Jvm.Cond) (i0 : Int32) (i1 : Int32) (h0 : Heap) (n0 : Nat) :
    MetFree l (⟨"java/lang/Math", "min", "(II)I"⟩ : MethodName) (head1 (Jvm.Cond.code (⟨"java/lang/Math", "min", "(II)I"⟩ : MethodName) jdk_29_method_69_code 2 (some .int) :: ws) ({ frames := 0, cells := 0, slots := 0, locals := 0 } : Room)) (fun a U => a = #[(.int i0), (.int i1)] ∧ Z.Warmed39 U.vm ∧ U.heap = h0) (fun _ _ _ _ _ => True) (fun _ U o U' => ∃ v L, o = .returned v ∧ Q1 i0 i1 h0 n0 v U'.heap L ∧ FrameEnd U o U' L ({ frames := 0, cells := 0, slots := 0, locals := 0 } : Room).cells ({ frames := 0, cells := 0, slots := 0, locals := 0 } : Room).slots) := by
  refine MetFree.of_bodySF (Jvm.Free.JP.mathPlain rfl (by decide +kernel)) hisR ?_
  intro p e s m args below meth c s₁ Bd hml0 hP hK
  obtain ⟨rfl, hZ, hh⟩ := hP
  have hx := Bd.exec
  have hby := Bd.bytes
  have hml : c.maxLocals = 2 := hml0
  have hown : s.vm.findClass "java/lang/Math" = some m.cls := findClass_of_methodNamed Bd.named
  have X0 : Stand p l e ({ frames := 0, cells := 0, slots := 0, locals := 0 } : Room) s m #[(.int i0), (.int i1)] below meth c s₁ [] 0 0 := Stand.of_body Bd
  have e0 : s₁.heap = h0 := by rw [← hh, Bd.state]; rfl
  have fin := b1_0 i0 i1 (Q := Q1 i0 i1 h0 n0) hw X0 hx hZ hby hml hown Bd.returns (BodyLoose.notSynchronized Bd) e0 (Fr.nil n0) (Nat.zero_le _) (Nat.zero_le _) _ rfl (fun L' n' => ⟨rfl, n', rfl⟩)
  exact own_step (fun t k => castTop (ef_1 m i0 i1) k) fin
theorem d2_0 : decode jdk_29_method_65_code 0 = .ok (.iload_n 0, 1) := by decide +kernel
theorem d2_1 : decode jdk_29_method_65_code 1 = .ok (.iload_n 1, 1) := by decide +kernel
theorem d2_2 : decode jdk_29_method_65_code 2 = .ok (.if_icmp .lt 7, 3) := by decide +kernel
theorem d2_5 : decode jdk_29_method_65_code 5 = .ok (.iload_n 0, 1) := by decide +kernel
theorem d2_6 : decode jdk_29_method_65_code 6 = .ok (.goto 4, 3) := by decide +kernel
theorem d2_9 : decode jdk_29_method_65_code 9 = .ok (.iload_n 1, 1) := by decide +kernel
theorem d2_10 : decode jdk_29_method_65_code 10 = .ok (.ireturn, 1) := by decide +kernel
def f2_0 (i0 : Int32) (i1 : Int32) : Int32 := if i0 < i1 then i1 else i0
set_option maxRecDepth 65536 in
set_option maxHeartbeats 40000000 in
theorem b2_0 {p : Program} {l : Launch} {e : Env} {s : State} {m : MethodId} {args : Array Value} {below : List Frame} {meth : Method} {c : Code} {T : State} {locs : List Loc} {cells slots : Nat} {Z : State} {a0 : Array Value} {h : Heap} {n0 : Nat} {Q : Option Value → Heap → List Loc → Prop} (i0 : Int32) (i1 : Int32) (hw : ∀ d ∈ tables_1, d.before a0 Z = true) (X : Stand p l e ({ frames := 0, cells := 0, slots := 0, locals := 0 } : Room) s m args below meth c T locs cells slots) (hx : p.tables.exec = Jvm.exec) (hZ : Z.Warmed39 s.vm) (hby : c.code = jdk_29_method_65_code) (hml : c.maxLocals = 2) (hown : s.vm.findClass "java/lang/Math" = some m.cls) (hret : meth.sig.returnType = some .int) (hlk : meth.locks = false) (eT : T.heap = h) (N : Fr n0 locs) (hc : cells ≤ 0) (hs : slots ≤ 0) (v : Int32) (hv : v = f2_0 i0 i1) (hQ : ∀ L', Fr n0 L' → Q (some (.int v)) h L') :
    own_Fin p e below s Q 0 0 (T.setTop (mkF m 0 #[.val (.int i0), .val (.int i1)] [])) := by
  refine own_step (fun t k => XS.iloadN X.here hx rfl (hb hby d2_0) rfl  k) ?_
  show own_Fin p e below s Q 0 0 (T.setTop (mkF m 1 #[.val (.int i0), .val (.int i1)] [(.int i0)]))
  refine own_step (fun t k => XS.iloadN X.here hx rfl (hb hby d2_1) rfl  k) ?_
  show own_Fin p e below s Q 0 0 (T.setTop (mkF m 2 #[.val (.int i0), .val (.int i1)] [(.int i1), (.int i0)]))
  by_cases hB2_4 : i0 < i1
  · refine own_step (fun t k => XS.icmpYes X.here hx rfl (pc0 := 2) (pc' := 9) rfl (hb hby d2_2) rfl (tlt hB2_4).1 (by decide) (by decide) k) ?_
    have hvhB2_4 : v = i1 := hv.trans (if_pos hB2_4)
    show own_Fin p e below s Q 0 0 (T.setTop (mkF m 9 #[.val (.int i0), .val (.int i1)] []))
    refine own_step (fun t k => XS.iloadN X.here hx rfl (hb hby d2_9) rfl  k) ?_
    show own_Fin p e below s Q 0 0 (T.setTop (mkF m 10 #[.val (.int i0), .val (.int i1)] [(.int i1)]))
    exact own_retI X hx hlk hret (hb hby d2_10) (by omega) (by omega) eT N hQ (hvhB2_4)
  · refine own_step (fun t k => XS.icmpNo X.here hx rfl (hb hby d2_2) rfl (flt hB2_4).1 k) ?_
    have hvhB2_4 : v = i0 := hv.trans (if_neg hB2_4)
    show own_Fin p e below s Q 0 0 (T.setTop (mkF m 5 #[.val (.int i0), .val (.int i1)] []))
    refine own_step (fun t k => XS.iloadN X.here hx rfl (hb hby d2_5) rfl  k) ?_
    show own_Fin p e below s Q 0 0 (T.setTop (mkF m 6 #[.val (.int i0), .val (.int i1)] [(.int i0)]))
    refine own_step (fun t k => XS.goto X.here hx rfl (pc0 := 6) (pc' := 10) rfl (hb hby d2_6) (by decide) (by decide) k) ?_
    show own_Fin p e below s Q 0 0 (T.setTop (mkF m 10 #[.val (.int i0), .val (.int i1)] [(.int i0)]))
    exact own_retI X hx hlk hret (hb hby d2_10) (by omega) (by omega) eT N hQ (hvhB2_4)
theorem ef_2 (m : MethodId) (i0 : Int32) (i1 : Int32) : entryFrame m #[(.int i0), (.int i1)] 2 = (mkF m 0 #[.val (.int i0), .val (.int i1)] []) := by first | (simp [entryFrame, mkF, argsToLocals, Value.category]; done) | rfl
def Q2 (i0 : Int32) (i1 : Int32) (h0 : Heap) (n0 : Nat) (v : Option Value) (h : Heap) (L : List Loc) : Prop := v = some (.int (f2_0 i0 i1)) ∧ Fr n0 L ∧ h = h0
set_option maxRecDepth 65536 in
set_option maxHeartbeats 4000000 in
theorem rm2 (l : Launch) (Z : State) (a0 : Array Value) (hw : ∀ d ∈ tables_1, d.before a0 Z = true) (ws : List Jvm.Cond) (i0 : Int32) (i1 : Int32) (h0 : Heap) (n0 : Nat) :
    MetFree l (⟨"java/lang/Math", "max", "(II)I"⟩ : MethodName) (head1 (Jvm.Cond.code (⟨"java/lang/Math", "max", "(II)I"⟩ : MethodName) jdk_29_method_65_code 2 (some .int) :: ws) ({ frames := 0, cells := 0, slots := 0, locals := 0 } : Room)) (fun a U => a = #[(.int i0), (.int i1)] ∧ Z.Warmed39 U.vm ∧ U.heap = h0) (fun _ _ _ _ _ => True) (fun _ U o U' => ∃ v L, o = .returned v ∧ Q2 i0 i1 h0 n0 v U'.heap L ∧ FrameEnd U o U' L ({ frames := 0, cells := 0, slots := 0, locals := 0 } : Room).cells ({ frames := 0, cells := 0, slots := 0, locals := 0 } : Room).slots) := by
  refine MetFree.of_bodySF (Jvm.Free.JP.mathPlain rfl (by decide +kernel)) hisR ?_
  intro p e s m args below meth c s₁ Bd hml0 hP hK
  obtain ⟨rfl, hZ, hh⟩ := hP
  have hx := Bd.exec
  have hby := Bd.bytes
  have hml : c.maxLocals = 2 := hml0
  have hown : s.vm.findClass "java/lang/Math" = some m.cls := findClass_of_methodNamed Bd.named
  have X0 : Stand p l e ({ frames := 0, cells := 0, slots := 0, locals := 0 } : Room) s m #[(.int i0), (.int i1)] below meth c s₁ [] 0 0 := Stand.of_body Bd
  have e0 : s₁.heap = h0 := by rw [← hh, Bd.state]; rfl
  have fin := b2_0 i0 i1 (Q := Q2 i0 i1 h0 n0) hw X0 hx hZ hby hml hown Bd.returns (BodyLoose.notSynchronized Bd) e0 (Fr.nil n0) (Nat.zero_le _) (Nat.zero_le _) _ rfl (fun L' n' => ⟨rfl, n', rfl⟩)
  exact own_step (fun t k => castTop (ef_2 m i0 i1) k) fin
theorem d3_0 : decode prog_54_method_1_code 0 = .ok (.aload_n 0, 1) := by decide +kernel
theorem d3_1 : decode prog_54_method_1_code 1 = .ok (.invokespecial 3, 3) := by decide +kernel
theorem d3_4 : decode prog_54_method_1_code 4 = .ok (.aload_n 0, 1) := by decide +kernel
theorem d3_5 : decode prog_54_method_1_code 5 = .ok (.iload_n 1, 1) := by decide +kernel
theorem d3_6 : decode prog_54_method_1_code 6 = .ok (.putfield 9, 3) := by decide +kernel
theorem d3_9 : decode prog_54_method_1_code 9 = .ok (.aload_n 0, 1) := by decide +kernel
theorem d3_10 : decode prog_54_method_1_code 10 = .ok (.iload_n 2, 1) := by decide +kernel
theorem d3_11 : decode prog_54_method_1_code 11 = .ok (.putfield 15, 3) := by decide +kernel
theorem d3_14 : decode prog_54_method_1_code 14 = .ok (.return_, 1) := by decide +kernel
theorem pn_3 : plainName "com/example/endorse/endorse/SdkRange" = true := by first | (simp [plainName, overriddenIn]; done) | decide +kernel
theorem ef_3 (m : MethodId) (x0 : Addr) (x1 : Int32) (x2 : Int32) : entryFrame m #[(.ref x0), (.int x1), (.int x2)] 3 = mkF m 0 #[.val (.ref x0), .val (.int x1), .val (.int x2)] [] := by first | (simp [entryFrame, mkF, argsToLocals, Value.category]; done) | rfl
def Q3 (Z : State) (a1 : Addr) (p2 : Int32) (p3 : Int32) (u_min_a1 : Value) (u_max_a1 : Value) (h0 : Heap) (n0 : Nat) (v : Option Value) (h : Heap) (L : List Loc) : Prop := v = none ∧ Fr n0 L ∧ Keep h0 h [a1] ∧ Exa Z h a1 "com/example/endorse/endorse/SdkRange" ∧ Fld Z h a1 "com/example/endorse/endorse/SdkRange" "min" "I" (.int p2) ∧ Fld Z h a1 "com/example/endorse/endorse/SdkRange" "max" "I" (.int p3)
set_option maxRecDepth 65536 in
set_option maxHeartbeats 40000000 in
theorem rm3 (l : Launch) (Z : State) (a0 : Array Value) (hw : ∀ d ∈ tables_1, d.before a0 Z = true) (ws : List Jvm.Cond) (a1 : Addr) (p2 : Int32) (p3 : Int32) (u_min_a1 : Value) (u_max_a1 : Value) (h0 : Heap) (n0 : Nat) (Z0 : n0 ≤ h0.size) (E_a1 : Exa Z h0 a1 "com/example/endorse/endorse/SdkRange") (F_min_a1 : Fld Z h0 a1 "com/example/endorse/endorse/SdkRange" "min" "I" u_min_a1) (g_a1 : n0 ≤ a1) (F_max_a1 : Fld Z h0 a1 "com/example/endorse/endorse/SdkRange" "max" "I" u_max_a1) :
    MetFree l (⟨"com/example/endorse/endorse/SdkRange", "<init>", "(II)V"⟩ : MethodName) (head1 (Jvm.Cond.code (⟨"com/example/endorse/endorse/SdkRange", "<init>", "(II)V"⟩ : MethodName) prog_54_method_1_code 3 none :: ws) ({ frames := 1, cells := 0, slots := 0, locals := 12 } : Room)) (fun a U => a = #[(.ref a1), (.int p2), (.int p3)] ∧ Z.Warmed39 U.vm ∧ U.heap = h0) (fun _ _ _ _ _ => True) (fun _ U o U' => ∃ v L, o = .returned v ∧ Q3 Z a1 p2 p3 u_min_a1 u_max_a1 h0 n0 v U'.heap L ∧ FrameEnd U o U' L ({ frames := 1, cells := 0, slots := 0, locals := 12 } : Room).cells ({ frames := 1, cells := 0, slots := 0, locals := 12 } : Room).slots) := by
  refine MetFree.of_bodySF (plainFor_of_name pn_3) hisR ?_
  intro p e s m args below meth c s₁ Bd hml0 hP hK
  obtain ⟨rfl, hZ, hh⟩ := hP
  have hx := Bd.exec
  have hby := Bd.bytes
  have hml : c.maxLocals = 3 := hml0
  have hown : s.vm.findClass "com/example/endorse/endorse/SdkRange" = some m.cls := findClass_of_methodNamed Bd.named
  have hnm := (name_of_methodNamed Bd.named Bd.method).1
  have X0 : Stand p l e ({ frames := 1, cells := 0, slots := 0, locals := 12 } : Room) s m #[(.ref a1), (.int p2), (.int p3)] below meth c s₁ [] 0 0 := Stand.of_body Bd
  have e0 : s₁.heap = h0 := by rw [← hh, Bd.state]; rfl
  have N0 := Fr.nil n0
  have pre0 : ∀ t, Steps p.tables e below (s₁.setTop (mkF m 0 #[.val (.ref a1), .val (.int p2), .val (.int p3)] [])) t → Steps p.tables e below (s₁.setTop (entryFrame m #[(.ref a1), (.int p2), (.int p3)] 3)) t := fun t k => castTop (ef_3 m a1 p2 p3) k
  obtain ⟨T4, X4, e4, st4⟩ := initO X0 hx hZ hown (hw _ (List.mem_of_getElem? (i := 13) rfl)) (hw _ (List.mem_of_getElem? (i := 14) rfl)) (hw _ (List.mem_of_getElem? (i := 15) rfl)) e0 (g := (mkF m 1 #[.val (.ref a1), .val (.int p2), .val (.int p3)] [(.ref a1)])) rfl (by rw [hml]; rfl) rfl (hb hby d3_1) (by decide) (W := 0) (by show 2 * 0 + _ ≤ _; exact Nat.le_of_eq rfl) (by decide)
  obtain ⟨T5, h5, X5, e5, W5, st5⟩ := putF X4 hx hZ hown (host := "") (Or.inl (hw _ (List.mem_of_getElem? (i := 16) rfl))) Via.refl e4 F_min_a1 E_a1 (Or.inr ⟨(hw _ (List.mem_of_getElem? (i := 17) rfl)), rfl, hnm⟩) (hw _ (List.mem_of_getElem? (i := 8) rfl)) (ty := .int) (by decide) rfl rfl (g := (mkF m 6 #[.val (.ref a1), .val (.int p2), .val (.int p3)] [(.int p2), (.ref a1)])) rfl rfl (hb hby d3_6)
  have Fw5 := F_min_a1.same W5
  have K5 : Keep h0 h5 [a1] := (Keep.refl h0 [a1]).wr W5 (Or.inl (List.mem_of_getElem? (i := 0) rfl))
  have N5 := Fr.snoc X5 N0 g_a1
  obtain ⟨T6, h6, X6, e6, W6, st6⟩ := putF X5 hx hZ hown (host := "") (Or.inl (hw _ (List.mem_of_getElem? (i := 18) rfl))) Via.refl e5 (F_max_a1.other W5 (Or.inr (slot_ne (Or.inr (hw _ (List.mem_of_getElem? (i := 19) rfl))) (Or.inr (hw _ (List.mem_of_getElem? (i := 17) rfl))) (by decide) (t := .int) (t' := .int) (by decide) (by decide)))) (E_a1.wr W5) (Or.inr ⟨(hw _ (List.mem_of_getElem? (i := 19) rfl)), rfl, hnm⟩) (hw _ (List.mem_of_getElem? (i := 8) rfl)) (ty := .int) (by decide) rfl rfl (g := (mkF m 11 #[.val (.ref a1), .val (.int p2), .val (.int p3)] [(.int p3), (.ref a1)])) rfl rfl (hb hby d3_11)
  have Fw6 := (F_max_a1.other W5 (Or.inr (slot_ne (Or.inr (hw _ (List.mem_of_getElem? (i := 19) rfl))) (Or.inr (hw _ (List.mem_of_getElem? (i := 17) rfl))) (by decide) (t := .int) (t' := .int) (by decide) (by decide)))).same W6
  have K6 : Keep h0 h6 [a1] := K5.wr W6 (Or.inl (List.mem_of_getElem? (i := 0) rfl))
  have N6 := Fr.snoc X6 N5 g_a1
  obtain ⟨fs, hr, hrun, hended, hW, hsame⟩ := X6.leave (v := none) (fun _ => rfl)
  refine ⟨_, _, pre0 _ ?_, hrun, hended, _, _, rfl, ?_, ⟨_, rfl⟩, hW, hsame.mono (by decide) (by decide)⟩
  · show Steps p.tables e below (s₁.setTop (mkF m 0 #[.val (.ref a1), .val (.int p2), .val (.int p3)] [])) _
    refine XS.aloadN X0.here hx rfl (hb hby d3_0) rfl rfl ?_
    show Steps p.tables e below (s₁.setTop (mkF m 1 #[.val (.ref a1), .val (.int p2), .val (.int p3)] [(.ref a1)])) _
    refine st4 _ ?_
    show Steps p.tables e below (T4.setTop (mkF m 4 #[.val (.ref a1), .val (.int p2), .val (.int p3)] [])) _
    refine XS.aloadN X4.here hx rfl (hb hby d3_4) rfl rfl ?_
    show Steps p.tables e below (T4.setTop (mkF m 5 #[.val (.ref a1), .val (.int p2), .val (.int p3)] [(.ref a1)])) _
    refine XS.iloadN X4.here hx rfl (hb hby d3_5) rfl ?_
    show Steps p.tables e below (T4.setTop (mkF m 6 #[.val (.ref a1), .val (.int p2), .val (.int p3)] [(.int p2), (.ref a1)])) _
    refine st5 _ ?_
    show Steps p.tables e below (T5.setTop (mkF m 9 #[.val (.ref a1), .val (.int p2), .val (.int p3)] [])) _
    refine XS.aloadN X5.here hx rfl (hb hby d3_9) rfl rfl ?_
    show Steps p.tables e below (T5.setTop (mkF m 10 #[.val (.ref a1), .val (.int p2), .val (.int p3)] [(.ref a1)])) _
    refine XS.iloadN X5.here hx rfl (hb hby d3_10) rfl ?_
    show Steps p.tables e below (T5.setTop (mkF m 11 #[.val (.ref a1), .val (.int p2), .val (.int p3)] [(.int p3), (.ref a1)])) _
    refine st6 _ ?_
    show Steps p.tables e below (T6.setTop (mkF m 14 #[.val (.ref a1), .val (.int p2), .val (.int p3)] [])) _
    exact X6.returnOut hx Bd.returns (hb hby d3_14) hr
  · show Q3 Z a1 p2 p3 u_min_a1 u_max_a1 h0 n0 _ T6.heap _
    rw [e6]
    exact ⟨rfl, N6, K6, ((E_a1.wr W5).wr W6), (Fw5.other W6 (Or.inr (slot_ne (Or.inr (hw _ (List.mem_of_getElem? (i := 17) rfl))) (Or.inr (hw _ (List.mem_of_getElem? (i := 19) rfl))) (by decide) (t := .int) (t' := .int) (by decide) (by decide)))), Fw6⟩
theorem pdm_1 : parseMethodDescriptor "(II)V" = some ⟨[.int, .int], none⟩ := by decide +kernel
theorem d5_0 : decode prog_54_method_8_code 0 = .ok (.aload_n 0, 1) := by decide +kernel
theorem d5_1 : decode prog_54_method_8_code 1 = .ok (.getfield 9, 3) := by decide +kernel
theorem d5_4 : decode prog_54_method_8_code 4 = .ok (.aload_n 1, 1) := by decide +kernel
theorem d5_5 : decode prog_54_method_8_code 5 = .ok (.getfield 15, 3) := by decide +kernel
theorem d5_8 : decode prog_54_method_8_code 8 = .ok (.if_icmp .gt 18, 3) := by decide +kernel
theorem d5_11 : decode prog_54_method_8_code 11 = .ok (.aload_n 1, 1) := by decide +kernel
theorem d5_12 : decode prog_54_method_8_code 12 = .ok (.getfield 9, 3) := by decide +kernel
theorem d5_15 : decode prog_54_method_8_code 15 = .ok (.aload_n 0, 1) := by decide +kernel
theorem d5_16 : decode prog_54_method_8_code 16 = .ok (.getfield 15, 3) := by decide +kernel
theorem d5_19 : decode prog_54_method_8_code 19 = .ok (.if_icmp .gt 7, 3) := by decide +kernel
theorem d5_22 : decode prog_54_method_8_code 22 = .ok (.iconst 1, 1) := by decide +kernel
theorem d5_23 : decode prog_54_method_8_code 23 = .ok (.goto 4, 3) := by decide +kernel
theorem d5_26 : decode prog_54_method_8_code 26 = .ok (.iconst 0, 1) := by decide +kernel
theorem d5_27 : decode prog_54_method_8_code 27 = .ok (.ireturn, 1) := by decide +kernel
def f5_0 (c1 : Int32) (c2 : Int32) (e1 : Int32) (e2 : Int32) : Int32 := if e2 < c1 then (0 : Int32) else (if c2 < e1 then (0 : Int32) else (1 : Int32))
set_option maxRecDepth 65536 in
set_option maxHeartbeats 40000000 in
theorem b5_0 {p : Program} {l : Launch} {e : Env} {s : State} {m : MethodId} {args : Array Value} {below : List Frame} {meth : Method} {c : Code} {T : State} {locs : List Loc} {cells slots : Nat} {Z : State} {a0 : Array Value} {h : Heap} {n0 : Nat} {Q : Option Value → Heap → List Loc → Prop} (o0 : Addr) (o1 : Addr) (c1 : Int32) (c2 : Int32) (e1 : Int32) (e2 : Int32) (hw : ∀ d ∈ tables_1, d.before a0 Z = true) (X : Stand p l e ({ frames := 0, cells := 0, slots := 0, locals := 0 } : Room) s m args below meth c T locs cells slots) (hx : p.tables.exec = Jvm.exec) (hZ : Z.Warmed39 s.vm) (hby : c.code = prog_54_method_8_code) (hml : c.maxLocals = 2) (hown : s.vm.findClass "com/example/endorse/endorse/SdkRange" = some m.cls) (hret : meth.sig.returnType = some .boolean) (hlk : meth.locks = false) (eT : T.heap = h) (N : Fr n0 locs) (hc : cells ≤ 0) (hs : slots ≤ 0) (F1 : Fld Z h o0 "com/example/endorse/endorse/SdkRange" "min" "I" (.int c1)) (F2 : Fld Z h o0 "com/example/endorse/endorse/SdkRange" "max" "I" (.int c2)) (F3 : Fld Z h o1 "com/example/endorse/endorse/SdkRange" "min" "I" (.int e1)) (F4 : Fld Z h o1 "com/example/endorse/endorse/SdkRange" "max" "I" (.int e2)) (v : Int32) (hv : v = f5_0 c1 c2 e1 e2) (hQ : ∀ L', Fr n0 L' → Q (some (.int v)) h L') :
    own_Fin p e below s Q 0 0 (T.setTop (mkF m 0 #[.val (.ref o0), .val (.ref o1)] [])) := by
  refine own_step (fun t k => XS.aloadN X.here hx rfl (hb hby d5_0) rfl rfl k) ?_
  show own_Fin p e below s Q 0 0 (T.setTop (mkF m 1 #[.val (.ref o0), .val (.ref o1)] [(.ref o0)]))
  obtain ⟨T7, X7, e7, st7⟩ := getF X hx hZ hown (host := "") (Or.inl (hw _ (List.mem_of_getElem? (i := 16) rfl))) Via.refl eT F1 (g := (mkF m 1 #[.val (.ref o0), .val (.ref o1)] [(.ref o0)])) rfl rfl (hb hby d5_1)
  refine own_step st7 ?_
  show own_Fin p e below s Q 0 0 (T7.setTop (mkF m 4 #[.val (.ref o0), .val (.ref o1)] [(.int c1)]))
  refine own_step (fun t k => XS.aloadN X7.here hx rfl (hb hby d5_4) rfl rfl k) ?_
  show own_Fin p e below s Q 0 0 (T7.setTop (mkF m 5 #[.val (.ref o0), .val (.ref o1)] [(.ref o1), (.int c1)]))
  obtain ⟨T8, X8, e8, st8⟩ := getF X7 hx hZ hown (host := "") (Or.inl (hw _ (List.mem_of_getElem? (i := 18) rfl))) Via.refl e7 F4 (g := (mkF m 5 #[.val (.ref o0), .val (.ref o1)] [(.ref o1), (.int c1)])) rfl rfl (hb hby d5_5)
  refine own_step st8 ?_
  show own_Fin p e below s Q 0 0 (T8.setTop (mkF m 8 #[.val (.ref o0), .val (.ref o1)] [(.int e2), (.int c1)]))
  by_cases hB8_9 : e2 < c1
  · refine own_step (fun t k => XS.icmpYes X8.here hx rfl (pc0 := 8) (pc' := 26) rfl (hb hby d5_8) rfl (tlt hB8_9).2.2.1 (by decide) (by decide) k) ?_
    have hvhB8_9 : v = (0 : Int32) := hv.trans (if_pos hB8_9)
    show own_Fin p e below s Q 0 0 (T8.setTop (mkF m 26 #[.val (.ref o0), .val (.ref o1)] []))
    refine own_step (fun t k => XS.iconst X8.here hx rfl (hb hby d5_26) k) ?_
    show own_Fin p e below s Q 0 0 (T8.setTop (mkF m 27 #[.val (.ref o0), .val (.ref o1)] [(.int (0 : Int32))]))
    exact own_retN X8 hx hlk hret (by simp) (hb hby d5_27) (by omega) (by omega) e8 N hQ (hvhB8_9)
  · refine own_step (fun t k => XS.icmpNo X8.here hx rfl (hb hby d5_8) rfl (flt hB8_9).2.2.1 k) ?_
    have hvhB8_9 : v = (if c2 < e1 then (0 : Int32) else (1 : Int32)) := hv.trans (if_neg hB8_9)
    show own_Fin p e below s Q 0 0 (T8.setTop (mkF m 11 #[.val (.ref o0), .val (.ref o1)] []))
    refine own_step (fun t k => XS.aloadN X8.here hx rfl (hb hby d5_11) rfl rfl k) ?_
    show own_Fin p e below s Q 0 0 (T8.setTop (mkF m 12 #[.val (.ref o0), .val (.ref o1)] [(.ref o1)]))
    obtain ⟨T12, X12, e12, st12⟩ := getF X8 hx hZ hown (host := "") (Or.inl (hw _ (List.mem_of_getElem? (i := 16) rfl))) Via.refl e8 F3 (g := (mkF m 12 #[.val (.ref o0), .val (.ref o1)] [(.ref o1)])) rfl rfl (hb hby d5_12)
    refine own_step st12 ?_
    show own_Fin p e below s Q 0 0 (T12.setTop (mkF m 15 #[.val (.ref o0), .val (.ref o1)] [(.int e1)]))
    refine own_step (fun t k => XS.aloadN X12.here hx rfl (hb hby d5_15) rfl rfl k) ?_
    show own_Fin p e below s Q 0 0 (T12.setTop (mkF m 16 #[.val (.ref o0), .val (.ref o1)] [(.ref o0), (.int e1)]))
    obtain ⟨T13, X13, e13, st13⟩ := getF X12 hx hZ hown (host := "") (Or.inl (hw _ (List.mem_of_getElem? (i := 18) rfl))) Via.refl e12 F2 (g := (mkF m 16 #[.val (.ref o0), .val (.ref o1)] [(.ref o0), (.int e1)])) rfl rfl (hb hby d5_16)
    refine own_step st13 ?_
    show own_Fin p e below s Q 0 0 (T13.setTop (mkF m 19 #[.val (.ref o0), .val (.ref o1)] [(.int c2), (.int e1)]))
    by_cases hB19_14 : c2 < e1
    · refine own_step (fun t k => XS.icmpYes X13.here hx rfl (pc0 := 19) (pc' := 26) rfl (hb hby d5_19) rfl (tlt hB19_14).2.2.1 (by decide) (by decide) k) ?_
      have hvhB19_14 : v = (0 : Int32) := hvhB8_9.trans (if_pos hB19_14)
      show own_Fin p e below s Q 0 0 (T13.setTop (mkF m 26 #[.val (.ref o0), .val (.ref o1)] []))
      refine own_step (fun t k => XS.iconst X13.here hx rfl (hb hby d5_26) k) ?_
      show own_Fin p e below s Q 0 0 (T13.setTop (mkF m 27 #[.val (.ref o0), .val (.ref o1)] [(.int (0 : Int32))]))
      exact own_retN X13 hx hlk hret (by simp) (hb hby d5_27) (by omega) (by omega) e13 N hQ (hvhB19_14)
    · refine own_step (fun t k => XS.icmpNo X13.here hx rfl (hb hby d5_19) rfl (flt hB19_14).2.2.1 k) ?_
      have hvhB19_14 : v = (1 : Int32) := hvhB8_9.trans (if_neg hB19_14)
      show own_Fin p e below s Q 0 0 (T13.setTop (mkF m 22 #[.val (.ref o0), .val (.ref o1)] []))
      refine own_step (fun t k => XS.iconst X13.here hx rfl (hb hby d5_22) k) ?_
      show own_Fin p e below s Q 0 0 (T13.setTop (mkF m 23 #[.val (.ref o0), .val (.ref o1)] [(.int (1 : Int32))]))
      refine own_step (fun t k => XS.goto X13.here hx rfl (pc0 := 23) (pc' := 27) rfl (hb hby d5_23) (by decide) (by decide) k) ?_
      show own_Fin p e below s Q 0 0 (T13.setTop (mkF m 27 #[.val (.ref o0), .val (.ref o1)] [(.int (1 : Int32))]))
      exact own_retN X13 hx hlk hret (by simp) (hb hby d5_27) (by omega) (by omega) e13 N hQ (hvhB19_14)
theorem pnm_0 : plainName "com/example/endorse/endorse/SdkRange" = true := by first | (simp [plainName, overriddenIn]; done) | decide +kernel
theorem pdm_2 : parseMethodDescriptor "(Lcom/example/endorse/endorse/SdkRange;)Z" = some ⟨[(.object "com/example/endorse/endorse/SdkRange")], some .boolean⟩ := by decide +kernel
theorem ef_5 (m : MethodId) (o0 : Addr) (o1 : Addr) : entryFrame m #[(.ref o0), (.ref o1)] 2 = (mkF m 0 #[.val (.ref o0), .val (.ref o1)] []) := by first | (simp [entryFrame, mkF, argsToLocals, Value.category]; done) | rfl
def Q5 (o0 : Addr) (o1 : Addr) (c1 : Int32) (c2 : Int32) (e1 : Int32) (e2 : Int32) (h0 : Heap) (n0 : Nat) (v : Option Value) (h : Heap) (L : List Loc) : Prop := v = some (.int (f5_0 c1 c2 e1 e2)) ∧ Fr n0 L ∧ h = h0
set_option maxRecDepth 65536 in
set_option maxHeartbeats 4000000 in
theorem rm5 (l : Launch) (Z : State) (a0 : Array Value) (hw : ∀ d ∈ tables_1, d.before a0 Z = true) (ws : List Jvm.Cond) (o0 : Addr) (o1 : Addr) (c1 : Int32) (c2 : Int32) (e1 : Int32) (e2 : Int32) (h0 : Heap) (n0 : Nat) (F1 : Fld Z h0 o0 "com/example/endorse/endorse/SdkRange" "min" "I" (.int c1)) (F2 : Fld Z h0 o0 "com/example/endorse/endorse/SdkRange" "max" "I" (.int c2)) (F3 : Fld Z h0 o1 "com/example/endorse/endorse/SdkRange" "min" "I" (.int e1)) (F4 : Fld Z h0 o1 "com/example/endorse/endorse/SdkRange" "max" "I" (.int e2)) :
    MetFree l (⟨"com/example/endorse/endorse/SdkRange", "overlaps", "(Lcom/example/endorse/endorse/SdkRange;)Z"⟩ : MethodName) (head1 (Jvm.Cond.code (⟨"com/example/endorse/endorse/SdkRange", "overlaps", "(Lcom/example/endorse/endorse/SdkRange;)Z"⟩ : MethodName) prog_54_method_8_code 2 (some .boolean) :: ws) ({ frames := 0, cells := 0, slots := 0, locals := 0 } : Room)) (fun a U => a = #[(.ref o0), (.ref o1)] ∧ Z.Warmed39 U.vm ∧ U.heap = h0) (fun _ _ _ _ _ => True) (fun _ U o U' => ∃ v L, o = .returned v ∧ Q5 o0 o1 c1 c2 e1 e2 h0 n0 v U'.heap L ∧ FrameEnd U o U' L ({ frames := 0, cells := 0, slots := 0, locals := 0 } : Room).cells ({ frames := 0, cells := 0, slots := 0, locals := 0 } : Room).slots) := by
  refine MetFree.of_bodySF (plainFor_of_name pnm_0) hisR ?_
  intro p e s m args below meth c s₁ Bd hml0 hP hK
  obtain ⟨rfl, hZ, hh⟩ := hP
  have hx := Bd.exec
  have hby := Bd.bytes
  have hml : c.maxLocals = 2 := hml0
  have hown : s.vm.findClass "com/example/endorse/endorse/SdkRange" = some m.cls := findClass_of_methodNamed Bd.named
  have X0 : Stand p l e ({ frames := 0, cells := 0, slots := 0, locals := 0 } : Room) s m #[(.ref o0), (.ref o1)] below meth c s₁ [] 0 0 := Stand.of_body Bd
  have e0 : s₁.heap = h0 := by rw [← hh, Bd.state]; rfl
  have fin := b5_0 o0 o1 c1 c2 e1 e2 (Q := Q5 o0 o1 c1 c2 e1 e2 h0 n0) hw X0 hx hZ hby hml hown Bd.returns (BodyLoose.notSynchronized Bd) e0 (Fr.nil n0) (Nat.zero_le _) (Nat.zero_le _) F1 F2 F3 F4 _ rfl (fun L' n' => ⟨rfl, n', rfl⟩)
  exact own_step (fun t k => castTop (ef_5 m o0 o1) k) fin
theorem own_min (x y : Int32) : (f1_0 x y = x ∧ x.toInt ≤ y.toInt) ∨ (f1_0 x y = y ∧ y.toInt ≤ x.toInt) := by
  unfold f1_0
  by_cases h : y < x
  · rw [if_pos h]; have := Int32.lt_iff_toInt_lt.mp h; exact Or.inr ⟨rfl, by omega⟩
  · rw [if_neg h]; have : ¬ y.toInt < x.toInt := fun q => h (Int32.lt_iff_toInt_lt.mpr q); exact Or.inl ⟨rfl, by omega⟩
theorem own_max (x y : Int32) : (f2_0 x y = y ∧ x.toInt ≤ y.toInt) ∨ (f2_0 x y = x ∧ y.toInt ≤ x.toInt) := by
  unfold f2_0
  by_cases h : x < y
  · rw [if_pos h]; have := Int32.lt_iff_toInt_lt.mp h; exact Or.inl ⟨rfl, by omega⟩
  · rw [if_neg h]; have : ¬ x.toInt < y.toInt := fun q => h (Int32.lt_iff_toInt_lt.mpr q); exact Or.inr ⟨rfl, by omega⟩
theorem own_ov (a b c d : Int32) : ((a.toInt ≤ d.toInt ∧ c.toInt ≤ b.toInt) → f5_0 a b c d = 1) ∧ (¬ (a.toInt ≤ d.toInt ∧ c.toInt ≤ b.toInt) → f5_0 a b c d = 0) := by
  unfold f5_0
  by_cases h1 : d < a
  · have := Int32.lt_iff_toInt_lt.mp h1
    rw [if_pos h1]; exact ⟨fun q => by omega, fun _ => rfl⟩
  · have h1' : ¬ d.toInt < a.toInt := fun q => h1 (Int32.lt_iff_toInt_lt.mpr q)
    rw [if_neg h1]
    by_cases h2 : b < c
    · have := Int32.lt_iff_toInt_lt.mp h2
      rw [if_pos h2]; exact ⟨fun q => by omega, fun _ => rfl⟩
    · have h2' : ¬ b.toInt < c.toInt := fun q => h2 (Int32.lt_iff_toInt_lt.mpr q)
      rw [if_neg h2]; exact ⟨fun _ => rfl, fun q => by omega⟩
theorem own_rr (a b c d : Int32) : f5_0 a b c d = f5_0 c d a b := by
  by_cases h : a.toInt ≤ d.toInt ∧ c.toInt ≤ b.toInt
  · rw [(own_ov a b c d).1 h, (own_ov c d a b).1 ⟨h.2, h.1⟩]
  · rw [(own_ov a b c d).2 h, (own_ov c d a b).2 (fun q => h ⟨q.2, q.1⟩)]
theorem own_com (p q s t : Int32) : ((f1_0 (f2_0 p q) (f2_0 s t)) < (f2_0 (f1_0 p q) (f1_0 s t)) → f5_0 (f1_0 p q) (f2_0 p q) (f1_0 s t) (f2_0 s t) = 0) ∧ (¬ (f1_0 (f2_0 p q) (f2_0 s t)) < (f2_0 (f1_0 p q) (f1_0 s t)) → f5_0 (f1_0 p q) (f2_0 p q) (f1_0 s t) (f2_0 s t) = 1) := by
  have ab : (f1_0 p q).toInt ≤ (f2_0 p q).toInt := by
    rcases own_min p q with ⟨e1, h1⟩ | ⟨e1, h1⟩ <;> rcases own_max p q with ⟨e2, h2⟩ | ⟨e2, h2⟩ <;> rw [e1, e2] <;> omega
  have cd : (f1_0 s t).toInt ≤ (f2_0 s t).toInt := by
    rcases own_min s t with ⟨e1, h1⟩ | ⟨e1, h1⟩ <;> rcases own_max s t with ⟨e2, h2⟩ | ⟨e2, h2⟩ <;> rw [e1, e2] <;> omega
  generalize f1_0 p q = a at ab ⊢
  generalize f2_0 p q = b at ab ⊢
  generalize f1_0 s t = c at cd ⊢
  generalize f2_0 s t = d at cd ⊢
  have k : (f1_0 b d) < (f2_0 a c) ↔ (f1_0 b d).toInt < (f2_0 a c).toInt := Int32.lt_iff_toInt_lt
  have o := own_ov a b c d
  rcases own_min b d with ⟨e1, h1⟩ | ⟨e1, h1⟩ <;> rcases own_max a c with ⟨e2, h2⟩ | ⟨e2, h2⟩ <;> rw [e1, e2] at k ⊢ <;>
    exact ⟨fun y => o.2 (by have := k.mp y; omega), fun y => o.1 (by have := mt k.mpr y; omega)⟩
theorem own_in {v a b c d : Int32} (h1 : ¬ v < a) (h2 : ¬ b < v) (h3 : ¬ v < c) (h4 : ¬ d < v) : ¬ f5_0 a b c d = 0 := by
  have h1' : ¬ v.toInt < a.toInt := fun q => h1 (Int32.lt_iff_toInt_lt.mpr q)
  have h2' : ¬ b.toInt < v.toInt := fun q => h2 (Int32.lt_iff_toInt_lt.mpr q)
  have h3' : ¬ v.toInt < c.toInt := fun q => h3 (Int32.lt_iff_toInt_lt.mpr q)
  have h4' : ¬ d.toInt < v.toInt := fun q => h4 (Int32.lt_iff_toInt_lt.mpr q)
  rw [(own_ov a b c d).1 ⟨by omega, by omega⟩]
  decide
set_option maxRecDepth 65536 in
set_option maxHeartbeats 40000000 in
theorem b0_0 {p : Program} {l : Launch} {e : Env} {s : State} {m : MethodId} {args : Array Value} {below : List Frame} {meth : Method} {c : Code} {T : State} {locs : List Loc} {cells slots : Nat} {Z : State} {a0 : Array Value} {h : Heap} {n0 : Nat} {Q : Option Value → Heap → List Loc → Prop} (i0 : Int32) (i1 : Int32) (i2 : Int32) (i3 : Int32) (i4 : Int32) (hw : ∀ d ∈ tables_1, d.before a0 Z = true) (X : Stand p l e room_1 s m args below meth c T locs cells slots) (hx : p.tables.exec = Jvm.exec) (hZ : Z.Warmed39 s.vm) (hby : c.code = code) (hml : c.maxLocals = 15) (hown : s.vm.findClass "com/example/endorse/endorse/SdkRangeOverlapsPinLaw" = some m.cls) (hret : meth.sig.returnType = some .boolean) (hlk : meth.locks = false) (eT : T.heap = h) (N : Fr n0 locs) (hc : cells ≤ 0) (hs : slots ≤ 0) (Z0 : n0 ≤ h.size) (hQ : ∀ H' L', Fr n0 L' → Q (some (.int 1)) H' L') :
    own_Fin p e below s Q 16 128 (T.setTop (mkF m 0 #[.val (.int i0), .val (.int i1), .val (.int i2), .val (.int i3), .val (.int i4), .unset, .unset, .unset, .unset, .unset, .unset, .unset, .unset, .unset, .unset] [])) := by
  refine own_step (fun t k => XS.iloadN X.here hx rfl (hb hby at_0) rfl  k) ?_
  show own_Fin p e below s Q 16 128 (T.setTop (mkF m 1 #[.val (.int i0), .val (.int i1), .val (.int i2), .val (.int i3), .val (.int i4), .unset, .unset, .unset, .unset, .unset, .unset, .unset, .unset, .unset, .unset] [(.int i0)]))
  refine own_step (fun t k => XS.iloadN X.here hx rfl (hb hby at_1) rfl  k) ?_
  show own_Fin p e below s Q 16 128 (T.setTop (mkF m 2 #[.val (.int i0), .val (.int i1), .val (.int i2), .val (.int i3), .val (.int i4), .unset, .unset, .unset, .unset, .unset, .unset, .unset, .unset, .unset, .unset] [(.int i1), (.int i0)]))
  obtain ⟨_, _, ⟨T17, L17, k17, n17⟩, -, X17, ⟨Lc17, hQ17, l17, y17, z17⟩, st17⟩ := Jvm.LawKit.callS X hx (y := (⟨"java/lang/Math", "min", "(II)I"⟩ : MethodName)) hown (mvT hZ (hw _ (List.mem_of_getElem? (i := 0) rfl))) (mvT hZ (hw _ (List.mem_of_getElem? (i := 1) rfl))) (mvT hZ (hw _ (List.mem_of_getElem? (i := 2) rfl))) (mvT hZ (hw _ (List.mem_of_getElem? (i := 3) rfl))) (by decide) (backOf (W := 0) (rm1 l Z a0 hw [] i0 i1 h n0) hZ (hw _ (List.mem_of_getElem? (i := 3) rfl)) (hw _ (List.mem_of_getElem? (i := 2) rfl)) (by decide) (by decide)) (g := (mkF m 2 #[.val (.int i0), .val (.int i1), .val (.int i2), .val (.int i3), .val (.int i4), .unset, .unset, .unset, .unset, .unset, .unset, .unset, .unset, .unset, .unset] [(.int i1), (.int i0)])) rfl (by rw [hml]; rfl) (argsL := [(.int i0), (.int i1)]) (rest := []) (lenOf pdm_0 rfl) rfl (by show 2 * 0 + _ ≤ _; exact Nat.le_of_eq rfl) (hb hby at_2) (fun _ _ => ⟨rfl, eT, (by show cells + 0 ≤ 16; omega), (by show slots + 0 ≤ 128; omega)⟩)
  dsimp only [Pt.U, Pt.locs, Pt.cells, Pt.slots] at X17 l17 y17 z17 st17 hQ17
  have yy17 : k17 = cells + 0 := y17
  have zz17 : n17 = slots + 0 := z17
  rw [yy17, zz17] at X17
  subst l17
  obtain ⟨rfl, N17q, e17⟩ := hQ17
  have N17 := Fr.app N N17q
  refine own_step st17 ?_
  show own_Fin p e below s Q 16 128 (T17.setTop (mkF m 5 #[.val (.int i0), .val (.int i1), .val (.int i2), .val (.int i3), .val (.int i4), .unset, .unset, .unset, .unset, .unset, .unset, .unset, .unset, .unset, .unset] [(.int (f1_0 i0 i1))]))
  refine own_step (fun t k => XS.istore X17.here hx rfl (hb hby at_5) rfl (l' := #[.val (.int i0), .val (.int i1), .val (.int i2), .val (.int i3), .val (.int i4), .val (.int (f1_0 i0 i1)), .unset, .unset, .unset, .unset, .unset, .unset, .unset, .unset, .unset]) rfl k) ?_
  show own_Fin p e below s Q 16 128 (T17.setTop (mkF m 7 #[.val (.int i0), .val (.int i1), .val (.int i2), .val (.int i3), .val (.int i4), .val (.int (f1_0 i0 i1)), .unset, .unset, .unset, .unset, .unset, .unset, .unset, .unset, .unset] []))
  refine own_step (fun t k => XS.iloadN X17.here hx rfl (hb hby at_7) rfl  k) ?_
  show own_Fin p e below s Q 16 128 (T17.setTop (mkF m 8 #[.val (.int i0), .val (.int i1), .val (.int i2), .val (.int i3), .val (.int i4), .val (.int (f1_0 i0 i1)), .unset, .unset, .unset, .unset, .unset, .unset, .unset, .unset, .unset] [(.int i0)]))
  refine own_step (fun t k => XS.iloadN X17.here hx rfl (hb hby at_8) rfl  k) ?_
  show own_Fin p e below s Q 16 128 (T17.setTop (mkF m 9 #[.val (.int i0), .val (.int i1), .val (.int i2), .val (.int i3), .val (.int i4), .val (.int (f1_0 i0 i1)), .unset, .unset, .unset, .unset, .unset, .unset, .unset, .unset, .unset] [(.int i1), (.int i0)]))
  obtain ⟨_, _, ⟨T18, L18, k18, n18⟩, -, X18, ⟨Lc18, hQ18, l18, y18, z18⟩, st18⟩ := Jvm.LawKit.callS X17 hx (y := (⟨"java/lang/Math", "max", "(II)I"⟩ : MethodName)) hown (mvT hZ (hw _ (List.mem_of_getElem? (i := 4) rfl))) (mvT hZ (hw _ (List.mem_of_getElem? (i := 5) rfl))) (mvT hZ (hw _ (List.mem_of_getElem? (i := 2) rfl))) (mvT hZ (hw _ (List.mem_of_getElem? (i := 6) rfl))) (by decide) (backOf (W := 0) (rm2 l Z a0 hw [] i0 i1 h n0) hZ (hw _ (List.mem_of_getElem? (i := 6) rfl)) (hw _ (List.mem_of_getElem? (i := 2) rfl)) (by decide) (by decide)) (g := (mkF m 9 #[.val (.int i0), .val (.int i1), .val (.int i2), .val (.int i3), .val (.int i4), .val (.int (f1_0 i0 i1)), .unset, .unset, .unset, .unset, .unset, .unset, .unset, .unset, .unset] [(.int i1), (.int i0)])) rfl (by rw [hml]; rfl) (argsL := [(.int i0), (.int i1)]) (rest := []) (lenOf pdm_0 rfl) rfl (by show 2 * 0 + _ ≤ _; exact Nat.le_of_eq rfl) (hb hby at_9) (fun _ _ => ⟨rfl, e17, (by show cells + 0 + 0 ≤ 16; omega), (by show slots + 0 + 0 ≤ 128; omega)⟩)
  dsimp only [Pt.U, Pt.locs, Pt.cells, Pt.slots] at X18 l18 y18 z18 st18 hQ18
  have yy18 : k18 = cells + 0 + 0 := y18
  have zz18 : n18 = slots + 0 + 0 := z18
  rw [yy18, zz18] at X18
  subst l18
  obtain ⟨rfl, N18q, e18⟩ := hQ18
  have N18 := Fr.app N17 N18q
  refine own_step st18 ?_
  show own_Fin p e below s Q 16 128 (T18.setTop (mkF m 12 #[.val (.int i0), .val (.int i1), .val (.int i2), .val (.int i3), .val (.int i4), .val (.int (f1_0 i0 i1)), .unset, .unset, .unset, .unset, .unset, .unset, .unset, .unset, .unset] [(.int (f2_0 i0 i1))]))
  refine own_step (fun t k => XS.istore X18.here hx rfl (hb hby at_12) rfl (l' := #[.val (.int i0), .val (.int i1), .val (.int i2), .val (.int i3), .val (.int i4), .val (.int (f1_0 i0 i1)), .val (.int (f2_0 i0 i1)), .unset, .unset, .unset, .unset, .unset, .unset, .unset, .unset]) rfl k) ?_
  show own_Fin p e below s Q 16 128 (T18.setTop (mkF m 14 #[.val (.int i0), .val (.int i1), .val (.int i2), .val (.int i3), .val (.int i4), .val (.int (f1_0 i0 i1)), .val (.int (f2_0 i0 i1)), .unset, .unset, .unset, .unset, .unset, .unset, .unset, .unset] []))
  refine own_step (fun t k => XS.iloadN X18.here hx rfl (hb hby at_14) rfl  k) ?_
  show own_Fin p e below s Q 16 128 (T18.setTop (mkF m 15 #[.val (.int i0), .val (.int i1), .val (.int i2), .val (.int i3), .val (.int i4), .val (.int (f1_0 i0 i1)), .val (.int (f2_0 i0 i1)), .unset, .unset, .unset, .unset, .unset, .unset, .unset, .unset] [(.int i2)]))
  refine own_step (fun t k => XS.iloadN X18.here hx rfl (hb hby at_15) rfl  k) ?_
  show own_Fin p e below s Q 16 128 (T18.setTop (mkF m 16 #[.val (.int i0), .val (.int i1), .val (.int i2), .val (.int i3), .val (.int i4), .val (.int (f1_0 i0 i1)), .val (.int (f2_0 i0 i1)), .unset, .unset, .unset, .unset, .unset, .unset, .unset, .unset] [(.int i3), (.int i2)]))
  obtain ⟨_, _, ⟨T19, L19, k19, n19⟩, -, X19, ⟨Lc19, hQ19, l19, y19, z19⟩, st19⟩ := Jvm.LawKit.callS X18 hx (y := (⟨"java/lang/Math", "min", "(II)I"⟩ : MethodName)) hown (mvT hZ (hw _ (List.mem_of_getElem? (i := 0) rfl))) (mvT hZ (hw _ (List.mem_of_getElem? (i := 1) rfl))) (mvT hZ (hw _ (List.mem_of_getElem? (i := 2) rfl))) (mvT hZ (hw _ (List.mem_of_getElem? (i := 3) rfl))) (by decide) (backOf (W := 0) (rm1 l Z a0 hw [] i2 i3 h n0) hZ (hw _ (List.mem_of_getElem? (i := 3) rfl)) (hw _ (List.mem_of_getElem? (i := 2) rfl)) (by decide) (by decide)) (g := (mkF m 16 #[.val (.int i0), .val (.int i1), .val (.int i2), .val (.int i3), .val (.int i4), .val (.int (f1_0 i0 i1)), .val (.int (f2_0 i0 i1)), .unset, .unset, .unset, .unset, .unset, .unset, .unset, .unset] [(.int i3), (.int i2)])) rfl (by rw [hml]; rfl) (argsL := [(.int i2), (.int i3)]) (rest := []) (lenOf pdm_0 rfl) rfl (by show 2 * 0 + _ ≤ _; exact Nat.le_of_eq rfl) (hb hby at_16) (fun _ _ => ⟨rfl, e18, (by show cells + 0 + 0 + 0 ≤ 16; omega), (by show slots + 0 + 0 + 0 ≤ 128; omega)⟩)
  dsimp only [Pt.U, Pt.locs, Pt.cells, Pt.slots] at X19 l19 y19 z19 st19 hQ19
  have yy19 : k19 = cells + 0 + 0 + 0 := y19
  have zz19 : n19 = slots + 0 + 0 + 0 := z19
  rw [yy19, zz19] at X19
  subst l19
  obtain ⟨rfl, N19q, e19⟩ := hQ19
  have N19 := Fr.app N18 N19q
  refine own_step st19 ?_
  show own_Fin p e below s Q 16 128 (T19.setTop (mkF m 19 #[.val (.int i0), .val (.int i1), .val (.int i2), .val (.int i3), .val (.int i4), .val (.int (f1_0 i0 i1)), .val (.int (f2_0 i0 i1)), .unset, .unset, .unset, .unset, .unset, .unset, .unset, .unset] [(.int (f1_0 i2 i3))]))
  refine own_step (fun t k => XS.istore X19.here hx rfl (hb hby at_19) rfl (l' := #[.val (.int i0), .val (.int i1), .val (.int i2), .val (.int i3), .val (.int i4), .val (.int (f1_0 i0 i1)), .val (.int (f2_0 i0 i1)), .val (.int (f1_0 i2 i3)), .unset, .unset, .unset, .unset, .unset, .unset, .unset]) rfl k) ?_
  show own_Fin p e below s Q 16 128 (T19.setTop (mkF m 21 #[.val (.int i0), .val (.int i1), .val (.int i2), .val (.int i3), .val (.int i4), .val (.int (f1_0 i0 i1)), .val (.int (f2_0 i0 i1)), .val (.int (f1_0 i2 i3)), .unset, .unset, .unset, .unset, .unset, .unset, .unset] []))
  refine own_step (fun t k => XS.iloadN X19.here hx rfl (hb hby at_21) rfl  k) ?_
  show own_Fin p e below s Q 16 128 (T19.setTop (mkF m 22 #[.val (.int i0), .val (.int i1), .val (.int i2), .val (.int i3), .val (.int i4), .val (.int (f1_0 i0 i1)), .val (.int (f2_0 i0 i1)), .val (.int (f1_0 i2 i3)), .unset, .unset, .unset, .unset, .unset, .unset, .unset] [(.int i2)]))
  refine own_step (fun t k => XS.iloadN X19.here hx rfl (hb hby at_22) rfl  k) ?_
  show own_Fin p e below s Q 16 128 (T19.setTop (mkF m 23 #[.val (.int i0), .val (.int i1), .val (.int i2), .val (.int i3), .val (.int i4), .val (.int (f1_0 i0 i1)), .val (.int (f2_0 i0 i1)), .val (.int (f1_0 i2 i3)), .unset, .unset, .unset, .unset, .unset, .unset, .unset] [(.int i3), (.int i2)]))
  obtain ⟨_, _, ⟨T20, L20, k20, n20⟩, -, X20, ⟨Lc20, hQ20, l20, y20, z20⟩, st20⟩ := Jvm.LawKit.callS X19 hx (y := (⟨"java/lang/Math", "max", "(II)I"⟩ : MethodName)) hown (mvT hZ (hw _ (List.mem_of_getElem? (i := 4) rfl))) (mvT hZ (hw _ (List.mem_of_getElem? (i := 5) rfl))) (mvT hZ (hw _ (List.mem_of_getElem? (i := 2) rfl))) (mvT hZ (hw _ (List.mem_of_getElem? (i := 6) rfl))) (by decide) (backOf (W := 0) (rm2 l Z a0 hw [] i2 i3 h n0) hZ (hw _ (List.mem_of_getElem? (i := 6) rfl)) (hw _ (List.mem_of_getElem? (i := 2) rfl)) (by decide) (by decide)) (g := (mkF m 23 #[.val (.int i0), .val (.int i1), .val (.int i2), .val (.int i3), .val (.int i4), .val (.int (f1_0 i0 i1)), .val (.int (f2_0 i0 i1)), .val (.int (f1_0 i2 i3)), .unset, .unset, .unset, .unset, .unset, .unset, .unset] [(.int i3), (.int i2)])) rfl (by rw [hml]; rfl) (argsL := [(.int i2), (.int i3)]) (rest := []) (lenOf pdm_0 rfl) rfl (by show 2 * 0 + _ ≤ _; exact Nat.le_of_eq rfl) (hb hby at_23) (fun _ _ => ⟨rfl, e19, (by show cells + 0 + 0 + 0 + 0 ≤ 16; omega), (by show slots + 0 + 0 + 0 + 0 ≤ 128; omega)⟩)
  dsimp only [Pt.U, Pt.locs, Pt.cells, Pt.slots] at X20 l20 y20 z20 st20 hQ20
  have yy20 : k20 = cells + 0 + 0 + 0 + 0 := y20
  have zz20 : n20 = slots + 0 + 0 + 0 + 0 := z20
  rw [yy20, zz20] at X20
  subst l20
  obtain ⟨rfl, N20q, e20⟩ := hQ20
  have N20 := Fr.app N19 N20q
  refine own_step st20 ?_
  show own_Fin p e below s Q 16 128 (T20.setTop (mkF m 26 #[.val (.int i0), .val (.int i1), .val (.int i2), .val (.int i3), .val (.int i4), .val (.int (f1_0 i0 i1)), .val (.int (f2_0 i0 i1)), .val (.int (f1_0 i2 i3)), .unset, .unset, .unset, .unset, .unset, .unset, .unset] [(.int (f2_0 i2 i3))]))
  refine own_step (fun t k => XS.istore X20.here hx rfl (hb hby at_26) rfl (l' := #[.val (.int i0), .val (.int i1), .val (.int i2), .val (.int i3), .val (.int i4), .val (.int (f1_0 i0 i1)), .val (.int (f2_0 i0 i1)), .val (.int (f1_0 i2 i3)), .val (.int (f2_0 i2 i3)), .unset, .unset, .unset, .unset, .unset, .unset]) rfl k) ?_
  show own_Fin p e below s Q 16 128 (T20.setTop (mkF m 28 #[.val (.int i0), .val (.int i1), .val (.int i2), .val (.int i3), .val (.int i4), .val (.int (f1_0 i0 i1)), .val (.int (f2_0 i0 i1)), .val (.int (f1_0 i2 i3)), .val (.int (f2_0 i2 i3)), .unset, .unset, .unset, .unset, .unset, .unset] []))
  obtain ⟨T21, h21, X21, e21, E21, A21, D21, -, st21⟩ := newO X20 hx hZ hown (hw _ (List.mem_of_getElem? (i := 7) rfl)) (hw _ (List.mem_of_getElem? (i := 8) rfl)) (hw _ (List.mem_of_getElem? (i := 9) rfl)) e20 (g := (mkF m 28 #[.val (.int i0), .val (.int i1), .val (.int i2), .val (.int i3), .val (.int i4), .val (.int (f1_0 i0 i1)), .val (.int (f2_0 i0 i1)), .val (.int (f1_0 i2 i3)), .val (.int (f2_0 i2 i3)), .unset, .unset, .unset, .unset, .unset, .unset] [])) rfl (hb hby at_28) (by show cells + 0 + 0 + 0 + 0 + 1 ≤ 16; omega) (by show slots + 0 + 0 + 0 + 0 + 2 ≤ 128; omega)
  obtain ⟨b21, gg21⟩ : ∃ z, z = h.size := ⟨_, rfl⟩
  rw [← gg21] at A21 D21 st21
  have F21_min : Fld Z h21 b21 "com/example/endorse/endorse/SdkRange" "min" "I" (.int (0 : Int32)) := D21 (Or.inr (hw _ (List.mem_of_getElem? (i := 17) rfl))) (ty := .int) (by decide)
  have F21_max : Fld Z h21 b21 "com/example/endorse/endorse/SdkRange" "max" "I" (.int (0 : Int32)) := D21 (Or.inr (hw _ (List.mem_of_getElem? (i := 19) rfl))) (ty := .int) (by decide)
  have fr21 : n0 ≤ b21 := Nat.le_trans Z0 (Nat.le_of_eq gg21.symm)
  have Z021 : n0 ≤ h21.size := Nat.le_trans Z0 E21.1
  refine own_step st21 ?_
  show own_Fin p e below s Q 16 128 (T21.setTop (mkF m 31 #[.val (.int i0), .val (.int i1), .val (.int i2), .val (.int i3), .val (.int i4), .val (.int (f1_0 i0 i1)), .val (.int (f2_0 i0 i1)), .val (.int (f1_0 i2 i3)), .val (.int (f2_0 i2 i3)), .unset, .unset, .unset, .unset, .unset, .unset] [(.ref b21)]))
  refine own_step (fun t k => XS.dup X21.here hx rfl (hb hby at_31) rfl rfl k) ?_
  show own_Fin p e below s Q 16 128 (T21.setTop (mkF m 32 #[.val (.int i0), .val (.int i1), .val (.int i2), .val (.int i3), .val (.int i4), .val (.int (f1_0 i0 i1)), .val (.int (f2_0 i0 i1)), .val (.int (f1_0 i2 i3)), .val (.int (f2_0 i2 i3)), .unset, .unset, .unset, .unset, .unset, .unset] [(.ref b21), (.ref b21)]))
  refine own_step (fun t k => XS.iload X21.here hx rfl (hb hby at_32) rfl  k) ?_
  show own_Fin p e below s Q 16 128 (T21.setTop (mkF m 34 #[.val (.int i0), .val (.int i1), .val (.int i2), .val (.int i3), .val (.int i4), .val (.int (f1_0 i0 i1)), .val (.int (f2_0 i0 i1)), .val (.int (f1_0 i2 i3)), .val (.int (f2_0 i2 i3)), .unset, .unset, .unset, .unset, .unset, .unset] [(.int (f1_0 i0 i1)), (.ref b21), (.ref b21)]))
  refine own_step (fun t k => XS.iload X21.here hx rfl (hb hby at_34) rfl  k) ?_
  show own_Fin p e below s Q 16 128 (T21.setTop (mkF m 36 #[.val (.int i0), .val (.int i1), .val (.int i2), .val (.int i3), .val (.int i4), .val (.int (f1_0 i0 i1)), .val (.int (f2_0 i0 i1)), .val (.int (f1_0 i2 i3)), .val (.int (f2_0 i2 i3)), .unset, .unset, .unset, .unset, .unset, .unset] [(.int (f2_0 i0 i1)), (.int (f1_0 i0 i1)), (.ref b21), (.ref b21)]))
  obtain ⟨_, _, ⟨T22, L22, k22, n22⟩, -, X22, ⟨Lc22, hQ22, l22, y22, z22⟩, st22⟩ := X21.specialBack hx (y := (⟨"com/example/endorse/endorse/SdkRange", "<init>", "(II)V"⟩ : MethodName)) rfl hown (mvT hZ (hw _ (List.mem_of_getElem? (i := 10) rfl))) (mvT hZ (hw _ (List.mem_of_getElem? (i := 11) rfl))) (mvT hZ (hw _ (List.mem_of_getElem? (i := 12) rfl))) (by decide) (backOf (W := 1) (rm3 l Z a0 hw [] b21 (f1_0 i0 i1) (f2_0 i0 i1) (.int (0 : Int32)) (.int (0 : Int32)) h21 n0 Z021 A21 F21_min fr21 F21_max) hZ (hw _ (List.mem_of_getElem? (i := 12) rfl)) (hw _ (List.mem_of_getElem? (i := 9) rfl)) (by decide) (by decide)) (g := (mkF m 36 #[.val (.int i0), .val (.int i1), .val (.int i2), .val (.int i3), .val (.int i4), .val (.int (f1_0 i0 i1)), .val (.int (f2_0 i0 i1)), .val (.int (f1_0 i2 i3)), .val (.int (f2_0 i2 i3)), .unset, .unset, .unset, .unset, .unset, .unset] [(.int (f2_0 i0 i1)), (.int (f1_0 i0 i1)), (.ref b21), (.ref b21)])) rfl (by rw [hml]; rfl) (Steps.refl _) (a := b21) (argsL := [(.int (f1_0 i0 i1)), (.int (f2_0 i0 i1))]) (rest := [(.ref b21)]) (lenOf pdm_1 rfl) rfl (by show 2 * 0 + _ ≤ _; exact Nat.le_of_eq rfl) (hb hby at_36) (fun _ _ => ⟨rfl, e21, (by show cells + 0 + 0 + 0 + 0 + 1 + 0 ≤ 16; omega), (by show slots + 0 + 0 + 0 + 0 + 2 + 0 ≤ 128; omega)⟩)
  dsimp only [Pt.U, Pt.locs, Pt.cells, Pt.slots] at X22 l22 y22 z22 st22 hQ22
  have yy22 : k22 = cells + 0 + 0 + 0 + 0 + 1 + 0 := y22
  have zz22 : n22 = slots + 0 + 0 + 0 + 0 + 2 + 0 := z22
  rw [yy22, zz22] at X22
  subst l22
  obtain ⟨rfl, N22q, K22, Ex22, F22_min, F22_max⟩ := hQ22
  have N22 := Fr.app N20 N22q
  have Z022 : n0 ≤ T22.heap.size := Nat.le_trans Z021 K22.1
  refine own_step (fun t k => st22.trans k) ?_
  show own_Fin p e below s Q 16 128 (T22.setTop (mkF m 39 #[.val (.int i0), .val (.int i1), .val (.int i2), .val (.int i3), .val (.int i4), .val (.int (f1_0 i0 i1)), .val (.int (f2_0 i0 i1)), .val (.int (f1_0 i2 i3)), .val (.int (f2_0 i2 i3)), .unset, .unset, .unset, .unset, .unset, .unset] [(.ref b21)]))
  refine own_step (fun t k => XS.astore X22.here hx rfl (hb hby at_39) rfl rfl (l' := #[.val (.int i0), .val (.int i1), .val (.int i2), .val (.int i3), .val (.int i4), .val (.int (f1_0 i0 i1)), .val (.int (f2_0 i0 i1)), .val (.int (f1_0 i2 i3)), .val (.int (f2_0 i2 i3)), .val (.ref b21), .unset, .unset, .unset, .unset, .unset]) rfl k) ?_
  show own_Fin p e below s Q 16 128 (T22.setTop (mkF m 41 #[.val (.int i0), .val (.int i1), .val (.int i2), .val (.int i3), .val (.int i4), .val (.int (f1_0 i0 i1)), .val (.int (f2_0 i0 i1)), .val (.int (f1_0 i2 i3)), .val (.int (f2_0 i2 i3)), .val (.ref b21), .unset, .unset, .unset, .unset, .unset] []))
  obtain ⟨T23, h23, X23, e23, E23, A23, D23, -, st23⟩ := newO X22 hx hZ hown (hw _ (List.mem_of_getElem? (i := 7) rfl)) (hw _ (List.mem_of_getElem? (i := 8) rfl)) (hw _ (List.mem_of_getElem? (i := 9) rfl)) rfl (g := (mkF m 41 #[.val (.int i0), .val (.int i1), .val (.int i2), .val (.int i3), .val (.int i4), .val (.int (f1_0 i0 i1)), .val (.int (f2_0 i0 i1)), .val (.int (f1_0 i2 i3)), .val (.int (f2_0 i2 i3)), .val (.ref b21), .unset, .unset, .unset, .unset, .unset] [])) rfl (hb hby at_41) (by show cells + 0 + 0 + 0 + 0 + 1 + 0 + 1 ≤ 16; omega) (by show slots + 0 + 0 + 0 + 0 + 2 + 0 + 2 ≤ 128; omega)
  obtain ⟨b23, gg23⟩ : ∃ z, z = T22.heap.size := ⟨_, rfl⟩
  rw [← gg23] at A23 D23 st23
  have F23_min : Fld Z h23 b23 "com/example/endorse/endorse/SdkRange" "min" "I" (.int (0 : Int32)) := D23 (Or.inr (hw _ (List.mem_of_getElem? (i := 17) rfl))) (ty := .int) (by decide)
  have F23_max : Fld Z h23 b23 "com/example/endorse/endorse/SdkRange" "max" "I" (.int (0 : Int32)) := D23 (Or.inr (hw _ (List.mem_of_getElem? (i := 19) rfl))) (ty := .int) (by decide)
  have fr23 : n0 ≤ b23 := Nat.le_trans Z022 (Nat.le_of_eq gg23.symm)
  have Z023 : n0 ≤ h23.size := Nat.le_trans Z022 E23.1
  have neb21_23 : b21 ≠ b23 := Nat.ne_of_lt (Nat.lt_of_lt_of_le Ex22.lt (Nat.le_of_eq gg23.symm))
  have Ex23_b21 := Ex22.ext E23
  have F23_b21_min := F22_min.ext E23
  have F23_b21_max := F22_max.ext E23
  refine own_step st23 ?_
  show own_Fin p e below s Q 16 128 (T23.setTop (mkF m 44 #[.val (.int i0), .val (.int i1), .val (.int i2), .val (.int i3), .val (.int i4), .val (.int (f1_0 i0 i1)), .val (.int (f2_0 i0 i1)), .val (.int (f1_0 i2 i3)), .val (.int (f2_0 i2 i3)), .val (.ref b21), .unset, .unset, .unset, .unset, .unset] [(.ref b23)]))
  refine own_step (fun t k => XS.dup X23.here hx rfl (hb hby at_44) rfl rfl k) ?_
  show own_Fin p e below s Q 16 128 (T23.setTop (mkF m 45 #[.val (.int i0), .val (.int i1), .val (.int i2), .val (.int i3), .val (.int i4), .val (.int (f1_0 i0 i1)), .val (.int (f2_0 i0 i1)), .val (.int (f1_0 i2 i3)), .val (.int (f2_0 i2 i3)), .val (.ref b21), .unset, .unset, .unset, .unset, .unset] [(.ref b23), (.ref b23)]))
  refine own_step (fun t k => XS.iload X23.here hx rfl (hb hby at_45) rfl  k) ?_
  show own_Fin p e below s Q 16 128 (T23.setTop (mkF m 47 #[.val (.int i0), .val (.int i1), .val (.int i2), .val (.int i3), .val (.int i4), .val (.int (f1_0 i0 i1)), .val (.int (f2_0 i0 i1)), .val (.int (f1_0 i2 i3)), .val (.int (f2_0 i2 i3)), .val (.ref b21), .unset, .unset, .unset, .unset, .unset] [(.int (f1_0 i2 i3)), (.ref b23), (.ref b23)]))
  refine own_step (fun t k => XS.iload X23.here hx rfl (hb hby at_47) rfl  k) ?_
  show own_Fin p e below s Q 16 128 (T23.setTop (mkF m 49 #[.val (.int i0), .val (.int i1), .val (.int i2), .val (.int i3), .val (.int i4), .val (.int (f1_0 i0 i1)), .val (.int (f2_0 i0 i1)), .val (.int (f1_0 i2 i3)), .val (.int (f2_0 i2 i3)), .val (.ref b21), .unset, .unset, .unset, .unset, .unset] [(.int (f2_0 i2 i3)), (.int (f1_0 i2 i3)), (.ref b23), (.ref b23)]))
  obtain ⟨_, _, ⟨T24, L24, k24, n24⟩, -, X24, ⟨Lc24, hQ24, l24, y24, z24⟩, st24⟩ := X23.specialBack hx (y := (⟨"com/example/endorse/endorse/SdkRange", "<init>", "(II)V"⟩ : MethodName)) rfl hown (mvT hZ (hw _ (List.mem_of_getElem? (i := 10) rfl))) (mvT hZ (hw _ (List.mem_of_getElem? (i := 11) rfl))) (mvT hZ (hw _ (List.mem_of_getElem? (i := 12) rfl))) (by decide) (backOf (W := 1) (rm3 l Z a0 hw [] b23 (f1_0 i2 i3) (f2_0 i2 i3) (.int (0 : Int32)) (.int (0 : Int32)) h23 n0 Z023 A23 F23_min fr23 F23_max) hZ (hw _ (List.mem_of_getElem? (i := 12) rfl)) (hw _ (List.mem_of_getElem? (i := 9) rfl)) (by decide) (by decide)) (g := (mkF m 49 #[.val (.int i0), .val (.int i1), .val (.int i2), .val (.int i3), .val (.int i4), .val (.int (f1_0 i0 i1)), .val (.int (f2_0 i0 i1)), .val (.int (f1_0 i2 i3)), .val (.int (f2_0 i2 i3)), .val (.ref b21), .unset, .unset, .unset, .unset, .unset] [(.int (f2_0 i2 i3)), (.int (f1_0 i2 i3)), (.ref b23), (.ref b23)])) rfl (by rw [hml]; rfl) (Steps.refl _) (a := b23) (argsL := [(.int (f1_0 i2 i3)), (.int (f2_0 i2 i3))]) (rest := [(.ref b23)]) (lenOf pdm_1 rfl) rfl (by show 2 * 0 + _ ≤ _; exact Nat.le_of_eq rfl) (hb hby at_49) (fun _ _ => ⟨rfl, e23, (by show cells + 0 + 0 + 0 + 0 + 1 + 0 + 1 + 0 ≤ 16; omega), (by show slots + 0 + 0 + 0 + 0 + 2 + 0 + 2 + 0 ≤ 128; omega)⟩)
  dsimp only [Pt.U, Pt.locs, Pt.cells, Pt.slots] at X24 l24 y24 z24 st24 hQ24
  have yy24 : k24 = cells + 0 + 0 + 0 + 0 + 1 + 0 + 1 + 0 := y24
  have zz24 : n24 = slots + 0 + 0 + 0 + 0 + 2 + 0 + 2 + 0 := z24
  rw [yy24, zz24] at X24
  subst l24
  obtain ⟨rfl, N24q, K24, Ex24, F24_min, F24_max⟩ := hQ24
  have N24 := Fr.app N22 N24q
  have Z024 : n0 ≤ T24.heap.size := Nat.le_trans Z023 K24.1
  have Ex24_b21 := Ex23_b21.keep K24
  have F24_b21_min := F23_b21_min.keep K24 (ninS neb21_23 nin0)
  have F24_b21_max := F23_b21_max.keep K24 (ninS neb21_23 nin0)
  refine own_step (fun t k => st24.trans k) ?_
  show own_Fin p e below s Q 16 128 (T24.setTop (mkF m 52 #[.val (.int i0), .val (.int i1), .val (.int i2), .val (.int i3), .val (.int i4), .val (.int (f1_0 i0 i1)), .val (.int (f2_0 i0 i1)), .val (.int (f1_0 i2 i3)), .val (.int (f2_0 i2 i3)), .val (.ref b21), .unset, .unset, .unset, .unset, .unset] [(.ref b23)]))
  refine own_step (fun t k => XS.astore X24.here hx rfl (hb hby at_52) rfl rfl (l' := #[.val (.int i0), .val (.int i1), .val (.int i2), .val (.int i3), .val (.int i4), .val (.int (f1_0 i0 i1)), .val (.int (f2_0 i0 i1)), .val (.int (f1_0 i2 i3)), .val (.int (f2_0 i2 i3)), .val (.ref b21), .val (.ref b23), .unset, .unset, .unset, .unset]) rfl k) ?_
  show own_Fin p e below s Q 16 128 (T24.setTop (mkF m 54 #[.val (.int i0), .val (.int i1), .val (.int i2), .val (.int i3), .val (.int i4), .val (.int (f1_0 i0 i1)), .val (.int (f2_0 i0 i1)), .val (.int (f1_0 i2 i3)), .val (.int (f2_0 i2 i3)), .val (.ref b21), .val (.ref b23), .unset, .unset, .unset, .unset] []))
  refine own_step (fun t k => XS.aload X24.here hx rfl (hb hby at_54) rfl rfl k) ?_
  show own_Fin p e below s Q 16 128 (T24.setTop (mkF m 56 #[.val (.int i0), .val (.int i1), .val (.int i2), .val (.int i3), .val (.int i4), .val (.int (f1_0 i0 i1)), .val (.int (f2_0 i0 i1)), .val (.int (f1_0 i2 i3)), .val (.int (f2_0 i2 i3)), .val (.ref b21), .val (.ref b23), .unset, .unset, .unset, .unset] [(.ref b21)]))
  refine own_step (fun t k => XS.aload X24.here hx rfl (hb hby at_56) rfl rfl k) ?_
  show own_Fin p e below s Q 16 128 (T24.setTop (mkF m 58 #[.val (.int i0), .val (.int i1), .val (.int i2), .val (.int i3), .val (.int i4), .val (.int (f1_0 i0 i1)), .val (.int (f2_0 i0 i1)), .val (.int (f1_0 i2 i3)), .val (.int (f2_0 i2 i3)), .val (.ref b21), .val (.ref b23), .unset, .unset, .unset, .unset] [(.ref b23), (.ref b21)]))
  obtain ⟨cq25, kq25, q25a, q25b, q25c⟩ := isOf hZ rfl Ex24_b21
  obtain ⟨_, _, ⟨T25, L25, k25, n25⟩, -, X25, ⟨Lc25, hQ25, l25, y25, z25⟩, st25⟩ := X24.virtualBack hx (y := (⟨"com/example/endorse/endorse/SdkRange", "overlaps", "(Lcom/example/endorse/endorse/SdkRange;)Z"⟩ : MethodName)) (z := (⟨"com/example/endorse/endorse/SdkRange", "overlaps", "(Lcom/example/endorse/endorse/SdkRange;)Z"⟩ : MethodName)) hown (mvT hZ (hw _ (List.mem_of_getElem? (i := 20) rfl))) (mvT hZ (hw _ (List.mem_of_getElem? (i := 21) rfl))) (notFace_of_selects (args := #[]) (mvT hZ (hw _ (List.mem_of_getElem? (i := 23) rfl)))) (mvT hZ (hw _ (List.mem_of_getElem? (i := 23) rfl))) (mvT hZ (hw _ (List.mem_of_getElem? (i := 22) rfl))) (by decide) (backOf (W := 0) (rm5 l Z a0 hw [] b21 b23 (f1_0 i0 i1) (f2_0 i0 i1) (f1_0 i2 i3) (f2_0 i2 i3) T24.heap n0 F24_b21_min F24_b21_max F24_min F24_max) hZ (hw _ (List.mem_of_getElem? (i := 24) rfl)) (hw _ (List.mem_of_getElem? (i := 9) rfl)) (by decide) (by decide)) q25a q25c (g := (mkF m 58 #[.val (.int i0), .val (.int i1), .val (.int i2), .val (.int i3), .val (.int i4), .val (.int (f1_0 i0 i1)), .val (.int (f2_0 i0 i1)), .val (.int (f1_0 i2 i3)), .val (.int (f2_0 i2 i3)), .val (.ref b21), .val (.ref b23), .unset, .unset, .unset, .unset] [(.ref b23), (.ref b21)])) rfl (by rw [hml]; rfl) (Steps.refl _) (argsL := [(.ref b23)]) (rest := []) (lenOf pdm_2 rfl) rfl (by show 2 * 0 + _ ≤ _; exact Nat.le_of_eq rfl) (hb hby at_58) (fun _ _ => ⟨rfl, rfl, (by show cells + 0 + 0 + 0 + 0 + 1 + 0 + 1 + 0 + 0 ≤ 16; omega), (by show slots + 0 + 0 + 0 + 0 + 2 + 0 + 2 + 0 + 0 ≤ 128; omega)⟩)
  dsimp only [Pt.U, Pt.locs, Pt.cells, Pt.slots] at X25 l25 y25 z25 st25 hQ25
  have yy25 : k25 = cells + 0 + 0 + 0 + 0 + 1 + 0 + 1 + 0 + 0 := y25
  have zz25 : n25 = slots + 0 + 0 + 0 + 0 + 2 + 0 + 2 + 0 + 0 := z25
  rw [yy25, zz25] at X25
  subst l25
  obtain ⟨rfl, N25q, e25⟩ := hQ25
  have N25 := Fr.app N24 N25q
  refine own_step (fun t k => st25.trans k) ?_
  show own_Fin p e below s Q 16 128 (T25.setTop (mkF m 61 #[.val (.int i0), .val (.int i1), .val (.int i2), .val (.int i3), .val (.int i4), .val (.int (f1_0 i0 i1)), .val (.int (f2_0 i0 i1)), .val (.int (f1_0 i2 i3)), .val (.int (f2_0 i2 i3)), .val (.ref b21), .val (.ref b23), .unset, .unset, .unset, .unset] [(.int (f5_0 (f1_0 i0 i1) (f2_0 i0 i1) (f1_0 i2 i3) (f2_0 i2 i3)))]))
  refine own_step (fun t k => XS.istore X25.here hx rfl (hb hby at_61) rfl (l' := #[.val (.int i0), .val (.int i1), .val (.int i2), .val (.int i3), .val (.int i4), .val (.int (f1_0 i0 i1)), .val (.int (f2_0 i0 i1)), .val (.int (f1_0 i2 i3)), .val (.int (f2_0 i2 i3)), .val (.ref b21), .val (.ref b23), .val (.int (f5_0 (f1_0 i0 i1) (f2_0 i0 i1) (f1_0 i2 i3) (f2_0 i2 i3))), .unset, .unset, .unset]) rfl k) ?_
  show own_Fin p e below s Q 16 128 (T25.setTop (mkF m 63 #[.val (.int i0), .val (.int i1), .val (.int i2), .val (.int i3), .val (.int i4), .val (.int (f1_0 i0 i1)), .val (.int (f2_0 i0 i1)), .val (.int (f1_0 i2 i3)), .val (.int (f2_0 i2 i3)), .val (.ref b21), .val (.ref b23), .val (.int (f5_0 (f1_0 i0 i1) (f2_0 i0 i1) (f1_0 i2 i3) (f2_0 i2 i3))), .unset, .unset, .unset] []))
  refine own_step (fun t k => XS.aload X25.here hx rfl (hb hby at_63) rfl rfl k) ?_
  show own_Fin p e below s Q 16 128 (T25.setTop (mkF m 65 #[.val (.int i0), .val (.int i1), .val (.int i2), .val (.int i3), .val (.int i4), .val (.int (f1_0 i0 i1)), .val (.int (f2_0 i0 i1)), .val (.int (f1_0 i2 i3)), .val (.int (f2_0 i2 i3)), .val (.ref b21), .val (.ref b23), .val (.int (f5_0 (f1_0 i0 i1) (f2_0 i0 i1) (f1_0 i2 i3) (f2_0 i2 i3))), .unset, .unset, .unset] [(.ref b23)]))
  refine own_step (fun t k => XS.aload X25.here hx rfl (hb hby at_65) rfl rfl k) ?_
  show own_Fin p e below s Q 16 128 (T25.setTop (mkF m 67 #[.val (.int i0), .val (.int i1), .val (.int i2), .val (.int i3), .val (.int i4), .val (.int (f1_0 i0 i1)), .val (.int (f2_0 i0 i1)), .val (.int (f1_0 i2 i3)), .val (.int (f2_0 i2 i3)), .val (.ref b21), .val (.ref b23), .val (.int (f5_0 (f1_0 i0 i1) (f2_0 i0 i1) (f1_0 i2 i3) (f2_0 i2 i3))), .unset, .unset, .unset] [(.ref b21), (.ref b23)]))
  obtain ⟨cq26, kq26, q26a, q26b, q26c⟩ := isOf hZ e25 Ex24
  obtain ⟨_, _, ⟨T26, L26, k26, n26⟩, -, X26, ⟨Lc26, hQ26, l26, y26, z26⟩, st26⟩ := X25.virtualBack hx (y := (⟨"com/example/endorse/endorse/SdkRange", "overlaps", "(Lcom/example/endorse/endorse/SdkRange;)Z"⟩ : MethodName)) (z := (⟨"com/example/endorse/endorse/SdkRange", "overlaps", "(Lcom/example/endorse/endorse/SdkRange;)Z"⟩ : MethodName)) hown (mvT hZ (hw _ (List.mem_of_getElem? (i := 20) rfl))) (mvT hZ (hw _ (List.mem_of_getElem? (i := 21) rfl))) (notFace_of_selects (args := #[]) (mvT hZ (hw _ (List.mem_of_getElem? (i := 23) rfl)))) (mvT hZ (hw _ (List.mem_of_getElem? (i := 23) rfl))) (mvT hZ (hw _ (List.mem_of_getElem? (i := 22) rfl))) (by decide) (backOf (W := 0) (rm5 l Z a0 hw [] b23 b21 (f1_0 i2 i3) (f2_0 i2 i3) (f1_0 i0 i1) (f2_0 i0 i1) T24.heap n0 F24_min F24_max F24_b21_min F24_b21_max) hZ (hw _ (List.mem_of_getElem? (i := 24) rfl)) (hw _ (List.mem_of_getElem? (i := 9) rfl)) (by decide) (by decide)) q26a q26c (g := (mkF m 67 #[.val (.int i0), .val (.int i1), .val (.int i2), .val (.int i3), .val (.int i4), .val (.int (f1_0 i0 i1)), .val (.int (f2_0 i0 i1)), .val (.int (f1_0 i2 i3)), .val (.int (f2_0 i2 i3)), .val (.ref b21), .val (.ref b23), .val (.int (f5_0 (f1_0 i0 i1) (f2_0 i0 i1) (f1_0 i2 i3) (f2_0 i2 i3))), .unset, .unset, .unset] [(.ref b21), (.ref b23)])) rfl (by rw [hml]; rfl) (Steps.refl _) (argsL := [(.ref b21)]) (rest := []) (lenOf pdm_2 rfl) rfl (by show 2 * 0 + _ ≤ _; exact Nat.le_of_eq rfl) (hb hby at_67) (fun _ _ => ⟨rfl, e25, (by show cells + 0 + 0 + 0 + 0 + 1 + 0 + 1 + 0 + 0 + 0 ≤ 16; omega), (by show slots + 0 + 0 + 0 + 0 + 2 + 0 + 2 + 0 + 0 + 0 ≤ 128; omega)⟩)
  dsimp only [Pt.U, Pt.locs, Pt.cells, Pt.slots] at X26 l26 y26 z26 st26 hQ26
  have yy26 : k26 = cells + 0 + 0 + 0 + 0 + 1 + 0 + 1 + 0 + 0 + 0 := y26
  have zz26 : n26 = slots + 0 + 0 + 0 + 0 + 2 + 0 + 2 + 0 + 0 + 0 := z26
  rw [yy26, zz26] at X26
  subst l26
  obtain ⟨rfl, N26q, e26⟩ := hQ26
  have N26 := Fr.app N25 N26q
  refine own_step (fun t k => st26.trans k) ?_
  show own_Fin p e below s Q 16 128 (T26.setTop (mkF m 70 #[.val (.int i0), .val (.int i1), .val (.int i2), .val (.int i3), .val (.int i4), .val (.int (f1_0 i0 i1)), .val (.int (f2_0 i0 i1)), .val (.int (f1_0 i2 i3)), .val (.int (f2_0 i2 i3)), .val (.ref b21), .val (.ref b23), .val (.int (f5_0 (f1_0 i0 i1) (f2_0 i0 i1) (f1_0 i2 i3) (f2_0 i2 i3))), .unset, .unset, .unset] [(.int (f5_0 (f1_0 i2 i3) (f2_0 i2 i3) (f1_0 i0 i1) (f2_0 i0 i1)))]))
  refine own_step (fun t k => XS.istore X26.here hx rfl (hb hby at_70) rfl (l' := #[.val (.int i0), .val (.int i1), .val (.int i2), .val (.int i3), .val (.int i4), .val (.int (f1_0 i0 i1)), .val (.int (f2_0 i0 i1)), .val (.int (f1_0 i2 i3)), .val (.int (f2_0 i2 i3)), .val (.ref b21), .val (.ref b23), .val (.int (f5_0 (f1_0 i0 i1) (f2_0 i0 i1) (f1_0 i2 i3) (f2_0 i2 i3))), .val (.int (f5_0 (f1_0 i2 i3) (f2_0 i2 i3) (f1_0 i0 i1) (f2_0 i0 i1))), .unset, .unset]) rfl k) ?_
  show own_Fin p e below s Q 16 128 (T26.setTop (mkF m 72 #[.val (.int i0), .val (.int i1), .val (.int i2), .val (.int i3), .val (.int i4), .val (.int (f1_0 i0 i1)), .val (.int (f2_0 i0 i1)), .val (.int (f1_0 i2 i3)), .val (.int (f2_0 i2 i3)), .val (.ref b21), .val (.ref b23), .val (.int (f5_0 (f1_0 i0 i1) (f2_0 i0 i1) (f1_0 i2 i3) (f2_0 i2 i3))), .val (.int (f5_0 (f1_0 i2 i3) (f2_0 i2 i3) (f1_0 i0 i1) (f2_0 i0 i1))), .unset, .unset] []))
  refine own_step (fun t k => XS.iload X26.here hx rfl (hb hby at_72) rfl  k) ?_
  show own_Fin p e below s Q 16 128 (T26.setTop (mkF m 74 #[.val (.int i0), .val (.int i1), .val (.int i2), .val (.int i3), .val (.int i4), .val (.int (f1_0 i0 i1)), .val (.int (f2_0 i0 i1)), .val (.int (f1_0 i2 i3)), .val (.int (f2_0 i2 i3)), .val (.ref b21), .val (.ref b23), .val (.int (f5_0 (f1_0 i0 i1) (f2_0 i0 i1) (f1_0 i2 i3) (f2_0 i2 i3))), .val (.int (f5_0 (f1_0 i2 i3) (f2_0 i2 i3) (f1_0 i0 i1) (f2_0 i0 i1))), .unset, .unset] [(.int (f1_0 i0 i1))]))
  refine own_step (fun t k => XS.iload X26.here hx rfl (hb hby at_74) rfl  k) ?_
  show own_Fin p e below s Q 16 128 (T26.setTop (mkF m 76 #[.val (.int i0), .val (.int i1), .val (.int i2), .val (.int i3), .val (.int i4), .val (.int (f1_0 i0 i1)), .val (.int (f2_0 i0 i1)), .val (.int (f1_0 i2 i3)), .val (.int (f2_0 i2 i3)), .val (.ref b21), .val (.ref b23), .val (.int (f5_0 (f1_0 i0 i1) (f2_0 i0 i1) (f1_0 i2 i3) (f2_0 i2 i3))), .val (.int (f5_0 (f1_0 i2 i3) (f2_0 i2 i3) (f1_0 i0 i1) (f2_0 i0 i1))), .unset, .unset] [(.int (f1_0 i2 i3)), (.int (f1_0 i0 i1))]))
  obtain ⟨_, _, ⟨T27, L27, k27, n27⟩, -, X27, ⟨Lc27, hQ27, l27, y27, z27⟩, st27⟩ := Jvm.LawKit.callS X26 hx (y := (⟨"java/lang/Math", "max", "(II)I"⟩ : MethodName)) hown (mvT hZ (hw _ (List.mem_of_getElem? (i := 4) rfl))) (mvT hZ (hw _ (List.mem_of_getElem? (i := 5) rfl))) (mvT hZ (hw _ (List.mem_of_getElem? (i := 2) rfl))) (mvT hZ (hw _ (List.mem_of_getElem? (i := 6) rfl))) (by decide) (backOf (W := 0) (rm2 l Z a0 hw [] (f1_0 i0 i1) (f1_0 i2 i3) T24.heap n0) hZ (hw _ (List.mem_of_getElem? (i := 6) rfl)) (hw _ (List.mem_of_getElem? (i := 2) rfl)) (by decide) (by decide)) (g := (mkF m 76 #[.val (.int i0), .val (.int i1), .val (.int i2), .val (.int i3), .val (.int i4), .val (.int (f1_0 i0 i1)), .val (.int (f2_0 i0 i1)), .val (.int (f1_0 i2 i3)), .val (.int (f2_0 i2 i3)), .val (.ref b21), .val (.ref b23), .val (.int (f5_0 (f1_0 i0 i1) (f2_0 i0 i1) (f1_0 i2 i3) (f2_0 i2 i3))), .val (.int (f5_0 (f1_0 i2 i3) (f2_0 i2 i3) (f1_0 i0 i1) (f2_0 i0 i1))), .unset, .unset] [(.int (f1_0 i2 i3)), (.int (f1_0 i0 i1))])) rfl (by rw [hml]; rfl) (argsL := [(.int (f1_0 i0 i1)), (.int (f1_0 i2 i3))]) (rest := []) (lenOf pdm_0 rfl) rfl (by show 2 * 0 + _ ≤ _; exact Nat.le_of_eq rfl) (hb hby at_76) (fun _ _ => ⟨rfl, e26, (by show cells + 0 + 0 + 0 + 0 + 1 + 0 + 1 + 0 + 0 + 0 + 0 ≤ 16; omega), (by show slots + 0 + 0 + 0 + 0 + 2 + 0 + 2 + 0 + 0 + 0 + 0 ≤ 128; omega)⟩)
  dsimp only [Pt.U, Pt.locs, Pt.cells, Pt.slots] at X27 l27 y27 z27 st27 hQ27
  have yy27 : k27 = cells + 0 + 0 + 0 + 0 + 1 + 0 + 1 + 0 + 0 + 0 + 0 := y27
  have zz27 : n27 = slots + 0 + 0 + 0 + 0 + 2 + 0 + 2 + 0 + 0 + 0 + 0 := z27
  rw [yy27, zz27] at X27
  subst l27
  obtain ⟨rfl, N27q, e27⟩ := hQ27
  have N27 := Fr.app N26 N27q
  refine own_step st27 ?_
  show own_Fin p e below s Q 16 128 (T27.setTop (mkF m 79 #[.val (.int i0), .val (.int i1), .val (.int i2), .val (.int i3), .val (.int i4), .val (.int (f1_0 i0 i1)), .val (.int (f2_0 i0 i1)), .val (.int (f1_0 i2 i3)), .val (.int (f2_0 i2 i3)), .val (.ref b21), .val (.ref b23), .val (.int (f5_0 (f1_0 i0 i1) (f2_0 i0 i1) (f1_0 i2 i3) (f2_0 i2 i3))), .val (.int (f5_0 (f1_0 i2 i3) (f2_0 i2 i3) (f1_0 i0 i1) (f2_0 i0 i1))), .unset, .unset] [(.int (f2_0 (f1_0 i0 i1) (f1_0 i2 i3)))]))
  refine own_step (fun t k => XS.iload X27.here hx rfl (hb hby at_79) rfl  k) ?_
  show own_Fin p e below s Q 16 128 (T27.setTop (mkF m 81 #[.val (.int i0), .val (.int i1), .val (.int i2), .val (.int i3), .val (.int i4), .val (.int (f1_0 i0 i1)), .val (.int (f2_0 i0 i1)), .val (.int (f1_0 i2 i3)), .val (.int (f2_0 i2 i3)), .val (.ref b21), .val (.ref b23), .val (.int (f5_0 (f1_0 i0 i1) (f2_0 i0 i1) (f1_0 i2 i3) (f2_0 i2 i3))), .val (.int (f5_0 (f1_0 i2 i3) (f2_0 i2 i3) (f1_0 i0 i1) (f2_0 i0 i1))), .unset, .unset] [(.int (f2_0 i0 i1)), (.int (f2_0 (f1_0 i0 i1) (f1_0 i2 i3)))]))
  refine own_step (fun t k => XS.iload X27.here hx rfl (hb hby at_81) rfl  k) ?_
  show own_Fin p e below s Q 16 128 (T27.setTop (mkF m 83 #[.val (.int i0), .val (.int i1), .val (.int i2), .val (.int i3), .val (.int i4), .val (.int (f1_0 i0 i1)), .val (.int (f2_0 i0 i1)), .val (.int (f1_0 i2 i3)), .val (.int (f2_0 i2 i3)), .val (.ref b21), .val (.ref b23), .val (.int (f5_0 (f1_0 i0 i1) (f2_0 i0 i1) (f1_0 i2 i3) (f2_0 i2 i3))), .val (.int (f5_0 (f1_0 i2 i3) (f2_0 i2 i3) (f1_0 i0 i1) (f2_0 i0 i1))), .unset, .unset] [(.int (f2_0 i2 i3)), (.int (f2_0 i0 i1)), (.int (f2_0 (f1_0 i0 i1) (f1_0 i2 i3)))]))
  obtain ⟨_, _, ⟨T28, L28, k28, n28⟩, -, X28, ⟨Lc28, hQ28, l28, y28, z28⟩, st28⟩ := Jvm.LawKit.callS X27 hx (y := (⟨"java/lang/Math", "min", "(II)I"⟩ : MethodName)) hown (mvT hZ (hw _ (List.mem_of_getElem? (i := 0) rfl))) (mvT hZ (hw _ (List.mem_of_getElem? (i := 1) rfl))) (mvT hZ (hw _ (List.mem_of_getElem? (i := 2) rfl))) (mvT hZ (hw _ (List.mem_of_getElem? (i := 3) rfl))) (by decide) (backOf (W := 1) (rm1 l Z a0 hw [] (f2_0 i0 i1) (f2_0 i2 i3) T24.heap n0) hZ (hw _ (List.mem_of_getElem? (i := 3) rfl)) (hw _ (List.mem_of_getElem? (i := 2) rfl)) (by decide) (by decide)) (g := (mkF m 83 #[.val (.int i0), .val (.int i1), .val (.int i2), .val (.int i3), .val (.int i4), .val (.int (f1_0 i0 i1)), .val (.int (f2_0 i0 i1)), .val (.int (f1_0 i2 i3)), .val (.int (f2_0 i2 i3)), .val (.ref b21), .val (.ref b23), .val (.int (f5_0 (f1_0 i0 i1) (f2_0 i0 i1) (f1_0 i2 i3) (f2_0 i2 i3))), .val (.int (f5_0 (f1_0 i2 i3) (f2_0 i2 i3) (f1_0 i0 i1) (f2_0 i0 i1))), .unset, .unset] [(.int (f2_0 i2 i3)), (.int (f2_0 i0 i1)), (.int (f2_0 (f1_0 i0 i1) (f1_0 i2 i3)))])) rfl (by rw [hml]; rfl) (argsL := [(.int (f2_0 i0 i1)), (.int (f2_0 i2 i3))]) (rest := [(.int (f2_0 (f1_0 i0 i1) (f1_0 i2 i3)))]) (lenOf pdm_0 rfl) rfl (by show 2 * 0 + _ ≤ _; exact Nat.le_of_eq rfl) (hb hby at_83) (fun _ _ => ⟨rfl, e27, (by show cells + 0 + 0 + 0 + 0 + 1 + 0 + 1 + 0 + 0 + 0 + 0 + 0 ≤ 16; omega), (by show slots + 0 + 0 + 0 + 0 + 2 + 0 + 2 + 0 + 0 + 0 + 0 + 0 ≤ 128; omega)⟩)
  dsimp only [Pt.U, Pt.locs, Pt.cells, Pt.slots] at X28 l28 y28 z28 st28 hQ28
  have yy28 : k28 = cells + 0 + 0 + 0 + 0 + 1 + 0 + 1 + 0 + 0 + 0 + 0 + 0 := y28
  have zz28 : n28 = slots + 0 + 0 + 0 + 0 + 2 + 0 + 2 + 0 + 0 + 0 + 0 + 0 := z28
  rw [yy28, zz28] at X28
  subst l28
  obtain ⟨rfl, N28q, e28⟩ := hQ28
  have N28 := Fr.app N27 N28q
  refine own_step st28 ?_
  show own_Fin p e below s Q 16 128 (T28.setTop (mkF m 86 #[.val (.int i0), .val (.int i1), .val (.int i2), .val (.int i3), .val (.int i4), .val (.int (f1_0 i0 i1)), .val (.int (f2_0 i0 i1)), .val (.int (f1_0 i2 i3)), .val (.int (f2_0 i2 i3)), .val (.ref b21), .val (.ref b23), .val (.int (f5_0 (f1_0 i0 i1) (f2_0 i0 i1) (f1_0 i2 i3) (f2_0 i2 i3))), .val (.int (f5_0 (f1_0 i2 i3) (f2_0 i2 i3) (f1_0 i0 i1) (f2_0 i0 i1))), .unset, .unset] [(.int (f1_0 (f2_0 i0 i1) (f2_0 i2 i3))), (.int (f2_0 (f1_0 i0 i1) (f1_0 i2 i3)))]))
  by_cases hB86_29 : (f1_0 (f2_0 i0 i1) (f2_0 i2 i3)) < (f2_0 (f1_0 i0 i1) (f1_0 i2 i3))
  · refine own_step (fun t k => XS.icmpYes X28.here hx rfl (pc0 := 86) (pc' := 93) rfl (hb hby at_86) rfl (tlt hB86_29).2.2.1 (by decide) (by decide) k) ?_
    show own_Fin p e below s Q 16 128 (T28.setTop (mkF m 93 #[.val (.int i0), .val (.int i1), .val (.int i2), .val (.int i3), .val (.int i4), .val (.int (f1_0 i0 i1)), .val (.int (f2_0 i0 i1)), .val (.int (f1_0 i2 i3)), .val (.int (f2_0 i2 i3)), .val (.ref b21), .val (.ref b23), .val (.int (f5_0 (f1_0 i0 i1) (f2_0 i0 i1) (f1_0 i2 i3) (f2_0 i2 i3))), .val (.int (f5_0 (f1_0 i2 i3) (f2_0 i2 i3) (f1_0 i0 i1) (f2_0 i0 i1))), .unset, .unset] []))
    refine own_step (fun t k => XS.iconst X28.here hx rfl (hb hby at_93) k) ?_
    show own_Fin p e below s Q 16 128 (T28.setTop (mkF m 94 #[.val (.int i0), .val (.int i1), .val (.int i2), .val (.int i3), .val (.int i4), .val (.int (f1_0 i0 i1)), .val (.int (f2_0 i0 i1)), .val (.int (f1_0 i2 i3)), .val (.int (f2_0 i2 i3)), .val (.ref b21), .val (.ref b23), .val (.int (f5_0 (f1_0 i0 i1) (f2_0 i0 i1) (f1_0 i2 i3) (f2_0 i2 i3))), .val (.int (f5_0 (f1_0 i2 i3) (f2_0 i2 i3) (f1_0 i0 i1) (f2_0 i0 i1))), .unset, .unset] [(.int (0 : Int32))]))
    refine own_step (fun t k => XS.istore X28.here hx rfl (hb hby at_94) rfl (l' := #[.val (.int i0), .val (.int i1), .val (.int i2), .val (.int i3), .val (.int i4), .val (.int (f1_0 i0 i1)), .val (.int (f2_0 i0 i1)), .val (.int (f1_0 i2 i3)), .val (.int (f2_0 i2 i3)), .val (.ref b21), .val (.ref b23), .val (.int (f5_0 (f1_0 i0 i1) (f2_0 i0 i1) (f1_0 i2 i3) (f2_0 i2 i3))), .val (.int (f5_0 (f1_0 i2 i3) (f2_0 i2 i3) (f1_0 i0 i1) (f2_0 i0 i1))), .val (.int (0 : Int32)), .unset]) rfl k) ?_
    show own_Fin p e below s Q 16 128 (T28.setTop (mkF m 96 #[.val (.int i0), .val (.int i1), .val (.int i2), .val (.int i3), .val (.int i4), .val (.int (f1_0 i0 i1)), .val (.int (f2_0 i0 i1)), .val (.int (f1_0 i2 i3)), .val (.int (f2_0 i2 i3)), .val (.ref b21), .val (.ref b23), .val (.int (f5_0 (f1_0 i0 i1) (f2_0 i0 i1) (f1_0 i2 i3) (f2_0 i2 i3))), .val (.int (f5_0 (f1_0 i2 i3) (f2_0 i2 i3) (f1_0 i0 i1) (f2_0 i0 i1))), .val (.int (0 : Int32)), .unset] []))
    refine own_step (fun t k => XS.iload X28.here hx rfl (hb hby at_96) rfl  k) ?_
    show own_Fin p e below s Q 16 128 (T28.setTop (mkF m 98 #[.val (.int i0), .val (.int i1), .val (.int i2), .val (.int i3), .val (.int i4), .val (.int (f1_0 i0 i1)), .val (.int (f2_0 i0 i1)), .val (.int (f1_0 i2 i3)), .val (.int (f2_0 i2 i3)), .val (.ref b21), .val (.ref b23), .val (.int (f5_0 (f1_0 i0 i1) (f2_0 i0 i1) (f1_0 i2 i3) (f2_0 i2 i3))), .val (.int (f5_0 (f1_0 i2 i3) (f2_0 i2 i3) (f1_0 i0 i1) (f2_0 i0 i1))), .val (.int (0 : Int32)), .unset] [(.int (f1_0 i0 i1))]))
    refine own_step (fun t k => XS.iload X28.here hx rfl (hb hby at_98) rfl  k) ?_
    show own_Fin p e below s Q 16 128 (T28.setTop (mkF m 100 #[.val (.int i0), .val (.int i1), .val (.int i2), .val (.int i3), .val (.int i4), .val (.int (f1_0 i0 i1)), .val (.int (f2_0 i0 i1)), .val (.int (f1_0 i2 i3)), .val (.int (f2_0 i2 i3)), .val (.ref b21), .val (.ref b23), .val (.int (f5_0 (f1_0 i0 i1) (f2_0 i0 i1) (f1_0 i2 i3) (f2_0 i2 i3))), .val (.int (f5_0 (f1_0 i2 i3) (f2_0 i2 i3) (f1_0 i0 i1) (f2_0 i0 i1))), .val (.int (0 : Int32)), .unset] [(.int i4), (.int (f1_0 i0 i1))]))
    by_cases hB100_30 : i4 < (f1_0 i0 i1)
    · refine own_step (fun t k => XS.icmpYes X28.here hx rfl (pc0 := 100) (pc' := 128) rfl (hb hby at_100) rfl (tlt hB100_30).2.2.1 (by decide) (by decide) k) ?_
      show own_Fin p e below s Q 16 128 (T28.setTop (mkF m 128 #[.val (.int i0), .val (.int i1), .val (.int i2), .val (.int i3), .val (.int i4), .val (.int (f1_0 i0 i1)), .val (.int (f2_0 i0 i1)), .val (.int (f1_0 i2 i3)), .val (.int (f2_0 i2 i3)), .val (.ref b21), .val (.ref b23), .val (.int (f5_0 (f1_0 i0 i1) (f2_0 i0 i1) (f1_0 i2 i3) (f2_0 i2 i3))), .val (.int (f5_0 (f1_0 i2 i3) (f2_0 i2 i3) (f1_0 i0 i1) (f2_0 i0 i1))), .val (.int (0 : Int32)), .unset] []))
      refine own_step (fun t k => XS.iconst X28.here hx rfl (hb hby at_128) k) ?_
      show own_Fin p e below s Q 16 128 (T28.setTop (mkF m 129 #[.val (.int i0), .val (.int i1), .val (.int i2), .val (.int i3), .val (.int i4), .val (.int (f1_0 i0 i1)), .val (.int (f2_0 i0 i1)), .val (.int (f1_0 i2 i3)), .val (.int (f2_0 i2 i3)), .val (.ref b21), .val (.ref b23), .val (.int (f5_0 (f1_0 i0 i1) (f2_0 i0 i1) (f1_0 i2 i3) (f2_0 i2 i3))), .val (.int (f5_0 (f1_0 i2 i3) (f2_0 i2 i3) (f1_0 i0 i1) (f2_0 i0 i1))), .val (.int (0 : Int32)), .unset] [(.int (0 : Int32))]))
      refine own_step (fun t k => XS.istore X28.here hx rfl (hb hby at_129) rfl (l' := #[.val (.int i0), .val (.int i1), .val (.int i2), .val (.int i3), .val (.int i4), .val (.int (f1_0 i0 i1)), .val (.int (f2_0 i0 i1)), .val (.int (f1_0 i2 i3)), .val (.int (f2_0 i2 i3)), .val (.ref b21), .val (.ref b23), .val (.int (f5_0 (f1_0 i0 i1) (f2_0 i0 i1) (f1_0 i2 i3) (f2_0 i2 i3))), .val (.int (f5_0 (f1_0 i2 i3) (f2_0 i2 i3) (f1_0 i0 i1) (f2_0 i0 i1))), .val (.int (0 : Int32)), .val (.int (0 : Int32))]) rfl k) ?_
      show own_Fin p e below s Q 16 128 (T28.setTop (mkF m 131 #[.val (.int i0), .val (.int i1), .val (.int i2), .val (.int i3), .val (.int i4), .val (.int (f1_0 i0 i1)), .val (.int (f2_0 i0 i1)), .val (.int (f1_0 i2 i3)), .val (.int (f2_0 i2 i3)), .val (.ref b21), .val (.ref b23), .val (.int (f5_0 (f1_0 i0 i1) (f2_0 i0 i1) (f1_0 i2 i3) (f2_0 i2 i3))), .val (.int (f5_0 (f1_0 i2 i3) (f2_0 i2 i3) (f1_0 i0 i1) (f2_0 i0 i1))), .val (.int (0 : Int32)), .val (.int (0 : Int32))] []))
      refine own_step (fun t k => XS.iload X28.here hx rfl (hb hby at_131) rfl  k) ?_
      show own_Fin p e below s Q 16 128 (T28.setTop (mkF m 133 #[.val (.int i0), .val (.int i1), .val (.int i2), .val (.int i3), .val (.int i4), .val (.int (f1_0 i0 i1)), .val (.int (f2_0 i0 i1)), .val (.int (f1_0 i2 i3)), .val (.int (f2_0 i2 i3)), .val (.ref b21), .val (.ref b23), .val (.int (f5_0 (f1_0 i0 i1) (f2_0 i0 i1) (f1_0 i2 i3) (f2_0 i2 i3))), .val (.int (f5_0 (f1_0 i2 i3) (f2_0 i2 i3) (f1_0 i0 i1) (f2_0 i0 i1))), .val (.int (0 : Int32)), .val (.int (0 : Int32))] [(.int (f5_0 (f1_0 i0 i1) (f2_0 i0 i1) (f1_0 i2 i3) (f2_0 i2 i3)))]))
      refine own_step (fun t k => XS.iload X28.here hx rfl (hb hby at_133) rfl  k) ?_
      show own_Fin p e below s Q 16 128 (T28.setTop (mkF m 135 #[.val (.int i0), .val (.int i1), .val (.int i2), .val (.int i3), .val (.int i4), .val (.int (f1_0 i0 i1)), .val (.int (f2_0 i0 i1)), .val (.int (f1_0 i2 i3)), .val (.int (f2_0 i2 i3)), .val (.ref b21), .val (.ref b23), .val (.int (f5_0 (f1_0 i0 i1) (f2_0 i0 i1) (f1_0 i2 i3) (f2_0 i2 i3))), .val (.int (f5_0 (f1_0 i2 i3) (f2_0 i2 i3) (f1_0 i0 i1) (f2_0 i0 i1))), .val (.int (0 : Int32)), .val (.int (0 : Int32))] [(.int (f5_0 (f1_0 i2 i3) (f2_0 i2 i3) (f1_0 i0 i1) (f2_0 i0 i1))), (.int (f5_0 (f1_0 i0 i1) (f2_0 i0 i1) (f1_0 i2 i3) (f2_0 i2 i3)))]))
      refine own_step (fun t k => XS.icmpYes X28.here hx rfl (pc0 := 135) (pc' := 140) rfl (hb hby at_135) rfl (teq (own_rr _ _ _ _)).1 (by decide) (by decide) k) ?_
      show own_Fin p e below s Q 16 128 (T28.setTop (mkF m 140 #[.val (.int i0), .val (.int i1), .val (.int i2), .val (.int i3), .val (.int i4), .val (.int (f1_0 i0 i1)), .val (.int (f2_0 i0 i1)), .val (.int (f1_0 i2 i3)), .val (.int (f2_0 i2 i3)), .val (.ref b21), .val (.ref b23), .val (.int (f5_0 (f1_0 i0 i1) (f2_0 i0 i1) (f1_0 i2 i3) (f2_0 i2 i3))), .val (.int (f5_0 (f1_0 i2 i3) (f2_0 i2 i3) (f1_0 i0 i1) (f2_0 i0 i1))), .val (.int (0 : Int32)), .val (.int (0 : Int32))] []))
      refine own_step (fun t k => XS.iload X28.here hx rfl (hb hby at_140) rfl  k) ?_
      show own_Fin p e below s Q 16 128 (T28.setTop (mkF m 142 #[.val (.int i0), .val (.int i1), .val (.int i2), .val (.int i3), .val (.int i4), .val (.int (f1_0 i0 i1)), .val (.int (f2_0 i0 i1)), .val (.int (f1_0 i2 i3)), .val (.int (f2_0 i2 i3)), .val (.ref b21), .val (.ref b23), .val (.int (f5_0 (f1_0 i0 i1) (f2_0 i0 i1) (f1_0 i2 i3) (f2_0 i2 i3))), .val (.int (f5_0 (f1_0 i2 i3) (f2_0 i2 i3) (f1_0 i0 i1) (f2_0 i0 i1))), .val (.int (0 : Int32)), .val (.int (0 : Int32))] [(.int (f5_0 (f1_0 i0 i1) (f2_0 i0 i1) (f1_0 i2 i3) (f2_0 i2 i3)))]))
      refine own_step (fun t k => XS.iload X28.here hx rfl (hb hby at_142) rfl  k) ?_
      show own_Fin p e below s Q 16 128 (T28.setTop (mkF m 144 #[.val (.int i0), .val (.int i1), .val (.int i2), .val (.int i3), .val (.int i4), .val (.int (f1_0 i0 i1)), .val (.int (f2_0 i0 i1)), .val (.int (f1_0 i2 i3)), .val (.int (f2_0 i2 i3)), .val (.ref b21), .val (.ref b23), .val (.int (f5_0 (f1_0 i0 i1) (f2_0 i0 i1) (f1_0 i2 i3) (f2_0 i2 i3))), .val (.int (f5_0 (f1_0 i2 i3) (f2_0 i2 i3) (f1_0 i0 i1) (f2_0 i0 i1))), .val (.int (0 : Int32)), .val (.int (0 : Int32))] [(.int (0 : Int32)), (.int (f5_0 (f1_0 i0 i1) (f2_0 i0 i1) (f1_0 i2 i3) (f2_0 i2 i3)))]))
      refine own_step (fun t k => XS.icmpYes X28.here hx rfl (pc0 := 144) (pc' := 149) rfl (hb hby at_144) rfl (teq ((own_com _ _ _ _).1 hB86_29)).1 (by decide) (by decide) k) ?_
      show own_Fin p e below s Q 16 128 (T28.setTop (mkF m 149 #[.val (.int i0), .val (.int i1), .val (.int i2), .val (.int i3), .val (.int i4), .val (.int (f1_0 i0 i1)), .val (.int (f2_0 i0 i1)), .val (.int (f1_0 i2 i3)), .val (.int (f2_0 i2 i3)), .val (.ref b21), .val (.ref b23), .val (.int (f5_0 (f1_0 i0 i1) (f2_0 i0 i1) (f1_0 i2 i3) (f2_0 i2 i3))), .val (.int (f5_0 (f1_0 i2 i3) (f2_0 i2 i3) (f1_0 i0 i1) (f2_0 i0 i1))), .val (.int (0 : Int32)), .val (.int (0 : Int32))] []))
      refine own_step (fun t k => XS.iload X28.here hx rfl (hb hby at_149) rfl  k) ?_
      show own_Fin p e below s Q 16 128 (T28.setTop (mkF m 151 #[.val (.int i0), .val (.int i1), .val (.int i2), .val (.int i3), .val (.int i4), .val (.int (f1_0 i0 i1)), .val (.int (f2_0 i0 i1)), .val (.int (f1_0 i2 i3)), .val (.int (f2_0 i2 i3)), .val (.ref b21), .val (.ref b23), .val (.int (f5_0 (f1_0 i0 i1) (f2_0 i0 i1) (f1_0 i2 i3) (f2_0 i2 i3))), .val (.int (f5_0 (f1_0 i2 i3) (f2_0 i2 i3) (f1_0 i0 i1) (f2_0 i0 i1))), .val (.int (0 : Int32)), .val (.int (0 : Int32))] [(.int (0 : Int32))]))
      refine own_step (fun t k => XS.ifYes X28.here hx rfl (pc0 := 151) (pc' := 161) rfl (hb hby at_151) rfl ((if0 _ _).trans (teq (by decide : (0 : Int32) = (0 : Int32))).1) (by decide) (by decide) k) ?_
      show own_Fin p e below s Q 16 128 (T28.setTop (mkF m 161 #[.val (.int i0), .val (.int i1), .val (.int i2), .val (.int i3), .val (.int i4), .val (.int (f1_0 i0 i1)), .val (.int (f2_0 i0 i1)), .val (.int (f1_0 i2 i3)), .val (.int (f2_0 i2 i3)), .val (.ref b21), .val (.ref b23), .val (.int (f5_0 (f1_0 i0 i1) (f2_0 i0 i1) (f1_0 i2 i3) (f2_0 i2 i3))), .val (.int (f5_0 (f1_0 i2 i3) (f2_0 i2 i3) (f1_0 i0 i1) (f2_0 i0 i1))), .val (.int (0 : Int32)), .val (.int (0 : Int32))] []))
      refine own_step (fun t k => XS.iconst X28.here hx rfl (hb hby at_161) k) ?_
      show own_Fin p e below s Q 16 128 (T28.setTop (mkF m 162 #[.val (.int i0), .val (.int i1), .val (.int i2), .val (.int i3), .val (.int i4), .val (.int (f1_0 i0 i1)), .val (.int (f2_0 i0 i1)), .val (.int (f1_0 i2 i3)), .val (.int (f2_0 i2 i3)), .val (.ref b21), .val (.ref b23), .val (.int (f5_0 (f1_0 i0 i1) (f2_0 i0 i1) (f1_0 i2 i3) (f2_0 i2 i3))), .val (.int (f5_0 (f1_0 i2 i3) (f2_0 i2 i3) (f1_0 i0 i1) (f2_0 i0 i1))), .val (.int (0 : Int32)), .val (.int (0 : Int32))] [(.int (1 : Int32))]))
      exact own_retN X28 hx hlk hret (by simp) (hb hby at_162) (by omega) (by omega) rfl N28 (fun L' n' => hQ _ L' n') (rfl)
    · refine own_step (fun t k => XS.icmpNo X28.here hx rfl (hb hby at_100) rfl (flt hB100_30).2.2.1 k) ?_
      show own_Fin p e below s Q 16 128 (T28.setTop (mkF m 103 #[.val (.int i0), .val (.int i1), .val (.int i2), .val (.int i3), .val (.int i4), .val (.int (f1_0 i0 i1)), .val (.int (f2_0 i0 i1)), .val (.int (f1_0 i2 i3)), .val (.int (f2_0 i2 i3)), .val (.ref b21), .val (.ref b23), .val (.int (f5_0 (f1_0 i0 i1) (f2_0 i0 i1) (f1_0 i2 i3) (f2_0 i2 i3))), .val (.int (f5_0 (f1_0 i2 i3) (f2_0 i2 i3) (f1_0 i0 i1) (f2_0 i0 i1))), .val (.int (0 : Int32)), .unset] []))
      refine own_step (fun t k => XS.iload X28.here hx rfl (hb hby at_103) rfl  k) ?_
      show own_Fin p e below s Q 16 128 (T28.setTop (mkF m 105 #[.val (.int i0), .val (.int i1), .val (.int i2), .val (.int i3), .val (.int i4), .val (.int (f1_0 i0 i1)), .val (.int (f2_0 i0 i1)), .val (.int (f1_0 i2 i3)), .val (.int (f2_0 i2 i3)), .val (.ref b21), .val (.ref b23), .val (.int (f5_0 (f1_0 i0 i1) (f2_0 i0 i1) (f1_0 i2 i3) (f2_0 i2 i3))), .val (.int (f5_0 (f1_0 i2 i3) (f2_0 i2 i3) (f1_0 i0 i1) (f2_0 i0 i1))), .val (.int (0 : Int32)), .unset] [(.int i4)]))
      refine own_step (fun t k => XS.iload X28.here hx rfl (hb hby at_105) rfl  k) ?_
      show own_Fin p e below s Q 16 128 (T28.setTop (mkF m 107 #[.val (.int i0), .val (.int i1), .val (.int i2), .val (.int i3), .val (.int i4), .val (.int (f1_0 i0 i1)), .val (.int (f2_0 i0 i1)), .val (.int (f1_0 i2 i3)), .val (.int (f2_0 i2 i3)), .val (.ref b21), .val (.ref b23), .val (.int (f5_0 (f1_0 i0 i1) (f2_0 i0 i1) (f1_0 i2 i3) (f2_0 i2 i3))), .val (.int (f5_0 (f1_0 i2 i3) (f2_0 i2 i3) (f1_0 i0 i1) (f2_0 i0 i1))), .val (.int (0 : Int32)), .unset] [(.int (f2_0 i0 i1)), (.int i4)]))
      by_cases hB107_31 : (f2_0 i0 i1) < i4
      · refine own_step (fun t k => XS.icmpYes X28.here hx rfl (pc0 := 107) (pc' := 128) rfl (hb hby at_107) rfl (tlt hB107_31).2.2.1 (by decide) (by decide) k) ?_
        show own_Fin p e below s Q 16 128 (T28.setTop (mkF m 128 #[.val (.int i0), .val (.int i1), .val (.int i2), .val (.int i3), .val (.int i4), .val (.int (f1_0 i0 i1)), .val (.int (f2_0 i0 i1)), .val (.int (f1_0 i2 i3)), .val (.int (f2_0 i2 i3)), .val (.ref b21), .val (.ref b23), .val (.int (f5_0 (f1_0 i0 i1) (f2_0 i0 i1) (f1_0 i2 i3) (f2_0 i2 i3))), .val (.int (f5_0 (f1_0 i2 i3) (f2_0 i2 i3) (f1_0 i0 i1) (f2_0 i0 i1))), .val (.int (0 : Int32)), .unset] []))
        refine own_step (fun t k => XS.iconst X28.here hx rfl (hb hby at_128) k) ?_
        show own_Fin p e below s Q 16 128 (T28.setTop (mkF m 129 #[.val (.int i0), .val (.int i1), .val (.int i2), .val (.int i3), .val (.int i4), .val (.int (f1_0 i0 i1)), .val (.int (f2_0 i0 i1)), .val (.int (f1_0 i2 i3)), .val (.int (f2_0 i2 i3)), .val (.ref b21), .val (.ref b23), .val (.int (f5_0 (f1_0 i0 i1) (f2_0 i0 i1) (f1_0 i2 i3) (f2_0 i2 i3))), .val (.int (f5_0 (f1_0 i2 i3) (f2_0 i2 i3) (f1_0 i0 i1) (f2_0 i0 i1))), .val (.int (0 : Int32)), .unset] [(.int (0 : Int32))]))
        refine own_step (fun t k => XS.istore X28.here hx rfl (hb hby at_129) rfl (l' := #[.val (.int i0), .val (.int i1), .val (.int i2), .val (.int i3), .val (.int i4), .val (.int (f1_0 i0 i1)), .val (.int (f2_0 i0 i1)), .val (.int (f1_0 i2 i3)), .val (.int (f2_0 i2 i3)), .val (.ref b21), .val (.ref b23), .val (.int (f5_0 (f1_0 i0 i1) (f2_0 i0 i1) (f1_0 i2 i3) (f2_0 i2 i3))), .val (.int (f5_0 (f1_0 i2 i3) (f2_0 i2 i3) (f1_0 i0 i1) (f2_0 i0 i1))), .val (.int (0 : Int32)), .val (.int (0 : Int32))]) rfl k) ?_
        show own_Fin p e below s Q 16 128 (T28.setTop (mkF m 131 #[.val (.int i0), .val (.int i1), .val (.int i2), .val (.int i3), .val (.int i4), .val (.int (f1_0 i0 i1)), .val (.int (f2_0 i0 i1)), .val (.int (f1_0 i2 i3)), .val (.int (f2_0 i2 i3)), .val (.ref b21), .val (.ref b23), .val (.int (f5_0 (f1_0 i0 i1) (f2_0 i0 i1) (f1_0 i2 i3) (f2_0 i2 i3))), .val (.int (f5_0 (f1_0 i2 i3) (f2_0 i2 i3) (f1_0 i0 i1) (f2_0 i0 i1))), .val (.int (0 : Int32)), .val (.int (0 : Int32))] []))
        refine own_step (fun t k => XS.iload X28.here hx rfl (hb hby at_131) rfl  k) ?_
        show own_Fin p e below s Q 16 128 (T28.setTop (mkF m 133 #[.val (.int i0), .val (.int i1), .val (.int i2), .val (.int i3), .val (.int i4), .val (.int (f1_0 i0 i1)), .val (.int (f2_0 i0 i1)), .val (.int (f1_0 i2 i3)), .val (.int (f2_0 i2 i3)), .val (.ref b21), .val (.ref b23), .val (.int (f5_0 (f1_0 i0 i1) (f2_0 i0 i1) (f1_0 i2 i3) (f2_0 i2 i3))), .val (.int (f5_0 (f1_0 i2 i3) (f2_0 i2 i3) (f1_0 i0 i1) (f2_0 i0 i1))), .val (.int (0 : Int32)), .val (.int (0 : Int32))] [(.int (f5_0 (f1_0 i0 i1) (f2_0 i0 i1) (f1_0 i2 i3) (f2_0 i2 i3)))]))
        refine own_step (fun t k => XS.iload X28.here hx rfl (hb hby at_133) rfl  k) ?_
        show own_Fin p e below s Q 16 128 (T28.setTop (mkF m 135 #[.val (.int i0), .val (.int i1), .val (.int i2), .val (.int i3), .val (.int i4), .val (.int (f1_0 i0 i1)), .val (.int (f2_0 i0 i1)), .val (.int (f1_0 i2 i3)), .val (.int (f2_0 i2 i3)), .val (.ref b21), .val (.ref b23), .val (.int (f5_0 (f1_0 i0 i1) (f2_0 i0 i1) (f1_0 i2 i3) (f2_0 i2 i3))), .val (.int (f5_0 (f1_0 i2 i3) (f2_0 i2 i3) (f1_0 i0 i1) (f2_0 i0 i1))), .val (.int (0 : Int32)), .val (.int (0 : Int32))] [(.int (f5_0 (f1_0 i2 i3) (f2_0 i2 i3) (f1_0 i0 i1) (f2_0 i0 i1))), (.int (f5_0 (f1_0 i0 i1) (f2_0 i0 i1) (f1_0 i2 i3) (f2_0 i2 i3)))]))
        refine own_step (fun t k => XS.icmpYes X28.here hx rfl (pc0 := 135) (pc' := 140) rfl (hb hby at_135) rfl (teq (own_rr _ _ _ _)).1 (by decide) (by decide) k) ?_
        show own_Fin p e below s Q 16 128 (T28.setTop (mkF m 140 #[.val (.int i0), .val (.int i1), .val (.int i2), .val (.int i3), .val (.int i4), .val (.int (f1_0 i0 i1)), .val (.int (f2_0 i0 i1)), .val (.int (f1_0 i2 i3)), .val (.int (f2_0 i2 i3)), .val (.ref b21), .val (.ref b23), .val (.int (f5_0 (f1_0 i0 i1) (f2_0 i0 i1) (f1_0 i2 i3) (f2_0 i2 i3))), .val (.int (f5_0 (f1_0 i2 i3) (f2_0 i2 i3) (f1_0 i0 i1) (f2_0 i0 i1))), .val (.int (0 : Int32)), .val (.int (0 : Int32))] []))
        refine own_step (fun t k => XS.iload X28.here hx rfl (hb hby at_140) rfl  k) ?_
        show own_Fin p e below s Q 16 128 (T28.setTop (mkF m 142 #[.val (.int i0), .val (.int i1), .val (.int i2), .val (.int i3), .val (.int i4), .val (.int (f1_0 i0 i1)), .val (.int (f2_0 i0 i1)), .val (.int (f1_0 i2 i3)), .val (.int (f2_0 i2 i3)), .val (.ref b21), .val (.ref b23), .val (.int (f5_0 (f1_0 i0 i1) (f2_0 i0 i1) (f1_0 i2 i3) (f2_0 i2 i3))), .val (.int (f5_0 (f1_0 i2 i3) (f2_0 i2 i3) (f1_0 i0 i1) (f2_0 i0 i1))), .val (.int (0 : Int32)), .val (.int (0 : Int32))] [(.int (f5_0 (f1_0 i0 i1) (f2_0 i0 i1) (f1_0 i2 i3) (f2_0 i2 i3)))]))
        refine own_step (fun t k => XS.iload X28.here hx rfl (hb hby at_142) rfl  k) ?_
        show own_Fin p e below s Q 16 128 (T28.setTop (mkF m 144 #[.val (.int i0), .val (.int i1), .val (.int i2), .val (.int i3), .val (.int i4), .val (.int (f1_0 i0 i1)), .val (.int (f2_0 i0 i1)), .val (.int (f1_0 i2 i3)), .val (.int (f2_0 i2 i3)), .val (.ref b21), .val (.ref b23), .val (.int (f5_0 (f1_0 i0 i1) (f2_0 i0 i1) (f1_0 i2 i3) (f2_0 i2 i3))), .val (.int (f5_0 (f1_0 i2 i3) (f2_0 i2 i3) (f1_0 i0 i1) (f2_0 i0 i1))), .val (.int (0 : Int32)), .val (.int (0 : Int32))] [(.int (0 : Int32)), (.int (f5_0 (f1_0 i0 i1) (f2_0 i0 i1) (f1_0 i2 i3) (f2_0 i2 i3)))]))
        refine own_step (fun t k => XS.icmpYes X28.here hx rfl (pc0 := 144) (pc' := 149) rfl (hb hby at_144) rfl (teq ((own_com _ _ _ _).1 hB86_29)).1 (by decide) (by decide) k) ?_
        show own_Fin p e below s Q 16 128 (T28.setTop (mkF m 149 #[.val (.int i0), .val (.int i1), .val (.int i2), .val (.int i3), .val (.int i4), .val (.int (f1_0 i0 i1)), .val (.int (f2_0 i0 i1)), .val (.int (f1_0 i2 i3)), .val (.int (f2_0 i2 i3)), .val (.ref b21), .val (.ref b23), .val (.int (f5_0 (f1_0 i0 i1) (f2_0 i0 i1) (f1_0 i2 i3) (f2_0 i2 i3))), .val (.int (f5_0 (f1_0 i2 i3) (f2_0 i2 i3) (f1_0 i0 i1) (f2_0 i0 i1))), .val (.int (0 : Int32)), .val (.int (0 : Int32))] []))
        refine own_step (fun t k => XS.iload X28.here hx rfl (hb hby at_149) rfl  k) ?_
        show own_Fin p e below s Q 16 128 (T28.setTop (mkF m 151 #[.val (.int i0), .val (.int i1), .val (.int i2), .val (.int i3), .val (.int i4), .val (.int (f1_0 i0 i1)), .val (.int (f2_0 i0 i1)), .val (.int (f1_0 i2 i3)), .val (.int (f2_0 i2 i3)), .val (.ref b21), .val (.ref b23), .val (.int (f5_0 (f1_0 i0 i1) (f2_0 i0 i1) (f1_0 i2 i3) (f2_0 i2 i3))), .val (.int (f5_0 (f1_0 i2 i3) (f2_0 i2 i3) (f1_0 i0 i1) (f2_0 i0 i1))), .val (.int (0 : Int32)), .val (.int (0 : Int32))] [(.int (0 : Int32))]))
        refine own_step (fun t k => XS.ifYes X28.here hx rfl (pc0 := 151) (pc' := 161) rfl (hb hby at_151) rfl ((if0 _ _).trans (teq (by decide : (0 : Int32) = (0 : Int32))).1) (by decide) (by decide) k) ?_
        show own_Fin p e below s Q 16 128 (T28.setTop (mkF m 161 #[.val (.int i0), .val (.int i1), .val (.int i2), .val (.int i3), .val (.int i4), .val (.int (f1_0 i0 i1)), .val (.int (f2_0 i0 i1)), .val (.int (f1_0 i2 i3)), .val (.int (f2_0 i2 i3)), .val (.ref b21), .val (.ref b23), .val (.int (f5_0 (f1_0 i0 i1) (f2_0 i0 i1) (f1_0 i2 i3) (f2_0 i2 i3))), .val (.int (f5_0 (f1_0 i2 i3) (f2_0 i2 i3) (f1_0 i0 i1) (f2_0 i0 i1))), .val (.int (0 : Int32)), .val (.int (0 : Int32))] []))
        refine own_step (fun t k => XS.iconst X28.here hx rfl (hb hby at_161) k) ?_
        show own_Fin p e below s Q 16 128 (T28.setTop (mkF m 162 #[.val (.int i0), .val (.int i1), .val (.int i2), .val (.int i3), .val (.int i4), .val (.int (f1_0 i0 i1)), .val (.int (f2_0 i0 i1)), .val (.int (f1_0 i2 i3)), .val (.int (f2_0 i2 i3)), .val (.ref b21), .val (.ref b23), .val (.int (f5_0 (f1_0 i0 i1) (f2_0 i0 i1) (f1_0 i2 i3) (f2_0 i2 i3))), .val (.int (f5_0 (f1_0 i2 i3) (f2_0 i2 i3) (f1_0 i0 i1) (f2_0 i0 i1))), .val (.int (0 : Int32)), .val (.int (0 : Int32))] [(.int (1 : Int32))]))
        exact own_retN X28 hx hlk hret (by simp) (hb hby at_162) (by omega) (by omega) rfl N28 (fun L' n' => hQ _ L' n') (rfl)
      · refine own_step (fun t k => XS.icmpNo X28.here hx rfl (hb hby at_107) rfl (flt hB107_31).2.2.1 k) ?_
        show own_Fin p e below s Q 16 128 (T28.setTop (mkF m 110 #[.val (.int i0), .val (.int i1), .val (.int i2), .val (.int i3), .val (.int i4), .val (.int (f1_0 i0 i1)), .val (.int (f2_0 i0 i1)), .val (.int (f1_0 i2 i3)), .val (.int (f2_0 i2 i3)), .val (.ref b21), .val (.ref b23), .val (.int (f5_0 (f1_0 i0 i1) (f2_0 i0 i1) (f1_0 i2 i3) (f2_0 i2 i3))), .val (.int (f5_0 (f1_0 i2 i3) (f2_0 i2 i3) (f1_0 i0 i1) (f2_0 i0 i1))), .val (.int (0 : Int32)), .unset] []))
        refine own_step (fun t k => XS.iload X28.here hx rfl (hb hby at_110) rfl  k) ?_
        show own_Fin p e below s Q 16 128 (T28.setTop (mkF m 112 #[.val (.int i0), .val (.int i1), .val (.int i2), .val (.int i3), .val (.int i4), .val (.int (f1_0 i0 i1)), .val (.int (f2_0 i0 i1)), .val (.int (f1_0 i2 i3)), .val (.int (f2_0 i2 i3)), .val (.ref b21), .val (.ref b23), .val (.int (f5_0 (f1_0 i0 i1) (f2_0 i0 i1) (f1_0 i2 i3) (f2_0 i2 i3))), .val (.int (f5_0 (f1_0 i2 i3) (f2_0 i2 i3) (f1_0 i0 i1) (f2_0 i0 i1))), .val (.int (0 : Int32)), .unset] [(.int (f1_0 i2 i3))]))
        refine own_step (fun t k => XS.iload X28.here hx rfl (hb hby at_112) rfl  k) ?_
        show own_Fin p e below s Q 16 128 (T28.setTop (mkF m 114 #[.val (.int i0), .val (.int i1), .val (.int i2), .val (.int i3), .val (.int i4), .val (.int (f1_0 i0 i1)), .val (.int (f2_0 i0 i1)), .val (.int (f1_0 i2 i3)), .val (.int (f2_0 i2 i3)), .val (.ref b21), .val (.ref b23), .val (.int (f5_0 (f1_0 i0 i1) (f2_0 i0 i1) (f1_0 i2 i3) (f2_0 i2 i3))), .val (.int (f5_0 (f1_0 i2 i3) (f2_0 i2 i3) (f1_0 i0 i1) (f2_0 i0 i1))), .val (.int (0 : Int32)), .unset] [(.int i4), (.int (f1_0 i2 i3))]))
        by_cases hB114_32 : i4 < (f1_0 i2 i3)
        · refine own_step (fun t k => XS.icmpYes X28.here hx rfl (pc0 := 114) (pc' := 128) rfl (hb hby at_114) rfl (tlt hB114_32).2.2.1 (by decide) (by decide) k) ?_
          show own_Fin p e below s Q 16 128 (T28.setTop (mkF m 128 #[.val (.int i0), .val (.int i1), .val (.int i2), .val (.int i3), .val (.int i4), .val (.int (f1_0 i0 i1)), .val (.int (f2_0 i0 i1)), .val (.int (f1_0 i2 i3)), .val (.int (f2_0 i2 i3)), .val (.ref b21), .val (.ref b23), .val (.int (f5_0 (f1_0 i0 i1) (f2_0 i0 i1) (f1_0 i2 i3) (f2_0 i2 i3))), .val (.int (f5_0 (f1_0 i2 i3) (f2_0 i2 i3) (f1_0 i0 i1) (f2_0 i0 i1))), .val (.int (0 : Int32)), .unset] []))
          refine own_step (fun t k => XS.iconst X28.here hx rfl (hb hby at_128) k) ?_
          show own_Fin p e below s Q 16 128 (T28.setTop (mkF m 129 #[.val (.int i0), .val (.int i1), .val (.int i2), .val (.int i3), .val (.int i4), .val (.int (f1_0 i0 i1)), .val (.int (f2_0 i0 i1)), .val (.int (f1_0 i2 i3)), .val (.int (f2_0 i2 i3)), .val (.ref b21), .val (.ref b23), .val (.int (f5_0 (f1_0 i0 i1) (f2_0 i0 i1) (f1_0 i2 i3) (f2_0 i2 i3))), .val (.int (f5_0 (f1_0 i2 i3) (f2_0 i2 i3) (f1_0 i0 i1) (f2_0 i0 i1))), .val (.int (0 : Int32)), .unset] [(.int (0 : Int32))]))
          refine own_step (fun t k => XS.istore X28.here hx rfl (hb hby at_129) rfl (l' := #[.val (.int i0), .val (.int i1), .val (.int i2), .val (.int i3), .val (.int i4), .val (.int (f1_0 i0 i1)), .val (.int (f2_0 i0 i1)), .val (.int (f1_0 i2 i3)), .val (.int (f2_0 i2 i3)), .val (.ref b21), .val (.ref b23), .val (.int (f5_0 (f1_0 i0 i1) (f2_0 i0 i1) (f1_0 i2 i3) (f2_0 i2 i3))), .val (.int (f5_0 (f1_0 i2 i3) (f2_0 i2 i3) (f1_0 i0 i1) (f2_0 i0 i1))), .val (.int (0 : Int32)), .val (.int (0 : Int32))]) rfl k) ?_
          show own_Fin p e below s Q 16 128 (T28.setTop (mkF m 131 #[.val (.int i0), .val (.int i1), .val (.int i2), .val (.int i3), .val (.int i4), .val (.int (f1_0 i0 i1)), .val (.int (f2_0 i0 i1)), .val (.int (f1_0 i2 i3)), .val (.int (f2_0 i2 i3)), .val (.ref b21), .val (.ref b23), .val (.int (f5_0 (f1_0 i0 i1) (f2_0 i0 i1) (f1_0 i2 i3) (f2_0 i2 i3))), .val (.int (f5_0 (f1_0 i2 i3) (f2_0 i2 i3) (f1_0 i0 i1) (f2_0 i0 i1))), .val (.int (0 : Int32)), .val (.int (0 : Int32))] []))
          refine own_step (fun t k => XS.iload X28.here hx rfl (hb hby at_131) rfl  k) ?_
          show own_Fin p e below s Q 16 128 (T28.setTop (mkF m 133 #[.val (.int i0), .val (.int i1), .val (.int i2), .val (.int i3), .val (.int i4), .val (.int (f1_0 i0 i1)), .val (.int (f2_0 i0 i1)), .val (.int (f1_0 i2 i3)), .val (.int (f2_0 i2 i3)), .val (.ref b21), .val (.ref b23), .val (.int (f5_0 (f1_0 i0 i1) (f2_0 i0 i1) (f1_0 i2 i3) (f2_0 i2 i3))), .val (.int (f5_0 (f1_0 i2 i3) (f2_0 i2 i3) (f1_0 i0 i1) (f2_0 i0 i1))), .val (.int (0 : Int32)), .val (.int (0 : Int32))] [(.int (f5_0 (f1_0 i0 i1) (f2_0 i0 i1) (f1_0 i2 i3) (f2_0 i2 i3)))]))
          refine own_step (fun t k => XS.iload X28.here hx rfl (hb hby at_133) rfl  k) ?_
          show own_Fin p e below s Q 16 128 (T28.setTop (mkF m 135 #[.val (.int i0), .val (.int i1), .val (.int i2), .val (.int i3), .val (.int i4), .val (.int (f1_0 i0 i1)), .val (.int (f2_0 i0 i1)), .val (.int (f1_0 i2 i3)), .val (.int (f2_0 i2 i3)), .val (.ref b21), .val (.ref b23), .val (.int (f5_0 (f1_0 i0 i1) (f2_0 i0 i1) (f1_0 i2 i3) (f2_0 i2 i3))), .val (.int (f5_0 (f1_0 i2 i3) (f2_0 i2 i3) (f1_0 i0 i1) (f2_0 i0 i1))), .val (.int (0 : Int32)), .val (.int (0 : Int32))] [(.int (f5_0 (f1_0 i2 i3) (f2_0 i2 i3) (f1_0 i0 i1) (f2_0 i0 i1))), (.int (f5_0 (f1_0 i0 i1) (f2_0 i0 i1) (f1_0 i2 i3) (f2_0 i2 i3)))]))
          refine own_step (fun t k => XS.icmpYes X28.here hx rfl (pc0 := 135) (pc' := 140) rfl (hb hby at_135) rfl (teq (own_rr _ _ _ _)).1 (by decide) (by decide) k) ?_
          show own_Fin p e below s Q 16 128 (T28.setTop (mkF m 140 #[.val (.int i0), .val (.int i1), .val (.int i2), .val (.int i3), .val (.int i4), .val (.int (f1_0 i0 i1)), .val (.int (f2_0 i0 i1)), .val (.int (f1_0 i2 i3)), .val (.int (f2_0 i2 i3)), .val (.ref b21), .val (.ref b23), .val (.int (f5_0 (f1_0 i0 i1) (f2_0 i0 i1) (f1_0 i2 i3) (f2_0 i2 i3))), .val (.int (f5_0 (f1_0 i2 i3) (f2_0 i2 i3) (f1_0 i0 i1) (f2_0 i0 i1))), .val (.int (0 : Int32)), .val (.int (0 : Int32))] []))
          refine own_step (fun t k => XS.iload X28.here hx rfl (hb hby at_140) rfl  k) ?_
          show own_Fin p e below s Q 16 128 (T28.setTop (mkF m 142 #[.val (.int i0), .val (.int i1), .val (.int i2), .val (.int i3), .val (.int i4), .val (.int (f1_0 i0 i1)), .val (.int (f2_0 i0 i1)), .val (.int (f1_0 i2 i3)), .val (.int (f2_0 i2 i3)), .val (.ref b21), .val (.ref b23), .val (.int (f5_0 (f1_0 i0 i1) (f2_0 i0 i1) (f1_0 i2 i3) (f2_0 i2 i3))), .val (.int (f5_0 (f1_0 i2 i3) (f2_0 i2 i3) (f1_0 i0 i1) (f2_0 i0 i1))), .val (.int (0 : Int32)), .val (.int (0 : Int32))] [(.int (f5_0 (f1_0 i0 i1) (f2_0 i0 i1) (f1_0 i2 i3) (f2_0 i2 i3)))]))
          refine own_step (fun t k => XS.iload X28.here hx rfl (hb hby at_142) rfl  k) ?_
          show own_Fin p e below s Q 16 128 (T28.setTop (mkF m 144 #[.val (.int i0), .val (.int i1), .val (.int i2), .val (.int i3), .val (.int i4), .val (.int (f1_0 i0 i1)), .val (.int (f2_0 i0 i1)), .val (.int (f1_0 i2 i3)), .val (.int (f2_0 i2 i3)), .val (.ref b21), .val (.ref b23), .val (.int (f5_0 (f1_0 i0 i1) (f2_0 i0 i1) (f1_0 i2 i3) (f2_0 i2 i3))), .val (.int (f5_0 (f1_0 i2 i3) (f2_0 i2 i3) (f1_0 i0 i1) (f2_0 i0 i1))), .val (.int (0 : Int32)), .val (.int (0 : Int32))] [(.int (0 : Int32)), (.int (f5_0 (f1_0 i0 i1) (f2_0 i0 i1) (f1_0 i2 i3) (f2_0 i2 i3)))]))
          refine own_step (fun t k => XS.icmpYes X28.here hx rfl (pc0 := 144) (pc' := 149) rfl (hb hby at_144) rfl (teq ((own_com _ _ _ _).1 hB86_29)).1 (by decide) (by decide) k) ?_
          show own_Fin p e below s Q 16 128 (T28.setTop (mkF m 149 #[.val (.int i0), .val (.int i1), .val (.int i2), .val (.int i3), .val (.int i4), .val (.int (f1_0 i0 i1)), .val (.int (f2_0 i0 i1)), .val (.int (f1_0 i2 i3)), .val (.int (f2_0 i2 i3)), .val (.ref b21), .val (.ref b23), .val (.int (f5_0 (f1_0 i0 i1) (f2_0 i0 i1) (f1_0 i2 i3) (f2_0 i2 i3))), .val (.int (f5_0 (f1_0 i2 i3) (f2_0 i2 i3) (f1_0 i0 i1) (f2_0 i0 i1))), .val (.int (0 : Int32)), .val (.int (0 : Int32))] []))
          refine own_step (fun t k => XS.iload X28.here hx rfl (hb hby at_149) rfl  k) ?_
          show own_Fin p e below s Q 16 128 (T28.setTop (mkF m 151 #[.val (.int i0), .val (.int i1), .val (.int i2), .val (.int i3), .val (.int i4), .val (.int (f1_0 i0 i1)), .val (.int (f2_0 i0 i1)), .val (.int (f1_0 i2 i3)), .val (.int (f2_0 i2 i3)), .val (.ref b21), .val (.ref b23), .val (.int (f5_0 (f1_0 i0 i1) (f2_0 i0 i1) (f1_0 i2 i3) (f2_0 i2 i3))), .val (.int (f5_0 (f1_0 i2 i3) (f2_0 i2 i3) (f1_0 i0 i1) (f2_0 i0 i1))), .val (.int (0 : Int32)), .val (.int (0 : Int32))] [(.int (0 : Int32))]))
          refine own_step (fun t k => XS.ifYes X28.here hx rfl (pc0 := 151) (pc' := 161) rfl (hb hby at_151) rfl ((if0 _ _).trans (teq (by decide : (0 : Int32) = (0 : Int32))).1) (by decide) (by decide) k) ?_
          show own_Fin p e below s Q 16 128 (T28.setTop (mkF m 161 #[.val (.int i0), .val (.int i1), .val (.int i2), .val (.int i3), .val (.int i4), .val (.int (f1_0 i0 i1)), .val (.int (f2_0 i0 i1)), .val (.int (f1_0 i2 i3)), .val (.int (f2_0 i2 i3)), .val (.ref b21), .val (.ref b23), .val (.int (f5_0 (f1_0 i0 i1) (f2_0 i0 i1) (f1_0 i2 i3) (f2_0 i2 i3))), .val (.int (f5_0 (f1_0 i2 i3) (f2_0 i2 i3) (f1_0 i0 i1) (f2_0 i0 i1))), .val (.int (0 : Int32)), .val (.int (0 : Int32))] []))
          refine own_step (fun t k => XS.iconst X28.here hx rfl (hb hby at_161) k) ?_
          show own_Fin p e below s Q 16 128 (T28.setTop (mkF m 162 #[.val (.int i0), .val (.int i1), .val (.int i2), .val (.int i3), .val (.int i4), .val (.int (f1_0 i0 i1)), .val (.int (f2_0 i0 i1)), .val (.int (f1_0 i2 i3)), .val (.int (f2_0 i2 i3)), .val (.ref b21), .val (.ref b23), .val (.int (f5_0 (f1_0 i0 i1) (f2_0 i0 i1) (f1_0 i2 i3) (f2_0 i2 i3))), .val (.int (f5_0 (f1_0 i2 i3) (f2_0 i2 i3) (f1_0 i0 i1) (f2_0 i0 i1))), .val (.int (0 : Int32)), .val (.int (0 : Int32))] [(.int (1 : Int32))]))
          exact own_retN X28 hx hlk hret (by simp) (hb hby at_162) (by omega) (by omega) rfl N28 (fun L' n' => hQ _ L' n') (rfl)
        · refine own_step (fun t k => XS.icmpNo X28.here hx rfl (hb hby at_114) rfl (flt hB114_32).2.2.1 k) ?_
          show own_Fin p e below s Q 16 128 (T28.setTop (mkF m 117 #[.val (.int i0), .val (.int i1), .val (.int i2), .val (.int i3), .val (.int i4), .val (.int (f1_0 i0 i1)), .val (.int (f2_0 i0 i1)), .val (.int (f1_0 i2 i3)), .val (.int (f2_0 i2 i3)), .val (.ref b21), .val (.ref b23), .val (.int (f5_0 (f1_0 i0 i1) (f2_0 i0 i1) (f1_0 i2 i3) (f2_0 i2 i3))), .val (.int (f5_0 (f1_0 i2 i3) (f2_0 i2 i3) (f1_0 i0 i1) (f2_0 i0 i1))), .val (.int (0 : Int32)), .unset] []))
          refine own_step (fun t k => XS.iload X28.here hx rfl (hb hby at_117) rfl  k) ?_
          show own_Fin p e below s Q 16 128 (T28.setTop (mkF m 119 #[.val (.int i0), .val (.int i1), .val (.int i2), .val (.int i3), .val (.int i4), .val (.int (f1_0 i0 i1)), .val (.int (f2_0 i0 i1)), .val (.int (f1_0 i2 i3)), .val (.int (f2_0 i2 i3)), .val (.ref b21), .val (.ref b23), .val (.int (f5_0 (f1_0 i0 i1) (f2_0 i0 i1) (f1_0 i2 i3) (f2_0 i2 i3))), .val (.int (f5_0 (f1_0 i2 i3) (f2_0 i2 i3) (f1_0 i0 i1) (f2_0 i0 i1))), .val (.int (0 : Int32)), .unset] [(.int i4)]))
          refine own_step (fun t k => XS.iload X28.here hx rfl (hb hby at_119) rfl  k) ?_
          show own_Fin p e below s Q 16 128 (T28.setTop (mkF m 121 #[.val (.int i0), .val (.int i1), .val (.int i2), .val (.int i3), .val (.int i4), .val (.int (f1_0 i0 i1)), .val (.int (f2_0 i0 i1)), .val (.int (f1_0 i2 i3)), .val (.int (f2_0 i2 i3)), .val (.ref b21), .val (.ref b23), .val (.int (f5_0 (f1_0 i0 i1) (f2_0 i0 i1) (f1_0 i2 i3) (f2_0 i2 i3))), .val (.int (f5_0 (f1_0 i2 i3) (f2_0 i2 i3) (f1_0 i0 i1) (f2_0 i0 i1))), .val (.int (0 : Int32)), .unset] [(.int (f2_0 i2 i3)), (.int i4)]))
          by_cases hB121_33 : (f2_0 i2 i3) < i4
          · refine own_step (fun t k => XS.icmpYes X28.here hx rfl (pc0 := 121) (pc' := 128) rfl (hb hby at_121) rfl (tlt hB121_33).2.2.1 (by decide) (by decide) k) ?_
            show own_Fin p e below s Q 16 128 (T28.setTop (mkF m 128 #[.val (.int i0), .val (.int i1), .val (.int i2), .val (.int i3), .val (.int i4), .val (.int (f1_0 i0 i1)), .val (.int (f2_0 i0 i1)), .val (.int (f1_0 i2 i3)), .val (.int (f2_0 i2 i3)), .val (.ref b21), .val (.ref b23), .val (.int (f5_0 (f1_0 i0 i1) (f2_0 i0 i1) (f1_0 i2 i3) (f2_0 i2 i3))), .val (.int (f5_0 (f1_0 i2 i3) (f2_0 i2 i3) (f1_0 i0 i1) (f2_0 i0 i1))), .val (.int (0 : Int32)), .unset] []))
            refine own_step (fun t k => XS.iconst X28.here hx rfl (hb hby at_128) k) ?_
            show own_Fin p e below s Q 16 128 (T28.setTop (mkF m 129 #[.val (.int i0), .val (.int i1), .val (.int i2), .val (.int i3), .val (.int i4), .val (.int (f1_0 i0 i1)), .val (.int (f2_0 i0 i1)), .val (.int (f1_0 i2 i3)), .val (.int (f2_0 i2 i3)), .val (.ref b21), .val (.ref b23), .val (.int (f5_0 (f1_0 i0 i1) (f2_0 i0 i1) (f1_0 i2 i3) (f2_0 i2 i3))), .val (.int (f5_0 (f1_0 i2 i3) (f2_0 i2 i3) (f1_0 i0 i1) (f2_0 i0 i1))), .val (.int (0 : Int32)), .unset] [(.int (0 : Int32))]))
            refine own_step (fun t k => XS.istore X28.here hx rfl (hb hby at_129) rfl (l' := #[.val (.int i0), .val (.int i1), .val (.int i2), .val (.int i3), .val (.int i4), .val (.int (f1_0 i0 i1)), .val (.int (f2_0 i0 i1)), .val (.int (f1_0 i2 i3)), .val (.int (f2_0 i2 i3)), .val (.ref b21), .val (.ref b23), .val (.int (f5_0 (f1_0 i0 i1) (f2_0 i0 i1) (f1_0 i2 i3) (f2_0 i2 i3))), .val (.int (f5_0 (f1_0 i2 i3) (f2_0 i2 i3) (f1_0 i0 i1) (f2_0 i0 i1))), .val (.int (0 : Int32)), .val (.int (0 : Int32))]) rfl k) ?_
            show own_Fin p e below s Q 16 128 (T28.setTop (mkF m 131 #[.val (.int i0), .val (.int i1), .val (.int i2), .val (.int i3), .val (.int i4), .val (.int (f1_0 i0 i1)), .val (.int (f2_0 i0 i1)), .val (.int (f1_0 i2 i3)), .val (.int (f2_0 i2 i3)), .val (.ref b21), .val (.ref b23), .val (.int (f5_0 (f1_0 i0 i1) (f2_0 i0 i1) (f1_0 i2 i3) (f2_0 i2 i3))), .val (.int (f5_0 (f1_0 i2 i3) (f2_0 i2 i3) (f1_0 i0 i1) (f2_0 i0 i1))), .val (.int (0 : Int32)), .val (.int (0 : Int32))] []))
            refine own_step (fun t k => XS.iload X28.here hx rfl (hb hby at_131) rfl  k) ?_
            show own_Fin p e below s Q 16 128 (T28.setTop (mkF m 133 #[.val (.int i0), .val (.int i1), .val (.int i2), .val (.int i3), .val (.int i4), .val (.int (f1_0 i0 i1)), .val (.int (f2_0 i0 i1)), .val (.int (f1_0 i2 i3)), .val (.int (f2_0 i2 i3)), .val (.ref b21), .val (.ref b23), .val (.int (f5_0 (f1_0 i0 i1) (f2_0 i0 i1) (f1_0 i2 i3) (f2_0 i2 i3))), .val (.int (f5_0 (f1_0 i2 i3) (f2_0 i2 i3) (f1_0 i0 i1) (f2_0 i0 i1))), .val (.int (0 : Int32)), .val (.int (0 : Int32))] [(.int (f5_0 (f1_0 i0 i1) (f2_0 i0 i1) (f1_0 i2 i3) (f2_0 i2 i3)))]))
            refine own_step (fun t k => XS.iload X28.here hx rfl (hb hby at_133) rfl  k) ?_
            show own_Fin p e below s Q 16 128 (T28.setTop (mkF m 135 #[.val (.int i0), .val (.int i1), .val (.int i2), .val (.int i3), .val (.int i4), .val (.int (f1_0 i0 i1)), .val (.int (f2_0 i0 i1)), .val (.int (f1_0 i2 i3)), .val (.int (f2_0 i2 i3)), .val (.ref b21), .val (.ref b23), .val (.int (f5_0 (f1_0 i0 i1) (f2_0 i0 i1) (f1_0 i2 i3) (f2_0 i2 i3))), .val (.int (f5_0 (f1_0 i2 i3) (f2_0 i2 i3) (f1_0 i0 i1) (f2_0 i0 i1))), .val (.int (0 : Int32)), .val (.int (0 : Int32))] [(.int (f5_0 (f1_0 i2 i3) (f2_0 i2 i3) (f1_0 i0 i1) (f2_0 i0 i1))), (.int (f5_0 (f1_0 i0 i1) (f2_0 i0 i1) (f1_0 i2 i3) (f2_0 i2 i3)))]))
            refine own_step (fun t k => XS.icmpYes X28.here hx rfl (pc0 := 135) (pc' := 140) rfl (hb hby at_135) rfl (teq (own_rr _ _ _ _)).1 (by decide) (by decide) k) ?_
            show own_Fin p e below s Q 16 128 (T28.setTop (mkF m 140 #[.val (.int i0), .val (.int i1), .val (.int i2), .val (.int i3), .val (.int i4), .val (.int (f1_0 i0 i1)), .val (.int (f2_0 i0 i1)), .val (.int (f1_0 i2 i3)), .val (.int (f2_0 i2 i3)), .val (.ref b21), .val (.ref b23), .val (.int (f5_0 (f1_0 i0 i1) (f2_0 i0 i1) (f1_0 i2 i3) (f2_0 i2 i3))), .val (.int (f5_0 (f1_0 i2 i3) (f2_0 i2 i3) (f1_0 i0 i1) (f2_0 i0 i1))), .val (.int (0 : Int32)), .val (.int (0 : Int32))] []))
            refine own_step (fun t k => XS.iload X28.here hx rfl (hb hby at_140) rfl  k) ?_
            show own_Fin p e below s Q 16 128 (T28.setTop (mkF m 142 #[.val (.int i0), .val (.int i1), .val (.int i2), .val (.int i3), .val (.int i4), .val (.int (f1_0 i0 i1)), .val (.int (f2_0 i0 i1)), .val (.int (f1_0 i2 i3)), .val (.int (f2_0 i2 i3)), .val (.ref b21), .val (.ref b23), .val (.int (f5_0 (f1_0 i0 i1) (f2_0 i0 i1) (f1_0 i2 i3) (f2_0 i2 i3))), .val (.int (f5_0 (f1_0 i2 i3) (f2_0 i2 i3) (f1_0 i0 i1) (f2_0 i0 i1))), .val (.int (0 : Int32)), .val (.int (0 : Int32))] [(.int (f5_0 (f1_0 i0 i1) (f2_0 i0 i1) (f1_0 i2 i3) (f2_0 i2 i3)))]))
            refine own_step (fun t k => XS.iload X28.here hx rfl (hb hby at_142) rfl  k) ?_
            show own_Fin p e below s Q 16 128 (T28.setTop (mkF m 144 #[.val (.int i0), .val (.int i1), .val (.int i2), .val (.int i3), .val (.int i4), .val (.int (f1_0 i0 i1)), .val (.int (f2_0 i0 i1)), .val (.int (f1_0 i2 i3)), .val (.int (f2_0 i2 i3)), .val (.ref b21), .val (.ref b23), .val (.int (f5_0 (f1_0 i0 i1) (f2_0 i0 i1) (f1_0 i2 i3) (f2_0 i2 i3))), .val (.int (f5_0 (f1_0 i2 i3) (f2_0 i2 i3) (f1_0 i0 i1) (f2_0 i0 i1))), .val (.int (0 : Int32)), .val (.int (0 : Int32))] [(.int (0 : Int32)), (.int (f5_0 (f1_0 i0 i1) (f2_0 i0 i1) (f1_0 i2 i3) (f2_0 i2 i3)))]))
            refine own_step (fun t k => XS.icmpYes X28.here hx rfl (pc0 := 144) (pc' := 149) rfl (hb hby at_144) rfl (teq ((own_com _ _ _ _).1 hB86_29)).1 (by decide) (by decide) k) ?_
            show own_Fin p e below s Q 16 128 (T28.setTop (mkF m 149 #[.val (.int i0), .val (.int i1), .val (.int i2), .val (.int i3), .val (.int i4), .val (.int (f1_0 i0 i1)), .val (.int (f2_0 i0 i1)), .val (.int (f1_0 i2 i3)), .val (.int (f2_0 i2 i3)), .val (.ref b21), .val (.ref b23), .val (.int (f5_0 (f1_0 i0 i1) (f2_0 i0 i1) (f1_0 i2 i3) (f2_0 i2 i3))), .val (.int (f5_0 (f1_0 i2 i3) (f2_0 i2 i3) (f1_0 i0 i1) (f2_0 i0 i1))), .val (.int (0 : Int32)), .val (.int (0 : Int32))] []))
            refine own_step (fun t k => XS.iload X28.here hx rfl (hb hby at_149) rfl  k) ?_
            show own_Fin p e below s Q 16 128 (T28.setTop (mkF m 151 #[.val (.int i0), .val (.int i1), .val (.int i2), .val (.int i3), .val (.int i4), .val (.int (f1_0 i0 i1)), .val (.int (f2_0 i0 i1)), .val (.int (f1_0 i2 i3)), .val (.int (f2_0 i2 i3)), .val (.ref b21), .val (.ref b23), .val (.int (f5_0 (f1_0 i0 i1) (f2_0 i0 i1) (f1_0 i2 i3) (f2_0 i2 i3))), .val (.int (f5_0 (f1_0 i2 i3) (f2_0 i2 i3) (f1_0 i0 i1) (f2_0 i0 i1))), .val (.int (0 : Int32)), .val (.int (0 : Int32))] [(.int (0 : Int32))]))
            refine own_step (fun t k => XS.ifYes X28.here hx rfl (pc0 := 151) (pc' := 161) rfl (hb hby at_151) rfl ((if0 _ _).trans (teq (by decide : (0 : Int32) = (0 : Int32))).1) (by decide) (by decide) k) ?_
            show own_Fin p e below s Q 16 128 (T28.setTop (mkF m 161 #[.val (.int i0), .val (.int i1), .val (.int i2), .val (.int i3), .val (.int i4), .val (.int (f1_0 i0 i1)), .val (.int (f2_0 i0 i1)), .val (.int (f1_0 i2 i3)), .val (.int (f2_0 i2 i3)), .val (.ref b21), .val (.ref b23), .val (.int (f5_0 (f1_0 i0 i1) (f2_0 i0 i1) (f1_0 i2 i3) (f2_0 i2 i3))), .val (.int (f5_0 (f1_0 i2 i3) (f2_0 i2 i3) (f1_0 i0 i1) (f2_0 i0 i1))), .val (.int (0 : Int32)), .val (.int (0 : Int32))] []))
            refine own_step (fun t k => XS.iconst X28.here hx rfl (hb hby at_161) k) ?_
            show own_Fin p e below s Q 16 128 (T28.setTop (mkF m 162 #[.val (.int i0), .val (.int i1), .val (.int i2), .val (.int i3), .val (.int i4), .val (.int (f1_0 i0 i1)), .val (.int (f2_0 i0 i1)), .val (.int (f1_0 i2 i3)), .val (.int (f2_0 i2 i3)), .val (.ref b21), .val (.ref b23), .val (.int (f5_0 (f1_0 i0 i1) (f2_0 i0 i1) (f1_0 i2 i3) (f2_0 i2 i3))), .val (.int (f5_0 (f1_0 i2 i3) (f2_0 i2 i3) (f1_0 i0 i1) (f2_0 i0 i1))), .val (.int (0 : Int32)), .val (.int (0 : Int32))] [(.int (1 : Int32))]))
            exact own_retN X28 hx hlk hret (by simp) (hb hby at_162) (by omega) (by omega) rfl N28 (fun L' n' => hQ _ L' n') (rfl)
          · refine own_step (fun t k => XS.icmpNo X28.here hx rfl (hb hby at_121) rfl (flt hB121_33).2.2.1 k) ?_
            show own_Fin p e below s Q 16 128 (T28.setTop (mkF m 124 #[.val (.int i0), .val (.int i1), .val (.int i2), .val (.int i3), .val (.int i4), .val (.int (f1_0 i0 i1)), .val (.int (f2_0 i0 i1)), .val (.int (f1_0 i2 i3)), .val (.int (f2_0 i2 i3)), .val (.ref b21), .val (.ref b23), .val (.int (f5_0 (f1_0 i0 i1) (f2_0 i0 i1) (f1_0 i2 i3) (f2_0 i2 i3))), .val (.int (f5_0 (f1_0 i2 i3) (f2_0 i2 i3) (f1_0 i0 i1) (f2_0 i0 i1))), .val (.int (0 : Int32)), .unset] []))
            refine own_step (fun t k => XS.iconst X28.here hx rfl (hb hby at_124) k) ?_
            show own_Fin p e below s Q 16 128 (T28.setTop (mkF m 125 #[.val (.int i0), .val (.int i1), .val (.int i2), .val (.int i3), .val (.int i4), .val (.int (f1_0 i0 i1)), .val (.int (f2_0 i0 i1)), .val (.int (f1_0 i2 i3)), .val (.int (f2_0 i2 i3)), .val (.ref b21), .val (.ref b23), .val (.int (f5_0 (f1_0 i0 i1) (f2_0 i0 i1) (f1_0 i2 i3) (f2_0 i2 i3))), .val (.int (f5_0 (f1_0 i2 i3) (f2_0 i2 i3) (f1_0 i0 i1) (f2_0 i0 i1))), .val (.int (0 : Int32)), .unset] [(.int (1 : Int32))]))
            refine own_step (fun t k => XS.goto X28.here hx rfl (pc0 := 125) (pc' := 129) rfl (hb hby at_125) (by decide) (by decide) k) ?_
            show own_Fin p e below s Q 16 128 (T28.setTop (mkF m 129 #[.val (.int i0), .val (.int i1), .val (.int i2), .val (.int i3), .val (.int i4), .val (.int (f1_0 i0 i1)), .val (.int (f2_0 i0 i1)), .val (.int (f1_0 i2 i3)), .val (.int (f2_0 i2 i3)), .val (.ref b21), .val (.ref b23), .val (.int (f5_0 (f1_0 i0 i1) (f2_0 i0 i1) (f1_0 i2 i3) (f2_0 i2 i3))), .val (.int (f5_0 (f1_0 i2 i3) (f2_0 i2 i3) (f1_0 i0 i1) (f2_0 i0 i1))), .val (.int (0 : Int32)), .unset] [(.int (1 : Int32))]))
            refine own_step (fun t k => XS.istore X28.here hx rfl (hb hby at_129) rfl (l' := #[.val (.int i0), .val (.int i1), .val (.int i2), .val (.int i3), .val (.int i4), .val (.int (f1_0 i0 i1)), .val (.int (f2_0 i0 i1)), .val (.int (f1_0 i2 i3)), .val (.int (f2_0 i2 i3)), .val (.ref b21), .val (.ref b23), .val (.int (f5_0 (f1_0 i0 i1) (f2_0 i0 i1) (f1_0 i2 i3) (f2_0 i2 i3))), .val (.int (f5_0 (f1_0 i2 i3) (f2_0 i2 i3) (f1_0 i0 i1) (f2_0 i0 i1))), .val (.int (0 : Int32)), .val (.int (1 : Int32))]) rfl k) ?_
            show own_Fin p e below s Q 16 128 (T28.setTop (mkF m 131 #[.val (.int i0), .val (.int i1), .val (.int i2), .val (.int i3), .val (.int i4), .val (.int (f1_0 i0 i1)), .val (.int (f2_0 i0 i1)), .val (.int (f1_0 i2 i3)), .val (.int (f2_0 i2 i3)), .val (.ref b21), .val (.ref b23), .val (.int (f5_0 (f1_0 i0 i1) (f2_0 i0 i1) (f1_0 i2 i3) (f2_0 i2 i3))), .val (.int (f5_0 (f1_0 i2 i3) (f2_0 i2 i3) (f1_0 i0 i1) (f2_0 i0 i1))), .val (.int (0 : Int32)), .val (.int (1 : Int32))] []))
            refine own_step (fun t k => XS.iload X28.here hx rfl (hb hby at_131) rfl  k) ?_
            show own_Fin p e below s Q 16 128 (T28.setTop (mkF m 133 #[.val (.int i0), .val (.int i1), .val (.int i2), .val (.int i3), .val (.int i4), .val (.int (f1_0 i0 i1)), .val (.int (f2_0 i0 i1)), .val (.int (f1_0 i2 i3)), .val (.int (f2_0 i2 i3)), .val (.ref b21), .val (.ref b23), .val (.int (f5_0 (f1_0 i0 i1) (f2_0 i0 i1) (f1_0 i2 i3) (f2_0 i2 i3))), .val (.int (f5_0 (f1_0 i2 i3) (f2_0 i2 i3) (f1_0 i0 i1) (f2_0 i0 i1))), .val (.int (0 : Int32)), .val (.int (1 : Int32))] [(.int (f5_0 (f1_0 i0 i1) (f2_0 i0 i1) (f1_0 i2 i3) (f2_0 i2 i3)))]))
            refine own_step (fun t k => XS.iload X28.here hx rfl (hb hby at_133) rfl  k) ?_
            show own_Fin p e below s Q 16 128 (T28.setTop (mkF m 135 #[.val (.int i0), .val (.int i1), .val (.int i2), .val (.int i3), .val (.int i4), .val (.int (f1_0 i0 i1)), .val (.int (f2_0 i0 i1)), .val (.int (f1_0 i2 i3)), .val (.int (f2_0 i2 i3)), .val (.ref b21), .val (.ref b23), .val (.int (f5_0 (f1_0 i0 i1) (f2_0 i0 i1) (f1_0 i2 i3) (f2_0 i2 i3))), .val (.int (f5_0 (f1_0 i2 i3) (f2_0 i2 i3) (f1_0 i0 i1) (f2_0 i0 i1))), .val (.int (0 : Int32)), .val (.int (1 : Int32))] [(.int (f5_0 (f1_0 i2 i3) (f2_0 i2 i3) (f1_0 i0 i1) (f2_0 i0 i1))), (.int (f5_0 (f1_0 i0 i1) (f2_0 i0 i1) (f1_0 i2 i3) (f2_0 i2 i3)))]))
            refine own_step (fun t k => XS.icmpYes X28.here hx rfl (pc0 := 135) (pc' := 140) rfl (hb hby at_135) rfl (teq (own_rr _ _ _ _)).1 (by decide) (by decide) k) ?_
            show own_Fin p e below s Q 16 128 (T28.setTop (mkF m 140 #[.val (.int i0), .val (.int i1), .val (.int i2), .val (.int i3), .val (.int i4), .val (.int (f1_0 i0 i1)), .val (.int (f2_0 i0 i1)), .val (.int (f1_0 i2 i3)), .val (.int (f2_0 i2 i3)), .val (.ref b21), .val (.ref b23), .val (.int (f5_0 (f1_0 i0 i1) (f2_0 i0 i1) (f1_0 i2 i3) (f2_0 i2 i3))), .val (.int (f5_0 (f1_0 i2 i3) (f2_0 i2 i3) (f1_0 i0 i1) (f2_0 i0 i1))), .val (.int (0 : Int32)), .val (.int (1 : Int32))] []))
            refine own_step (fun t k => XS.iload X28.here hx rfl (hb hby at_140) rfl  k) ?_
            show own_Fin p e below s Q 16 128 (T28.setTop (mkF m 142 #[.val (.int i0), .val (.int i1), .val (.int i2), .val (.int i3), .val (.int i4), .val (.int (f1_0 i0 i1)), .val (.int (f2_0 i0 i1)), .val (.int (f1_0 i2 i3)), .val (.int (f2_0 i2 i3)), .val (.ref b21), .val (.ref b23), .val (.int (f5_0 (f1_0 i0 i1) (f2_0 i0 i1) (f1_0 i2 i3) (f2_0 i2 i3))), .val (.int (f5_0 (f1_0 i2 i3) (f2_0 i2 i3) (f1_0 i0 i1) (f2_0 i0 i1))), .val (.int (0 : Int32)), .val (.int (1 : Int32))] [(.int (f5_0 (f1_0 i0 i1) (f2_0 i0 i1) (f1_0 i2 i3) (f2_0 i2 i3)))]))
            refine own_step (fun t k => XS.iload X28.here hx rfl (hb hby at_142) rfl  k) ?_
            show own_Fin p e below s Q 16 128 (T28.setTop (mkF m 144 #[.val (.int i0), .val (.int i1), .val (.int i2), .val (.int i3), .val (.int i4), .val (.int (f1_0 i0 i1)), .val (.int (f2_0 i0 i1)), .val (.int (f1_0 i2 i3)), .val (.int (f2_0 i2 i3)), .val (.ref b21), .val (.ref b23), .val (.int (f5_0 (f1_0 i0 i1) (f2_0 i0 i1) (f1_0 i2 i3) (f2_0 i2 i3))), .val (.int (f5_0 (f1_0 i2 i3) (f2_0 i2 i3) (f1_0 i0 i1) (f2_0 i0 i1))), .val (.int (0 : Int32)), .val (.int (1 : Int32))] [(.int (0 : Int32)), (.int (f5_0 (f1_0 i0 i1) (f2_0 i0 i1) (f1_0 i2 i3) (f2_0 i2 i3)))]))
            refine own_step (fun t k => XS.icmpYes X28.here hx rfl (pc0 := 144) (pc' := 149) rfl (hb hby at_144) rfl (teq ((own_com _ _ _ _).1 hB86_29)).1 (by decide) (by decide) k) ?_
            show own_Fin p e below s Q 16 128 (T28.setTop (mkF m 149 #[.val (.int i0), .val (.int i1), .val (.int i2), .val (.int i3), .val (.int i4), .val (.int (f1_0 i0 i1)), .val (.int (f2_0 i0 i1)), .val (.int (f1_0 i2 i3)), .val (.int (f2_0 i2 i3)), .val (.ref b21), .val (.ref b23), .val (.int (f5_0 (f1_0 i0 i1) (f2_0 i0 i1) (f1_0 i2 i3) (f2_0 i2 i3))), .val (.int (f5_0 (f1_0 i2 i3) (f2_0 i2 i3) (f1_0 i0 i1) (f2_0 i0 i1))), .val (.int (0 : Int32)), .val (.int (1 : Int32))] []))
            refine own_step (fun t k => XS.iload X28.here hx rfl (hb hby at_149) rfl  k) ?_
            show own_Fin p e below s Q 16 128 (T28.setTop (mkF m 151 #[.val (.int i0), .val (.int i1), .val (.int i2), .val (.int i3), .val (.int i4), .val (.int (f1_0 i0 i1)), .val (.int (f2_0 i0 i1)), .val (.int (f1_0 i2 i3)), .val (.int (f2_0 i2 i3)), .val (.ref b21), .val (.ref b23), .val (.int (f5_0 (f1_0 i0 i1) (f2_0 i0 i1) (f1_0 i2 i3) (f2_0 i2 i3))), .val (.int (f5_0 (f1_0 i2 i3) (f2_0 i2 i3) (f1_0 i0 i1) (f2_0 i0 i1))), .val (.int (0 : Int32)), .val (.int (1 : Int32))] [(.int (1 : Int32))]))
            refine own_step (fun t k => XS.ifNo X28.here hx rfl (hb hby at_151) rfl ((if0 _ _).trans (feq (by decide : ¬ ((1 : Int32) = (0 : Int32)))).1) k) ?_
            show own_Fin p e below s Q 16 128 (T28.setTop (mkF m 154 #[.val (.int i0), .val (.int i1), .val (.int i2), .val (.int i3), .val (.int i4), .val (.int (f1_0 i0 i1)), .val (.int (f2_0 i0 i1)), .val (.int (f1_0 i2 i3)), .val (.int (f2_0 i2 i3)), .val (.ref b21), .val (.ref b23), .val (.int (f5_0 (f1_0 i0 i1) (f2_0 i0 i1) (f1_0 i2 i3) (f2_0 i2 i3))), .val (.int (f5_0 (f1_0 i2 i3) (f2_0 i2 i3) (f1_0 i0 i1) (f2_0 i0 i1))), .val (.int (0 : Int32)), .val (.int (1 : Int32))] []))
            refine own_step (fun t k => XS.iload X28.here hx rfl (hb hby at_154) rfl  k) ?_
            show own_Fin p e below s Q 16 128 (T28.setTop (mkF m 156 #[.val (.int i0), .val (.int i1), .val (.int i2), .val (.int i3), .val (.int i4), .val (.int (f1_0 i0 i1)), .val (.int (f2_0 i0 i1)), .val (.int (f1_0 i2 i3)), .val (.int (f2_0 i2 i3)), .val (.ref b21), .val (.ref b23), .val (.int (f5_0 (f1_0 i0 i1) (f2_0 i0 i1) (f1_0 i2 i3) (f2_0 i2 i3))), .val (.int (f5_0 (f1_0 i2 i3) (f2_0 i2 i3) (f1_0 i0 i1) (f2_0 i0 i1))), .val (.int (0 : Int32)), .val (.int (1 : Int32))] [(.int (f5_0 (f1_0 i0 i1) (f2_0 i0 i1) (f1_0 i2 i3) (f2_0 i2 i3)))]))
            refine own_step (fun t k => XS.ifYes X28.here hx rfl (pc0 := 156) (pc' := 161) rfl (hb hby at_156) rfl ((if0 _ _).trans (feq (own_in hB100_30 hB107_31 hB114_32 hB121_33)).2) (by decide) (by decide) k) ?_
            show own_Fin p e below s Q 16 128 (T28.setTop (mkF m 161 #[.val (.int i0), .val (.int i1), .val (.int i2), .val (.int i3), .val (.int i4), .val (.int (f1_0 i0 i1)), .val (.int (f2_0 i0 i1)), .val (.int (f1_0 i2 i3)), .val (.int (f2_0 i2 i3)), .val (.ref b21), .val (.ref b23), .val (.int (f5_0 (f1_0 i0 i1) (f2_0 i0 i1) (f1_0 i2 i3) (f2_0 i2 i3))), .val (.int (f5_0 (f1_0 i2 i3) (f2_0 i2 i3) (f1_0 i0 i1) (f2_0 i0 i1))), .val (.int (0 : Int32)), .val (.int (1 : Int32))] []))
            refine own_step (fun t k => XS.iconst X28.here hx rfl (hb hby at_161) k) ?_
            show own_Fin p e below s Q 16 128 (T28.setTop (mkF m 162 #[.val (.int i0), .val (.int i1), .val (.int i2), .val (.int i3), .val (.int i4), .val (.int (f1_0 i0 i1)), .val (.int (f2_0 i0 i1)), .val (.int (f1_0 i2 i3)), .val (.int (f2_0 i2 i3)), .val (.ref b21), .val (.ref b23), .val (.int (f5_0 (f1_0 i0 i1) (f2_0 i0 i1) (f1_0 i2 i3) (f2_0 i2 i3))), .val (.int (f5_0 (f1_0 i2 i3) (f2_0 i2 i3) (f1_0 i0 i1) (f2_0 i0 i1))), .val (.int (0 : Int32)), .val (.int (1 : Int32))] [(.int (1 : Int32))]))
            exact own_retN X28 hx hlk hret (by simp) (hb hby at_162) (by omega) (by omega) rfl N28 (fun L' n' => hQ _ L' n') (rfl)
  · refine own_step (fun t k => XS.icmpNo X28.here hx rfl (hb hby at_86) rfl (flt hB86_29).2.2.1 k) ?_
    show own_Fin p e below s Q 16 128 (T28.setTop (mkF m 89 #[.val (.int i0), .val (.int i1), .val (.int i2), .val (.int i3), .val (.int i4), .val (.int (f1_0 i0 i1)), .val (.int (f2_0 i0 i1)), .val (.int (f1_0 i2 i3)), .val (.int (f2_0 i2 i3)), .val (.ref b21), .val (.ref b23), .val (.int (f5_0 (f1_0 i0 i1) (f2_0 i0 i1) (f1_0 i2 i3) (f2_0 i2 i3))), .val (.int (f5_0 (f1_0 i2 i3) (f2_0 i2 i3) (f1_0 i0 i1) (f2_0 i0 i1))), .unset, .unset] []))
    refine own_step (fun t k => XS.iconst X28.here hx rfl (hb hby at_89) k) ?_
    show own_Fin p e below s Q 16 128 (T28.setTop (mkF m 90 #[.val (.int i0), .val (.int i1), .val (.int i2), .val (.int i3), .val (.int i4), .val (.int (f1_0 i0 i1)), .val (.int (f2_0 i0 i1)), .val (.int (f1_0 i2 i3)), .val (.int (f2_0 i2 i3)), .val (.ref b21), .val (.ref b23), .val (.int (f5_0 (f1_0 i0 i1) (f2_0 i0 i1) (f1_0 i2 i3) (f2_0 i2 i3))), .val (.int (f5_0 (f1_0 i2 i3) (f2_0 i2 i3) (f1_0 i0 i1) (f2_0 i0 i1))), .unset, .unset] [(.int (1 : Int32))]))
    refine own_step (fun t k => XS.goto X28.here hx rfl (pc0 := 90) (pc' := 94) rfl (hb hby at_90) (by decide) (by decide) k) ?_
    show own_Fin p e below s Q 16 128 (T28.setTop (mkF m 94 #[.val (.int i0), .val (.int i1), .val (.int i2), .val (.int i3), .val (.int i4), .val (.int (f1_0 i0 i1)), .val (.int (f2_0 i0 i1)), .val (.int (f1_0 i2 i3)), .val (.int (f2_0 i2 i3)), .val (.ref b21), .val (.ref b23), .val (.int (f5_0 (f1_0 i0 i1) (f2_0 i0 i1) (f1_0 i2 i3) (f2_0 i2 i3))), .val (.int (f5_0 (f1_0 i2 i3) (f2_0 i2 i3) (f1_0 i0 i1) (f2_0 i0 i1))), .unset, .unset] [(.int (1 : Int32))]))
    refine own_step (fun t k => XS.istore X28.here hx rfl (hb hby at_94) rfl (l' := #[.val (.int i0), .val (.int i1), .val (.int i2), .val (.int i3), .val (.int i4), .val (.int (f1_0 i0 i1)), .val (.int (f2_0 i0 i1)), .val (.int (f1_0 i2 i3)), .val (.int (f2_0 i2 i3)), .val (.ref b21), .val (.ref b23), .val (.int (f5_0 (f1_0 i0 i1) (f2_0 i0 i1) (f1_0 i2 i3) (f2_0 i2 i3))), .val (.int (f5_0 (f1_0 i2 i3) (f2_0 i2 i3) (f1_0 i0 i1) (f2_0 i0 i1))), .val (.int (1 : Int32)), .unset]) rfl k) ?_
    show own_Fin p e below s Q 16 128 (T28.setTop (mkF m 96 #[.val (.int i0), .val (.int i1), .val (.int i2), .val (.int i3), .val (.int i4), .val (.int (f1_0 i0 i1)), .val (.int (f2_0 i0 i1)), .val (.int (f1_0 i2 i3)), .val (.int (f2_0 i2 i3)), .val (.ref b21), .val (.ref b23), .val (.int (f5_0 (f1_0 i0 i1) (f2_0 i0 i1) (f1_0 i2 i3) (f2_0 i2 i3))), .val (.int (f5_0 (f1_0 i2 i3) (f2_0 i2 i3) (f1_0 i0 i1) (f2_0 i0 i1))), .val (.int (1 : Int32)), .unset] []))
    refine own_step (fun t k => XS.iload X28.here hx rfl (hb hby at_96) rfl  k) ?_
    show own_Fin p e below s Q 16 128 (T28.setTop (mkF m 98 #[.val (.int i0), .val (.int i1), .val (.int i2), .val (.int i3), .val (.int i4), .val (.int (f1_0 i0 i1)), .val (.int (f2_0 i0 i1)), .val (.int (f1_0 i2 i3)), .val (.int (f2_0 i2 i3)), .val (.ref b21), .val (.ref b23), .val (.int (f5_0 (f1_0 i0 i1) (f2_0 i0 i1) (f1_0 i2 i3) (f2_0 i2 i3))), .val (.int (f5_0 (f1_0 i2 i3) (f2_0 i2 i3) (f1_0 i0 i1) (f2_0 i0 i1))), .val (.int (1 : Int32)), .unset] [(.int (f1_0 i0 i1))]))
    refine own_step (fun t k => XS.iload X28.here hx rfl (hb hby at_98) rfl  k) ?_
    show own_Fin p e below s Q 16 128 (T28.setTop (mkF m 100 #[.val (.int i0), .val (.int i1), .val (.int i2), .val (.int i3), .val (.int i4), .val (.int (f1_0 i0 i1)), .val (.int (f2_0 i0 i1)), .val (.int (f1_0 i2 i3)), .val (.int (f2_0 i2 i3)), .val (.ref b21), .val (.ref b23), .val (.int (f5_0 (f1_0 i0 i1) (f2_0 i0 i1) (f1_0 i2 i3) (f2_0 i2 i3))), .val (.int (f5_0 (f1_0 i2 i3) (f2_0 i2 i3) (f1_0 i0 i1) (f2_0 i0 i1))), .val (.int (1 : Int32)), .unset] [(.int i4), (.int (f1_0 i0 i1))]))
    by_cases hB100_34 : i4 < (f1_0 i0 i1)
    · refine own_step (fun t k => XS.icmpYes X28.here hx rfl (pc0 := 100) (pc' := 128) rfl (hb hby at_100) rfl (tlt hB100_34).2.2.1 (by decide) (by decide) k) ?_
      show own_Fin p e below s Q 16 128 (T28.setTop (mkF m 128 #[.val (.int i0), .val (.int i1), .val (.int i2), .val (.int i3), .val (.int i4), .val (.int (f1_0 i0 i1)), .val (.int (f2_0 i0 i1)), .val (.int (f1_0 i2 i3)), .val (.int (f2_0 i2 i3)), .val (.ref b21), .val (.ref b23), .val (.int (f5_0 (f1_0 i0 i1) (f2_0 i0 i1) (f1_0 i2 i3) (f2_0 i2 i3))), .val (.int (f5_0 (f1_0 i2 i3) (f2_0 i2 i3) (f1_0 i0 i1) (f2_0 i0 i1))), .val (.int (1 : Int32)), .unset] []))
      refine own_step (fun t k => XS.iconst X28.here hx rfl (hb hby at_128) k) ?_
      show own_Fin p e below s Q 16 128 (T28.setTop (mkF m 129 #[.val (.int i0), .val (.int i1), .val (.int i2), .val (.int i3), .val (.int i4), .val (.int (f1_0 i0 i1)), .val (.int (f2_0 i0 i1)), .val (.int (f1_0 i2 i3)), .val (.int (f2_0 i2 i3)), .val (.ref b21), .val (.ref b23), .val (.int (f5_0 (f1_0 i0 i1) (f2_0 i0 i1) (f1_0 i2 i3) (f2_0 i2 i3))), .val (.int (f5_0 (f1_0 i2 i3) (f2_0 i2 i3) (f1_0 i0 i1) (f2_0 i0 i1))), .val (.int (1 : Int32)), .unset] [(.int (0 : Int32))]))
      refine own_step (fun t k => XS.istore X28.here hx rfl (hb hby at_129) rfl (l' := #[.val (.int i0), .val (.int i1), .val (.int i2), .val (.int i3), .val (.int i4), .val (.int (f1_0 i0 i1)), .val (.int (f2_0 i0 i1)), .val (.int (f1_0 i2 i3)), .val (.int (f2_0 i2 i3)), .val (.ref b21), .val (.ref b23), .val (.int (f5_0 (f1_0 i0 i1) (f2_0 i0 i1) (f1_0 i2 i3) (f2_0 i2 i3))), .val (.int (f5_0 (f1_0 i2 i3) (f2_0 i2 i3) (f1_0 i0 i1) (f2_0 i0 i1))), .val (.int (1 : Int32)), .val (.int (0 : Int32))]) rfl k) ?_
      show own_Fin p e below s Q 16 128 (T28.setTop (mkF m 131 #[.val (.int i0), .val (.int i1), .val (.int i2), .val (.int i3), .val (.int i4), .val (.int (f1_0 i0 i1)), .val (.int (f2_0 i0 i1)), .val (.int (f1_0 i2 i3)), .val (.int (f2_0 i2 i3)), .val (.ref b21), .val (.ref b23), .val (.int (f5_0 (f1_0 i0 i1) (f2_0 i0 i1) (f1_0 i2 i3) (f2_0 i2 i3))), .val (.int (f5_0 (f1_0 i2 i3) (f2_0 i2 i3) (f1_0 i0 i1) (f2_0 i0 i1))), .val (.int (1 : Int32)), .val (.int (0 : Int32))] []))
      refine own_step (fun t k => XS.iload X28.here hx rfl (hb hby at_131) rfl  k) ?_
      show own_Fin p e below s Q 16 128 (T28.setTop (mkF m 133 #[.val (.int i0), .val (.int i1), .val (.int i2), .val (.int i3), .val (.int i4), .val (.int (f1_0 i0 i1)), .val (.int (f2_0 i0 i1)), .val (.int (f1_0 i2 i3)), .val (.int (f2_0 i2 i3)), .val (.ref b21), .val (.ref b23), .val (.int (f5_0 (f1_0 i0 i1) (f2_0 i0 i1) (f1_0 i2 i3) (f2_0 i2 i3))), .val (.int (f5_0 (f1_0 i2 i3) (f2_0 i2 i3) (f1_0 i0 i1) (f2_0 i0 i1))), .val (.int (1 : Int32)), .val (.int (0 : Int32))] [(.int (f5_0 (f1_0 i0 i1) (f2_0 i0 i1) (f1_0 i2 i3) (f2_0 i2 i3)))]))
      refine own_step (fun t k => XS.iload X28.here hx rfl (hb hby at_133) rfl  k) ?_
      show own_Fin p e below s Q 16 128 (T28.setTop (mkF m 135 #[.val (.int i0), .val (.int i1), .val (.int i2), .val (.int i3), .val (.int i4), .val (.int (f1_0 i0 i1)), .val (.int (f2_0 i0 i1)), .val (.int (f1_0 i2 i3)), .val (.int (f2_0 i2 i3)), .val (.ref b21), .val (.ref b23), .val (.int (f5_0 (f1_0 i0 i1) (f2_0 i0 i1) (f1_0 i2 i3) (f2_0 i2 i3))), .val (.int (f5_0 (f1_0 i2 i3) (f2_0 i2 i3) (f1_0 i0 i1) (f2_0 i0 i1))), .val (.int (1 : Int32)), .val (.int (0 : Int32))] [(.int (f5_0 (f1_0 i2 i3) (f2_0 i2 i3) (f1_0 i0 i1) (f2_0 i0 i1))), (.int (f5_0 (f1_0 i0 i1) (f2_0 i0 i1) (f1_0 i2 i3) (f2_0 i2 i3)))]))
      refine own_step (fun t k => XS.icmpYes X28.here hx rfl (pc0 := 135) (pc' := 140) rfl (hb hby at_135) rfl (teq (own_rr _ _ _ _)).1 (by decide) (by decide) k) ?_
      show own_Fin p e below s Q 16 128 (T28.setTop (mkF m 140 #[.val (.int i0), .val (.int i1), .val (.int i2), .val (.int i3), .val (.int i4), .val (.int (f1_0 i0 i1)), .val (.int (f2_0 i0 i1)), .val (.int (f1_0 i2 i3)), .val (.int (f2_0 i2 i3)), .val (.ref b21), .val (.ref b23), .val (.int (f5_0 (f1_0 i0 i1) (f2_0 i0 i1) (f1_0 i2 i3) (f2_0 i2 i3))), .val (.int (f5_0 (f1_0 i2 i3) (f2_0 i2 i3) (f1_0 i0 i1) (f2_0 i0 i1))), .val (.int (1 : Int32)), .val (.int (0 : Int32))] []))
      refine own_step (fun t k => XS.iload X28.here hx rfl (hb hby at_140) rfl  k) ?_
      show own_Fin p e below s Q 16 128 (T28.setTop (mkF m 142 #[.val (.int i0), .val (.int i1), .val (.int i2), .val (.int i3), .val (.int i4), .val (.int (f1_0 i0 i1)), .val (.int (f2_0 i0 i1)), .val (.int (f1_0 i2 i3)), .val (.int (f2_0 i2 i3)), .val (.ref b21), .val (.ref b23), .val (.int (f5_0 (f1_0 i0 i1) (f2_0 i0 i1) (f1_0 i2 i3) (f2_0 i2 i3))), .val (.int (f5_0 (f1_0 i2 i3) (f2_0 i2 i3) (f1_0 i0 i1) (f2_0 i0 i1))), .val (.int (1 : Int32)), .val (.int (0 : Int32))] [(.int (f5_0 (f1_0 i0 i1) (f2_0 i0 i1) (f1_0 i2 i3) (f2_0 i2 i3)))]))
      refine own_step (fun t k => XS.iload X28.here hx rfl (hb hby at_142) rfl  k) ?_
      show own_Fin p e below s Q 16 128 (T28.setTop (mkF m 144 #[.val (.int i0), .val (.int i1), .val (.int i2), .val (.int i3), .val (.int i4), .val (.int (f1_0 i0 i1)), .val (.int (f2_0 i0 i1)), .val (.int (f1_0 i2 i3)), .val (.int (f2_0 i2 i3)), .val (.ref b21), .val (.ref b23), .val (.int (f5_0 (f1_0 i0 i1) (f2_0 i0 i1) (f1_0 i2 i3) (f2_0 i2 i3))), .val (.int (f5_0 (f1_0 i2 i3) (f2_0 i2 i3) (f1_0 i0 i1) (f2_0 i0 i1))), .val (.int (1 : Int32)), .val (.int (0 : Int32))] [(.int (1 : Int32)), (.int (f5_0 (f1_0 i0 i1) (f2_0 i0 i1) (f1_0 i2 i3) (f2_0 i2 i3)))]))
      refine own_step (fun t k => XS.icmpYes X28.here hx rfl (pc0 := 144) (pc' := 149) rfl (hb hby at_144) rfl (teq ((own_com _ _ _ _).2 hB86_29)).1 (by decide) (by decide) k) ?_
      show own_Fin p e below s Q 16 128 (T28.setTop (mkF m 149 #[.val (.int i0), .val (.int i1), .val (.int i2), .val (.int i3), .val (.int i4), .val (.int (f1_0 i0 i1)), .val (.int (f2_0 i0 i1)), .val (.int (f1_0 i2 i3)), .val (.int (f2_0 i2 i3)), .val (.ref b21), .val (.ref b23), .val (.int (f5_0 (f1_0 i0 i1) (f2_0 i0 i1) (f1_0 i2 i3) (f2_0 i2 i3))), .val (.int (f5_0 (f1_0 i2 i3) (f2_0 i2 i3) (f1_0 i0 i1) (f2_0 i0 i1))), .val (.int (1 : Int32)), .val (.int (0 : Int32))] []))
      refine own_step (fun t k => XS.iload X28.here hx rfl (hb hby at_149) rfl  k) ?_
      show own_Fin p e below s Q 16 128 (T28.setTop (mkF m 151 #[.val (.int i0), .val (.int i1), .val (.int i2), .val (.int i3), .val (.int i4), .val (.int (f1_0 i0 i1)), .val (.int (f2_0 i0 i1)), .val (.int (f1_0 i2 i3)), .val (.int (f2_0 i2 i3)), .val (.ref b21), .val (.ref b23), .val (.int (f5_0 (f1_0 i0 i1) (f2_0 i0 i1) (f1_0 i2 i3) (f2_0 i2 i3))), .val (.int (f5_0 (f1_0 i2 i3) (f2_0 i2 i3) (f1_0 i0 i1) (f2_0 i0 i1))), .val (.int (1 : Int32)), .val (.int (0 : Int32))] [(.int (0 : Int32))]))
      refine own_step (fun t k => XS.ifYes X28.here hx rfl (pc0 := 151) (pc' := 161) rfl (hb hby at_151) rfl ((if0 _ _).trans (teq (by decide : (0 : Int32) = (0 : Int32))).1) (by decide) (by decide) k) ?_
      show own_Fin p e below s Q 16 128 (T28.setTop (mkF m 161 #[.val (.int i0), .val (.int i1), .val (.int i2), .val (.int i3), .val (.int i4), .val (.int (f1_0 i0 i1)), .val (.int (f2_0 i0 i1)), .val (.int (f1_0 i2 i3)), .val (.int (f2_0 i2 i3)), .val (.ref b21), .val (.ref b23), .val (.int (f5_0 (f1_0 i0 i1) (f2_0 i0 i1) (f1_0 i2 i3) (f2_0 i2 i3))), .val (.int (f5_0 (f1_0 i2 i3) (f2_0 i2 i3) (f1_0 i0 i1) (f2_0 i0 i1))), .val (.int (1 : Int32)), .val (.int (0 : Int32))] []))
      refine own_step (fun t k => XS.iconst X28.here hx rfl (hb hby at_161) k) ?_
      show own_Fin p e below s Q 16 128 (T28.setTop (mkF m 162 #[.val (.int i0), .val (.int i1), .val (.int i2), .val (.int i3), .val (.int i4), .val (.int (f1_0 i0 i1)), .val (.int (f2_0 i0 i1)), .val (.int (f1_0 i2 i3)), .val (.int (f2_0 i2 i3)), .val (.ref b21), .val (.ref b23), .val (.int (f5_0 (f1_0 i0 i1) (f2_0 i0 i1) (f1_0 i2 i3) (f2_0 i2 i3))), .val (.int (f5_0 (f1_0 i2 i3) (f2_0 i2 i3) (f1_0 i0 i1) (f2_0 i0 i1))), .val (.int (1 : Int32)), .val (.int (0 : Int32))] [(.int (1 : Int32))]))
      exact own_retN X28 hx hlk hret (by simp) (hb hby at_162) (by omega) (by omega) rfl N28 (fun L' n' => hQ _ L' n') (rfl)
    · refine own_step (fun t k => XS.icmpNo X28.here hx rfl (hb hby at_100) rfl (flt hB100_34).2.2.1 k) ?_
      show own_Fin p e below s Q 16 128 (T28.setTop (mkF m 103 #[.val (.int i0), .val (.int i1), .val (.int i2), .val (.int i3), .val (.int i4), .val (.int (f1_0 i0 i1)), .val (.int (f2_0 i0 i1)), .val (.int (f1_0 i2 i3)), .val (.int (f2_0 i2 i3)), .val (.ref b21), .val (.ref b23), .val (.int (f5_0 (f1_0 i0 i1) (f2_0 i0 i1) (f1_0 i2 i3) (f2_0 i2 i3))), .val (.int (f5_0 (f1_0 i2 i3) (f2_0 i2 i3) (f1_0 i0 i1) (f2_0 i0 i1))), .val (.int (1 : Int32)), .unset] []))
      refine own_step (fun t k => XS.iload X28.here hx rfl (hb hby at_103) rfl  k) ?_
      show own_Fin p e below s Q 16 128 (T28.setTop (mkF m 105 #[.val (.int i0), .val (.int i1), .val (.int i2), .val (.int i3), .val (.int i4), .val (.int (f1_0 i0 i1)), .val (.int (f2_0 i0 i1)), .val (.int (f1_0 i2 i3)), .val (.int (f2_0 i2 i3)), .val (.ref b21), .val (.ref b23), .val (.int (f5_0 (f1_0 i0 i1) (f2_0 i0 i1) (f1_0 i2 i3) (f2_0 i2 i3))), .val (.int (f5_0 (f1_0 i2 i3) (f2_0 i2 i3) (f1_0 i0 i1) (f2_0 i0 i1))), .val (.int (1 : Int32)), .unset] [(.int i4)]))
      refine own_step (fun t k => XS.iload X28.here hx rfl (hb hby at_105) rfl  k) ?_
      show own_Fin p e below s Q 16 128 (T28.setTop (mkF m 107 #[.val (.int i0), .val (.int i1), .val (.int i2), .val (.int i3), .val (.int i4), .val (.int (f1_0 i0 i1)), .val (.int (f2_0 i0 i1)), .val (.int (f1_0 i2 i3)), .val (.int (f2_0 i2 i3)), .val (.ref b21), .val (.ref b23), .val (.int (f5_0 (f1_0 i0 i1) (f2_0 i0 i1) (f1_0 i2 i3) (f2_0 i2 i3))), .val (.int (f5_0 (f1_0 i2 i3) (f2_0 i2 i3) (f1_0 i0 i1) (f2_0 i0 i1))), .val (.int (1 : Int32)), .unset] [(.int (f2_0 i0 i1)), (.int i4)]))
      by_cases hB107_35 : (f2_0 i0 i1) < i4
      · refine own_step (fun t k => XS.icmpYes X28.here hx rfl (pc0 := 107) (pc' := 128) rfl (hb hby at_107) rfl (tlt hB107_35).2.2.1 (by decide) (by decide) k) ?_
        show own_Fin p e below s Q 16 128 (T28.setTop (mkF m 128 #[.val (.int i0), .val (.int i1), .val (.int i2), .val (.int i3), .val (.int i4), .val (.int (f1_0 i0 i1)), .val (.int (f2_0 i0 i1)), .val (.int (f1_0 i2 i3)), .val (.int (f2_0 i2 i3)), .val (.ref b21), .val (.ref b23), .val (.int (f5_0 (f1_0 i0 i1) (f2_0 i0 i1) (f1_0 i2 i3) (f2_0 i2 i3))), .val (.int (f5_0 (f1_0 i2 i3) (f2_0 i2 i3) (f1_0 i0 i1) (f2_0 i0 i1))), .val (.int (1 : Int32)), .unset] []))
        refine own_step (fun t k => XS.iconst X28.here hx rfl (hb hby at_128) k) ?_
        show own_Fin p e below s Q 16 128 (T28.setTop (mkF m 129 #[.val (.int i0), .val (.int i1), .val (.int i2), .val (.int i3), .val (.int i4), .val (.int (f1_0 i0 i1)), .val (.int (f2_0 i0 i1)), .val (.int (f1_0 i2 i3)), .val (.int (f2_0 i2 i3)), .val (.ref b21), .val (.ref b23), .val (.int (f5_0 (f1_0 i0 i1) (f2_0 i0 i1) (f1_0 i2 i3) (f2_0 i2 i3))), .val (.int (f5_0 (f1_0 i2 i3) (f2_0 i2 i3) (f1_0 i0 i1) (f2_0 i0 i1))), .val (.int (1 : Int32)), .unset] [(.int (0 : Int32))]))
        refine own_step (fun t k => XS.istore X28.here hx rfl (hb hby at_129) rfl (l' := #[.val (.int i0), .val (.int i1), .val (.int i2), .val (.int i3), .val (.int i4), .val (.int (f1_0 i0 i1)), .val (.int (f2_0 i0 i1)), .val (.int (f1_0 i2 i3)), .val (.int (f2_0 i2 i3)), .val (.ref b21), .val (.ref b23), .val (.int (f5_0 (f1_0 i0 i1) (f2_0 i0 i1) (f1_0 i2 i3) (f2_0 i2 i3))), .val (.int (f5_0 (f1_0 i2 i3) (f2_0 i2 i3) (f1_0 i0 i1) (f2_0 i0 i1))), .val (.int (1 : Int32)), .val (.int (0 : Int32))]) rfl k) ?_
        show own_Fin p e below s Q 16 128 (T28.setTop (mkF m 131 #[.val (.int i0), .val (.int i1), .val (.int i2), .val (.int i3), .val (.int i4), .val (.int (f1_0 i0 i1)), .val (.int (f2_0 i0 i1)), .val (.int (f1_0 i2 i3)), .val (.int (f2_0 i2 i3)), .val (.ref b21), .val (.ref b23), .val (.int (f5_0 (f1_0 i0 i1) (f2_0 i0 i1) (f1_0 i2 i3) (f2_0 i2 i3))), .val (.int (f5_0 (f1_0 i2 i3) (f2_0 i2 i3) (f1_0 i0 i1) (f2_0 i0 i1))), .val (.int (1 : Int32)), .val (.int (0 : Int32))] []))
        refine own_step (fun t k => XS.iload X28.here hx rfl (hb hby at_131) rfl  k) ?_
        show own_Fin p e below s Q 16 128 (T28.setTop (mkF m 133 #[.val (.int i0), .val (.int i1), .val (.int i2), .val (.int i3), .val (.int i4), .val (.int (f1_0 i0 i1)), .val (.int (f2_0 i0 i1)), .val (.int (f1_0 i2 i3)), .val (.int (f2_0 i2 i3)), .val (.ref b21), .val (.ref b23), .val (.int (f5_0 (f1_0 i0 i1) (f2_0 i0 i1) (f1_0 i2 i3) (f2_0 i2 i3))), .val (.int (f5_0 (f1_0 i2 i3) (f2_0 i2 i3) (f1_0 i0 i1) (f2_0 i0 i1))), .val (.int (1 : Int32)), .val (.int (0 : Int32))] [(.int (f5_0 (f1_0 i0 i1) (f2_0 i0 i1) (f1_0 i2 i3) (f2_0 i2 i3)))]))
        refine own_step (fun t k => XS.iload X28.here hx rfl (hb hby at_133) rfl  k) ?_
        show own_Fin p e below s Q 16 128 (T28.setTop (mkF m 135 #[.val (.int i0), .val (.int i1), .val (.int i2), .val (.int i3), .val (.int i4), .val (.int (f1_0 i0 i1)), .val (.int (f2_0 i0 i1)), .val (.int (f1_0 i2 i3)), .val (.int (f2_0 i2 i3)), .val (.ref b21), .val (.ref b23), .val (.int (f5_0 (f1_0 i0 i1) (f2_0 i0 i1) (f1_0 i2 i3) (f2_0 i2 i3))), .val (.int (f5_0 (f1_0 i2 i3) (f2_0 i2 i3) (f1_0 i0 i1) (f2_0 i0 i1))), .val (.int (1 : Int32)), .val (.int (0 : Int32))] [(.int (f5_0 (f1_0 i2 i3) (f2_0 i2 i3) (f1_0 i0 i1) (f2_0 i0 i1))), (.int (f5_0 (f1_0 i0 i1) (f2_0 i0 i1) (f1_0 i2 i3) (f2_0 i2 i3)))]))
        refine own_step (fun t k => XS.icmpYes X28.here hx rfl (pc0 := 135) (pc' := 140) rfl (hb hby at_135) rfl (teq (own_rr _ _ _ _)).1 (by decide) (by decide) k) ?_
        show own_Fin p e below s Q 16 128 (T28.setTop (mkF m 140 #[.val (.int i0), .val (.int i1), .val (.int i2), .val (.int i3), .val (.int i4), .val (.int (f1_0 i0 i1)), .val (.int (f2_0 i0 i1)), .val (.int (f1_0 i2 i3)), .val (.int (f2_0 i2 i3)), .val (.ref b21), .val (.ref b23), .val (.int (f5_0 (f1_0 i0 i1) (f2_0 i0 i1) (f1_0 i2 i3) (f2_0 i2 i3))), .val (.int (f5_0 (f1_0 i2 i3) (f2_0 i2 i3) (f1_0 i0 i1) (f2_0 i0 i1))), .val (.int (1 : Int32)), .val (.int (0 : Int32))] []))
        refine own_step (fun t k => XS.iload X28.here hx rfl (hb hby at_140) rfl  k) ?_
        show own_Fin p e below s Q 16 128 (T28.setTop (mkF m 142 #[.val (.int i0), .val (.int i1), .val (.int i2), .val (.int i3), .val (.int i4), .val (.int (f1_0 i0 i1)), .val (.int (f2_0 i0 i1)), .val (.int (f1_0 i2 i3)), .val (.int (f2_0 i2 i3)), .val (.ref b21), .val (.ref b23), .val (.int (f5_0 (f1_0 i0 i1) (f2_0 i0 i1) (f1_0 i2 i3) (f2_0 i2 i3))), .val (.int (f5_0 (f1_0 i2 i3) (f2_0 i2 i3) (f1_0 i0 i1) (f2_0 i0 i1))), .val (.int (1 : Int32)), .val (.int (0 : Int32))] [(.int (f5_0 (f1_0 i0 i1) (f2_0 i0 i1) (f1_0 i2 i3) (f2_0 i2 i3)))]))
        refine own_step (fun t k => XS.iload X28.here hx rfl (hb hby at_142) rfl  k) ?_
        show own_Fin p e below s Q 16 128 (T28.setTop (mkF m 144 #[.val (.int i0), .val (.int i1), .val (.int i2), .val (.int i3), .val (.int i4), .val (.int (f1_0 i0 i1)), .val (.int (f2_0 i0 i1)), .val (.int (f1_0 i2 i3)), .val (.int (f2_0 i2 i3)), .val (.ref b21), .val (.ref b23), .val (.int (f5_0 (f1_0 i0 i1) (f2_0 i0 i1) (f1_0 i2 i3) (f2_0 i2 i3))), .val (.int (f5_0 (f1_0 i2 i3) (f2_0 i2 i3) (f1_0 i0 i1) (f2_0 i0 i1))), .val (.int (1 : Int32)), .val (.int (0 : Int32))] [(.int (1 : Int32)), (.int (f5_0 (f1_0 i0 i1) (f2_0 i0 i1) (f1_0 i2 i3) (f2_0 i2 i3)))]))
        refine own_step (fun t k => XS.icmpYes X28.here hx rfl (pc0 := 144) (pc' := 149) rfl (hb hby at_144) rfl (teq ((own_com _ _ _ _).2 hB86_29)).1 (by decide) (by decide) k) ?_
        show own_Fin p e below s Q 16 128 (T28.setTop (mkF m 149 #[.val (.int i0), .val (.int i1), .val (.int i2), .val (.int i3), .val (.int i4), .val (.int (f1_0 i0 i1)), .val (.int (f2_0 i0 i1)), .val (.int (f1_0 i2 i3)), .val (.int (f2_0 i2 i3)), .val (.ref b21), .val (.ref b23), .val (.int (f5_0 (f1_0 i0 i1) (f2_0 i0 i1) (f1_0 i2 i3) (f2_0 i2 i3))), .val (.int (f5_0 (f1_0 i2 i3) (f2_0 i2 i3) (f1_0 i0 i1) (f2_0 i0 i1))), .val (.int (1 : Int32)), .val (.int (0 : Int32))] []))
        refine own_step (fun t k => XS.iload X28.here hx rfl (hb hby at_149) rfl  k) ?_
        show own_Fin p e below s Q 16 128 (T28.setTop (mkF m 151 #[.val (.int i0), .val (.int i1), .val (.int i2), .val (.int i3), .val (.int i4), .val (.int (f1_0 i0 i1)), .val (.int (f2_0 i0 i1)), .val (.int (f1_0 i2 i3)), .val (.int (f2_0 i2 i3)), .val (.ref b21), .val (.ref b23), .val (.int (f5_0 (f1_0 i0 i1) (f2_0 i0 i1) (f1_0 i2 i3) (f2_0 i2 i3))), .val (.int (f5_0 (f1_0 i2 i3) (f2_0 i2 i3) (f1_0 i0 i1) (f2_0 i0 i1))), .val (.int (1 : Int32)), .val (.int (0 : Int32))] [(.int (0 : Int32))]))
        refine own_step (fun t k => XS.ifYes X28.here hx rfl (pc0 := 151) (pc' := 161) rfl (hb hby at_151) rfl ((if0 _ _).trans (teq (by decide : (0 : Int32) = (0 : Int32))).1) (by decide) (by decide) k) ?_
        show own_Fin p e below s Q 16 128 (T28.setTop (mkF m 161 #[.val (.int i0), .val (.int i1), .val (.int i2), .val (.int i3), .val (.int i4), .val (.int (f1_0 i0 i1)), .val (.int (f2_0 i0 i1)), .val (.int (f1_0 i2 i3)), .val (.int (f2_0 i2 i3)), .val (.ref b21), .val (.ref b23), .val (.int (f5_0 (f1_0 i0 i1) (f2_0 i0 i1) (f1_0 i2 i3) (f2_0 i2 i3))), .val (.int (f5_0 (f1_0 i2 i3) (f2_0 i2 i3) (f1_0 i0 i1) (f2_0 i0 i1))), .val (.int (1 : Int32)), .val (.int (0 : Int32))] []))
        refine own_step (fun t k => XS.iconst X28.here hx rfl (hb hby at_161) k) ?_
        show own_Fin p e below s Q 16 128 (T28.setTop (mkF m 162 #[.val (.int i0), .val (.int i1), .val (.int i2), .val (.int i3), .val (.int i4), .val (.int (f1_0 i0 i1)), .val (.int (f2_0 i0 i1)), .val (.int (f1_0 i2 i3)), .val (.int (f2_0 i2 i3)), .val (.ref b21), .val (.ref b23), .val (.int (f5_0 (f1_0 i0 i1) (f2_0 i0 i1) (f1_0 i2 i3) (f2_0 i2 i3))), .val (.int (f5_0 (f1_0 i2 i3) (f2_0 i2 i3) (f1_0 i0 i1) (f2_0 i0 i1))), .val (.int (1 : Int32)), .val (.int (0 : Int32))] [(.int (1 : Int32))]))
        exact own_retN X28 hx hlk hret (by simp) (hb hby at_162) (by omega) (by omega) rfl N28 (fun L' n' => hQ _ L' n') (rfl)
      · refine own_step (fun t k => XS.icmpNo X28.here hx rfl (hb hby at_107) rfl (flt hB107_35).2.2.1 k) ?_
        show own_Fin p e below s Q 16 128 (T28.setTop (mkF m 110 #[.val (.int i0), .val (.int i1), .val (.int i2), .val (.int i3), .val (.int i4), .val (.int (f1_0 i0 i1)), .val (.int (f2_0 i0 i1)), .val (.int (f1_0 i2 i3)), .val (.int (f2_0 i2 i3)), .val (.ref b21), .val (.ref b23), .val (.int (f5_0 (f1_0 i0 i1) (f2_0 i0 i1) (f1_0 i2 i3) (f2_0 i2 i3))), .val (.int (f5_0 (f1_0 i2 i3) (f2_0 i2 i3) (f1_0 i0 i1) (f2_0 i0 i1))), .val (.int (1 : Int32)), .unset] []))
        refine own_step (fun t k => XS.iload X28.here hx rfl (hb hby at_110) rfl  k) ?_
        show own_Fin p e below s Q 16 128 (T28.setTop (mkF m 112 #[.val (.int i0), .val (.int i1), .val (.int i2), .val (.int i3), .val (.int i4), .val (.int (f1_0 i0 i1)), .val (.int (f2_0 i0 i1)), .val (.int (f1_0 i2 i3)), .val (.int (f2_0 i2 i3)), .val (.ref b21), .val (.ref b23), .val (.int (f5_0 (f1_0 i0 i1) (f2_0 i0 i1) (f1_0 i2 i3) (f2_0 i2 i3))), .val (.int (f5_0 (f1_0 i2 i3) (f2_0 i2 i3) (f1_0 i0 i1) (f2_0 i0 i1))), .val (.int (1 : Int32)), .unset] [(.int (f1_0 i2 i3))]))
        refine own_step (fun t k => XS.iload X28.here hx rfl (hb hby at_112) rfl  k) ?_
        show own_Fin p e below s Q 16 128 (T28.setTop (mkF m 114 #[.val (.int i0), .val (.int i1), .val (.int i2), .val (.int i3), .val (.int i4), .val (.int (f1_0 i0 i1)), .val (.int (f2_0 i0 i1)), .val (.int (f1_0 i2 i3)), .val (.int (f2_0 i2 i3)), .val (.ref b21), .val (.ref b23), .val (.int (f5_0 (f1_0 i0 i1) (f2_0 i0 i1) (f1_0 i2 i3) (f2_0 i2 i3))), .val (.int (f5_0 (f1_0 i2 i3) (f2_0 i2 i3) (f1_0 i0 i1) (f2_0 i0 i1))), .val (.int (1 : Int32)), .unset] [(.int i4), (.int (f1_0 i2 i3))]))
        by_cases hB114_36 : i4 < (f1_0 i2 i3)
        · refine own_step (fun t k => XS.icmpYes X28.here hx rfl (pc0 := 114) (pc' := 128) rfl (hb hby at_114) rfl (tlt hB114_36).2.2.1 (by decide) (by decide) k) ?_
          show own_Fin p e below s Q 16 128 (T28.setTop (mkF m 128 #[.val (.int i0), .val (.int i1), .val (.int i2), .val (.int i3), .val (.int i4), .val (.int (f1_0 i0 i1)), .val (.int (f2_0 i0 i1)), .val (.int (f1_0 i2 i3)), .val (.int (f2_0 i2 i3)), .val (.ref b21), .val (.ref b23), .val (.int (f5_0 (f1_0 i0 i1) (f2_0 i0 i1) (f1_0 i2 i3) (f2_0 i2 i3))), .val (.int (f5_0 (f1_0 i2 i3) (f2_0 i2 i3) (f1_0 i0 i1) (f2_0 i0 i1))), .val (.int (1 : Int32)), .unset] []))
          refine own_step (fun t k => XS.iconst X28.here hx rfl (hb hby at_128) k) ?_
          show own_Fin p e below s Q 16 128 (T28.setTop (mkF m 129 #[.val (.int i0), .val (.int i1), .val (.int i2), .val (.int i3), .val (.int i4), .val (.int (f1_0 i0 i1)), .val (.int (f2_0 i0 i1)), .val (.int (f1_0 i2 i3)), .val (.int (f2_0 i2 i3)), .val (.ref b21), .val (.ref b23), .val (.int (f5_0 (f1_0 i0 i1) (f2_0 i0 i1) (f1_0 i2 i3) (f2_0 i2 i3))), .val (.int (f5_0 (f1_0 i2 i3) (f2_0 i2 i3) (f1_0 i0 i1) (f2_0 i0 i1))), .val (.int (1 : Int32)), .unset] [(.int (0 : Int32))]))
          refine own_step (fun t k => XS.istore X28.here hx rfl (hb hby at_129) rfl (l' := #[.val (.int i0), .val (.int i1), .val (.int i2), .val (.int i3), .val (.int i4), .val (.int (f1_0 i0 i1)), .val (.int (f2_0 i0 i1)), .val (.int (f1_0 i2 i3)), .val (.int (f2_0 i2 i3)), .val (.ref b21), .val (.ref b23), .val (.int (f5_0 (f1_0 i0 i1) (f2_0 i0 i1) (f1_0 i2 i3) (f2_0 i2 i3))), .val (.int (f5_0 (f1_0 i2 i3) (f2_0 i2 i3) (f1_0 i0 i1) (f2_0 i0 i1))), .val (.int (1 : Int32)), .val (.int (0 : Int32))]) rfl k) ?_
          show own_Fin p e below s Q 16 128 (T28.setTop (mkF m 131 #[.val (.int i0), .val (.int i1), .val (.int i2), .val (.int i3), .val (.int i4), .val (.int (f1_0 i0 i1)), .val (.int (f2_0 i0 i1)), .val (.int (f1_0 i2 i3)), .val (.int (f2_0 i2 i3)), .val (.ref b21), .val (.ref b23), .val (.int (f5_0 (f1_0 i0 i1) (f2_0 i0 i1) (f1_0 i2 i3) (f2_0 i2 i3))), .val (.int (f5_0 (f1_0 i2 i3) (f2_0 i2 i3) (f1_0 i0 i1) (f2_0 i0 i1))), .val (.int (1 : Int32)), .val (.int (0 : Int32))] []))
          refine own_step (fun t k => XS.iload X28.here hx rfl (hb hby at_131) rfl  k) ?_
          show own_Fin p e below s Q 16 128 (T28.setTop (mkF m 133 #[.val (.int i0), .val (.int i1), .val (.int i2), .val (.int i3), .val (.int i4), .val (.int (f1_0 i0 i1)), .val (.int (f2_0 i0 i1)), .val (.int (f1_0 i2 i3)), .val (.int (f2_0 i2 i3)), .val (.ref b21), .val (.ref b23), .val (.int (f5_0 (f1_0 i0 i1) (f2_0 i0 i1) (f1_0 i2 i3) (f2_0 i2 i3))), .val (.int (f5_0 (f1_0 i2 i3) (f2_0 i2 i3) (f1_0 i0 i1) (f2_0 i0 i1))), .val (.int (1 : Int32)), .val (.int (0 : Int32))] [(.int (f5_0 (f1_0 i0 i1) (f2_0 i0 i1) (f1_0 i2 i3) (f2_0 i2 i3)))]))
          refine own_step (fun t k => XS.iload X28.here hx rfl (hb hby at_133) rfl  k) ?_
          show own_Fin p e below s Q 16 128 (T28.setTop (mkF m 135 #[.val (.int i0), .val (.int i1), .val (.int i2), .val (.int i3), .val (.int i4), .val (.int (f1_0 i0 i1)), .val (.int (f2_0 i0 i1)), .val (.int (f1_0 i2 i3)), .val (.int (f2_0 i2 i3)), .val (.ref b21), .val (.ref b23), .val (.int (f5_0 (f1_0 i0 i1) (f2_0 i0 i1) (f1_0 i2 i3) (f2_0 i2 i3))), .val (.int (f5_0 (f1_0 i2 i3) (f2_0 i2 i3) (f1_0 i0 i1) (f2_0 i0 i1))), .val (.int (1 : Int32)), .val (.int (0 : Int32))] [(.int (f5_0 (f1_0 i2 i3) (f2_0 i2 i3) (f1_0 i0 i1) (f2_0 i0 i1))), (.int (f5_0 (f1_0 i0 i1) (f2_0 i0 i1) (f1_0 i2 i3) (f2_0 i2 i3)))]))
          refine own_step (fun t k => XS.icmpYes X28.here hx rfl (pc0 := 135) (pc' := 140) rfl (hb hby at_135) rfl (teq (own_rr _ _ _ _)).1 (by decide) (by decide) k) ?_
          show own_Fin p e below s Q 16 128 (T28.setTop (mkF m 140 #[.val (.int i0), .val (.int i1), .val (.int i2), .val (.int i3), .val (.int i4), .val (.int (f1_0 i0 i1)), .val (.int (f2_0 i0 i1)), .val (.int (f1_0 i2 i3)), .val (.int (f2_0 i2 i3)), .val (.ref b21), .val (.ref b23), .val (.int (f5_0 (f1_0 i0 i1) (f2_0 i0 i1) (f1_0 i2 i3) (f2_0 i2 i3))), .val (.int (f5_0 (f1_0 i2 i3) (f2_0 i2 i3) (f1_0 i0 i1) (f2_0 i0 i1))), .val (.int (1 : Int32)), .val (.int (0 : Int32))] []))
          refine own_step (fun t k => XS.iload X28.here hx rfl (hb hby at_140) rfl  k) ?_
          show own_Fin p e below s Q 16 128 (T28.setTop (mkF m 142 #[.val (.int i0), .val (.int i1), .val (.int i2), .val (.int i3), .val (.int i4), .val (.int (f1_0 i0 i1)), .val (.int (f2_0 i0 i1)), .val (.int (f1_0 i2 i3)), .val (.int (f2_0 i2 i3)), .val (.ref b21), .val (.ref b23), .val (.int (f5_0 (f1_0 i0 i1) (f2_0 i0 i1) (f1_0 i2 i3) (f2_0 i2 i3))), .val (.int (f5_0 (f1_0 i2 i3) (f2_0 i2 i3) (f1_0 i0 i1) (f2_0 i0 i1))), .val (.int (1 : Int32)), .val (.int (0 : Int32))] [(.int (f5_0 (f1_0 i0 i1) (f2_0 i0 i1) (f1_0 i2 i3) (f2_0 i2 i3)))]))
          refine own_step (fun t k => XS.iload X28.here hx rfl (hb hby at_142) rfl  k) ?_
          show own_Fin p e below s Q 16 128 (T28.setTop (mkF m 144 #[.val (.int i0), .val (.int i1), .val (.int i2), .val (.int i3), .val (.int i4), .val (.int (f1_0 i0 i1)), .val (.int (f2_0 i0 i1)), .val (.int (f1_0 i2 i3)), .val (.int (f2_0 i2 i3)), .val (.ref b21), .val (.ref b23), .val (.int (f5_0 (f1_0 i0 i1) (f2_0 i0 i1) (f1_0 i2 i3) (f2_0 i2 i3))), .val (.int (f5_0 (f1_0 i2 i3) (f2_0 i2 i3) (f1_0 i0 i1) (f2_0 i0 i1))), .val (.int (1 : Int32)), .val (.int (0 : Int32))] [(.int (1 : Int32)), (.int (f5_0 (f1_0 i0 i1) (f2_0 i0 i1) (f1_0 i2 i3) (f2_0 i2 i3)))]))
          refine own_step (fun t k => XS.icmpYes X28.here hx rfl (pc0 := 144) (pc' := 149) rfl (hb hby at_144) rfl (teq ((own_com _ _ _ _).2 hB86_29)).1 (by decide) (by decide) k) ?_
          show own_Fin p e below s Q 16 128 (T28.setTop (mkF m 149 #[.val (.int i0), .val (.int i1), .val (.int i2), .val (.int i3), .val (.int i4), .val (.int (f1_0 i0 i1)), .val (.int (f2_0 i0 i1)), .val (.int (f1_0 i2 i3)), .val (.int (f2_0 i2 i3)), .val (.ref b21), .val (.ref b23), .val (.int (f5_0 (f1_0 i0 i1) (f2_0 i0 i1) (f1_0 i2 i3) (f2_0 i2 i3))), .val (.int (f5_0 (f1_0 i2 i3) (f2_0 i2 i3) (f1_0 i0 i1) (f2_0 i0 i1))), .val (.int (1 : Int32)), .val (.int (0 : Int32))] []))
          refine own_step (fun t k => XS.iload X28.here hx rfl (hb hby at_149) rfl  k) ?_
          show own_Fin p e below s Q 16 128 (T28.setTop (mkF m 151 #[.val (.int i0), .val (.int i1), .val (.int i2), .val (.int i3), .val (.int i4), .val (.int (f1_0 i0 i1)), .val (.int (f2_0 i0 i1)), .val (.int (f1_0 i2 i3)), .val (.int (f2_0 i2 i3)), .val (.ref b21), .val (.ref b23), .val (.int (f5_0 (f1_0 i0 i1) (f2_0 i0 i1) (f1_0 i2 i3) (f2_0 i2 i3))), .val (.int (f5_0 (f1_0 i2 i3) (f2_0 i2 i3) (f1_0 i0 i1) (f2_0 i0 i1))), .val (.int (1 : Int32)), .val (.int (0 : Int32))] [(.int (0 : Int32))]))
          refine own_step (fun t k => XS.ifYes X28.here hx rfl (pc0 := 151) (pc' := 161) rfl (hb hby at_151) rfl ((if0 _ _).trans (teq (by decide : (0 : Int32) = (0 : Int32))).1) (by decide) (by decide) k) ?_
          show own_Fin p e below s Q 16 128 (T28.setTop (mkF m 161 #[.val (.int i0), .val (.int i1), .val (.int i2), .val (.int i3), .val (.int i4), .val (.int (f1_0 i0 i1)), .val (.int (f2_0 i0 i1)), .val (.int (f1_0 i2 i3)), .val (.int (f2_0 i2 i3)), .val (.ref b21), .val (.ref b23), .val (.int (f5_0 (f1_0 i0 i1) (f2_0 i0 i1) (f1_0 i2 i3) (f2_0 i2 i3))), .val (.int (f5_0 (f1_0 i2 i3) (f2_0 i2 i3) (f1_0 i0 i1) (f2_0 i0 i1))), .val (.int (1 : Int32)), .val (.int (0 : Int32))] []))
          refine own_step (fun t k => XS.iconst X28.here hx rfl (hb hby at_161) k) ?_
          show own_Fin p e below s Q 16 128 (T28.setTop (mkF m 162 #[.val (.int i0), .val (.int i1), .val (.int i2), .val (.int i3), .val (.int i4), .val (.int (f1_0 i0 i1)), .val (.int (f2_0 i0 i1)), .val (.int (f1_0 i2 i3)), .val (.int (f2_0 i2 i3)), .val (.ref b21), .val (.ref b23), .val (.int (f5_0 (f1_0 i0 i1) (f2_0 i0 i1) (f1_0 i2 i3) (f2_0 i2 i3))), .val (.int (f5_0 (f1_0 i2 i3) (f2_0 i2 i3) (f1_0 i0 i1) (f2_0 i0 i1))), .val (.int (1 : Int32)), .val (.int (0 : Int32))] [(.int (1 : Int32))]))
          exact own_retN X28 hx hlk hret (by simp) (hb hby at_162) (by omega) (by omega) rfl N28 (fun L' n' => hQ _ L' n') (rfl)
        · refine own_step (fun t k => XS.icmpNo X28.here hx rfl (hb hby at_114) rfl (flt hB114_36).2.2.1 k) ?_
          show own_Fin p e below s Q 16 128 (T28.setTop (mkF m 117 #[.val (.int i0), .val (.int i1), .val (.int i2), .val (.int i3), .val (.int i4), .val (.int (f1_0 i0 i1)), .val (.int (f2_0 i0 i1)), .val (.int (f1_0 i2 i3)), .val (.int (f2_0 i2 i3)), .val (.ref b21), .val (.ref b23), .val (.int (f5_0 (f1_0 i0 i1) (f2_0 i0 i1) (f1_0 i2 i3) (f2_0 i2 i3))), .val (.int (f5_0 (f1_0 i2 i3) (f2_0 i2 i3) (f1_0 i0 i1) (f2_0 i0 i1))), .val (.int (1 : Int32)), .unset] []))
          refine own_step (fun t k => XS.iload X28.here hx rfl (hb hby at_117) rfl  k) ?_
          show own_Fin p e below s Q 16 128 (T28.setTop (mkF m 119 #[.val (.int i0), .val (.int i1), .val (.int i2), .val (.int i3), .val (.int i4), .val (.int (f1_0 i0 i1)), .val (.int (f2_0 i0 i1)), .val (.int (f1_0 i2 i3)), .val (.int (f2_0 i2 i3)), .val (.ref b21), .val (.ref b23), .val (.int (f5_0 (f1_0 i0 i1) (f2_0 i0 i1) (f1_0 i2 i3) (f2_0 i2 i3))), .val (.int (f5_0 (f1_0 i2 i3) (f2_0 i2 i3) (f1_0 i0 i1) (f2_0 i0 i1))), .val (.int (1 : Int32)), .unset] [(.int i4)]))
          refine own_step (fun t k => XS.iload X28.here hx rfl (hb hby at_119) rfl  k) ?_
          show own_Fin p e below s Q 16 128 (T28.setTop (mkF m 121 #[.val (.int i0), .val (.int i1), .val (.int i2), .val (.int i3), .val (.int i4), .val (.int (f1_0 i0 i1)), .val (.int (f2_0 i0 i1)), .val (.int (f1_0 i2 i3)), .val (.int (f2_0 i2 i3)), .val (.ref b21), .val (.ref b23), .val (.int (f5_0 (f1_0 i0 i1) (f2_0 i0 i1) (f1_0 i2 i3) (f2_0 i2 i3))), .val (.int (f5_0 (f1_0 i2 i3) (f2_0 i2 i3) (f1_0 i0 i1) (f2_0 i0 i1))), .val (.int (1 : Int32)), .unset] [(.int (f2_0 i2 i3)), (.int i4)]))
          by_cases hB121_37 : (f2_0 i2 i3) < i4
          · refine own_step (fun t k => XS.icmpYes X28.here hx rfl (pc0 := 121) (pc' := 128) rfl (hb hby at_121) rfl (tlt hB121_37).2.2.1 (by decide) (by decide) k) ?_
            show own_Fin p e below s Q 16 128 (T28.setTop (mkF m 128 #[.val (.int i0), .val (.int i1), .val (.int i2), .val (.int i3), .val (.int i4), .val (.int (f1_0 i0 i1)), .val (.int (f2_0 i0 i1)), .val (.int (f1_0 i2 i3)), .val (.int (f2_0 i2 i3)), .val (.ref b21), .val (.ref b23), .val (.int (f5_0 (f1_0 i0 i1) (f2_0 i0 i1) (f1_0 i2 i3) (f2_0 i2 i3))), .val (.int (f5_0 (f1_0 i2 i3) (f2_0 i2 i3) (f1_0 i0 i1) (f2_0 i0 i1))), .val (.int (1 : Int32)), .unset] []))
            refine own_step (fun t k => XS.iconst X28.here hx rfl (hb hby at_128) k) ?_
            show own_Fin p e below s Q 16 128 (T28.setTop (mkF m 129 #[.val (.int i0), .val (.int i1), .val (.int i2), .val (.int i3), .val (.int i4), .val (.int (f1_0 i0 i1)), .val (.int (f2_0 i0 i1)), .val (.int (f1_0 i2 i3)), .val (.int (f2_0 i2 i3)), .val (.ref b21), .val (.ref b23), .val (.int (f5_0 (f1_0 i0 i1) (f2_0 i0 i1) (f1_0 i2 i3) (f2_0 i2 i3))), .val (.int (f5_0 (f1_0 i2 i3) (f2_0 i2 i3) (f1_0 i0 i1) (f2_0 i0 i1))), .val (.int (1 : Int32)), .unset] [(.int (0 : Int32))]))
            refine own_step (fun t k => XS.istore X28.here hx rfl (hb hby at_129) rfl (l' := #[.val (.int i0), .val (.int i1), .val (.int i2), .val (.int i3), .val (.int i4), .val (.int (f1_0 i0 i1)), .val (.int (f2_0 i0 i1)), .val (.int (f1_0 i2 i3)), .val (.int (f2_0 i2 i3)), .val (.ref b21), .val (.ref b23), .val (.int (f5_0 (f1_0 i0 i1) (f2_0 i0 i1) (f1_0 i2 i3) (f2_0 i2 i3))), .val (.int (f5_0 (f1_0 i2 i3) (f2_0 i2 i3) (f1_0 i0 i1) (f2_0 i0 i1))), .val (.int (1 : Int32)), .val (.int (0 : Int32))]) rfl k) ?_
            show own_Fin p e below s Q 16 128 (T28.setTop (mkF m 131 #[.val (.int i0), .val (.int i1), .val (.int i2), .val (.int i3), .val (.int i4), .val (.int (f1_0 i0 i1)), .val (.int (f2_0 i0 i1)), .val (.int (f1_0 i2 i3)), .val (.int (f2_0 i2 i3)), .val (.ref b21), .val (.ref b23), .val (.int (f5_0 (f1_0 i0 i1) (f2_0 i0 i1) (f1_0 i2 i3) (f2_0 i2 i3))), .val (.int (f5_0 (f1_0 i2 i3) (f2_0 i2 i3) (f1_0 i0 i1) (f2_0 i0 i1))), .val (.int (1 : Int32)), .val (.int (0 : Int32))] []))
            refine own_step (fun t k => XS.iload X28.here hx rfl (hb hby at_131) rfl  k) ?_
            show own_Fin p e below s Q 16 128 (T28.setTop (mkF m 133 #[.val (.int i0), .val (.int i1), .val (.int i2), .val (.int i3), .val (.int i4), .val (.int (f1_0 i0 i1)), .val (.int (f2_0 i0 i1)), .val (.int (f1_0 i2 i3)), .val (.int (f2_0 i2 i3)), .val (.ref b21), .val (.ref b23), .val (.int (f5_0 (f1_0 i0 i1) (f2_0 i0 i1) (f1_0 i2 i3) (f2_0 i2 i3))), .val (.int (f5_0 (f1_0 i2 i3) (f2_0 i2 i3) (f1_0 i0 i1) (f2_0 i0 i1))), .val (.int (1 : Int32)), .val (.int (0 : Int32))] [(.int (f5_0 (f1_0 i0 i1) (f2_0 i0 i1) (f1_0 i2 i3) (f2_0 i2 i3)))]))
            refine own_step (fun t k => XS.iload X28.here hx rfl (hb hby at_133) rfl  k) ?_
            show own_Fin p e below s Q 16 128 (T28.setTop (mkF m 135 #[.val (.int i0), .val (.int i1), .val (.int i2), .val (.int i3), .val (.int i4), .val (.int (f1_0 i0 i1)), .val (.int (f2_0 i0 i1)), .val (.int (f1_0 i2 i3)), .val (.int (f2_0 i2 i3)), .val (.ref b21), .val (.ref b23), .val (.int (f5_0 (f1_0 i0 i1) (f2_0 i0 i1) (f1_0 i2 i3) (f2_0 i2 i3))), .val (.int (f5_0 (f1_0 i2 i3) (f2_0 i2 i3) (f1_0 i0 i1) (f2_0 i0 i1))), .val (.int (1 : Int32)), .val (.int (0 : Int32))] [(.int (f5_0 (f1_0 i2 i3) (f2_0 i2 i3) (f1_0 i0 i1) (f2_0 i0 i1))), (.int (f5_0 (f1_0 i0 i1) (f2_0 i0 i1) (f1_0 i2 i3) (f2_0 i2 i3)))]))
            refine own_step (fun t k => XS.icmpYes X28.here hx rfl (pc0 := 135) (pc' := 140) rfl (hb hby at_135) rfl (teq (own_rr _ _ _ _)).1 (by decide) (by decide) k) ?_
            show own_Fin p e below s Q 16 128 (T28.setTop (mkF m 140 #[.val (.int i0), .val (.int i1), .val (.int i2), .val (.int i3), .val (.int i4), .val (.int (f1_0 i0 i1)), .val (.int (f2_0 i0 i1)), .val (.int (f1_0 i2 i3)), .val (.int (f2_0 i2 i3)), .val (.ref b21), .val (.ref b23), .val (.int (f5_0 (f1_0 i0 i1) (f2_0 i0 i1) (f1_0 i2 i3) (f2_0 i2 i3))), .val (.int (f5_0 (f1_0 i2 i3) (f2_0 i2 i3) (f1_0 i0 i1) (f2_0 i0 i1))), .val (.int (1 : Int32)), .val (.int (0 : Int32))] []))
            refine own_step (fun t k => XS.iload X28.here hx rfl (hb hby at_140) rfl  k) ?_
            show own_Fin p e below s Q 16 128 (T28.setTop (mkF m 142 #[.val (.int i0), .val (.int i1), .val (.int i2), .val (.int i3), .val (.int i4), .val (.int (f1_0 i0 i1)), .val (.int (f2_0 i0 i1)), .val (.int (f1_0 i2 i3)), .val (.int (f2_0 i2 i3)), .val (.ref b21), .val (.ref b23), .val (.int (f5_0 (f1_0 i0 i1) (f2_0 i0 i1) (f1_0 i2 i3) (f2_0 i2 i3))), .val (.int (f5_0 (f1_0 i2 i3) (f2_0 i2 i3) (f1_0 i0 i1) (f2_0 i0 i1))), .val (.int (1 : Int32)), .val (.int (0 : Int32))] [(.int (f5_0 (f1_0 i0 i1) (f2_0 i0 i1) (f1_0 i2 i3) (f2_0 i2 i3)))]))
            refine own_step (fun t k => XS.iload X28.here hx rfl (hb hby at_142) rfl  k) ?_
            show own_Fin p e below s Q 16 128 (T28.setTop (mkF m 144 #[.val (.int i0), .val (.int i1), .val (.int i2), .val (.int i3), .val (.int i4), .val (.int (f1_0 i0 i1)), .val (.int (f2_0 i0 i1)), .val (.int (f1_0 i2 i3)), .val (.int (f2_0 i2 i3)), .val (.ref b21), .val (.ref b23), .val (.int (f5_0 (f1_0 i0 i1) (f2_0 i0 i1) (f1_0 i2 i3) (f2_0 i2 i3))), .val (.int (f5_0 (f1_0 i2 i3) (f2_0 i2 i3) (f1_0 i0 i1) (f2_0 i0 i1))), .val (.int (1 : Int32)), .val (.int (0 : Int32))] [(.int (1 : Int32)), (.int (f5_0 (f1_0 i0 i1) (f2_0 i0 i1) (f1_0 i2 i3) (f2_0 i2 i3)))]))
            refine own_step (fun t k => XS.icmpYes X28.here hx rfl (pc0 := 144) (pc' := 149) rfl (hb hby at_144) rfl (teq ((own_com _ _ _ _).2 hB86_29)).1 (by decide) (by decide) k) ?_
            show own_Fin p e below s Q 16 128 (T28.setTop (mkF m 149 #[.val (.int i0), .val (.int i1), .val (.int i2), .val (.int i3), .val (.int i4), .val (.int (f1_0 i0 i1)), .val (.int (f2_0 i0 i1)), .val (.int (f1_0 i2 i3)), .val (.int (f2_0 i2 i3)), .val (.ref b21), .val (.ref b23), .val (.int (f5_0 (f1_0 i0 i1) (f2_0 i0 i1) (f1_0 i2 i3) (f2_0 i2 i3))), .val (.int (f5_0 (f1_0 i2 i3) (f2_0 i2 i3) (f1_0 i0 i1) (f2_0 i0 i1))), .val (.int (1 : Int32)), .val (.int (0 : Int32))] []))
            refine own_step (fun t k => XS.iload X28.here hx rfl (hb hby at_149) rfl  k) ?_
            show own_Fin p e below s Q 16 128 (T28.setTop (mkF m 151 #[.val (.int i0), .val (.int i1), .val (.int i2), .val (.int i3), .val (.int i4), .val (.int (f1_0 i0 i1)), .val (.int (f2_0 i0 i1)), .val (.int (f1_0 i2 i3)), .val (.int (f2_0 i2 i3)), .val (.ref b21), .val (.ref b23), .val (.int (f5_0 (f1_0 i0 i1) (f2_0 i0 i1) (f1_0 i2 i3) (f2_0 i2 i3))), .val (.int (f5_0 (f1_0 i2 i3) (f2_0 i2 i3) (f1_0 i0 i1) (f2_0 i0 i1))), .val (.int (1 : Int32)), .val (.int (0 : Int32))] [(.int (0 : Int32))]))
            refine own_step (fun t k => XS.ifYes X28.here hx rfl (pc0 := 151) (pc' := 161) rfl (hb hby at_151) rfl ((if0 _ _).trans (teq (by decide : (0 : Int32) = (0 : Int32))).1) (by decide) (by decide) k) ?_
            show own_Fin p e below s Q 16 128 (T28.setTop (mkF m 161 #[.val (.int i0), .val (.int i1), .val (.int i2), .val (.int i3), .val (.int i4), .val (.int (f1_0 i0 i1)), .val (.int (f2_0 i0 i1)), .val (.int (f1_0 i2 i3)), .val (.int (f2_0 i2 i3)), .val (.ref b21), .val (.ref b23), .val (.int (f5_0 (f1_0 i0 i1) (f2_0 i0 i1) (f1_0 i2 i3) (f2_0 i2 i3))), .val (.int (f5_0 (f1_0 i2 i3) (f2_0 i2 i3) (f1_0 i0 i1) (f2_0 i0 i1))), .val (.int (1 : Int32)), .val (.int (0 : Int32))] []))
            refine own_step (fun t k => XS.iconst X28.here hx rfl (hb hby at_161) k) ?_
            show own_Fin p e below s Q 16 128 (T28.setTop (mkF m 162 #[.val (.int i0), .val (.int i1), .val (.int i2), .val (.int i3), .val (.int i4), .val (.int (f1_0 i0 i1)), .val (.int (f2_0 i0 i1)), .val (.int (f1_0 i2 i3)), .val (.int (f2_0 i2 i3)), .val (.ref b21), .val (.ref b23), .val (.int (f5_0 (f1_0 i0 i1) (f2_0 i0 i1) (f1_0 i2 i3) (f2_0 i2 i3))), .val (.int (f5_0 (f1_0 i2 i3) (f2_0 i2 i3) (f1_0 i0 i1) (f2_0 i0 i1))), .val (.int (1 : Int32)), .val (.int (0 : Int32))] [(.int (1 : Int32))]))
            exact own_retN X28 hx hlk hret (by simp) (hb hby at_162) (by omega) (by omega) rfl N28 (fun L' n' => hQ _ L' n') (rfl)
          · refine own_step (fun t k => XS.icmpNo X28.here hx rfl (hb hby at_121) rfl (flt hB121_37).2.2.1 k) ?_
            show own_Fin p e below s Q 16 128 (T28.setTop (mkF m 124 #[.val (.int i0), .val (.int i1), .val (.int i2), .val (.int i3), .val (.int i4), .val (.int (f1_0 i0 i1)), .val (.int (f2_0 i0 i1)), .val (.int (f1_0 i2 i3)), .val (.int (f2_0 i2 i3)), .val (.ref b21), .val (.ref b23), .val (.int (f5_0 (f1_0 i0 i1) (f2_0 i0 i1) (f1_0 i2 i3) (f2_0 i2 i3))), .val (.int (f5_0 (f1_0 i2 i3) (f2_0 i2 i3) (f1_0 i0 i1) (f2_0 i0 i1))), .val (.int (1 : Int32)), .unset] []))
            refine own_step (fun t k => XS.iconst X28.here hx rfl (hb hby at_124) k) ?_
            show own_Fin p e below s Q 16 128 (T28.setTop (mkF m 125 #[.val (.int i0), .val (.int i1), .val (.int i2), .val (.int i3), .val (.int i4), .val (.int (f1_0 i0 i1)), .val (.int (f2_0 i0 i1)), .val (.int (f1_0 i2 i3)), .val (.int (f2_0 i2 i3)), .val (.ref b21), .val (.ref b23), .val (.int (f5_0 (f1_0 i0 i1) (f2_0 i0 i1) (f1_0 i2 i3) (f2_0 i2 i3))), .val (.int (f5_0 (f1_0 i2 i3) (f2_0 i2 i3) (f1_0 i0 i1) (f2_0 i0 i1))), .val (.int (1 : Int32)), .unset] [(.int (1 : Int32))]))
            refine own_step (fun t k => XS.goto X28.here hx rfl (pc0 := 125) (pc' := 129) rfl (hb hby at_125) (by decide) (by decide) k) ?_
            show own_Fin p e below s Q 16 128 (T28.setTop (mkF m 129 #[.val (.int i0), .val (.int i1), .val (.int i2), .val (.int i3), .val (.int i4), .val (.int (f1_0 i0 i1)), .val (.int (f2_0 i0 i1)), .val (.int (f1_0 i2 i3)), .val (.int (f2_0 i2 i3)), .val (.ref b21), .val (.ref b23), .val (.int (f5_0 (f1_0 i0 i1) (f2_0 i0 i1) (f1_0 i2 i3) (f2_0 i2 i3))), .val (.int (f5_0 (f1_0 i2 i3) (f2_0 i2 i3) (f1_0 i0 i1) (f2_0 i0 i1))), .val (.int (1 : Int32)), .unset] [(.int (1 : Int32))]))
            refine own_step (fun t k => XS.istore X28.here hx rfl (hb hby at_129) rfl (l' := #[.val (.int i0), .val (.int i1), .val (.int i2), .val (.int i3), .val (.int i4), .val (.int (f1_0 i0 i1)), .val (.int (f2_0 i0 i1)), .val (.int (f1_0 i2 i3)), .val (.int (f2_0 i2 i3)), .val (.ref b21), .val (.ref b23), .val (.int (f5_0 (f1_0 i0 i1) (f2_0 i0 i1) (f1_0 i2 i3) (f2_0 i2 i3))), .val (.int (f5_0 (f1_0 i2 i3) (f2_0 i2 i3) (f1_0 i0 i1) (f2_0 i0 i1))), .val (.int (1 : Int32)), .val (.int (1 : Int32))]) rfl k) ?_
            show own_Fin p e below s Q 16 128 (T28.setTop (mkF m 131 #[.val (.int i0), .val (.int i1), .val (.int i2), .val (.int i3), .val (.int i4), .val (.int (f1_0 i0 i1)), .val (.int (f2_0 i0 i1)), .val (.int (f1_0 i2 i3)), .val (.int (f2_0 i2 i3)), .val (.ref b21), .val (.ref b23), .val (.int (f5_0 (f1_0 i0 i1) (f2_0 i0 i1) (f1_0 i2 i3) (f2_0 i2 i3))), .val (.int (f5_0 (f1_0 i2 i3) (f2_0 i2 i3) (f1_0 i0 i1) (f2_0 i0 i1))), .val (.int (1 : Int32)), .val (.int (1 : Int32))] []))
            refine own_step (fun t k => XS.iload X28.here hx rfl (hb hby at_131) rfl  k) ?_
            show own_Fin p e below s Q 16 128 (T28.setTop (mkF m 133 #[.val (.int i0), .val (.int i1), .val (.int i2), .val (.int i3), .val (.int i4), .val (.int (f1_0 i0 i1)), .val (.int (f2_0 i0 i1)), .val (.int (f1_0 i2 i3)), .val (.int (f2_0 i2 i3)), .val (.ref b21), .val (.ref b23), .val (.int (f5_0 (f1_0 i0 i1) (f2_0 i0 i1) (f1_0 i2 i3) (f2_0 i2 i3))), .val (.int (f5_0 (f1_0 i2 i3) (f2_0 i2 i3) (f1_0 i0 i1) (f2_0 i0 i1))), .val (.int (1 : Int32)), .val (.int (1 : Int32))] [(.int (f5_0 (f1_0 i0 i1) (f2_0 i0 i1) (f1_0 i2 i3) (f2_0 i2 i3)))]))
            refine own_step (fun t k => XS.iload X28.here hx rfl (hb hby at_133) rfl  k) ?_
            show own_Fin p e below s Q 16 128 (T28.setTop (mkF m 135 #[.val (.int i0), .val (.int i1), .val (.int i2), .val (.int i3), .val (.int i4), .val (.int (f1_0 i0 i1)), .val (.int (f2_0 i0 i1)), .val (.int (f1_0 i2 i3)), .val (.int (f2_0 i2 i3)), .val (.ref b21), .val (.ref b23), .val (.int (f5_0 (f1_0 i0 i1) (f2_0 i0 i1) (f1_0 i2 i3) (f2_0 i2 i3))), .val (.int (f5_0 (f1_0 i2 i3) (f2_0 i2 i3) (f1_0 i0 i1) (f2_0 i0 i1))), .val (.int (1 : Int32)), .val (.int (1 : Int32))] [(.int (f5_0 (f1_0 i2 i3) (f2_0 i2 i3) (f1_0 i0 i1) (f2_0 i0 i1))), (.int (f5_0 (f1_0 i0 i1) (f2_0 i0 i1) (f1_0 i2 i3) (f2_0 i2 i3)))]))
            refine own_step (fun t k => XS.icmpYes X28.here hx rfl (pc0 := 135) (pc' := 140) rfl (hb hby at_135) rfl (teq (own_rr _ _ _ _)).1 (by decide) (by decide) k) ?_
            show own_Fin p e below s Q 16 128 (T28.setTop (mkF m 140 #[.val (.int i0), .val (.int i1), .val (.int i2), .val (.int i3), .val (.int i4), .val (.int (f1_0 i0 i1)), .val (.int (f2_0 i0 i1)), .val (.int (f1_0 i2 i3)), .val (.int (f2_0 i2 i3)), .val (.ref b21), .val (.ref b23), .val (.int (f5_0 (f1_0 i0 i1) (f2_0 i0 i1) (f1_0 i2 i3) (f2_0 i2 i3))), .val (.int (f5_0 (f1_0 i2 i3) (f2_0 i2 i3) (f1_0 i0 i1) (f2_0 i0 i1))), .val (.int (1 : Int32)), .val (.int (1 : Int32))] []))
            refine own_step (fun t k => XS.iload X28.here hx rfl (hb hby at_140) rfl  k) ?_
            show own_Fin p e below s Q 16 128 (T28.setTop (mkF m 142 #[.val (.int i0), .val (.int i1), .val (.int i2), .val (.int i3), .val (.int i4), .val (.int (f1_0 i0 i1)), .val (.int (f2_0 i0 i1)), .val (.int (f1_0 i2 i3)), .val (.int (f2_0 i2 i3)), .val (.ref b21), .val (.ref b23), .val (.int (f5_0 (f1_0 i0 i1) (f2_0 i0 i1) (f1_0 i2 i3) (f2_0 i2 i3))), .val (.int (f5_0 (f1_0 i2 i3) (f2_0 i2 i3) (f1_0 i0 i1) (f2_0 i0 i1))), .val (.int (1 : Int32)), .val (.int (1 : Int32))] [(.int (f5_0 (f1_0 i0 i1) (f2_0 i0 i1) (f1_0 i2 i3) (f2_0 i2 i3)))]))
            refine own_step (fun t k => XS.iload X28.here hx rfl (hb hby at_142) rfl  k) ?_
            show own_Fin p e below s Q 16 128 (T28.setTop (mkF m 144 #[.val (.int i0), .val (.int i1), .val (.int i2), .val (.int i3), .val (.int i4), .val (.int (f1_0 i0 i1)), .val (.int (f2_0 i0 i1)), .val (.int (f1_0 i2 i3)), .val (.int (f2_0 i2 i3)), .val (.ref b21), .val (.ref b23), .val (.int (f5_0 (f1_0 i0 i1) (f2_0 i0 i1) (f1_0 i2 i3) (f2_0 i2 i3))), .val (.int (f5_0 (f1_0 i2 i3) (f2_0 i2 i3) (f1_0 i0 i1) (f2_0 i0 i1))), .val (.int (1 : Int32)), .val (.int (1 : Int32))] [(.int (1 : Int32)), (.int (f5_0 (f1_0 i0 i1) (f2_0 i0 i1) (f1_0 i2 i3) (f2_0 i2 i3)))]))
            refine own_step (fun t k => XS.icmpYes X28.here hx rfl (pc0 := 144) (pc' := 149) rfl (hb hby at_144) rfl (teq ((own_com _ _ _ _).2 hB86_29)).1 (by decide) (by decide) k) ?_
            show own_Fin p e below s Q 16 128 (T28.setTop (mkF m 149 #[.val (.int i0), .val (.int i1), .val (.int i2), .val (.int i3), .val (.int i4), .val (.int (f1_0 i0 i1)), .val (.int (f2_0 i0 i1)), .val (.int (f1_0 i2 i3)), .val (.int (f2_0 i2 i3)), .val (.ref b21), .val (.ref b23), .val (.int (f5_0 (f1_0 i0 i1) (f2_0 i0 i1) (f1_0 i2 i3) (f2_0 i2 i3))), .val (.int (f5_0 (f1_0 i2 i3) (f2_0 i2 i3) (f1_0 i0 i1) (f2_0 i0 i1))), .val (.int (1 : Int32)), .val (.int (1 : Int32))] []))
            refine own_step (fun t k => XS.iload X28.here hx rfl (hb hby at_149) rfl  k) ?_
            show own_Fin p e below s Q 16 128 (T28.setTop (mkF m 151 #[.val (.int i0), .val (.int i1), .val (.int i2), .val (.int i3), .val (.int i4), .val (.int (f1_0 i0 i1)), .val (.int (f2_0 i0 i1)), .val (.int (f1_0 i2 i3)), .val (.int (f2_0 i2 i3)), .val (.ref b21), .val (.ref b23), .val (.int (f5_0 (f1_0 i0 i1) (f2_0 i0 i1) (f1_0 i2 i3) (f2_0 i2 i3))), .val (.int (f5_0 (f1_0 i2 i3) (f2_0 i2 i3) (f1_0 i0 i1) (f2_0 i0 i1))), .val (.int (1 : Int32)), .val (.int (1 : Int32))] [(.int (1 : Int32))]))
            refine own_step (fun t k => XS.ifNo X28.here hx rfl (hb hby at_151) rfl ((if0 _ _).trans (feq (by decide : ¬ ((1 : Int32) = (0 : Int32)))).1) k) ?_
            show own_Fin p e below s Q 16 128 (T28.setTop (mkF m 154 #[.val (.int i0), .val (.int i1), .val (.int i2), .val (.int i3), .val (.int i4), .val (.int (f1_0 i0 i1)), .val (.int (f2_0 i0 i1)), .val (.int (f1_0 i2 i3)), .val (.int (f2_0 i2 i3)), .val (.ref b21), .val (.ref b23), .val (.int (f5_0 (f1_0 i0 i1) (f2_0 i0 i1) (f1_0 i2 i3) (f2_0 i2 i3))), .val (.int (f5_0 (f1_0 i2 i3) (f2_0 i2 i3) (f1_0 i0 i1) (f2_0 i0 i1))), .val (.int (1 : Int32)), .val (.int (1 : Int32))] []))
            refine own_step (fun t k => XS.iload X28.here hx rfl (hb hby at_154) rfl  k) ?_
            show own_Fin p e below s Q 16 128 (T28.setTop (mkF m 156 #[.val (.int i0), .val (.int i1), .val (.int i2), .val (.int i3), .val (.int i4), .val (.int (f1_0 i0 i1)), .val (.int (f2_0 i0 i1)), .val (.int (f1_0 i2 i3)), .val (.int (f2_0 i2 i3)), .val (.ref b21), .val (.ref b23), .val (.int (f5_0 (f1_0 i0 i1) (f2_0 i0 i1) (f1_0 i2 i3) (f2_0 i2 i3))), .val (.int (f5_0 (f1_0 i2 i3) (f2_0 i2 i3) (f1_0 i0 i1) (f2_0 i0 i1))), .val (.int (1 : Int32)), .val (.int (1 : Int32))] [(.int (f5_0 (f1_0 i0 i1) (f2_0 i0 i1) (f1_0 i2 i3) (f2_0 i2 i3)))]))
            refine own_step (fun t k => XS.ifYes X28.here hx rfl (pc0 := 156) (pc' := 161) rfl (hb hby at_156) rfl ((if0 _ _).trans (feq (own_in hB100_34 hB107_35 hB114_36 hB121_37)).2) (by decide) (by decide) k) ?_
            show own_Fin p e below s Q 16 128 (T28.setTop (mkF m 161 #[.val (.int i0), .val (.int i1), .val (.int i2), .val (.int i3), .val (.int i4), .val (.int (f1_0 i0 i1)), .val (.int (f2_0 i0 i1)), .val (.int (f1_0 i2 i3)), .val (.int (f2_0 i2 i3)), .val (.ref b21), .val (.ref b23), .val (.int (f5_0 (f1_0 i0 i1) (f2_0 i0 i1) (f1_0 i2 i3) (f2_0 i2 i3))), .val (.int (f5_0 (f1_0 i2 i3) (f2_0 i2 i3) (f1_0 i0 i1) (f2_0 i0 i1))), .val (.int (1 : Int32)), .val (.int (1 : Int32))] []))
            refine own_step (fun t k => XS.iconst X28.here hx rfl (hb hby at_161) k) ?_
            show own_Fin p e below s Q 16 128 (T28.setTop (mkF m 162 #[.val (.int i0), .val (.int i1), .val (.int i2), .val (.int i3), .val (.int i4), .val (.int (f1_0 i0 i1)), .val (.int (f2_0 i0 i1)), .val (.int (f1_0 i2 i3)), .val (.int (f2_0 i2 i3)), .val (.ref b21), .val (.ref b23), .val (.int (f5_0 (f1_0 i0 i1) (f2_0 i0 i1) (f1_0 i2 i3) (f2_0 i2 i3))), .val (.int (f5_0 (f1_0 i2 i3) (f2_0 i2 i3) (f1_0 i0 i1) (f2_0 i0 i1))), .val (.int (1 : Int32)), .val (.int (1 : Int32))] [(.int (1 : Int32))]))
            exact own_retN X28 hx hlk hret (by simp) (hb hby at_162) (by omega) (by omega) rfl N28 (fun L' n' => hQ _ L' n') (rfl)
theorem pnm_1 : plainName "com/example/endorse/endorse/SdkRangeOverlapsPinLaw" = true := by first | (simp [plainName, overriddenIn]; done) | decide +kernel
theorem pdm_3 : parseMethodDescriptor "(IIIII)Z" = some ⟨[.int, .int, .int, .int, .int], some .boolean⟩ := by decide +kernel
theorem ef_0 (m : MethodId) (i0 : Int32) (i1 : Int32) (i2 : Int32) (i3 : Int32) (i4 : Int32) : entryFrame m #[(.int i0), (.int i1), (.int i2), (.int i3), (.int i4)] maxLocals = (mkF m 0 #[.val (.int i0), .val (.int i1), .val (.int i2), .val (.int i3), .val (.int i4), .unset, .unset, .unset, .unset, .unset, .unset, .unset, .unset, .unset, .unset] []) := by first | (simp [entryFrame, mkF, argsToLocals, Value.category, maxLocals]; done) | rfl
def Q0 (i0 : Int32) (i1 : Int32) (i2 : Int32) (i3 : Int32) (i4 : Int32) (h0 : Heap) (n0 : Nat) (v : Option Value) (h : Heap) (L : List Loc) : Prop := v = some (.int 1) ∧ Fr n0 L
set_option maxRecDepth 65536 in
set_option maxHeartbeats 4000000 in
theorem rm0 (l : Launch) (Z : State) (a0 : Array Value) (hw : ∀ d ∈ tables_1, d.before a0 Z = true) (ws : List Jvm.Cond) (i0 : Int32) (i1 : Int32) (i2 : Int32) (i3 : Int32) (i4 : Int32) (h0 : Heap) (n0 : Nat) (Z0 : n0 ≤ h0.size) :
    MetFree l x (head1 (Jvm.Cond.code x code maxLocals ret :: ws) room_1) (fun a U => a = #[(.int i0), (.int i1), (.int i2), (.int i3), (.int i4)] ∧ Z.Warmed39 U.vm ∧ U.heap = h0) (fun _ _ _ _ _ => True) (fun _ U o U' => ∃ v L, o = .returned v ∧ Q0 i0 i1 i2 i3 i4 h0 n0 v U'.heap L ∧ FrameEnd U o U' L 16 128) := by
  refine MetFree.of_bodySF (plainFor_of_name pnm_1) hisR ?_
  intro p e s m args below meth c s₁ Bd hml0 hP hK
  obtain ⟨rfl, hZ, hh⟩ := hP
  have hx := Bd.exec
  have hby := Bd.bytes
  have hml : c.maxLocals = 15 := hml0
  have hown : s.vm.findClass "com/example/endorse/endorse/SdkRangeOverlapsPinLaw" = some m.cls := findClass_of_methodNamed Bd.named
  have X0 : Stand p l e room_1 s m #[(.int i0), (.int i1), (.int i2), (.int i3), (.int i4)] below meth c s₁ [] 0 0 := Stand.of_body Bd
  have e0 : s₁.heap = h0 := by rw [← hh, Bd.state]; rfl
  have fin := b0_0 i0 i1 i2 i3 i4 (Q := Q0 i0 i1 i2 i3 i4 h0 n0) hw X0 hx hZ hby hml hown Bd.returns (BodyLoose.notSynchronized Bd) e0 (Fr.nil n0) (Nat.zero_le _) (Nat.zero_le _) Z0 (fun H' L' n' => ⟨rfl, n'⟩)
  exact own_step (fun t k => castTop (ef_0 m i0 i1 i2 i3 i4) k) fin
set_option maxRecDepth 65536 in
set_option maxHeartbeats 40000000 in
theorem comes_1 {Post : Tables → Env → Array Value → State → Outcome → State → Prop} (hpost : ∀ tb e args s v u, (limb_1_1.after args s (.returned v) u = true ∧ limb_1_2.after args s (.returned v) u = true ∧ True) → FrameEnd s (.returned v) u (Jvm.fieldLocs frame_1_writes args s ++ Jvm.arrayLocs frame_1_arrays args s ++ Jvm.staticLocs frame_1_statics s) 16 128 → Post tb e args s (.returned v) u) :
    ArmFor flags0 classFile x code maxLocals ret World_1 tables_1 room_1 Calls_1 rest_1 Pre_1 Post := by
  intro l hfl _ _ p e ha hc hk s m args below hf hA hF happ hP
  obtain ⟨hcalls, hrest, hpre⟩ := hP
  obtain ⟨-, -, -, hnamed, -, -, -, hat⟩ := (Spec.applies_iff hf).mp happ
  obtain ⟨hg, hn⟩ := and_e (Cond.before_iff.mp (show (Jvm.Cond.and given_1 narrow_1).before args s = true from hpre))
  obtain ⟨g1, g2⟩ := and_e hg
  obtain ⟨g3, g4⟩ := and_e g2
  obtain ⟨g5, g6⟩ := and_e g4
  obtain ⟨g7, g8⟩ := and_e g6
  obtain ⟨g9, g10⟩ := and_e g8
  obtain ⟨w0, w1, w2, w3, w4, rfl⟩ : ∃ w0 w1 w2 w3 w4 : Value, args = #[w0, w1, w2, w3, w4] := by
    have hs : args.size = 5 := by simpa [Cond.value, given_1] using g1
    obtain ⟨L⟩ := args
    match L, hs with
    | [w0, w1, w2, w3, w4], _ => exact ⟨w0, w1, w2, w3, w4, rfl⟩
  have hw := fun d (hd : d ∈ tables_1) => atoms_spec (ws := Jvm.Cond.code x code maxLocals ret :: tables_1) hat d (List.mem_cons_of_mem _ hd)
  obtain ⟨i0, ei0⟩ := is_v g3
  obtain rfl : w0 = (.int i0) := Option.some.inj ei0
  obtain ⟨i1, ei1⟩ := is_v g5
  obtain rfl : w1 = (.int i1) := Option.some.inj ei1
  obtain ⟨i2, ei2⟩ := is_v g7
  obtain rfl : w2 = (.int i2) := Option.some.inj ei2
  obtain ⟨i3, ei3⟩ := is_v g9
  obtain rfl : w3 = (.int i3) := Option.some.inj ei3
  obtain ⟨i4, ei4⟩ := is_v g10
  obtain rfl : w4 = (.int i4) := Option.some.inj ei4
  obtain ⟨n, o, h1, h2, h3, _, L, rfl, ⟨hval, N⟩, hq⟩ := rm0 l s _ hw tables_1 i0 i1 i2 i3 i4 s.heap s.heap.size (Nat.le_refl _) p e ha hc hk s m _ below hf ((Spec.applies_iff_loose hf).mp happ).1 ⟨rfl, State.Warmed39.refl s, rfl⟩ trivial
  subst hval
  refine ⟨n, _, h1, h2, h3, hpost _ _ _ _ _ _ ⟨Cond.after_iff.mpr rfl, Cond.after_iff.mpr (eq_i res_at (Term.int_eval (1)) rfl), trivial⟩ ⟨hq.1, hq.2.1, (hq.2.2.sift fun y hy => Or.inr (N y hy)).mono (by decide) (by decide)⟩⟩
theorem main_1_1 : Claimed_1_1 := comes_1 fun _ _ _ _ _ _ h hF => ⟨h.1, hF⟩
theorem main_1_2 : Claimed_1_2 := comes_1 fun _ _ _ _ _ _ h hF => ⟨h.2.1, hF⟩
end Jvm.Pilot.@@N@@
namespace Jvm.Pilot.@@N@@
open Jvm Jvm.ClassFile Sem Op Lib Jvm.Free Jvm.Stand Jvm.Pilot.@@N@@.Jvm.D
/-! MADE BY PROGRAM (witnessworld.py) out of the Statement's table words and the real class files: 10 classes; the members and pool entries that the words name. The judged class is class 1, her method 1. -/
namespace start1
open Jvm.ClassFile
def u (s : String) : CpInfo := .utf8 (stringToUtf16 s)
/-- a pool by its gaps: so many unusable entries, then the entry; so many at the end -/
def gap : Nat → List CpInfo → List CpInfo
  | 0, r => r
  | n + 1, r => .unusable :: gap n r
def poolList (es : List (Nat × CpInfo)) (last : Nat) : List CpInfo := es.foldr (fun e r => gap e.1 (e.2 :: r)) (gap last [])
def pool (es : List (Nat × CpInfo)) (last : Nat) : Array CpInfo := ⟨poolList es last⟩
def fileOf (pool : Array CpInfo) (this : Nat) (attrs : Array Attribute := #[]) (ms : Array MethodInfo := #[]) (fl : Nat := 33) (sup : Nat := 0) (ifs : Array Nat := #[]) (fds : Array FieldInfo := #[]) : ClassFile where
  minorVersion := 0
  majorVersion := 65
  constantPool := pool
  accessFlags := fl
  thisClass := this
  superClass := sup
  interfaces := ifs
  fields := fds
  methods := ms
  attributes := attrs
def plain (name : String) (sup : Option ClassId) : Class where
  name := name
  kind := .ordinary
  loader := none
  accessFlags := 33
  super := sup
  interfaces := #[]
  cf := none
  fields := #[]
  methods := #[]
  instanceTypes := #[]
  staticTypes := #[]
  resolved := #[]
  callSites := []
  init := .initialized
  statics := none
  mirror := none

def pool0 : Array CpInfo := pool [(5, u "<init>"), (0, u "()V"), (1, .class_ 10), (1, u "java/lang/Object")] 113

def k0c0 : Code := { maxStack := 0, maxLocals := 1, code := object_method_1_code, exceptionTable := #[], attributes := #[] }
def k0m0 : Method := { name := "<init>", desc := "()V", sig := { parameters := [], returnType := none }, accessFlags := 1, code := some k0c0 }
/-- java/lang/Object -/
def k0 : Class := { plain "java/lang/Object" none with
  accessFlags := 33
  interfaces := #[]
  cf := some (fileOf pool0 8 #[] #[{ accessFlags := 1, nameIndex := 5, descriptorIndex := 6, attributes := #[] }] 33 0 #[] #[])
  fields := #[]
  methods := #[k0m0]
  instanceTypes := #[]
  staticTypes := #[]
  resolved := Array.replicate 124 none
  statics := none }

def pool1 : Array CpInfo := pool [(2, .class_ 4), (1, u "java/lang/Object"), (0, u "<init>"), (0, u "()V"), (0, .methodref 8 9), (0, .class_ 10), (0, .nameAndType 11 12), (0, u "java/lang/Math"), (0, u "min"), (0, u "(II)I"), (0, .methodref 8 14), (0, .nameAndType 15 12), (0, u "max"), (0, .class_ 17), (0, u "com/example/endorse/endorse/SdkRange"), (0, .methodref 16 19), (0, .nameAndType 5 20), (0, u "(II)V"), (0, .methodref 16 22), (0, .nameAndType 23 24), (0, u "overlaps"), (0, u "(Lcom/example/endorse/endorse/SdkRange;)Z"), (0, .class_ 26), (0, u "com/example/endorse/endorse/SdkRangeOverlapsPinLaw"), (2, u "law"), (0, u "(IIIII)Z")] 3

def k1m0 : Method := { name := "<init>", desc := "()V", sig := { parameters := [], returnType := none }, accessFlags := 2, code := none }
def k1c1 : Code := { maxStack := 4, maxLocals := 15, code := code, exceptionTable := #[], attributes := #[] }
def k1m1 : Method := { name := "law", desc := "(IIIII)Z", sig := { parameters := [.int, .int, .int, .int, .int], returnType := some .boolean }, accessFlags := 9, code := some k1c1 }
/-- com/example/endorse/endorse/SdkRangeOverlapsPinLaw -/
def k1 : Class := { plain "com/example/endorse/endorse/SdkRangeOverlapsPinLaw" (some 0) with
  accessFlags := 49
  interfaces := #[]
  cf := some (fileOf pool1 25 #[] #[{ accessFlags := 2, nameIndex := 5, descriptorIndex := 6, attributes := #[] }, { accessFlags := 9, nameIndex := 29, descriptorIndex := 30, attributes := #[] }] 49 2 #[] #[])
  fields := #[]
  methods := #[k1m0, k1m1]
  instanceTypes := #[]
  staticTypes := #[]
  resolved := Array.replicate 34 none
  statics := none }

def pool2 : Array CpInfo := pool [(1, .class_ 2), (0, u "java/lang/Math"), (1, .class_ 6), (1, u "java/lang/Object"), (0, u "<init>"), (0, u "()V"), (89, .class_ 100), (1, u "java/lang/Math$RandomNumberGeneratorHolder"), (71, u "negativeZeroFloatBits"), (0, u "J"), (2, u "negativeZeroDoubleBits"), (21, u "max"), (2, u "min"), (43, u "$assertionsDisabled"), (0, u "Z"), (88, u "(II)I"), (2, u "twoToTheDoubleScaleDown"), (0, u "D"), (4, u "twoToTheDoubleScaleUp"), (9, u "E"), (3, u "PI"), (2, u "TAU"), (2, u "DEGREES_TO_RADIANS"), (0, u "RADIANS_TO_DEGREES")] 94

def k2m0 : Method := { name := "<init>", desc := "()V", sig := { parameters := [], returnType := none }, accessFlags := 2, code := none }
def k2c1 : Code := { maxStack := 2, maxLocals := 2, code := jdk_29_method_65_code, exceptionTable := #[], attributes := #[] }
def k2m1 : Method := { name := "max", desc := "(II)I", sig := { parameters := [.int, .int], returnType := some .int }, accessFlags := 9, code := some k2c1 }
def k2c2 : Code := { maxStack := 2, maxLocals := 2, code := jdk_29_method_69_code, exceptionTable := #[], attributes := #[] }
def k2m2 : Method := { name := "min", desc := "(II)I", sig := { parameters := [.int, .int], returnType := some .int }, accessFlags := 9, code := some k2c2 }
/-- java/lang/Math -/
def k2 : Class := { plain "java/lang/Math" (some 0) with
  accessFlags := 49
  interfaces := #[]
  cf := some (fileOf pool2 1 #[.nestMembers #[98]] #[{ accessFlags := 2, nameIndex := 7, descriptorIndex := 8, attributes := #[] }, { accessFlags := 9, nameIndex := 198, descriptorIndex := 335, attributes := #[] }, { accessFlags := 9, nameIndex := 201, descriptorIndex := 335, attributes := #[] }] 49 4 #[] #[{ accessFlags := 25, nameIndex := 354, descriptorIndex := 339, attributes := #[] }, { accessFlags := 25, nameIndex := 358, descriptorIndex := 339, attributes := #[] }, { accessFlags := 25, nameIndex := 361, descriptorIndex := 339, attributes := #[] }, { accessFlags := 26, nameIndex := 364, descriptorIndex := 339, attributes := #[] }, { accessFlags := 26, nameIndex := 365, descriptorIndex := 339, attributes := #[] }, { accessFlags := 26, nameIndex := 172, descriptorIndex := 173, attributes := #[] }, { accessFlags := 26, nameIndex := 176, descriptorIndex := 173, attributes := #[] }, { accessFlags := 8, nameIndex := 344, descriptorIndex := 339, attributes := #[] }, { accessFlags := 8, nameIndex := 338, descriptorIndex := 339, attributes := #[] }, { accessFlags := 4120, nameIndex := 245, descriptorIndex := 246, attributes := #[] }])
  fields := #[{ name := "E", type := .double, accessFlags := 25, slot := 0, constantValue := 0 }, { name := "PI", type := .double, accessFlags := 25, slot := 1, constantValue := 0 }, { name := "TAU", type := .double, accessFlags := 25, slot := 2, constantValue := 0 }, { name := "DEGREES_TO_RADIANS", type := .double, accessFlags := 26, slot := 3, constantValue := 0 }, { name := "RADIANS_TO_DEGREES", type := .double, accessFlags := 26, slot := 4, constantValue := 0 }, { name := "negativeZeroFloatBits", type := .long, accessFlags := 26, slot := 5, constantValue := 0 }, { name := "negativeZeroDoubleBits", type := .long, accessFlags := 26, slot := 6, constantValue := 0 }, { name := "twoToTheDoubleScaleUp", type := .double, accessFlags := 8, slot := 7, constantValue := 0 }, { name := "twoToTheDoubleScaleDown", type := .double, accessFlags := 8, slot := 8, constantValue := 0 }, { name := "$assertionsDisabled", type := .boolean, accessFlags := 4120, slot := 9, constantValue := 0 }]
  methods := #[k2m0, k2m1, k2m2]
  instanceTypes := #[]
  staticTypes := #[.double, .double, .double, .double, .double, .long, .long, .double, .double, .boolean]
  resolved := Array.replicate 460 none
  statics := none }

def pool3 : Array CpInfo := pool [(3, .methodref 4 5), (0, .class_ 6), (0, .nameAndType 7 8), (0, u "java/lang/Object"), (0, u "<init>"), (0, u "()V"), (0, .fieldref 10 11), (0, .class_ 12), (0, .nameAndType 13 14), (0, u "com/example/endorse/endorse/SdkRange"), (0, u "min"), (0, u "I"), (0, .fieldref 10 16), (0, .nameAndType 17 14), (0, u "max"), (13, u "(II)V"), (77, u "FIRST_V3_SDK"), (2, u "LAST_SDK"), (11, u "overlaps"), (0, u "(Lcom/example/endorse/endorse/SdkRange;)Z")] 29

def k3c0 : Code := { maxStack := 2, maxLocals := 3, code := prog_54_method_1_code, exceptionTable := #[], attributes := #[] }
def k3m0 : Method := { name := "<init>", desc := "(II)V", sig := { parameters := [.int, .int], returnType := none }, accessFlags := 0, code := some k3c0 }
def k3c1 : Code := { maxStack := 2, maxLocals := 2, code := prog_54_method_8_code, exceptionTable := #[], attributes := #[] }
def k3m1 : Method := { name := "overlaps", desc := "(Lcom/example/endorse/endorse/SdkRange;)Z", sig := { parameters := [(.object "com/example/endorse/endorse/SdkRange")], returnType := some .boolean }, accessFlags := 0, code := some k3c1 }
/-- com/example/endorse/endorse/SdkRange -/
def k3 : Class := { plain "com/example/endorse/endorse/SdkRange" (some 0) with
  accessFlags := 48
  interfaces := #[]
  cf := some (fileOf pool3 10 #[] #[{ accessFlags := 0, nameIndex := 7, descriptorIndex := 31, attributes := #[] }, { accessFlags := 0, nameIndex := 124, descriptorIndex := 125, attributes := #[] }] 48 4 #[] #[{ accessFlags := 24, nameIndex := 109, descriptorIndex := 14, attributes := #[] }, { accessFlags := 24, nameIndex := 112, descriptorIndex := 14, attributes := #[] }, { accessFlags := 18, nameIndex := 13, descriptorIndex := 14, attributes := #[] }, { accessFlags := 18, nameIndex := 17, descriptorIndex := 14, attributes := #[] }])
  fields := #[{ name := "FIRST_V3_SDK", type := .int, accessFlags := 24, slot := 0, constantValue := 0 }, { name := "LAST_SDK", type := .int, accessFlags := 24, slot := 1, constantValue := 0 }, { name := "min", type := .int, accessFlags := 18, slot := 0, constantValue := 0 }, { name := "max", type := .int, accessFlags := 18, slot := 1, constantValue := 0 }]
  methods := #[k3m0, k3m1]
  instanceTypes := #[.int, .int]
  staticTypes := #[.int, .int]
  resolved := Array.replicate 155 none
  statics := none }

def pool4 : Array CpInfo := pool [(1, u "java/lang/Cloneable"), (0, .class_ 1), (0, u "java/lang/Object"), (0, .class_ 3)] 3

/-- java/lang/Cloneable -/
def k4 : Class := { plain "java/lang/Cloneable" (some 0) with
  accessFlags := 1537
  interfaces := #[]
  cf := some (fileOf pool4 2 #[] #[] 1537 4 #[] #[])
  fields := #[]
  methods := #[]
  instanceTypes := #[]
  staticTypes := #[]
  resolved := Array.replicate 8 none
  statics := none }

def pool5 : Array CpInfo := pool [(1, u "java/io/Serializable"), (0, .class_ 1), (0, u "java/lang/Object"), (0, .class_ 3)] 3

/-- java/io/Serializable -/
def k5 : Class := { plain "java/io/Serializable" (some 0) with
  accessFlags := 1537
  interfaces := #[]
  cf := some (fileOf pool5 2 #[] #[] 1537 4 #[] #[])
  fields := #[]
  methods := #[]
  instanceTypes := #[]
  staticTypes := #[]
  resolved := Array.replicate 8 none
  statics := none }

/-- the primitive byte -/
def k6 : Class := { plain "byte" none with kind := .primitive 'B', accessFlags := 0x411 }
/-- [B -/
def k7 : Class := { plain "[B" (some 0) with kind := .array 6 .byte, interfaces := #[4, 5], accessFlags := 1041 }

/-- the primitive int -/
def k8 : Class := { plain "int" none with kind := .primitive 'I', accessFlags := 0x411 }
/-- [I -/
def k9 : Class := { plain "[I" (some 0) with kind := .array 8 .int, interfaces := #[4, 5], accessFlags := 1041 }

def heap : Heap := #[]
def classes : Array Class := #[k0, k1, k2, k3, k4, k5, k6, k7, k8, k9]
def interned : List (Array UInt16 × Addr) := []
def slotsUsed : Nat := 0
def theMethod : MethodId := ⟨1, 1⟩
def args0 : Array Value := #[.int 5, .int 5, .int 5, .int 5, .int 5]
def aboutOver (below : List Frame) : State where
  vm := { classes := classes, interned := interned.toArray }
  heap := heap
  slotsUsed := slotsUsed
  threads := #[{ frames := .invoking theMethod args0 :: below }]
def below0 : List Frame := [.native { method := ⟨0, 0⟩, args := #[] }]
def about1 : State := aboutOver below0
def p0 : Program := .bare "" "" ""
def e0 : Env := launch0.env 0 0 0
theorem w_frames : about1.frames = Frame.invoking theMethod args0 :: below0 := rfl
set_option maxRecDepth 65536 in
theorem w_args : argsFit about1.vm theMethod args0 = true := by decide +kernel
set_option maxRecDepth 65536 in
theorem w_heap : heapFits about1 = true := by decide +kernel
set_option maxRecDepth 65536 in
theorem w_runnable : about1.curStatus? = some .runnable := by decide +kernel
set_option maxRecDepth 65536 in
theorem w_alone : about1.alone = true := by decide +kernel
set_option maxRecDepth 65536 in
theorem w_named : about1.methodNamed? x = some theMethod := by decide +kernel
set_option maxRecDepth 65536 in
theorem w_hears : about1.hears theMethod below0 = true := by decide +kernel
set_option maxRecDepth 65536 in
theorem w_ripe : about1.ripe theMethod args0 below0 = true := by decide +kernel
theorem w_running : about1.status = .running := rfl
set_option maxRecDepth 65536 in
theorem w_room : about1.hasRoom e0.platform room_1 = true :=
  launch0.hasRoom_least _ room_1 (by decide +kernel) (by decide +kernel) (by decide +kernel) (by decide +kernel) (by decide +kernel) (by decide +kernel)
theorem allAtoms_all (ts : List Jvm.Cond) (a : Array Jvm.Value) (st : Jvm.State) : (allAtoms ts).before a st = ts.all (fun c => c.before a st) := by
  induction ts with
  | nil => rfl
  | cons c t ih =>
    show (Jvm.Cond.and c (allAtoms t)).before a st = _
    rw [Jvm.Cond.before_and, ih, List.all_cons]
def words1 : List Jvm.Cond := Jvm.Cond.code x code maxLocals ret :: tables_1
/-- a 'code' word, met by the world's own term for the bytes: nothing is compared byte by byte -/
theorem code_word {y : MethodName} {bytes : ByteArray} {mx : Nat} {rt : Option FieldType} {a : Array Value} {s : State} {m : MethodId} {meth : Method} {c : Code} (h1 : s.methodNamed? y = some m) (h2 : s.vm.method? m = some meth) (h3 : meth.code = some c) (h4 : c.code = bytes)
    (h5 : (c.maxLocals == mx && c.exceptionTable.isEmpty && decide (c.maxStack ≤ mostOperands) && decide (meth.sig.returnType = rt) && !meth.locks && decide (parseMethodDescriptor y.desc = some meth.sig)) = true) : (Jvm.Cond.code y bytes mx rt).before a s = true := by
  simp only [Bool.and_eq_true, beq_iff_eq, Bool.not_eq_true', decide_eq_true_eq] at h5
  obtain ⟨⟨⟨⟨⟨g1, g2⟩, g3⟩, g4⟩, g5⟩, g6⟩ := h5
  simp [Cond.before, Cond.holds, Cond.value, h1, h2, h3, h4, g1, g2, g3, g4, g5, g6]
def isCode : Jvm.Cond → Bool
  | .code _ _ _ _ => true
  | _ => false
theorem all_split {L : List Jvm.Cond} {P : Jvm.Cond → Bool} (h1 : L.all (fun c => isCode c || P c) = true) (h2 : ∀ c ∈ L.filter isCode, P c = true) : L.all P = true := by
  refine List.all_eq_true.mpr fun c hc => ?_
  have h := List.all_eq_true.mp h1 c hc
  rcases Bool.eq_false_or_eq_true (isCode c) with hi | hi
  · exact h2 c (List.mem_filter.mpr ⟨hc, hi⟩)
  · simpa [hi] using h
set_option maxRecDepth 65536 in
theorem w_c0 : (Jvm.Cond.code x code maxLocals ret).before args0 about1 = true := code_word (m := ⟨1, 1⟩) (meth := k1m1) (c := k1c1) (by decide +kernel) rfl rfl rfl (by decide +kernel)
set_option maxRecDepth 65536 in
theorem w_c1 : (Jvm.Cond.code ({ cls := "java/lang/Math", name := "min", desc := "(II)I" } : Jvm.MethodName) jdk_29_method_69_code (2 : Nat) (Option.some Jvm.ClassFile.FieldType.int)).before args0 about1 = true := code_word (m := ⟨2, 2⟩) (meth := k2m2) (c := k2c2) (by decide +kernel) rfl rfl rfl (by decide +kernel)
set_option maxRecDepth 65536 in
theorem w_c2 : (Jvm.Cond.code ({ cls := "java/lang/Math", name := "max", desc := "(II)I" } : Jvm.MethodName) jdk_29_method_65_code (2 : Nat) (Option.some Jvm.ClassFile.FieldType.int)).before args0 about1 = true := code_word (m := ⟨2, 1⟩) (meth := k2m1) (c := k2c1) (by decide +kernel) rfl rfl rfl (by decide +kernel)
set_option maxRecDepth 65536 in
theorem w_c3 : (Jvm.Cond.code ({ cls := "com/example/endorse/endorse/SdkRange", name := "<init>", desc := "(II)V" } : Jvm.MethodName) prog_54_method_1_code (3 : Nat) (Option.none : Option Jvm.ClassFile.FieldType)).before args0 about1 = true := code_word (m := ⟨3, 0⟩) (meth := k3m0) (c := k3c0) (by decide +kernel) rfl rfl rfl (by decide +kernel)
set_option maxRecDepth 65536 in
theorem w_c4 : (Jvm.Cond.code ({ cls := "java/lang/Object", name := "<init>", desc := "()V" } : Jvm.MethodName) object_method_1_code (1 : Nat) (Option.none : Option Jvm.ClassFile.FieldType)).before args0 about1 = true := code_word (m := ⟨0, 0⟩) (meth := k0m0) (c := k0c0) (by decide +kernel) rfl rfl rfl (by decide +kernel)
set_option maxRecDepth 65536 in
theorem w_c5 : (Jvm.Cond.code ({ cls := "com/example/endorse/endorse/SdkRange", name := "overlaps", desc := "(Lcom/example/endorse/endorse/SdkRange;)Z" } : Jvm.MethodName) prog_54_method_8_code (2 : Nat) (Option.some Jvm.ClassFile.FieldType.boolean)).before args0 about1 = true := code_word (m := ⟨3, 1⟩) (meth := k3m1) (c := k3c1) (by decide +kernel) rfl rfl rfl (by decide +kernel)
def codes1 : List Jvm.Cond := [Jvm.Cond.code x code maxLocals ret, Jvm.Cond.code ({ cls := "java/lang/Math", name := "min", desc := "(II)I" } : Jvm.MethodName) jdk_29_method_69_code (2 : Nat) (Option.some Jvm.ClassFile.FieldType.int), Jvm.Cond.code ({ cls := "java/lang/Math", name := "max", desc := "(II)I" } : Jvm.MethodName) jdk_29_method_65_code (2 : Nat) (Option.some Jvm.ClassFile.FieldType.int), Jvm.Cond.code ({ cls := "com/example/endorse/endorse/SdkRange", name := "<init>", desc := "(II)V" } : Jvm.MethodName) prog_54_method_1_code (3 : Nat) (Option.none : Option Jvm.ClassFile.FieldType), Jvm.Cond.code ({ cls := "java/lang/Object", name := "<init>", desc := "()V" } : Jvm.MethodName) object_method_1_code (1 : Nat) (Option.none : Option Jvm.ClassFile.FieldType), Jvm.Cond.code ({ cls := "com/example/endorse/endorse/SdkRange", name := "overlaps", desc := "(Lcom/example/endorse/endorse/SdkRange;)Z" } : Jvm.MethodName) prog_54_method_8_code (2 : Nat) (Option.some Jvm.ClassFile.FieldType.boolean)]
set_option maxRecDepth 65536 in
theorem codes_eq : words1.filter isCode = codes1 := rfl
theorem w_codes : ∀ c ∈ words1.filter isCode, c.before args0 about1 = true := by
  rw [codes_eq]
  intro c hc
  simp only [codes1, List.mem_cons, List.not_mem_nil, or_false] at hc
  rcases hc with rfl | rfl | rfl | rfl | rfl | rfl
  · exact w_c0
  · exact w_c1
  · exact w_c2
  · exact w_c3
  · exact w_c4
  · exact w_c5
set_option maxRecDepth 65536 in
theorem w_t1 : (words1.take 24).all (fun c => isCode c || c.before args0 about1) = true := by decide +kernel
set_option maxRecDepth 65536 in
theorem w_t2 : (words1.drop 24).all (fun c => isCode c || c.before args0 about1) = true := by decide +kernel
theorem w_tables : (allAtoms (Jvm.Cond.code x code maxLocals ret :: tables_1)).before args0 about1 = true := by
  rw [allAtoms_all]
  show words1.all (fun c => c.before args0 about1) = true
  refine all_split ?_ w_codes
  rw [← List.take_append_drop 24 words1, List.all_append, w_t1, w_t2]
  rfl
set_option maxRecDepth 65536 in
theorem w_case : (Jvm.Cond.and given_1 narrow_1).before args0 about1 = true := by decide +kernel
theorem w_applies : (headSpec (Jvm.Cond.code x code maxLocals ret :: tables_1) room_1).applies x e0.platform about1 = true :=
  (Spec.applies_iff w_frames).mpr ⟨w_running, w_runnable, w_alone, w_named, w_hears, w_ripe, w_room, w_tables⟩
theorem atStart : AtStart classFile x code maxLocals ret World_1 tables_1 room_1 Calls_1 rest_1 Pre_1 launch0 p0 e0 about1 theMethod args0 below0 :=
  ⟨lists_1, trivial, launch0.admits_env _ _ _, launch0.least_env, fairChoices_fair.cas, fairChoices_fair.clock, w_frames, w_args, w_heap, w_applies, trivial, trivial, w_case⟩
end start1
theorem witness_1 : WitnessClaimed_1 := ⟨start1.p0, start1.e0, start1.about1, start1.theMethod, start1.args0, start1.below0, start1.atStart⟩
end Jvm.Pilot.@@N@@

import JvmDerived
import JvmDerived.Pilot.@@N@@Statement
import JvmDerived.Pilot.@@N@@Code
set_option linter.unusedVariables false
set_option linter.unusedSimpArgs false
namespace Jvm.RoadKit
open Sem ClassFile Op Lib Jvm.Stand Jvm.Free Jvm.LawKit
section New
variable {p : Program} {l : Launch} {e : Env} {R : Room} {s : State} {m : MethodId} {args : Array Value} {below : List Frame} {meth : Method} {c : Code} {T : State} {locs : List Loc} {cells slots : Nat}
theorem retI (X : Stand p l e R s m args below meth c T locs cells slots) (hx : p.tables.exec = Jvm.exec) {pc : Nat} {Ls : Array Slot} {z : Int32} {rest : List Value} (hret : meth.sig.returnType = some .int) (hd : decode c.code pc = .ok (.ireturn, 1)) {fs : List Frame}
    (hl : ∀ (f : JFrame) (acts : List Action), f.method = m → f.locked = none → f.entered = [] → (doReturn e (T.setTop f) acts (some (.int z))).1 = T.setFrames fs) : Steps p.tables e below (T.setTop (mkF m pc Ls (.int z :: rest))) (T.setFrames fs) := by
  have hm' : T.vm.method? m = some meth := X.method'
  have hn : narrow .int (.int z) = .int z := rfl
  show Steps p.tables e below (T.setTop { method := m, pc := pc, locals := Ls, stack := _ :: rest, locked := none }) _
  jvm_step X.here [X.here.top, hx, hd, hm', hret, hn]
  first | (intro acts; rw [hl _ acts rfl rfl rfl]) | rw [hl _ _ rfl rfl rfl]
  exact Steps.refl _
end New
end Jvm.RoadKit
namespace Jvm.Pilot.@@N@@
open Jvm Jvm.ClassFile Sem Op Lib Jvm.Free Jvm.Stand Jvm.LawKit Jvm.RoadKit Bundle Jvm.Pilot.@@N@@.Jvm.D
section OwnKit
variable {p : Program} {l : Launch} {e : Env} {R : Room} {s : State} {m : MethodId} {args : Array Value} {below : List Frame} {meth : Method} {c : Code} {T : State} {locs : List Loc} {cells slots : Nat}
/-- what a body owes from the state A on: it comes to its return, and what it returned, the heap and the written places satisfy Q -/
def own_Fin (p : Program) (e : Env) (below : List Frame) (s : State) (Q : Option Value → Heap → List Loc → Prop) (rc rs : Nat) (A : State) : Prop :=
  ∃ s₂ o, Steps p.tables e below A s₂ ∧ s₂.status = .running ∧ Ended s₂ below o ∧ ∃ v L, o = .returned v ∧ Q v s₂.heap L ∧ FrameEnd s o s₂ L rc rs
theorem own_step {Q : Option Value → Heap → List Loc → Prop} {rc rs : Nat} {A B : State} (k : ∀ t, Steps p.tables e below B t → Steps p.tables e below A t) (h : own_Fin p e below s Q rc rs B) : own_Fin p e below s Q rc rs A := by
  obtain ⟨s₂, o, h1, h2⟩ := h
  exact ⟨s₂, o, k _ h1, h2⟩
theorem own_retN (X : Stand p l e R s m args below meth c T locs cells slots) (hx : p.tables.exec = Jvm.exec) (hlk : meth.locks = false) {Q : Option Value → Heap → List Loc → Prop} {rc rs n0 : Nat} {h : Heap} {pc : Nat} {Ls : Array Slot} {z v : Int32} {t : FieldType} {rest : List Value} (hret : meth.sig.returnType = some t) (ht : t = .boolean ∨ t = .byte ∨ t = .char ∨ t = .short)
    (hd : decode c.code pc = .ok (.ireturn, 1)) (hc : cells ≤ rc) (hs : slots ≤ rs) (eT : T.heap = h) (N : Fr n0 locs) (hQ : ∀ L', Fr n0 L' → Q (some (.int v)) h L') (hv : v = nar t z) :
    own_Fin p e below s Q rc rs (T.setTop (mkF m pc Ls (.int z :: rest))) := by
  subst hv
  obtain ⟨fs, hr, hrun, hended, hW, hsame⟩ := X.leave (v := some (.int (nar t z))) (fun h => by rw [hret] at h; cases h) hlk
  refine ⟨_, _, retN X hx hret ht hd hr, hrun, hended, _, _, rfl, ?_, ⟨_, rfl⟩, hW, hsame.mono hc hs⟩
  show Q _ T.heap _
  rw [eT]
  exact hQ _ N
theorem own_retI (X : Stand p l e R s m args below meth c T locs cells slots) (hx : p.tables.exec = Jvm.exec) (hlk : meth.locks = false) {Q : Option Value → Heap → List Loc → Prop} {rc rs n0 : Nat} {h : Heap} {pc : Nat} {Ls : Array Slot} {z v : Int32} {rest : List Value} (hret : meth.sig.returnType = some .int)
    (hd : decode c.code pc = .ok (.ireturn, 1)) (hc : cells ≤ rc) (hs : slots ≤ rs) (eT : T.heap = h) (N : Fr n0 locs) (hQ : ∀ L', Fr n0 L' → Q (some (.int v)) h L') (hv : v = z) :
    own_Fin p e below s Q rc rs (T.setTop (mkF m pc Ls (.int z :: rest))) := by
  subst hv
  obtain ⟨fs, hr, hrun, hended, hW, hsame⟩ := X.leave (v := some (.int v)) (fun h => by rw [hret] at h; cases h) hlk
  refine ⟨_, _, retI X hx hret hd hr, hrun, hended, _, _, rfl, ?_, ⟨_, rfl⟩, hW, hsame.mono hc hs⟩
  show Q _ T.heap _
  rw [eT]
  exact hQ _ N
theorem own_ret0 (X : Stand p l e R s m args below meth c T locs cells slots) (hx : p.tables.exec = Jvm.exec) (hlk : meth.locks = false) {Q : Option Value → Heap → List Loc → Prop} {rc rs : Nat} {h : Heap} {pc : Nat} {Ls : Array Slot} (hret : meth.sig.returnType = none)
    (hd : decode c.code pc = .ok (.return_, 1)) (hc : cells ≤ rc) (hs : slots ≤ rs) (eT : T.heap = h) (hQ : Q none h locs) :
    own_Fin p e below s Q rc rs (T.setTop (mkF m pc Ls [])) := by
  obtain ⟨fs, hr, hrun, hended, hW, hsame⟩ := X.leave (v := none) (fun _ => rfl) hlk
  refine ⟨_, _, X.returnOut hx hret hd hr, hrun, hended, _, _, rfl, ?_, ⟨_, rfl⟩, hW, hsame.mono hc hs⟩
  show Q _ T.heap _
  rw [eT]
  exact hQ
end OwnKit
/-- an array of n ints (bytes, ..) at a: its i-th is g i -/
def own_AF (Z : State) (h : Heap) (a : Addr) (ty : FieldType) (n : Nat) (g : Nat → Int32) : Prop := ∃ c : Cell, Arr Z h a c ty ∧ c.slots.size = n ∧ ∀ i, i < n → c.slots[i]? = some (.int (g i))
def own_In (n : Nat) (j : Int32) : Prop := ¬ (j < 0 ∨ n ≤ j.toNatClampNeg)
theorem own_AF.lt {Z : State} {h : Heap} {a : Addr} {ty : FieldType} {n : Nat} {g : Nat → Int32} (F : own_AF Z h a ty n g) : a < h.size := by obtain ⟨c, A, -⟩ := F; exact A.lt
theorem own_AFext {Z : State} {h h' : Heap} {a : Addr} {ty : FieldType} {n : Nat} {g : Nat → Int32} (F : own_AF Z h a ty n g) (E : Ext h h') : own_AF Z h' a ty n g := by obtain ⟨c, A, r⟩ := F; exact ⟨c, A.ext E, r⟩
theorem own_AFoth {Z : State} {h h' : Heap} {a b : Addr} {sl : Nat} {v : Value} {ty : FieldType} {n : Nat} {g : Nat → Int32} (F : own_AF Z h b ty n g) (W : Wr h h' a sl v) (q : b ≠ a) : own_AF Z h' b ty n g := by obtain ⟨c, A, r⟩ := F; exact ⟨c, A.other W q, r⟩
theorem own_AFkeep {Z : State} {h h' : Heap} {a : Addr} {ws : List Addr} {ty : FieldType} {n : Nat} {g : Nat → Int32} (F : own_AF Z h a ty n g) (K : Keep h h' ws) (q : a ∉ ws) : own_AF Z h' a ty n g := by obtain ⟨c, A, r⟩ := F; exact ⟨c, ⟨K.2.1 a c A.1 q, A.2⟩, r⟩
theorem own_AFset {Z : State} {h h' : Heap} {a : Addr} {ty : FieldType} {n k : Nat} {g : Nat → Int32} {c : Cell} {x : Int32} (A : Arr Z h a c ty) (S : c.slots.size = n) (H : ∀ i, i < n → c.slots[i]? = some (.int (g i))) (W : Wr h h' a k (.int x)) : own_AF Z h' a ty n (fun i => if i = k then x else g i) := by
  obtain ⟨c', e1, e2, e3, e4, e5, e6, e7⟩ := wr_at W A.1
  refine ⟨c', ⟨e1, ?_⟩, e4.trans S, fun i hi => ?_⟩
  · rw [(e7 rfl).1]; exact A.2
  · by_cases q : i = k
    · subst q
      show c'.slots[i]? = some (.int (if i = i then x else g i))
      rw [if_pos rfl]
      exact (e7 rfl).2.1
    · show c'.slots[i]? = some (.int (if i = k then x else g i))
      rw [e6 i q, if_neg q]
      exact H i hi
theorem own_AFnew {Z : State} {h : Heap} {a : Addr} {k : ClassId} {ty : FieldType} {z : Int32} {n : Nat} (A : Arr Z h a (newA k ty z) ty) (hn : z.toNatClampNeg = n) (hd : defaultValue ty = .int 0 := by rfl) : own_AF Z h a ty n (fun _ => 0) :=
  ⟨_, A, (sz_new _ _ _).trans hn, fun i hi => by
    have hs : (newA k ty z).slots = Array.replicate z.toNatClampNeg (defaultValue ty) := rfl
    rw [hs, hn, hd]
    simp [hi]⟩
theorem own_eqi {x y : Int32} {b : Int} (h : y.toInt = b) : x = y ↔ x.toInt = b := by rw [← h]; exact Int32.toInt_inj.symm

theorem d1_0 : decode prog_2_method_1_code 0 = .ok (.aload_n 0, 1) := by decide +kernel
theorem d1_1 : decode prog_2_method_1_code 1 = .ok (.invokespecial 1, 3) := by decide +kernel
theorem d1_4 : decode prog_2_method_1_code 4 = .ok (.aload_n 0, 1) := by decide +kernel
theorem d1_5 : decode prog_2_method_1_code 5 = .ok (.iload_n 1, 1) := by decide +kernel
theorem d1_6 : decode prog_2_method_1_code 6 = .ok (.putfield 7, 3) := by decide +kernel
theorem d1_9 : decode prog_2_method_1_code 9 = .ok (.aload_n 0, 1) := by decide +kernel
theorem d1_10 : decode prog_2_method_1_code 10 = .ok (.iload_n 2, 1) := by decide +kernel
theorem d1_11 : decode prog_2_method_1_code 11 = .ok (.putfield 13, 3) := by decide +kernel
theorem d1_14 : decode prog_2_method_1_code 14 = .ok (.return_, 1) := by decide +kernel
theorem pn_1 : plainName "com/example/nuthatch/nuthatch/Blocks" = true := by first | (simp [plainName, overriddenIn]; done) | decide +kernel
theorem ef_1 (m : MethodId) (x0 : Addr) (x1 : Int32) (x2 : Int32) : entryFrame m #[(.ref x0), (.int x1), (.int x2)] 3 = mkF m 0 #[.val (.ref x0), .val (.int x1), .val (.int x2)] [] := by first | (simp [entryFrame, mkF, argsToLocals, Value.category]; done) | rfl
def Q1 (Z : State) (a1 : Addr) (p2 : Int32) (p3 : Int32) (u_count_a1 : Value) (u_size_a1 : Value) (h0 : Heap) (n0 : Nat) (v : Option Value) (h : Heap) (L : List Loc) : Prop := v = none ∧ Fr n0 L ∧ Keep h0 h [a1] ∧ Exa Z h a1 "com/example/nuthatch/nuthatch/Blocks" ∧ Fld Z h a1 "com/example/nuthatch/nuthatch/Blocks" "count" "I" (.int p2) ∧ Fld Z h a1 "com/example/nuthatch/nuthatch/Blocks" "size" "I" (.int p3)
set_option maxRecDepth 65536 in
set_option maxHeartbeats 40000000 in
theorem rm1 (l : Launch) (Z : State) (a0 : Array Value) (hw : ∀ d ∈ tables_1, d.before a0 Z = true) (ws : List Jvm.Cond) (a1 : Addr) (p2 : Int32) (p3 : Int32) (u_count_a1 : Value) (u_size_a1 : Value) (h0 : Heap) (n0 : Nat) (Z0 : n0 ≤ h0.size) (E_a1 : Exa Z h0 a1 "com/example/nuthatch/nuthatch/Blocks") (F_count_a1 : Fld Z h0 a1 "com/example/nuthatch/nuthatch/Blocks" "count" "I" u_count_a1) (g_a1 : n0 ≤ a1) (F_size_a1 : Fld Z h0 a1 "com/example/nuthatch/nuthatch/Blocks" "size" "I" u_size_a1) :
    MetFree l (⟨"com/example/nuthatch/nuthatch/Blocks", "<init>", "(II)V"⟩ : MethodName) (head1 (Jvm.Cond.code (⟨"com/example/nuthatch/nuthatch/Blocks", "<init>", "(II)V"⟩ : MethodName) prog_2_method_1_code 3 none :: ws) ({ frames := 1, cells := 0, slots := 0, locals := 12 } : Room)) (fun a U => a = #[(.ref a1), (.int p2), (.int p3)] ∧ Z.Warmed39 U.vm ∧ U.heap = h0) (fun _ _ _ _ _ => True) (fun _ U o U' => ∃ v L, o = .returned v ∧ Q1 Z a1 p2 p3 u_count_a1 u_size_a1 h0 n0 v U'.heap L ∧ FrameEnd U o U' L ({ frames := 1, cells := 0, slots := 0, locals := 12 } : Room).cells ({ frames := 1, cells := 0, slots := 0, locals := 12 } : Room).slots) := by
  refine MetFree.of_bodySF (plainFor_of_name pn_1) hisR ?_
  intro p e s m args below meth c s₁ Bd hml0 hP hK
  obtain ⟨rfl, hZ, hh⟩ := hP
  have hx := Bd.exec
  have hby := Bd.bytes
  have hml : c.maxLocals = 3 := hml0
  have hown : s.vm.findClass "com/example/nuthatch/nuthatch/Blocks" = some m.cls := findClass_of_methodNamed Bd.named
  have hnm := (name_of_methodNamed Bd.named Bd.method).1
  have X0 : Stand p l e ({ frames := 1, cells := 0, slots := 0, locals := 12 } : Room) s m #[(.ref a1), (.int p2), (.int p3)] below meth c s₁ [] 0 0 := Stand.of_body Bd
  have e0 : s₁.heap = h0 := by rw [← hh, Bd.state]; rfl
  have N0 := Fr.nil n0
  have pre0 : ∀ t, Steps p.tables e below (s₁.setTop (mkF m 0 #[.val (.ref a1), .val (.int p2), .val (.int p3)] [])) t → Steps p.tables e below (s₁.setTop (entryFrame m #[(.ref a1), (.int p2), (.int p3)] 3)) t := fun t k => castTop (ef_1 m a1 p2 p3) k
  obtain ⟨T4, X4, e4, st4⟩ := initO X0 hx hZ hown (hw _ (List.mem_of_getElem? (i := 7) rfl)) (hw _ (List.mem_of_getElem? (i := 8) rfl)) (hw _ (List.mem_of_getElem? (i := 9) rfl)) e0 (g := (mkF m 1 #[.val (.ref a1), .val (.int p2), .val (.int p3)] [(.ref a1)])) rfl (by rw [hml]; rfl) rfl (hb hby d1_1) (by decide) (W := 0) (by show 2 * 0 + _ ≤ _; exact Nat.le_of_eq rfl) (by decide)
  obtain ⟨T5, h5, X5, e5, W5, st5⟩ := putF X4 hx hZ hown (host := "") (Or.inl (hw _ (List.mem_of_getElem? (i := 10) rfl))) Via.refl e4 F_count_a1 E_a1 (Or.inr ⟨(hw _ (List.mem_of_getElem? (i := 11) rfl)), rfl, hnm⟩) (hw _ (List.mem_of_getElem? (i := 2) rfl)) (ty := .int) (by decide) rfl rfl (g := (mkF m 6 #[.val (.ref a1), .val (.int p2), .val (.int p3)] [(.int p2), (.ref a1)])) rfl rfl (hb hby d1_6)
  have Fw5 := F_count_a1.same W5
  have K5 : Keep h0 h5 [a1] := (Keep.refl h0 [a1]).wr W5 (Or.inl (List.mem_of_getElem? (i := 0) rfl))
  have N5 := Fr.snoc X5 N0 g_a1
  obtain ⟨T6, h6, X6, e6, W6, st6⟩ := putF X5 hx hZ hown (host := "") (Or.inl (hw _ (List.mem_of_getElem? (i := 12) rfl))) Via.refl e5 (F_size_a1.other W5 (Or.inr (slot_ne (Or.inr (hw _ (List.mem_of_getElem? (i := 13) rfl))) (Or.inr (hw _ (List.mem_of_getElem? (i := 11) rfl))) (by decide) (t := .int) (t' := .int) (by decide) (by decide)))) (E_a1.wr W5) (Or.inr ⟨(hw _ (List.mem_of_getElem? (i := 13) rfl)), rfl, hnm⟩) (hw _ (List.mem_of_getElem? (i := 2) rfl)) (ty := .int) (by decide) rfl rfl (g := (mkF m 11 #[.val (.ref a1), .val (.int p2), .val (.int p3)] [(.int p3), (.ref a1)])) rfl rfl (hb hby d1_11)
  have Fw6 := (F_size_a1.other W5 (Or.inr (slot_ne (Or.inr (hw _ (List.mem_of_getElem? (i := 13) rfl))) (Or.inr (hw _ (List.mem_of_getElem? (i := 11) rfl))) (by decide) (t := .int) (t' := .int) (by decide) (by decide)))).same W6
  have K6 : Keep h0 h6 [a1] := K5.wr W6 (Or.inl (List.mem_of_getElem? (i := 0) rfl))
  have N6 := Fr.snoc X6 N5 g_a1
  obtain ⟨fs, hr, hrun, hended, hW, hsame⟩ := X6.leave (v := none) (fun _ => rfl)
  refine ⟨_, _, pre0 _ ?_, hrun, hended, _, _, rfl, ?_, ⟨_, rfl⟩, hW, hsame.mono (by decide) (by decide)⟩
  · show Steps p.tables e below (s₁.setTop (mkF m 0 #[.val (.ref a1), .val (.int p2), .val (.int p3)] [])) _
    refine XS.aloadN X0.here hx rfl (hb hby d1_0) rfl rfl ?_
    show Steps p.tables e below (s₁.setTop (mkF m 1 #[.val (.ref a1), .val (.int p2), .val (.int p3)] [(.ref a1)])) _
    refine st4 _ ?_
    show Steps p.tables e below (T4.setTop (mkF m 4 #[.val (.ref a1), .val (.int p2), .val (.int p3)] [])) _
    refine XS.aloadN X4.here hx rfl (hb hby d1_4) rfl rfl ?_
    show Steps p.tables e below (T4.setTop (mkF m 5 #[.val (.ref a1), .val (.int p2), .val (.int p3)] [(.ref a1)])) _
    refine XS.iloadN X4.here hx rfl (hb hby d1_5) rfl ?_
    show Steps p.tables e below (T4.setTop (mkF m 6 #[.val (.ref a1), .val (.int p2), .val (.int p3)] [(.int p2), (.ref a1)])) _
    refine st5 _ ?_
    show Steps p.tables e below (T5.setTop (mkF m 9 #[.val (.ref a1), .val (.int p2), .val (.int p3)] [])) _
    refine XS.aloadN X5.here hx rfl (hb hby d1_9) rfl rfl ?_
    show Steps p.tables e below (T5.setTop (mkF m 10 #[.val (.ref a1), .val (.int p2), .val (.int p3)] [(.ref a1)])) _
    refine XS.iloadN X5.here hx rfl (hb hby d1_10) rfl ?_
    show Steps p.tables e below (T5.setTop (mkF m 11 #[.val (.ref a1), .val (.int p2), .val (.int p3)] [(.int p3), (.ref a1)])) _
    refine st6 _ ?_
    show Steps p.tables e below (T6.setTop (mkF m 14 #[.val (.ref a1), .val (.int p2), .val (.int p3)] [])) _
    exact X6.returnOut hx Bd.returns (hb hby d1_14) hr
  · show Q1 Z a1 p2 p3 u_count_a1 u_size_a1 h0 n0 _ T6.heap _
    rw [e6]
    exact ⟨rfl, N6, K6, ((E_a1.wr W5).wr W6), (Fw5.other W6 (Or.inr (slot_ne (Or.inr (hw _ (List.mem_of_getElem? (i := 11) rfl))) (Or.inr (hw _ (List.mem_of_getElem? (i := 13) rfl))) (by decide) (t := .int) (t' := .int) (by decide) (by decide)))), Fw6⟩
theorem pdm_0 : parseMethodDescriptor "(II)V" = some ⟨[.int, .int], none⟩ := by decide +kernel
theorem d3_0 : decode prog_2_method_2_code 0 = .ok (.aload_n 0, 1) := by decide +kernel
theorem d3_1 : decode prog_2_method_2_code 1 = .ok (.getfield 7, 3) := by decide +kernel
theorem d3_4 : decode prog_2_method_2_code 4 = .ok (.i2l, 1) := by decide +kernel
theorem d3_5 : decode prog_2_method_2_code 5 = .ok (.aload_n 0, 1) := by decide +kernel
theorem d3_6 : decode prog_2_method_2_code 6 = .ok (.getfield 13, 3) := by decide +kernel
theorem d3_9 : decode prog_2_method_2_code 9 = .ok (.i2l, 1) := by decide +kernel
theorem d3_10 : decode prog_2_method_2_code 10 = .ok (.ladd, 1) := by decide +kernel
theorem d3_11 : decode prog_2_method_2_code 11 = .ok (.lconst 1, 1) := by decide +kernel
theorem d3_12 : decode prog_2_method_2_code 12 = .ok (.lsub, 1) := by decide +kernel
theorem d3_13 : decode prog_2_method_2_code 13 = .ok (.aload_n 0, 1) := by decide +kernel
theorem d3_14 : decode prog_2_method_2_code 14 = .ok (.getfield 13, 3) := by decide +kernel
theorem d3_17 : decode prog_2_method_2_code 17 = .ok (.i2l, 1) := by decide +kernel
theorem d3_18 : decode prog_2_method_2_code 18 = .ok (.ldiv, 1) := by decide +kernel
theorem d3_19 : decode prog_2_method_2_code 19 = .ok (.l2i, 1) := by decide +kernel
theorem d3_20 : decode prog_2_method_2_code 20 = .ok (.ireturn, 1) := by decide +kernel
def f3_0 (c1 : Int32) (c2 : Int32) : Int32 := (((((c1.toInt64) + (c2.toInt64)) - (1 : Int64)) / (c2.toInt64)).toInt32)
set_option maxRecDepth 65536 in
set_option maxHeartbeats 40000000 in
theorem b3_0 {p : Program} {l : Launch} {e : Env} {s : State} {m : MethodId} {args : Array Value} {below : List Frame} {meth : Method} {c : Code} {T : State} {locs : List Loc} {cells slots : Nat} {Z : State} {a0 : Array Value} {h : Heap} {n0 : Nat} {Q : Option Value → Heap → List Loc → Prop} (o0 : Addr) (c1 : Int32) (c2 : Int32) (hw : ∀ d ∈ tables_1, d.before a0 Z = true) (X : Stand p l e ({ frames := 0, cells := 0, slots := 0, locals := 0 } : Room) s m args below meth c T locs cells slots) (hx : p.tables.exec = Jvm.exec) (hZ : Z.Warmed39 s.vm) (hby : c.code = prog_2_method_2_code) (hml : c.maxLocals = 1) (hown : s.vm.findClass "com/example/nuthatch/nuthatch/Blocks" = some m.cls) (hret : meth.sig.returnType = some .int) (hlk : meth.locks = false) (eT : T.heap = h) (N : Fr n0 locs) (hc : cells ≤ 0) (hs : slots ≤ 0) (F1 : Fld Z h o0 "com/example/nuthatch/nuthatch/Blocks" "count" "I" (.int c1)) (F2 : Fld Z h o0 "com/example/nuthatch/nuthatch/Blocks" "size" "I" (.int c2)) (hnz : ¬ ((c2.toInt64) = (0 : Int64))) (v : Int32) (hv : v = f3_0 c1 c2) (hQ : ∀ L', Fr n0 L' → Q (some (.int v)) h L') :
    own_Fin p e below s Q 0 0 (T.setTop (mkF m 0 #[.val (.ref o0)] [])) := by
  refine own_step (fun t k => XS.aloadN X.here hx rfl (hb hby d3_0) rfl rfl k) ?_
  show own_Fin p e below s Q 0 0 (T.setTop (mkF m 1 #[.val (.ref o0)] [(.ref o0)]))
  obtain ⟨T1, X1, e1, st1⟩ := getF X hx hZ hown (host := "") (Or.inl (hw _ (List.mem_of_getElem? (i := 10) rfl))) Via.refl eT F1 (g := (mkF m 1 #[.val (.ref o0)] [(.ref o0)])) rfl rfl (hb hby d3_1)
  refine own_step st1 ?_
  show own_Fin p e below s Q 0 0 (T1.setTop (mkF m 4 #[.val (.ref o0)] [(.int c1)]))
  refine own_step (fun t k => XS.i2l X1.here hx rfl (hb hby d3_4) rfl k) ?_
  show own_Fin p e below s Q 0 0 (T1.setTop (mkF m 5 #[.val (.ref o0)] [(.long (c1.toInt64))]))
  refine own_step (fun t k => XS.aloadN X1.here hx rfl (hb hby d3_5) rfl rfl k) ?_
  show own_Fin p e below s Q 0 0 (T1.setTop (mkF m 6 #[.val (.ref o0)] [(.ref o0), (.long (c1.toInt64))]))
  obtain ⟨T2, X2, e2, st2⟩ := getF X1 hx hZ hown (host := "") (Or.inl (hw _ (List.mem_of_getElem? (i := 12) rfl))) Via.refl e1 F2 (g := (mkF m 6 #[.val (.ref o0)] [(.ref o0), (.long (c1.toInt64))])) rfl rfl (hb hby d3_6)
  refine own_step st2 ?_
  show own_Fin p e below s Q 0 0 (T2.setTop (mkF m 9 #[.val (.ref o0)] [(.int c2), (.long (c1.toInt64))]))
  refine own_step (fun t k => XS.i2l X2.here hx rfl (hb hby d3_9) rfl k) ?_
  show own_Fin p e below s Q 0 0 (T2.setTop (mkF m 10 #[.val (.ref o0)] [(.long (c2.toInt64)), (.long (c1.toInt64))]))
  refine own_step (fun t k => XS.ladd X2.here hx rfl (hb hby d3_10) rfl k) ?_
  show own_Fin p e below s Q 0 0 (T2.setTop (mkF m 11 #[.val (.ref o0)] [(.long ((c1.toInt64) + (c2.toInt64)))]))
  refine own_step (fun t k => XS.lconst X2.here hx rfl (hb hby d3_11) k) ?_
  show own_Fin p e below s Q 0 0 (T2.setTop (mkF m 12 #[.val (.ref o0)] [(.long (1 : Int64)), (.long ((c1.toInt64) + (c2.toInt64)))]))
  refine own_step (fun t k => XS.lsub X2.here hx rfl (hb hby d3_12) rfl k) ?_
  show own_Fin p e below s Q 0 0 (T2.setTop (mkF m 13 #[.val (.ref o0)] [(.long (((c1.toInt64) + (c2.toInt64)) - (1 : Int64)))]))
  refine own_step (fun t k => XS.aloadN X2.here hx rfl (hb hby d3_13) rfl rfl k) ?_
  show own_Fin p e below s Q 0 0 (T2.setTop (mkF m 14 #[.val (.ref o0)] [(.ref o0), (.long (((c1.toInt64) + (c2.toInt64)) - (1 : Int64)))]))
  obtain ⟨T3, X3, e3, st3⟩ := getF X2 hx hZ hown (host := "") (Or.inl (hw _ (List.mem_of_getElem? (i := 12) rfl))) Via.refl e2 F2 (g := (mkF m 14 #[.val (.ref o0)] [(.ref o0), (.long (((c1.toInt64) + (c2.toInt64)) - (1 : Int64)))])) rfl rfl (hb hby d3_14)
  refine own_step st3 ?_
  show own_Fin p e below s Q 0 0 (T3.setTop (mkF m 17 #[.val (.ref o0)] [(.int c2), (.long (((c1.toInt64) + (c2.toInt64)) - (1 : Int64)))]))
  refine own_step (fun t k => XS.i2l X3.here hx rfl (hb hby d3_17) rfl k) ?_
  show own_Fin p e below s Q 0 0 (T3.setTop (mkF m 18 #[.val (.ref o0)] [(.long (c2.toInt64)), (.long (((c1.toInt64) + (c2.toInt64)) - (1 : Int64)))]))
  refine own_step (fun t k => XS.ldiv X3.here hx rfl (hb hby d3_18) rfl hnz k) ?_
  show own_Fin p e below s Q 0 0 (T3.setTop (mkF m 19 #[.val (.ref o0)] [(.long ((((c1.toInt64) + (c2.toInt64)) - (1 : Int64)) / (c2.toInt64)))]))
  refine own_step (fun t k => XS.l2i X3.here hx rfl (hb hby d3_19) rfl k) ?_
  show own_Fin p e below s Q 0 0 (T3.setTop (mkF m 20 #[.val (.ref o0)] [(.int (((((c1.toInt64) + (c2.toInt64)) - (1 : Int64)) / (c2.toInt64)).toInt32))]))
  exact own_retI X3 hx hlk hret (hb hby d3_20) (by omega) (by omega) e3 N hQ (hv)
theorem pnm_0 : plainName "com/example/nuthatch/nuthatch/Blocks" = true := by first | (simp [plainName, overriddenIn]; done) | decide +kernel
theorem pdm_1 : parseMethodDescriptor "()I" = some ⟨[], some .int⟩ := by decide +kernel
theorem ef_3 (m : MethodId) (o0 : Addr) : entryFrame m #[(.ref o0)] 1 = (mkF m 0 #[.val (.ref o0)] []) := by first | (simp [entryFrame, mkF, argsToLocals, Value.category]; done) | rfl
def Q3 (o0 : Addr) (c1 : Int32) (c2 : Int32) (h0 : Heap) (n0 : Nat) (v : Option Value) (h : Heap) (L : List Loc) : Prop := v = some (.int (f3_0 c1 c2)) ∧ Fr n0 L ∧ h = h0
set_option maxRecDepth 65536 in
set_option maxHeartbeats 4000000 in
theorem rm3 (l : Launch) (Z : State) (a0 : Array Value) (hw : ∀ d ∈ tables_1, d.before a0 Z = true) (ws : List Jvm.Cond) (o0 : Addr) (c1 : Int32) (c2 : Int32) (h0 : Heap) (n0 : Nat) (F1 : Fld Z h0 o0 "com/example/nuthatch/nuthatch/Blocks" "count" "I" (.int c1)) (F2 : Fld Z h0 o0 "com/example/nuthatch/nuthatch/Blocks" "size" "I" (.int c2)) (hnz : ¬ ((c2.toInt64) = (0 : Int64))) :
    MetFree l (⟨"com/example/nuthatch/nuthatch/Blocks", "blockCount", "()I"⟩ : MethodName) (head1 (Jvm.Cond.code (⟨"com/example/nuthatch/nuthatch/Blocks", "blockCount", "()I"⟩ : MethodName) prog_2_method_2_code 1 (some .int) :: ws) ({ frames := 0, cells := 0, slots := 0, locals := 0 } : Room)) (fun a U => a = #[(.ref o0)] ∧ Z.Warmed39 U.vm ∧ U.heap = h0) (fun _ _ _ _ _ => True) (fun _ U o U' => ∃ v L, o = .returned v ∧ Q3 o0 c1 c2 h0 n0 v U'.heap L ∧ FrameEnd U o U' L ({ frames := 0, cells := 0, slots := 0, locals := 0 } : Room).cells ({ frames := 0, cells := 0, slots := 0, locals := 0 } : Room).slots) := by
  refine MetFree.of_bodySF (plainFor_of_name pnm_0) hisR ?_
  intro p e s m args below meth c s₁ Bd hml0 hP hK
  obtain ⟨rfl, hZ, hh⟩ := hP
  have hx := Bd.exec
  have hby := Bd.bytes
  have hml : c.maxLocals = 1 := hml0
  have hown : s.vm.findClass "com/example/nuthatch/nuthatch/Blocks" = some m.cls := findClass_of_methodNamed Bd.named
  have X0 : Stand p l e ({ frames := 0, cells := 0, slots := 0, locals := 0 } : Room) s m #[(.ref o0)] below meth c s₁ [] 0 0 := Stand.of_body Bd
  have e0 : s₁.heap = h0 := by rw [← hh, Bd.state]; rfl
  have fin := b3_0 o0 c1 c2 (Q := Q3 o0 c1 c2 h0 n0) hw X0 hx hZ hby hml hown Bd.returns (BodyLoose.notSynchronized Bd) e0 (Fr.nil n0) (Nat.zero_le _) (Nat.zero_le _) F1 F2 hnz _ rfl (fun L' n' => ⟨rfl, n', rfl⟩)
  exact own_step (fun t k => castTop (ef_3 m o0) k) fin
theorem own_nz {c : Int32} (h : 0 < c.toInt) : ¬ (c.toInt64 = (0 : Int64)) := fun q => by
  have e := c_i2l c
  rw [q] at e
  have z : (0 : Int64).toInt = 0 := by decide
  omega
theorem own_q (C S : Int) (hC : 0 ≤ C) (hS : 0 < S) : ∃ P : Int, (C + S - 1) / S * S = P ∧ 0 ≤ (C + S - 1) / S ∧ (C + S - 1) / S ≤ C ∧ C ≤ P ∧ P ≤ C + S - 1 := by
  have e := Int.mul_ediv_add_emod (C + S - 1) S
  have r0 := Int.emod_nonneg (C + S - 1) (Int.ne_of_gt hS)
  have r1 := Int.emod_lt_of_pos (C + S - 1) hS
  have q0 : 0 ≤ (C + S - 1) / S := Int.ediv_nonneg (by omega) (by omega)
  have cs : C * 1 ≤ C * S := Int.mul_le_mul_of_nonneg_left (by omega) hC
  have q1 : (C + S - 1) / S < C + 1 := Int.ediv_lt_of_lt_mul hS (by rw [Int.add_mul]; omega)
  refine ⟨S * ((C + S - 1) / S), Int.mul_comm _ _, q0, by omega, ?_, ?_⟩ <;> omega
theorem own_blocks (c s : Int32) (hc : 0 ≤ c.toInt) (hs : 0 < s.toInt) : (c = 0 → f3_0 c s = (0 : Int32)) ∧
    ¬ ((lcmpW (((f3_0 c s).toInt64) * (s.toInt64)) (c.toInt64)) < (0 : Int32)) ∧ (¬ c = 0 → (lcmpW ((((f3_0 c s).toInt64) - (1 : Int64)) * (s.toInt64)) (c.toInt64)) < (0 : Int32)) := by
  have rc := rng32 c
  have rs := rng32 s
  obtain ⟨P, p1, p2, p3, p4, p5⟩ := own_q c.toInt s.toInt hc hs
  have a1 := c_ladd c.toInt64 s.toInt64
  have a2 := c_lsub (c.toInt64 + s.toInt64) 1
  have i1 := c_i2l c
  have i2 := c_i2l s
  have z1 : (1 : Int64).toInt = 1 := by decide
  have r1 := rng64 (c.toInt64 + s.toInt64)
  have r2 := rng64 (c.toInt64 + s.toInt64 - 1)
  have e1 : (c.toInt64 + s.toInt64 - 1).toInt = c.toInt + s.toInt - 1 := by omega
  have n1 : s.toInt64 ≠ -1 := fun q => by
    rw [q] at i2
    have z : (-1 : Int64).toInt = -1 := by decide
    omega
  have d1 := (c_ldiv (c.toInt64 + s.toInt64 - 1) s.toInt64 s.toInt i2 n1).1 (by omega)
  rw [e1] at d1
  have l1 := c_l2i ((c.toInt64 + s.toInt64 - 1) / s.toInt64)
  have e2 : f3_0 c s = ((c.toInt64 + s.toInt64 - 1) / s.toInt64).toInt32 := rfl
  rw [← e2, d1] at l1
  have r3 := rng32 (f3_0 c s)
  have e3 : (f3_0 c s).toInt = (c.toInt + s.toInt - 1) / s.toInt := by omega
  generalize f3_0 c s = b at l1 r3 e3 ⊢
  have i3 := c_i2l b
  have m1 := c_lmul b.toInt64 s.toInt64
  rw [i3, i2, e3, p1] at m1
  have r4 := rng64 (b.toInt64 * s.toInt64)
  have e4 : (b.toInt64 * s.toInt64).toInt = P := by omega
  have s1 := c_lsub b.toInt64 1
  have r5 := rng64 (b.toInt64 - 1)
  have e5 : (b.toInt64 - 1).toInt = (c.toInt + s.toInt - 1) / s.toInt - 1 := by omega
  have m2 := c_lmul (b.toInt64 - 1) s.toInt64
  rw [e5, i2, Int.sub_mul, p1] at m2
  have r6 := rng64 ((b.toInt64 - 1) * s.toInt64)
  have e6 : ((b.toInt64 - 1) * s.toInt64).toInt = P - s.toInt := by omega
  refine ⟨fun q => ?_, fun q => ?_, fun q => ?_⟩
  · have q' : c.toInt = 0 := by rw [q]; decide
    exact (own_eqi (b := 0) (by decide)).mpr (by omega)
  · have q' := Int64.lt_iff_toInt_lt.mp ((lw_lt _ _).mp q)
    omega
  · have q' : ¬ c.toInt = 0 := fun y => q ((own_eqi (by decide)).mpr y)
    exact (lw_lt _ _).mpr (Int64.lt_iff_toInt_lt.mpr (by omega))
theorem own_msk (x : Int32) : 0 ≤ (x &&& (2147483647 : Int32)).toInt := (c_and x 2147483647 (by decide)).1
theorem own_pos1 (x : Int32) (h : ¬ (x &&& (2147483647 : Int32)) = (0 : Int32)) : 0 < (x &&& (2147483647 : Int32)).toInt := by
  have a := own_msk x
  have b : ¬ (x &&& (2147483647 : Int32)).toInt = 0 := fun y => h ((own_eqi (by decide)).mpr y)
  omega
theorem own_one : 0 < (1 : Int32).toInt := by decide
theorem own_d0 {c s : Int32} (hc : 0 ≤ c.toInt) (hs : 0 < s.toInt) : 0 ≤ (c - (c % s)).toInt := by
  have e := ((c_iremV c s).1 hc hs)
  have a := c_isub c (c % s)
  have r := rng32 (c - (c % s))
  have r2 := rng32 c
  omega
theorem own_d1 {d : Int32} (hd : 0 ≤ d.toInt) (h : d < (2147483647 : Int32)) : 0 ≤ (d + (1 : Int32)).toInt := by
  have h' := Int32.lt_iff_toInt_lt.mp h
  have z : (2147483647 : Int32).toInt = 2147483647 := by decide
  have z1 : (1 : Int32).toInt = 1 := by decide
  have a := c_iadd d 1
  have r := rng32 (d + 1)
  omega
theorem own_d2 {d : Int32} (h : ¬ d < (1 : Int32)) : 0 ≤ (d - (1 : Int32)).toInt := by
  have z1 : (1 : Int32).toInt = 1 := by decide
  have h' : ¬ d.toInt < (1 : Int32).toInt := fun y => h (Int32.lt_iff_toInt_lt.mpr y)
  have a := c_isub d 1
  have r := rng32 (d - 1)
  have r2 := rng32 d
  omega
set_option maxRecDepth 65536 in
set_option maxHeartbeats 40000000 in
theorem b0_82 {p : Program} {l : Launch} {e : Env} {s : State} {m : MethodId} {args : Array Value} {below : List Frame} {meth : Method} {c : Code} {T : State} {locs : List Loc} {cells slots : Nat} {Z : State} {a0 : Array Value} {h : Heap} {n0 : Nat} {Q : Option Value → Heap → List Loc → Prop} (i0 : Int32) (i1 : Int32) (i2 : Int32) (i3 : Int32) (i4 : Int32) (i5 : Int32) (i6 : Int32) (hw : ∀ d ∈ tables_1, d.before a0 Z = true) (X : Stand p l e room_1 s m args below meth c T locs cells slots) (hx : p.tables.exec = Jvm.exec) (hZ : Z.Warmed39 s.vm) (hby : c.code = code) (hml : c.maxLocals = 15) (hown : s.vm.findClass "com/example/nuthatch/nuthatch/BlocksBlockCountPinLaw" = some m.cls) (hret : meth.sig.returnType = some .boolean) (hlk : meth.locks = false) (eT : T.heap = h) (N : Fr n0 locs) (hc : cells ≤ 0) (hs : slots ≤ 0) (hz : 0 < i4.toInt) (hp : 0 ≤ i3.toInt) (Z0 : n0 ≤ h.size) (hQ : ∀ H' L', Fr n0 L' → Q (some (.int 1)) H' L') :
    own_Fin p e below s Q 16 128 (T.setTop (mkF m 82 #[.val (.int i0), .val (.int i1), .val (.int i2), .val (.int i3), .val (.int i4), .val (.int i5), .val (.int i6), .unset, .unset, .unset, .unset, .unset, .unset, .unset, .unset] [])) := by
  obtain ⟨T6, h6, X6, e6, E6, A6, D6, -, st6⟩ := newO X hx hZ hown (hw _ (List.mem_of_getElem? (i := 1) rfl)) (hw _ (List.mem_of_getElem? (i := 2) rfl)) (hw _ (List.mem_of_getElem? (i := 3) rfl)) eT (g := (mkF m 82 #[.val (.int i0), .val (.int i1), .val (.int i2), .val (.int i3), .val (.int i4), .val (.int i5), .val (.int i6), .unset, .unset, .unset, .unset, .unset, .unset, .unset, .unset] [])) rfl (hb hby at_82) (by show cells + 1 ≤ 16; omega) (by show slots + 2 ≤ 128; omega)
  obtain ⟨b6, gg6⟩ : ∃ z, z = h.size := ⟨_, rfl⟩
  rw [← gg6] at A6 D6 st6
  have F6_count : Fld Z h6 b6 "com/example/nuthatch/nuthatch/Blocks" "count" "I" (.int (0 : Int32)) := D6 (Or.inr (hw _ (List.mem_of_getElem? (i := 11) rfl))) (ty := .int) (by decide)
  have F6_size : Fld Z h6 b6 "com/example/nuthatch/nuthatch/Blocks" "size" "I" (.int (0 : Int32)) := D6 (Or.inr (hw _ (List.mem_of_getElem? (i := 13) rfl))) (ty := .int) (by decide)
  have fr6 : n0 ≤ b6 := Nat.le_trans Z0 (Nat.le_of_eq gg6.symm)
  have Z06 : n0 ≤ h6.size := Nat.le_trans Z0 E6.1
  refine own_step st6 ?_
  show own_Fin p e below s Q 16 128 (T6.setTop (mkF m 85 #[.val (.int i0), .val (.int i1), .val (.int i2), .val (.int i3), .val (.int i4), .val (.int i5), .val (.int i6), .unset, .unset, .unset, .unset, .unset, .unset, .unset, .unset] [(.ref b6)]))
  refine own_step (fun t k => XS.dup X6.here hx rfl (hb hby at_85) rfl rfl k) ?_
  show own_Fin p e below s Q 16 128 (T6.setTop (mkF m 86 #[.val (.int i0), .val (.int i1), .val (.int i2), .val (.int i3), .val (.int i4), .val (.int i5), .val (.int i6), .unset, .unset, .unset, .unset, .unset, .unset, .unset, .unset] [(.ref b6), (.ref b6)]))
  refine own_step (fun t k => XS.iloadN X6.here hx rfl (hb hby at_86) rfl  k) ?_
  show own_Fin p e below s Q 16 128 (T6.setTop (mkF m 87 #[.val (.int i0), .val (.int i1), .val (.int i2), .val (.int i3), .val (.int i4), .val (.int i5), .val (.int i6), .unset, .unset, .unset, .unset, .unset, .unset, .unset, .unset] [(.int i3), (.ref b6), (.ref b6)]))
  refine own_step (fun t k => XS.iload X6.here hx rfl (hb hby at_87) rfl  k) ?_
  show own_Fin p e below s Q 16 128 (T6.setTop (mkF m 89 #[.val (.int i0), .val (.int i1), .val (.int i2), .val (.int i3), .val (.int i4), .val (.int i5), .val (.int i6), .unset, .unset, .unset, .unset, .unset, .unset, .unset, .unset] [(.int i4), (.int i3), (.ref b6), (.ref b6)]))
  obtain ⟨_, _, ⟨T7, L7, k7, n7⟩, -, X7, ⟨Lc7, hQ7, l7, y7, z7⟩, st7⟩ := X6.specialBack hx (y := (⟨"com/example/nuthatch/nuthatch/Blocks", "<init>", "(II)V"⟩ : MethodName)) rfl hown (mvT hZ (hw _ (List.mem_of_getElem? (i := 4) rfl))) (mvT hZ (hw _ (List.mem_of_getElem? (i := 5) rfl))) (mvT hZ (hw _ (List.mem_of_getElem? (i := 6) rfl))) (by decide) (backOf (W := 1) (rm1 l Z a0 hw [] b6 i3 i4 (.int (0 : Int32)) (.int (0 : Int32)) h6 n0 Z06 A6 F6_count fr6 F6_size) hZ (hw _ (List.mem_of_getElem? (i := 6) rfl)) (hw _ (List.mem_of_getElem? (i := 3) rfl)) (by decide) (by decide)) (g := (mkF m 89 #[.val (.int i0), .val (.int i1), .val (.int i2), .val (.int i3), .val (.int i4), .val (.int i5), .val (.int i6), .unset, .unset, .unset, .unset, .unset, .unset, .unset, .unset] [(.int i4), (.int i3), (.ref b6), (.ref b6)])) rfl (by rw [hml]; rfl) (Steps.refl _) (a := b6) (argsL := [(.int i3), (.int i4)]) (rest := [(.ref b6)]) (lenOf pdm_0 rfl) rfl (by show 2 * 0 + _ ≤ _; exact Nat.le_of_eq rfl) (hb hby at_89) (fun _ _ => ⟨rfl, e6, (by show cells + 1 + 0 ≤ 16; omega), (by show slots + 2 + 0 ≤ 128; omega)⟩)
  dsimp only [Pt.U, Pt.locs, Pt.cells, Pt.slots] at X7 l7 y7 z7 st7 hQ7
  subst l7 y7 z7
  obtain ⟨rfl, N7q, K7, Ex7, F7_count, F7_size⟩ := hQ7
  have N7 := Fr.app N N7q
  have Z07 : n0 ≤ T7.heap.size := Nat.le_trans Z06 K7.1
  refine own_step (fun t k => st7.trans k) ?_
  show own_Fin p e below s Q 16 128 (T7.setTop (mkF m 92 #[.val (.int i0), .val (.int i1), .val (.int i2), .val (.int i3), .val (.int i4), .val (.int i5), .val (.int i6), .unset, .unset, .unset, .unset, .unset, .unset, .unset, .unset] [(.ref b6)]))
  refine own_step (fun t k => XS.astore X7.here hx rfl (hb hby at_92) rfl rfl (l' := #[.val (.int i0), .val (.int i1), .val (.int i2), .val (.int i3), .val (.int i4), .val (.int i5), .val (.int i6), .val (.ref b6), .unset, .unset, .unset, .unset, .unset, .unset, .unset]) rfl k) ?_
  show own_Fin p e below s Q 16 128 (T7.setTop (mkF m 94 #[.val (.int i0), .val (.int i1), .val (.int i2), .val (.int i3), .val (.int i4), .val (.int i5), .val (.int i6), .val (.ref b6), .unset, .unset, .unset, .unset, .unset, .unset, .unset] []))
  refine own_step (fun t k => XS.aload X7.here hx rfl (hb hby at_94) rfl rfl k) ?_
  show own_Fin p e below s Q 16 128 (T7.setTop (mkF m 96 #[.val (.int i0), .val (.int i1), .val (.int i2), .val (.int i3), .val (.int i4), .val (.int i5), .val (.int i6), .val (.ref b6), .unset, .unset, .unset, .unset, .unset, .unset, .unset] [(.ref b6)]))
  obtain ⟨cq8, kq8, q8a, q8b, q8c⟩ := isOf hZ rfl Ex7
  obtain ⟨_, _, ⟨T8, L8, k8, n8⟩, -, X8, ⟨Lc8, hQ8, l8, y8, z8⟩, st8⟩ := X7.virtualBack hx (y := (⟨"com/example/nuthatch/nuthatch/Blocks", "blockCount", "()I"⟩ : MethodName)) (z := (⟨"com/example/nuthatch/nuthatch/Blocks", "blockCount", "()I"⟩ : MethodName)) hown (mvT hZ (hw _ (List.mem_of_getElem? (i := 14) rfl))) (mvT hZ (hw _ (List.mem_of_getElem? (i := 15) rfl))) (notFace_of_selects (args := #[]) (mvT hZ (hw _ (List.mem_of_getElem? (i := 17) rfl)))) (mvT hZ (hw _ (List.mem_of_getElem? (i := 17) rfl))) (mvT hZ (hw _ (List.mem_of_getElem? (i := 16) rfl))) (by decide) (backOf (W := 0) (rm3 l Z a0 hw [] b6 i3 i4 T7.heap n0 F7_count F7_size (own_nz hz)) hZ (hw _ (List.mem_of_getElem? (i := 18) rfl)) (hw _ (List.mem_of_getElem? (i := 3) rfl)) (by decide) (by decide)) q8a q8c (g := (mkF m 96 #[.val (.int i0), .val (.int i1), .val (.int i2), .val (.int i3), .val (.int i4), .val (.int i5), .val (.int i6), .val (.ref b6), .unset, .unset, .unset, .unset, .unset, .unset, .unset] [(.ref b6)])) rfl (by rw [hml]; rfl) (Steps.refl _) (argsL := []) (rest := []) (lenOf pdm_1 rfl) rfl (by show 2 * 0 + _ ≤ _; exact Nat.le_of_eq rfl) (hb hby at_96) (fun _ _ => ⟨rfl, rfl, (by show cells + 1 + 0 + 0 ≤ 16; omega), (by show slots + 2 + 0 + 0 ≤ 128; omega)⟩)
  dsimp only [Pt.U, Pt.locs, Pt.cells, Pt.slots] at X8 l8 y8 z8 st8 hQ8
  subst l8 y8 z8
  obtain ⟨rfl, N8q, e8⟩ := hQ8
  have N8 := Fr.app N7 N8q
  refine own_step (fun t k => st8.trans k) ?_
  show own_Fin p e below s Q 16 128 (T8.setTop (mkF m 99 #[.val (.int i0), .val (.int i1), .val (.int i2), .val (.int i3), .val (.int i4), .val (.int i5), .val (.int i6), .val (.ref b6), .unset, .unset, .unset, .unset, .unset, .unset, .unset] [(.int (f3_0 i3 i4))]))
  refine own_step (fun t k => XS.istore X8.here hx rfl (hb hby at_99) rfl (l' := #[.val (.int i0), .val (.int i1), .val (.int i2), .val (.int i3), .val (.int i4), .val (.int i5), .val (.int i6), .val (.ref b6), .val (.int (f3_0 i3 i4)), .unset, .unset, .unset, .unset, .unset, .unset]) rfl k) ?_
  show own_Fin p e below s Q 16 128 (T8.setTop (mkF m 101 #[.val (.int i0), .val (.int i1), .val (.int i2), .val (.int i3), .val (.int i4), .val (.int i5), .val (.int i6), .val (.ref b6), .val (.int (f3_0 i3 i4)), .unset, .unset, .unset, .unset, .unset, .unset] []))
  refine own_step (fun t k => XS.iload X8.here hx rfl (hb hby at_101) rfl  k) ?_
  show own_Fin p e below s Q 16 128 (T8.setTop (mkF m 103 #[.val (.int i0), .val (.int i1), .val (.int i2), .val (.int i3), .val (.int i4), .val (.int i5), .val (.int i6), .val (.ref b6), .val (.int (f3_0 i3 i4)), .unset, .unset, .unset, .unset, .unset, .unset] [(.int (f3_0 i3 i4))]))
  refine own_step (fun t k => XS.i2l X8.here hx rfl (hb hby at_103) rfl k) ?_
  show own_Fin p e below s Q 16 128 (T8.setTop (mkF m 104 #[.val (.int i0), .val (.int i1), .val (.int i2), .val (.int i3), .val (.int i4), .val (.int i5), .val (.int i6), .val (.ref b6), .val (.int (f3_0 i3 i4)), .unset, .unset, .unset, .unset, .unset, .unset] [(.long ((f3_0 i3 i4).toInt64))]))
  refine own_step (fun t k => XS.lstore X8.here hx rfl (hb hby at_104) rfl (l' := #[.val (.int i0), .val (.int i1), .val (.int i2), .val (.int i3), .val (.int i4), .val (.int i5), .val (.int i6), .val (.ref b6), .val (.int (f3_0 i3 i4)), .val (.long ((f3_0 i3 i4).toInt64)), .second, .unset, .unset, .unset, .unset]) rfl k) ?_
  show own_Fin p e below s Q 16 128 (T8.setTop (mkF m 106 #[.val (.int i0), .val (.int i1), .val (.int i2), .val (.int i3), .val (.int i4), .val (.int i5), .val (.int i6), .val (.ref b6), .val (.int (f3_0 i3 i4)), .val (.long ((f3_0 i3 i4).toInt64)), .second, .unset, .unset, .unset, .unset] []))
  refine own_step (fun t k => XS.iload X8.here hx rfl (hb hby at_106) rfl  k) ?_
  show own_Fin p e below s Q 16 128 (T8.setTop (mkF m 108 #[.val (.int i0), .val (.int i1), .val (.int i2), .val (.int i3), .val (.int i4), .val (.int i5), .val (.int i6), .val (.ref b6), .val (.int (f3_0 i3 i4)), .val (.long ((f3_0 i3 i4).toInt64)), .second, .unset, .unset, .unset, .unset] [(.int i4)]))
  refine own_step (fun t k => XS.i2l X8.here hx rfl (hb hby at_108) rfl k) ?_
  show own_Fin p e below s Q 16 128 (T8.setTop (mkF m 109 #[.val (.int i0), .val (.int i1), .val (.int i2), .val (.int i3), .val (.int i4), .val (.int i5), .val (.int i6), .val (.ref b6), .val (.int (f3_0 i3 i4)), .val (.long ((f3_0 i3 i4).toInt64)), .second, .unset, .unset, .unset, .unset] [(.long (i4.toInt64))]))
  refine own_step (fun t k => XS.lstore X8.here hx rfl (hb hby at_109) rfl (l' := #[.val (.int i0), .val (.int i1), .val (.int i2), .val (.int i3), .val (.int i4), .val (.int i5), .val (.int i6), .val (.ref b6), .val (.int (f3_0 i3 i4)), .val (.long ((f3_0 i3 i4).toInt64)), .second, .val (.long (i4.toInt64)), .second, .unset, .unset]) rfl k) ?_
  show own_Fin p e below s Q 16 128 (T8.setTop (mkF m 111 #[.val (.int i0), .val (.int i1), .val (.int i2), .val (.int i3), .val (.int i4), .val (.int i5), .val (.int i6), .val (.ref b6), .val (.int (f3_0 i3 i4)), .val (.long ((f3_0 i3 i4).toInt64)), .second, .val (.long (i4.toInt64)), .second, .unset, .unset] []))
  refine own_step (fun t k => XS.iloadN X8.here hx rfl (hb hby at_111) rfl  k) ?_
  show own_Fin p e below s Q 16 128 (T8.setTop (mkF m 112 #[.val (.int i0), .val (.int i1), .val (.int i2), .val (.int i3), .val (.int i4), .val (.int i5), .val (.int i6), .val (.ref b6), .val (.int (f3_0 i3 i4)), .val (.long ((f3_0 i3 i4).toInt64)), .second, .val (.long (i4.toInt64)), .second, .unset, .unset] [(.int i3)]))
  refine own_step (fun t k => XS.i2l X8.here hx rfl (hb hby at_112) rfl k) ?_
  show own_Fin p e below s Q 16 128 (T8.setTop (mkF m 113 #[.val (.int i0), .val (.int i1), .val (.int i2), .val (.int i3), .val (.int i4), .val (.int i5), .val (.int i6), .val (.ref b6), .val (.int (f3_0 i3 i4)), .val (.long ((f3_0 i3 i4).toInt64)), .second, .val (.long (i4.toInt64)), .second, .unset, .unset] [(.long (i3.toInt64))]))
  refine own_step (fun t k => XS.lstore X8.here hx rfl (hb hby at_113) rfl (l' := #[.val (.int i0), .val (.int i1), .val (.int i2), .val (.int i3), .val (.int i4), .val (.int i5), .val (.int i6), .val (.ref b6), .val (.int (f3_0 i3 i4)), .val (.long ((f3_0 i3 i4).toInt64)), .second, .val (.long (i4.toInt64)), .second, .val (.long (i3.toInt64)), .second]) rfl k) ?_
  show own_Fin p e below s Q 16 128 (T8.setTop (mkF m 115 #[.val (.int i0), .val (.int i1), .val (.int i2), .val (.int i3), .val (.int i4), .val (.int i5), .val (.int i6), .val (.ref b6), .val (.int (f3_0 i3 i4)), .val (.long ((f3_0 i3 i4).toInt64)), .second, .val (.long (i4.toInt64)), .second, .val (.long (i3.toInt64)), .second] []))
  refine own_step (fun t k => XS.iloadN X8.here hx rfl (hb hby at_115) rfl  k) ?_
  show own_Fin p e below s Q 16 128 (T8.setTop (mkF m 116 #[.val (.int i0), .val (.int i1), .val (.int i2), .val (.int i3), .val (.int i4), .val (.int i5), .val (.int i6), .val (.ref b6), .val (.int (f3_0 i3 i4)), .val (.long ((f3_0 i3 i4).toInt64)), .second, .val (.long (i4.toInt64)), .second, .val (.long (i3.toInt64)), .second] [(.int i3)]))
  by_cases hB116_9 : i3 = (0 : Int32)
  · refine own_step (fun t k => XS.ifNo X8.here hx rfl (hb hby at_116) rfl ((if0 _ _).trans (teq hB116_9).2) k) ?_
    show own_Fin p e below s Q 16 128 (T8.setTop (mkF m 119 #[.val (.int i0), .val (.int i1), .val (.int i2), .val (.int i3), .val (.int i4), .val (.int i5), .val (.int i6), .val (.ref b6), .val (.int (f3_0 i3 i4)), .val (.long ((f3_0 i3 i4).toInt64)), .second, .val (.long (i4.toInt64)), .second, .val (.long (i3.toInt64)), .second] []))
    refine own_step (fun t k => XS.iload X8.here hx rfl (hb hby at_119) rfl  k) ?_
    show own_Fin p e below s Q 16 128 (T8.setTop (mkF m 121 #[.val (.int i0), .val (.int i1), .val (.int i2), .val (.int i3), .val (.int i4), .val (.int i5), .val (.int i6), .val (.ref b6), .val (.int (f3_0 i3 i4)), .val (.long ((f3_0 i3 i4).toInt64)), .second, .val (.long (i4.toInt64)), .second, .val (.long (i3.toInt64)), .second] [(.int (f3_0 i3 i4))]))
    refine own_step (fun t k => XS.ifNo X8.here hx rfl (hb hby at_121) rfl ((if0 _ _).trans (teq ((own_blocks i3 i4 hp hz).1 hB116_9)).2) k) ?_
    show own_Fin p e below s Q 16 128 (T8.setTop (mkF m 124 #[.val (.int i0), .val (.int i1), .val (.int i2), .val (.int i3), .val (.int i4), .val (.int i5), .val (.int i6), .val (.ref b6), .val (.int (f3_0 i3 i4)), .val (.long ((f3_0 i3 i4).toInt64)), .second, .val (.long (i4.toInt64)), .second, .val (.long (i3.toInt64)), .second] []))
    refine own_step (fun t k => XS.iconst X8.here hx rfl (hb hby at_124) k) ?_
    show own_Fin p e below s Q 16 128 (T8.setTop (mkF m 125 #[.val (.int i0), .val (.int i1), .val (.int i2), .val (.int i3), .val (.int i4), .val (.int i5), .val (.int i6), .val (.ref b6), .val (.int (f3_0 i3 i4)), .val (.long ((f3_0 i3 i4).toInt64)), .second, .val (.long (i4.toInt64)), .second, .val (.long (i3.toInt64)), .second] [(.int (1 : Int32))]))
    refine own_step (fun t k => XS.goto X8.here hx rfl (pc0 := 125) (pc' := 129) rfl (hb hby at_125) (by decide) (by decide) k) ?_
    show own_Fin p e below s Q 16 128 (T8.setTop (mkF m 129 #[.val (.int i0), .val (.int i1), .val (.int i2), .val (.int i3), .val (.int i4), .val (.int i5), .val (.int i6), .val (.ref b6), .val (.int (f3_0 i3 i4)), .val (.long ((f3_0 i3 i4).toInt64)), .second, .val (.long (i4.toInt64)), .second, .val (.long (i3.toInt64)), .second] [(.int (1 : Int32))]))
    exact own_retN X8 hx hlk hret (by simp) (hb hby at_129) (by omega) (by omega) rfl N8 (fun L' n' => hQ _ L' n') (rfl)
  · refine own_step (fun t k => XS.ifYes X8.here hx rfl (pc0 := 116) (pc' := 130) rfl (hb hby at_116) rfl ((if0 _ _).trans (feq hB116_9).2) (by decide) (by decide) k) ?_
    show own_Fin p e below s Q 16 128 (T8.setTop (mkF m 130 #[.val (.int i0), .val (.int i1), .val (.int i2), .val (.int i3), .val (.int i4), .val (.int i5), .val (.int i6), .val (.ref b6), .val (.int (f3_0 i3 i4)), .val (.long ((f3_0 i3 i4).toInt64)), .second, .val (.long (i4.toInt64)), .second, .val (.long (i3.toInt64)), .second] []))
    refine own_step (fun t k => XS.lload X8.here hx rfl (hb hby at_130) rfl  k) ?_
    show own_Fin p e below s Q 16 128 (T8.setTop (mkF m 132 #[.val (.int i0), .val (.int i1), .val (.int i2), .val (.int i3), .val (.int i4), .val (.int i5), .val (.int i6), .val (.ref b6), .val (.int (f3_0 i3 i4)), .val (.long ((f3_0 i3 i4).toInt64)), .second, .val (.long (i4.toInt64)), .second, .val (.long (i3.toInt64)), .second] [(.long ((f3_0 i3 i4).toInt64))]))
    refine own_step (fun t k => XS.lload X8.here hx rfl (hb hby at_132) rfl  k) ?_
    show own_Fin p e below s Q 16 128 (T8.setTop (mkF m 134 #[.val (.int i0), .val (.int i1), .val (.int i2), .val (.int i3), .val (.int i4), .val (.int i5), .val (.int i6), .val (.ref b6), .val (.int (f3_0 i3 i4)), .val (.long ((f3_0 i3 i4).toInt64)), .second, .val (.long (i4.toInt64)), .second, .val (.long (i3.toInt64)), .second] [(.long (i4.toInt64)), (.long ((f3_0 i3 i4).toInt64))]))
    refine own_step (fun t k => XS.lmul X8.here hx rfl (hb hby at_134) rfl k) ?_
    show own_Fin p e below s Q 16 128 (T8.setTop (mkF m 135 #[.val (.int i0), .val (.int i1), .val (.int i2), .val (.int i3), .val (.int i4), .val (.int i5), .val (.int i6), .val (.ref b6), .val (.int (f3_0 i3 i4)), .val (.long ((f3_0 i3 i4).toInt64)), .second, .val (.long (i4.toInt64)), .second, .val (.long (i3.toInt64)), .second] [(.long (((f3_0 i3 i4).toInt64) * (i4.toInt64)))]))
    refine own_step (fun t k => XS.lload X8.here hx rfl (hb hby at_135) rfl  k) ?_
    show own_Fin p e below s Q 16 128 (T8.setTop (mkF m 137 #[.val (.int i0), .val (.int i1), .val (.int i2), .val (.int i3), .val (.int i4), .val (.int i5), .val (.int i6), .val (.ref b6), .val (.int (f3_0 i3 i4)), .val (.long ((f3_0 i3 i4).toInt64)), .second, .val (.long (i4.toInt64)), .second, .val (.long (i3.toInt64)), .second] [(.long (i3.toInt64)), (.long (((f3_0 i3 i4).toInt64) * (i4.toInt64)))]))
    refine own_step (fun t k => XS.lcmp X8.here hx rfl (hb hby at_137) rfl k) ?_
    show own_Fin p e below s Q 16 128 (T8.setTop (mkF m 138 #[.val (.int i0), .val (.int i1), .val (.int i2), .val (.int i3), .val (.int i4), .val (.int i5), .val (.int i6), .val (.ref b6), .val (.int (f3_0 i3 i4)), .val (.long ((f3_0 i3 i4).toInt64)), .second, .val (.long (i4.toInt64)), .second, .val (.long (i3.toInt64)), .second] [(.int (lcmpW (((f3_0 i3 i4).toInt64) * (i4.toInt64)) (i3.toInt64)))]))
    refine own_step (fun t k => XS.ifNo X8.here hx rfl (hb hby at_138) rfl ((if0 _ _).trans (flt ((own_blocks i3 i4 hp hz).2.1)).1) k) ?_
    show own_Fin p e below s Q 16 128 (T8.setTop (mkF m 141 #[.val (.int i0), .val (.int i1), .val (.int i2), .val (.int i3), .val (.int i4), .val (.int i5), .val (.int i6), .val (.ref b6), .val (.int (f3_0 i3 i4)), .val (.long ((f3_0 i3 i4).toInt64)), .second, .val (.long (i4.toInt64)), .second, .val (.long (i3.toInt64)), .second] []))
    refine own_step (fun t k => XS.lload X8.here hx rfl (hb hby at_141) rfl  k) ?_
    show own_Fin p e below s Q 16 128 (T8.setTop (mkF m 143 #[.val (.int i0), .val (.int i1), .val (.int i2), .val (.int i3), .val (.int i4), .val (.int i5), .val (.int i6), .val (.ref b6), .val (.int (f3_0 i3 i4)), .val (.long ((f3_0 i3 i4).toInt64)), .second, .val (.long (i4.toInt64)), .second, .val (.long (i3.toInt64)), .second] [(.long ((f3_0 i3 i4).toInt64))]))
    refine own_step (fun t k => XS.lconst X8.here hx rfl (hb hby at_143) k) ?_
    show own_Fin p e below s Q 16 128 (T8.setTop (mkF m 144 #[.val (.int i0), .val (.int i1), .val (.int i2), .val (.int i3), .val (.int i4), .val (.int i5), .val (.int i6), .val (.ref b6), .val (.int (f3_0 i3 i4)), .val (.long ((f3_0 i3 i4).toInt64)), .second, .val (.long (i4.toInt64)), .second, .val (.long (i3.toInt64)), .second] [(.long (1 : Int64)), (.long ((f3_0 i3 i4).toInt64))]))
    refine own_step (fun t k => XS.lsub X8.here hx rfl (hb hby at_144) rfl k) ?_
    show own_Fin p e below s Q 16 128 (T8.setTop (mkF m 145 #[.val (.int i0), .val (.int i1), .val (.int i2), .val (.int i3), .val (.int i4), .val (.int i5), .val (.int i6), .val (.ref b6), .val (.int (f3_0 i3 i4)), .val (.long ((f3_0 i3 i4).toInt64)), .second, .val (.long (i4.toInt64)), .second, .val (.long (i3.toInt64)), .second] [(.long (((f3_0 i3 i4).toInt64) - (1 : Int64)))]))
    refine own_step (fun t k => XS.lload X8.here hx rfl (hb hby at_145) rfl  k) ?_
    show own_Fin p e below s Q 16 128 (T8.setTop (mkF m 147 #[.val (.int i0), .val (.int i1), .val (.int i2), .val (.int i3), .val (.int i4), .val (.int i5), .val (.int i6), .val (.ref b6), .val (.int (f3_0 i3 i4)), .val (.long ((f3_0 i3 i4).toInt64)), .second, .val (.long (i4.toInt64)), .second, .val (.long (i3.toInt64)), .second] [(.long (i4.toInt64)), (.long (((f3_0 i3 i4).toInt64) - (1 : Int64)))]))
    refine own_step (fun t k => XS.lmul X8.here hx rfl (hb hby at_147) rfl k) ?_
    show own_Fin p e below s Q 16 128 (T8.setTop (mkF m 148 #[.val (.int i0), .val (.int i1), .val (.int i2), .val (.int i3), .val (.int i4), .val (.int i5), .val (.int i6), .val (.ref b6), .val (.int (f3_0 i3 i4)), .val (.long ((f3_0 i3 i4).toInt64)), .second, .val (.long (i4.toInt64)), .second, .val (.long (i3.toInt64)), .second] [(.long ((((f3_0 i3 i4).toInt64) - (1 : Int64)) * (i4.toInt64)))]))
    refine own_step (fun t k => XS.lload X8.here hx rfl (hb hby at_148) rfl  k) ?_
    show own_Fin p e below s Q 16 128 (T8.setTop (mkF m 150 #[.val (.int i0), .val (.int i1), .val (.int i2), .val (.int i3), .val (.int i4), .val (.int i5), .val (.int i6), .val (.ref b6), .val (.int (f3_0 i3 i4)), .val (.long ((f3_0 i3 i4).toInt64)), .second, .val (.long (i4.toInt64)), .second, .val (.long (i3.toInt64)), .second] [(.long (i3.toInt64)), (.long ((((f3_0 i3 i4).toInt64) - (1 : Int64)) * (i4.toInt64)))]))
    refine own_step (fun t k => XS.lcmp X8.here hx rfl (hb hby at_150) rfl k) ?_
    show own_Fin p e below s Q 16 128 (T8.setTop (mkF m 151 #[.val (.int i0), .val (.int i1), .val (.int i2), .val (.int i3), .val (.int i4), .val (.int i5), .val (.int i6), .val (.ref b6), .val (.int (f3_0 i3 i4)), .val (.long ((f3_0 i3 i4).toInt64)), .second, .val (.long (i4.toInt64)), .second, .val (.long (i3.toInt64)), .second] [(.int (lcmpW ((((f3_0 i3 i4).toInt64) - (1 : Int64)) * (i4.toInt64)) (i3.toInt64)))]))
    refine own_step (fun t k => XS.ifNo X8.here hx rfl (hb hby at_151) rfl ((if0 _ _).trans (tlt ((own_blocks i3 i4 hp hz).2.2 hB116_9)).2.1) k) ?_
    show own_Fin p e below s Q 16 128 (T8.setTop (mkF m 154 #[.val (.int i0), .val (.int i1), .val (.int i2), .val (.int i3), .val (.int i4), .val (.int i5), .val (.int i6), .val (.ref b6), .val (.int (f3_0 i3 i4)), .val (.long ((f3_0 i3 i4).toInt64)), .second, .val (.long (i4.toInt64)), .second, .val (.long (i3.toInt64)), .second] []))
    refine own_step (fun t k => XS.iconst X8.here hx rfl (hb hby at_154) k) ?_
    show own_Fin p e below s Q 16 128 (T8.setTop (mkF m 155 #[.val (.int i0), .val (.int i1), .val (.int i2), .val (.int i3), .val (.int i4), .val (.int i5), .val (.int i6), .val (.ref b6), .val (.int (f3_0 i3 i4)), .val (.long ((f3_0 i3 i4).toInt64)), .second, .val (.long (i4.toInt64)), .second, .val (.long (i3.toInt64)), .second] [(.int (1 : Int32))]))
    refine own_step (fun t k => XS.goto X8.here hx rfl (pc0 := 155) (pc' := 159) rfl (hb hby at_155) (by decide) (by decide) k) ?_
    show own_Fin p e below s Q 16 128 (T8.setTop (mkF m 159 #[.val (.int i0), .val (.int i1), .val (.int i2), .val (.int i3), .val (.int i4), .val (.int i5), .val (.int i6), .val (.ref b6), .val (.int (f3_0 i3 i4)), .val (.long ((f3_0 i3 i4).toInt64)), .second, .val (.long (i4.toInt64)), .second, .val (.long (i3.toInt64)), .second] [(.int (1 : Int32))]))
    exact own_retN X8 hx hlk hret (by simp) (hb hby at_159) (by omega) (by omega) rfl N8 (fun L' n' => hQ _ L' n') (rfl)
set_option maxRecDepth 65536 in
set_option maxHeartbeats 40000000 in
theorem b0_19 {p : Program} {l : Launch} {e : Env} {s : State} {m : MethodId} {args : Array Value} {below : List Frame} {meth : Method} {c : Code} {T : State} {locs : List Loc} {cells slots : Nat} {Z : State} {a0 : Array Value} {h : Heap} {n0 : Nat} {Q : Option Value → Heap → List Loc → Prop} (i0 : Int32) (i1 : Int32) (i2 : Int32) (i3 : Int32) (i4 : Int32) (hw : ∀ d ∈ tables_1, d.before a0 Z = true) (X : Stand p l e room_1 s m args below meth c T locs cells slots) (hx : p.tables.exec = Jvm.exec) (hZ : Z.Warmed39 s.vm) (hby : c.code = code) (hml : c.maxLocals = 15) (hown : s.vm.findClass "com/example/nuthatch/nuthatch/BlocksBlockCountPinLaw" = some m.cls) (hret : meth.sig.returnType = some .boolean) (hlk : meth.locks = false) (eT : T.heap = h) (N : Fr n0 locs) (hc : cells ≤ 0) (hs : slots ≤ 0) (hz : 0 < i4.toInt) (hp : 0 ≤ i3.toInt) (Z0 : n0 ≤ h.size) (hQ : ∀ H' L', Fr n0 L' → Q (some (.int 1)) H' L') :
    own_Fin p e below s Q 16 128 (T.setTop (mkF m 19 #[.val (.int i0), .val (.int i1), .val (.int i2), .val (.int i3), .val (.int i4), .unset, .unset, .unset, .unset, .unset, .unset, .unset, .unset, .unset, .unset] [])) := by
  refine own_step (fun t k => XS.iloadN X.here hx rfl (hb hby at_19) rfl  k) ?_
  show own_Fin p e below s Q 16 128 (T.setTop (mkF m 20 #[.val (.int i0), .val (.int i1), .val (.int i2), .val (.int i3), .val (.int i4), .unset, .unset, .unset, .unset, .unset, .unset, .unset, .unset, .unset, .unset] [(.int i2)]))
  refine own_step (fun t k => XS.iconst X.here hx rfl (hb hby at_20) k) ?_
  show own_Fin p e below s Q 16 128 (T.setTop (mkF m 21 #[.val (.int i0), .val (.int i1), .val (.int i2), .val (.int i3), .val (.int i4), .unset, .unset, .unset, .unset, .unset, .unset, .unset, .unset, .unset, .unset] [(.int (3 : Int32)), (.int i2)]))
  refine own_step (fun t k => XS.iand X.here hx rfl (hb hby at_21) rfl k) ?_
  show own_Fin p e below s Q 16 128 (T.setTop (mkF m 22 #[.val (.int i0), .val (.int i1), .val (.int i2), .val (.int i3), .val (.int i4), .unset, .unset, .unset, .unset, .unset, .unset, .unset, .unset, .unset, .unset] [(.int (i2 &&& (3 : Int32)))]))
  refine own_step (fun t k => XS.istore X.here hx rfl (hb hby at_22) rfl (l' := #[.val (.int i0), .val (.int i1), .val (.int i2), .val (.int i3), .val (.int i4), .val (.int (i2 &&& (3 : Int32))), .unset, .unset, .unset, .unset, .unset, .unset, .unset, .unset, .unset]) rfl k) ?_
  show own_Fin p e below s Q 16 128 (T.setTop (mkF m 24 #[.val (.int i0), .val (.int i1), .val (.int i2), .val (.int i3), .val (.int i4), .val (.int (i2 &&& (3 : Int32))), .unset, .unset, .unset, .unset, .unset, .unset, .unset, .unset, .unset] []))
  refine own_step (fun t k => XS.iloadN X.here hx rfl (hb hby at_24) rfl  k) ?_
  show own_Fin p e below s Q 16 128 (T.setTop (mkF m 25 #[.val (.int i0), .val (.int i1), .val (.int i2), .val (.int i3), .val (.int i4), .val (.int (i2 &&& (3 : Int32))), .unset, .unset, .unset, .unset, .unset, .unset, .unset, .unset, .unset] [(.int i3)]))
  refine own_step (fun t k => XS.iloadN X.here hx rfl (hb hby at_25) rfl  k) ?_
  show own_Fin p e below s Q 16 128 (T.setTop (mkF m 26 #[.val (.int i0), .val (.int i1), .val (.int i2), .val (.int i3), .val (.int i4), .val (.int (i2 &&& (3 : Int32))), .unset, .unset, .unset, .unset, .unset, .unset, .unset, .unset, .unset] [(.int i3), (.int i3)]))
  refine own_step (fun t k => XS.iload X.here hx rfl (hb hby at_26) rfl  k) ?_
  show own_Fin p e below s Q 16 128 (T.setTop (mkF m 28 #[.val (.int i0), .val (.int i1), .val (.int i2), .val (.int i3), .val (.int i4), .val (.int (i2 &&& (3 : Int32))), .unset, .unset, .unset, .unset, .unset, .unset, .unset, .unset, .unset] [(.int i4), (.int i3), (.int i3)]))
  refine own_step (fun t k => XS.irem X.here hx rfl (hb hby at_28) rfl (fun y => by rw [y] at hz; exact absurd hz (by decide)) k) ?_
  rw [irem_eq_mod i3 i4]
  show own_Fin p e below s Q 16 128 (T.setTop (mkF m 29 #[.val (.int i0), .val (.int i1), .val (.int i2), .val (.int i3), .val (.int i4), .val (.int (i2 &&& (3 : Int32))), .unset, .unset, .unset, .unset, .unset, .unset, .unset, .unset, .unset] [(.int (i3 % i4)), (.int i3)]))
  refine own_step (fun t k => XS.isub X.here hx rfl (hb hby at_29) rfl k) ?_
  show own_Fin p e below s Q 16 128 (T.setTop (mkF m 30 #[.val (.int i0), .val (.int i1), .val (.int i2), .val (.int i3), .val (.int i4), .val (.int (i2 &&& (3 : Int32))), .unset, .unset, .unset, .unset, .unset, .unset, .unset, .unset, .unset] [(.int (i3 - (i3 % i4)))]))
  refine own_step (fun t k => XS.istore X.here hx rfl (hb hby at_30) rfl (l' := #[.val (.int i0), .val (.int i1), .val (.int i2), .val (.int i3), .val (.int i4), .val (.int (i2 &&& (3 : Int32))), .val (.int (i3 - (i3 % i4))), .unset, .unset, .unset, .unset, .unset, .unset, .unset, .unset]) rfl k) ?_
  show own_Fin p e below s Q 16 128 (T.setTop (mkF m 32 #[.val (.int i0), .val (.int i1), .val (.int i2), .val (.int i3), .val (.int i4), .val (.int (i2 &&& (3 : Int32))), .val (.int (i3 - (i3 % i4))), .unset, .unset, .unset, .unset, .unset, .unset, .unset, .unset] []))
  refine own_step (fun t k => XS.iload X.here hx rfl (hb hby at_32) rfl  k) ?_
  show own_Fin p e below s Q 16 128 (T.setTop (mkF m 34 #[.val (.int i0), .val (.int i1), .val (.int i2), .val (.int i3), .val (.int i4), .val (.int (i2 &&& (3 : Int32))), .val (.int (i3 - (i3 % i4))), .unset, .unset, .unset, .unset, .unset, .unset, .unset, .unset] [(.int (i2 &&& (3 : Int32)))]))
  refine own_step (fun t k => XS.iconst X.here hx rfl (hb hby at_34) k) ?_
  show own_Fin p e below s Q 16 128 (T.setTop (mkF m 35 #[.val (.int i0), .val (.int i1), .val (.int i2), .val (.int i3), .val (.int i4), .val (.int (i2 &&& (3 : Int32))), .val (.int (i3 - (i3 % i4))), .unset, .unset, .unset, .unset, .unset, .unset, .unset, .unset] [(.int (1 : Int32)), (.int (i2 &&& (3 : Int32)))]))
  by_cases hB35_5 : (i2 &&& (3 : Int32)) = (1 : Int32)
  · refine own_step (fun t k => XS.icmpNo X.here hx rfl (hb hby at_35) rfl (teq hB35_5).2 k) ?_
    show own_Fin p e below s Q 16 128 (T.setTop (mkF m 38 #[.val (.int i0), .val (.int i1), .val (.int i2), .val (.int i3), .val (.int i4), .val (.int (i2 &&& (3 : Int32))), .val (.int (i3 - (i3 % i4))), .unset, .unset, .unset, .unset, .unset, .unset, .unset, .unset] []))
    refine own_step (fun t k => XS.iload X.here hx rfl (hb hby at_38) rfl  k) ?_
    show own_Fin p e below s Q 16 128 (T.setTop (mkF m 40 #[.val (.int i0), .val (.int i1), .val (.int i2), .val (.int i3), .val (.int i4), .val (.int (i2 &&& (3 : Int32))), .val (.int (i3 - (i3 % i4))), .unset, .unset, .unset, .unset, .unset, .unset, .unset, .unset] [(.int (i3 - (i3 % i4)))]))
    refine own_step (fun t k => XS.istoreN X.here hx rfl (hb hby at_40) rfl (l' := #[.val (.int i0), .val (.int i1), .val (.int i2), .val (.int (i3 - (i3 % i4))), .val (.int i4), .val (.int (i2 &&& (3 : Int32))), .val (.int (i3 - (i3 % i4))), .unset, .unset, .unset, .unset, .unset, .unset, .unset, .unset]) rfl k) ?_
    show own_Fin p e below s Q 16 128 (T.setTop (mkF m 41 #[.val (.int i0), .val (.int i1), .val (.int i2), .val (.int (i3 - (i3 % i4))), .val (.int i4), .val (.int (i2 &&& (3 : Int32))), .val (.int (i3 - (i3 % i4))), .unset, .unset, .unset, .unset, .unset, .unset, .unset, .unset] []))
    refine own_step (fun t k => XS.goto X.here hx rfl (pc0 := 41) (pc' := 82) rfl (hb hby at_41) (by decide) (by decide) k) ?_
    exact b0_82 i0 i1 i2 (i3 - (i3 % i4)) i4 (i2 &&& (3 : Int32)) (i3 - (i3 % i4)) hw X hx hZ hby hml hown hret hlk eT N (by omega) (by omega) (hz) (own_d0 hp hz) Z0 hQ
  · refine own_step (fun t k => XS.icmpYes X.here hx rfl (pc0 := 35) (pc' := 44) rfl (hb hby at_35) rfl (feq hB35_5).2 (by decide) (by decide) k) ?_
    show own_Fin p e below s Q 16 128 (T.setTop (mkF m 44 #[.val (.int i0), .val (.int i1), .val (.int i2), .val (.int i3), .val (.int i4), .val (.int (i2 &&& (3 : Int32))), .val (.int (i3 - (i3 % i4))), .unset, .unset, .unset, .unset, .unset, .unset, .unset, .unset] []))
    refine own_step (fun t k => XS.iload X.here hx rfl (hb hby at_44) rfl  k) ?_
    show own_Fin p e below s Q 16 128 (T.setTop (mkF m 46 #[.val (.int i0), .val (.int i1), .val (.int i2), .val (.int i3), .val (.int i4), .val (.int (i2 &&& (3 : Int32))), .val (.int (i3 - (i3 % i4))), .unset, .unset, .unset, .unset, .unset, .unset, .unset, .unset] [(.int (i2 &&& (3 : Int32)))]))
    refine own_step (fun t k => XS.iconst X.here hx rfl (hb hby at_46) k) ?_
    show own_Fin p e below s Q 16 128 (T.setTop (mkF m 47 #[.val (.int i0), .val (.int i1), .val (.int i2), .val (.int i3), .val (.int i4), .val (.int (i2 &&& (3 : Int32))), .val (.int (i3 - (i3 % i4))), .unset, .unset, .unset, .unset, .unset, .unset, .unset, .unset] [(.int (2 : Int32)), (.int (i2 &&& (3 : Int32)))]))
    by_cases hB47_10 : (i2 &&& (3 : Int32)) = (2 : Int32)
    · refine own_step (fun t k => XS.icmpNo X.here hx rfl (hb hby at_47) rfl (teq hB47_10).2 k) ?_
      show own_Fin p e below s Q 16 128 (T.setTop (mkF m 50 #[.val (.int i0), .val (.int i1), .val (.int i2), .val (.int i3), .val (.int i4), .val (.int (i2 &&& (3 : Int32))), .val (.int (i3 - (i3 % i4))), .unset, .unset, .unset, .unset, .unset, .unset, .unset, .unset] []))
      refine own_step (fun t k => XS.iload X.here hx rfl (hb hby at_50) rfl  k) ?_
      show own_Fin p e below s Q 16 128 (T.setTop (mkF m 52 #[.val (.int i0), .val (.int i1), .val (.int i2), .val (.int i3), .val (.int i4), .val (.int (i2 &&& (3 : Int32))), .val (.int (i3 - (i3 % i4))), .unset, .unset, .unset, .unset, .unset, .unset, .unset, .unset] [(.int (i3 - (i3 % i4)))]))
      refine own_step (X.ldcInt hx hown (mvT hZ (hw _ (List.mem_of_getElem? (i := 0) rfl))) (g := (mkF m 52 #[.val (.int i0), .val (.int i1), .val (.int i2), .val (.int i3), .val (.int i4), .val (.int (i2 &&& (3 : Int32))), .val (.int (i3 - (i3 % i4))), .unset, .unset, .unset, .unset, .unset, .unset, .unset, .unset] [(.int (i3 - (i3 % i4)))])) rfl (hb hby at_52)) ?_
      show own_Fin p e below s Q 16 128 (T.setTop (mkF m 54 #[.val (.int i0), .val (.int i1), .val (.int i2), .val (.int i3), .val (.int i4), .val (.int (i2 &&& (3 : Int32))), .val (.int (i3 - (i3 % i4))), .unset, .unset, .unset, .unset, .unset, .unset, .unset, .unset] [(.int (2147483647 : Int32)), (.int (i3 - (i3 % i4)))]))
      by_cases hB54_11 : (i3 - (i3 % i4)) < (2147483647 : Int32)
      · refine own_step (fun t k => XS.icmpNo X.here hx rfl (hb hby at_54) rfl (tlt hB54_11).2.1 k) ?_
        show own_Fin p e below s Q 16 128 (T.setTop (mkF m 57 #[.val (.int i0), .val (.int i1), .val (.int i2), .val (.int i3), .val (.int i4), .val (.int (i2 &&& (3 : Int32))), .val (.int (i3 - (i3 % i4))), .unset, .unset, .unset, .unset, .unset, .unset, .unset, .unset] []))
        refine own_step (fun t k => XS.iload X.here hx rfl (hb hby at_57) rfl  k) ?_
        show own_Fin p e below s Q 16 128 (T.setTop (mkF m 59 #[.val (.int i0), .val (.int i1), .val (.int i2), .val (.int i3), .val (.int i4), .val (.int (i2 &&& (3 : Int32))), .val (.int (i3 - (i3 % i4))), .unset, .unset, .unset, .unset, .unset, .unset, .unset, .unset] [(.int (i3 - (i3 % i4)))]))
        refine own_step (fun t k => XS.iconst X.here hx rfl (hb hby at_59) k) ?_
        show own_Fin p e below s Q 16 128 (T.setTop (mkF m 60 #[.val (.int i0), .val (.int i1), .val (.int i2), .val (.int i3), .val (.int i4), .val (.int (i2 &&& (3 : Int32))), .val (.int (i3 - (i3 % i4))), .unset, .unset, .unset, .unset, .unset, .unset, .unset, .unset] [(.int (1 : Int32)), (.int (i3 - (i3 % i4)))]))
        refine own_step (fun t k => XS.iadd X.here hx rfl (hb hby at_60) rfl k) ?_
        show own_Fin p e below s Q 16 128 (T.setTop (mkF m 61 #[.val (.int i0), .val (.int i1), .val (.int i2), .val (.int i3), .val (.int i4), .val (.int (i2 &&& (3 : Int32))), .val (.int (i3 - (i3 % i4))), .unset, .unset, .unset, .unset, .unset, .unset, .unset, .unset] [(.int ((i3 - (i3 % i4)) + (1 : Int32)))]))
        refine own_step (fun t k => XS.istoreN X.here hx rfl (hb hby at_61) rfl (l' := #[.val (.int i0), .val (.int i1), .val (.int i2), .val (.int ((i3 - (i3 % i4)) + (1 : Int32))), .val (.int i4), .val (.int (i2 &&& (3 : Int32))), .val (.int (i3 - (i3 % i4))), .unset, .unset, .unset, .unset, .unset, .unset, .unset, .unset]) rfl k) ?_
        show own_Fin p e below s Q 16 128 (T.setTop (mkF m 62 #[.val (.int i0), .val (.int i1), .val (.int i2), .val (.int ((i3 - (i3 % i4)) + (1 : Int32))), .val (.int i4), .val (.int (i2 &&& (3 : Int32))), .val (.int (i3 - (i3 % i4))), .unset, .unset, .unset, .unset, .unset, .unset, .unset, .unset] []))
        refine own_step (fun t k => XS.goto X.here hx rfl (pc0 := 62) (pc' := 82) rfl (hb hby at_62) (by decide) (by decide) k) ?_
        exact b0_82 i0 i1 i2 ((i3 - (i3 % i4)) + (1 : Int32)) i4 (i2 &&& (3 : Int32)) (i3 - (i3 % i4)) hw X hx hZ hby hml hown hret hlk eT N (by omega) (by omega) (hz) (own_d1 (own_d0 hp hz) hB54_11) Z0 hQ
      · refine own_step (fun t k => XS.icmpYes X.here hx rfl (pc0 := 54) (pc' := 82) rfl (hb hby at_54) rfl (flt hB54_11).2.1 (by decide) (by decide) k) ?_
        exact b0_82 i0 i1 i2 i3 i4 (i2 &&& (3 : Int32)) (i3 - (i3 % i4)) hw X hx hZ hby hml hown hret hlk eT N (by omega) (by omega) (hz) (hp) Z0 hQ
    · refine own_step (fun t k => XS.icmpYes X.here hx rfl (pc0 := 47) (pc' := 65) rfl (hb hby at_47) rfl (feq hB47_10).2 (by decide) (by decide) k) ?_
      show own_Fin p e below s Q 16 128 (T.setTop (mkF m 65 #[.val (.int i0), .val (.int i1), .val (.int i2), .val (.int i3), .val (.int i4), .val (.int (i2 &&& (3 : Int32))), .val (.int (i3 - (i3 % i4))), .unset, .unset, .unset, .unset, .unset, .unset, .unset, .unset] []))
      refine own_step (fun t k => XS.iload X.here hx rfl (hb hby at_65) rfl  k) ?_
      show own_Fin p e below s Q 16 128 (T.setTop (mkF m 67 #[.val (.int i0), .val (.int i1), .val (.int i2), .val (.int i3), .val (.int i4), .val (.int (i2 &&& (3 : Int32))), .val (.int (i3 - (i3 % i4))), .unset, .unset, .unset, .unset, .unset, .unset, .unset, .unset] [(.int (i2 &&& (3 : Int32)))]))
      refine own_step (fun t k => XS.iconst X.here hx rfl (hb hby at_67) k) ?_
      show own_Fin p e below s Q 16 128 (T.setTop (mkF m 68 #[.val (.int i0), .val (.int i1), .val (.int i2), .val (.int i3), .val (.int i4), .val (.int (i2 &&& (3 : Int32))), .val (.int (i3 - (i3 % i4))), .unset, .unset, .unset, .unset, .unset, .unset, .unset, .unset] [(.int (3 : Int32)), (.int (i2 &&& (3 : Int32)))]))
      by_cases hB68_12 : (i2 &&& (3 : Int32)) = (3 : Int32)
      · refine own_step (fun t k => XS.icmpNo X.here hx rfl (hb hby at_68) rfl (teq hB68_12).2 k) ?_
        show own_Fin p e below s Q 16 128 (T.setTop (mkF m 71 #[.val (.int i0), .val (.int i1), .val (.int i2), .val (.int i3), .val (.int i4), .val (.int (i2 &&& (3 : Int32))), .val (.int (i3 - (i3 % i4))), .unset, .unset, .unset, .unset, .unset, .unset, .unset, .unset] []))
        refine own_step (fun t k => XS.iload X.here hx rfl (hb hby at_71) rfl  k) ?_
        show own_Fin p e below s Q 16 128 (T.setTop (mkF m 73 #[.val (.int i0), .val (.int i1), .val (.int i2), .val (.int i3), .val (.int i4), .val (.int (i2 &&& (3 : Int32))), .val (.int (i3 - (i3 % i4))), .unset, .unset, .unset, .unset, .unset, .unset, .unset, .unset] [(.int (i3 - (i3 % i4)))]))
        refine own_step (fun t k => XS.iconst X.here hx rfl (hb hby at_73) k) ?_
        show own_Fin p e below s Q 16 128 (T.setTop (mkF m 74 #[.val (.int i0), .val (.int i1), .val (.int i2), .val (.int i3), .val (.int i4), .val (.int (i2 &&& (3 : Int32))), .val (.int (i3 - (i3 % i4))), .unset, .unset, .unset, .unset, .unset, .unset, .unset, .unset] [(.int (1 : Int32)), (.int (i3 - (i3 % i4)))]))
        by_cases hB74_13 : (i3 - (i3 % i4)) < (1 : Int32)
        · refine own_step (fun t k => XS.icmpYes X.here hx rfl (pc0 := 74) (pc' := 82) rfl (hb hby at_74) rfl (tlt hB74_13).1 (by decide) (by decide) k) ?_
          exact b0_82 i0 i1 i2 i3 i4 (i2 &&& (3 : Int32)) (i3 - (i3 % i4)) hw X hx hZ hby hml hown hret hlk eT N (by omega) (by omega) (hz) (hp) Z0 hQ
        · refine own_step (fun t k => XS.icmpNo X.here hx rfl (hb hby at_74) rfl (flt hB74_13).1 k) ?_
          show own_Fin p e below s Q 16 128 (T.setTop (mkF m 77 #[.val (.int i0), .val (.int i1), .val (.int i2), .val (.int i3), .val (.int i4), .val (.int (i2 &&& (3 : Int32))), .val (.int (i3 - (i3 % i4))), .unset, .unset, .unset, .unset, .unset, .unset, .unset, .unset] []))
          refine own_step (fun t k => XS.iload X.here hx rfl (hb hby at_77) rfl  k) ?_
          show own_Fin p e below s Q 16 128 (T.setTop (mkF m 79 #[.val (.int i0), .val (.int i1), .val (.int i2), .val (.int i3), .val (.int i4), .val (.int (i2 &&& (3 : Int32))), .val (.int (i3 - (i3 % i4))), .unset, .unset, .unset, .unset, .unset, .unset, .unset, .unset] [(.int (i3 - (i3 % i4)))]))
          refine own_step (fun t k => XS.iconst X.here hx rfl (hb hby at_79) k) ?_
          show own_Fin p e below s Q 16 128 (T.setTop (mkF m 80 #[.val (.int i0), .val (.int i1), .val (.int i2), .val (.int i3), .val (.int i4), .val (.int (i2 &&& (3 : Int32))), .val (.int (i3 - (i3 % i4))), .unset, .unset, .unset, .unset, .unset, .unset, .unset, .unset] [(.int (1 : Int32)), (.int (i3 - (i3 % i4)))]))
          refine own_step (fun t k => XS.isub X.here hx rfl (hb hby at_80) rfl k) ?_
          show own_Fin p e below s Q 16 128 (T.setTop (mkF m 81 #[.val (.int i0), .val (.int i1), .val (.int i2), .val (.int i3), .val (.int i4), .val (.int (i2 &&& (3 : Int32))), .val (.int (i3 - (i3 % i4))), .unset, .unset, .unset, .unset, .unset, .unset, .unset, .unset] [(.int ((i3 - (i3 % i4)) - (1 : Int32)))]))
          refine own_step (fun t k => XS.istoreN X.here hx rfl (hb hby at_81) rfl (l' := #[.val (.int i0), .val (.int i1), .val (.int i2), .val (.int ((i3 - (i3 % i4)) - (1 : Int32))), .val (.int i4), .val (.int (i2 &&& (3 : Int32))), .val (.int (i3 - (i3 % i4))), .unset, .unset, .unset, .unset, .unset, .unset, .unset, .unset]) rfl k) ?_
          exact b0_82 i0 i1 i2 ((i3 - (i3 % i4)) - (1 : Int32)) i4 (i2 &&& (3 : Int32)) (i3 - (i3 % i4)) hw X hx hZ hby hml hown hret hlk eT N (by omega) (by omega) (hz) (own_d2 hB74_13) Z0 hQ
      · refine own_step (fun t k => XS.icmpYes X.here hx rfl (pc0 := 68) (pc' := 82) rfl (hb hby at_68) rfl (feq hB68_12).2 (by decide) (by decide) k) ?_
        exact b0_82 i0 i1 i2 i3 i4 (i2 &&& (3 : Int32)) (i3 - (i3 % i4)) hw X hx hZ hby hml hown hret hlk eT N (by omega) (by omega) (hz) (hp) Z0 hQ
set_option maxRecDepth 65536 in
set_option maxHeartbeats 40000000 in
theorem b0_0 {p : Program} {l : Launch} {e : Env} {s : State} {m : MethodId} {args : Array Value} {below : List Frame} {meth : Method} {c : Code} {T : State} {locs : List Loc} {cells slots : Nat} {Z : State} {a0 : Array Value} {h : Heap} {n0 : Nat} {Q : Option Value → Heap → List Loc → Prop} (i0 : Int32) (i1 : Int32) (i2 : Int32) (hw : ∀ d ∈ tables_1, d.before a0 Z = true) (X : Stand p l e room_1 s m args below meth c T locs cells slots) (hx : p.tables.exec = Jvm.exec) (hZ : Z.Warmed39 s.vm) (hby : c.code = code) (hml : c.maxLocals = 15) (hown : s.vm.findClass "com/example/nuthatch/nuthatch/BlocksBlockCountPinLaw" = some m.cls) (hret : meth.sig.returnType = some .boolean) (hlk : meth.locks = false) (eT : T.heap = h) (N : Fr n0 locs) (hc : cells ≤ 0) (hs : slots ≤ 0) (Z0 : n0 ≤ h.size) (hQ : ∀ H' L', Fr n0 L' → Q (some (.int 1)) H' L') :
    own_Fin p e below s Q 16 128 (T.setTop (mkF m 0 #[.val (.int i0), .val (.int i1), .val (.int i2), .unset, .unset, .unset, .unset, .unset, .unset, .unset, .unset, .unset, .unset, .unset, .unset] [])) := by
  refine own_step (fun t k => XS.iloadN X.here hx rfl (hb hby at_0) rfl  k) ?_
  show own_Fin p e below s Q 16 128 (T.setTop (mkF m 1 #[.val (.int i0), .val (.int i1), .val (.int i2), .unset, .unset, .unset, .unset, .unset, .unset, .unset, .unset, .unset, .unset, .unset, .unset] [(.int i0)]))
  refine own_step (X.ldcInt hx hown (mvT hZ (hw _ (List.mem_of_getElem? (i := 0) rfl))) (g := (mkF m 1 #[.val (.int i0), .val (.int i1), .val (.int i2), .unset, .unset, .unset, .unset, .unset, .unset, .unset, .unset, .unset, .unset, .unset, .unset] [(.int i0)])) rfl (hb hby at_1)) ?_
  show own_Fin p e below s Q 16 128 (T.setTop (mkF m 3 #[.val (.int i0), .val (.int i1), .val (.int i2), .unset, .unset, .unset, .unset, .unset, .unset, .unset, .unset, .unset, .unset, .unset, .unset] [(.int (2147483647 : Int32)), (.int i0)]))
  refine own_step (fun t k => XS.iand X.here hx rfl (hb hby at_3) rfl k) ?_
  show own_Fin p e below s Q 16 128 (T.setTop (mkF m 4 #[.val (.int i0), .val (.int i1), .val (.int i2), .unset, .unset, .unset, .unset, .unset, .unset, .unset, .unset, .unset, .unset, .unset, .unset] [(.int (i0 &&& (2147483647 : Int32)))]))
  refine own_step (fun t k => XS.istoreN X.here hx rfl (hb hby at_4) rfl (l' := #[.val (.int i0), .val (.int i1), .val (.int i2), .val (.int (i0 &&& (2147483647 : Int32))), .unset, .unset, .unset, .unset, .unset, .unset, .unset, .unset, .unset, .unset, .unset]) rfl k) ?_
  show own_Fin p e below s Q 16 128 (T.setTop (mkF m 5 #[.val (.int i0), .val (.int i1), .val (.int i2), .val (.int (i0 &&& (2147483647 : Int32))), .unset, .unset, .unset, .unset, .unset, .unset, .unset, .unset, .unset, .unset, .unset] []))
  refine own_step (fun t k => XS.iloadN X.here hx rfl (hb hby at_5) rfl  k) ?_
  show own_Fin p e below s Q 16 128 (T.setTop (mkF m 6 #[.val (.int i0), .val (.int i1), .val (.int i2), .val (.int (i0 &&& (2147483647 : Int32))), .unset, .unset, .unset, .unset, .unset, .unset, .unset, .unset, .unset, .unset, .unset] [(.int i1)]))
  refine own_step (X.ldcInt hx hown (mvT hZ (hw _ (List.mem_of_getElem? (i := 0) rfl))) (g := (mkF m 6 #[.val (.int i0), .val (.int i1), .val (.int i2), .val (.int (i0 &&& (2147483647 : Int32))), .unset, .unset, .unset, .unset, .unset, .unset, .unset, .unset, .unset, .unset, .unset] [(.int i1)])) rfl (hb hby at_6)) ?_
  show own_Fin p e below s Q 16 128 (T.setTop (mkF m 8 #[.val (.int i0), .val (.int i1), .val (.int i2), .val (.int (i0 &&& (2147483647 : Int32))), .unset, .unset, .unset, .unset, .unset, .unset, .unset, .unset, .unset, .unset, .unset] [(.int (2147483647 : Int32)), (.int i1)]))
  refine own_step (fun t k => XS.iand X.here hx rfl (hb hby at_8) rfl k) ?_
  show own_Fin p e below s Q 16 128 (T.setTop (mkF m 9 #[.val (.int i0), .val (.int i1), .val (.int i2), .val (.int (i0 &&& (2147483647 : Int32))), .unset, .unset, .unset, .unset, .unset, .unset, .unset, .unset, .unset, .unset, .unset] [(.int (i1 &&& (2147483647 : Int32)))]))
  refine own_step (fun t k => XS.istore X.here hx rfl (hb hby at_9) rfl (l' := #[.val (.int i0), .val (.int i1), .val (.int i2), .val (.int (i0 &&& (2147483647 : Int32))), .val (.int (i1 &&& (2147483647 : Int32))), .unset, .unset, .unset, .unset, .unset, .unset, .unset, .unset, .unset, .unset]) rfl k) ?_
  show own_Fin p e below s Q 16 128 (T.setTop (mkF m 11 #[.val (.int i0), .val (.int i1), .val (.int i2), .val (.int (i0 &&& (2147483647 : Int32))), .val (.int (i1 &&& (2147483647 : Int32))), .unset, .unset, .unset, .unset, .unset, .unset, .unset, .unset, .unset, .unset] []))
  refine own_step (fun t k => XS.iload X.here hx rfl (hb hby at_11) rfl  k) ?_
  show own_Fin p e below s Q 16 128 (T.setTop (mkF m 13 #[.val (.int i0), .val (.int i1), .val (.int i2), .val (.int (i0 &&& (2147483647 : Int32))), .val (.int (i1 &&& (2147483647 : Int32))), .unset, .unset, .unset, .unset, .unset, .unset, .unset, .unset, .unset, .unset] [(.int (i1 &&& (2147483647 : Int32)))]))
  by_cases hB13_4 : (i1 &&& (2147483647 : Int32)) = (0 : Int32)
  · refine own_step (fun t k => XS.ifNo X.here hx rfl (hb hby at_13) rfl ((if0 _ _).trans (teq hB13_4).2) k) ?_
    show own_Fin p e below s Q 16 128 (T.setTop (mkF m 16 #[.val (.int i0), .val (.int i1), .val (.int i2), .val (.int (i0 &&& (2147483647 : Int32))), .val (.int (i1 &&& (2147483647 : Int32))), .unset, .unset, .unset, .unset, .unset, .unset, .unset, .unset, .unset, .unset] []))
    refine own_step (fun t k => XS.iconst X.here hx rfl (hb hby at_16) k) ?_
    show own_Fin p e below s Q 16 128 (T.setTop (mkF m 17 #[.val (.int i0), .val (.int i1), .val (.int i2), .val (.int (i0 &&& (2147483647 : Int32))), .val (.int (i1 &&& (2147483647 : Int32))), .unset, .unset, .unset, .unset, .unset, .unset, .unset, .unset, .unset, .unset] [(.int (1 : Int32))]))
    refine own_step (fun t k => XS.istore X.here hx rfl (hb hby at_17) rfl (l' := #[.val (.int i0), .val (.int i1), .val (.int i2), .val (.int (i0 &&& (2147483647 : Int32))), .val (.int (1 : Int32)), .unset, .unset, .unset, .unset, .unset, .unset, .unset, .unset, .unset, .unset]) rfl k) ?_
    exact b0_19 i0 i1 i2 (i0 &&& (2147483647 : Int32)) (1 : Int32) hw X hx hZ hby hml hown hret hlk eT N (by omega) (by omega) (own_one) (own_msk _) Z0 hQ
  · refine own_step (fun t k => XS.ifYes X.here hx rfl (pc0 := 13) (pc' := 19) rfl (hb hby at_13) rfl ((if0 _ _).trans (feq hB13_4).2) (by decide) (by decide) k) ?_
    exact b0_19 i0 i1 i2 (i0 &&& (2147483647 : Int32)) (i1 &&& (2147483647 : Int32)) hw X hx hZ hby hml hown hret hlk eT N (by omega) (by omega) (own_pos1 _ hB13_4) (own_msk _) Z0 hQ
theorem pnm_1 : plainName "com/example/nuthatch/nuthatch/BlocksBlockCountPinLaw" = true := by first | (simp [plainName, overriddenIn]; done) | decide +kernel
theorem pdm_2 : parseMethodDescriptor "(III)Z" = some ⟨[.int, .int, .int], some .boolean⟩ := by decide +kernel
theorem ef_0 (m : MethodId) (i0 : Int32) (i1 : Int32) (i2 : Int32) : entryFrame m #[(.int i0), (.int i1), (.int i2)] maxLocals = (mkF m 0 #[.val (.int i0), .val (.int i1), .val (.int i2), .unset, .unset, .unset, .unset, .unset, .unset, .unset, .unset, .unset, .unset, .unset, .unset] []) := by first | (simp [entryFrame, mkF, argsToLocals, Value.category, maxLocals]; done) | rfl
def Q0 (i0 : Int32) (i1 : Int32) (i2 : Int32) (h0 : Heap) (n0 : Nat) (v : Option Value) (h : Heap) (L : List Loc) : Prop := v = some (.int 1) ∧ Fr n0 L
set_option maxRecDepth 65536 in
set_option maxHeartbeats 4000000 in
theorem rm0 (l : Launch) (Z : State) (a0 : Array Value) (hw : ∀ d ∈ tables_1, d.before a0 Z = true) (ws : List Jvm.Cond) (i0 : Int32) (i1 : Int32) (i2 : Int32) (h0 : Heap) (n0 : Nat) (Z0 : n0 ≤ h0.size) :
    MetFree l x (head1 (Jvm.Cond.code x code maxLocals ret :: ws) room_1) (fun a U => a = #[(.int i0), (.int i1), (.int i2)] ∧ Z.Warmed39 U.vm ∧ U.heap = h0) (fun _ _ _ _ _ => True) (fun _ U o U' => ∃ v L, o = .returned v ∧ Q0 i0 i1 i2 h0 n0 v U'.heap L ∧ FrameEnd U o U' L 16 128) := by
  refine MetFree.of_bodySF (plainFor_of_name pnm_1) hisR ?_
  intro p e s m args below meth c s₁ Bd hml0 hP hK
  obtain ⟨rfl, hZ, hh⟩ := hP
  have hx := Bd.exec
  have hby := Bd.bytes
  have hml : c.maxLocals = 15 := hml0
  have hown : s.vm.findClass "com/example/nuthatch/nuthatch/BlocksBlockCountPinLaw" = some m.cls := findClass_of_methodNamed Bd.named
  have X0 : Stand p l e room_1 s m #[(.int i0), (.int i1), (.int i2)] below meth c s₁ [] 0 0 := Stand.of_body Bd
  have e0 : s₁.heap = h0 := by rw [← hh, Bd.state]; rfl
  have fin := b0_0 i0 i1 i2 (Q := Q0 i0 i1 i2 h0 n0) hw X0 hx hZ hby hml hown Bd.returns (BodyLoose.notSynchronized Bd) e0 (Fr.nil n0) (Nat.zero_le _) (Nat.zero_le _) Z0 (fun H' L' n' => ⟨rfl, n'⟩)
  exact own_step (fun t k => castTop (ef_0 m i0 i1 i2) k) fin
set_option maxRecDepth 65536 in
set_option maxHeartbeats 40000000 in
theorem comes_1 {Post : Tables → Env → Array Value → State → Outcome → State → Prop} (hpost : ∀ tb e args s v u, (limb_1_1.after args s (.returned v) u = true ∧ limb_1_2.after args s (.returned v) u = true ∧ True) → FrameEnd s (.returned v) u (Jvm.fieldLocs frame_1_writes args s ++ Jvm.arrayLocs frame_1_arrays args s ++ Jvm.staticLocs frame_1_statics s) 16 128 → Post tb e args s (.returned v) u) :
    ArmFor flags0 classFile x code maxLocals ret World_1 tables_1 room_1 Calls_1 rest_1 Pre_1 Post := by
  intro l hfl _ _ p e ha hc hk s m args below hf hA hF happ hP
  obtain ⟨hcalls, hrest, hpre⟩ := hP
  obtain ⟨-, -, -, hnamed, -, -, -, hat⟩ := (Spec.applies_iff hf).mp happ
  obtain ⟨hg, hn⟩ := and_e (Cond.before_iff.mp (show (Jvm.Cond.and given_1 narrow_1).before args s = true from hpre))
  obtain ⟨g1, g2⟩ := and_e hg
  obtain ⟨g3, g4⟩ := and_e g2
  obtain ⟨g5, g6⟩ := and_e g4
  obtain ⟨w0, w1, w2, rfl⟩ : ∃ w0 w1 w2 : Value, args = #[w0, w1, w2] := by
    have hs : args.size = 3 := by simpa [Cond.value, given_1] using g1
    obtain ⟨L⟩ := args
    match L, hs with
    | [w0, w1, w2], _ => exact ⟨w0, w1, w2, rfl⟩
  have hw := fun d (hd : d ∈ tables_1) => atoms_spec (ws := Jvm.Cond.code x code maxLocals ret :: tables_1) hat d (List.mem_cons_of_mem _ hd)
  obtain ⟨i0, ei0⟩ := is_v g3
  obtain rfl : w0 = (.int i0) := Option.some.inj ei0
  obtain ⟨i1, ei1⟩ := is_v g5
  obtain rfl : w1 = (.int i1) := Option.some.inj ei1
  obtain ⟨i2, ei2⟩ := is_v g6
  obtain rfl : w2 = (.int i2) := Option.some.inj ei2
  obtain ⟨n, o, h1, h2, h3, _, L, rfl, ⟨hval, N⟩, hq⟩ := rm0 l s _ hw tables_1 i0 i1 i2 s.heap s.heap.size (Nat.le_refl _) p e ha hc hk s m _ below hf ((Spec.applies_iff_loose hf).mp happ).1 ⟨rfl, State.Warmed39.refl s, rfl⟩ trivial
  subst hval
  refine ⟨n, _, h1, h2, h3, hpost _ _ _ _ _ _ ⟨Cond.after_iff.mpr rfl, Cond.after_iff.mpr (eq_i res_at (Term.int_eval (1)) rfl), trivial⟩ ⟨hq.1, hq.2.1, (hq.2.2.sift fun y hy => Or.inr (N y hy)).mono (by decide) (by decide)⟩⟩
theorem main_1_1 : Claimed_1_1 := comes_1 fun _ _ _ _ _ _ h hF => ⟨h.1, hF⟩
theorem main_1_2 : Claimed_1_2 := comes_1 fun _ _ _ _ _ _ h hF => ⟨h.2.1, hF⟩
end Jvm.Pilot.@@N@@
namespace Jvm.Pilot.@@N@@
open Jvm Jvm.ClassFile Sem Op Lib Jvm.Free Jvm.Stand Jvm.Pilot.@@N@@.Jvm.D
/-! MADE BY PROGRAM (witnessworld.py) out of the Statement's table words and the real class files: 9 classes; the members and pool entries that the words name. The judged class is class 1, her method 1. -/
namespace start1
open Jvm.ClassFile
def u (s : String) : CpInfo := .utf8 (stringToUtf16 s)
/-- a pool by its gaps: so many unusable entries, then the entry; so many at the end -/
def gap : Nat → List CpInfo → List CpInfo
  | 0, r => r
  | n + 1, r => .unusable :: gap n r
def poolList (es : List (Nat × CpInfo)) (last : Nat) : List CpInfo := es.foldr (fun e r => gap e.1 (e.2 :: r)) (gap last [])
def pool (es : List (Nat × CpInfo)) (last : Nat) : Array CpInfo := ⟨poolList es last⟩
def fileOf (pool : Array CpInfo) (this : Nat) (attrs : Array Attribute := #[]) (ms : Array MethodInfo := #[]) (fl : Nat := 33) (sup : Nat := 0) (ifs : Array Nat := #[]) (fds : Array FieldInfo := #[]) : ClassFile where
  minorVersion := 0
  majorVersion := 65
  constantPool := pool
  accessFlags := fl
  thisClass := this
  superClass := sup
  interfaces := ifs
  fields := fds
  methods := ms
  attributes := attrs
def plain (name : String) (sup : Option ClassId) : Class where
  name := name
  kind := .ordinary
  loader := none
  accessFlags := 33
  super := sup
  interfaces := #[]
  cf := none
  fields := #[]
  methods := #[]
  instanceTypes := #[]
  staticTypes := #[]
  resolved := #[]
  callSites := []
  init := .initialized
  statics := none
  mirror := none

def pool0 : Array CpInfo := pool [(5, u "<init>"), (0, u "()V"), (1, .class_ 10), (1, u "java/lang/Object")] 113

def k0c0 : Code := { maxStack := 0, maxLocals := 1, code := object_method_1_code, exceptionTable := #[], attributes := #[] }
def k0m0 : Method := { name := "<init>", desc := "()V", sig := { parameters := [], returnType := none }, accessFlags := 1, code := some k0c0 }
/-- java/lang/Object -/
def k0 : Class := { plain "java/lang/Object" none with
  accessFlags := 33
  interfaces := #[]
  cf := some (fileOf pool0 8 #[] #[{ accessFlags := 1, nameIndex := 5, descriptorIndex := 6, attributes := #[] }] 33 0 #[] #[])
  fields := #[]
  methods := #[k0m0]
  instanceTypes := #[]
  staticTypes := #[]
  resolved := Array.replicate 124 none
  statics := none }

def pool1 : Array CpInfo := pool [(2, .class_ 4), (1, u "java/lang/Object"), (0, u "<init>"), (0, u "()V"), (0, .integer 2147483647), (2, .class_ 11), (0, u "com/example/nuthatch/nuthatch/Blocks"), (0, .methodref 10 13), (0, .nameAndType 5 14), (0, u "(II)V"), (0, .methodref 10 16), (0, .nameAndType 17 18), (0, u "blockCount"), (0, u "()I"), (0, .class_ 20), (0, u "com/example/nuthatch/nuthatch/BlocksBlockCountPinLaw"), (2, u "law"), (0, u "(III)Z")] 3

def k1m0 : Method := { name := "<init>", desc := "()V", sig := { parameters := [], returnType := none }, accessFlags := 1, code := none }
def k1c1 : Code := { maxStack := 4, maxLocals := 15, code := code, exceptionTable := #[], attributes := #[] }
def k1m1 : Method := { name := "law", desc := "(III)Z", sig := { parameters := [.int, .int, .int], returnType := some .boolean }, accessFlags := 9, code := some k1c1 }
/-- com/example/nuthatch/nuthatch/BlocksBlockCountPinLaw -/
def k1 : Class := { plain "com/example/nuthatch/nuthatch/BlocksBlockCountPinLaw" (some 0) with
  accessFlags := 49
  interfaces := #[]
  cf := some (fileOf pool1 19 #[] #[{ accessFlags := 1, nameIndex := 5, descriptorIndex := 6, attributes := #[] }, { accessFlags := 9, nameIndex := 23, descriptorIndex := 24, attributes := #[] }] 49 2 #[] #[])
  fields := #[]
  methods := #[k1m0, k1m1]
  instanceTypes := #[]
  staticTypes := #[]
  resolved := Array.replicate 28 none
  statics := none }

def pool2 : Array CpInfo := pool [(1, .methodref 2 3), (0, .class_ 4), (0, .nameAndType 5 6), (0, u "java/lang/Object"), (0, u "<init>"), (0, u "()V"), (0, .fieldref 8 9), (0, .class_ 10), (0, .nameAndType 11 12), (0, u "com/example/nuthatch/nuthatch/Blocks"), (0, u "count"), (0, u "I"), (0, .fieldref 8 14), (0, .nameAndType 15 12), (0, u "size"), (8, u "blockCount"), (0, u "()I"), (17, u "(II)V")] 7

def k2c0 : Code := { maxStack := 2, maxLocals := 3, code := prog_2_method_1_code, exceptionTable := #[], attributes := #[] }
def k2m0 : Method := { name := "<init>", desc := "(II)V", sig := { parameters := [.int, .int], returnType := none }, accessFlags := 0, code := some k2c0 }
def k2c1 : Code := { maxStack := 4, maxLocals := 1, code := prog_2_method_2_code, exceptionTable := #[], attributes := #[] }
def k2m1 : Method := { name := "blockCount", desc := "()I", sig := { parameters := [], returnType := some .int }, accessFlags := 0, code := some k2c1 }
/-- com/example/nuthatch/nuthatch/Blocks -/
def k2 : Class := { plain "com/example/nuthatch/nuthatch/Blocks" (some 0) with
  accessFlags := 32
  interfaces := #[]
  cf := some (fileOf pool2 8 #[] #[{ accessFlags := 0, nameIndex := 5, descriptorIndex := 43, attributes := #[] }, { accessFlags := 0, nameIndex := 24, descriptorIndex := 25, attributes := #[] }] 32 2 #[] #[{ accessFlags := 18, nameIndex := 11, descriptorIndex := 12, attributes := #[] }, { accessFlags := 18, nameIndex := 15, descriptorIndex := 12, attributes := #[] }])
  fields := #[{ name := "count", type := .int, accessFlags := 18, slot := 0, constantValue := 0 }, { name := "size", type := .int, accessFlags := 18, slot := 1, constantValue := 0 }]
  methods := #[k2m0, k2m1]
  instanceTypes := #[.int, .int]
  staticTypes := #[]
  resolved := Array.replicate 51 none
  statics := none }

def pool3 : Array CpInfo := pool [(1, u "java/lang/Cloneable"), (0, .class_ 1), (0, u "java/lang/Object"), (0, .class_ 3)] 3

/-- java/lang/Cloneable -/
def k3 : Class := { plain "java/lang/Cloneable" (some 0) with
  accessFlags := 1537
  interfaces := #[]
  cf := some (fileOf pool3 2 #[] #[] 1537 4 #[] #[])
  fields := #[]
  methods := #[]
  instanceTypes := #[]
  staticTypes := #[]
  resolved := Array.replicate 8 none
  statics := none }

def pool4 : Array CpInfo := pool [(1, u "java/io/Serializable"), (0, .class_ 1), (0, u "java/lang/Object"), (0, .class_ 3)] 3

/-- java/io/Serializable -/
def k4 : Class := { plain "java/io/Serializable" (some 0) with
  accessFlags := 1537
  interfaces := #[]
  cf := some (fileOf pool4 2 #[] #[] 1537 4 #[] #[])
  fields := #[]
  methods := #[]
  instanceTypes := #[]
  staticTypes := #[]
  resolved := Array.replicate 8 none
  statics := none }

/-- the primitive byte -/
def k5 : Class := { plain "byte" none with kind := .primitive 'B', accessFlags := 0x411 }
/-- [B -/
def k6 : Class := { plain "[B" (some 0) with kind := .array 5 .byte, interfaces := #[3, 4], accessFlags := 1041 }

/-- the primitive int -/
def k7 : Class := { plain "int" none with kind := .primitive 'I', accessFlags := 0x411 }
/-- [I -/
def k8 : Class := { plain "[I" (some 0) with kind := .array 7 .int, interfaces := #[3, 4], accessFlags := 1041 }

def heap : Heap := #[]
def classes : Array Class := #[k0, k1, k2, k3, k4, k5, k6, k7, k8]
def interned : List (Array UInt16 × Addr) := []
def slotsUsed : Nat := 0
def theMethod : MethodId := ⟨1, 1⟩
def args0 : Array Value := #[.int 5, .int 5, .int 5]
def aboutOver (below : List Frame) : State where
  vm := { classes := classes, interned := interned.toArray }
  heap := heap
  slotsUsed := slotsUsed
  threads := #[{ frames := .invoking theMethod args0 :: below }]
def below0 : List Frame := [.native { method := ⟨0, 0⟩, args := #[] }]
def about1 : State := aboutOver below0
def p0 : Program := .bare "" "" ""
def e0 : Env := launch0.env 0 0 0
theorem w_frames : about1.frames = Frame.invoking theMethod args0 :: below0 := rfl
set_option maxRecDepth 65536 in
theorem w_args : argsFit about1.vm theMethod args0 = true := by decide +kernel
set_option maxRecDepth 65536 in
theorem w_heap : heapFits about1 = true := by decide +kernel
set_option maxRecDepth 65536 in
theorem w_runnable : about1.curStatus? = some .runnable := by decide +kernel
set_option maxRecDepth 65536 in
theorem w_alone : about1.alone = true := by decide +kernel
set_option maxRecDepth 65536 in
theorem w_named : about1.methodNamed? x = some theMethod := by decide +kernel
set_option maxRecDepth 65536 in
theorem w_hears : about1.hears theMethod below0 = true := by decide +kernel
set_option maxRecDepth 65536 in
theorem w_ripe : about1.ripe theMethod args0 below0 = true := by decide +kernel
theorem w_running : about1.status = .running := rfl
set_option maxRecDepth 65536 in
theorem w_room : about1.hasRoom e0.platform room_1 = true :=
  launch0.hasRoom_least _ room_1 (by decide +kernel) (by decide +kernel) (by decide +kernel) (by decide +kernel) (by decide +kernel) (by decide +kernel)
theorem allAtoms_all (ts : List Jvm.Cond) (a : Array Jvm.Value) (st : Jvm.State) : (allAtoms ts).before a st = ts.all (fun c => c.before a st) := by
  induction ts with
  | nil => rfl
  | cons c t ih =>
    show (Jvm.Cond.and c (allAtoms t)).before a st = _
    rw [Jvm.Cond.before_and, ih, List.all_cons]
def words1 : List Jvm.Cond := Jvm.Cond.code x code maxLocals ret :: tables_1
/-- a 'code' word, met by the world's own term for the bytes: nothing is compared byte by byte -/
theorem code_word {y : MethodName} {bytes : ByteArray} {mx : Nat} {rt : Option FieldType} {a : Array Value} {s : State} {m : MethodId} {meth : Method} {c : Code} (h1 : s.methodNamed? y = some m) (h2 : s.vm.method? m = some meth) (h3 : meth.code = some c) (h4 : c.code = bytes)
    (h5 : (c.maxLocals == mx && c.exceptionTable.isEmpty && decide (c.maxStack ≤ mostOperands) && decide (meth.sig.returnType = rt) && !meth.locks && decide (parseMethodDescriptor y.desc = some meth.sig)) = true) : (Jvm.Cond.code y bytes mx rt).before a s = true := by
  simp only [Bool.and_eq_true, beq_iff_eq, Bool.not_eq_true', decide_eq_true_eq] at h5
  obtain ⟨⟨⟨⟨⟨g1, g2⟩, g3⟩, g4⟩, g5⟩, g6⟩ := h5
  simp [Cond.before, Cond.holds, Cond.value, h1, h2, h3, h4, g1, g2, g3, g4, g5, g6]
def isCode : Jvm.Cond → Bool
  | .code _ _ _ _ => true
  | _ => false
theorem all_split {L : List Jvm.Cond} {P : Jvm.Cond → Bool} (h1 : L.all (fun c => isCode c || P c) = true) (h2 : ∀ c ∈ L.filter isCode, P c = true) : L.all P = true := by
  refine List.all_eq_true.mpr fun c hc => ?_
  have h := List.all_eq_true.mp h1 c hc
  rcases Bool.eq_false_or_eq_true (isCode c) with hi | hi
  · exact h2 c (List.mem_filter.mpr ⟨hc, hi⟩)
  · simpa [hi] using h
set_option maxRecDepth 65536 in
theorem w_c0 : (Jvm.Cond.code x code maxLocals ret).before args0 about1 = true := code_word (m := ⟨1, 1⟩) (meth := k1m1) (c := k1c1) (by decide +kernel) rfl rfl rfl (by decide +kernel)
set_option maxRecDepth 65536 in
theorem w_c1 : (Jvm.Cond.code ({ cls := "com/example/nuthatch/nuthatch/Blocks", name := "<init>", desc := "(II)V" } : Jvm.MethodName) prog_2_method_1_code (3 : Nat) (Option.none : Option Jvm.ClassFile.FieldType)).before args0 about1 = true := code_word (m := ⟨2, 0⟩) (meth := k2m0) (c := k2c0) (by decide +kernel) rfl rfl rfl (by decide +kernel)
set_option maxRecDepth 65536 in
theorem w_c2 : (Jvm.Cond.code ({ cls := "java/lang/Object", name := "<init>", desc := "()V" } : Jvm.MethodName) object_method_1_code (1 : Nat) (Option.none : Option Jvm.ClassFile.FieldType)).before args0 about1 = true := code_word (m := ⟨0, 0⟩) (meth := k0m0) (c := k0c0) (by decide +kernel) rfl rfl rfl (by decide +kernel)
set_option maxRecDepth 65536 in
theorem w_c3 : (Jvm.Cond.code ({ cls := "com/example/nuthatch/nuthatch/Blocks", name := "blockCount", desc := "()I" } : Jvm.MethodName) prog_2_method_2_code (1 : Nat) (Option.some Jvm.ClassFile.FieldType.int)).before args0 about1 = true := code_word (m := ⟨2, 1⟩) (meth := k2m1) (c := k2c1) (by decide +kernel) rfl rfl rfl (by decide +kernel)
def codes1 : List Jvm.Cond := [Jvm.Cond.code x code maxLocals ret, Jvm.Cond.code ({ cls := "com/example/nuthatch/nuthatch/Blocks", name := "<init>", desc := "(II)V" } : Jvm.MethodName) prog_2_method_1_code (3 : Nat) (Option.none : Option Jvm.ClassFile.FieldType), Jvm.Cond.code ({ cls := "java/lang/Object", name := "<init>", desc := "()V" } : Jvm.MethodName) object_method_1_code (1 : Nat) (Option.none : Option Jvm.ClassFile.FieldType), Jvm.Cond.code ({ cls := "com/example/nuthatch/nuthatch/Blocks", name := "blockCount", desc := "()I" } : Jvm.MethodName) prog_2_method_2_code (1 : Nat) (Option.some Jvm.ClassFile.FieldType.int)]
set_option maxRecDepth 65536 in
theorem codes_eq : words1.filter isCode = codes1 := rfl
theorem w_codes : ∀ c ∈ words1.filter isCode, c.before args0 about1 = true := by
  rw [codes_eq]
  intro c hc
  simp only [codes1, List.mem_cons, List.not_mem_nil, or_false] at hc
  rcases hc with rfl | rfl | rfl | rfl
  · exact w_c0
  · exact w_c1
  · exact w_c2
  · exact w_c3
set_option maxRecDepth 65536 in
theorem w_t1 : words1.all (fun c => isCode c || c.before args0 about1) = true := by decide +kernel
theorem w_tables : (allAtoms (Jvm.Cond.code x code maxLocals ret :: tables_1)).before args0 about1 = true := by
  rw [allAtoms_all]
  show words1.all (fun c => c.before args0 about1) = true
  refine all_split ?_ w_codes
  rw [w_t1]
set_option maxRecDepth 65536 in
theorem w_case : (Jvm.Cond.and given_1 narrow_1).before args0 about1 = true := by decide +kernel
theorem w_applies : (headSpec (Jvm.Cond.code x code maxLocals ret :: tables_1) room_1).applies x e0.platform about1 = true :=
  (Spec.applies_iff w_frames).mpr ⟨w_running, w_runnable, w_alone, w_named, w_hears, w_ripe, w_room, w_tables⟩
theorem atStart : AtStart classFile x code maxLocals ret World_1 tables_1 room_1 Calls_1 rest_1 Pre_1 launch0 p0 e0 about1 theMethod args0 below0 :=
  ⟨lists_1, trivial, launch0.admits_env _ _ _, launch0.least_env, fairChoices_fair.cas, fairChoices_fair.clock, w_frames, w_args, w_heap, w_applies, trivial, trivial, w_case⟩
end start1
theorem witness_1 : WitnessClaimed_1 := ⟨start1.p0, start1.e0, start1.about1, start1.theMethod, start1.args0, start1.below0, start1.atStart⟩
end Jvm.Pilot.@@N@@

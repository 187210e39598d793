import JvmDerived
import JvmDerived.Pilot.@@N@@Statement
import JvmDerived.Pilot.@@N@@Code
set_option linter.unusedVariables false
set_option linter.unusedSimpArgs false
namespace Jvm.RoadKit
open Sem ClassFile Op Lib Jvm.Stand Jvm.Free Jvm.LawKit
section New
variable {p : Program} {l : Launch} {e : Env} {R : Room} {s : State} {m : MethodId} {args : Array Value} {below : List Frame} {meth : Method} {c : Code} {T : State} {locs : List Loc} {cells slots : Nat}
theorem retI (X : Stand p l e R s m args below meth c T locs cells slots) (hx : p.tables.exec = Jvm.exec) {pc : Nat} {Ls : Array Slot} {z : Int32} {rest : List Value} (hret : meth.sig.returnType = some .int) (hd : decode c.code pc = .ok (.ireturn, 1)) {fs : List Frame}
    (hl : ∀ (f : JFrame) (acts : List Action), f.method = m → f.locked = none → f.entered = [] → (doReturn e (T.setTop f) acts (some (.int z))).1 = T.setFrames fs) : Steps p.tables e below (T.setTop (mkF m pc Ls (.int z :: rest))) (T.setFrames fs) := by
  have hm' : T.vm.method? m = some meth := X.method'
  have hn : narrow .int (.int z) = .int z := rfl
  show Steps p.tables e below (T.setTop { method := m, pc := pc, locals := Ls, stack := _ :: rest, locked := none }) _
  jvm_step X.here [X.here.top, hx, hd, hm', hret, hn]
  first | (intro acts; rw [hl _ acts rfl rfl rfl]) | rw [hl _ _ rfl rfl rfl]
  exact Steps.refl _
end New
end Jvm.RoadKit
namespace Jvm.Pilot.@@N@@
open Jvm Jvm.ClassFile Sem Op Lib Jvm.Free Jvm.Stand Jvm.LawKit Jvm.RoadKit Bundle Jvm.Pilot.@@N@@.Jvm.D
section OwnKit
variable {p : Program} {l : Launch} {e : Env} {R : Room} {s : State} {m : MethodId} {args : Array Value} {below : List Frame} {meth : Method} {c : Code} {T : State} {locs : List Loc} {cells slots : Nat}
/-- what a body owes from the state A on: it comes to its return, and what it returned, the heap and the written places satisfy Q -/
def own_Fin (p : Program) (e : Env) (below : List Frame) (s : State) (Q : Option Value → Heap → List Loc → Prop) (rc rs : Nat) (A : State) : Prop :=
  ∃ s₂ o, Steps p.tables e below A s₂ ∧ s₂.status = .running ∧ Ended s₂ below o ∧ ∃ v L, o = .returned v ∧ Q v s₂.heap L ∧ FrameEnd s o s₂ L rc rs
theorem own_step {Q : Option Value → Heap → List Loc → Prop} {rc rs : Nat} {A B : State} (k : ∀ t, Steps p.tables e below B t → Steps p.tables e below A t) (h : own_Fin p e below s Q rc rs B) : own_Fin p e below s Q rc rs A := by
  obtain ⟨s₂, o, h1, h2⟩ := h
  exact ⟨s₂, o, k _ h1, h2⟩
theorem own_retN (X : Stand p l e R s m args below meth c T locs cells slots) (hx : p.tables.exec = Jvm.exec) (hlk : meth.locks = false) {Q : Option Value → Heap → List Loc → Prop} {rc rs n0 : Nat} {h : Heap} {pc : Nat} {Ls : Array Slot} {z v : Int32} {t : FieldType} {rest : List Value} (hret : meth.sig.returnType = some t) (ht : t = .boolean ∨ t = .byte ∨ t = .char ∨ t = .short)
    (hd : decode c.code pc = .ok (.ireturn, 1)) (hc : cells ≤ rc) (hs : slots ≤ rs) (eT : T.heap = h) (N : Fr n0 locs) (hQ : ∀ L', Fr n0 L' → Q (some (.int v)) h L') (hv : v = nar t z) :
    own_Fin p e below s Q rc rs (T.setTop (mkF m pc Ls (.int z :: rest))) := by
  subst hv
  obtain ⟨fs, hr, hrun, hended, hW, hsame⟩ := X.leave (v := some (.int (nar t z))) (fun h => by rw [hret] at h; cases h) hlk
  refine ⟨_, _, retN X hx hret ht hd hr, hrun, hended, _, _, rfl, ?_, ⟨_, rfl⟩, hW, hsame.mono hc hs⟩
  show Q _ T.heap _
  rw [eT]
  exact hQ _ N
theorem own_retI (X : Stand p l e R s m args below meth c T locs cells slots) (hx : p.tables.exec = Jvm.exec) (hlk : meth.locks = false) {Q : Option Value → Heap → List Loc → Prop} {rc rs n0 : Nat} {h : Heap} {pc : Nat} {Ls : Array Slot} {z v : Int32} {rest : List Value} (hret : meth.sig.returnType = some .int)
    (hd : decode c.code pc = .ok (.ireturn, 1)) (hc : cells ≤ rc) (hs : slots ≤ rs) (eT : T.heap = h) (N : Fr n0 locs) (hQ : ∀ L', Fr n0 L' → Q (some (.int v)) h L') (hv : v = z) :
    own_Fin p e below s Q rc rs (T.setTop (mkF m pc Ls (.int z :: rest))) := by
  subst hv
  obtain ⟨fs, hr, hrun, hended, hW, hsame⟩ := X.leave (v := some (.int v)) (fun h => by rw [hret] at h; cases h) hlk
  refine ⟨_, _, retI X hx hret hd hr, hrun, hended, _, _, rfl, ?_, ⟨_, rfl⟩, hW, hsame.mono hc hs⟩
  show Q _ T.heap _
  rw [eT]
  exact hQ _ N
theorem own_ret0 (X : Stand p l e R s m args below meth c T locs cells slots) (hx : p.tables.exec = Jvm.exec) (hlk : meth.locks = false) {Q : Option Value → Heap → List Loc → Prop} {rc rs : Nat} {h : Heap} {pc : Nat} {Ls : Array Slot} (hret : meth.sig.returnType = none)
    (hd : decode c.code pc = .ok (.return_, 1)) (hc : cells ≤ rc) (hs : slots ≤ rs) (eT : T.heap = h) (hQ : Q none h locs) :
    own_Fin p e below s Q rc rs (T.setTop (mkF m pc Ls [])) := by
  obtain ⟨fs, hr, hrun, hended, hW, hsame⟩ := X.leave (v := none) (fun _ => rfl) hlk
  refine ⟨_, _, X.returnOut hx hret hd hr, hrun, hended, _, _, rfl, ?_, ⟨_, rfl⟩, hW, hsame.mono hc hs⟩
  show Q _ T.heap _
  rw [eT]
  exact hQ
end OwnKit
/-- an array of n ints (bytes, ..) at a: its i-th is g i -/
def own_AF (Z : State) (h : Heap) (a : Addr) (ty : FieldType) (n : Nat) (g : Nat → Int32) : Prop := ∃ c : Cell, Arr Z h a c ty ∧ c.slots.size = n ∧ ∀ i, i < n → c.slots[i]? = some (.int (g i))
def own_In (n : Nat) (j : Int32) : Prop := ¬ (j < 0 ∨ n ≤ j.toNatClampNeg)
theorem own_AF.lt {Z : State} {h : Heap} {a : Addr} {ty : FieldType} {n : Nat} {g : Nat → Int32} (F : own_AF Z h a ty n g) : a < h.size := by obtain ⟨c, A, -⟩ := F; exact A.lt
theorem own_AFext {Z : State} {h h' : Heap} {a : Addr} {ty : FieldType} {n : Nat} {g : Nat → Int32} (F : own_AF Z h a ty n g) (E : Ext h h') : own_AF Z h' a ty n g := by obtain ⟨c, A, r⟩ := F; exact ⟨c, A.ext E, r⟩
theorem own_AFoth {Z : State} {h h' : Heap} {a b : Addr} {sl : Nat} {v : Value} {ty : FieldType} {n : Nat} {g : Nat → Int32} (F : own_AF Z h b ty n g) (W : Wr h h' a sl v) (q : b ≠ a) : own_AF Z h' b ty n g := by obtain ⟨c, A, r⟩ := F; exact ⟨c, A.other W q, r⟩
theorem own_AFkeep {Z : State} {h h' : Heap} {a : Addr} {ws : List Addr} {ty : FieldType} {n : Nat} {g : Nat → Int32} (F : own_AF Z h a ty n g) (K : Keep h h' ws) (q : a ∉ ws) : own_AF Z h' a ty n g := by obtain ⟨c, A, r⟩ := F; exact ⟨c, ⟨K.2.1 a c A.1 q, A.2⟩, r⟩
theorem own_AFset {Z : State} {h h' : Heap} {a : Addr} {ty : FieldType} {n k : Nat} {g : Nat → Int32} {c : Cell} {x : Int32} (A : Arr Z h a c ty) (S : c.slots.size = n) (H : ∀ i, i < n → c.slots[i]? = some (.int (g i))) (W : Wr h h' a k (.int x)) : own_AF Z h' a ty n (fun i => if i = k then x else g i) := by
  obtain ⟨c', e1, e2, e3, e4, e5, e6, e7⟩ := wr_at W A.1
  refine ⟨c', ⟨e1, ?_⟩, e4.trans S, fun i hi => ?_⟩
  · rw [(e7 rfl).1]; exact A.2
  · by_cases q : i = k
    · subst q
      show c'.slots[i]? = some (.int (if i = i then x else g i))
      rw [if_pos rfl]
      exact (e7 rfl).2.1
    · show c'.slots[i]? = some (.int (if i = k then x else g i))
      rw [e6 i q, if_neg q]
      exact H i hi
theorem own_AFnew {Z : State} {h : Heap} {a : Addr} {k : ClassId} {ty : FieldType} {z : Int32} {n : Nat} (A : Arr Z h a (newA k ty z) ty) (hn : z.toNatClampNeg = n) (hd : defaultValue ty = .int 0 := by rfl) : own_AF Z h a ty n (fun _ => 0) :=
  ⟨_, A, (sz_new _ _ _).trans hn, fun i hi => by
    have hs : (newA k ty z).slots = Array.replicate z.toNatClampNeg (defaultValue ty) := rfl
    rw [hs, hn, hd]
    simp [hi]⟩
theorem own_eqi {x y : Int32} {b : Int} (h : y.toInt = b) : x = y ↔ x.toInt = b := by rw [← h]; exact Int32.toInt_inj.symm

theorem d1_0 : decode prog_1_method_3_code 0 = .ok (.lload_n 0, 1) := by decide +kernel
theorem d1_1 : decode prog_1_method_3_code 1 = .ok (.ldc2_w 29, 3) := by decide +kernel
theorem d1_4 : decode prog_1_method_3_code 4 = .ok (.lcmp, 1) := by decide +kernel
theorem d1_5 : decode prog_1_method_3_code 5 = .ok (.ifCond .le 13, 3) := by decide +kernel
theorem d1_8 : decode prog_1_method_3_code 8 = .ok (.new 34, 3) := by decide +kernel
theorem d1_11 : decode prog_1_method_3_code 11 = .ok (.dup, 1) := by decide +kernel
theorem d1_12 : decode prog_1_method_3_code 12 = .ok (.ldc 36, 2) := by decide +kernel
theorem d1_14 : decode prog_1_method_3_code 14 = .ok (.invokespecial 38, 3) := by decide +kernel
theorem d1_17 : decode prog_1_method_3_code 17 = .ok (.athrow, 1) := by decide +kernel
theorem d1_18 : decode prog_1_method_3_code 18 = .ok (.lload_n 0, 1) := by decide +kernel
theorem d1_19 : decode prog_1_method_3_code 19 = .ok (.l2i, 1) := by decide +kernel
theorem d1_20 : decode prog_1_method_3_code 20 = .ok (.ireturn, 1) := by decide +kernel
def f1_0 (j0 : Int64) : Int32 := (j0.toInt32)
set_option maxRecDepth 65536 in
set_option maxHeartbeats 40000000 in
theorem b1_0 {p : Program} {l : Launch} {e : Env} {s : State} {m : MethodId} {args : Array Value} {below : List Frame} {meth : Method} {c : Code} {T : State} {locs : List Loc} {cells slots : Nat} {Z : State} {a0 : Array Value} {h : Heap} {n0 : Nat} {Q : Option Value → Heap → List Loc → Prop} (j0 : Int64) (hw : ∀ d ∈ tables_1, d.before a0 Z = true) (X : Stand p l e ({ frames := 0, cells := 0, slots := 0, locals := 0 } : Room) s m args below meth c T locs cells slots) (hx : p.tables.exec = Jvm.exec) (hZ : Z.Warmed39 s.vm) (hby : c.code = prog_1_method_3_code) (hml : c.maxLocals = 2) (hown : s.vm.findClass "com/example/nuthatch/nuthatch/ArrayGrowth" = some m.cls) (hret : meth.sig.returnType = some .int) (hlk : meth.locks = false) (eT : T.heap = h) (N : Fr n0 locs) (hc : cells ≤ 0) (hs : slots ≤ 0) (hle : ¬ ((0 : Int32) < (lcmpW j0 (2147483639 : Int64)))) (v : Int32) (hv : v = f1_0 j0) (hQ : ∀ L', Fr n0 L' → Q (some (.int v)) h L') :
    own_Fin p e below s Q 0 0 (T.setTop (mkF m 0 #[.val (.long j0), .second] [])) := by
  refine own_step (fun t k => XS.lloadN X.here hx rfl (hb hby d1_0) rfl  k) ?_
  show own_Fin p e below s Q 0 0 (T.setTop (mkF m 1 #[.val (.long j0), .second] [(.long j0)]))
  refine own_step (X.ldc2Long hx hown (mvT hZ (hw _ (List.mem_of_getElem? (i := 6) rfl))) (g := (mkF m 1 #[.val (.long j0), .second] [(.long j0)])) rfl (hb hby d1_1)) ?_
  show own_Fin p e below s Q 0 0 (T.setTop (mkF m 4 #[.val (.long j0), .second] [(.long (2147483639 : Int64)), (.long j0)]))
  refine own_step (fun t k => XS.lcmp X.here hx rfl (hb hby d1_4) rfl k) ?_
  show own_Fin p e below s Q 0 0 (T.setTop (mkF m 5 #[.val (.long j0), .second] [(.int (lcmpW j0 (2147483639 : Int64)))]))
  refine own_step (fun t k => XS.ifYes X.here hx rfl (pc0 := 5) (pc' := 18) rfl (hb hby d1_5) rfl ((if0 _ _).trans (flt hle).2.2.2) (by decide) (by decide) k) ?_
  show own_Fin p e below s Q 0 0 (T.setTop (mkF m 18 #[.val (.long j0), .second] []))
  refine own_step (fun t k => XS.lloadN X.here hx rfl (hb hby d1_18) rfl  k) ?_
  show own_Fin p e below s Q 0 0 (T.setTop (mkF m 19 #[.val (.long j0), .second] [(.long j0)]))
  refine own_step (fun t k => XS.l2i X.here hx rfl (hb hby d1_19) rfl k) ?_
  show own_Fin p e below s Q 0 0 (T.setTop (mkF m 20 #[.val (.long j0), .second] [(.int (j0.toInt32))]))
  exact own_retI X hx hlk hret (hb hby d1_20) (by omega) (by omega) eT N hQ (hv)
theorem pnm_0 : plainName "com/example/nuthatch/nuthatch/ArrayGrowth" = true := by first | (simp [plainName, overriddenIn]; done) | decide +kernel
theorem pdm_0 : parseMethodDescriptor "(J)I" = some ⟨[.long], some .int⟩ := by decide +kernel
theorem ef_1 (m : MethodId) (j0 : Int64) : entryFrame m #[(.long j0)] 2 = (mkF m 0 #[.val (.long j0), .second] []) := by first | (simp [entryFrame, mkF, argsToLocals, Value.category]; done) | rfl
def Q1 (j0 : Int64) (h0 : Heap) (n0 : Nat) (v : Option Value) (h : Heap) (L : List Loc) : Prop := v = some (.int (f1_0 j0)) ∧ Fr n0 L ∧ h = h0
set_option maxRecDepth 65536 in
set_option maxHeartbeats 4000000 in
theorem rm1 (l : Launch) (Z : State) (a0 : Array Value) (hw : ∀ d ∈ tables_1, d.before a0 Z = true) (ws : List Jvm.Cond) (j0 : Int64) (h0 : Heap) (n0 : Nat) (hle : ¬ ((0 : Int32) < (lcmpW j0 (2147483639 : Int64)))) :
    MetFree l (⟨"com/example/nuthatch/nuthatch/ArrayGrowth", "length", "(J)I"⟩ : MethodName) (head1 (Jvm.Cond.code (⟨"com/example/nuthatch/nuthatch/ArrayGrowth", "length", "(J)I"⟩ : MethodName) prog_1_method_3_code 2 (some .int) :: ws) ({ frames := 0, cells := 0, slots := 0, locals := 0 } : Room)) (fun a U => a = #[(.long j0)] ∧ Z.Warmed39 U.vm ∧ U.heap = h0) (fun _ _ _ _ _ => True) (fun _ U o U' => ∃ v L, o = .returned v ∧ Q1 j0 h0 n0 v U'.heap L ∧ FrameEnd U o U' L ({ frames := 0, cells := 0, slots := 0, locals := 0 } : Room).cells ({ frames := 0, cells := 0, slots := 0, locals := 0 } : Room).slots) := by
  refine MetFree.of_bodySF (plainFor_of_name pnm_0) hisR ?_
  intro p e s m args below meth c s₁ Bd hml0 hP hK
  obtain ⟨rfl, hZ, hh⟩ := hP
  have hx := Bd.exec
  have hby := Bd.bytes
  have hml : c.maxLocals = 2 := hml0
  have hown : s.vm.findClass "com/example/nuthatch/nuthatch/ArrayGrowth" = some m.cls := findClass_of_methodNamed Bd.named
  have X0 : Stand p l e ({ frames := 0, cells := 0, slots := 0, locals := 0 } : Room) s m #[(.long j0)] below meth c s₁ [] 0 0 := Stand.of_body Bd
  have e0 : s₁.heap = h0 := by rw [← hh, Bd.state]; rfl
  have fin := b1_0 j0 (Q := Q1 j0 h0 n0) hw X0 hx hZ hby hml hown Bd.returns (BodyLoose.notSynchronized Bd) e0 (Fr.nil n0) (Nat.zero_le _) (Nat.zero_le _) hle _ rfl (fun L' n' => ⟨rfl, n', rfl⟩)
  exact own_step (fun t k => castTop (ef_1 m j0) k) fin
theorem own_len (n : Int64) (h : 0 ≤ n.toInt ∧ n.toInt ≤ 2147483639) : (¬ ((0 : Int32) < (lcmpW n (2147483639 : Int64)))) ∧ (¬ ((f1_0 n) < (0 : Int32))) ∧ (lcmpW ((f1_0 n).toInt64) n) = (0 : Int32) := by
  have e1 := c_l2i n
  have e2 := rng32 n.toInt32
  have e3 : n.toInt32.toInt = n.toInt := by omega
  refine ⟨fun q => ?_, fun q => ?_, (lw_eq _ _).mpr ?_⟩
  · have q' : (2147483639 : Int64).toInt < n.toInt := Int64.lt_iff_toInt_lt.mp ((lw_gt _ _).mp q)
    have q2 : (2147483639 : Int64).toInt = 2147483639 := by decide
    omega
  · have q' : n.toInt32.toInt < (0 : Int32).toInt := Int32.lt_iff_toInt_lt.mp q
    have q2 : (0 : Int32).toInt = 0 := by decide
    omega
  · apply Int64.toInt_inj.mp
    exact (c_i2l n.toInt32).trans e3
theorem own_n0 : 0 ≤ (2147483639 : Int64).toInt ∧ (2147483639 : Int64).toInt ≤ 2147483639 := by decide
theorem own_n1 (p : Int32) : 0 ≤ (((p.toUInt32 >>> ((28 : Int32) &&& 31).toUInt32).toInt32).toInt64).toInt ∧ (((p.toUInt32 >>> ((28 : Int32) &&& 31).toUInt32).toInt32).toInt64).toInt ≤ 2147483639 := by
  rw [c_i2l, c_iushr p 28 28 (by decide) (by decide)]
  have := rng32 p
  omega
theorem own_n2 (x : Int64) : 0 ≤ (x &&& (9223372036854775807 : Int64)).toInt → 0 ≤ ((x &&& (9223372036854775807 : Int64)) - ((x &&& (9223372036854775807 : Int64)) / ((2147483639 : Int64) + (1 : Int64))) * ((2147483639 : Int64) + (1 : Int64))).toInt ∧ ((x &&& (9223372036854775807 : Int64)) - ((x &&& (9223372036854775807 : Int64)) / ((2147483639 : Int64) + (1 : Int64))) * ((2147483639 : Int64) + (1 : Int64))).toInt ≤ 2147483639 := fun h0 => by
  rw [(c_lrem (x &&& (9223372036854775807 : Int64)) ((2147483639 : Int64) + (1 : Int64)) 2147483640 (by decide)).1 h0]
  omega
theorem own_n3 (x : Int64) : 0 ≤ ((x &&& (9223372036854775807 : Int64)) - ((x &&& (9223372036854775807 : Int64)) / ((2147483639 : Int64) + (1 : Int64))) * ((2147483639 : Int64) + (1 : Int64))).toInt ∧ ((x &&& (9223372036854775807 : Int64)) - ((x &&& (9223372036854775807 : Int64)) / ((2147483639 : Int64) + (1 : Int64))) * ((2147483639 : Int64) + (1 : Int64))).toInt ≤ 2147483639 :=
  own_n2 x ((c_andSL x 9223372036854775807).2.2 (by decide))
set_option maxRecDepth 65536 in
set_option maxHeartbeats 40000000 in
theorem b0_44 {p : Program} {l : Launch} {e : Env} {s : State} {m : MethodId} {args : Array Value} {below : List Frame} {meth : Method} {c : Code} {T : State} {locs : List Loc} {cells slots : Nat} {Z : State} {a0 : Array Value} {h : Heap} {n0 : Nat} {Q : Option Value → Heap → List Loc → Prop} (j0 : Int64) (i2 : Int32) (j3 : Int64) (j5 : Int64) (i7 : Int32) (hw : ∀ d ∈ tables_1, d.before a0 Z = true) (X : Stand p l e room_1 s m args below meth c T locs cells slots) (hx : p.tables.exec = Jvm.exec) (hZ : Z.Warmed39 s.vm) (hby : c.code = code) (hml : c.maxLocals = 9) (hown : s.vm.findClass "com/example/nuthatch/nuthatch/ArrayGrowthLengthPinLaw" = some m.cls) (hret : meth.sig.returnType = some .boolean) (hlk : meth.locks = false) (eT : T.heap = h) (N : Fr n0 locs) (hc : cells ≤ 0) (hs : slots ≤ 0) (hn : 0 ≤ j5.toInt ∧ j5.toInt ≤ 2147483639) (Z0 : n0 ≤ h.size) (hQ : ∀ H' L', Fr n0 L' → Q (some (.int 1)) H' L') :
    own_Fin p e below s Q 0 0 (T.setTop (mkF m 44 #[.val (.long j0), .second, .val (.int i2), .val (.long j3), .second, .val (.long j5), .second, .val (.int i7), .unset] [])) := by
  refine own_step (fun t k => XS.lload X.here hx rfl (hb hby at_44) rfl  k) ?_
  show own_Fin p e below s Q 0 0 (T.setTop (mkF m 46 #[.val (.long j0), .second, .val (.int i2), .val (.long j3), .second, .val (.long j5), .second, .val (.int i7), .unset] [(.long j5)]))
  obtain ⟨_, _, ⟨T2, L2, k2, n2⟩, -, X2, ⟨Lc2, hQ2, l2, y2, z2⟩, st2⟩ := Jvm.LawKit.callS X hx (y := (⟨"com/example/nuthatch/nuthatch/ArrayGrowth", "length", "(J)I"⟩ : MethodName)) hown (mvT hZ (hw _ (List.mem_of_getElem? (i := 2) rfl))) (mvT hZ (hw _ (List.mem_of_getElem? (i := 3) rfl))) (mvT hZ (hw _ (List.mem_of_getElem? (i := 4) rfl))) (mvT hZ (hw _ (List.mem_of_getElem? (i := 5) rfl))) (by decide) (backOf (W := 0) (rm1 l Z a0 hw [] j5 h n0 ((own_len j5 hn).1)) hZ (hw _ (List.mem_of_getElem? (i := 5) rfl)) (hw _ (List.mem_of_getElem? (i := 4) rfl)) (by decide) (by decide)) (g := (mkF m 46 #[.val (.long j0), .second, .val (.int i2), .val (.long j3), .second, .val (.long j5), .second, .val (.int i7), .unset] [(.long j5)])) rfl (by rw [hml]; rfl) (argsL := [(.long j5)]) (rest := []) (lenOf pdm_0 rfl) rfl (by show 2 * 0 + _ ≤ _; exact Nat.le_of_eq rfl) (hb hby at_46) (fun _ _ => ⟨rfl, eT, (by show (_ : Nat) ≤ 0; omega), (by show (_ : Nat) ≤ 0; omega)⟩)
  dsimp only [Pt.U, Pt.locs, Pt.cells, Pt.slots] at X2 l2 y2 z2 st2 hQ2
  subst l2 y2 z2
  obtain ⟨rfl, N2q, e2⟩ := hQ2
  have N2 := Fr.app N N2q
  refine own_step st2 ?_
  show own_Fin p e below s Q 0 0 (T2.setTop (mkF m 49 #[.val (.long j0), .second, .val (.int i2), .val (.long j3), .second, .val (.long j5), .second, .val (.int i7), .unset] [(.int (f1_0 j5))]))
  refine own_step (fun t k => XS.istore X2.here hx rfl (hb hby at_49) rfl (l' := #[.val (.long j0), .second, .val (.int i2), .val (.long j3), .second, .val (.long j5), .second, .val (.int i7), .val (.int (f1_0 j5))]) rfl k) ?_
  show own_Fin p e below s Q 0 0 (T2.setTop (mkF m 51 #[.val (.long j0), .second, .val (.int i2), .val (.long j3), .second, .val (.long j5), .second, .val (.int i7), .val (.int (f1_0 j5))] []))
  refine own_step (fun t k => XS.iload X2.here hx rfl (hb hby at_51) rfl  k) ?_
  show own_Fin p e below s Q 0 0 (T2.setTop (mkF m 53 #[.val (.long j0), .second, .val (.int i2), .val (.long j3), .second, .val (.long j5), .second, .val (.int i7), .val (.int (f1_0 j5))] [(.int (f1_0 j5))]))
  refine own_step (fun t k => XS.ifNo X2.here hx rfl (hb hby at_53) rfl ((if0 _ _).trans (flt (own_len j5 hn).2.1).1) k) ?_
  show own_Fin p e below s Q 0 0 (T2.setTop (mkF m 56 #[.val (.long j0), .second, .val (.int i2), .val (.long j3), .second, .val (.long j5), .second, .val (.int i7), .val (.int (f1_0 j5))] []))
  refine own_step (fun t k => XS.iload X2.here hx rfl (hb hby at_56) rfl  k) ?_
  show own_Fin p e below s Q 0 0 (T2.setTop (mkF m 58 #[.val (.long j0), .second, .val (.int i2), .val (.long j3), .second, .val (.long j5), .second, .val (.int i7), .val (.int (f1_0 j5))] [(.int (f1_0 j5))]))
  refine own_step (fun t k => XS.i2l X2.here hx rfl (hb hby at_58) rfl k) ?_
  show own_Fin p e below s Q 0 0 (T2.setTop (mkF m 59 #[.val (.long j0), .second, .val (.int i2), .val (.long j3), .second, .val (.long j5), .second, .val (.int i7), .val (.int (f1_0 j5))] [(.long ((f1_0 j5).toInt64))]))
  refine own_step (fun t k => XS.lload X2.here hx rfl (hb hby at_59) rfl  k) ?_
  show own_Fin p e below s Q 0 0 (T2.setTop (mkF m 61 #[.val (.long j0), .second, .val (.int i2), .val (.long j3), .second, .val (.long j5), .second, .val (.int i7), .val (.int (f1_0 j5))] [(.long j5), (.long ((f1_0 j5).toInt64))]))
  refine own_step (fun t k => XS.lcmp X2.here hx rfl (hb hby at_61) rfl k) ?_
  show own_Fin p e below s Q 0 0 (T2.setTop (mkF m 62 #[.val (.long j0), .second, .val (.int i2), .val (.long j3), .second, .val (.long j5), .second, .val (.int i7), .val (.int (f1_0 j5))] [(.int (lcmpW ((f1_0 j5).toInt64) j5))]))
  refine own_step (fun t k => XS.ifNo X2.here hx rfl (hb hby at_62) rfl ((if0 _ _).trans (teq (own_len j5 hn).2.2).2) k) ?_
  show own_Fin p e below s Q 0 0 (T2.setTop (mkF m 65 #[.val (.long j0), .second, .val (.int i2), .val (.long j3), .second, .val (.long j5), .second, .val (.int i7), .val (.int (f1_0 j5))] []))
  refine own_step (fun t k => XS.iconst X2.here hx rfl (hb hby at_65) k) ?_
  show own_Fin p e below s Q 0 0 (T2.setTop (mkF m 66 #[.val (.long j0), .second, .val (.int i2), .val (.long j3), .second, .val (.long j5), .second, .val (.int i7), .val (.int (f1_0 j5))] [(.int (1 : Int32))]))
  refine own_step (fun t k => XS.goto X2.here hx rfl (pc0 := 66) (pc' := 70) rfl (hb hby at_66) (by decide) (by decide) k) ?_
  show own_Fin p e below s Q 0 0 (T2.setTop (mkF m 70 #[.val (.long j0), .second, .val (.int i2), .val (.long j3), .second, .val (.long j5), .second, .val (.int i7), .val (.int (f1_0 j5))] [(.int (1 : Int32))]))
  exact own_retN X2 hx hlk hret (by simp) (hb hby at_70) (by omega) (by omega) rfl N2 (fun L' n' => hQ _ L' n') (rfl)
set_option maxRecDepth 65536 in
set_option maxHeartbeats 40000000 in
theorem b0_0 {p : Program} {l : Launch} {e : Env} {s : State} {m : MethodId} {args : Array Value} {below : List Frame} {meth : Method} {c : Code} {T : State} {locs : List Loc} {cells slots : Nat} {Z : State} {a0 : Array Value} {h : Heap} {n0 : Nat} {Q : Option Value → Heap → List Loc → Prop} (j0 : Int64) (i2 : Int32) (hw : ∀ d ∈ tables_1, d.before a0 Z = true) (X : Stand p l e room_1 s m args below meth c T locs cells slots) (hx : p.tables.exec = Jvm.exec) (hZ : Z.Warmed39 s.vm) (hby : c.code = code) (hml : c.maxLocals = 9) (hown : s.vm.findClass "com/example/nuthatch/nuthatch/ArrayGrowthLengthPinLaw" = some m.cls) (hret : meth.sig.returnType = some .boolean) (hlk : meth.locks = false) (eT : T.heap = h) (N : Fr n0 locs) (hc : cells ≤ 0) (hs : slots ≤ 0) (Z0 : n0 ≤ h.size) (hQ : ∀ H' L', Fr n0 L' → Q (some (.int 1)) H' L') :
    own_Fin p e below s Q 0 0 (T.setTop (mkF m 0 #[.val (.long j0), .second, .val (.int i2), .unset, .unset, .unset, .unset, .unset, .unset] [])) := by
  refine own_step (X.ldc2Long hx hown (mvT hZ (hw _ (List.mem_of_getElem? (i := 0) rfl))) (g := (mkF m 0 #[.val (.long j0), .second, .val (.int i2), .unset, .unset, .unset, .unset, .unset, .unset] [])) rfl (hb hby at_0)) ?_
  show own_Fin p e below s Q 0 0 (T.setTop (mkF m 3 #[.val (.long j0), .second, .val (.int i2), .unset, .unset, .unset, .unset, .unset, .unset] [(.long (2147483639 : Int64))]))
  refine own_step (fun t k => XS.lstoreN X.here hx rfl (hb hby at_3) rfl (l' := #[.val (.long j0), .second, .val (.int i2), .val (.long (2147483639 : Int64)), .second, .unset, .unset, .unset, .unset]) rfl k) ?_
  show own_Fin p e below s Q 0 0 (T.setTop (mkF m 4 #[.val (.long j0), .second, .val (.int i2), .val (.long (2147483639 : Int64)), .second, .unset, .unset, .unset, .unset] []))
  refine own_step (fun t k => XS.lloadN X.here hx rfl (hb hby at_4) rfl  k) ?_
  show own_Fin p e below s Q 0 0 (T.setTop (mkF m 5 #[.val (.long j0), .second, .val (.int i2), .val (.long (2147483639 : Int64)), .second, .unset, .unset, .unset, .unset] [(.long j0)]))
  refine own_step (X.ldc2Long hx hown (mvT hZ (hw _ (List.mem_of_getElem? (i := 1) rfl))) (g := (mkF m 5 #[.val (.long j0), .second, .val (.int i2), .val (.long (2147483639 : Int64)), .second, .unset, .unset, .unset, .unset] [(.long j0)])) rfl (hb hby at_5)) ?_
  show own_Fin p e below s Q 0 0 (T.setTop (mkF m 8 #[.val (.long j0), .second, .val (.int i2), .val (.long (2147483639 : Int64)), .second, .unset, .unset, .unset, .unset] [(.long (9223372036854775807 : Int64)), (.long j0)]))
  refine own_step (fun t k => XS.land X.here hx rfl (hb hby at_8) rfl k) ?_
  show own_Fin p e below s Q 0 0 (T.setTop (mkF m 9 #[.val (.long j0), .second, .val (.int i2), .val (.long (2147483639 : Int64)), .second, .unset, .unset, .unset, .unset] [(.long (j0 &&& (9223372036854775807 : Int64)))]))
  refine own_step (fun t k => XS.lloadN X.here hx rfl (hb hby at_9) rfl  k) ?_
  show own_Fin p e below s Q 0 0 (T.setTop (mkF m 10 #[.val (.long j0), .second, .val (.int i2), .val (.long (2147483639 : Int64)), .second, .unset, .unset, .unset, .unset] [(.long (2147483639 : Int64)), (.long (j0 &&& (9223372036854775807 : Int64)))]))
  refine own_step (fun t k => XS.lconst X.here hx rfl (hb hby at_10) k) ?_
  show own_Fin p e below s Q 0 0 (T.setTop (mkF m 11 #[.val (.long j0), .second, .val (.int i2), .val (.long (2147483639 : Int64)), .second, .unset, .unset, .unset, .unset] [(.long (1 : Int64)), (.long (2147483639 : Int64)), (.long (j0 &&& (9223372036854775807 : Int64)))]))
  refine own_step (fun t k => XS.ladd X.here hx rfl (hb hby at_11) rfl k) ?_
  show own_Fin p e below s Q 0 0 (T.setTop (mkF m 12 #[.val (.long j0), .second, .val (.int i2), .val (.long (2147483639 : Int64)), .second, .unset, .unset, .unset, .unset] [(.long ((2147483639 : Int64) + (1 : Int64))), (.long (j0 &&& (9223372036854775807 : Int64)))]))
  refine own_step (fun t k => XS.lrem X.here hx rfl (hb hby at_12) rfl (by decide) k) ?_
  show own_Fin p e below s Q 0 0 (T.setTop (mkF m 13 #[.val (.long j0), .second, .val (.int i2), .val (.long (2147483639 : Int64)), .second, .unset, .unset, .unset, .unset] [(.long ((j0 &&& (9223372036854775807 : Int64)) - ((j0 &&& (9223372036854775807 : Int64)) / ((2147483639 : Int64) + (1 : Int64))) * ((2147483639 : Int64) + (1 : Int64))))]))
  refine own_step (fun t k => XS.lstore X.here hx rfl (hb hby at_13) rfl (l' := #[.val (.long j0), .second, .val (.int i2), .val (.long (2147483639 : Int64)), .second, .val (.long ((j0 &&& (9223372036854775807 : Int64)) - ((j0 &&& (9223372036854775807 : Int64)) / ((2147483639 : Int64) + (1 : Int64))) * ((2147483639 : Int64) + (1 : Int64)))), .second, .unset, .unset]) rfl k) ?_
  show own_Fin p e below s Q 0 0 (T.setTop (mkF m 15 #[.val (.long j0), .second, .val (.int i2), .val (.long (2147483639 : Int64)), .second, .val (.long ((j0 &&& (9223372036854775807 : Int64)) - ((j0 &&& (9223372036854775807 : Int64)) / ((2147483639 : Int64) + (1 : Int64))) * ((2147483639 : Int64) + (1 : Int64)))), .second, .unset, .unset] []))
  refine own_step (fun t k => XS.iloadN X.here hx rfl (hb hby at_15) rfl  k) ?_
  show own_Fin p e below s Q 0 0 (T.setTop (mkF m 16 #[.val (.long j0), .second, .val (.int i2), .val (.long (2147483639 : Int64)), .second, .val (.long ((j0 &&& (9223372036854775807 : Int64)) - ((j0 &&& (9223372036854775807 : Int64)) / ((2147483639 : Int64) + (1 : Int64))) * ((2147483639 : Int64) + (1 : Int64)))), .second, .unset, .unset] [(.int i2)]))
  refine own_step (fun t k => XS.iconst X.here hx rfl (hb hby at_16) k) ?_
  show own_Fin p e below s Q 0 0 (T.setTop (mkF m 17 #[.val (.long j0), .second, .val (.int i2), .val (.long (2147483639 : Int64)), .second, .val (.long ((j0 &&& (9223372036854775807 : Int64)) - ((j0 &&& (9223372036854775807 : Int64)) / ((2147483639 : Int64) + (1 : Int64))) * ((2147483639 : Int64) + (1 : Int64)))), .second, .unset, .unset] [(.int (3 : Int32)), (.int i2)]))
  refine own_step (fun t k => XS.iand X.here hx rfl (hb hby at_17) rfl k) ?_
  show own_Fin p e below s Q 0 0 (T.setTop (mkF m 18 #[.val (.long j0), .second, .val (.int i2), .val (.long (2147483639 : Int64)), .second, .val (.long ((j0 &&& (9223372036854775807 : Int64)) - ((j0 &&& (9223372036854775807 : Int64)) / ((2147483639 : Int64) + (1 : Int64))) * ((2147483639 : Int64) + (1 : Int64)))), .second, .unset, .unset] [(.int (i2 &&& (3 : Int32)))]))
  refine own_step (fun t k => XS.istore X.here hx rfl (hb hby at_18) rfl (l' := #[.val (.long j0), .second, .val (.int i2), .val (.long (2147483639 : Int64)), .second, .val (.long ((j0 &&& (9223372036854775807 : Int64)) - ((j0 &&& (9223372036854775807 : Int64)) / ((2147483639 : Int64) + (1 : Int64))) * ((2147483639 : Int64) + (1 : Int64)))), .second, .val (.int (i2 &&& (3 : Int32))), .unset]) rfl k) ?_
  show own_Fin p e below s Q 0 0 (T.setTop (mkF m 20 #[.val (.long j0), .second, .val (.int i2), .val (.long (2147483639 : Int64)), .second, .val (.long ((j0 &&& (9223372036854775807 : Int64)) - ((j0 &&& (9223372036854775807 : Int64)) / ((2147483639 : Int64) + (1 : Int64))) * ((2147483639 : Int64) + (1 : Int64)))), .second, .val (.int (i2 &&& (3 : Int32))), .unset] []))
  refine own_step (fun t k => XS.iload X.here hx rfl (hb hby at_20) rfl  k) ?_
  show own_Fin p e below s Q 0 0 (T.setTop (mkF m 22 #[.val (.long j0), .second, .val (.int i2), .val (.long (2147483639 : Int64)), .second, .val (.long ((j0 &&& (9223372036854775807 : Int64)) - ((j0 &&& (9223372036854775807 : Int64)) / ((2147483639 : Int64) + (1 : Int64))) * ((2147483639 : Int64) + (1 : Int64)))), .second, .val (.int (i2 &&& (3 : Int32))), .unset] [(.int (i2 &&& (3 : Int32)))]))
  by_cases hB22_1 : (i2 &&& (3 : Int32)) = (0 : Int32)
  · refine own_step (fun t k => XS.ifNo X.here hx rfl (hb hby at_22) rfl ((if0 _ _).trans (teq hB22_1).2) k) ?_
    show own_Fin p e below s Q 0 0 (T.setTop (mkF m 25 #[.val (.long j0), .second, .val (.int i2), .val (.long (2147483639 : Int64)), .second, .val (.long ((j0 &&& (9223372036854775807 : Int64)) - ((j0 &&& (9223372036854775807 : Int64)) / ((2147483639 : Int64) + (1 : Int64))) * ((2147483639 : Int64) + (1 : Int64)))), .second, .val (.int (i2 &&& (3 : Int32))), .unset] []))
    refine own_step (fun t k => XS.lloadN X.here hx rfl (hb hby at_25) rfl  k) ?_
    show own_Fin p e below s Q 0 0 (T.setTop (mkF m 26 #[.val (.long j0), .second, .val (.int i2), .val (.long (2147483639 : Int64)), .second, .val (.long ((j0 &&& (9223372036854775807 : Int64)) - ((j0 &&& (9223372036854775807 : Int64)) / ((2147483639 : Int64) + (1 : Int64))) * ((2147483639 : Int64) + (1 : Int64)))), .second, .val (.int (i2 &&& (3 : Int32))), .unset] [(.long (2147483639 : Int64))]))
    refine own_step (fun t k => XS.lstore X.here hx rfl (hb hby at_26) rfl (l' := #[.val (.long j0), .second, .val (.int i2), .val (.long (2147483639 : Int64)), .second, .val (.long (2147483639 : Int64)), .second, .val (.int (i2 &&& (3 : Int32))), .unset]) rfl k) ?_
    show own_Fin p e below s Q 0 0 (T.setTop (mkF m 28 #[.val (.long j0), .second, .val (.int i2), .val (.long (2147483639 : Int64)), .second, .val (.long (2147483639 : Int64)), .second, .val (.int (i2 &&& (3 : Int32))), .unset] []))
    refine own_step (fun t k => XS.goto X.here hx rfl (pc0 := 28) (pc' := 44) rfl (hb hby at_28) (by decide) (by decide) k) ?_
    exact b0_44 j0 i2 (2147483639 : Int64) (2147483639 : Int64) (i2 &&& (3 : Int32)) hw X hx hZ hby hml hown hret hlk eT N (by omega) (by omega) (by first | exact own_n0 | exact own_n1 _ | exact own_n3 _) Z0 hQ
  · refine own_step (fun t k => XS.ifYes X.here hx rfl (pc0 := 22) (pc' := 31) rfl (hb hby at_22) rfl ((if0 _ _).trans (feq hB22_1).2) (by decide) (by decide) k) ?_
    show own_Fin p e below s Q 0 0 (T.setTop (mkF m 31 #[.val (.long j0), .second, .val (.int i2), .val (.long (2147483639 : Int64)), .second, .val (.long ((j0 &&& (9223372036854775807 : Int64)) - ((j0 &&& (9223372036854775807 : Int64)) / ((2147483639 : Int64) + (1 : Int64))) * ((2147483639 : Int64) + (1 : Int64)))), .second, .val (.int (i2 &&& (3 : Int32))), .unset] []))
    refine own_step (fun t k => XS.iload X.here hx rfl (hb hby at_31) rfl  k) ?_
    show own_Fin p e below s Q 0 0 (T.setTop (mkF m 33 #[.val (.long j0), .second, .val (.int i2), .val (.long (2147483639 : Int64)), .second, .val (.long ((j0 &&& (9223372036854775807 : Int64)) - ((j0 &&& (9223372036854775807 : Int64)) / ((2147483639 : Int64) + (1 : Int64))) * ((2147483639 : Int64) + (1 : Int64)))), .second, .val (.int (i2 &&& (3 : Int32))), .unset] [(.int (i2 &&& (3 : Int32)))]))
    refine own_step (fun t k => XS.iconst X.here hx rfl (hb hby at_33) k) ?_
    show own_Fin p e below s Q 0 0 (T.setTop (mkF m 34 #[.val (.long j0), .second, .val (.int i2), .val (.long (2147483639 : Int64)), .second, .val (.long ((j0 &&& (9223372036854775807 : Int64)) - ((j0 &&& (9223372036854775807 : Int64)) / ((2147483639 : Int64) + (1 : Int64))) * ((2147483639 : Int64) + (1 : Int64)))), .second, .val (.int (i2 &&& (3 : Int32))), .unset] [(.int (1 : Int32)), (.int (i2 &&& (3 : Int32)))]))
    by_cases hB34_3 : (i2 &&& (3 : Int32)) = (1 : Int32)
    · refine own_step (fun t k => XS.icmpNo X.here hx rfl (hb hby at_34) rfl (teq hB34_3).2 k) ?_
      show own_Fin p e below s Q 0 0 (T.setTop (mkF m 37 #[.val (.long j0), .second, .val (.int i2), .val (.long (2147483639 : Int64)), .second, .val (.long ((j0 &&& (9223372036854775807 : Int64)) - ((j0 &&& (9223372036854775807 : Int64)) / ((2147483639 : Int64) + (1 : Int64))) * ((2147483639 : Int64) + (1 : Int64)))), .second, .val (.int (i2 &&& (3 : Int32))), .unset] []))
      refine own_step (fun t k => XS.iloadN X.here hx rfl (hb hby at_37) rfl  k) ?_
      show own_Fin p e below s Q 0 0 (T.setTop (mkF m 38 #[.val (.long j0), .second, .val (.int i2), .val (.long (2147483639 : Int64)), .second, .val (.long ((j0 &&& (9223372036854775807 : Int64)) - ((j0 &&& (9223372036854775807 : Int64)) / ((2147483639 : Int64) + (1 : Int64))) * ((2147483639 : Int64) + (1 : Int64)))), .second, .val (.int (i2 &&& (3 : Int32))), .unset] [(.int i2)]))
      refine own_step (fun t k => XS.bipush X.here hx rfl (hb hby at_38) k) ?_
      show own_Fin p e below s Q 0 0 (T.setTop (mkF m 40 #[.val (.long j0), .second, .val (.int i2), .val (.long (2147483639 : Int64)), .second, .val (.long ((j0 &&& (9223372036854775807 : Int64)) - ((j0 &&& (9223372036854775807 : Int64)) / ((2147483639 : Int64) + (1 : Int64))) * ((2147483639 : Int64) + (1 : Int64)))), .second, .val (.int (i2 &&& (3 : Int32))), .unset] [(.int (28 : Int32)), (.int i2)]))
      refine own_step (fun t k => XS.iushr X.here hx rfl (hb hby at_40) rfl k) ?_
      show own_Fin p e below s Q 0 0 (T.setTop (mkF m 41 #[.val (.long j0), .second, .val (.int i2), .val (.long (2147483639 : Int64)), .second, .val (.long ((j0 &&& (9223372036854775807 : Int64)) - ((j0 &&& (9223372036854775807 : Int64)) / ((2147483639 : Int64) + (1 : Int64))) * ((2147483639 : Int64) + (1 : Int64)))), .second, .val (.int (i2 &&& (3 : Int32))), .unset] [(.int ((i2.toUInt32 >>> ((28 : Int32) &&& 31).toUInt32).toInt32))]))
      refine own_step (fun t k => XS.i2l X.here hx rfl (hb hby at_41) rfl k) ?_
      show own_Fin p e below s Q 0 0 (T.setTop (mkF m 42 #[.val (.long j0), .second, .val (.int i2), .val (.long (2147483639 : Int64)), .second, .val (.long ((j0 &&& (9223372036854775807 : Int64)) - ((j0 &&& (9223372036854775807 : Int64)) / ((2147483639 : Int64) + (1 : Int64))) * ((2147483639 : Int64) + (1 : Int64)))), .second, .val (.int (i2 &&& (3 : Int32))), .unset] [(.long (((i2.toUInt32 >>> ((28 : Int32) &&& 31).toUInt32).toInt32).toInt64))]))
      refine own_step (fun t k => XS.lstore X.here hx rfl (hb hby at_42) rfl (l' := #[.val (.long j0), .second, .val (.int i2), .val (.long (2147483639 : Int64)), .second, .val (.long (((i2.toUInt32 >>> ((28 : Int32) &&& 31).toUInt32).toInt32).toInt64)), .second, .val (.int (i2 &&& (3 : Int32))), .unset]) rfl k) ?_
      exact b0_44 j0 i2 (2147483639 : Int64) (((i2.toUInt32 >>> ((28 : Int32) &&& 31).toUInt32).toInt32).toInt64) (i2 &&& (3 : Int32)) hw X hx hZ hby hml hown hret hlk eT N (by omega) (by omega) (by first | exact own_n0 | exact own_n1 _ | exact own_n3 _) Z0 hQ
    · refine own_step (fun t k => XS.icmpYes X.here hx rfl (pc0 := 34) (pc' := 44) rfl (hb hby at_34) rfl (feq hB34_3).2 (by decide) (by decide) k) ?_
      exact b0_44 j0 i2 (2147483639 : Int64) ((j0 &&& (9223372036854775807 : Int64)) - ((j0 &&& (9223372036854775807 : Int64)) / ((2147483639 : Int64) + (1 : Int64))) * ((2147483639 : Int64) + (1 : Int64))) (i2 &&& (3 : Int32)) hw X hx hZ hby hml hown hret hlk eT N (by omega) (by omega) (by first | exact own_n0 | exact own_n1 _ | exact own_n3 _) Z0 hQ
theorem pnm_1 : plainName "com/example/nuthatch/nuthatch/ArrayGrowthLengthPinLaw" = true := by first | (simp [plainName, overriddenIn]; done) | decide +kernel
theorem pdm_1 : parseMethodDescriptor "(JI)Z" = some ⟨[.long, .int], some .boolean⟩ := by decide +kernel
theorem ef_0 (m : MethodId) (j0 : Int64) (i2 : Int32) : entryFrame m #[(.long j0), (.int i2)] maxLocals = (mkF m 0 #[.val (.long j0), .second, .val (.int i2), .unset, .unset, .unset, .unset, .unset, .unset] []) := by first | (simp [entryFrame, mkF, argsToLocals, Value.category, maxLocals]; done) | rfl
def Q0 (j0 : Int64) (i2 : Int32) (h0 : Heap) (n0 : Nat) (v : Option Value) (h : Heap) (L : List Loc) : Prop := v = some (.int 1) ∧ Fr n0 L
set_option maxRecDepth 65536 in
set_option maxHeartbeats 4000000 in
theorem rm0 (l : Launch) (Z : State) (a0 : Array Value) (hw : ∀ d ∈ tables_1, d.before a0 Z = true) (ws : List Jvm.Cond) (j0 : Int64) (i2 : Int32) (h0 : Heap) (n0 : Nat) (Z0 : n0 ≤ h0.size) :
    MetFree l x (head1 (Jvm.Cond.code x code maxLocals ret :: ws) room_1) (fun a U => a = #[(.long j0), (.int i2)] ∧ Z.Warmed39 U.vm ∧ U.heap = h0) (fun _ _ _ _ _ => True) (fun _ U o U' => ∃ v L, o = .returned v ∧ Q0 j0 i2 h0 n0 v U'.heap L ∧ FrameEnd U o U' L 0 0) := by
  refine MetFree.of_bodySF (plainFor_of_name pnm_1) hisR ?_
  intro p e s m args below meth c s₁ Bd hml0 hP hK
  obtain ⟨rfl, hZ, hh⟩ := hP
  have hx := Bd.exec
  have hby := Bd.bytes
  have hml : c.maxLocals = 9 := hml0
  have hown : s.vm.findClass "com/example/nuthatch/nuthatch/ArrayGrowthLengthPinLaw" = some m.cls := findClass_of_methodNamed Bd.named
  have X0 : Stand p l e room_1 s m #[(.long j0), (.int i2)] below meth c s₁ [] 0 0 := Stand.of_body Bd
  have e0 : s₁.heap = h0 := by rw [← hh, Bd.state]; rfl
  have fin := b0_0 j0 i2 (Q := Q0 j0 i2 h0 n0) hw X0 hx hZ hby hml hown Bd.returns (BodyLoose.notSynchronized Bd) e0 (Fr.nil n0) (Nat.zero_le _) (Nat.zero_le _) Z0 (fun H' L' n' => ⟨rfl, n'⟩)
  exact own_step (fun t k => castTop (ef_0 m j0 i2) k) fin
set_option maxRecDepth 65536 in
set_option maxHeartbeats 40000000 in
theorem comes_1 {Post : Tables → Env → Array Value → State → Outcome → State → Prop} (hpost : ∀ tb e args s v u, (limb_1_1.after args s (.returned v) u = true ∧ limb_1_2.after args s (.returned v) u = true ∧ True) → FrameEnd s (.returned v) u (Jvm.fieldLocs frame_1_writes args s ++ Jvm.arrayLocs frame_1_arrays args s ++ Jvm.staticLocs frame_1_statics s) 0 0 → Post tb e args s (.returned v) u) :
    ArmFor flags0 classFile x code maxLocals ret World_1 tables_1 room_1 Calls_1 rest_1 Pre_1 Post := by
  intro l hfl _ _ p e ha hc hk s m args below hf hA hF happ hP
  obtain ⟨hcalls, hrest, hpre⟩ := hP
  obtain ⟨-, -, -, hnamed, -, -, -, hat⟩ := (Spec.applies_iff hf).mp happ
  obtain ⟨hg, hn⟩ := and_e (Cond.before_iff.mp (show (Jvm.Cond.and given_1 narrow_1).before args s = true from hpre))
  obtain ⟨g1, g2⟩ := and_e hg
  obtain ⟨g3, g4⟩ := and_e g2
  obtain ⟨w0, w1, rfl⟩ : ∃ w0 w1 : Value, args = #[w0, w1] := by
    have hs : args.size = 2 := by simpa [Cond.value, given_1] using g1
    obtain ⟨L⟩ := args
    match L, hs with
    | [w0, w1], _ => exact ⟨w0, w1, rfl⟩
  have hw := fun d (hd : d ∈ tables_1) => atoms_spec (ws := Jvm.Cond.code x code maxLocals ret :: tables_1) hat d (List.mem_cons_of_mem _ hd)
  obtain ⟨i0, ei0⟩ := isL_v g3
  obtain rfl : w0 = (.long i0) := Option.some.inj ei0
  obtain ⟨i1, ei1⟩ := is_v g4
  obtain rfl : w1 = (.int i1) := Option.some.inj ei1
  obtain ⟨n, o, h1, h2, h3, _, L, rfl, ⟨hval, N⟩, hq⟩ := rm0 l s _ hw tables_1 i0 i1 s.heap s.heap.size (Nat.le_refl _) p e ha hc hk s m _ below hf ((Spec.applies_iff_loose hf).mp happ).1 ⟨rfl, State.Warmed39.refl s, rfl⟩ trivial
  subst hval
  refine ⟨n, _, h1, h2, h3, hpost _ _ _ _ _ _ ⟨Cond.after_iff.mpr rfl, Cond.after_iff.mpr (eq_i res_at (Term.int_eval (1)) rfl), trivial⟩ ⟨hq.1, hq.2.1, (hq.2.2.sift fun y hy => Or.inr (N y hy)).mono (by decide) (by decide)⟩⟩
theorem main_1_1 : Claimed_1_1 := comes_1 fun _ _ _ _ _ _ h hF => ⟨h.1, hF⟩
theorem main_1_2 : Claimed_1_2 := comes_1 fun _ _ _ _ _ _ h hF => ⟨h.2.1, hF⟩
end Jvm.Pilot.@@N@@
namespace Jvm.Pilot.@@N@@
open Jvm Jvm.ClassFile Sem Op Lib Jvm.Free Jvm.Stand Jvm.Pilot.@@N@@.Jvm.D
/-! MADE BY PROGRAM (witnessworld.py) out of the Statement's table words and the real class files: 9 classes; the members and pool entries that the words name. The judged class is class 1, her method 1. -/
namespace start1
open Jvm.ClassFile
def u (s : String) : CpInfo := .utf8 (stringToUtf16 s)
/-- a pool by its gaps: so many unusable entries, then the entry; so many at the end -/
def gap : Nat → List CpInfo → List CpInfo
  | 0, r => r
  | n + 1, r => .unusable :: gap n r
def poolList (es : List (Nat × CpInfo)) (last : Nat) : List CpInfo := es.foldr (fun e r => gap e.1 (e.2 :: r)) (gap last [])
def pool (es : List (Nat × CpInfo)) (last : Nat) : Array CpInfo := ⟨poolList es last⟩
def fileOf (pool : Array CpInfo) (this : Nat) (attrs : Array Attribute := #[]) (ms : Array MethodInfo := #[]) (fl : Nat := 33) (sup : Nat := 0) (ifs : Array Nat := #[]) (fds : Array FieldInfo := #[]) : ClassFile where
  minorVersion := 0
  majorVersion := 65
  constantPool := pool
  accessFlags := fl
  thisClass := this
  superClass := sup
  interfaces := ifs
  fields := fds
  methods := ms
  attributes := attrs
def plain (name : String) (sup : Option ClassId) : Class where
  name := name
  kind := .ordinary
  loader := none
  accessFlags := 33
  super := sup
  interfaces := #[]
  cf := none
  fields := #[]
  methods := #[]
  instanceTypes := #[]
  staticTypes := #[]
  resolved := #[]
  callSites := []
  init := .initialized
  statics := none
  mirror := none

def pool0 : Array CpInfo := pool [(5, u "<init>"), (0, u "()V"), (1, .class_ 10), (1, u "java/lang/Object")] 113

def k0m0 : Method := { name := "<init>", desc := "()V", sig := { parameters := [], returnType := none }, accessFlags := 1, code := none }
/-- java/lang/Object -/
def k0 : Class := { plain "java/lang/Object" none with
  accessFlags := 33
  interfaces := #[]
  cf := some (fileOf pool0 8 #[] #[{ accessFlags := 1, nameIndex := 5, descriptorIndex := 6, attributes := #[] }] 33 0 #[] #[])
  fields := #[]
  methods := #[k0m0]
  instanceTypes := #[]
  staticTypes := #[]
  resolved := Array.replicate 124 none
  statics := none }

def pool1 : Array CpInfo := pool [(2, .class_ 4), (1, u "java/lang/Object"), (0, u "<init>"), (0, u "()V"), (0, .long 2147483639), (3, .long 9223372036854775807), (1, .methodref 14 15), (0, .class_ 16), (0, .nameAndType 17 18), (0, u "com/example/nuthatch/nuthatch/ArrayGrowth"), (0, u "length"), (0, u "(J)I"), (0, .class_ 20), (0, u "com/example/nuthatch/nuthatch/ArrayGrowthLengthPinLaw"), (2, u "law"), (0, u "(JI)Z")] 3

def k1m0 : Method := { name := "<init>", desc := "()V", sig := { parameters := [], returnType := none }, accessFlags := 2, code := none }
def k1c1 : Code := { maxStack := 6, maxLocals := 9, code := code, exceptionTable := #[], attributes := #[] }
def k1m1 : Method := { name := "law", desc := "(JI)Z", sig := { parameters := [.long, .int], returnType := some .boolean }, accessFlags := 9, code := some k1c1 }
/-- com/example/nuthatch/nuthatch/ArrayGrowthLengthPinLaw -/
def k1 : Class := { plain "com/example/nuthatch/nuthatch/ArrayGrowthLengthPinLaw" (some 0) with
  accessFlags := 49
  interfaces := #[]
  cf := some (fileOf pool1 19 #[] #[{ accessFlags := 2, nameIndex := 5, descriptorIndex := 6, attributes := #[] }, { accessFlags := 9, nameIndex := 23, descriptorIndex := 24, attributes := #[] }] 49 2 #[] #[])
  fields := #[]
  methods := #[k1m0, k1m1]
  instanceTypes := #[]
  staticTypes := #[]
  resolved := Array.replicate 28 none
  statics := none }

def pool2 : Array CpInfo := pool [(4, .class_ 6), (1, u "java/lang/Object"), (0, u "<init>"), (0, u "()V"), (5, .class_ 16), (1, u "com/example/nuthatch/nuthatch/ArrayGrowth"), (0, u "length"), (0, u "(J)I"), (10, .long 2147483639), (11, u "MAX_LENGTH"), (0, u "I")] 9

def k2m0 : Method := { name := "<init>", desc := "()V", sig := { parameters := [], returnType := none }, accessFlags := 2, code := none }
def k2c1 : Code := { maxStack := 4, maxLocals := 2, code := prog_1_method_3_code, exceptionTable := #[], attributes := #[] }
def k2m1 : Method := { name := "length", desc := "(J)I", sig := { parameters := [.long], returnType := some .int }, accessFlags := 8, code := some k2c1 }
/-- com/example/nuthatch/nuthatch/ArrayGrowth -/
def k2 : Class := { plain "com/example/nuthatch/nuthatch/ArrayGrowth" (some 0) with
  accessFlags := 32
  interfaces := #[]
  cf := some (fileOf pool2 14 #[] #[{ accessFlags := 2, nameIndex := 7, descriptorIndex := 8, attributes := #[] }, { accessFlags := 8, nameIndex := 17, descriptorIndex := 18, attributes := #[] }] 32 4 #[] #[{ accessFlags := 26, nameIndex := 41, descriptorIndex := 42, attributes := #[] }])
  fields := #[{ name := "MAX_LENGTH", type := .int, accessFlags := 26, slot := 0, constantValue := 0 }]
  methods := #[k2m0, k2m1]
  instanceTypes := #[]
  staticTypes := #[.int]
  resolved := Array.replicate 52 none
  statics := none }

def pool3 : Array CpInfo := pool [(1, u "java/lang/Cloneable"), (0, .class_ 1), (0, u "java/lang/Object"), (0, .class_ 3)] 3

/-- java/lang/Cloneable -/
def k3 : Class := { plain "java/lang/Cloneable" (some 0) with
  accessFlags := 1537
  interfaces := #[]
  cf := some (fileOf pool3 2 #[] #[] 1537 4 #[] #[])
  fields := #[]
  methods := #[]
  instanceTypes := #[]
  staticTypes := #[]
  resolved := Array.replicate 8 none
  statics := none }

def pool4 : Array CpInfo := pool [(1, u "java/io/Serializable"), (0, .class_ 1), (0, u "java/lang/Object"), (0, .class_ 3)] 3

/-- java/io/Serializable -/
def k4 : Class := { plain "java/io/Serializable" (some 0) with
  accessFlags := 1537
  interfaces := #[]
  cf := some (fileOf pool4 2 #[] #[] 1537 4 #[] #[])
  fields := #[]
  methods := #[]
  instanceTypes := #[]
  staticTypes := #[]
  resolved := Array.replicate 8 none
  statics := none }

/-- the primitive byte -/
def k5 : Class := { plain "byte" none with kind := .primitive 'B', accessFlags := 0x411 }
/-- [B -/
def k6 : Class := { plain "[B" (some 0) with kind := .array 5 .byte, interfaces := #[3, 4], accessFlags := 1041 }

/-- the primitive int -/
def k7 : Class := { plain "int" none with kind := .primitive 'I', accessFlags := 0x411 }
/-- [I -/
def k8 : Class := { plain "[I" (some 0) with kind := .array 7 .int, interfaces := #[3, 4], accessFlags := 1041 }

def heap : Heap := #[]
def classes : Array Class := #[k0, k1, k2, k3, k4, k5, k6, k7, k8]
def interned : List (Array UInt16 × Addr) := []
def slotsUsed : Nat := 0
def theMethod : MethodId := ⟨1, 1⟩
def args0 : Array Value := #[.long 5, .int 5]
def aboutOver (below : List Frame) : State where
  vm := { classes := classes, interned := interned.toArray }
  heap := heap
  slotsUsed := slotsUsed
  threads := #[{ frames := .invoking theMethod args0 :: below }]
def below0 : List Frame := [.native { method := ⟨0, 0⟩, args := #[] }]
def about1 : State := aboutOver below0
def p0 : Program := .bare "" "" ""
def e0 : Env := launch0.env 0 0 0
theorem w_frames : about1.frames = Frame.invoking theMethod args0 :: below0 := rfl
set_option maxRecDepth 65536 in
theorem w_args : argsFit about1.vm theMethod args0 = true := by decide +kernel
set_option maxRecDepth 65536 in
theorem w_heap : heapFits about1 = true := by decide +kernel
set_option maxRecDepth 65536 in
theorem w_runnable : about1.curStatus? = some .runnable := by decide +kernel
set_option maxRecDepth 65536 in
theorem w_alone : about1.alone = true := by decide +kernel
set_option maxRecDepth 65536 in
theorem w_named : about1.methodNamed? x = some theMethod := by decide +kernel
set_option maxRecDepth 65536 in
theorem w_hears : about1.hears theMethod below0 = true := by decide +kernel
set_option maxRecDepth 65536 in
theorem w_ripe : about1.ripe theMethod args0 below0 = true := by decide +kernel
theorem w_running : about1.status = .running := rfl
set_option maxRecDepth 65536 in
theorem w_room : about1.hasRoom e0.platform room_1 = true :=
  launch0.hasRoom_least _ room_1 (by decide +kernel) (by decide +kernel) (by decide +kernel) (by decide +kernel) (by decide +kernel) (by decide +kernel)
theorem allAtoms_all (ts : List Jvm.Cond) (a : Array Jvm.Value) (st : Jvm.State) : (allAtoms ts).before a st = ts.all (fun c => c.before a st) := by
  induction ts with
  | nil => rfl
  | cons c t ih =>
    show (Jvm.Cond.and c (allAtoms t)).before a st = _
    rw [Jvm.Cond.before_and, ih, List.all_cons]
def words1 : List Jvm.Cond := Jvm.Cond.code x code maxLocals ret :: tables_1
/-- a 'code' word, met by the world's own term for the bytes: nothing is compared byte by byte -/
theorem code_word {y : MethodName} {bytes : ByteArray} {mx : Nat} {rt : Option FieldType} {a : Array Value} {s : State} {m : MethodId} {meth : Method} {c : Code} (h1 : s.methodNamed? y = some m) (h2 : s.vm.method? m = some meth) (h3 : meth.code = some c) (h4 : c.code = bytes)
    (h5 : (c.maxLocals == mx && c.exceptionTable.isEmpty && decide (c.maxStack ≤ mostOperands) && decide (meth.sig.returnType = rt) && !meth.locks && decide (parseMethodDescriptor y.desc = some meth.sig)) = true) : (Jvm.Cond.code y bytes mx rt).before a s = true := by
  simp only [Bool.and_eq_true, beq_iff_eq, Bool.not_eq_true', decide_eq_true_eq] at h5
  obtain ⟨⟨⟨⟨⟨g1, g2⟩, g3⟩, g4⟩, g5⟩, g6⟩ := h5
  simp [Cond.before, Cond.holds, Cond.value, h1, h2, h3, h4, g1, g2, g3, g4, g5, g6]
def isCode : Jvm.Cond → Bool
  | .code _ _ _ _ => true
  | _ => false
theorem all_split {L : List Jvm.Cond} {P : Jvm.Cond → Bool} (h1 : L.all (fun c => isCode c || P c) = true) (h2 : ∀ c ∈ L.filter isCode, P c = true) : L.all P = true := by
  refine List.all_eq_true.mpr fun c hc => ?_
  have h := List.all_eq_true.mp h1 c hc
  rcases Bool.eq_false_or_eq_true (isCode c) with hi | hi
  · exact h2 c (List.mem_filter.mpr ⟨hc, hi⟩)
  · simpa [hi] using h
set_option maxRecDepth 65536 in
theorem w_c0 : (Jvm.Cond.code x code maxLocals ret).before args0 about1 = true := code_word (m := ⟨1, 1⟩) (meth := k1m1) (c := k1c1) (by decide +kernel) rfl rfl rfl (by decide +kernel)
set_option maxRecDepth 65536 in
theorem w_c1 : (Jvm.Cond.code ({ cls := "com/example/nuthatch/nuthatch/ArrayGrowth", name := "length", desc := "(J)I" } : Jvm.MethodName) prog_1_method_3_code (2 : Nat) (Option.some Jvm.ClassFile.FieldType.int)).before args0 about1 = true := code_word (m := ⟨2, 1⟩) (meth := k2m1) (c := k2c1) (by decide +kernel) rfl rfl rfl (by decide +kernel)
def codes1 : List Jvm.Cond := [Jvm.Cond.code x code maxLocals ret, Jvm.Cond.code ({ cls := "com/example/nuthatch/nuthatch/ArrayGrowth", name := "length", desc := "(J)I" } : Jvm.MethodName) prog_1_method_3_code (2 : Nat) (Option.some Jvm.ClassFile.FieldType.int)]
set_option maxRecDepth 65536 in
theorem codes_eq : words1.filter isCode = codes1 := rfl
theorem w_codes : ∀ c ∈ words1.filter isCode, c.before args0 about1 = true := by
  rw [codes_eq]
  intro c hc
  simp only [codes1, List.mem_cons, List.not_mem_nil, or_false] at hc
  rcases hc with rfl | rfl
  · exact w_c0
  · exact w_c1
set_option maxRecDepth 65536 in
theorem w_t1 : words1.all (fun c => isCode c || c.before args0 about1) = true := by decide +kernel
theorem w_tables : (allAtoms (Jvm.Cond.code x code maxLocals ret :: tables_1)).before args0 about1 = true := by
  rw [allAtoms_all]
  show words1.all (fun c => c.before args0 about1) = true
  refine all_split ?_ w_codes
  rw [w_t1]
set_option maxRecDepth 65536 in
theorem w_case : (Jvm.Cond.and given_1 narrow_1).before args0 about1 = true := by decide +kernel
theorem w_applies : (headSpec (Jvm.Cond.code x code maxLocals ret :: tables_1) room_1).applies x e0.platform about1 = true :=
  (Spec.applies_iff w_frames).mpr ⟨w_running, w_runnable, w_alone, w_named, w_hears, w_ripe, w_room, w_tables⟩
theorem atStart : AtStart classFile x code maxLocals ret World_1 tables_1 room_1 Calls_1 rest_1 Pre_1 launch0 p0 e0 about1 theMethod args0 below0 :=
  ⟨lists_1, trivial, launch0.admits_env _ _ _, launch0.least_env, fairChoices_fair.cas, fairChoices_fair.clock, w_frames, w_args, w_heap, w_applies, trivial, trivial, w_case⟩
end start1
theorem witness_1 : WitnessClaimed_1 := ⟨start1.p0, start1.e0, start1.about1, start1.theMethod, start1.args0, start1.below0, start1.atStart⟩
end Jvm.Pilot.@@N@@

import JvmDerived
import JvmDerived.Pilot.@@N@@Statement
import JvmDerived.Pilot.@@N@@Code
set_option linter.unusedVariables false
set_option linter.unusedSimpArgs false
namespace Jvm.RoadKit
open Sem ClassFile Op Lib Jvm.Stand Jvm.Free Jvm.LawKit
section New
variable {p : Program} {l : Launch} {e : Env} {R : Room} {s : State} {m : MethodId} {args : Array Value} {below : List Frame} {meth : Method} {c : Code} {T : State} {locs : List Loc} {cells slots : Nat}
theorem retI (X : Stand p l e R s m args below meth c T locs cells slots) (hx : p.tables.exec = Jvm.exec) {pc : Nat} {Ls : Array Slot} {z : Int32} {rest : List Value} (hret : meth.sig.returnType = some .int) (hd : decode c.code pc = .ok (.ireturn, 1)) {fs : List Frame}
    (hl : ∀ (f : JFrame) (acts : List Action), f.method = m → f.locked = none → f.entered = [] → (doReturn e (T.setTop f) acts (some (.int z))).1 = T.setFrames fs) : Steps p.tables e below (T.setTop (mkF m pc Ls (.int z :: rest))) (T.setFrames fs) := by
  have hm' : T.vm.method? m = some meth := X.method'
  have hn : narrow .int (.int z) = .int z := rfl
  show Steps p.tables e below (T.setTop { method := m, pc := pc, locals := Ls, stack := _ :: rest, locked := none }) _
  jvm_step X.here [X.here.top, hx, hd, hm', hret, hn]
  first | (intro acts; rw [hl _ acts rfl rfl rfl]) | rw [hl _ _ rfl rfl rfl]
  exact Steps.refl _
end New
end Jvm.RoadKit
namespace Jvm.Pilot.@@N@@
open Jvm Jvm.ClassFile Sem Op Lib Jvm.Free Jvm.Stand Jvm.LawKit Jvm.RoadKit Bundle Jvm.Pilot.@@N@@.Jvm.D
section OwnKit
variable {p : Program} {l : Launch} {e : Env} {R : Room} {s : State} {m : MethodId} {args : Array Value} {below : List Frame} {meth : Method} {c : Code} {T : State} {locs : List Loc} {cells slots : Nat}
/-- what a body owes from the state A on: it comes to its return, and what it returned, the heap and the written places satisfy Q -/
def own_Fin (p : Program) (e : Env) (below : List Frame) (s : State) (Q : Option Value → Heap → List Loc → Prop) (rc rs : Nat) (A : State) : Prop :=
  ∃ s₂ o, Steps p.tables e below A s₂ ∧ s₂.status = .running ∧ Ended s₂ below o ∧ ∃ v L, o = .returned v ∧ Q v s₂.heap L ∧ FrameEnd s o s₂ L rc rs
theorem own_step {Q : Option Value → Heap → List Loc → Prop} {rc rs : Nat} {A B : State} (k : ∀ t, Steps p.tables e below B t → Steps p.tables e below A t) (h : own_Fin p e below s Q rc rs B) : own_Fin p e below s Q rc rs A := by
  obtain ⟨s₂, o, h1, h2⟩ := h
  exact ⟨s₂, o, k _ h1, h2⟩
theorem own_retN (X : Stand p l e R s m args below meth c T locs cells slots) (hx : p.tables.exec = Jvm.exec) (hlk : meth.locks = false) {Q : Option Value → Heap → List Loc → Prop} {rc rs n0 : Nat} {h : Heap} {pc : Nat} {Ls : Array Slot} {z v : Int32} {t : FieldType} {rest : List Value} (hret : meth.sig.returnType = some t) (ht : t = .boolean ∨ t = .byte ∨ t = .char ∨ t = .short)
    (hd : decode c.code pc = .ok (.ireturn, 1)) (hc : cells ≤ rc) (hs : slots ≤ rs) (eT : T.heap = h) (N : Fr n0 locs) (hQ : ∀ L', Fr n0 L' → Q (some (.int v)) h L') (hv : v = nar t z) :
    own_Fin p e below s Q rc rs (T.setTop (mkF m pc Ls (.int z :: rest))) := by
  subst hv
  obtain ⟨fs, hr, hrun, hended, hW, hsame⟩ := X.leave (v := some (.int (nar t z))) (fun h => by rw [hret] at h; cases h) hlk
  refine ⟨_, _, retN X hx hret ht hd hr, hrun, hended, _, _, rfl, ?_, ⟨_, rfl⟩, hW, hsame.mono hc hs⟩
  show Q _ T.heap _
  rw [eT]
  exact hQ _ N
theorem own_retI (X : Stand p l e R s m args below meth c T locs cells slots) (hx : p.tables.exec = Jvm.exec) (hlk : meth.locks = false) {Q : Option Value → Heap → List Loc → Prop} {rc rs n0 : Nat} {h : Heap} {pc : Nat} {Ls : Array Slot} {z v : Int32} {rest : List Value} (hret : meth.sig.returnType = some .int)
    (hd : decode c.code pc = .ok (.ireturn, 1)) (hc : cells ≤ rc) (hs : slots ≤ rs) (eT : T.heap = h) (N : Fr n0 locs) (hQ : ∀ L', Fr n0 L' → Q (some (.int v)) h L') (hv : v = z) :
    own_Fin p e below s Q rc rs (T.setTop (mkF m pc Ls (.int z :: rest))) := by
  subst hv
  obtain ⟨fs, hr, hrun, hended, hW, hsame⟩ := X.leave (v := some (.int v)) (fun h => by rw [hret] at h; cases h) hlk
  refine ⟨_, _, retI X hx hret hd hr, hrun, hended, _, _, rfl, ?_, ⟨_, rfl⟩, hW, hsame.mono hc hs⟩
  show Q _ T.heap _
  rw [eT]
  exact hQ _ N
theorem own_ret0 (X : Stand p l e R s m args below meth c T locs cells slots) (hx : p.tables.exec = Jvm.exec) (hlk : meth.locks = false) {Q : Option Value → Heap → List Loc → Prop} {rc rs : Nat} {h : Heap} {pc : Nat} {Ls : Array Slot} (hret : meth.sig.returnType = none)
    (hd : decode c.code pc = .ok (.return_, 1)) (hc : cells ≤ rc) (hs : slots ≤ rs) (eT : T.heap = h) (hQ : Q none h locs) :
    own_Fin p e below s Q rc rs (T.setTop (mkF m pc Ls [])) := by
  obtain ⟨fs, hr, hrun, hended, hW, hsame⟩ := X.leave (v := none) (fun _ => rfl) hlk
  refine ⟨_, _, X.returnOut hx hret hd hr, hrun, hended, _, _, rfl, ?_, ⟨_, rfl⟩, hW, hsame.mono hc hs⟩
  show Q _ T.heap _
  rw [eT]
  exact hQ
end OwnKit
/-- an array of n ints (bytes, ..) at a: its i-th is g i -/
def own_AF (Z : State) (h : Heap) (a : Addr) (ty : FieldType) (n : Nat) (g : Nat → Int32) : Prop := ∃ c : Cell, Arr Z h a c ty ∧ c.slots.size = n ∧ ∀ i, i < n → c.slots[i]? = some (.int (g i))
def own_In (n : Nat) (j : Int32) : Prop := ¬ (j < 0 ∨ n ≤ j.toNatClampNeg)
theorem own_AF.lt {Z : State} {h : Heap} {a : Addr} {ty : FieldType} {n : Nat} {g : Nat → Int32} (F : own_AF Z h a ty n g) : a < h.size := by obtain ⟨c, A, -⟩ := F; exact A.lt
theorem own_AFext {Z : State} {h h' : Heap} {a : Addr} {ty : FieldType} {n : Nat} {g : Nat → Int32} (F : own_AF Z h a ty n g) (E : Ext h h') : own_AF Z h' a ty n g := by obtain ⟨c, A, r⟩ := F; exact ⟨c, A.ext E, r⟩
theorem own_AFoth {Z : State} {h h' : Heap} {a b : Addr} {sl : Nat} {v : Value} {ty : FieldType} {n : Nat} {g : Nat → Int32} (F : own_AF Z h b ty n g) (W : Wr h h' a sl v) (q : b ≠ a) : own_AF Z h' b ty n g := by obtain ⟨c, A, r⟩ := F; exact ⟨c, A.other W q, r⟩
theorem own_AFkeep {Z : State} {h h' : Heap} {a : Addr} {ws : List Addr} {ty : FieldType} {n : Nat} {g : Nat → Int32} (F : own_AF Z h a ty n g) (K : Keep h h' ws) (q : a ∉ ws) : own_AF Z h' a ty n g := by obtain ⟨c, A, r⟩ := F; exact ⟨c, ⟨K.2.1 a c A.1 q, A.2⟩, r⟩
theorem own_AFset {Z : State} {h h' : Heap} {a : Addr} {ty : FieldType} {n k : Nat} {g : Nat → Int32} {c : Cell} {x : Int32} (A : Arr Z h a c ty) (S : c.slots.size = n) (H : ∀ i, i < n → c.slots[i]? = some (.int (g i))) (W : Wr h h' a k (.int x)) : own_AF Z h' a ty n (fun i => if i = k then x else g i) := by
  obtain ⟨c', e1, e2, e3, e4, e5, e6, e7⟩ := wr_at W A.1
  refine ⟨c', ⟨e1, ?_⟩, e4.trans S, fun i hi => ?_⟩
  · rw [(e7 rfl).1]; exact A.2
  · by_cases q : i = k
    · subst q
      show c'.slots[i]? = some (.int (if i = i then x else g i))
      rw [if_pos rfl]
      exact (e7 rfl).2.1
    · show c'.slots[i]? = some (.int (if i = k then x else g i))
      rw [e6 i q, if_neg q]
      exact H i hi
theorem own_AFnew {Z : State} {h : Heap} {a : Addr} {k : ClassId} {ty : FieldType} {z : Int32} {n : Nat} (A : Arr Z h a (newA k ty z) ty) (hn : z.toNatClampNeg = n) (hd : defaultValue ty = .int 0 := by rfl) : own_AF Z h a ty n (fun _ => 0) :=
  ⟨_, A, (sz_new _ _ _).trans hn, fun i hi => by
    have hs : (newA k ty z).slots = Array.replicate z.toNatClampNeg (defaultValue ty) := rfl
    rw [hs, hn, hd]
    simp [hi]⟩
theorem own_eqi {x y : Int32} {b : Int} (h : y.toInt = b) : x = y ↔ x.toInt = b := by rw [← h]; exact Int32.toInt_inj.symm

theorem d1_0 : decode prog_14_method_1_code 0 = .ok (.aload_n 0, 1) := by decide +kernel
theorem d1_1 : decode prog_14_method_1_code 1 = .ok (.invokespecial 1, 3) := by decide +kernel
theorem d1_4 : decode prog_14_method_1_code 4 = .ok (.aload_n 0, 1) := by decide +kernel
theorem d1_5 : decode prog_14_method_1_code 5 = .ok (.aload_n 1, 1) := by decide +kernel
theorem d1_6 : decode prog_14_method_1_code 6 = .ok (.putfield 7, 3) := by decide +kernel
theorem d1_9 : decode prog_14_method_1_code 9 = .ok (.aload_n 0, 1) := by decide +kernel
theorem d1_10 : decode prog_14_method_1_code 10 = .ok (.iload_n 2, 1) := by decide +kernel
theorem d1_11 : decode prog_14_method_1_code 11 = .ok (.putfield 13, 3) := by decide +kernel
theorem d1_14 : decode prog_14_method_1_code 14 = .ok (.aload_n 0, 1) := by decide +kernel
theorem d1_15 : decode prog_14_method_1_code 15 = .ok (.iload_n 3, 1) := by decide +kernel
theorem d1_16 : decode prog_14_method_1_code 16 = .ok (.putfield 17, 3) := by decide +kernel
theorem d1_19 : decode prog_14_method_1_code 19 = .ok (.aload_n 0, 1) := by decide +kernel
theorem d1_20 : decode prog_14_method_1_code 20 = .ok (.lload 4, 2) := by decide +kernel
theorem d1_22 : decode prog_14_method_1_code 22 = .ok (.putfield 20, 3) := by decide +kernel
theorem d1_25 : decode prog_14_method_1_code 25 = .ok (.aload_n 0, 1) := by decide +kernel
theorem d1_26 : decode prog_14_method_1_code 26 = .ok (.lload 6, 2) := by decide +kernel
theorem d1_28 : decode prog_14_method_1_code 28 = .ok (.putfield 24, 3) := by decide +kernel
theorem d1_31 : decode prog_14_method_1_code 31 = .ok (.aload_n 0, 1) := by decide +kernel
theorem d1_32 : decode prog_14_method_1_code 32 = .ok (.lload 8, 2) := by decide +kernel
theorem d1_34 : decode prog_14_method_1_code 34 = .ok (.putfield 27, 3) := by decide +kernel
theorem d1_37 : decode prog_14_method_1_code 37 = .ok (.aload_n 0, 1) := by decide +kernel
theorem d1_38 : decode prog_14_method_1_code 38 = .ok (.lload 10, 2) := by decide +kernel
theorem d1_40 : decode prog_14_method_1_code 40 = .ok (.putfield 30, 3) := by decide +kernel
theorem d1_43 : decode prog_14_method_1_code 43 = .ok (.return_, 1) := by decide +kernel
theorem pn_1 : plainName "com/example/endorse/endorse/ArchiveEntry" = true := by first | (simp [plainName, overriddenIn]; done) | decide +kernel
theorem ef_1 (m : MethodId) (x0 : Addr) (x1 : Addr) (x2 : Int32) (x3 : Int32) (x4 : Int64) (x5 : Int64) (x6 : Int64) (x7 : Int64) : entryFrame m #[(.ref x0), (.ref x1), (.int x2), (.int x3), (.long x4), (.long x5), (.long x6), (.long x7)] 12 = mkF m 0 #[.val (.ref x0), .val (.ref x1), .val (.int x2), .val (.int x3), .val (.long x4), .second, .val (.long x5), .second, .val (.long x6), .second, .val (.long x7), .second] [] := by first | (simp [entryFrame, mkF, argsToLocals, Value.category]; done) | rfl
def Q1 (Z : State) (a1 : Addr) (a2 : Addr) (p3 : Int32) (p4 : Int32) (q5 : Int64) (q6 : Int64) (q7 : Int64) (q8 : Int64) (u_name_a1 : Value) (u_flags_a1 : Value) (u_method_a1 : Value) (u_crc_a1 : Value) (u_compressedSize_a1 : Value) (u_size_a1 : Value) (u_localHeaderOffset_a1 : Value) (h0 : Heap) (n0 : Nat) (v : Option Value) (h : Heap) (L : List Loc) : Prop := v = none ∧ Fr n0 L ∧ Keep h0 h [a1] ∧ Exa Z h a1 "com/example/endorse/endorse/ArchiveEntry" ∧ Fld Z h a1 "com/example/endorse/endorse/ArchiveEntry" "name" "[B" (.ref a2) ∧ Fld Z h a1 "com/example/endorse/endorse/ArchiveEntry" "flags" "I" (.int p3) ∧ Fld Z h a1 "com/example/endorse/endorse/ArchiveEntry" "method" "I" (.int p4) ∧ Fld Z h a1 "com/example/endorse/endorse/ArchiveEntry" "crc" "J" (.long q5) ∧ Fld Z h a1 "com/example/endorse/endorse/ArchiveEntry" "compressedSize" "J" (.long q6) ∧ Fld Z h a1 "com/example/endorse/endorse/ArchiveEntry" "size" "J" (.long q7) ∧ Fld Z h a1 "com/example/endorse/endorse/ArchiveEntry" "localHeaderOffset" "J" (.long q8)
set_option maxRecDepth 65536 in
set_option maxHeartbeats 40000000 in
theorem rm1 (l : Launch) (Z : State) (a0 : Array Value) (hw : ∀ d ∈ tables_1, d.before a0 Z = true) (ws : List Jvm.Cond) (a1 : Addr) (a2 : Addr) (p3 : Int32) (p4 : Int32) (q5 : Int64) (q6 : Int64) (q7 : Int64) (q8 : Int64) (u_name_a1 : Value) (u_flags_a1 : Value) (u_method_a1 : Value) (u_crc_a1 : Value) (u_compressedSize_a1 : Value) (u_size_a1 : Value) (u_localHeaderOffset_a1 : Value) (h0 : Heap) (n0 : Nat) (Z0 : n0 ≤ h0.size) (E_a1 : Exa Z h0 a1 "com/example/endorse/endorse/ArchiveEntry") (F_name_a1 : Fld Z h0 a1 "com/example/endorse/endorse/ArchiveEntry" "name" "[B" u_name_a1) (g_a1 : n0 ≤ a1) (F_flags_a1 : Fld Z h0 a1 "com/example/endorse/endorse/ArchiveEntry" "flags" "I" u_flags_a1) (F_method_a1 : Fld Z h0 a1 "com/example/endorse/endorse/ArchiveEntry" "method" "I" u_method_a1) (F_crc_a1 : Fld Z h0 a1 "com/example/endorse/endorse/ArchiveEntry" "crc" "J" u_crc_a1) (F_compressedSize_a1 : Fld Z h0 a1 "com/example/endorse/endorse/ArchiveEntry" "compressedSize" "J" u_compressedSize_a1) (F_size_a1 : Fld Z h0 a1 "com/example/endorse/endorse/ArchiveEntry" "size" "J" u_size_a1) (F_localHeaderOffset_a1 : Fld Z h0 a1 "com/example/endorse/endorse/ArchiveEntry" "localHeaderOffset" "J" u_localHeaderOffset_a1) :
    MetFree l (⟨"com/example/endorse/endorse/ArchiveEntry", "<init>", "([BIIJJJJ)V"⟩ : MethodName) (head1 (Jvm.Cond.code (⟨"com/example/endorse/endorse/ArchiveEntry", "<init>", "([BIIJJJJ)V"⟩ : MethodName) prog_14_method_1_code 12 none :: ws) ({ frames := 1, cells := 0, slots := 0, locals := 12 } : Room)) (fun a U => a = #[(.ref a1), (.ref a2), (.int p3), (.int p4), (.long q5), (.long q6), (.long q7), (.long q8)] ∧ Z.Warmed39 U.vm ∧ U.heap = h0) (fun _ _ _ _ _ => True) (fun _ U o U' => ∃ v L, o = .returned v ∧ Q1 Z a1 a2 p3 p4 q5 q6 q7 q8 u_name_a1 u_flags_a1 u_method_a1 u_crc_a1 u_compressedSize_a1 u_size_a1 u_localHeaderOffset_a1 h0 n0 v U'.heap L ∧ FrameEnd U o U' L ({ frames := 1, cells := 0, slots := 0, locals := 12 } : Room).cells ({ frames := 1, cells := 0, slots := 0, locals := 12 } : Room).slots) := by
  refine MetFree.of_bodySF (plainFor_of_name pn_1) hisR ?_
  intro p e s m args below meth c s₁ Bd hml0 hP hK
  obtain ⟨rfl, hZ, hh⟩ := hP
  have hx := Bd.exec
  have hby := Bd.bytes
  have hml : c.maxLocals = 12 := hml0
  have hown : s.vm.findClass "com/example/endorse/endorse/ArchiveEntry" = some m.cls := findClass_of_methodNamed Bd.named
  have hnm := (name_of_methodNamed Bd.named Bd.method).1
  have X0 : Stand p l e ({ frames := 1, cells := 0, slots := 0, locals := 12 } : Room) s m #[(.ref a1), (.ref a2), (.int p3), (.int p4), (.long q5), (.long q6), (.long q7), (.long q8)] below meth c s₁ [] 0 0 := Stand.of_body Bd
  have e0 : s₁.heap = h0 := by rw [← hh, Bd.state]; rfl
  have N0 := Fr.nil n0
  have pre0 : ∀ t, Steps p.tables e below (s₁.setTop (mkF m 0 #[.val (.ref a1), .val (.ref a2), .val (.int p3), .val (.int p4), .val (.long q5), .second, .val (.long q6), .second, .val (.long q7), .second, .val (.long q8), .second] [])) t → Steps p.tables e below (s₁.setTop (entryFrame m #[(.ref a1), (.ref a2), (.int p3), (.int p4), (.long q5), (.long q6), (.long q7), (.long q8)] 12)) t := fun t k => castTop (ef_1 m a1 a2 p3 p4 q5 q6 q7 q8) k
  obtain ⟨T9, X9, e9, st9⟩ := initO X0 hx hZ hown (hw _ (List.mem_of_getElem? (i := 7) rfl)) (hw _ (List.mem_of_getElem? (i := 8) rfl)) (hw _ (List.mem_of_getElem? (i := 9) rfl)) e0 (g := (mkF m 1 #[.val (.ref a1), .val (.ref a2), .val (.int p3), .val (.int p4), .val (.long q5), .second, .val (.long q6), .second, .val (.long q7), .second, .val (.long q8), .second] [(.ref a1)])) rfl (by rw [hml]; rfl) rfl (hb hby d1_1) (by decide) (W := 0) (by show 2 * 0 + _ ≤ _; exact Nat.le_of_eq rfl) (by decide)
  obtain ⟨T10, h10, X10, e10, W10, st10⟩ := putF X9 hx hZ hown (host := "") (Or.inl (hw _ (List.mem_of_getElem? (i := 10) rfl))) Via.refl e9 F_name_a1 E_a1 (Or.inr ⟨(hw _ (List.mem_of_getElem? (i := 11) rfl)), rfl, hnm⟩) (hw _ (List.mem_of_getElem? (i := 2) rfl)) (ty := (.array .byte)) (by decide) rfl rfl (g := (mkF m 6 #[.val (.ref a1), .val (.ref a2), .val (.int p3), .val (.int p4), .val (.long q5), .second, .val (.long q6), .second, .val (.long q7), .second, .val (.long q8), .second] [(.ref a2), (.ref a1)])) rfl rfl (hb hby d1_6)
  have Fw10 := F_name_a1.same W10
  have K10 : Keep h0 h10 [a1] := (Keep.refl h0 [a1]).wr W10 (Or.inl (List.mem_of_getElem? (i := 0) rfl))
  have N10 := Fr.snoc X10 N0 g_a1
  obtain ⟨T11, h11, X11, e11, W11, st11⟩ := putF X10 hx hZ hown (host := "") (Or.inl (hw _ (List.mem_of_getElem? (i := 12) rfl))) Via.refl e10 (F_flags_a1.other W10 (Or.inr (slot_ne (Or.inr (hw _ (List.mem_of_getElem? (i := 13) rfl))) (Or.inr (hw _ (List.mem_of_getElem? (i := 11) rfl))) (by decide) (t := .int) (t' := (.array .byte)) (by decide) (by decide)))) (E_a1.wr W10) (Or.inr ⟨(hw _ (List.mem_of_getElem? (i := 13) rfl)), rfl, hnm⟩) (hw _ (List.mem_of_getElem? (i := 2) rfl)) (ty := .int) (by decide) rfl rfl (g := (mkF m 11 #[.val (.ref a1), .val (.ref a2), .val (.int p3), .val (.int p4), .val (.long q5), .second, .val (.long q6), .second, .val (.long q7), .second, .val (.long q8), .second] [(.int p3), (.ref a1)])) rfl rfl (hb hby d1_11)
  have Fw11 := (F_flags_a1.other W10 (Or.inr (slot_ne (Or.inr (hw _ (List.mem_of_getElem? (i := 13) rfl))) (Or.inr (hw _ (List.mem_of_getElem? (i := 11) rfl))) (by decide) (t := .int) (t' := (.array .byte)) (by decide) (by decide)))).same W11
  have K11 : Keep h0 h11 [a1] := K10.wr W11 (Or.inl (List.mem_of_getElem? (i := 0) rfl))
  have N11 := Fr.snoc X11 N10 g_a1
  obtain ⟨T12, h12, X12, e12, W12, st12⟩ := putF X11 hx hZ hown (host := "") (Or.inl (hw _ (List.mem_of_getElem? (i := 14) rfl))) Via.refl e11 ((F_method_a1.other W10 (Or.inr (slot_ne (Or.inr (hw _ (List.mem_of_getElem? (i := 15) rfl))) (Or.inr (hw _ (List.mem_of_getElem? (i := 11) rfl))) (by decide) (t := .int) (t' := (.array .byte)) (by decide) (by decide)))).other W11 (Or.inr (slot_ne (Or.inr (hw _ (List.mem_of_getElem? (i := 15) rfl))) (Or.inr (hw _ (List.mem_of_getElem? (i := 13) rfl))) (by decide) (t := .int) (t' := .int) (by decide) (by decide)))) ((E_a1.wr W10).wr W11) (Or.inr ⟨(hw _ (List.mem_of_getElem? (i := 15) rfl)), rfl, hnm⟩) (hw _ (List.mem_of_getElem? (i := 2) rfl)) (ty := .int) (by decide) rfl rfl (g := (mkF m 16 #[.val (.ref a1), .val (.ref a2), .val (.int p3), .val (.int p4), .val (.long q5), .second, .val (.long q6), .second, .val (.long q7), .second, .val (.long q8), .second] [(.int p4), (.ref a1)])) rfl rfl (hb hby d1_16)
  have Fw12 := ((F_method_a1.other W10 (Or.inr (slot_ne (Or.inr (hw _ (List.mem_of_getElem? (i := 15) rfl))) (Or.inr (hw _ (List.mem_of_getElem? (i := 11) rfl))) (by decide) (t := .int) (t' := (.array .byte)) (by decide) (by decide)))).other W11 (Or.inr (slot_ne (Or.inr (hw _ (List.mem_of_getElem? (i := 15) rfl))) (Or.inr (hw _ (List.mem_of_getElem? (i := 13) rfl))) (by decide) (t := .int) (t' := .int) (by decide) (by decide)))).same W12
  have K12 : Keep h0 h12 [a1] := K11.wr W12 (Or.inl (List.mem_of_getElem? (i := 0) rfl))
  have N12 := Fr.snoc X12 N11 g_a1
  obtain ⟨T13, h13, X13, e13, W13, st13⟩ := putF X12 hx hZ hown (host := "") (Or.inl (hw _ (List.mem_of_getElem? (i := 16) rfl))) Via.refl e12 (((F_crc_a1.other W10 (Or.inr (slot_ne (Or.inr (hw _ (List.mem_of_getElem? (i := 17) rfl))) (Or.inr (hw _ (List.mem_of_getElem? (i := 11) rfl))) (by decide) (t := .long) (t' := (.array .byte)) (by decide) (by decide)))).other W11 (Or.inr (slot_ne (Or.inr (hw _ (List.mem_of_getElem? (i := 17) rfl))) (Or.inr (hw _ (List.mem_of_getElem? (i := 13) rfl))) (by decide) (t := .long) (t' := .int) (by decide) (by decide)))).other W12 (Or.inr (slot_ne (Or.inr (hw _ (List.mem_of_getElem? (i := 17) rfl))) (Or.inr (hw _ (List.mem_of_getElem? (i := 15) rfl))) (by decide) (t := .long) (t' := .int) (by decide) (by decide)))) (((E_a1.wr W10).wr W11).wr W12) (Or.inr ⟨(hw _ (List.mem_of_getElem? (i := 17) rfl)), rfl, hnm⟩) (hw _ (List.mem_of_getElem? (i := 2) rfl)) (ty := .long) (by decide) rfl rfl (g := (mkF m 22 #[.val (.ref a1), .val (.ref a2), .val (.int p3), .val (.int p4), .val (.long q5), .second, .val (.long q6), .second, .val (.long q7), .second, .val (.long q8), .second] [(.long q5), (.ref a1)])) rfl rfl (hb hby d1_22)
  have Fw13 := (((F_crc_a1.other W10 (Or.inr (slot_ne (Or.inr (hw _ (List.mem_of_getElem? (i := 17) rfl))) (Or.inr (hw _ (List.mem_of_getElem? (i := 11) rfl))) (by decide) (t := .long) (t' := (.array .byte)) (by decide) (by decide)))).other W11 (Or.inr (slot_ne (Or.inr (hw _ (List.mem_of_getElem? (i := 17) rfl))) (Or.inr (hw _ (List.mem_of_getElem? (i := 13) rfl))) (by decide) (t := .long) (t' := .int) (by decide) (by decide)))).other W12 (Or.inr (slot_ne (Or.inr (hw _ (List.mem_of_getElem? (i := 17) rfl))) (Or.inr (hw _ (List.mem_of_getElem? (i := 15) rfl))) (by decide) (t := .long) (t' := .int) (by decide) (by decide)))).same W13
  have K13 : Keep h0 h13 [a1] := K12.wr W13 (Or.inl (List.mem_of_getElem? (i := 0) rfl))
  have N13 := Fr.snoc X13 N12 g_a1
  obtain ⟨T14, h14, X14, e14, W14, st14⟩ := putF X13 hx hZ hown (host := "") (Or.inl (hw _ (List.mem_of_getElem? (i := 18) rfl))) Via.refl e13 ((((F_compressedSize_a1.other W10 (Or.inr (slot_ne (Or.inr (hw _ (List.mem_of_getElem? (i := 19) rfl))) (Or.inr (hw _ (List.mem_of_getElem? (i := 11) rfl))) (by decide) (t := .long) (t' := (.array .byte)) (by decide) (by decide)))).other W11 (Or.inr (slot_ne (Or.inr (hw _ (List.mem_of_getElem? (i := 19) rfl))) (Or.inr (hw _ (List.mem_of_getElem? (i := 13) rfl))) (by decide) (t := .long) (t' := .int) (by decide) (by decide)))).other W12 (Or.inr (slot_ne (Or.inr (hw _ (List.mem_of_getElem? (i := 19) rfl))) (Or.inr (hw _ (List.mem_of_getElem? (i := 15) rfl))) (by decide) (t := .long) (t' := .int) (by decide) (by decide)))).other W13 (Or.inr (slot_ne (Or.inr (hw _ (List.mem_of_getElem? (i := 19) rfl))) (Or.inr (hw _ (List.mem_of_getElem? (i := 17) rfl))) (by decide) (t := .long) (t' := .long) (by decide) (by decide)))) ((((E_a1.wr W10).wr W11).wr W12).wr W13) (Or.inr ⟨(hw _ (List.mem_of_getElem? (i := 19) rfl)), rfl, hnm⟩) (hw _ (List.mem_of_getElem? (i := 2) rfl)) (ty := .long) (by decide) rfl rfl (g := (mkF m 28 #[.val (.ref a1), .val (.ref a2), .val (.int p3), .val (.int p4), .val (.long q5), .second, .val (.long q6), .second, .val (.long q7), .second, .val (.long q8), .second] [(.long q6), (.ref a1)])) rfl rfl (hb hby d1_28)
  have Fw14 := ((((F_compressedSize_a1.other W10 (Or.inr (slot_ne (Or.inr (hw _ (List.mem_of_getElem? (i := 19) rfl))) (Or.inr (hw _ (List.mem_of_getElem? (i := 11) rfl))) (by decide) (t := .long) (t' := (.array .byte)) (by decide) (by decide)))).other W11 (Or.inr (slot_ne (Or.inr (hw _ (List.mem_of_getElem? (i := 19) rfl))) (Or.inr (hw _ (List.mem_of_getElem? (i := 13) rfl))) (by decide) (t := .long) (t' := .int) (by decide) (by decide)))).other W12 (Or.inr (slot_ne (Or.inr (hw _ (List.mem_of_getElem? (i := 19) rfl))) (Or.inr (hw _ (List.mem_of_getElem? (i := 15) rfl))) (by decide) (t := .long) (t' := .int) (by decide) (by decide)))).other W13 (Or.inr (slot_ne (Or.inr (hw _ (List.mem_of_getElem? (i := 19) rfl))) (Or.inr (hw _ (List.mem_of_getElem? (i := 17) rfl))) (by decide) (t := .long) (t' := .long) (by decide) (by decide)))).same W14
  have K14 : Keep h0 h14 [a1] := K13.wr W14 (Or.inl (List.mem_of_getElem? (i := 0) rfl))
  have N14 := Fr.snoc X14 N13 g_a1
  obtain ⟨T15, h15, X15, e15, W15, st15⟩ := putF X14 hx hZ hown (host := "") (Or.inl (hw _ (List.mem_of_getElem? (i := 20) rfl))) Via.refl e14 (((((F_size_a1.other W10 (Or.inr (slot_ne (Or.inr (hw _ (List.mem_of_getElem? (i := 21) rfl))) (Or.inr (hw _ (List.mem_of_getElem? (i := 11) rfl))) (by decide) (t := .long) (t' := (.array .byte)) (by decide) (by decide)))).other W11 (Or.inr (slot_ne (Or.inr (hw _ (List.mem_of_getElem? (i := 21) rfl))) (Or.inr (hw _ (List.mem_of_getElem? (i := 13) rfl))) (by decide) (t := .long) (t' := .int) (by decide) (by decide)))).other W12 (Or.inr (slot_ne (Or.inr (hw _ (List.mem_of_getElem? (i := 21) rfl))) (Or.inr (hw _ (List.mem_of_getElem? (i := 15) rfl))) (by decide) (t := .long) (t' := .int) (by decide) (by decide)))).other W13 (Or.inr (slot_ne (Or.inr (hw _ (List.mem_of_getElem? (i := 21) rfl))) (Or.inr (hw _ (List.mem_of_getElem? (i := 17) rfl))) (by decide) (t := .long) (t' := .long) (by decide) (by decide)))).other W14 (Or.inr (slot_ne (Or.inr (hw _ (List.mem_of_getElem? (i := 21) rfl))) (Or.inr (hw _ (List.mem_of_getElem? (i := 19) rfl))) (by decide) (t := .long) (t' := .long) (by decide) (by decide)))) (((((E_a1.wr W10).wr W11).wr W12).wr W13).wr W14) (Or.inr ⟨(hw _ (List.mem_of_getElem? (i := 21) rfl)), rfl, hnm⟩) (hw _ (List.mem_of_getElem? (i := 2) rfl)) (ty := .long) (by decide) rfl rfl (g := (mkF m 34 #[.val (.ref a1), .val (.ref a2), .val (.int p3), .val (.int p4), .val (.long q5), .second, .val (.long q6), .second, .val (.long q7), .second, .val (.long q8), .second] [(.long q7), (.ref a1)])) rfl rfl (hb hby d1_34)
  have Fw15 := (((((F_size_a1.other W10 (Or.inr (slot_ne (Or.inr (hw _ (List.mem_of_getElem? (i := 21) rfl))) (Or.inr (hw _ (List.mem_of_getElem? (i := 11) rfl))) (by decide) (t := .long) (t' := (.array .byte)) (by decide) (by decide)))).other W11 (Or.inr (slot_ne (Or.inr (hw _ (List.mem_of_getElem? (i := 21) rfl))) (Or.inr (hw _ (List.mem_of_getElem? (i := 13) rfl))) (by decide) (t := .long) (t' := .int) (by decide) (by decide)))).other W12 (Or.inr (slot_ne (Or.inr (hw _ (List.mem_of_getElem? (i := 21) rfl))) (Or.inr (hw _ (List.mem_of_getElem? (i := 15) rfl))) (by decide) (t := .long) (t' := .int) (by decide) (by decide)))).other W13 (Or.inr (slot_ne (Or.inr (hw _ (List.mem_of_getElem? (i := 21) rfl))) (Or.inr (hw _ (List.mem_of_getElem? (i := 17) rfl))) (by decide) (t := .long) (t' := .long) (by decide) (by decide)))).other W14 (Or.inr (slot_ne (Or.inr (hw _ (List.mem_of_getElem? (i := 21) rfl))) (Or.inr (hw _ (List.mem_of_getElem? (i := 19) rfl))) (by decide) (t := .long) (t' := .long) (by decide) (by decide)))).same W15
  have K15 : Keep h0 h15 [a1] := K14.wr W15 (Or.inl (List.mem_of_getElem? (i := 0) rfl))
  have N15 := Fr.snoc X15 N14 g_a1
  obtain ⟨T16, h16, X16, e16, W16, st16⟩ := putF X15 hx hZ hown (host := "") (Or.inl (hw _ (List.mem_of_getElem? (i := 22) rfl))) Via.refl e15 ((((((F_localHeaderOffset_a1.other W10 (Or.inr (slot_ne (Or.inr (hw _ (List.mem_of_getElem? (i := 23) rfl))) (Or.inr (hw _ (List.mem_of_getElem? (i := 11) rfl))) (by decide) (t := .long) (t' := (.array .byte)) (by decide) (by decide)))).other W11 (Or.inr (slot_ne (Or.inr (hw _ (List.mem_of_getElem? (i := 23) rfl))) (Or.inr (hw _ (List.mem_of_getElem? (i := 13) rfl))) (by decide) (t := .long) (t' := .int) (by decide) (by decide)))).other W12 (Or.inr (slot_ne (Or.inr (hw _ (List.mem_of_getElem? (i := 23) rfl))) (Or.inr (hw _ (List.mem_of_getElem? (i := 15) rfl))) (by decide) (t := .long) (t' := .int) (by decide) (by decide)))).other W13 (Or.inr (slot_ne (Or.inr (hw _ (List.mem_of_getElem? (i := 23) rfl))) (Or.inr (hw _ (List.mem_of_getElem? (i := 17) rfl))) (by decide) (t := .long) (t' := .long) (by decide) (by decide)))).other W14 (Or.inr (slot_ne (Or.inr (hw _ (List.mem_of_getElem? (i := 23) rfl))) (Or.inr (hw _ (List.mem_of_getElem? (i := 19) rfl))) (by decide) (t := .long) (t' := .long) (by decide) (by decide)))).other W15 (Or.inr (slot_ne (Or.inr (hw _ (List.mem_of_getElem? (i := 23) rfl))) (Or.inr (hw _ (List.mem_of_getElem? (i := 21) rfl))) (by decide) (t := .long) (t' := .long) (by decide) (by decide)))) ((((((E_a1.wr W10).wr W11).wr W12).wr W13).wr W14).wr W15) (Or.inr ⟨(hw _ (List.mem_of_getElem? (i := 23) rfl)), rfl, hnm⟩) (hw _ (List.mem_of_getElem? (i := 2) rfl)) (ty := .long) (by decide) rfl rfl (g := (mkF m 40 #[.val (.ref a1), .val (.ref a2), .val (.int p3), .val (.int p4), .val (.long q5), .second, .val (.long q6), .second, .val (.long q7), .second, .val (.long q8), .second] [(.long q8), (.ref a1)])) rfl rfl (hb hby d1_40)
  have Fw16 := ((((((F_localHeaderOffset_a1.other W10 (Or.inr (slot_ne (Or.inr (hw _ (List.mem_of_getElem? (i := 23) rfl))) (Or.inr (hw _ (List.mem_of_getElem? (i := 11) rfl))) (by decide) (t := .long) (t' := (.array .byte)) (by decide) (by decide)))).other W11 (Or.inr (slot_ne (Or.inr (hw _ (List.mem_of_getElem? (i := 23) rfl))) (Or.inr (hw _ (List.mem_of_getElem? (i := 13) rfl))) (by decide) (t := .long) (t' := .int) (by decide) (by decide)))).other W12 (Or.inr (slot_ne (Or.inr (hw _ (List.mem_of_getElem? (i := 23) rfl))) (Or.inr (hw _ (List.mem_of_getElem? (i := 15) rfl))) (by decide) (t := .long) (t' := .int) (by decide) (by decide)))).other W13 (Or.inr (slot_ne (Or.inr (hw _ (List.mem_of_getElem? (i := 23) rfl))) (Or.inr (hw _ (List.mem_of_getElem? (i := 17) rfl))) (by decide) (t := .long) (t' := .long) (by decide) (by decide)))).other W14 (Or.inr (slot_ne (Or.inr (hw _ (List.mem_of_getElem? (i := 23) rfl))) (Or.inr (hw _ (List.mem_of_getElem? (i := 19) rfl))) (by decide) (t := .long) (t' := .long) (by decide) (by decide)))).other W15 (Or.inr (slot_ne (Or.inr (hw _ (List.mem_of_getElem? (i := 23) rfl))) (Or.inr (hw _ (List.mem_of_getElem? (i := 21) rfl))) (by decide) (t := .long) (t' := .long) (by decide) (by decide)))).same W16
  have K16 : Keep h0 h16 [a1] := K15.wr W16 (Or.inl (List.mem_of_getElem? (i := 0) rfl))
  have N16 := Fr.snoc X16 N15 g_a1
  obtain ⟨fs, hr, hrun, hended, hW, hsame⟩ := X16.leave (v := none) (fun _ => rfl)
  refine ⟨_, _, pre0 _ ?_, hrun, hended, _, _, rfl, ?_, ⟨_, rfl⟩, hW, hsame.mono (by decide) (by decide)⟩
  · show Steps p.tables e below (s₁.setTop (mkF m 0 #[.val (.ref a1), .val (.ref a2), .val (.int p3), .val (.int p4), .val (.long q5), .second, .val (.long q6), .second, .val (.long q7), .second, .val (.long q8), .second] [])) _
    refine XS.aloadN X0.here hx rfl (hb hby d1_0) rfl rfl ?_
    show Steps p.tables e below (s₁.setTop (mkF m 1 #[.val (.ref a1), .val (.ref a2), .val (.int p3), .val (.int p4), .val (.long q5), .second, .val (.long q6), .second, .val (.long q7), .second, .val (.long q8), .second] [(.ref a1)])) _
    refine st9 _ ?_
    show Steps p.tables e below (T9.setTop (mkF m 4 #[.val (.ref a1), .val (.ref a2), .val (.int p3), .val (.int p4), .val (.long q5), .second, .val (.long q6), .second, .val (.long q7), .second, .val (.long q8), .second] [])) _
    refine XS.aloadN X9.here hx rfl (hb hby d1_4) rfl rfl ?_
    show Steps p.tables e below (T9.setTop (mkF m 5 #[.val (.ref a1), .val (.ref a2), .val (.int p3), .val (.int p4), .val (.long q5), .second, .val (.long q6), .second, .val (.long q7), .second, .val (.long q8), .second] [(.ref a1)])) _
    refine XS.aloadN X9.here hx rfl (hb hby d1_5) rfl rfl ?_
    show Steps p.tables e below (T9.setTop (mkF m 6 #[.val (.ref a1), .val (.ref a2), .val (.int p3), .val (.int p4), .val (.long q5), .second, .val (.long q6), .second, .val (.long q7), .second, .val (.long q8), .second] [(.ref a2), (.ref a1)])) _
    refine st10 _ ?_
    show Steps p.tables e below (T10.setTop (mkF m 9 #[.val (.ref a1), .val (.ref a2), .val (.int p3), .val (.int p4), .val (.long q5), .second, .val (.long q6), .second, .val (.long q7), .second, .val (.long q8), .second] [])) _
    refine XS.aloadN X10.here hx rfl (hb hby d1_9) rfl rfl ?_
    show Steps p.tables e below (T10.setTop (mkF m 10 #[.val (.ref a1), .val (.ref a2), .val (.int p3), .val (.int p4), .val (.long q5), .second, .val (.long q6), .second, .val (.long q7), .second, .val (.long q8), .second] [(.ref a1)])) _
    refine XS.iloadN X10.here hx rfl (hb hby d1_10) rfl ?_
    show Steps p.tables e below (T10.setTop (mkF m 11 #[.val (.ref a1), .val (.ref a2), .val (.int p3), .val (.int p4), .val (.long q5), .second, .val (.long q6), .second, .val (.long q7), .second, .val (.long q8), .second] [(.int p3), (.ref a1)])) _
    refine st11 _ ?_
    show Steps p.tables e below (T11.setTop (mkF m 14 #[.val (.ref a1), .val (.ref a2), .val (.int p3), .val (.int p4), .val (.long q5), .second, .val (.long q6), .second, .val (.long q7), .second, .val (.long q8), .second] [])) _
    refine XS.aloadN X11.here hx rfl (hb hby d1_14) rfl rfl ?_
    show Steps p.tables e below (T11.setTop (mkF m 15 #[.val (.ref a1), .val (.ref a2), .val (.int p3), .val (.int p4), .val (.long q5), .second, .val (.long q6), .second, .val (.long q7), .second, .val (.long q8), .second] [(.ref a1)])) _
    refine XS.iloadN X11.here hx rfl (hb hby d1_15) rfl ?_
    show Steps p.tables e below (T11.setTop (mkF m 16 #[.val (.ref a1), .val (.ref a2), .val (.int p3), .val (.int p4), .val (.long q5), .second, .val (.long q6), .second, .val (.long q7), .second, .val (.long q8), .second] [(.int p4), (.ref a1)])) _
    refine st12 _ ?_
    show Steps p.tables e below (T12.setTop (mkF m 19 #[.val (.ref a1), .val (.ref a2), .val (.int p3), .val (.int p4), .val (.long q5), .second, .val (.long q6), .second, .val (.long q7), .second, .val (.long q8), .second] [])) _
    refine XS.aloadN X12.here hx rfl (hb hby d1_19) rfl rfl ?_
    show Steps p.tables e below (T12.setTop (mkF m 20 #[.val (.ref a1), .val (.ref a2), .val (.int p3), .val (.int p4), .val (.long q5), .second, .val (.long q6), .second, .val (.long q7), .second, .val (.long q8), .second] [(.ref a1)])) _
    refine XS.lload X12.here hx rfl (hb hby d1_20) rfl ?_
    show Steps p.tables e below (T12.setTop (mkF m 22 #[.val (.ref a1), .val (.ref a2), .val (.int p3), .val (.int p4), .val (.long q5), .second, .val (.long q6), .second, .val (.long q7), .second, .val (.long q8), .second] [(.long q5), (.ref a1)])) _
    refine st13 _ ?_
    show Steps p.tables e below (T13.setTop (mkF m 25 #[.val (.ref a1), .val (.ref a2), .val (.int p3), .val (.int p4), .val (.long q5), .second, .val (.long q6), .second, .val (.long q7), .second, .val (.long q8), .second] [])) _
    refine XS.aloadN X13.here hx rfl (hb hby d1_25) rfl rfl ?_
    show Steps p.tables e below (T13.setTop (mkF m 26 #[.val (.ref a1), .val (.ref a2), .val (.int p3), .val (.int p4), .val (.long q5), .second, .val (.long q6), .second, .val (.long q7), .second, .val (.long q8), .second] [(.ref a1)])) _
    refine XS.lload X13.here hx rfl (hb hby d1_26) rfl ?_
    show Steps p.tables e below (T13.setTop (mkF m 28 #[.val (.ref a1), .val (.ref a2), .val (.int p3), .val (.int p4), .val (.long q5), .second, .val (.long q6), .second, .val (.long q7), .second, .val (.long q8), .second] [(.long q6), (.ref a1)])) _
    refine st14 _ ?_
    show Steps p.tables e below (T14.setTop (mkF m 31 #[.val (.ref a1), .val (.ref a2), .val (.int p3), .val (.int p4), .val (.long q5), .second, .val (.long q6), .second, .val (.long q7), .second, .val (.long q8), .second] [])) _
    refine XS.aloadN X14.here hx rfl (hb hby d1_31) rfl rfl ?_
    show Steps p.tables e below (T14.setTop (mkF m 32 #[.val (.ref a1), .val (.ref a2), .val (.int p3), .val (.int p4), .val (.long q5), .second, .val (.long q6), .second, .val (.long q7), .second, .val (.long q8), .second] [(.ref a1)])) _
    refine XS.lload X14.here hx rfl (hb hby d1_32) rfl ?_
    show Steps p.tables e below (T14.setTop (mkF m 34 #[.val (.ref a1), .val (.ref a2), .val (.int p3), .val (.int p4), .val (.long q5), .second, .val (.long q6), .second, .val (.long q7), .second, .val (.long q8), .second] [(.long q7), (.ref a1)])) _
    refine st15 _ ?_
    show Steps p.tables e below (T15.setTop (mkF m 37 #[.val (.ref a1), .val (.ref a2), .val (.int p3), .val (.int p4), .val (.long q5), .second, .val (.long q6), .second, .val (.long q7), .second, .val (.long q8), .second] [])) _
    refine XS.aloadN X15.here hx rfl (hb hby d1_37) rfl rfl ?_
    show Steps p.tables e below (T15.setTop (mkF m 38 #[.val (.ref a1), .val (.ref a2), .val (.int p3), .val (.int p4), .val (.long q5), .second, .val (.long q6), .second, .val (.long q7), .second, .val (.long q8), .second] [(.ref a1)])) _
    refine XS.lload X15.here hx rfl (hb hby d1_38) rfl ?_
    show Steps p.tables e below (T15.setTop (mkF m 40 #[.val (.ref a1), .val (.ref a2), .val (.int p3), .val (.int p4), .val (.long q5), .second, .val (.long q6), .second, .val (.long q7), .second, .val (.long q8), .second] [(.long q8), (.ref a1)])) _
    refine st16 _ ?_
    show Steps p.tables e below (T16.setTop (mkF m 43 #[.val (.ref a1), .val (.ref a2), .val (.int p3), .val (.int p4), .val (.long q5), .second, .val (.long q6), .second, .val (.long q7), .second, .val (.long q8), .second] [])) _
    exact X16.returnOut hx Bd.returns (hb hby d1_43) hr
  · show Q1 Z a1 a2 p3 p4 q5 q6 q7 q8 u_name_a1 u_flags_a1 u_method_a1 u_crc_a1 u_compressedSize_a1 u_size_a1 u_localHeaderOffset_a1 h0 n0 _ T16.heap _
    rw [e16]
    exact ⟨rfl, N16, K16, (((((((E_a1.wr W10).wr W11).wr W12).wr W13).wr W14).wr W15).wr W16), ((((((Fw10.other W11 (Or.inr (slot_ne (Or.inr (hw _ (List.mem_of_getElem? (i := 11) rfl))) (Or.inr (hw _ (List.mem_of_getElem? (i := 13) rfl))) (by decide) (t := (.array .byte)) (t' := .int) (by decide) (by decide)))).other W12 (Or.inr (slot_ne (Or.inr (hw _ (List.mem_of_getElem? (i := 11) rfl))) (Or.inr (hw _ (List.mem_of_getElem? (i := 15) rfl))) (by decide) (t := (.array .byte)) (t' := .int) (by decide) (by decide)))).other W13 (Or.inr (slot_ne (Or.inr (hw _ (List.mem_of_getElem? (i := 11) rfl))) (Or.inr (hw _ (List.mem_of_getElem? (i := 17) rfl))) (by decide) (t := (.array .byte)) (t' := .long) (by decide) (by decide)))).other W14 (Or.inr (slot_ne (Or.inr (hw _ (List.mem_of_getElem? (i := 11) rfl))) (Or.inr (hw _ (List.mem_of_getElem? (i := 19) rfl))) (by decide) (t := (.array .byte)) (t' := .long) (by decide) (by decide)))).other W15 (Or.inr (slot_ne (Or.inr (hw _ (List.mem_of_getElem? (i := 11) rfl))) (Or.inr (hw _ (List.mem_of_getElem? (i := 21) rfl))) (by decide) (t := (.array .byte)) (t' := .long) (by decide) (by decide)))).other W16 (Or.inr (slot_ne (Or.inr (hw _ (List.mem_of_getElem? (i := 11) rfl))) (Or.inr (hw _ (List.mem_of_getElem? (i := 23) rfl))) (by decide) (t := (.array .byte)) (t' := .long) (by decide) (by decide)))), (((((Fw11.other W12 (Or.inr (slot_ne (Or.inr (hw _ (List.mem_of_getElem? (i := 13) rfl))) (Or.inr (hw _ (List.mem_of_getElem? (i := 15) rfl))) (by decide) (t := .int) (t' := .int) (by decide) (by decide)))).other W13 (Or.inr (slot_ne (Or.inr (hw _ (List.mem_of_getElem? (i := 13) rfl))) (Or.inr (hw _ (List.mem_of_getElem? (i := 17) rfl))) (by decide) (t := .int) (t' := .long) (by decide) (by decide)))).other W14 (Or.inr (slot_ne (Or.inr (hw _ (List.mem_of_getElem? (i := 13) rfl))) (Or.inr (hw _ (List.mem_of_getElem? (i := 19) rfl))) (by decide) (t := .int) (t' := .long) (by decide) (by decide)))).other W15 (Or.inr (slot_ne (Or.inr (hw _ (List.mem_of_getElem? (i := 13) rfl))) (Or.inr (hw _ (List.mem_of_getElem? (i := 21) rfl))) (by decide) (t := .int) (t' := .long) (by decide) (by decide)))).other W16 (Or.inr (slot_ne (Or.inr (hw _ (List.mem_of_getElem? (i := 13) rfl))) (Or.inr (hw _ (List.mem_of_getElem? (i := 23) rfl))) (by decide) (t := .int) (t' := .long) (by decide) (by decide)))), ((((Fw12.other W13 (Or.inr (slot_ne (Or.inr (hw _ (List.mem_of_getElem? (i := 15) rfl))) (Or.inr (hw _ (List.mem_of_getElem? (i := 17) rfl))) (by decide) (t := .int) (t' := .long) (by decide) (by decide)))).other W14 (Or.inr (slot_ne (Or.inr (hw _ (List.mem_of_getElem? (i := 15) rfl))) (Or.inr (hw _ (List.mem_of_getElem? (i := 19) rfl))) (by decide) (t := .int) (t' := .long) (by decide) (by decide)))).other W15 (Or.inr (slot_ne (Or.inr (hw _ (List.mem_of_getElem? (i := 15) rfl))) (Or.inr (hw _ (List.mem_of_getElem? (i := 21) rfl))) (by decide) (t := .int) (t' := .long) (by decide) (by decide)))).other W16 (Or.inr (slot_ne (Or.inr (hw _ (List.mem_of_getElem? (i := 15) rfl))) (Or.inr (hw _ (List.mem_of_getElem? (i := 23) rfl))) (by decide) (t := .int) (t' := .long) (by decide) (by decide)))), (((Fw13.other W14 (Or.inr (slot_ne (Or.inr (hw _ (List.mem_of_getElem? (i := 17) rfl))) (Or.inr (hw _ (List.mem_of_getElem? (i := 19) rfl))) (by decide) (t := .long) (t' := .long) (by decide) (by decide)))).other W15 (Or.inr (slot_ne (Or.inr (hw _ (List.mem_of_getElem? (i := 17) rfl))) (Or.inr (hw _ (List.mem_of_getElem? (i := 21) rfl))) (by decide) (t := .long) (t' := .long) (by decide) (by decide)))).other W16 (Or.inr (slot_ne (Or.inr (hw _ (List.mem_of_getElem? (i := 17) rfl))) (Or.inr (hw _ (List.mem_of_getElem? (i := 23) rfl))) (by decide) (t := .long) (t' := .long) (by decide) (by decide)))), ((Fw14.other W15 (Or.inr (slot_ne (Or.inr (hw _ (List.mem_of_getElem? (i := 19) rfl))) (Or.inr (hw _ (List.mem_of_getElem? (i := 21) rfl))) (by decide) (t := .long) (t' := .long) (by decide) (by decide)))).other W16 (Or.inr (slot_ne (Or.inr (hw _ (List.mem_of_getElem? (i := 19) rfl))) (Or.inr (hw _ (List.mem_of_getElem? (i := 23) rfl))) (by decide) (t := .long) (t' := .long) (by decide) (by decide)))), (Fw15.other W16 (Or.inr (slot_ne (Or.inr (hw _ (List.mem_of_getElem? (i := 21) rfl))) (Or.inr (hw _ (List.mem_of_getElem? (i := 23) rfl))) (by decide) (t := .long) (t' := .long) (by decide) (by decide)))), Fw16⟩
theorem pdm_0 : parseMethodDescriptor "([BIIJJJJ)V" = some ⟨[(.array .byte), .int, .int, .long, .long, .long, .long], none⟩ := by decide +kernel
theorem own_t32 (z : Nat) (h : z ≤ 64) : (z.toInt32).toInt = z := by
  have : z.toInt32 = Int32.ofNat z := rfl
  rw [this]
  exact Int32.toInt_ofNat_of_lt (by omega)
theorem own_ix {z : Nat} (h : z ≤ 64) (hp : (0 : Int32) < z.toInt32) : own_In z ((z.toInt32) - (1 : Int32)) := by
  have e := own_t32 z h
  have hp' := Int32.lt_iff_toInt_lt.mp hp
  have z0 : (0 : Int32).toInt = 0 := by decide
  have z1 : (1 : Int32).toInt = 1 := by decide
  have a := c_isub z.toInt32 1
  have r := rng32 (z.toInt32 - 1)
  have n : ¬ (z.toInt32 - 1) < (0 : Int32) := fun q => by have := Int32.lt_iff_toInt_lt.mp q; omega
  have n2 := nat_of n
  intro q
  rcases q with q | q
  · exact n q
  · omega
theorem d3_0 : decode prog_14_method_7_code 0 = .ok (.aload_n 0, 1) := by decide +kernel
theorem d3_1 : decode prog_14_method_7_code 1 = .ok (.getfield 7, 3) := by decide +kernel
theorem d3_4 : decode prog_14_method_7_code 4 = .ok (.arraylength, 1) := by decide +kernel
theorem d3_5 : decode prog_14_method_7_code 5 = .ok (.ifCond .le 24, 3) := by decide +kernel
theorem d3_8 : decode prog_14_method_7_code 8 = .ok (.aload_n 0, 1) := by decide +kernel
theorem d3_9 : decode prog_14_method_7_code 9 = .ok (.getfield 7, 3) := by decide +kernel
theorem d3_12 : decode prog_14_method_7_code 12 = .ok (.aload_n 0, 1) := by decide +kernel
theorem d3_13 : decode prog_14_method_7_code 13 = .ok (.getfield 7, 3) := by decide +kernel
theorem d3_16 : decode prog_14_method_7_code 16 = .ok (.arraylength, 1) := by decide +kernel
theorem d3_17 : decode prog_14_method_7_code 17 = .ok (.iconst 1, 1) := by decide +kernel
theorem d3_18 : decode prog_14_method_7_code 18 = .ok (.isub, 1) := by decide +kernel
theorem d3_19 : decode prog_14_method_7_code 19 = .ok (.baload, 1) := by decide +kernel
theorem d3_20 : decode prog_14_method_7_code 20 = .ok (.bipush 47, 2) := by decide +kernel
theorem d3_22 : decode prog_14_method_7_code 22 = .ok (.if_icmp .ne 7, 3) := by decide +kernel
theorem d3_25 : decode prog_14_method_7_code 25 = .ok (.iconst 1, 1) := by decide +kernel
theorem d3_26 : decode prog_14_method_7_code 26 = .ok (.goto 4, 3) := by decide +kernel
theorem d3_29 : decode prog_14_method_7_code 29 = .ok (.iconst 0, 1) := by decide +kernel
theorem d3_30 : decode prog_14_method_7_code 30 = .ok (.ireturn, 1) := by decide +kernel
def f3_0 (gn : Nat → Int32) (zn : Nat) : Int32 := if (0 : Int32) < (zn.toInt32) then (if (gn (((zn.toInt32) - (1 : Int32))).toNatClampNeg) = (47 : Int32) then (1 : Int32) else (0 : Int32)) else (0 : Int32)
set_option maxRecDepth 65536 in
set_option maxHeartbeats 40000000 in
theorem b3_0 {p : Program} {l : Launch} {e : Env} {s : State} {m : MethodId} {args : Array Value} {below : List Frame} {meth : Method} {c : Code} {T : State} {locs : List Loc} {cells slots : Nat} {Z : State} {a0 : Array Value} {h : Heap} {n0 : Nat} {Q : Option Value → Heap → List Loc → Prop} (o0 : Addr) (nm : Addr) (gn : Nat → Int32) (zn : Nat) (hw : ∀ d ∈ tables_1, d.before a0 Z = true) (X : Stand p l e ({ frames := 0, cells := 0, slots := 0, locals := 0 } : Room) s m args below meth c T locs cells slots) (hx : p.tables.exec = Jvm.exec) (hZ : Z.Warmed39 s.vm) (hby : c.code = prog_14_method_7_code) (hml : c.maxLocals = 1) (hown : s.vm.findClass "com/example/endorse/endorse/ArchiveEntry" = some m.cls) (hret : meth.sig.returnType = some .boolean) (hlk : meth.locks = false) (eT : T.heap = h) (N : Fr n0 locs) (hc : cells ≤ 0) (hs : slots ≤ 0) (F1 : Fld Z h o0 "com/example/endorse/endorse/ArchiveEntry" "name" "[B" (.ref nm)) (An : own_AF Z h nm .byte zn gn) (hz : zn ≤ 64) (v : Int32) (hv : v = f3_0 gn zn) (hQ : ∀ L', Fr n0 L' → Q (some (.int v)) h L') :
    own_Fin p e below s Q 0 0 (T.setTop (mkF m 0 #[.val (.ref o0)] [])) := by
  refine own_step (fun t k => XS.aloadN X.here hx rfl (hb hby d3_0) rfl rfl k) ?_
  show own_Fin p e below s Q 0 0 (T.setTop (mkF m 1 #[.val (.ref o0)] [(.ref o0)]))
  obtain ⟨T1, X1, e1, st1⟩ := getF X hx hZ hown (host := "") (Or.inl (hw _ (List.mem_of_getElem? (i := 10) rfl))) Via.refl eT F1 (g := (mkF m 1 #[.val (.ref o0)] [(.ref o0)])) rfl rfl (hb hby d3_1)
  refine own_step st1 ?_
  show own_Fin p e below s Q 0 0 (T1.setTop (mkF m 4 #[.val (.ref o0)] [(.ref nm)]))
  obtain ⟨ca4, Ar4, Sz4, Ht4⟩ := id An
  refine own_step (X1.arraylength hx (by rw [e1]; exact Ar4.1) (State.isArrayOf_alike hZ.alike Ar4.2.1) (g := (mkF m 4 #[.val (.ref o0)] [(.ref nm)])) rfl rfl (hb hby d3_4)) ?_
  rw [Sz4]
  show own_Fin p e below s Q 0 0 (T1.setTop (mkF m 5 #[.val (.ref o0)] [(.int (zn.toInt32))]))
  by_cases hB5_2 : (0 : Int32) < (zn.toInt32)
  · refine own_step (fun t k => XS.ifNo X1.here hx rfl (hb hby d3_5) rfl ((if0 _ _).trans (tlt hB5_2).2.2.2) k) ?_
    have hvhB5_2 : v = (if (gn (((zn.toInt32) - (1 : Int32))).toNatClampNeg) = (47 : Int32) then (1 : Int32) else (0 : Int32)) := hv.trans (if_pos hB5_2)
    show own_Fin p e below s Q 0 0 (T1.setTop (mkF m 8 #[.val (.ref o0)] []))
    refine own_step (fun t k => XS.aloadN X1.here hx rfl (hb hby d3_8) rfl rfl k) ?_
    show own_Fin p e below s Q 0 0 (T1.setTop (mkF m 9 #[.val (.ref o0)] [(.ref o0)]))
    obtain ⟨T4, X4, e4, st4⟩ := getF X1 hx hZ hown (host := "") (Or.inl (hw _ (List.mem_of_getElem? (i := 10) rfl))) Via.refl e1 F1 (g := (mkF m 9 #[.val (.ref o0)] [(.ref o0)])) rfl rfl (hb hby d3_9)
    refine own_step st4 ?_
    show own_Fin p e below s Q 0 0 (T4.setTop (mkF m 12 #[.val (.ref o0)] [(.ref nm)]))
    refine own_step (fun t k => XS.aloadN X4.here hx rfl (hb hby d3_12) rfl rfl k) ?_
    show own_Fin p e below s Q 0 0 (T4.setTop (mkF m 13 #[.val (.ref o0)] [(.ref o0), (.ref nm)]))
    obtain ⟨T5, X5, e5, st5⟩ := getF X4 hx hZ hown (host := "") (Or.inl (hw _ (List.mem_of_getElem? (i := 10) rfl))) Via.refl e4 F1 (g := (mkF m 13 #[.val (.ref o0)] [(.ref o0), (.ref nm)])) rfl rfl (hb hby d3_13)
    refine own_step st5 ?_
    show own_Fin p e below s Q 0 0 (T5.setTop (mkF m 16 #[.val (.ref o0)] [(.ref nm), (.ref nm)]))
    obtain ⟨ca16, Ar16, Sz16, Ht16⟩ := id An
    refine own_step (X5.arraylength hx (by rw [e5]; exact Ar16.1) (State.isArrayOf_alike hZ.alike Ar16.2.1) (g := (mkF m 16 #[.val (.ref o0)] [(.ref nm), (.ref nm)])) rfl rfl (hb hby d3_16)) ?_
    rw [Sz16]
    show own_Fin p e below s Q 0 0 (T5.setTop (mkF m 17 #[.val (.ref o0)] [(.int (zn.toInt32)), (.ref nm)]))
    refine own_step (fun t k => XS.iconst X5.here hx rfl (hb hby d3_17) k) ?_
    show own_Fin p e below s Q 0 0 (T5.setTop (mkF m 18 #[.val (.ref o0)] [(.int (1 : Int32)), (.int (zn.toInt32)), (.ref nm)]))
    refine own_step (fun t k => XS.isub X5.here hx rfl (hb hby d3_18) rfl k) ?_
    show own_Fin p e below s Q 0 0 (T5.setTop (mkF m 19 #[.val (.ref o0)] [(.int ((zn.toInt32) - (1 : Int32))), (.ref nm)]))
    obtain ⟨ca19, Ar19, Sz19, Ht19⟩ := id An
    have hin19 : ¬ (((zn.toInt32) - (1 : Int32)) < 0 ∨ ca19.slots.size ≤ (((zn.toInt32) - (1 : Int32))).toNatClampNeg) := by rw [Sz19]; exact own_ix hz hB5_2
    refine own_step (X5.baloadBytes hx (j := ((zn.toInt32) - (1 : Int32))) (v := (.int (gn (((zn.toInt32) - (1 : Int32))).toNatClampNeg))) (by rw [e5]; exact Ar19.1) (State.isArrayOf_alike hZ.alike Ar19.2.1) Ar19.2.2 hin19 (Ht19 _ (by have hq := Nat.lt_of_not_le (fun y => hin19 (Or.inr y)); rw [Sz19] at hq; exact hq)) (g := (mkF m 19 #[.val (.ref o0)] [(.int ((zn.toInt32) - (1 : Int32))), (.ref nm)])) rfl rfl (hb hby d3_19)) ?_
    show own_Fin p e below s Q 0 0 (T5.setTop (mkF m 20 #[.val (.ref o0)] [(.int (gn (((zn.toInt32) - (1 : Int32))).toNatClampNeg))]))
    refine own_step (fun t k => XS.bipush X5.here hx rfl (hb hby d3_20) k) ?_
    show own_Fin p e below s Q 0 0 (T5.setTop (mkF m 22 #[.val (.ref o0)] [(.int (47 : Int32)), (.int (gn (((zn.toInt32) - (1 : Int32))).toNatClampNeg))]))
    by_cases hB22_6 : (gn (((zn.toInt32) - (1 : Int32))).toNatClampNeg) = (47 : Int32)
    · refine own_step (fun t k => XS.icmpNo X5.here hx rfl (hb hby d3_22) rfl (teq hB22_6).2 k) ?_
      have hvhB22_6 : v = (1 : Int32) := hvhB5_2.trans (if_pos hB22_6)
      show own_Fin p e below s Q 0 0 (T5.setTop (mkF m 25 #[.val (.ref o0)] []))
      refine own_step (fun t k => XS.iconst X5.here hx rfl (hb hby d3_25) k) ?_
      show own_Fin p e below s Q 0 0 (T5.setTop (mkF m 26 #[.val (.ref o0)] [(.int (1 : Int32))]))
      refine own_step (fun t k => XS.goto X5.here hx rfl (pc0 := 26) (pc' := 30) rfl (hb hby d3_26) (by decide) (by decide) k) ?_
      show own_Fin p e below s Q 0 0 (T5.setTop (mkF m 30 #[.val (.ref o0)] [(.int (1 : Int32))]))
      exact own_retN X5 hx hlk hret (by simp) (hb hby d3_30) (Nat.le_trans (Nat.add_le_add_right hc 0) (by decide)) (Nat.le_trans (Nat.add_le_add_right hs 0) (by decide)) e5 N hQ (hvhB22_6)
    · refine own_step (fun t k => XS.icmpYes X5.here hx rfl (pc0 := 22) (pc' := 29) rfl (hb hby d3_22) rfl (feq hB22_6).2 (by decide) (by decide) k) ?_
      have hvhB22_6 : v = (0 : Int32) := hvhB5_2.trans (if_neg hB22_6)
      show own_Fin p e below s Q 0 0 (T5.setTop (mkF m 29 #[.val (.ref o0)] []))
      refine own_step (fun t k => XS.iconst X5.here hx rfl (hb hby d3_29) k) ?_
      show own_Fin p e below s Q 0 0 (T5.setTop (mkF m 30 #[.val (.ref o0)] [(.int (0 : Int32))]))
      exact own_retN X5 hx hlk hret (by simp) (hb hby d3_30) (Nat.le_trans (Nat.add_le_add_right hc 0) (by decide)) (Nat.le_trans (Nat.add_le_add_right hs 0) (by decide)) e5 N hQ (hvhB22_6)
  · refine own_step (fun t k => XS.ifYes X1.here hx rfl (pc0 := 5) (pc' := 29) rfl (hb hby d3_5) rfl ((if0 _ _).trans (flt hB5_2).2.2.2) (by decide) (by decide) k) ?_
    have hvhB5_2 : v = (0 : Int32) := hv.trans (if_neg hB5_2)
    show own_Fin p e below s Q 0 0 (T1.setTop (mkF m 29 #[.val (.ref o0)] []))
    refine own_step (fun t k => XS.iconst X1.here hx rfl (hb hby d3_29) k) ?_
    show own_Fin p e below s Q 0 0 (T1.setTop (mkF m 30 #[.val (.ref o0)] [(.int (0 : Int32))]))
    exact own_retN X1 hx hlk hret (by simp) (hb hby d3_30) (Nat.le_trans (Nat.add_le_add_right hc 0) (by decide)) (Nat.le_trans (Nat.add_le_add_right hs 0) (by decide)) e1 N hQ (hvhB5_2)
theorem pnm_0 : plainName "com/example/endorse/endorse/ArchiveEntry" = true := by first | (simp [plainName, overriddenIn]; done) | decide +kernel
theorem pdm_1 : parseMethodDescriptor "()Z" = some ⟨[], some .boolean⟩ := by decide +kernel
theorem ef_3 (m : MethodId) (o0 : Addr) : entryFrame m #[(.ref o0)] 1 = (mkF m 0 #[.val (.ref o0)] []) := by first | (simp [entryFrame, mkF, argsToLocals, Value.category]; done) | rfl
def Q3 (o0 : Addr) (nm : Addr) (gn : Nat → Int32) (zn : Nat) (h0 : Heap) (n0 : Nat) (v : Option Value) (h : Heap) (L : List Loc) : Prop := v = some (.int (f3_0 gn zn)) ∧ Fr n0 L ∧ h = h0
set_option maxRecDepth 65536 in
set_option maxHeartbeats 4000000 in
theorem rm3 (l : Launch) (Z : State) (a0 : Array Value) (hw : ∀ d ∈ tables_1, d.before a0 Z = true) (ws : List Jvm.Cond) (o0 : Addr) (nm : Addr) (gn : Nat → Int32) (zn : Nat) (h0 : Heap) (n0 : Nat) (F1 : Fld Z h0 o0 "com/example/endorse/endorse/ArchiveEntry" "name" "[B" (.ref nm)) (An : own_AF Z h0 nm .byte zn gn) (hz : zn ≤ 64) :
    MetFree l (⟨"com/example/endorse/endorse/ArchiveEntry", "isDirectory", "()Z"⟩ : MethodName) (head1 (Jvm.Cond.code (⟨"com/example/endorse/endorse/ArchiveEntry", "isDirectory", "()Z"⟩ : MethodName) prog_14_method_7_code 1 (some .boolean) :: ws) ({ frames := 0, cells := 0, slots := 0, locals := 0 } : Room)) (fun a U => a = #[(.ref o0)] ∧ Z.Warmed39 U.vm ∧ U.heap = h0) (fun _ _ _ _ _ => True) (fun _ U o U' => ∃ v L, o = .returned v ∧ Q3 o0 nm gn zn h0 n0 v U'.heap L ∧ FrameEnd U o U' L ({ frames := 0, cells := 0, slots := 0, locals := 0 } : Room).cells ({ frames := 0, cells := 0, slots := 0, locals := 0 } : Room).slots) := by
  refine MetFree.of_bodySF (plainFor_of_name pnm_0) hisR ?_
  intro p e s m args below meth c s₁ Bd hml0 hP hK
  obtain ⟨rfl, hZ, hh⟩ := hP
  have hx := Bd.exec
  have hby := Bd.bytes
  have hml : c.maxLocals = 1 := hml0
  have hown : s.vm.findClass "com/example/endorse/endorse/ArchiveEntry" = some m.cls := findClass_of_methodNamed Bd.named
  have X0 : Stand p l e ({ frames := 0, cells := 0, slots := 0, locals := 0 } : Room) s m #[(.ref o0)] below meth c s₁ [] 0 0 := Stand.of_body Bd
  have e0 : s₁.heap = h0 := by rw [← hh, Bd.state]; rfl
  have fin := b3_0 o0 nm gn zn (Q := Q3 o0 nm gn zn h0 n0) hw X0 hx hZ hby hml hown Bd.returns (BodyLoose.notSynchronized Bd) e0 (Fr.nil n0) (Nat.zero_le _) (Nat.zero_le _) F1 An hz _ rfl (fun L' n' => ⟨rfl, n', rfl⟩)
  exact own_step (fun t k => castTop (ef_3 m o0) k) fin
theorem own_n (k : Int32) : (k &&& (3 : Int32)) = 0 ∨ (k &&& (3 : Int32)) = 1 ∨ (k &&& (3 : Int32)) = 2 ∨ (k &&& (3 : Int32)) = 3 := by
  have h := c_and k 3 (by decide)
  have z : (3 : Int32).toInt = 3 := by decide
  generalize (k &&& (3 : Int32)) = x at h ⊢
  have h' : x.toInt = 0 ∨ x.toInt = 1 ∨ x.toInt = 2 ∨ x.toInt = 3 := by omega
  rcases h' with q | q | q | q
  · exact Or.inl ((own_eqi (b := 0) (by decide)).mpr q)
  · exact Or.inr (Or.inl ((own_eqi (b := 1) (by decide)).mpr q))
  · exact Or.inr (Or.inr (Or.inl ((own_eqi (b := 2) (by decide)).mpr q)))
  · exact Or.inr (Or.inr (Or.inr ((own_eqi (b := 3) (by decide)).mpr q)))
theorem own_nn (x : Int32) : nar .byte (x.toInt8.toInt32) = x.toInt8.toInt32 := by
  have a := c_i2b x
  have b := c_i2b x.toInt8.toInt32
  apply Int32.toInt_inj.mp
  show x.toInt8.toInt32.toInt8.toInt32.toInt = x.toInt8.toInt32.toInt
  omega
theorem own_dir0 (g : Nat → Int32) : f3_0 g 0 = (0 : Int32) := if_neg (by decide)
theorem own_dir (g : Nat → Int32) (n : Nat) (z : Nat) (b : Int32) (hz : (0 : Int32) < z.toInt32) (hi : ((z.toInt32) - (1 : Int32)).toNatClampNeg = n) (hg : g n = nar .byte (b.toInt8.toInt32)) :
    ((b.toInt8.toInt32) = (47 : Int32) → f3_0 g z = (1 : Int32)) ∧ (¬ (b.toInt8.toInt32) = (47 : Int32) → f3_0 g z = (0 : Int32)) := by
  rw [own_nn] at hg
  unfold f3_0
  rw [if_pos hz, hi, hg]
  exact ⟨fun q => if_pos q, fun q => if_neg q⟩
set_option maxRecDepth 65536 in
set_option maxHeartbeats 40000000 in
theorem b0_5 {p : Program} {l : Launch} {e : Env} {s : State} {m : MethodId} {args : Array Value} {below : List Frame} {meth : Method} {c : Code} {T : State} {locs : List Loc} {cells slots : Nat} {Z : State} {a0 : Array Value} {h : Heap} {n0 : Nat} {Q : Option Value → Heap → List Loc → Prop} (i0 : Int32) (i1 : Int32) (i2 : Int32) (i3 : Int32) (i4 : Int32) (i5 : Int32) (i6 : Int32) (hw : ∀ d ∈ tables_1, d.before a0 Z = true) (X : Stand p l e room_1 s m args below meth c T locs cells slots) (hx : p.tables.exec = Jvm.exec) (hZ : Z.Warmed39 s.vm) (hby : c.code = code) (hml : c.maxLocals = 10) (hown : s.vm.findClass "com/example/endorse/endorse/ArchiveEntryIsDirectoryPinLaw" = some m.cls) (hret : meth.sig.returnType = some .boolean) (hlk : meth.locks = false) (eT : T.heap = h) (N : Fr n0 locs) (hc : cells ≤ 0) (hs : slots ≤ 0) (hn : i6 = 0 ∨ i6 = 1 ∨ i6 = 2 ∨ i6 = 3) (Z0 : n0 ≤ h.size) (hQ : ∀ H' L', Fr n0 L' → Q (some (.int 1)) H' L') :
    own_Fin p e below s Q 16 128 (T.setTop (mkF m 5 #[.val (.int i0), .val (.int i1), .val (.int i2), .val (.int i3), .val (.int i4), .val (.int i5), .val (.int i6), .unset, .unset, .unset] [])) := by
  obtain rfl | rfl | rfl | rfl := hn
  · skip
    refine own_step (fun t k => XS.iload X.here hx rfl (hb hby at_5) rfl  k) ?_
    show own_Fin p e below s Q 16 128 (T.setTop (mkF m 7 #[.val (.int i0), .val (.int i1), .val (.int i2), .val (.int i3), .val (.int i4), .val (.int i5), .val (.int (0 : Int32)), .unset, .unset, .unset] [(.int (0 : Int32))]))
    obtain ⟨T10, h10, k10, X10, e10, E10, AA10, st10⟩ := newP X hx hZ (hw _ (List.mem_of_getElem? (i := 0) rfl)) eT (g := (mkF m 7 #[.val (.int i0), .val (.int i1), .val (.int i2), .val (.int i3), .val (.int i4), .val (.int i5), .val (.int (0 : Int32)), .unset, .unset, .unset] [(.int (0 : Int32))])) rfl (hb hby at_7) rfl (by decide) (cap := 0) (by decide) (by decide) (show cells + 1 ≤ 16 from (Nat.le_trans (Nat.add_le_add_right hc 1) (by decide))) (show slots + 0 ≤ 128 from (Nat.le_trans (Nat.add_le_add_right hs 0) (by decide)))
    obtain ⟨b10, gg10⟩ : ∃ z, z = h.size := ⟨_, rfl⟩
    rw [← gg10] at AA10 st10
    have V10 : own_AF Z h10 b10 .byte 0 (fun _ => 0) := own_AFnew AA10 (by decide)
    have fr10 : n0 ≤ b10 := Nat.le_trans Z0 (Nat.le_of_eq gg10.symm)
    have Z010 : n0 ≤ h10.size := Nat.le_trans Z0 E10.1
    refine own_step st10 ?_
    show own_Fin p e below s Q 16 128 (T10.setTop (mkF m 9 #[.val (.int i0), .val (.int i1), .val (.int i2), .val (.int i3), .val (.int i4), .val (.int i5), .val (.int (0 : Int32)), .unset, .unset, .unset] [(.ref b10)]))
    refine own_step (fun t k => XS.astore X10.here hx rfl (hb hby at_9) rfl rfl (l' := #[.val (.int i0), .val (.int i1), .val (.int i2), .val (.int i3), .val (.int i4), .val (.int i5), .val (.int (0 : Int32)), .val (.ref b10), .unset, .unset]) rfl k) ?_
    show own_Fin p e below s Q 16 128 (T10.setTop (mkF m 11 #[.val (.int i0), .val (.int i1), .val (.int i2), .val (.int i3), .val (.int i4), .val (.int i5), .val (.int (0 : Int32)), .val (.ref b10), .unset, .unset] []))
    refine own_step (fun t k => XS.iload X10.here hx rfl (hb hby at_11) rfl  k) ?_
    show own_Fin p e below s Q 16 128 (T10.setTop (mkF m 13 #[.val (.int i0), .val (.int i1), .val (.int i2), .val (.int i3), .val (.int i4), .val (.int i5), .val (.int (0 : Int32)), .val (.ref b10), .unset, .unset] [(.int (0 : Int32))]))
    refine own_step (fun t k => XS.ifYes X10.here hx rfl (pc0 := 13) (pc' := 22) rfl (hb hby at_13) rfl ((if0 _ _).trans (flt (by decide : ¬ ((0 : Int32) < (0 : Int32)))).2.2.2) (by decide) (by decide) k) ?_
    show own_Fin p e below s Q 16 128 (T10.setTop (mkF m 22 #[.val (.int i0), .val (.int i1), .val (.int i2), .val (.int i3), .val (.int i4), .val (.int i5), .val (.int (0 : Int32)), .val (.ref b10), .unset, .unset] []))
    refine own_step (fun t k => XS.iload X10.here hx rfl (hb hby at_22) rfl  k) ?_
    show own_Fin p e below s Q 16 128 (T10.setTop (mkF m 24 #[.val (.int i0), .val (.int i1), .val (.int i2), .val (.int i3), .val (.int i4), .val (.int i5), .val (.int (0 : Int32)), .val (.ref b10), .unset, .unset] [(.int (0 : Int32))]))
    refine own_step (fun t k => XS.iconst X10.here hx rfl (hb hby at_24) k) ?_
    show own_Fin p e below s Q 16 128 (T10.setTop (mkF m 25 #[.val (.int i0), .val (.int i1), .val (.int i2), .val (.int i3), .val (.int i4), .val (.int i5), .val (.int (0 : Int32)), .val (.ref b10), .unset, .unset] [(.int (1 : Int32)), (.int (0 : Int32))]))
    refine own_step (fun t k => XS.icmpYes X10.here hx rfl (pc0 := 25) (pc' := 34) rfl (hb hby at_25) rfl (flt (by decide : ¬ ((1 : Int32) < (0 : Int32)))).2.2.2 (by decide) (by decide) k) ?_
    show own_Fin p e below s Q 16 128 (T10.setTop (mkF m 34 #[.val (.int i0), .val (.int i1), .val (.int i2), .val (.int i3), .val (.int i4), .val (.int i5), .val (.int (0 : Int32)), .val (.ref b10), .unset, .unset] []))
    refine own_step (fun t k => XS.iload X10.here hx rfl (hb hby at_34) rfl  k) ?_
    show own_Fin p e below s Q 16 128 (T10.setTop (mkF m 36 #[.val (.int i0), .val (.int i1), .val (.int i2), .val (.int i3), .val (.int i4), .val (.int i5), .val (.int (0 : Int32)), .val (.ref b10), .unset, .unset] [(.int (0 : Int32))]))
    refine own_step (fun t k => XS.iconst X10.here hx rfl (hb hby at_36) k) ?_
    show own_Fin p e below s Q 16 128 (T10.setTop (mkF m 37 #[.val (.int i0), .val (.int i1), .val (.int i2), .val (.int i3), .val (.int i4), .val (.int i5), .val (.int (0 : Int32)), .val (.ref b10), .unset, .unset] [(.int (2 : Int32)), (.int (0 : Int32))]))
    refine own_step (fun t k => XS.icmpYes X10.here hx rfl (pc0 := 37) (pc' := 46) rfl (hb hby at_37) rfl (flt (by decide : ¬ ((2 : Int32) < (0 : Int32)))).2.2.2 (by decide) (by decide) k) ?_
    show own_Fin p e below s Q 16 128 (T10.setTop (mkF m 46 #[.val (.int i0), .val (.int i1), .val (.int i2), .val (.int i3), .val (.int i4), .val (.int i5), .val (.int (0 : Int32)), .val (.ref b10), .unset, .unset] []))
    obtain ⟨T11, h11, X11, e11, E11, A11, D11, -, st11⟩ := newO X10 hx hZ hown (hw _ (List.mem_of_getElem? (i := 1) rfl)) (hw _ (List.mem_of_getElem? (i := 2) rfl)) (hw _ (List.mem_of_getElem? (i := 3) rfl)) e10 (g := (mkF m 46 #[.val (.int i0), .val (.int i1), .val (.int i2), .val (.int i3), .val (.int i4), .val (.int i5), .val (.int (0 : Int32)), .val (.ref b10), .unset, .unset] [])) rfl (hb hby at_46) (show cells + 1 + 1 ≤ 16 from (Nat.le_trans (Nat.add_le_add_right hc 2) (by decide))) (show slots + 0 + 7 ≤ 128 from (Nat.le_trans (Nat.add_le_add_right hs 7) (by decide)))
    obtain ⟨b11, gg11⟩ : ∃ z, z = h10.size := ⟨_, rfl⟩
    rw [← gg11] at A11 D11 st11
    have F11_name : Fld Z h11 b11 "com/example/endorse/endorse/ArchiveEntry" "name" "[B" .null := D11 (Or.inr (hw _ (List.mem_of_getElem? (i := 11) rfl))) (ty := (.array .byte)) (by decide)
    have F11_flags : Fld Z h11 b11 "com/example/endorse/endorse/ArchiveEntry" "flags" "I" (.int (0 : Int32)) := D11 (Or.inr (hw _ (List.mem_of_getElem? (i := 13) rfl))) (ty := .int) (by decide)
    have F11_method : Fld Z h11 b11 "com/example/endorse/endorse/ArchiveEntry" "method" "I" (.int (0 : Int32)) := D11 (Or.inr (hw _ (List.mem_of_getElem? (i := 15) rfl))) (ty := .int) (by decide)
    have F11_crc : Fld Z h11 b11 "com/example/endorse/endorse/ArchiveEntry" "crc" "J" (.long (0 : Int64)) := D11 (Or.inr (hw _ (List.mem_of_getElem? (i := 17) rfl))) (ty := .long) (by decide)
    have F11_compressedSize : Fld Z h11 b11 "com/example/endorse/endorse/ArchiveEntry" "compressedSize" "J" (.long (0 : Int64)) := D11 (Or.inr (hw _ (List.mem_of_getElem? (i := 19) rfl))) (ty := .long) (by decide)
    have F11_size : Fld Z h11 b11 "com/example/endorse/endorse/ArchiveEntry" "size" "J" (.long (0 : Int64)) := D11 (Or.inr (hw _ (List.mem_of_getElem? (i := 21) rfl))) (ty := .long) (by decide)
    have F11_localHeaderOffset : Fld Z h11 b11 "com/example/endorse/endorse/ArchiveEntry" "localHeaderOffset" "J" (.long (0 : Int64)) := D11 (Or.inr (hw _ (List.mem_of_getElem? (i := 23) rfl))) (ty := .long) (by decide)
    have fr11 : n0 ≤ b11 := Nat.le_trans Z010 (Nat.le_of_eq gg11.symm)
    have Z011 : n0 ≤ h11.size := Nat.le_trans Z010 E11.1
    have neb10_11 : b10 ≠ b11 := Nat.ne_of_lt (Nat.lt_of_lt_of_le V10.lt (Nat.le_of_eq gg11.symm))
    have V11_b10 := own_AFext V10 E11
    refine own_step st11 ?_
    show own_Fin p e below s Q 16 128 (T11.setTop (mkF m 49 #[.val (.int i0), .val (.int i1), .val (.int i2), .val (.int i3), .val (.int i4), .val (.int i5), .val (.int (0 : Int32)), .val (.ref b10), .unset, .unset] [(.ref b11)]))
    refine own_step (fun t k => XS.dup X11.here hx rfl (hb hby at_49) rfl rfl k) ?_
    show own_Fin p e below s Q 16 128 (T11.setTop (mkF m 50 #[.val (.int i0), .val (.int i1), .val (.int i2), .val (.int i3), .val (.int i4), .val (.int i5), .val (.int (0 : Int32)), .val (.ref b10), .unset, .unset] [(.ref b11), (.ref b11)]))
    refine own_step (fun t k => XS.aload X11.here hx rfl (hb hby at_50) rfl rfl k) ?_
    show own_Fin p e below s Q 16 128 (T11.setTop (mkF m 52 #[.val (.int i0), .val (.int i1), .val (.int i2), .val (.int i3), .val (.int i4), .val (.int i5), .val (.int (0 : Int32)), .val (.ref b10), .unset, .unset] [(.ref b10), (.ref b11), (.ref b11)]))
    refine own_step (fun t k => XS.iload X11.here hx rfl (hb hby at_52) rfl  k) ?_
    show own_Fin p e below s Q 16 128 (T11.setTop (mkF m 54 #[.val (.int i0), .val (.int i1), .val (.int i2), .val (.int i3), .val (.int i4), .val (.int i5), .val (.int (0 : Int32)), .val (.ref b10), .unset, .unset] [(.int i4), (.ref b10), (.ref b11), (.ref b11)]))
    refine own_step (fun t k => XS.iload X11.here hx rfl (hb hby at_54) rfl  k) ?_
    show own_Fin p e below s Q 16 128 (T11.setTop (mkF m 56 #[.val (.int i0), .val (.int i1), .val (.int i2), .val (.int i3), .val (.int i4), .val (.int i5), .val (.int (0 : Int32)), .val (.ref b10), .unset, .unset] [(.int i5), (.int i4), (.ref b10), (.ref b11), (.ref b11)]))
    refine own_step (fun t k => XS.lconst X11.here hx rfl (hb hby at_56) k) ?_
    show own_Fin p e below s Q 16 128 (T11.setTop (mkF m 57 #[.val (.int i0), .val (.int i1), .val (.int i2), .val (.int i3), .val (.int i4), .val (.int i5), .val (.int (0 : Int32)), .val (.ref b10), .unset, .unset] [(.long (0 : Int64)), (.int i5), (.int i4), (.ref b10), (.ref b11), (.ref b11)]))
    refine own_step (fun t k => XS.lconst X11.here hx rfl (hb hby at_57) k) ?_
    show own_Fin p e below s Q 16 128 (T11.setTop (mkF m 58 #[.val (.int i0), .val (.int i1), .val (.int i2), .val (.int i3), .val (.int i4), .val (.int i5), .val (.int (0 : Int32)), .val (.ref b10), .unset, .unset] [(.long (0 : Int64)), (.long (0 : Int64)), (.int i5), (.int i4), (.ref b10), (.ref b11), (.ref b11)]))
    refine own_step (fun t k => XS.lconst X11.here hx rfl (hb hby at_58) k) ?_
    show own_Fin p e below s Q 16 128 (T11.setTop (mkF m 59 #[.val (.int i0), .val (.int i1), .val (.int i2), .val (.int i3), .val (.int i4), .val (.int i5), .val (.int (0 : Int32)), .val (.ref b10), .unset, .unset] [(.long (0 : Int64)), (.long (0 : Int64)), (.long (0 : Int64)), (.int i5), (.int i4), (.ref b10), (.ref b11), (.ref b11)]))
    refine own_step (fun t k => XS.lconst X11.here hx rfl (hb hby at_59) k) ?_
    show own_Fin p e below s Q 16 128 (T11.setTop (mkF m 60 #[.val (.int i0), .val (.int i1), .val (.int i2), .val (.int i3), .val (.int i4), .val (.int i5), .val (.int (0 : Int32)), .val (.ref b10), .unset, .unset] [(.long (0 : Int64)), (.long (0 : Int64)), (.long (0 : Int64)), (.long (0 : Int64)), (.int i5), (.int i4), (.ref b10), (.ref b11), (.ref b11)]))
    obtain ⟨_, _, ⟨T12, L12, k12, n12⟩, -, X12, ⟨Lc12, hQ12, l12, y12, z12⟩, st12⟩ := X11.specialBack hx (y := (⟨"com/example/endorse/endorse/ArchiveEntry", "<init>", "([BIIJJJJ)V"⟩ : MethodName)) rfl hown (mvT hZ (hw _ (List.mem_of_getElem? (i := 4) rfl))) (mvT hZ (hw _ (List.mem_of_getElem? (i := 5) rfl))) (mvT hZ (hw _ (List.mem_of_getElem? (i := 6) rfl))) (by decide) (backOf (W := 1) (rm1 l Z a0 hw [] b11 b10 i4 i5 (0 : Int64) (0 : Int64) (0 : Int64) (0 : Int64) .null (.int (0 : Int32)) (.int (0 : Int32)) (.long (0 : Int64)) (.long (0 : Int64)) (.long (0 : Int64)) (.long (0 : Int64)) h11 n0 Z011 A11 F11_name fr11 F11_flags F11_method F11_crc F11_compressedSize F11_size F11_localHeaderOffset) hZ (hw _ (List.mem_of_getElem? (i := 6) rfl)) (hw _ (List.mem_of_getElem? (i := 3) rfl)) (by decide) (by decide)) (g := (mkF m 60 #[.val (.int i0), .val (.int i1), .val (.int i2), .val (.int i3), .val (.int i4), .val (.int i5), .val (.int (0 : Int32)), .val (.ref b10), .unset, .unset] [(.long (0 : Int64)), (.long (0 : Int64)), (.long (0 : Int64)), (.long (0 : Int64)), (.int i5), (.int i4), (.ref b10), (.ref b11), (.ref b11)])) rfl (by rw [hml]; rfl) (Steps.refl _) (a := b11) (argsL := [(.ref b10), (.int i4), (.int i5), (.long (0 : Int64)), (.long (0 : Int64)), (.long (0 : Int64)), (.long (0 : Int64))]) (rest := [(.ref b11)]) (lenOf pdm_0 rfl) rfl (by show 2 * 0 + _ ≤ _; exact Nat.le_of_eq rfl) (hb hby at_60) (fun _ _ => ⟨rfl, e11, (show cells + 1 + 1 + 0 ≤ 16 from (Nat.le_trans (Nat.add_le_add_right hc 2) (by decide))), (show slots + 0 + 7 + 0 ≤ 128 from (Nat.le_trans (Nat.add_le_add_right hs 7) (by decide)))⟩)
    dsimp only [Pt.U, Pt.locs, Pt.cells, Pt.slots] at X12 l12 y12 z12 st12 hQ12
    have yy12 : k12 = cells + 1 + 1 + 0 := y12
    have zz12 : n12 = slots + 0 + 7 + 0 := z12
    rw [yy12, zz12] at X12
    subst l12
    obtain ⟨rfl, N12q, K12, Ex12, F12_name, F12_flags, F12_method, F12_crc, F12_compressedSize, F12_size, F12_localHeaderOffset⟩ := hQ12
    have N12 := Fr.app N N12q
    have Z012 : n0 ≤ T12.heap.size := Nat.le_trans Z011 K12.1
    have V12_b10 := own_AFkeep V11_b10 K12 (ninS neb10_11 nin0)
    refine own_step (fun t k => st12.trans k) ?_
    show own_Fin p e below s Q 16 128 (T12.setTop (mkF m 63 #[.val (.int i0), .val (.int i1), .val (.int i2), .val (.int i3), .val (.int i4), .val (.int i5), .val (.int (0 : Int32)), .val (.ref b10), .unset, .unset] [(.ref b11)]))
    refine own_step (fun t k => XS.astore X12.here hx rfl (hb hby at_63) rfl rfl (l' := #[.val (.int i0), .val (.int i1), .val (.int i2), .val (.int i3), .val (.int i4), .val (.int i5), .val (.int (0 : Int32)), .val (.ref b10), .val (.ref b11), .unset]) rfl k) ?_
    show own_Fin p e below s Q 16 128 (T12.setTop (mkF m 65 #[.val (.int i0), .val (.int i1), .val (.int i2), .val (.int i3), .val (.int i4), .val (.int i5), .val (.int (0 : Int32)), .val (.ref b10), .val (.ref b11), .unset] []))
    refine own_step (fun t k => XS.iload X12.here hx rfl (hb hby at_65) rfl  k) ?_
    show own_Fin p e below s Q 16 128 (T12.setTop (mkF m 67 #[.val (.int i0), .val (.int i1), .val (.int i2), .val (.int i3), .val (.int i4), .val (.int i5), .val (.int (0 : Int32)), .val (.ref b10), .val (.ref b11), .unset] [(.int (0 : Int32))]))
    refine own_step (fun t k => XS.ifNo X12.here hx rfl (hb hby at_67) rfl ((if0 _ _).trans (teq (by decide : (0 : Int32) = (0 : Int32))).2) k) ?_
    show own_Fin p e below s Q 16 128 (T12.setTop (mkF m 70 #[.val (.int i0), .val (.int i1), .val (.int i2), .val (.int i3), .val (.int i4), .val (.int i5), .val (.int (0 : Int32)), .val (.ref b10), .val (.ref b11), .unset] []))
    refine own_step (fun t k => XS.iconst X12.here hx rfl (hb hby at_70) k) ?_
    show own_Fin p e below s Q 16 128 (T12.setTop (mkF m 71 #[.val (.int i0), .val (.int i1), .val (.int i2), .val (.int i3), .val (.int i4), .val (.int i5), .val (.int (0 : Int32)), .val (.ref b10), .val (.ref b11), .unset] [(.int (0 : Int32))]))
    refine own_step (fun t k => XS.istore X12.here hx rfl (hb hby at_71) rfl (l' := #[.val (.int i0), .val (.int i1), .val (.int i2), .val (.int i3), .val (.int i4), .val (.int i5), .val (.int (0 : Int32)), .val (.ref b10), .val (.ref b11), .val (.int (0 : Int32))]) rfl k) ?_
    show own_Fin p e below s Q 16 128 (T12.setTop (mkF m 73 #[.val (.int i0), .val (.int i1), .val (.int i2), .val (.int i3), .val (.int i4), .val (.int i5), .val (.int (0 : Int32)), .val (.ref b10), .val (.ref b11), .val (.int (0 : Int32))] []))
    refine own_step (fun t k => XS.goto X12.here hx rfl (pc0 := 73) (pc' := 136) rfl (hb hby at_73) (by decide) (by decide) k) ?_
    show own_Fin p e below s Q 16 128 (T12.setTop (mkF m 136 #[.val (.int i0), .val (.int i1), .val (.int i2), .val (.int i3), .val (.int i4), .val (.int i5), .val (.int (0 : Int32)), .val (.ref b10), .val (.ref b11), .val (.int (0 : Int32))] []))
    refine own_step (fun t k => XS.aload X12.here hx rfl (hb hby at_136) rfl rfl k) ?_
    show own_Fin p e below s Q 16 128 (T12.setTop (mkF m 138 #[.val (.int i0), .val (.int i1), .val (.int i2), .val (.int i3), .val (.int i4), .val (.int i5), .val (.int (0 : Int32)), .val (.ref b10), .val (.ref b11), .val (.int (0 : Int32))] [(.ref b11)]))
    obtain ⟨cq13, kq13, q13a, q13b, q13c⟩ := isOf hZ rfl Ex12
    obtain ⟨_, _, ⟨T13, L13, k13, n13⟩, -, X13, ⟨Lc13, hQ13, l13, y13, z13⟩, st13⟩ := X12.virtualBack hx (y := (⟨"com/example/endorse/endorse/ArchiveEntry", "isDirectory", "()Z"⟩ : MethodName)) (z := (⟨"com/example/endorse/endorse/ArchiveEntry", "isDirectory", "()Z"⟩ : MethodName)) hown (mvT hZ (hw _ (List.mem_of_getElem? (i := 24) rfl))) (mvT hZ (hw _ (List.mem_of_getElem? (i := 25) rfl))) (notFace_of_selects (args := #[]) (mvT hZ (hw _ (List.mem_of_getElem? (i := 27) rfl)))) (mvT hZ (hw _ (List.mem_of_getElem? (i := 27) rfl))) (mvT hZ (hw _ (List.mem_of_getElem? (i := 26) rfl))) (by decide) (backOf (W := 0) (rm3 l Z a0 hw [] b11 b10 (fun _ => 0) 0 T12.heap n0 F12_name V12_b10 (by decide)) hZ (hw _ (List.mem_of_getElem? (i := 28) rfl)) (hw _ (List.mem_of_getElem? (i := 3) rfl)) (by decide) (by decide)) q13a q13c (g := (mkF m 138 #[.val (.int i0), .val (.int i1), .val (.int i2), .val (.int i3), .val (.int i4), .val (.int i5), .val (.int (0 : Int32)), .val (.ref b10), .val (.ref b11), .val (.int (0 : Int32))] [(.ref b11)])) rfl (by rw [hml]; rfl) (Steps.refl _) (argsL := []) (rest := []) (lenOf pdm_1 rfl) rfl (by show 2 * 0 + _ ≤ _; exact Nat.le_of_eq rfl) (hb hby at_138) (fun _ _ => ⟨rfl, rfl, (show cells + 1 + 1 + 0 + 0 ≤ 16 from (Nat.le_trans (Nat.add_le_add_right hc 2) (by decide))), (show slots + 0 + 7 + 0 + 0 ≤ 128 from (Nat.le_trans (Nat.add_le_add_right hs 7) (by decide)))⟩)
    dsimp only [Pt.U, Pt.locs, Pt.cells, Pt.slots] at X13 l13 y13 z13 st13 hQ13
    have yy13 : k13 = cells + 1 + 1 + 0 + 0 := y13
    have zz13 : n13 = slots + 0 + 7 + 0 + 0 := z13
    rw [yy13, zz13] at X13
    subst l13
    obtain ⟨rfl, N13q, e13⟩ := hQ13
    have N13 := Fr.app N12 N13q
    refine own_step (fun t k => st13.trans k) ?_
    show own_Fin p e below s Q 16 128 (T13.setTop (mkF m 141 #[.val (.int i0), .val (.int i1), .val (.int i2), .val (.int i3), .val (.int i4), .val (.int i5), .val (.int (0 : Int32)), .val (.ref b10), .val (.ref b11), .val (.int (0 : Int32))] [(.int (f3_0 (fun _ => 0) 0))]))
    refine own_step (fun t k => XS.iload X13.here hx rfl (hb hby at_141) rfl  k) ?_
    show own_Fin p e below s Q 16 128 (T13.setTop (mkF m 143 #[.val (.int i0), .val (.int i1), .val (.int i2), .val (.int i3), .val (.int i4), .val (.int i5), .val (.int (0 : Int32)), .val (.ref b10), .val (.ref b11), .val (.int (0 : Int32))] [(.int (0 : Int32)), (.int (f3_0 (fun _ => 0) 0))]))
    refine own_step (fun t k => XS.icmpNo X13.here hx rfl (hb hby at_143) rfl (teq (own_dir0 _)).2 k) ?_
    show own_Fin p e below s Q 16 128 (T13.setTop (mkF m 146 #[.val (.int i0), .val (.int i1), .val (.int i2), .val (.int i3), .val (.int i4), .val (.int i5), .val (.int (0 : Int32)), .val (.ref b10), .val (.ref b11), .val (.int (0 : Int32))] []))
    refine own_step (fun t k => XS.iconst X13.here hx rfl (hb hby at_146) k) ?_
    show own_Fin p e below s Q 16 128 (T13.setTop (mkF m 147 #[.val (.int i0), .val (.int i1), .val (.int i2), .val (.int i3), .val (.int i4), .val (.int i5), .val (.int (0 : Int32)), .val (.ref b10), .val (.ref b11), .val (.int (0 : Int32))] [(.int (1 : Int32))]))
    refine own_step (fun t k => XS.goto X13.here hx rfl (pc0 := 147) (pc' := 151) rfl (hb hby at_147) (by decide) (by decide) k) ?_
    show own_Fin p e below s Q 16 128 (T13.setTop (mkF m 151 #[.val (.int i0), .val (.int i1), .val (.int i2), .val (.int i3), .val (.int i4), .val (.int i5), .val (.int (0 : Int32)), .val (.ref b10), .val (.ref b11), .val (.int (0 : Int32))] [(.int (1 : Int32))]))
    exact own_retN X13 hx hlk hret (by simp) (hb hby at_151) (Nat.le_trans (Nat.add_le_add_right hc 2) (by decide)) (Nat.le_trans (Nat.add_le_add_right hs 7) (by decide)) rfl N13 (fun L' n' => hQ _ L' n') (rfl)
  · skip
    refine own_step (fun t k => XS.iload X.here hx rfl (hb hby at_5) rfl  k) ?_
    show own_Fin p e below s Q 16 128 (T.setTop (mkF m 7 #[.val (.int i0), .val (.int i1), .val (.int i2), .val (.int i3), .val (.int i4), .val (.int i5), .val (.int (1 : Int32)), .unset, .unset, .unset] [(.int (1 : Int32))]))
    obtain ⟨T14, h14, k14, X14, e14, E14, AA14, st14⟩ := newP X hx hZ (hw _ (List.mem_of_getElem? (i := 0) rfl)) eT (g := (mkF m 7 #[.val (.int i0), .val (.int i1), .val (.int i2), .val (.int i3), .val (.int i4), .val (.int i5), .val (.int (1 : Int32)), .unset, .unset, .unset] [(.int (1 : Int32))])) rfl (hb hby at_7) rfl (by decide) (cap := 1) (by decide) (by decide) (show cells + 1 ≤ 16 from (Nat.le_trans (Nat.add_le_add_right hc 1) (by decide))) (show slots + 1 ≤ 128 from (Nat.le_trans (Nat.add_le_add_right hs 1) (by decide)))
    obtain ⟨b14, gg14⟩ : ∃ z, z = h.size := ⟨_, rfl⟩
    rw [← gg14] at AA14 st14
    have V14 : own_AF Z h14 b14 .byte 1 (fun _ => 0) := own_AFnew AA14 (by decide)
    have fr14 : n0 ≤ b14 := Nat.le_trans Z0 (Nat.le_of_eq gg14.symm)
    have Z014 : n0 ≤ h14.size := Nat.le_trans Z0 E14.1
    refine own_step st14 ?_
    show own_Fin p e below s Q 16 128 (T14.setTop (mkF m 9 #[.val (.int i0), .val (.int i1), .val (.int i2), .val (.int i3), .val (.int i4), .val (.int i5), .val (.int (1 : Int32)), .unset, .unset, .unset] [(.ref b14)]))
    refine own_step (fun t k => XS.astore X14.here hx rfl (hb hby at_9) rfl rfl (l' := #[.val (.int i0), .val (.int i1), .val (.int i2), .val (.int i3), .val (.int i4), .val (.int i5), .val (.int (1 : Int32)), .val (.ref b14), .unset, .unset]) rfl k) ?_
    show own_Fin p e below s Q 16 128 (T14.setTop (mkF m 11 #[.val (.int i0), .val (.int i1), .val (.int i2), .val (.int i3), .val (.int i4), .val (.int i5), .val (.int (1 : Int32)), .val (.ref b14), .unset, .unset] []))
    refine own_step (fun t k => XS.iload X14.here hx rfl (hb hby at_11) rfl  k) ?_
    show own_Fin p e below s Q 16 128 (T14.setTop (mkF m 13 #[.val (.int i0), .val (.int i1), .val (.int i2), .val (.int i3), .val (.int i4), .val (.int i5), .val (.int (1 : Int32)), .val (.ref b14), .unset, .unset] [(.int (1 : Int32))]))
    refine own_step (fun t k => XS.ifNo X14.here hx rfl (hb hby at_13) rfl ((if0 _ _).trans (tlt (by decide : (0 : Int32) < (1 : Int32))).2.2.2) k) ?_
    show own_Fin p e below s Q 16 128 (T14.setTop (mkF m 16 #[.val (.int i0), .val (.int i1), .val (.int i2), .val (.int i3), .val (.int i4), .val (.int i5), .val (.int (1 : Int32)), .val (.ref b14), .unset, .unset] []))
    refine own_step (fun t k => XS.aload X14.here hx rfl (hb hby at_16) rfl rfl k) ?_
    show own_Fin p e below s Q 16 128 (T14.setTop (mkF m 18 #[.val (.int i0), .val (.int i1), .val (.int i2), .val (.int i3), .val (.int i4), .val (.int i5), .val (.int (1 : Int32)), .val (.ref b14), .unset, .unset] [(.ref b14)]))
    refine own_step (fun t k => XS.iconst X14.here hx rfl (hb hby at_18) k) ?_
    show own_Fin p e below s Q 16 128 (T14.setTop (mkF m 19 #[.val (.int i0), .val (.int i1), .val (.int i2), .val (.int i3), .val (.int i4), .val (.int i5), .val (.int (1 : Int32)), .val (.ref b14), .unset, .unset] [(.int (0 : Int32)), (.ref b14)]))
    refine own_step (fun t k => XS.iloadN X14.here hx rfl (hb hby at_19) rfl  k) ?_
    show own_Fin p e below s Q 16 128 (T14.setTop (mkF m 20 #[.val (.int i0), .val (.int i1), .val (.int i2), .val (.int i3), .val (.int i4), .val (.int i5), .val (.int (1 : Int32)), .val (.ref b14), .unset, .unset] [(.int i1), (.int (0 : Int32)), (.ref b14)]))
    refine own_step (fun t k => XS.i2b X14.here hx rfl (hb hby at_20) rfl k) ?_
    show own_Fin p e below s Q 16 128 (T14.setTop (mkF m 21 #[.val (.int i0), .val (.int i1), .val (.int i2), .val (.int i3), .val (.int i4), .val (.int i5), .val (.int (1 : Int32)), .val (.ref b14), .unset, .unset] [(.int (i1.toInt8.toInt32)), (.int (0 : Int32)), (.ref b14)]))
    obtain ⟨ca15, Ar15, Sz15, Ht15⟩ := id V14
    have hin15 : ¬ ((0 : Int32) < 0 ∨ ca15.slots.size ≤ ((0 : Int32)).toNatClampNeg) := by rw [Sz15]; exact (by decide)
    obtain ⟨T15, h15, X15, e15, W15, st15⟩ := stB X14 hx hZ e14 Ar15 (j := (0 : Int32)) hin15 (g := (mkF m 21 #[.val (.int i0), .val (.int i1), .val (.int i2), .val (.int i3), .val (.int i4), .val (.int i5), .val (.int (1 : Int32)), .val (.ref b14), .unset, .unset] [(.int (i1.toInt8.toInt32)), (.int (0 : Int32)), (.ref b14)])) rfl rfl (hb hby at_21)
    have V15 : own_AF Z h15 b14 .byte 1 (fun i => if i = 0 then (nar .byte (i1.toInt8.toInt32)) else (fun _ => 0) i) := own_AFset Ar15 Sz15 Ht15 W15
    obtain ⟨gf15, hgf15⟩ : ∃ g' : Nat → Int32, g' = (fun i => if i = 0 then (nar .byte (i1.toInt8.toInt32)) else (fun _ => 0) i) := ⟨_, rfl⟩
    rw [← hgf15] at V15
    have N15 := Fr.snoc X15 N fr14
    have Z015 : n0 ≤ h15.size := Nat.le_trans Z014 (Nat.le_of_eq W15.size.symm)
    refine own_step st15 ?_
    show own_Fin p e below s Q 16 128 (T15.setTop (mkF m 22 #[.val (.int i0), .val (.int i1), .val (.int i2), .val (.int i3), .val (.int i4), .val (.int i5), .val (.int (1 : Int32)), .val (.ref b14), .unset, .unset] []))
    refine own_step (fun t k => XS.iload X15.here hx rfl (hb hby at_22) rfl  k) ?_
    show own_Fin p e below s Q 16 128 (T15.setTop (mkF m 24 #[.val (.int i0), .val (.int i1), .val (.int i2), .val (.int i3), .val (.int i4), .val (.int i5), .val (.int (1 : Int32)), .val (.ref b14), .unset, .unset] [(.int (1 : Int32))]))
    refine own_step (fun t k => XS.iconst X15.here hx rfl (hb hby at_24) k) ?_
    show own_Fin p e below s Q 16 128 (T15.setTop (mkF m 25 #[.val (.int i0), .val (.int i1), .val (.int i2), .val (.int i3), .val (.int i4), .val (.int i5), .val (.int (1 : Int32)), .val (.ref b14), .unset, .unset] [(.int (1 : Int32)), (.int (1 : Int32))]))
    refine own_step (fun t k => XS.icmpYes X15.here hx rfl (pc0 := 25) (pc' := 34) rfl (hb hby at_25) rfl (flt (by decide : ¬ ((1 : Int32) < (1 : Int32)))).2.2.2 (by decide) (by decide) k) ?_
    show own_Fin p e below s Q 16 128 (T15.setTop (mkF m 34 #[.val (.int i0), .val (.int i1), .val (.int i2), .val (.int i3), .val (.int i4), .val (.int i5), .val (.int (1 : Int32)), .val (.ref b14), .unset, .unset] []))
    refine own_step (fun t k => XS.iload X15.here hx rfl (hb hby at_34) rfl  k) ?_
    show own_Fin p e below s Q 16 128 (T15.setTop (mkF m 36 #[.val (.int i0), .val (.int i1), .val (.int i2), .val (.int i3), .val (.int i4), .val (.int i5), .val (.int (1 : Int32)), .val (.ref b14), .unset, .unset] [(.int (1 : Int32))]))
    refine own_step (fun t k => XS.iconst X15.here hx rfl (hb hby at_36) k) ?_
    show own_Fin p e below s Q 16 128 (T15.setTop (mkF m 37 #[.val (.int i0), .val (.int i1), .val (.int i2), .val (.int i3), .val (.int i4), .val (.int i5), .val (.int (1 : Int32)), .val (.ref b14), .unset, .unset] [(.int (2 : Int32)), (.int (1 : Int32))]))
    refine own_step (fun t k => XS.icmpYes X15.here hx rfl (pc0 := 37) (pc' := 46) rfl (hb hby at_37) rfl (flt (by decide : ¬ ((2 : Int32) < (1 : Int32)))).2.2.2 (by decide) (by decide) k) ?_
    show own_Fin p e below s Q 16 128 (T15.setTop (mkF m 46 #[.val (.int i0), .val (.int i1), .val (.int i2), .val (.int i3), .val (.int i4), .val (.int i5), .val (.int (1 : Int32)), .val (.ref b14), .unset, .unset] []))
    obtain ⟨T16, h16, X16, e16, E16, A16, D16, -, st16⟩ := newO X15 hx hZ hown (hw _ (List.mem_of_getElem? (i := 1) rfl)) (hw _ (List.mem_of_getElem? (i := 2) rfl)) (hw _ (List.mem_of_getElem? (i := 3) rfl)) e15 (g := (mkF m 46 #[.val (.int i0), .val (.int i1), .val (.int i2), .val (.int i3), .val (.int i4), .val (.int i5), .val (.int (1 : Int32)), .val (.ref b14), .unset, .unset] [])) rfl (hb hby at_46) (show cells + 1 + 1 ≤ 16 from (Nat.le_trans (Nat.add_le_add_right hc 2) (by decide))) (show slots + 1 + 7 ≤ 128 from (Nat.le_trans (Nat.add_le_add_right hs 8) (by decide)))
    obtain ⟨b16, gg16⟩ : ∃ z, z = h15.size := ⟨_, rfl⟩
    rw [← gg16] at A16 D16 st16
    have F16_name : Fld Z h16 b16 "com/example/endorse/endorse/ArchiveEntry" "name" "[B" .null := D16 (Or.inr (hw _ (List.mem_of_getElem? (i := 11) rfl))) (ty := (.array .byte)) (by decide)
    have F16_flags : Fld Z h16 b16 "com/example/endorse/endorse/ArchiveEntry" "flags" "I" (.int (0 : Int32)) := D16 (Or.inr (hw _ (List.mem_of_getElem? (i := 13) rfl))) (ty := .int) (by decide)
    have F16_method : Fld Z h16 b16 "com/example/endorse/endorse/ArchiveEntry" "method" "I" (.int (0 : Int32)) := D16 (Or.inr (hw _ (List.mem_of_getElem? (i := 15) rfl))) (ty := .int) (by decide)
    have F16_crc : Fld Z h16 b16 "com/example/endorse/endorse/ArchiveEntry" "crc" "J" (.long (0 : Int64)) := D16 (Or.inr (hw _ (List.mem_of_getElem? (i := 17) rfl))) (ty := .long) (by decide)
    have F16_compressedSize : Fld Z h16 b16 "com/example/endorse/endorse/ArchiveEntry" "compressedSize" "J" (.long (0 : Int64)) := D16 (Or.inr (hw _ (List.mem_of_getElem? (i := 19) rfl))) (ty := .long) (by decide)
    have F16_size : Fld Z h16 b16 "com/example/endorse/endorse/ArchiveEntry" "size" "J" (.long (0 : Int64)) := D16 (Or.inr (hw _ (List.mem_of_getElem? (i := 21) rfl))) (ty := .long) (by decide)
    have F16_localHeaderOffset : Fld Z h16 b16 "com/example/endorse/endorse/ArchiveEntry" "localHeaderOffset" "J" (.long (0 : Int64)) := D16 (Or.inr (hw _ (List.mem_of_getElem? (i := 23) rfl))) (ty := .long) (by decide)
    have fr16 : n0 ≤ b16 := Nat.le_trans Z015 (Nat.le_of_eq gg16.symm)
    have Z016 : n0 ≤ h16.size := Nat.le_trans Z015 E16.1
    have neb14_16 : b14 ≠ b16 := Nat.ne_of_lt (Nat.lt_of_lt_of_le V15.lt (Nat.le_of_eq gg16.symm))
    have V16_b14 := own_AFext V15 E16
    refine own_step st16 ?_
    show own_Fin p e below s Q 16 128 (T16.setTop (mkF m 49 #[.val (.int i0), .val (.int i1), .val (.int i2), .val (.int i3), .val (.int i4), .val (.int i5), .val (.int (1 : Int32)), .val (.ref b14), .unset, .unset] [(.ref b16)]))
    refine own_step (fun t k => XS.dup X16.here hx rfl (hb hby at_49) rfl rfl k) ?_
    show own_Fin p e below s Q 16 128 (T16.setTop (mkF m 50 #[.val (.int i0), .val (.int i1), .val (.int i2), .val (.int i3), .val (.int i4), .val (.int i5), .val (.int (1 : Int32)), .val (.ref b14), .unset, .unset] [(.ref b16), (.ref b16)]))
    refine own_step (fun t k => XS.aload X16.here hx rfl (hb hby at_50) rfl rfl k) ?_
    show own_Fin p e below s Q 16 128 (T16.setTop (mkF m 52 #[.val (.int i0), .val (.int i1), .val (.int i2), .val (.int i3), .val (.int i4), .val (.int i5), .val (.int (1 : Int32)), .val (.ref b14), .unset, .unset] [(.ref b14), (.ref b16), (.ref b16)]))
    refine own_step (fun t k => XS.iload X16.here hx rfl (hb hby at_52) rfl  k) ?_
    show own_Fin p e below s Q 16 128 (T16.setTop (mkF m 54 #[.val (.int i0), .val (.int i1), .val (.int i2), .val (.int i3), .val (.int i4), .val (.int i5), .val (.int (1 : Int32)), .val (.ref b14), .unset, .unset] [(.int i4), (.ref b14), (.ref b16), (.ref b16)]))
    refine own_step (fun t k => XS.iload X16.here hx rfl (hb hby at_54) rfl  k) ?_
    show own_Fin p e below s Q 16 128 (T16.setTop (mkF m 56 #[.val (.int i0), .val (.int i1), .val (.int i2), .val (.int i3), .val (.int i4), .val (.int i5), .val (.int (1 : Int32)), .val (.ref b14), .unset, .unset] [(.int i5), (.int i4), (.ref b14), (.ref b16), (.ref b16)]))
    refine own_step (fun t k => XS.lconst X16.here hx rfl (hb hby at_56) k) ?_
    show own_Fin p e below s Q 16 128 (T16.setTop (mkF m 57 #[.val (.int i0), .val (.int i1), .val (.int i2), .val (.int i3), .val (.int i4), .val (.int i5), .val (.int (1 : Int32)), .val (.ref b14), .unset, .unset] [(.long (0 : Int64)), (.int i5), (.int i4), (.ref b14), (.ref b16), (.ref b16)]))
    refine own_step (fun t k => XS.lconst X16.here hx rfl (hb hby at_57) k) ?_
    show own_Fin p e below s Q 16 128 (T16.setTop (mkF m 58 #[.val (.int i0), .val (.int i1), .val (.int i2), .val (.int i3), .val (.int i4), .val (.int i5), .val (.int (1 : Int32)), .val (.ref b14), .unset, .unset] [(.long (0 : Int64)), (.long (0 : Int64)), (.int i5), (.int i4), (.ref b14), (.ref b16), (.ref b16)]))
    refine own_step (fun t k => XS.lconst X16.here hx rfl (hb hby at_58) k) ?_
    show own_Fin p e below s Q 16 128 (T16.setTop (mkF m 59 #[.val (.int i0), .val (.int i1), .val (.int i2), .val (.int i3), .val (.int i4), .val (.int i5), .val (.int (1 : Int32)), .val (.ref b14), .unset, .unset] [(.long (0 : Int64)), (.long (0 : Int64)), (.long (0 : Int64)), (.int i5), (.int i4), (.ref b14), (.ref b16), (.ref b16)]))
    refine own_step (fun t k => XS.lconst X16.here hx rfl (hb hby at_59) k) ?_
    show own_Fin p e below s Q 16 128 (T16.setTop (mkF m 60 #[.val (.int i0), .val (.int i1), .val (.int i2), .val (.int i3), .val (.int i4), .val (.int i5), .val (.int (1 : Int32)), .val (.ref b14), .unset, .unset] [(.long (0 : Int64)), (.long (0 : Int64)), (.long (0 : Int64)), (.long (0 : Int64)), (.int i5), (.int i4), (.ref b14), (.ref b16), (.ref b16)]))
    obtain ⟨_, _, ⟨T17, L17, k17, n17⟩, -, X17, ⟨Lc17, hQ17, l17, y17, z17⟩, st17⟩ := X16.specialBack hx (y := (⟨"com/example/endorse/endorse/ArchiveEntry", "<init>", "([BIIJJJJ)V"⟩ : MethodName)) rfl hown (mvT hZ (hw _ (List.mem_of_getElem? (i := 4) rfl))) (mvT hZ (hw _ (List.mem_of_getElem? (i := 5) rfl))) (mvT hZ (hw _ (List.mem_of_getElem? (i := 6) rfl))) (by decide) (backOf (W := 1) (rm1 l Z a0 hw [] b16 b14 i4 i5 (0 : Int64) (0 : Int64) (0 : Int64) (0 : Int64) .null (.int (0 : Int32)) (.int (0 : Int32)) (.long (0 : Int64)) (.long (0 : Int64)) (.long (0 : Int64)) (.long (0 : Int64)) h16 n0 Z016 A16 F16_name fr16 F16_flags F16_method F16_crc F16_compressedSize F16_size F16_localHeaderOffset) hZ (hw _ (List.mem_of_getElem? (i := 6) rfl)) (hw _ (List.mem_of_getElem? (i := 3) rfl)) (by decide) (by decide)) (g := (mkF m 60 #[.val (.int i0), .val (.int i1), .val (.int i2), .val (.int i3), .val (.int i4), .val (.int i5), .val (.int (1 : Int32)), .val (.ref b14), .unset, .unset] [(.long (0 : Int64)), (.long (0 : Int64)), (.long (0 : Int64)), (.long (0 : Int64)), (.int i5), (.int i4), (.ref b14), (.ref b16), (.ref b16)])) rfl (by rw [hml]; rfl) (Steps.refl _) (a := b16) (argsL := [(.ref b14), (.int i4), (.int i5), (.long (0 : Int64)), (.long (0 : Int64)), (.long (0 : Int64)), (.long (0 : Int64))]) (rest := [(.ref b16)]) (lenOf pdm_0 rfl) rfl (by show 2 * 0 + _ ≤ _; exact Nat.le_of_eq rfl) (hb hby at_60) (fun _ _ => ⟨rfl, e16, (show cells + 1 + 1 + 0 ≤ 16 from (Nat.le_trans (Nat.add_le_add_right hc 2) (by decide))), (show slots + 1 + 7 + 0 ≤ 128 from (Nat.le_trans (Nat.add_le_add_right hs 8) (by decide)))⟩)
    dsimp only [Pt.U, Pt.locs, Pt.cells, Pt.slots] at X17 l17 y17 z17 st17 hQ17
    have yy17 : k17 = cells + 1 + 1 + 0 := y17
    have zz17 : n17 = slots + 1 + 7 + 0 := z17
    rw [yy17, zz17] at X17
    subst l17
    obtain ⟨rfl, N17q, K17, Ex17, F17_name, F17_flags, F17_method, F17_crc, F17_compressedSize, F17_size, F17_localHeaderOffset⟩ := hQ17
    have N17 := Fr.app N15 N17q
    have Z017 : n0 ≤ T17.heap.size := Nat.le_trans Z016 K17.1
    have V17_b14 := own_AFkeep V16_b14 K17 (ninS neb14_16 nin0)
    refine own_step (fun t k => st17.trans k) ?_
    show own_Fin p e below s Q 16 128 (T17.setTop (mkF m 63 #[.val (.int i0), .val (.int i1), .val (.int i2), .val (.int i3), .val (.int i4), .val (.int i5), .val (.int (1 : Int32)), .val (.ref b14), .unset, .unset] [(.ref b16)]))
    refine own_step (fun t k => XS.astore X17.here hx rfl (hb hby at_63) rfl rfl (l' := #[.val (.int i0), .val (.int i1), .val (.int i2), .val (.int i3), .val (.int i4), .val (.int i5), .val (.int (1 : Int32)), .val (.ref b14), .val (.ref b16), .unset]) rfl k) ?_
    show own_Fin p e below s Q 16 128 (T17.setTop (mkF m 65 #[.val (.int i0), .val (.int i1), .val (.int i2), .val (.int i3), .val (.int i4), .val (.int i5), .val (.int (1 : Int32)), .val (.ref b14), .val (.ref b16), .unset] []))
    refine own_step (fun t k => XS.iload X17.here hx rfl (hb hby at_65) rfl  k) ?_
    show own_Fin p e below s Q 16 128 (T17.setTop (mkF m 67 #[.val (.int i0), .val (.int i1), .val (.int i2), .val (.int i3), .val (.int i4), .val (.int i5), .val (.int (1 : Int32)), .val (.ref b14), .val (.ref b16), .unset] [(.int (1 : Int32))]))
    refine own_step (fun t k => XS.ifYes X17.here hx rfl (pc0 := 67) (pc' := 76) rfl (hb hby at_67) rfl ((if0 _ _).trans (feq (by decide : ¬ ((1 : Int32) = (0 : Int32)))).2) (by decide) (by decide) k) ?_
    show own_Fin p e below s Q 16 128 (T17.setTop (mkF m 76 #[.val (.int i0), .val (.int i1), .val (.int i2), .val (.int i3), .val (.int i4), .val (.int i5), .val (.int (1 : Int32)), .val (.ref b14), .val (.ref b16), .unset] []))
    refine own_step (fun t k => XS.iload X17.here hx rfl (hb hby at_76) rfl  k) ?_
    show own_Fin p e below s Q 16 128 (T17.setTop (mkF m 78 #[.val (.int i0), .val (.int i1), .val (.int i2), .val (.int i3), .val (.int i4), .val (.int i5), .val (.int (1 : Int32)), .val (.ref b14), .val (.ref b16), .unset] [(.int (1 : Int32))]))
    refine own_step (fun t k => XS.iconst X17.here hx rfl (hb hby at_78) k) ?_
    show own_Fin p e below s Q 16 128 (T17.setTop (mkF m 79 #[.val (.int i0), .val (.int i1), .val (.int i2), .val (.int i3), .val (.int i4), .val (.int i5), .val (.int (1 : Int32)), .val (.ref b14), .val (.ref b16), .unset] [(.int (1 : Int32)), (.int (1 : Int32))]))
    refine own_step (fun t k => XS.icmpNo X17.here hx rfl (hb hby at_79) rfl (teq (by decide : (1 : Int32) = (1 : Int32))).2 k) ?_
    show own_Fin p e below s Q 16 128 (T17.setTop (mkF m 82 #[.val (.int i0), .val (.int i1), .val (.int i2), .val (.int i3), .val (.int i4), .val (.int i5), .val (.int (1 : Int32)), .val (.ref b14), .val (.ref b16), .unset] []))
    refine own_step (fun t k => XS.iloadN X17.here hx rfl (hb hby at_82) rfl  k) ?_
    show own_Fin p e below s Q 16 128 (T17.setTop (mkF m 83 #[.val (.int i0), .val (.int i1), .val (.int i2), .val (.int i3), .val (.int i4), .val (.int i5), .val (.int (1 : Int32)), .val (.ref b14), .val (.ref b16), .unset] [(.int i1)]))
    refine own_step (fun t k => XS.i2b X17.here hx rfl (hb hby at_83) rfl k) ?_
    show own_Fin p e below s Q 16 128 (T17.setTop (mkF m 84 #[.val (.int i0), .val (.int i1), .val (.int i2), .val (.int i3), .val (.int i4), .val (.int i5), .val (.int (1 : Int32)), .val (.ref b14), .val (.ref b16), .unset] [(.int (i1.toInt8.toInt32))]))
    refine own_step (fun t k => XS.bipush X17.here hx rfl (hb hby at_84) k) ?_
    show own_Fin p e below s Q 16 128 (T17.setTop (mkF m 86 #[.val (.int i0), .val (.int i1), .val (.int i2), .val (.int i3), .val (.int i4), .val (.int i5), .val (.int (1 : Int32)), .val (.ref b14), .val (.ref b16), .unset] [(.int (47 : Int32)), (.int (i1.toInt8.toInt32))]))
    by_cases hB86_18 : (i1.toInt8.toInt32) = (47 : Int32)
    · refine own_step (fun t k => XS.icmpNo X17.here hx rfl (hb hby at_86) rfl (teq hB86_18).2 k) ?_
      show own_Fin p e below s Q 16 128 (T17.setTop (mkF m 89 #[.val (.int i0), .val (.int i1), .val (.int i2), .val (.int i3), .val (.int i4), .val (.int i5), .val (.int (1 : Int32)), .val (.ref b14), .val (.ref b16), .unset] []))
      refine own_step (fun t k => XS.iconst X17.here hx rfl (hb hby at_89) k) ?_
      show own_Fin p e below s Q 16 128 (T17.setTop (mkF m 90 #[.val (.int i0), .val (.int i1), .val (.int i2), .val (.int i3), .val (.int i4), .val (.int i5), .val (.int (1 : Int32)), .val (.ref b14), .val (.ref b16), .unset] [(.int (1 : Int32))]))
      refine own_step (fun t k => XS.goto X17.here hx rfl (pc0 := 90) (pc' := 94) rfl (hb hby at_90) (by decide) (by decide) k) ?_
      show own_Fin p e below s Q 16 128 (T17.setTop (mkF m 94 #[.val (.int i0), .val (.int i1), .val (.int i2), .val (.int i3), .val (.int i4), .val (.int i5), .val (.int (1 : Int32)), .val (.ref b14), .val (.ref b16), .unset] [(.int (1 : Int32))]))
      refine own_step (fun t k => XS.istore X17.here hx rfl (hb hby at_94) rfl (l' := #[.val (.int i0), .val (.int i1), .val (.int i2), .val (.int i3), .val (.int i4), .val (.int i5), .val (.int (1 : Int32)), .val (.ref b14), .val (.ref b16), .val (.int (1 : Int32))]) rfl k) ?_
      show own_Fin p e below s Q 16 128 (T17.setTop (mkF m 96 #[.val (.int i0), .val (.int i1), .val (.int i2), .val (.int i3), .val (.int i4), .val (.int i5), .val (.int (1 : Int32)), .val (.ref b14), .val (.ref b16), .val (.int (1 : Int32))] []))
      refine own_step (fun t k => XS.goto X17.here hx rfl (pc0 := 96) (pc' := 136) rfl (hb hby at_96) (by decide) (by decide) k) ?_
      show own_Fin p e below s Q 16 128 (T17.setTop (mkF m 136 #[.val (.int i0), .val (.int i1), .val (.int i2), .val (.int i3), .val (.int i4), .val (.int i5), .val (.int (1 : Int32)), .val (.ref b14), .val (.ref b16), .val (.int (1 : Int32))] []))
      refine own_step (fun t k => XS.aload X17.here hx rfl (hb hby at_136) rfl rfl k) ?_
      show own_Fin p e below s Q 16 128 (T17.setTop (mkF m 138 #[.val (.int i0), .val (.int i1), .val (.int i2), .val (.int i3), .val (.int i4), .val (.int i5), .val (.int (1 : Int32)), .val (.ref b14), .val (.ref b16), .val (.int (1 : Int32))] [(.ref b16)]))
      obtain ⟨cq19, kq19, q19a, q19b, q19c⟩ := isOf hZ rfl Ex17
      obtain ⟨_, _, ⟨T19, L19, k19, n19⟩, -, X19, ⟨Lc19, hQ19, l19, y19, z19⟩, st19⟩ := X17.virtualBack hx (y := (⟨"com/example/endorse/endorse/ArchiveEntry", "isDirectory", "()Z"⟩ : MethodName)) (z := (⟨"com/example/endorse/endorse/ArchiveEntry", "isDirectory", "()Z"⟩ : MethodName)) hown (mvT hZ (hw _ (List.mem_of_getElem? (i := 24) rfl))) (mvT hZ (hw _ (List.mem_of_getElem? (i := 25) rfl))) (notFace_of_selects (args := #[]) (mvT hZ (hw _ (List.mem_of_getElem? (i := 27) rfl)))) (mvT hZ (hw _ (List.mem_of_getElem? (i := 27) rfl))) (mvT hZ (hw _ (List.mem_of_getElem? (i := 26) rfl))) (by decide) (backOf (W := 0) (rm3 l Z a0 hw [] b16 b14 gf15 1 T17.heap n0 F17_name V17_b14 (by decide)) hZ (hw _ (List.mem_of_getElem? (i := 28) rfl)) (hw _ (List.mem_of_getElem? (i := 3) rfl)) (by decide) (by decide)) q19a q19c (g := (mkF m 138 #[.val (.int i0), .val (.int i1), .val (.int i2), .val (.int i3), .val (.int i4), .val (.int i5), .val (.int (1 : Int32)), .val (.ref b14), .val (.ref b16), .val (.int (1 : Int32))] [(.ref b16)])) rfl (by rw [hml]; rfl) (Steps.refl _) (argsL := []) (rest := []) (lenOf pdm_1 rfl) rfl (by show 2 * 0 + _ ≤ _; exact Nat.le_of_eq rfl) (hb hby at_138) (fun _ _ => ⟨rfl, rfl, (show cells + 1 + 1 + 0 + 0 ≤ 16 from (Nat.le_trans (Nat.add_le_add_right hc 2) (by decide))), (show slots + 1 + 7 + 0 + 0 ≤ 128 from (Nat.le_trans (Nat.add_le_add_right hs 8) (by decide)))⟩)
      dsimp only [Pt.U, Pt.locs, Pt.cells, Pt.slots] at X19 l19 y19 z19 st19 hQ19
      have yy19 : k19 = cells + 1 + 1 + 0 + 0 := y19
      have zz19 : n19 = slots + 1 + 7 + 0 + 0 := z19
      rw [yy19, zz19] at X19
      subst l19
      obtain ⟨rfl, N19q, e19⟩ := hQ19
      have N19 := Fr.app N17 N19q
      refine own_step (fun t k => st19.trans k) ?_
      show own_Fin p e below s Q 16 128 (T19.setTop (mkF m 141 #[.val (.int i0), .val (.int i1), .val (.int i2), .val (.int i3), .val (.int i4), .val (.int i5), .val (.int (1 : Int32)), .val (.ref b14), .val (.ref b16), .val (.int (1 : Int32))] [(.int (f3_0 gf15 1))]))
      refine own_step (fun t k => XS.iload X19.here hx rfl (hb hby at_141) rfl  k) ?_
      show own_Fin p e below s Q 16 128 (T19.setTop (mkF m 143 #[.val (.int i0), .val (.int i1), .val (.int i2), .val (.int i3), .val (.int i4), .val (.int i5), .val (.int (1 : Int32)), .val (.ref b14), .val (.ref b16), .val (.int (1 : Int32))] [(.int (1 : Int32)), (.int (f3_0 gf15 1))]))
      refine own_step (fun t k => XS.icmpNo X19.here hx rfl (hb hby at_143) rfl (teq ((own_dir _ 0 1 i1 (by decide) (by decide) (by rw [hgf15]; rfl)).1 hB86_18)).2 k) ?_
      show own_Fin p e below s Q 16 128 (T19.setTop (mkF m 146 #[.val (.int i0), .val (.int i1), .val (.int i2), .val (.int i3), .val (.int i4), .val (.int i5), .val (.int (1 : Int32)), .val (.ref b14), .val (.ref b16), .val (.int (1 : Int32))] []))
      refine own_step (fun t k => XS.iconst X19.here hx rfl (hb hby at_146) k) ?_
      show own_Fin p e below s Q 16 128 (T19.setTop (mkF m 147 #[.val (.int i0), .val (.int i1), .val (.int i2), .val (.int i3), .val (.int i4), .val (.int i5), .val (.int (1 : Int32)), .val (.ref b14), .val (.ref b16), .val (.int (1 : Int32))] [(.int (1 : Int32))]))
      refine own_step (fun t k => XS.goto X19.here hx rfl (pc0 := 147) (pc' := 151) rfl (hb hby at_147) (by decide) (by decide) k) ?_
      show own_Fin p e below s Q 16 128 (T19.setTop (mkF m 151 #[.val (.int i0), .val (.int i1), .val (.int i2), .val (.int i3), .val (.int i4), .val (.int i5), .val (.int (1 : Int32)), .val (.ref b14), .val (.ref b16), .val (.int (1 : Int32))] [(.int (1 : Int32))]))
      exact own_retN X19 hx hlk hret (by simp) (hb hby at_151) (Nat.le_trans (Nat.add_le_add_right hc 2) (by decide)) (Nat.le_trans (Nat.add_le_add_right hs 8) (by decide)) rfl N19 (fun L' n' => hQ _ L' n') (rfl)
    · refine own_step (fun t k => XS.icmpYes X17.here hx rfl (pc0 := 86) (pc' := 93) rfl (hb hby at_86) rfl (feq hB86_18).2 (by decide) (by decide) k) ?_
      show own_Fin p e below s Q 16 128 (T17.setTop (mkF m 93 #[.val (.int i0), .val (.int i1), .val (.int i2), .val (.int i3), .val (.int i4), .val (.int i5), .val (.int (1 : Int32)), .val (.ref b14), .val (.ref b16), .unset] []))
      refine own_step (fun t k => XS.iconst X17.here hx rfl (hb hby at_93) k) ?_
      show own_Fin p e below s Q 16 128 (T17.setTop (mkF m 94 #[.val (.int i0), .val (.int i1), .val (.int i2), .val (.int i3), .val (.int i4), .val (.int i5), .val (.int (1 : Int32)), .val (.ref b14), .val (.ref b16), .unset] [(.int (0 : Int32))]))
      refine own_step (fun t k => XS.istore X17.here hx rfl (hb hby at_94) rfl (l' := #[.val (.int i0), .val (.int i1), .val (.int i2), .val (.int i3), .val (.int i4), .val (.int i5), .val (.int (1 : Int32)), .val (.ref b14), .val (.ref b16), .val (.int (0 : Int32))]) rfl k) ?_
      show own_Fin p e below s Q 16 128 (T17.setTop (mkF m 96 #[.val (.int i0), .val (.int i1), .val (.int i2), .val (.int i3), .val (.int i4), .val (.int i5), .val (.int (1 : Int32)), .val (.ref b14), .val (.ref b16), .val (.int (0 : Int32))] []))
      refine own_step (fun t k => XS.goto X17.here hx rfl (pc0 := 96) (pc' := 136) rfl (hb hby at_96) (by decide) (by decide) k) ?_
      show own_Fin p e below s Q 16 128 (T17.setTop (mkF m 136 #[.val (.int i0), .val (.int i1), .val (.int i2), .val (.int i3), .val (.int i4), .val (.int i5), .val (.int (1 : Int32)), .val (.ref b14), .val (.ref b16), .val (.int (0 : Int32))] []))
      refine own_step (fun t k => XS.aload X17.here hx rfl (hb hby at_136) rfl rfl k) ?_
      show own_Fin p e below s Q 16 128 (T17.setTop (mkF m 138 #[.val (.int i0), .val (.int i1), .val (.int i2), .val (.int i3), .val (.int i4), .val (.int i5), .val (.int (1 : Int32)), .val (.ref b14), .val (.ref b16), .val (.int (0 : Int32))] [(.ref b16)]))
      obtain ⟨cq20, kq20, q20a, q20b, q20c⟩ := isOf hZ rfl Ex17
      obtain ⟨_, _, ⟨T20, L20, k20, n20⟩, -, X20, ⟨Lc20, hQ20, l20, y20, z20⟩, st20⟩ := X17.virtualBack hx (y := (⟨"com/example/endorse/endorse/ArchiveEntry", "isDirectory", "()Z"⟩ : MethodName)) (z := (⟨"com/example/endorse/endorse/ArchiveEntry", "isDirectory", "()Z"⟩ : MethodName)) hown (mvT hZ (hw _ (List.mem_of_getElem? (i := 24) rfl))) (mvT hZ (hw _ (List.mem_of_getElem? (i := 25) rfl))) (notFace_of_selects (args := #[]) (mvT hZ (hw _ (List.mem_of_getElem? (i := 27) rfl)))) (mvT hZ (hw _ (List.mem_of_getElem? (i := 27) rfl))) (mvT hZ (hw _ (List.mem_of_getElem? (i := 26) rfl))) (by decide) (backOf (W := 0) (rm3 l Z a0 hw [] b16 b14 gf15 1 T17.heap n0 F17_name V17_b14 (by decide)) hZ (hw _ (List.mem_of_getElem? (i := 28) rfl)) (hw _ (List.mem_of_getElem? (i := 3) rfl)) (by decide) (by decide)) q20a q20c (g := (mkF m 138 #[.val (.int i0), .val (.int i1), .val (.int i2), .val (.int i3), .val (.int i4), .val (.int i5), .val (.int (1 : Int32)), .val (.ref b14), .val (.ref b16), .val (.int (0 : Int32))] [(.ref b16)])) rfl (by rw [hml]; rfl) (Steps.refl _) (argsL := []) (rest := []) (lenOf pdm_1 rfl) rfl (by show 2 * 0 + _ ≤ _; exact Nat.le_of_eq rfl) (hb hby at_138) (fun _ _ => ⟨rfl, rfl, (show cells + 1 + 1 + 0 + 0 ≤ 16 from (Nat.le_trans (Nat.add_le_add_right hc 2) (by decide))), (show slots + 1 + 7 + 0 + 0 ≤ 128 from (Nat.le_trans (Nat.add_le_add_right hs 8) (by decide)))⟩)
      dsimp only [Pt.U, Pt.locs, Pt.cells, Pt.slots] at X20 l20 y20 z20 st20 hQ20
      have yy20 : k20 = cells + 1 + 1 + 0 + 0 := y20
      have zz20 : n20 = slots + 1 + 7 + 0 + 0 := z20
      rw [yy20, zz20] at X20
      subst l20
      obtain ⟨rfl, N20q, e20⟩ := hQ20
      have N20 := Fr.app N17 N20q
      refine own_step (fun t k => st20.trans k) ?_
      show own_Fin p e below s Q 16 128 (T20.setTop (mkF m 141 #[.val (.int i0), .val (.int i1), .val (.int i2), .val (.int i3), .val (.int i4), .val (.int i5), .val (.int (1 : Int32)), .val (.ref b14), .val (.ref b16), .val (.int (0 : Int32))] [(.int (f3_0 gf15 1))]))
      refine own_step (fun t k => XS.iload X20.here hx rfl (hb hby at_141) rfl  k) ?_
      show own_Fin p e below s Q 16 128 (T20.setTop (mkF m 143 #[.val (.int i0), .val (.int i1), .val (.int i2), .val (.int i3), .val (.int i4), .val (.int i5), .val (.int (1 : Int32)), .val (.ref b14), .val (.ref b16), .val (.int (0 : Int32))] [(.int (0 : Int32)), (.int (f3_0 gf15 1))]))
      refine own_step (fun t k => XS.icmpNo X20.here hx rfl (hb hby at_143) rfl (teq ((own_dir _ 0 1 i1 (by decide) (by decide) (by rw [hgf15]; rfl)).2 hB86_18)).2 k) ?_
      show own_Fin p e below s Q 16 128 (T20.setTop (mkF m 146 #[.val (.int i0), .val (.int i1), .val (.int i2), .val (.int i3), .val (.int i4), .val (.int i5), .val (.int (1 : Int32)), .val (.ref b14), .val (.ref b16), .val (.int (0 : Int32))] []))
      refine own_step (fun t k => XS.iconst X20.here hx rfl (hb hby at_146) k) ?_
      show own_Fin p e below s Q 16 128 (T20.setTop (mkF m 147 #[.val (.int i0), .val (.int i1), .val (.int i2), .val (.int i3), .val (.int i4), .val (.int i5), .val (.int (1 : Int32)), .val (.ref b14), .val (.ref b16), .val (.int (0 : Int32))] [(.int (1 : Int32))]))
      refine own_step (fun t k => XS.goto X20.here hx rfl (pc0 := 147) (pc' := 151) rfl (hb hby at_147) (by decide) (by decide) k) ?_
      show own_Fin p e below s Q 16 128 (T20.setTop (mkF m 151 #[.val (.int i0), .val (.int i1), .val (.int i2), .val (.int i3), .val (.int i4), .val (.int i5), .val (.int (1 : Int32)), .val (.ref b14), .val (.ref b16), .val (.int (0 : Int32))] [(.int (1 : Int32))]))
      exact own_retN X20 hx hlk hret (by simp) (hb hby at_151) (Nat.le_trans (Nat.add_le_add_right hc 2) (by decide)) (Nat.le_trans (Nat.add_le_add_right hs 8) (by decide)) rfl N20 (fun L' n' => hQ _ L' n') (rfl)
  · skip
    refine own_step (fun t k => XS.iload X.here hx rfl (hb hby at_5) rfl  k) ?_
    show own_Fin p e below s Q 16 128 (T.setTop (mkF m 7 #[.val (.int i0), .val (.int i1), .val (.int i2), .val (.int i3), .val (.int i4), .val (.int i5), .val (.int (2 : Int32)), .unset, .unset, .unset] [(.int (2 : Int32))]))
    obtain ⟨T21, h21, k21, X21, e21, E21, AA21, st21⟩ := newP X hx hZ (hw _ (List.mem_of_getElem? (i := 0) rfl)) eT (g := (mkF m 7 #[.val (.int i0), .val (.int i1), .val (.int i2), .val (.int i3), .val (.int i4), .val (.int i5), .val (.int (2 : Int32)), .unset, .unset, .unset] [(.int (2 : Int32))])) rfl (hb hby at_7) rfl (by decide) (cap := 2) (by decide) (by decide) (show cells + 1 ≤ 16 from (Nat.le_trans (Nat.add_le_add_right hc 1) (by decide))) (show slots + 2 ≤ 128 from (Nat.le_trans (Nat.add_le_add_right hs 2) (by decide)))
    obtain ⟨b21, gg21⟩ : ∃ z, z = h.size := ⟨_, rfl⟩
    rw [← gg21] at AA21 st21
    have V21 : own_AF Z h21 b21 .byte 2 (fun _ => 0) := own_AFnew AA21 (by decide)
    have fr21 : n0 ≤ b21 := Nat.le_trans Z0 (Nat.le_of_eq gg21.symm)
    have Z021 : n0 ≤ h21.size := Nat.le_trans Z0 E21.1
    refine own_step st21 ?_
    show own_Fin p e below s Q 16 128 (T21.setTop (mkF m 9 #[.val (.int i0), .val (.int i1), .val (.int i2), .val (.int i3), .val (.int i4), .val (.int i5), .val (.int (2 : Int32)), .unset, .unset, .unset] [(.ref b21)]))
    refine own_step (fun t k => XS.astore X21.here hx rfl (hb hby at_9) rfl rfl (l' := #[.val (.int i0), .val (.int i1), .val (.int i2), .val (.int i3), .val (.int i4), .val (.int i5), .val (.int (2 : Int32)), .val (.ref b21), .unset, .unset]) rfl k) ?_
    show own_Fin p e below s Q 16 128 (T21.setTop (mkF m 11 #[.val (.int i0), .val (.int i1), .val (.int i2), .val (.int i3), .val (.int i4), .val (.int i5), .val (.int (2 : Int32)), .val (.ref b21), .unset, .unset] []))
    refine own_step (fun t k => XS.iload X21.here hx rfl (hb hby at_11) rfl  k) ?_
    show own_Fin p e below s Q 16 128 (T21.setTop (mkF m 13 #[.val (.int i0), .val (.int i1), .val (.int i2), .val (.int i3), .val (.int i4), .val (.int i5), .val (.int (2 : Int32)), .val (.ref b21), .unset, .unset] [(.int (2 : Int32))]))
    refine own_step (fun t k => XS.ifNo X21.here hx rfl (hb hby at_13) rfl ((if0 _ _).trans (tlt (by decide : (0 : Int32) < (2 : Int32))).2.2.2) k) ?_
    show own_Fin p e below s Q 16 128 (T21.setTop (mkF m 16 #[.val (.int i0), .val (.int i1), .val (.int i2), .val (.int i3), .val (.int i4), .val (.int i5), .val (.int (2 : Int32)), .val (.ref b21), .unset, .unset] []))
    refine own_step (fun t k => XS.aload X21.here hx rfl (hb hby at_16) rfl rfl k) ?_
    show own_Fin p e below s Q 16 128 (T21.setTop (mkF m 18 #[.val (.int i0), .val (.int i1), .val (.int i2), .val (.int i3), .val (.int i4), .val (.int i5), .val (.int (2 : Int32)), .val (.ref b21), .unset, .unset] [(.ref b21)]))
    refine own_step (fun t k => XS.iconst X21.here hx rfl (hb hby at_18) k) ?_
    show own_Fin p e below s Q 16 128 (T21.setTop (mkF m 19 #[.val (.int i0), .val (.int i1), .val (.int i2), .val (.int i3), .val (.int i4), .val (.int i5), .val (.int (2 : Int32)), .val (.ref b21), .unset, .unset] [(.int (0 : Int32)), (.ref b21)]))
    refine own_step (fun t k => XS.iloadN X21.here hx rfl (hb hby at_19) rfl  k) ?_
    show own_Fin p e below s Q 16 128 (T21.setTop (mkF m 20 #[.val (.int i0), .val (.int i1), .val (.int i2), .val (.int i3), .val (.int i4), .val (.int i5), .val (.int (2 : Int32)), .val (.ref b21), .unset, .unset] [(.int i1), (.int (0 : Int32)), (.ref b21)]))
    refine own_step (fun t k => XS.i2b X21.here hx rfl (hb hby at_20) rfl k) ?_
    show own_Fin p e below s Q 16 128 (T21.setTop (mkF m 21 #[.val (.int i0), .val (.int i1), .val (.int i2), .val (.int i3), .val (.int i4), .val (.int i5), .val (.int (2 : Int32)), .val (.ref b21), .unset, .unset] [(.int (i1.toInt8.toInt32)), (.int (0 : Int32)), (.ref b21)]))
    obtain ⟨ca22, Ar22, Sz22, Ht22⟩ := id V21
    have hin22 : ¬ ((0 : Int32) < 0 ∨ ca22.slots.size ≤ ((0 : Int32)).toNatClampNeg) := by rw [Sz22]; exact (by decide)
    obtain ⟨T22, h22, X22, e22, W22, st22⟩ := stB X21 hx hZ e21 Ar22 (j := (0 : Int32)) hin22 (g := (mkF m 21 #[.val (.int i0), .val (.int i1), .val (.int i2), .val (.int i3), .val (.int i4), .val (.int i5), .val (.int (2 : Int32)), .val (.ref b21), .unset, .unset] [(.int (i1.toInt8.toInt32)), (.int (0 : Int32)), (.ref b21)])) rfl rfl (hb hby at_21)
    have V22 : own_AF Z h22 b21 .byte 2 (fun i => if i = 0 then (nar .byte (i1.toInt8.toInt32)) else (fun _ => 0) i) := own_AFset Ar22 Sz22 Ht22 W22
    obtain ⟨gf22, hgf22⟩ : ∃ g' : Nat → Int32, g' = (fun i => if i = 0 then (nar .byte (i1.toInt8.toInt32)) else (fun _ => 0) i) := ⟨_, rfl⟩
    rw [← hgf22] at V22
    have N22 := Fr.snoc X22 N fr21
    have Z022 : n0 ≤ h22.size := Nat.le_trans Z021 (Nat.le_of_eq W22.size.symm)
    refine own_step st22 ?_
    show own_Fin p e below s Q 16 128 (T22.setTop (mkF m 22 #[.val (.int i0), .val (.int i1), .val (.int i2), .val (.int i3), .val (.int i4), .val (.int i5), .val (.int (2 : Int32)), .val (.ref b21), .unset, .unset] []))
    refine own_step (fun t k => XS.iload X22.here hx rfl (hb hby at_22) rfl  k) ?_
    show own_Fin p e below s Q 16 128 (T22.setTop (mkF m 24 #[.val (.int i0), .val (.int i1), .val (.int i2), .val (.int i3), .val (.int i4), .val (.int i5), .val (.int (2 : Int32)), .val (.ref b21), .unset, .unset] [(.int (2 : Int32))]))
    refine own_step (fun t k => XS.iconst X22.here hx rfl (hb hby at_24) k) ?_
    show own_Fin p e below s Q 16 128 (T22.setTop (mkF m 25 #[.val (.int i0), .val (.int i1), .val (.int i2), .val (.int i3), .val (.int i4), .val (.int i5), .val (.int (2 : Int32)), .val (.ref b21), .unset, .unset] [(.int (1 : Int32)), (.int (2 : Int32))]))
    refine own_step (fun t k => XS.icmpNo X22.here hx rfl (hb hby at_25) rfl (tlt (by decide : (1 : Int32) < (2 : Int32))).2.2.2 k) ?_
    show own_Fin p e below s Q 16 128 (T22.setTop (mkF m 28 #[.val (.int i0), .val (.int i1), .val (.int i2), .val (.int i3), .val (.int i4), .val (.int i5), .val (.int (2 : Int32)), .val (.ref b21), .unset, .unset] []))
    refine own_step (fun t k => XS.aload X22.here hx rfl (hb hby at_28) rfl rfl k) ?_
    show own_Fin p e below s Q 16 128 (T22.setTop (mkF m 30 #[.val (.int i0), .val (.int i1), .val (.int i2), .val (.int i3), .val (.int i4), .val (.int i5), .val (.int (2 : Int32)), .val (.ref b21), .unset, .unset] [(.ref b21)]))
    refine own_step (fun t k => XS.iconst X22.here hx rfl (hb hby at_30) k) ?_
    show own_Fin p e below s Q 16 128 (T22.setTop (mkF m 31 #[.val (.int i0), .val (.int i1), .val (.int i2), .val (.int i3), .val (.int i4), .val (.int i5), .val (.int (2 : Int32)), .val (.ref b21), .unset, .unset] [(.int (1 : Int32)), (.ref b21)]))
    refine own_step (fun t k => XS.iloadN X22.here hx rfl (hb hby at_31) rfl  k) ?_
    show own_Fin p e below s Q 16 128 (T22.setTop (mkF m 32 #[.val (.int i0), .val (.int i1), .val (.int i2), .val (.int i3), .val (.int i4), .val (.int i5), .val (.int (2 : Int32)), .val (.ref b21), .unset, .unset] [(.int i2), (.int (1 : Int32)), (.ref b21)]))
    refine own_step (fun t k => XS.i2b X22.here hx rfl (hb hby at_32) rfl k) ?_
    show own_Fin p e below s Q 16 128 (T22.setTop (mkF m 33 #[.val (.int i0), .val (.int i1), .val (.int i2), .val (.int i3), .val (.int i4), .val (.int i5), .val (.int (2 : Int32)), .val (.ref b21), .unset, .unset] [(.int (i2.toInt8.toInt32)), (.int (1 : Int32)), (.ref b21)]))
    obtain ⟨ca23, Ar23, Sz23, Ht23⟩ := id V22
    have hin23 : ¬ ((1 : Int32) < 0 ∨ ca23.slots.size ≤ ((1 : Int32)).toNatClampNeg) := by rw [Sz23]; exact (by decide)
    obtain ⟨T23, h23, X23, e23, W23, st23⟩ := stB X22 hx hZ e22 Ar23 (j := (1 : Int32)) hin23 (g := (mkF m 33 #[.val (.int i0), .val (.int i1), .val (.int i2), .val (.int i3), .val (.int i4), .val (.int i5), .val (.int (2 : Int32)), .val (.ref b21), .unset, .unset] [(.int (i2.toInt8.toInt32)), (.int (1 : Int32)), (.ref b21)])) rfl rfl (hb hby at_33)
    have V23 : own_AF Z h23 b21 .byte 2 (fun i => if i = 1 then (nar .byte (i2.toInt8.toInt32)) else gf22 i) := own_AFset Ar23 Sz23 Ht23 W23
    obtain ⟨gf23, hgf23⟩ : ∃ g' : Nat → Int32, g' = (fun i => if i = 1 then (nar .byte (i2.toInt8.toInt32)) else gf22 i) := ⟨_, rfl⟩
    rw [← hgf23] at V23
    have N23 := Fr.snoc X23 N22 fr21
    have Z023 : n0 ≤ h23.size := Nat.le_trans Z022 (Nat.le_of_eq W23.size.symm)
    refine own_step st23 ?_
    show own_Fin p e below s Q 16 128 (T23.setTop (mkF m 34 #[.val (.int i0), .val (.int i1), .val (.int i2), .val (.int i3), .val (.int i4), .val (.int i5), .val (.int (2 : Int32)), .val (.ref b21), .unset, .unset] []))
    refine own_step (fun t k => XS.iload X23.here hx rfl (hb hby at_34) rfl  k) ?_
    show own_Fin p e below s Q 16 128 (T23.setTop (mkF m 36 #[.val (.int i0), .val (.int i1), .val (.int i2), .val (.int i3), .val (.int i4), .val (.int i5), .val (.int (2 : Int32)), .val (.ref b21), .unset, .unset] [(.int (2 : Int32))]))
    refine own_step (fun t k => XS.iconst X23.here hx rfl (hb hby at_36) k) ?_
    show own_Fin p e below s Q 16 128 (T23.setTop (mkF m 37 #[.val (.int i0), .val (.int i1), .val (.int i2), .val (.int i3), .val (.int i4), .val (.int i5), .val (.int (2 : Int32)), .val (.ref b21), .unset, .unset] [(.int (2 : Int32)), (.int (2 : Int32))]))
    refine own_step (fun t k => XS.icmpYes X23.here hx rfl (pc0 := 37) (pc' := 46) rfl (hb hby at_37) rfl (flt (by decide : ¬ ((2 : Int32) < (2 : Int32)))).2.2.2 (by decide) (by decide) k) ?_
    show own_Fin p e below s Q 16 128 (T23.setTop (mkF m 46 #[.val (.int i0), .val (.int i1), .val (.int i2), .val (.int i3), .val (.int i4), .val (.int i5), .val (.int (2 : Int32)), .val (.ref b21), .unset, .unset] []))
    obtain ⟨T24, h24, X24, e24, E24, A24, D24, -, st24⟩ := newO X23 hx hZ hown (hw _ (List.mem_of_getElem? (i := 1) rfl)) (hw _ (List.mem_of_getElem? (i := 2) rfl)) (hw _ (List.mem_of_getElem? (i := 3) rfl)) e23 (g := (mkF m 46 #[.val (.int i0), .val (.int i1), .val (.int i2), .val (.int i3), .val (.int i4), .val (.int i5), .val (.int (2 : Int32)), .val (.ref b21), .unset, .unset] [])) rfl (hb hby at_46) (show cells + 1 + 1 ≤ 16 from (Nat.le_trans (Nat.add_le_add_right hc 2) (by decide))) (show slots + 2 + 7 ≤ 128 from (Nat.le_trans (Nat.add_le_add_right hs 9) (by decide)))
    obtain ⟨b24, gg24⟩ : ∃ z, z = h23.size := ⟨_, rfl⟩
    rw [← gg24] at A24 D24 st24
    have F24_name : Fld Z h24 b24 "com/example/endorse/endorse/ArchiveEntry" "name" "[B" .null := D24 (Or.inr (hw _ (List.mem_of_getElem? (i := 11) rfl))) (ty := (.array .byte)) (by decide)
    have F24_flags : Fld Z h24 b24 "com/example/endorse/endorse/ArchiveEntry" "flags" "I" (.int (0 : Int32)) := D24 (Or.inr (hw _ (List.mem_of_getElem? (i := 13) rfl))) (ty := .int) (by decide)
    have F24_method : Fld Z h24 b24 "com/example/endorse/endorse/ArchiveEntry" "method" "I" (.int (0 : Int32)) := D24 (Or.inr (hw _ (List.mem_of_getElem? (i := 15) rfl))) (ty := .int) (by decide)
    have F24_crc : Fld Z h24 b24 "com/example/endorse/endorse/ArchiveEntry" "crc" "J" (.long (0 : Int64)) := D24 (Or.inr (hw _ (List.mem_of_getElem? (i := 17) rfl))) (ty := .long) (by decide)
    have F24_compressedSize : Fld Z h24 b24 "com/example/endorse/endorse/ArchiveEntry" "compressedSize" "J" (.long (0 : Int64)) := D24 (Or.inr (hw _ (List.mem_of_getElem? (i := 19) rfl))) (ty := .long) (by decide)
    have F24_size : Fld Z h24 b24 "com/example/endorse/endorse/ArchiveEntry" "size" "J" (.long (0 : Int64)) := D24 (Or.inr (hw _ (List.mem_of_getElem? (i := 21) rfl))) (ty := .long) (by decide)
    have F24_localHeaderOffset : Fld Z h24 b24 "com/example/endorse/endorse/ArchiveEntry" "localHeaderOffset" "J" (.long (0 : Int64)) := D24 (Or.inr (hw _ (List.mem_of_getElem? (i := 23) rfl))) (ty := .long) (by decide)
    have fr24 : n0 ≤ b24 := Nat.le_trans Z023 (Nat.le_of_eq gg24.symm)
    have Z024 : n0 ≤ h24.size := Nat.le_trans Z023 E24.1
    have neb21_24 : b21 ≠ b24 := Nat.ne_of_lt (Nat.lt_of_lt_of_le V23.lt (Nat.le_of_eq gg24.symm))
    have V24_b21 := own_AFext V23 E24
    refine own_step st24 ?_
    show own_Fin p e below s Q 16 128 (T24.setTop (mkF m 49 #[.val (.int i0), .val (.int i1), .val (.int i2), .val (.int i3), .val (.int i4), .val (.int i5), .val (.int (2 : Int32)), .val (.ref b21), .unset, .unset] [(.ref b24)]))
    refine own_step (fun t k => XS.dup X24.here hx rfl (hb hby at_49) rfl rfl k) ?_
    show own_Fin p e below s Q 16 128 (T24.setTop (mkF m 50 #[.val (.int i0), .val (.int i1), .val (.int i2), .val (.int i3), .val (.int i4), .val (.int i5), .val (.int (2 : Int32)), .val (.ref b21), .unset, .unset] [(.ref b24), (.ref b24)]))
    refine own_step (fun t k => XS.aload X24.here hx rfl (hb hby at_50) rfl rfl k) ?_
    show own_Fin p e below s Q 16 128 (T24.setTop (mkF m 52 #[.val (.int i0), .val (.int i1), .val (.int i2), .val (.int i3), .val (.int i4), .val (.int i5), .val (.int (2 : Int32)), .val (.ref b21), .unset, .unset] [(.ref b21), (.ref b24), (.ref b24)]))
    refine own_step (fun t k => XS.iload X24.here hx rfl (hb hby at_52) rfl  k) ?_
    show own_Fin p e below s Q 16 128 (T24.setTop (mkF m 54 #[.val (.int i0), .val (.int i1), .val (.int i2), .val (.int i3), .val (.int i4), .val (.int i5), .val (.int (2 : Int32)), .val (.ref b21), .unset, .unset] [(.int i4), (.ref b21), (.ref b24), (.ref b24)]))
    refine own_step (fun t k => XS.iload X24.here hx rfl (hb hby at_54) rfl  k) ?_
    show own_Fin p e below s Q 16 128 (T24.setTop (mkF m 56 #[.val (.int i0), .val (.int i1), .val (.int i2), .val (.int i3), .val (.int i4), .val (.int i5), .val (.int (2 : Int32)), .val (.ref b21), .unset, .unset] [(.int i5), (.int i4), (.ref b21), (.ref b24), (.ref b24)]))
    refine own_step (fun t k => XS.lconst X24.here hx rfl (hb hby at_56) k) ?_
    show own_Fin p e below s Q 16 128 (T24.setTop (mkF m 57 #[.val (.int i0), .val (.int i1), .val (.int i2), .val (.int i3), .val (.int i4), .val (.int i5), .val (.int (2 : Int32)), .val (.ref b21), .unset, .unset] [(.long (0 : Int64)), (.int i5), (.int i4), (.ref b21), (.ref b24), (.ref b24)]))
    refine own_step (fun t k => XS.lconst X24.here hx rfl (hb hby at_57) k) ?_
    show own_Fin p e below s Q 16 128 (T24.setTop (mkF m 58 #[.val (.int i0), .val (.int i1), .val (.int i2), .val (.int i3), .val (.int i4), .val (.int i5), .val (.int (2 : Int32)), .val (.ref b21), .unset, .unset] [(.long (0 : Int64)), (.long (0 : Int64)), (.int i5), (.int i4), (.ref b21), (.ref b24), (.ref b24)]))
    refine own_step (fun t k => XS.lconst X24.here hx rfl (hb hby at_58) k) ?_
    show own_Fin p e below s Q 16 128 (T24.setTop (mkF m 59 #[.val (.int i0), .val (.int i1), .val (.int i2), .val (.int i3), .val (.int i4), .val (.int i5), .val (.int (2 : Int32)), .val (.ref b21), .unset, .unset] [(.long (0 : Int64)), (.long (0 : Int64)), (.long (0 : Int64)), (.int i5), (.int i4), (.ref b21), (.ref b24), (.ref b24)]))
    refine own_step (fun t k => XS.lconst X24.here hx rfl (hb hby at_59) k) ?_
    show own_Fin p e below s Q 16 128 (T24.setTop (mkF m 60 #[.val (.int i0), .val (.int i1), .val (.int i2), .val (.int i3), .val (.int i4), .val (.int i5), .val (.int (2 : Int32)), .val (.ref b21), .unset, .unset] [(.long (0 : Int64)), (.long (0 : Int64)), (.long (0 : Int64)), (.long (0 : Int64)), (.int i5), (.int i4), (.ref b21), (.ref b24), (.ref b24)]))
    obtain ⟨_, _, ⟨T25, L25, k25, n25⟩, -, X25, ⟨Lc25, hQ25, l25, y25, z25⟩, st25⟩ := X24.specialBack hx (y := (⟨"com/example/endorse/endorse/ArchiveEntry", "<init>", "([BIIJJJJ)V"⟩ : MethodName)) rfl hown (mvT hZ (hw _ (List.mem_of_getElem? (i := 4) rfl))) (mvT hZ (hw _ (List.mem_of_getElem? (i := 5) rfl))) (mvT hZ (hw _ (List.mem_of_getElem? (i := 6) rfl))) (by decide) (backOf (W := 1) (rm1 l Z a0 hw [] b24 b21 i4 i5 (0 : Int64) (0 : Int64) (0 : Int64) (0 : Int64) .null (.int (0 : Int32)) (.int (0 : Int32)) (.long (0 : Int64)) (.long (0 : Int64)) (.long (0 : Int64)) (.long (0 : Int64)) h24 n0 Z024 A24 F24_name fr24 F24_flags F24_method F24_crc F24_compressedSize F24_size F24_localHeaderOffset) hZ (hw _ (List.mem_of_getElem? (i := 6) rfl)) (hw _ (List.mem_of_getElem? (i := 3) rfl)) (by decide) (by decide)) (g := (mkF m 60 #[.val (.int i0), .val (.int i1), .val (.int i2), .val (.int i3), .val (.int i4), .val (.int i5), .val (.int (2 : Int32)), .val (.ref b21), .unset, .unset] [(.long (0 : Int64)), (.long (0 : Int64)), (.long (0 : Int64)), (.long (0 : Int64)), (.int i5), (.int i4), (.ref b21), (.ref b24), (.ref b24)])) rfl (by rw [hml]; rfl) (Steps.refl _) (a := b24) (argsL := [(.ref b21), (.int i4), (.int i5), (.long (0 : Int64)), (.long (0 : Int64)), (.long (0 : Int64)), (.long (0 : Int64))]) (rest := [(.ref b24)]) (lenOf pdm_0 rfl) rfl (by show 2 * 0 + _ ≤ _; exact Nat.le_of_eq rfl) (hb hby at_60) (fun _ _ => ⟨rfl, e24, (show cells + 1 + 1 + 0 ≤ 16 from (Nat.le_trans (Nat.add_le_add_right hc 2) (by decide))), (show slots + 2 + 7 + 0 ≤ 128 from (Nat.le_trans (Nat.add_le_add_right hs 9) (by decide)))⟩)
    dsimp only [Pt.U, Pt.locs, Pt.cells, Pt.slots] at X25 l25 y25 z25 st25 hQ25
    have yy25 : k25 = cells + 1 + 1 + 0 := y25
    have zz25 : n25 = slots + 2 + 7 + 0 := z25
    rw [yy25, zz25] at X25
    subst l25
    obtain ⟨rfl, N25q, K25, Ex25, F25_name, F25_flags, F25_method, F25_crc, F25_compressedSize, F25_size, F25_localHeaderOffset⟩ := hQ25
    have N25 := Fr.app N23 N25q
    have Z025 : n0 ≤ T25.heap.size := Nat.le_trans Z024 K25.1
    have V25_b21 := own_AFkeep V24_b21 K25 (ninS neb21_24 nin0)
    refine own_step (fun t k => st25.trans k) ?_
    show own_Fin p e below s Q 16 128 (T25.setTop (mkF m 63 #[.val (.int i0), .val (.int i1), .val (.int i2), .val (.int i3), .val (.int i4), .val (.int i5), .val (.int (2 : Int32)), .val (.ref b21), .unset, .unset] [(.ref b24)]))
    refine own_step (fun t k => XS.astore X25.here hx rfl (hb hby at_63) rfl rfl (l' := #[.val (.int i0), .val (.int i1), .val (.int i2), .val (.int i3), .val (.int i4), .val (.int i5), .val (.int (2 : Int32)), .val (.ref b21), .val (.ref b24), .unset]) rfl k) ?_
    show own_Fin p e below s Q 16 128 (T25.setTop (mkF m 65 #[.val (.int i0), .val (.int i1), .val (.int i2), .val (.int i3), .val (.int i4), .val (.int i5), .val (.int (2 : Int32)), .val (.ref b21), .val (.ref b24), .unset] []))
    refine own_step (fun t k => XS.iload X25.here hx rfl (hb hby at_65) rfl  k) ?_
    show own_Fin p e below s Q 16 128 (T25.setTop (mkF m 67 #[.val (.int i0), .val (.int i1), .val (.int i2), .val (.int i3), .val (.int i4), .val (.int i5), .val (.int (2 : Int32)), .val (.ref b21), .val (.ref b24), .unset] [(.int (2 : Int32))]))
    refine own_step (fun t k => XS.ifYes X25.here hx rfl (pc0 := 67) (pc' := 76) rfl (hb hby at_67) rfl ((if0 _ _).trans (feq (by decide : ¬ ((2 : Int32) = (0 : Int32)))).2) (by decide) (by decide) k) ?_
    show own_Fin p e below s Q 16 128 (T25.setTop (mkF m 76 #[.val (.int i0), .val (.int i1), .val (.int i2), .val (.int i3), .val (.int i4), .val (.int i5), .val (.int (2 : Int32)), .val (.ref b21), .val (.ref b24), .unset] []))
    refine own_step (fun t k => XS.iload X25.here hx rfl (hb hby at_76) rfl  k) ?_
    show own_Fin p e below s Q 16 128 (T25.setTop (mkF m 78 #[.val (.int i0), .val (.int i1), .val (.int i2), .val (.int i3), .val (.int i4), .val (.int i5), .val (.int (2 : Int32)), .val (.ref b21), .val (.ref b24), .unset] [(.int (2 : Int32))]))
    refine own_step (fun t k => XS.iconst X25.here hx rfl (hb hby at_78) k) ?_
    show own_Fin p e below s Q 16 128 (T25.setTop (mkF m 79 #[.val (.int i0), .val (.int i1), .val (.int i2), .val (.int i3), .val (.int i4), .val (.int i5), .val (.int (2 : Int32)), .val (.ref b21), .val (.ref b24), .unset] [(.int (1 : Int32)), (.int (2 : Int32))]))
    refine own_step (fun t k => XS.icmpYes X25.here hx rfl (pc0 := 79) (pc' := 99) rfl (hb hby at_79) rfl (feq (by decide : ¬ ((2 : Int32) = (1 : Int32)))).2 (by decide) (by decide) k) ?_
    show own_Fin p e below s Q 16 128 (T25.setTop (mkF m 99 #[.val (.int i0), .val (.int i1), .val (.int i2), .val (.int i3), .val (.int i4), .val (.int i5), .val (.int (2 : Int32)), .val (.ref b21), .val (.ref b24), .unset] []))
    refine own_step (fun t k => XS.iload X25.here hx rfl (hb hby at_99) rfl  k) ?_
    show own_Fin p e below s Q 16 128 (T25.setTop (mkF m 101 #[.val (.int i0), .val (.int i1), .val (.int i2), .val (.int i3), .val (.int i4), .val (.int i5), .val (.int (2 : Int32)), .val (.ref b21), .val (.ref b24), .unset] [(.int (2 : Int32))]))
    refine own_step (fun t k => XS.iconst X25.here hx rfl (hb hby at_101) k) ?_
    show own_Fin p e below s Q 16 128 (T25.setTop (mkF m 102 #[.val (.int i0), .val (.int i1), .val (.int i2), .val (.int i3), .val (.int i4), .val (.int i5), .val (.int (2 : Int32)), .val (.ref b21), .val (.ref b24), .unset] [(.int (2 : Int32)), (.int (2 : Int32))]))
    refine own_step (fun t k => XS.icmpNo X25.here hx rfl (hb hby at_102) rfl (teq (by decide : (2 : Int32) = (2 : Int32))).2 k) ?_
    show own_Fin p e below s Q 16 128 (T25.setTop (mkF m 105 #[.val (.int i0), .val (.int i1), .val (.int i2), .val (.int i3), .val (.int i4), .val (.int i5), .val (.int (2 : Int32)), .val (.ref b21), .val (.ref b24), .unset] []))
    refine own_step (fun t k => XS.iloadN X25.here hx rfl (hb hby at_105) rfl  k) ?_
    show own_Fin p e below s Q 16 128 (T25.setTop (mkF m 106 #[.val (.int i0), .val (.int i1), .val (.int i2), .val (.int i3), .val (.int i4), .val (.int i5), .val (.int (2 : Int32)), .val (.ref b21), .val (.ref b24), .unset] [(.int i2)]))
    refine own_step (fun t k => XS.i2b X25.here hx rfl (hb hby at_106) rfl k) ?_
    show own_Fin p e below s Q 16 128 (T25.setTop (mkF m 107 #[.val (.int i0), .val (.int i1), .val (.int i2), .val (.int i3), .val (.int i4), .val (.int i5), .val (.int (2 : Int32)), .val (.ref b21), .val (.ref b24), .unset] [(.int (i2.toInt8.toInt32))]))
    refine own_step (fun t k => XS.bipush X25.here hx rfl (hb hby at_107) k) ?_
    show own_Fin p e below s Q 16 128 (T25.setTop (mkF m 109 #[.val (.int i0), .val (.int i1), .val (.int i2), .val (.int i3), .val (.int i4), .val (.int i5), .val (.int (2 : Int32)), .val (.ref b21), .val (.ref b24), .unset] [(.int (47 : Int32)), (.int (i2.toInt8.toInt32))]))
    by_cases hB109_26 : (i2.toInt8.toInt32) = (47 : Int32)
    · refine own_step (fun t k => XS.icmpNo X25.here hx rfl (hb hby at_109) rfl (teq hB109_26).2 k) ?_
      show own_Fin p e below s Q 16 128 (T25.setTop (mkF m 112 #[.val (.int i0), .val (.int i1), .val (.int i2), .val (.int i3), .val (.int i4), .val (.int i5), .val (.int (2 : Int32)), .val (.ref b21), .val (.ref b24), .unset] []))
      refine own_step (fun t k => XS.iconst X25.here hx rfl (hb hby at_112) k) ?_
      show own_Fin p e below s Q 16 128 (T25.setTop (mkF m 113 #[.val (.int i0), .val (.int i1), .val (.int i2), .val (.int i3), .val (.int i4), .val (.int i5), .val (.int (2 : Int32)), .val (.ref b21), .val (.ref b24), .unset] [(.int (1 : Int32))]))
      refine own_step (fun t k => XS.goto X25.here hx rfl (pc0 := 113) (pc' := 117) rfl (hb hby at_113) (by decide) (by decide) k) ?_
      show own_Fin p e below s Q 16 128 (T25.setTop (mkF m 117 #[.val (.int i0), .val (.int i1), .val (.int i2), .val (.int i3), .val (.int i4), .val (.int i5), .val (.int (2 : Int32)), .val (.ref b21), .val (.ref b24), .unset] [(.int (1 : Int32))]))
      refine own_step (fun t k => XS.istore X25.here hx rfl (hb hby at_117) rfl (l' := #[.val (.int i0), .val (.int i1), .val (.int i2), .val (.int i3), .val (.int i4), .val (.int i5), .val (.int (2 : Int32)), .val (.ref b21), .val (.ref b24), .val (.int (1 : Int32))]) rfl k) ?_
      show own_Fin p e below s Q 16 128 (T25.setTop (mkF m 119 #[.val (.int i0), .val (.int i1), .val (.int i2), .val (.int i3), .val (.int i4), .val (.int i5), .val (.int (2 : Int32)), .val (.ref b21), .val (.ref b24), .val (.int (1 : Int32))] []))
      refine own_step (fun t k => XS.goto X25.here hx rfl (pc0 := 119) (pc' := 136) rfl (hb hby at_119) (by decide) (by decide) k) ?_
      show own_Fin p e below s Q 16 128 (T25.setTop (mkF m 136 #[.val (.int i0), .val (.int i1), .val (.int i2), .val (.int i3), .val (.int i4), .val (.int i5), .val (.int (2 : Int32)), .val (.ref b21), .val (.ref b24), .val (.int (1 : Int32))] []))
      refine own_step (fun t k => XS.aload X25.here hx rfl (hb hby at_136) rfl rfl k) ?_
      show own_Fin p e below s Q 16 128 (T25.setTop (mkF m 138 #[.val (.int i0), .val (.int i1), .val (.int i2), .val (.int i3), .val (.int i4), .val (.int i5), .val (.int (2 : Int32)), .val (.ref b21), .val (.ref b24), .val (.int (1 : Int32))] [(.ref b24)]))
      obtain ⟨cq27, kq27, q27a, q27b, q27c⟩ := isOf hZ rfl Ex25
      obtain ⟨_, _, ⟨T27, L27, k27, n27⟩, -, X27, ⟨Lc27, hQ27, l27, y27, z27⟩, st27⟩ := X25.virtualBack hx (y := (⟨"com/example/endorse/endorse/ArchiveEntry", "isDirectory", "()Z"⟩ : MethodName)) (z := (⟨"com/example/endorse/endorse/ArchiveEntry", "isDirectory", "()Z"⟩ : MethodName)) hown (mvT hZ (hw _ (List.mem_of_getElem? (i := 24) rfl))) (mvT hZ (hw _ (List.mem_of_getElem? (i := 25) rfl))) (notFace_of_selects (args := #[]) (mvT hZ (hw _ (List.mem_of_getElem? (i := 27) rfl)))) (mvT hZ (hw _ (List.mem_of_getElem? (i := 27) rfl))) (mvT hZ (hw _ (List.mem_of_getElem? (i := 26) rfl))) (by decide) (backOf (W := 0) (rm3 l Z a0 hw [] b24 b21 gf23 2 T25.heap n0 F25_name V25_b21 (by decide)) hZ (hw _ (List.mem_of_getElem? (i := 28) rfl)) (hw _ (List.mem_of_getElem? (i := 3) rfl)) (by decide) (by decide)) q27a q27c (g := (mkF m 138 #[.val (.int i0), .val (.int i1), .val (.int i2), .val (.int i3), .val (.int i4), .val (.int i5), .val (.int (2 : Int32)), .val (.ref b21), .val (.ref b24), .val (.int (1 : Int32))] [(.ref b24)])) rfl (by rw [hml]; rfl) (Steps.refl _) (argsL := []) (rest := []) (lenOf pdm_1 rfl) rfl (by show 2 * 0 + _ ≤ _; exact Nat.le_of_eq rfl) (hb hby at_138) (fun _ _ => ⟨rfl, rfl, (show cells + 1 + 1 + 0 + 0 ≤ 16 from (Nat.le_trans (Nat.add_le_add_right hc 2) (by decide))), (show slots + 2 + 7 + 0 + 0 ≤ 128 from (Nat.le_trans (Nat.add_le_add_right hs 9) (by decide)))⟩)
      dsimp only [Pt.U, Pt.locs, Pt.cells, Pt.slots] at X27 l27 y27 z27 st27 hQ27
      have yy27 : k27 = cells + 1 + 1 + 0 + 0 := y27
      have zz27 : n27 = slots + 2 + 7 + 0 + 0 := z27
      rw [yy27, zz27] at X27
      subst l27
      obtain ⟨rfl, N27q, e27⟩ := hQ27
      have N27 := Fr.app N25 N27q
      refine own_step (fun t k => st27.trans k) ?_
      show own_Fin p e below s Q 16 128 (T27.setTop (mkF m 141 #[.val (.int i0), .val (.int i1), .val (.int i2), .val (.int i3), .val (.int i4), .val (.int i5), .val (.int (2 : Int32)), .val (.ref b21), .val (.ref b24), .val (.int (1 : Int32))] [(.int (f3_0 gf23 2))]))
      refine own_step (fun t k => XS.iload X27.here hx rfl (hb hby at_141) rfl  k) ?_
      show own_Fin p e below s Q 16 128 (T27.setTop (mkF m 143 #[.val (.int i0), .val (.int i1), .val (.int i2), .val (.int i3), .val (.int i4), .val (.int i5), .val (.int (2 : Int32)), .val (.ref b21), .val (.ref b24), .val (.int (1 : Int32))] [(.int (1 : Int32)), (.int (f3_0 gf23 2))]))
      refine own_step (fun t k => XS.icmpNo X27.here hx rfl (hb hby at_143) rfl (teq ((own_dir _ 1 2 i2 (by decide) (by decide) (by rw [hgf23, hgf22]; rfl)).1 hB109_26)).2 k) ?_
      show own_Fin p e below s Q 16 128 (T27.setTop (mkF m 146 #[.val (.int i0), .val (.int i1), .val (.int i2), .val (.int i3), .val (.int i4), .val (.int i5), .val (.int (2 : Int32)), .val (.ref b21), .val (.ref b24), .val (.int (1 : Int32))] []))
      refine own_step (fun t k => XS.iconst X27.here hx rfl (hb hby at_146) k) ?_
      show own_Fin p e below s Q 16 128 (T27.setTop (mkF m 147 #[.val (.int i0), .val (.int i1), .val (.int i2), .val (.int i3), .val (.int i4), .val (.int i5), .val (.int (2 : Int32)), .val (.ref b21), .val (.ref b24), .val (.int (1 : Int32))] [(.int (1 : Int32))]))
      refine own_step (fun t k => XS.goto X27.here hx rfl (pc0 := 147) (pc' := 151) rfl (hb hby at_147) (by decide) (by decide) k) ?_
      show own_Fin p e below s Q 16 128 (T27.setTop (mkF m 151 #[.val (.int i0), .val (.int i1), .val (.int i2), .val (.int i3), .val (.int i4), .val (.int i5), .val (.int (2 : Int32)), .val (.ref b21), .val (.ref b24), .val (.int (1 : Int32))] [(.int (1 : Int32))]))
      exact own_retN X27 hx hlk hret (by simp) (hb hby at_151) (Nat.le_trans (Nat.add_le_add_right hc 2) (by decide)) (Nat.le_trans (Nat.add_le_add_right hs 9) (by decide)) rfl N27 (fun L' n' => hQ _ L' n') (rfl)
    · refine own_step (fun t k => XS.icmpYes X25.here hx rfl (pc0 := 109) (pc' := 116) rfl (hb hby at_109) rfl (feq hB109_26).2 (by decide) (by decide) k) ?_
      show own_Fin p e below s Q 16 128 (T25.setTop (mkF m 116 #[.val (.int i0), .val (.int i1), .val (.int i2), .val (.int i3), .val (.int i4), .val (.int i5), .val (.int (2 : Int32)), .val (.ref b21), .val (.ref b24), .unset] []))
      refine own_step (fun t k => XS.iconst X25.here hx rfl (hb hby at_116) k) ?_
      show own_Fin p e below s Q 16 128 (T25.setTop (mkF m 117 #[.val (.int i0), .val (.int i1), .val (.int i2), .val (.int i3), .val (.int i4), .val (.int i5), .val (.int (2 : Int32)), .val (.ref b21), .val (.ref b24), .unset] [(.int (0 : Int32))]))
      refine own_step (fun t k => XS.istore X25.here hx rfl (hb hby at_117) rfl (l' := #[.val (.int i0), .val (.int i1), .val (.int i2), .val (.int i3), .val (.int i4), .val (.int i5), .val (.int (2 : Int32)), .val (.ref b21), .val (.ref b24), .val (.int (0 : Int32))]) rfl k) ?_
      show own_Fin p e below s Q 16 128 (T25.setTop (mkF m 119 #[.val (.int i0), .val (.int i1), .val (.int i2), .val (.int i3), .val (.int i4), .val (.int i5), .val (.int (2 : Int32)), .val (.ref b21), .val (.ref b24), .val (.int (0 : Int32))] []))
      refine own_step (fun t k => XS.goto X25.here hx rfl (pc0 := 119) (pc' := 136) rfl (hb hby at_119) (by decide) (by decide) k) ?_
      show own_Fin p e below s Q 16 128 (T25.setTop (mkF m 136 #[.val (.int i0), .val (.int i1), .val (.int i2), .val (.int i3), .val (.int i4), .val (.int i5), .val (.int (2 : Int32)), .val (.ref b21), .val (.ref b24), .val (.int (0 : Int32))] []))
      refine own_step (fun t k => XS.aload X25.here hx rfl (hb hby at_136) rfl rfl k) ?_
      show own_Fin p e below s Q 16 128 (T25.setTop (mkF m 138 #[.val (.int i0), .val (.int i1), .val (.int i2), .val (.int i3), .val (.int i4), .val (.int i5), .val (.int (2 : Int32)), .val (.ref b21), .val (.ref b24), .val (.int (0 : Int32))] [(.ref b24)]))
      obtain ⟨cq28, kq28, q28a, q28b, q28c⟩ := isOf hZ rfl Ex25
      obtain ⟨_, _, ⟨T28, L28, k28, n28⟩, -, X28, ⟨Lc28, hQ28, l28, y28, z28⟩, st28⟩ := X25.virtualBack hx (y := (⟨"com/example/endorse/endorse/ArchiveEntry", "isDirectory", "()Z"⟩ : MethodName)) (z := (⟨"com/example/endorse/endorse/ArchiveEntry", "isDirectory", "()Z"⟩ : MethodName)) hown (mvT hZ (hw _ (List.mem_of_getElem? (i := 24) rfl))) (mvT hZ (hw _ (List.mem_of_getElem? (i := 25) rfl))) (notFace_of_selects (args := #[]) (mvT hZ (hw _ (List.mem_of_getElem? (i := 27) rfl)))) (mvT hZ (hw _ (List.mem_of_getElem? (i := 27) rfl))) (mvT hZ (hw _ (List.mem_of_getElem? (i := 26) rfl))) (by decide) (backOf (W := 0) (rm3 l Z a0 hw [] b24 b21 gf23 2 T25.heap n0 F25_name V25_b21 (by decide)) hZ (hw _ (List.mem_of_getElem? (i := 28) rfl)) (hw _ (List.mem_of_getElem? (i := 3) rfl)) (by decide) (by decide)) q28a q28c (g := (mkF m 138 #[.val (.int i0), .val (.int i1), .val (.int i2), .val (.int i3), .val (.int i4), .val (.int i5), .val (.int (2 : Int32)), .val (.ref b21), .val (.ref b24), .val (.int (0 : Int32))] [(.ref b24)])) rfl (by rw [hml]; rfl) (Steps.refl _) (argsL := []) (rest := []) (lenOf pdm_1 rfl) rfl (by show 2 * 0 + _ ≤ _; exact Nat.le_of_eq rfl) (hb hby at_138) (fun _ _ => ⟨rfl, rfl, (show cells + 1 + 1 + 0 + 0 ≤ 16 from (Nat.le_trans (Nat.add_le_add_right hc 2) (by decide))), (show slots + 2 + 7 + 0 + 0 ≤ 128 from (Nat.le_trans (Nat.add_le_add_right hs 9) (by decide)))⟩)
      dsimp only [Pt.U, Pt.locs, Pt.cells, Pt.slots] at X28 l28 y28 z28 st28 hQ28
      have yy28 : k28 = cells + 1 + 1 + 0 + 0 := y28
      have zz28 : n28 = slots + 2 + 7 + 0 + 0 := z28
      rw [yy28, zz28] at X28
      subst l28
      obtain ⟨rfl, N28q, e28⟩ := hQ28
      have N28 := Fr.app N25 N28q
      refine own_step (fun t k => st28.trans k) ?_
      show own_Fin p e below s Q 16 128 (T28.setTop (mkF m 141 #[.val (.int i0), .val (.int i1), .val (.int i2), .val (.int i3), .val (.int i4), .val (.int i5), .val (.int (2 : Int32)), .val (.ref b21), .val (.ref b24), .val (.int (0 : Int32))] [(.int (f3_0 gf23 2))]))
      refine own_step (fun t k => XS.iload X28.here hx rfl (hb hby at_141) rfl  k) ?_
      show own_Fin p e below s Q 16 128 (T28.setTop (mkF m 143 #[.val (.int i0), .val (.int i1), .val (.int i2), .val (.int i3), .val (.int i4), .val (.int i5), .val (.int (2 : Int32)), .val (.ref b21), .val (.ref b24), .val (.int (0 : Int32))] [(.int (0 : Int32)), (.int (f3_0 gf23 2))]))
      refine own_step (fun t k => XS.icmpNo X28.here hx rfl (hb hby at_143) rfl (teq ((own_dir _ 1 2 i2 (by decide) (by decide) (by rw [hgf23, hgf22]; rfl)).2 hB109_26)).2 k) ?_
      show own_Fin p e below s Q 16 128 (T28.setTop (mkF m 146 #[.val (.int i0), .val (.int i1), .val (.int i2), .val (.int i3), .val (.int i4), .val (.int i5), .val (.int (2 : Int32)), .val (.ref b21), .val (.ref b24), .val (.int (0 : Int32))] []))
      refine own_step (fun t k => XS.iconst X28.here hx rfl (hb hby at_146) k) ?_
      show own_Fin p e below s Q 16 128 (T28.setTop (mkF m 147 #[.val (.int i0), .val (.int i1), .val (.int i2), .val (.int i3), .val (.int i4), .val (.int i5), .val (.int (2 : Int32)), .val (.ref b21), .val (.ref b24), .val (.int (0 : Int32))] [(.int (1 : Int32))]))
      refine own_step (fun t k => XS.goto X28.here hx rfl (pc0 := 147) (pc' := 151) rfl (hb hby at_147) (by decide) (by decide) k) ?_
      show own_Fin p e below s Q 16 128 (T28.setTop (mkF m 151 #[.val (.int i0), .val (.int i1), .val (.int i2), .val (.int i3), .val (.int i4), .val (.int i5), .val (.int (2 : Int32)), .val (.ref b21), .val (.ref b24), .val (.int (0 : Int32))] [(.int (1 : Int32))]))
      exact own_retN X28 hx hlk hret (by simp) (hb hby at_151) (Nat.le_trans (Nat.add_le_add_right hc 2) (by decide)) (Nat.le_trans (Nat.add_le_add_right hs 9) (by decide)) rfl N28 (fun L' n' => hQ _ L' n') (rfl)
  · skip
    refine own_step (fun t k => XS.iload X.here hx rfl (hb hby at_5) rfl  k) ?_
    show own_Fin p e below s Q 16 128 (T.setTop (mkF m 7 #[.val (.int i0), .val (.int i1), .val (.int i2), .val (.int i3), .val (.int i4), .val (.int i5), .val (.int (3 : Int32)), .unset, .unset, .unset] [(.int (3 : Int32))]))
    obtain ⟨T29, h29, k29, X29, e29, E29, AA29, st29⟩ := newP X hx hZ (hw _ (List.mem_of_getElem? (i := 0) rfl)) eT (g := (mkF m 7 #[.val (.int i0), .val (.int i1), .val (.int i2), .val (.int i3), .val (.int i4), .val (.int i5), .val (.int (3 : Int32)), .unset, .unset, .unset] [(.int (3 : Int32))])) rfl (hb hby at_7) rfl (by decide) (cap := 3) (by decide) (by decide) (show cells + 1 ≤ 16 from (Nat.le_trans (Nat.add_le_add_right hc 1) (by decide))) (show slots + 3 ≤ 128 from (Nat.le_trans (Nat.add_le_add_right hs 3) (by decide)))
    obtain ⟨b29, gg29⟩ : ∃ z, z = h.size := ⟨_, rfl⟩
    rw [← gg29] at AA29 st29
    have V29 : own_AF Z h29 b29 .byte 3 (fun _ => 0) := own_AFnew AA29 (by decide)
    have fr29 : n0 ≤ b29 := Nat.le_trans Z0 (Nat.le_of_eq gg29.symm)
    have Z029 : n0 ≤ h29.size := Nat.le_trans Z0 E29.1
    refine own_step st29 ?_
    show own_Fin p e below s Q 16 128 (T29.setTop (mkF m 9 #[.val (.int i0), .val (.int i1), .val (.int i2), .val (.int i3), .val (.int i4), .val (.int i5), .val (.int (3 : Int32)), .unset, .unset, .unset] [(.ref b29)]))
    refine own_step (fun t k => XS.astore X29.here hx rfl (hb hby at_9) rfl rfl (l' := #[.val (.int i0), .val (.int i1), .val (.int i2), .val (.int i3), .val (.int i4), .val (.int i5), .val (.int (3 : Int32)), .val (.ref b29), .unset, .unset]) rfl k) ?_
    show own_Fin p e below s Q 16 128 (T29.setTop (mkF m 11 #[.val (.int i0), .val (.int i1), .val (.int i2), .val (.int i3), .val (.int i4), .val (.int i5), .val (.int (3 : Int32)), .val (.ref b29), .unset, .unset] []))
    refine own_step (fun t k => XS.iload X29.here hx rfl (hb hby at_11) rfl  k) ?_
    show own_Fin p e below s Q 16 128 (T29.setTop (mkF m 13 #[.val (.int i0), .val (.int i1), .val (.int i2), .val (.int i3), .val (.int i4), .val (.int i5), .val (.int (3 : Int32)), .val (.ref b29), .unset, .unset] [(.int (3 : Int32))]))
    refine own_step (fun t k => XS.ifNo X29.here hx rfl (hb hby at_13) rfl ((if0 _ _).trans (tlt (by decide : (0 : Int32) < (3 : Int32))).2.2.2) k) ?_
    show own_Fin p e below s Q 16 128 (T29.setTop (mkF m 16 #[.val (.int i0), .val (.int i1), .val (.int i2), .val (.int i3), .val (.int i4), .val (.int i5), .val (.int (3 : Int32)), .val (.ref b29), .unset, .unset] []))
    refine own_step (fun t k => XS.aload X29.here hx rfl (hb hby at_16) rfl rfl k) ?_
    show own_Fin p e below s Q 16 128 (T29.setTop (mkF m 18 #[.val (.int i0), .val (.int i1), .val (.int i2), .val (.int i3), .val (.int i4), .val (.int i5), .val (.int (3 : Int32)), .val (.ref b29), .unset, .unset] [(.ref b29)]))
    refine own_step (fun t k => XS.iconst X29.here hx rfl (hb hby at_18) k) ?_
    show own_Fin p e below s Q 16 128 (T29.setTop (mkF m 19 #[.val (.int i0), .val (.int i1), .val (.int i2), .val (.int i3), .val (.int i4), .val (.int i5), .val (.int (3 : Int32)), .val (.ref b29), .unset, .unset] [(.int (0 : Int32)), (.ref b29)]))
    refine own_step (fun t k => XS.iloadN X29.here hx rfl (hb hby at_19) rfl  k) ?_
    show own_Fin p e below s Q 16 128 (T29.setTop (mkF m 20 #[.val (.int i0), .val (.int i1), .val (.int i2), .val (.int i3), .val (.int i4), .val (.int i5), .val (.int (3 : Int32)), .val (.ref b29), .unset, .unset] [(.int i1), (.int (0 : Int32)), (.ref b29)]))
    refine own_step (fun t k => XS.i2b X29.here hx rfl (hb hby at_20) rfl k) ?_
    show own_Fin p e below s Q 16 128 (T29.setTop (mkF m 21 #[.val (.int i0), .val (.int i1), .val (.int i2), .val (.int i3), .val (.int i4), .val (.int i5), .val (.int (3 : Int32)), .val (.ref b29), .unset, .unset] [(.int (i1.toInt8.toInt32)), (.int (0 : Int32)), (.ref b29)]))
    obtain ⟨ca30, Ar30, Sz30, Ht30⟩ := id V29
    have hin30 : ¬ ((0 : Int32) < 0 ∨ ca30.slots.size ≤ ((0 : Int32)).toNatClampNeg) := by rw [Sz30]; exact (by decide)
    obtain ⟨T30, h30, X30, e30, W30, st30⟩ := stB X29 hx hZ e29 Ar30 (j := (0 : Int32)) hin30 (g := (mkF m 21 #[.val (.int i0), .val (.int i1), .val (.int i2), .val (.int i3), .val (.int i4), .val (.int i5), .val (.int (3 : Int32)), .val (.ref b29), .unset, .unset] [(.int (i1.toInt8.toInt32)), (.int (0 : Int32)), (.ref b29)])) rfl rfl (hb hby at_21)
    have V30 : own_AF Z h30 b29 .byte 3 (fun i => if i = 0 then (nar .byte (i1.toInt8.toInt32)) else (fun _ => 0) i) := own_AFset Ar30 Sz30 Ht30 W30
    obtain ⟨gf30, hgf30⟩ : ∃ g' : Nat → Int32, g' = (fun i => if i = 0 then (nar .byte (i1.toInt8.toInt32)) else (fun _ => 0) i) := ⟨_, rfl⟩
    rw [← hgf30] at V30
    have N30 := Fr.snoc X30 N fr29
    have Z030 : n0 ≤ h30.size := Nat.le_trans Z029 (Nat.le_of_eq W30.size.symm)
    refine own_step st30 ?_
    show own_Fin p e below s Q 16 128 (T30.setTop (mkF m 22 #[.val (.int i0), .val (.int i1), .val (.int i2), .val (.int i3), .val (.int i4), .val (.int i5), .val (.int (3 : Int32)), .val (.ref b29), .unset, .unset] []))
    refine own_step (fun t k => XS.iload X30.here hx rfl (hb hby at_22) rfl  k) ?_
    show own_Fin p e below s Q 16 128 (T30.setTop (mkF m 24 #[.val (.int i0), .val (.int i1), .val (.int i2), .val (.int i3), .val (.int i4), .val (.int i5), .val (.int (3 : Int32)), .val (.ref b29), .unset, .unset] [(.int (3 : Int32))]))
    refine own_step (fun t k => XS.iconst X30.here hx rfl (hb hby at_24) k) ?_
    show own_Fin p e below s Q 16 128 (T30.setTop (mkF m 25 #[.val (.int i0), .val (.int i1), .val (.int i2), .val (.int i3), .val (.int i4), .val (.int i5), .val (.int (3 : Int32)), .val (.ref b29), .unset, .unset] [(.int (1 : Int32)), (.int (3 : Int32))]))
    refine own_step (fun t k => XS.icmpNo X30.here hx rfl (hb hby at_25) rfl (tlt (by decide : (1 : Int32) < (3 : Int32))).2.2.2 k) ?_
    show own_Fin p e below s Q 16 128 (T30.setTop (mkF m 28 #[.val (.int i0), .val (.int i1), .val (.int i2), .val (.int i3), .val (.int i4), .val (.int i5), .val (.int (3 : Int32)), .val (.ref b29), .unset, .unset] []))
    refine own_step (fun t k => XS.aload X30.here hx rfl (hb hby at_28) rfl rfl k) ?_
    show own_Fin p e below s Q 16 128 (T30.setTop (mkF m 30 #[.val (.int i0), .val (.int i1), .val (.int i2), .val (.int i3), .val (.int i4), .val (.int i5), .val (.int (3 : Int32)), .val (.ref b29), .unset, .unset] [(.ref b29)]))
    refine own_step (fun t k => XS.iconst X30.here hx rfl (hb hby at_30) k) ?_
    show own_Fin p e below s Q 16 128 (T30.setTop (mkF m 31 #[.val (.int i0), .val (.int i1), .val (.int i2), .val (.int i3), .val (.int i4), .val (.int i5), .val (.int (3 : Int32)), .val (.ref b29), .unset, .unset] [(.int (1 : Int32)), (.ref b29)]))
    refine own_step (fun t k => XS.iloadN X30.here hx rfl (hb hby at_31) rfl  k) ?_
    show own_Fin p e below s Q 16 128 (T30.setTop (mkF m 32 #[.val (.int i0), .val (.int i1), .val (.int i2), .val (.int i3), .val (.int i4), .val (.int i5), .val (.int (3 : Int32)), .val (.ref b29), .unset, .unset] [(.int i2), (.int (1 : Int32)), (.ref b29)]))
    refine own_step (fun t k => XS.i2b X30.here hx rfl (hb hby at_32) rfl k) ?_
    show own_Fin p e below s Q 16 128 (T30.setTop (mkF m 33 #[.val (.int i0), .val (.int i1), .val (.int i2), .val (.int i3), .val (.int i4), .val (.int i5), .val (.int (3 : Int32)), .val (.ref b29), .unset, .unset] [(.int (i2.toInt8.toInt32)), (.int (1 : Int32)), (.ref b29)]))
    obtain ⟨ca31, Ar31, Sz31, Ht31⟩ := id V30
    have hin31 : ¬ ((1 : Int32) < 0 ∨ ca31.slots.size ≤ ((1 : Int32)).toNatClampNeg) := by rw [Sz31]; exact (by decide)
    obtain ⟨T31, h31, X31, e31, W31, st31⟩ := stB X30 hx hZ e30 Ar31 (j := (1 : Int32)) hin31 (g := (mkF m 33 #[.val (.int i0), .val (.int i1), .val (.int i2), .val (.int i3), .val (.int i4), .val (.int i5), .val (.int (3 : Int32)), .val (.ref b29), .unset, .unset] [(.int (i2.toInt8.toInt32)), (.int (1 : Int32)), (.ref b29)])) rfl rfl (hb hby at_33)
    have V31 : own_AF Z h31 b29 .byte 3 (fun i => if i = 1 then (nar .byte (i2.toInt8.toInt32)) else gf30 i) := own_AFset Ar31 Sz31 Ht31 W31
    obtain ⟨gf31, hgf31⟩ : ∃ g' : Nat → Int32, g' = (fun i => if i = 1 then (nar .byte (i2.toInt8.toInt32)) else gf30 i) := ⟨_, rfl⟩
    rw [← hgf31] at V31
    have N31 := Fr.snoc X31 N30 fr29
    have Z031 : n0 ≤ h31.size := Nat.le_trans Z030 (Nat.le_of_eq W31.size.symm)
    refine own_step st31 ?_
    show own_Fin p e below s Q 16 128 (T31.setTop (mkF m 34 #[.val (.int i0), .val (.int i1), .val (.int i2), .val (.int i3), .val (.int i4), .val (.int i5), .val (.int (3 : Int32)), .val (.ref b29), .unset, .unset] []))
    refine own_step (fun t k => XS.iload X31.here hx rfl (hb hby at_34) rfl  k) ?_
    show own_Fin p e below s Q 16 128 (T31.setTop (mkF m 36 #[.val (.int i0), .val (.int i1), .val (.int i2), .val (.int i3), .val (.int i4), .val (.int i5), .val (.int (3 : Int32)), .val (.ref b29), .unset, .unset] [(.int (3 : Int32))]))
    refine own_step (fun t k => XS.iconst X31.here hx rfl (hb hby at_36) k) ?_
    show own_Fin p e below s Q 16 128 (T31.setTop (mkF m 37 #[.val (.int i0), .val (.int i1), .val (.int i2), .val (.int i3), .val (.int i4), .val (.int i5), .val (.int (3 : Int32)), .val (.ref b29), .unset, .unset] [(.int (2 : Int32)), (.int (3 : Int32))]))
    refine own_step (fun t k => XS.icmpNo X31.here hx rfl (hb hby at_37) rfl (tlt (by decide : (2 : Int32) < (3 : Int32))).2.2.2 k) ?_
    show own_Fin p e below s Q 16 128 (T31.setTop (mkF m 40 #[.val (.int i0), .val (.int i1), .val (.int i2), .val (.int i3), .val (.int i4), .val (.int i5), .val (.int (3 : Int32)), .val (.ref b29), .unset, .unset] []))
    refine own_step (fun t k => XS.aload X31.here hx rfl (hb hby at_40) rfl rfl k) ?_
    show own_Fin p e below s Q 16 128 (T31.setTop (mkF m 42 #[.val (.int i0), .val (.int i1), .val (.int i2), .val (.int i3), .val (.int i4), .val (.int i5), .val (.int (3 : Int32)), .val (.ref b29), .unset, .unset] [(.ref b29)]))
    refine own_step (fun t k => XS.iconst X31.here hx rfl (hb hby at_42) k) ?_
    show own_Fin p e below s Q 16 128 (T31.setTop (mkF m 43 #[.val (.int i0), .val (.int i1), .val (.int i2), .val (.int i3), .val (.int i4), .val (.int i5), .val (.int (3 : Int32)), .val (.ref b29), .unset, .unset] [(.int (2 : Int32)), (.ref b29)]))
    refine own_step (fun t k => XS.iloadN X31.here hx rfl (hb hby at_43) rfl  k) ?_
    show own_Fin p e below s Q 16 128 (T31.setTop (mkF m 44 #[.val (.int i0), .val (.int i1), .val (.int i2), .val (.int i3), .val (.int i4), .val (.int i5), .val (.int (3 : Int32)), .val (.ref b29), .unset, .unset] [(.int i3), (.int (2 : Int32)), (.ref b29)]))
    refine own_step (fun t k => XS.i2b X31.here hx rfl (hb hby at_44) rfl k) ?_
    show own_Fin p e below s Q 16 128 (T31.setTop (mkF m 45 #[.val (.int i0), .val (.int i1), .val (.int i2), .val (.int i3), .val (.int i4), .val (.int i5), .val (.int (3 : Int32)), .val (.ref b29), .unset, .unset] [(.int (i3.toInt8.toInt32)), (.int (2 : Int32)), (.ref b29)]))
    obtain ⟨ca32, Ar32, Sz32, Ht32⟩ := id V31
    have hin32 : ¬ ((2 : Int32) < 0 ∨ ca32.slots.size ≤ ((2 : Int32)).toNatClampNeg) := by rw [Sz32]; exact (by decide)
    obtain ⟨T32, h32, X32, e32, W32, st32⟩ := stB X31 hx hZ e31 Ar32 (j := (2 : Int32)) hin32 (g := (mkF m 45 #[.val (.int i0), .val (.int i1), .val (.int i2), .val (.int i3), .val (.int i4), .val (.int i5), .val (.int (3 : Int32)), .val (.ref b29), .unset, .unset] [(.int (i3.toInt8.toInt32)), (.int (2 : Int32)), (.ref b29)])) rfl rfl (hb hby at_45)
    have V32 : own_AF Z h32 b29 .byte 3 (fun i => if i = 2 then (nar .byte (i3.toInt8.toInt32)) else gf31 i) := own_AFset Ar32 Sz32 Ht32 W32
    obtain ⟨gf32, hgf32⟩ : ∃ g' : Nat → Int32, g' = (fun i => if i = 2 then (nar .byte (i3.toInt8.toInt32)) else gf31 i) := ⟨_, rfl⟩
    rw [← hgf32] at V32
    have N32 := Fr.snoc X32 N31 fr29
    have Z032 : n0 ≤ h32.size := Nat.le_trans Z031 (Nat.le_of_eq W32.size.symm)
    refine own_step st32 ?_
    show own_Fin p e below s Q 16 128 (T32.setTop (mkF m 46 #[.val (.int i0), .val (.int i1), .val (.int i2), .val (.int i3), .val (.int i4), .val (.int i5), .val (.int (3 : Int32)), .val (.ref b29), .unset, .unset] []))
    obtain ⟨T33, h33, X33, e33, E33, A33, D33, -, st33⟩ := newO X32 hx hZ hown (hw _ (List.mem_of_getElem? (i := 1) rfl)) (hw _ (List.mem_of_getElem? (i := 2) rfl)) (hw _ (List.mem_of_getElem? (i := 3) rfl)) e32 (g := (mkF m 46 #[.val (.int i0), .val (.int i1), .val (.int i2), .val (.int i3), .val (.int i4), .val (.int i5), .val (.int (3 : Int32)), .val (.ref b29), .unset, .unset] [])) rfl (hb hby at_46) (show cells + 1 + 1 ≤ 16 from (Nat.le_trans (Nat.add_le_add_right hc 2) (by decide))) (show slots + 3 + 7 ≤ 128 from (Nat.le_trans (Nat.add_le_add_right hs 10) (by decide)))
    obtain ⟨b33, gg33⟩ : ∃ z, z = h32.size := ⟨_, rfl⟩
    rw [← gg33] at A33 D33 st33
    have F33_name : Fld Z h33 b33 "com/example/endorse/endorse/ArchiveEntry" "name" "[B" .null := D33 (Or.inr (hw _ (List.mem_of_getElem? (i := 11) rfl))) (ty := (.array .byte)) (by decide)
    have F33_flags : Fld Z h33 b33 "com/example/endorse/endorse/ArchiveEntry" "flags" "I" (.int (0 : Int32)) := D33 (Or.inr (hw _ (List.mem_of_getElem? (i := 13) rfl))) (ty := .int) (by decide)
    have F33_method : Fld Z h33 b33 "com/example/endorse/endorse/ArchiveEntry" "method" "I" (.int (0 : Int32)) := D33 (Or.inr (hw _ (List.mem_of_getElem? (i := 15) rfl))) (ty := .int) (by decide)
    have F33_crc : Fld Z h33 b33 "com/example/endorse/endorse/ArchiveEntry" "crc" "J" (.long (0 : Int64)) := D33 (Or.inr (hw _ (List.mem_of_getElem? (i := 17) rfl))) (ty := .long) (by decide)
    have F33_compressedSize : Fld Z h33 b33 "com/example/endorse/endorse/ArchiveEntry" "compressedSize" "J" (.long (0 : Int64)) := D33 (Or.inr (hw _ (List.mem_of_getElem? (i := 19) rfl))) (ty := .long) (by decide)
    have F33_size : Fld Z h33 b33 "com/example/endorse/endorse/ArchiveEntry" "size" "J" (.long (0 : Int64)) := D33 (Or.inr (hw _ (List.mem_of_getElem? (i := 21) rfl))) (ty := .long) (by decide)
    have F33_localHeaderOffset : Fld Z h33 b33 "com/example/endorse/endorse/ArchiveEntry" "localHeaderOffset" "J" (.long (0 : Int64)) := D33 (Or.inr (hw _ (List.mem_of_getElem? (i := 23) rfl))) (ty := .long) (by decide)
    have fr33 : n0 ≤ b33 := Nat.le_trans Z032 (Nat.le_of_eq gg33.symm)
    have Z033 : n0 ≤ h33.size := Nat.le_trans Z032 E33.1
    have neb29_33 : b29 ≠ b33 := Nat.ne_of_lt (Nat.lt_of_lt_of_le V32.lt (Nat.le_of_eq gg33.symm))
    have V33_b29 := own_AFext V32 E33
    refine own_step st33 ?_
    show own_Fin p e below s Q 16 128 (T33.setTop (mkF m 49 #[.val (.int i0), .val (.int i1), .val (.int i2), .val (.int i3), .val (.int i4), .val (.int i5), .val (.int (3 : Int32)), .val (.ref b29), .unset, .unset] [(.ref b33)]))
    refine own_step (fun t k => XS.dup X33.here hx rfl (hb hby at_49) rfl rfl k) ?_
    show own_Fin p e below s Q 16 128 (T33.setTop (mkF m 50 #[.val (.int i0), .val (.int i1), .val (.int i2), .val (.int i3), .val (.int i4), .val (.int i5), .val (.int (3 : Int32)), .val (.ref b29), .unset, .unset] [(.ref b33), (.ref b33)]))
    refine own_step (fun t k => XS.aload X33.here hx rfl (hb hby at_50) rfl rfl k) ?_
    show own_Fin p e below s Q 16 128 (T33.setTop (mkF m 52 #[.val (.int i0), .val (.int i1), .val (.int i2), .val (.int i3), .val (.int i4), .val (.int i5), .val (.int (3 : Int32)), .val (.ref b29), .unset, .unset] [(.ref b29), (.ref b33), (.ref b33)]))
    refine own_step (fun t k => XS.iload X33.here hx rfl (hb hby at_52) rfl  k) ?_
    show own_Fin p e below s Q 16 128 (T33.setTop (mkF m 54 #[.val (.int i0), .val (.int i1), .val (.int i2), .val (.int i3), .val (.int i4), .val (.int i5), .val (.int (3 : Int32)), .val (.ref b29), .unset, .unset] [(.int i4), (.ref b29), (.ref b33), (.ref b33)]))
    refine own_step (fun t k => XS.iload X33.here hx rfl (hb hby at_54) rfl  k) ?_
    show own_Fin p e below s Q 16 128 (T33.setTop (mkF m 56 #[.val (.int i0), .val (.int i1), .val (.int i2), .val (.int i3), .val (.int i4), .val (.int i5), .val (.int (3 : Int32)), .val (.ref b29), .unset, .unset] [(.int i5), (.int i4), (.ref b29), (.ref b33), (.ref b33)]))
    refine own_step (fun t k => XS.lconst X33.here hx rfl (hb hby at_56) k) ?_
    show own_Fin p e below s Q 16 128 (T33.setTop (mkF m 57 #[.val (.int i0), .val (.int i1), .val (.int i2), .val (.int i3), .val (.int i4), .val (.int i5), .val (.int (3 : Int32)), .val (.ref b29), .unset, .unset] [(.long (0 : Int64)), (.int i5), (.int i4), (.ref b29), (.ref b33), (.ref b33)]))
    refine own_step (fun t k => XS.lconst X33.here hx rfl (hb hby at_57) k) ?_
    show own_Fin p e below s Q 16 128 (T33.setTop (mkF m 58 #[.val (.int i0), .val (.int i1), .val (.int i2), .val (.int i3), .val (.int i4), .val (.int i5), .val (.int (3 : Int32)), .val (.ref b29), .unset, .unset] [(.long (0 : Int64)), (.long (0 : Int64)), (.int i5), (.int i4), (.ref b29), (.ref b33), (.ref b33)]))
    refine own_step (fun t k => XS.lconst X33.here hx rfl (hb hby at_58) k) ?_
    show own_Fin p e below s Q 16 128 (T33.setTop (mkF m 59 #[.val (.int i0), .val (.int i1), .val (.int i2), .val (.int i3), .val (.int i4), .val (.int i5), .val (.int (3 : Int32)), .val (.ref b29), .unset, .unset] [(.long (0 : Int64)), (.long (0 : Int64)), (.long (0 : Int64)), (.int i5), (.int i4), (.ref b29), (.ref b33), (.ref b33)]))
    refine own_step (fun t k => XS.lconst X33.here hx rfl (hb hby at_59) k) ?_
    show own_Fin p e below s Q 16 128 (T33.setTop (mkF m 60 #[.val (.int i0), .val (.int i1), .val (.int i2), .val (.int i3), .val (.int i4), .val (.int i5), .val (.int (3 : Int32)), .val (.ref b29), .unset, .unset] [(.long (0 : Int64)), (.long (0 : Int64)), (.long (0 : Int64)), (.long (0 : Int64)), (.int i5), (.int i4), (.ref b29), (.ref b33), (.ref b33)]))
    obtain ⟨_, _, ⟨T34, L34, k34, n34⟩, -, X34, ⟨Lc34, hQ34, l34, y34, z34⟩, st34⟩ := X33.specialBack hx (y := (⟨"com/example/endorse/endorse/ArchiveEntry", "<init>", "([BIIJJJJ)V"⟩ : MethodName)) rfl hown (mvT hZ (hw _ (List.mem_of_getElem? (i := 4) rfl))) (mvT hZ (hw _ (List.mem_of_getElem? (i := 5) rfl))) (mvT hZ (hw _ (List.mem_of_getElem? (i := 6) rfl))) (by decide) (backOf (W := 1) (rm1 l Z a0 hw [] b33 b29 i4 i5 (0 : Int64) (0 : Int64) (0 : Int64) (0 : Int64) .null (.int (0 : Int32)) (.int (0 : Int32)) (.long (0 : Int64)) (.long (0 : Int64)) (.long (0 : Int64)) (.long (0 : Int64)) h33 n0 Z033 A33 F33_name fr33 F33_flags F33_method F33_crc F33_compressedSize F33_size F33_localHeaderOffset) hZ (hw _ (List.mem_of_getElem? (i := 6) rfl)) (hw _ (List.mem_of_getElem? (i := 3) rfl)) (by decide) (by decide)) (g := (mkF m 60 #[.val (.int i0), .val (.int i1), .val (.int i2), .val (.int i3), .val (.int i4), .val (.int i5), .val (.int (3 : Int32)), .val (.ref b29), .unset, .unset] [(.long (0 : Int64)), (.long (0 : Int64)), (.long (0 : Int64)), (.long (0 : Int64)), (.int i5), (.int i4), (.ref b29), (.ref b33), (.ref b33)])) rfl (by rw [hml]; rfl) (Steps.refl _) (a := b33) (argsL := [(.ref b29), (.int i4), (.int i5), (.long (0 : Int64)), (.long (0 : Int64)), (.long (0 : Int64)), (.long (0 : Int64))]) (rest := [(.ref b33)]) (lenOf pdm_0 rfl) rfl (by show 2 * 0 + _ ≤ _; exact Nat.le_of_eq rfl) (hb hby at_60) (fun _ _ => ⟨rfl, e33, (show cells + 1 + 1 + 0 ≤ 16 from (Nat.le_trans (Nat.add_le_add_right hc 2) (by decide))), (show slots + 3 + 7 + 0 ≤ 128 from (Nat.le_trans (Nat.add_le_add_right hs 10) (by decide)))⟩)
    dsimp only [Pt.U, Pt.locs, Pt.cells, Pt.slots] at X34 l34 y34 z34 st34 hQ34
    have yy34 : k34 = cells + 1 + 1 + 0 := y34
    have zz34 : n34 = slots + 3 + 7 + 0 := z34
    rw [yy34, zz34] at X34
    subst l34
    obtain ⟨rfl, N34q, K34, Ex34, F34_name, F34_flags, F34_method, F34_crc, F34_compressedSize, F34_size, F34_localHeaderOffset⟩ := hQ34
    have N34 := Fr.app N32 N34q
    have Z034 : n0 ≤ T34.heap.size := Nat.le_trans Z033 K34.1
    have V34_b29 := own_AFkeep V33_b29 K34 (ninS neb29_33 nin0)
    refine own_step (fun t k => st34.trans k) ?_
    show own_Fin p e below s Q 16 128 (T34.setTop (mkF m 63 #[.val (.int i0), .val (.int i1), .val (.int i2), .val (.int i3), .val (.int i4), .val (.int i5), .val (.int (3 : Int32)), .val (.ref b29), .unset, .unset] [(.ref b33)]))
    refine own_step (fun t k => XS.astore X34.here hx rfl (hb hby at_63) rfl rfl (l' := #[.val (.int i0), .val (.int i1), .val (.int i2), .val (.int i3), .val (.int i4), .val (.int i5), .val (.int (3 : Int32)), .val (.ref b29), .val (.ref b33), .unset]) rfl k) ?_
    show own_Fin p e below s Q 16 128 (T34.setTop (mkF m 65 #[.val (.int i0), .val (.int i1), .val (.int i2), .val (.int i3), .val (.int i4), .val (.int i5), .val (.int (3 : Int32)), .val (.ref b29), .val (.ref b33), .unset] []))
    refine own_step (fun t k => XS.iload X34.here hx rfl (hb hby at_65) rfl  k) ?_
    show own_Fin p e below s Q 16 128 (T34.setTop (mkF m 67 #[.val (.int i0), .val (.int i1), .val (.int i2), .val (.int i3), .val (.int i4), .val (.int i5), .val (.int (3 : Int32)), .val (.ref b29), .val (.ref b33), .unset] [(.int (3 : Int32))]))
    refine own_step (fun t k => XS.ifYes X34.here hx rfl (pc0 := 67) (pc' := 76) rfl (hb hby at_67) rfl ((if0 _ _).trans (feq (by decide : ¬ ((3 : Int32) = (0 : Int32)))).2) (by decide) (by decide) k) ?_
    show own_Fin p e below s Q 16 128 (T34.setTop (mkF m 76 #[.val (.int i0), .val (.int i1), .val (.int i2), .val (.int i3), .val (.int i4), .val (.int i5), .val (.int (3 : Int32)), .val (.ref b29), .val (.ref b33), .unset] []))
    refine own_step (fun t k => XS.iload X34.here hx rfl (hb hby at_76) rfl  k) ?_
    show own_Fin p e below s Q 16 128 (T34.setTop (mkF m 78 #[.val (.int i0), .val (.int i1), .val (.int i2), .val (.int i3), .val (.int i4), .val (.int i5), .val (.int (3 : Int32)), .val (.ref b29), .val (.ref b33), .unset] [(.int (3 : Int32))]))
    refine own_step (fun t k => XS.iconst X34.here hx rfl (hb hby at_78) k) ?_
    show own_Fin p e below s Q 16 128 (T34.setTop (mkF m 79 #[.val (.int i0), .val (.int i1), .val (.int i2), .val (.int i3), .val (.int i4), .val (.int i5), .val (.int (3 : Int32)), .val (.ref b29), .val (.ref b33), .unset] [(.int (1 : Int32)), (.int (3 : Int32))]))
    refine own_step (fun t k => XS.icmpYes X34.here hx rfl (pc0 := 79) (pc' := 99) rfl (hb hby at_79) rfl (feq (by decide : ¬ ((3 : Int32) = (1 : Int32)))).2 (by decide) (by decide) k) ?_
    show own_Fin p e below s Q 16 128 (T34.setTop (mkF m 99 #[.val (.int i0), .val (.int i1), .val (.int i2), .val (.int i3), .val (.int i4), .val (.int i5), .val (.int (3 : Int32)), .val (.ref b29), .val (.ref b33), .unset] []))
    refine own_step (fun t k => XS.iload X34.here hx rfl (hb hby at_99) rfl  k) ?_
    show own_Fin p e below s Q 16 128 (T34.setTop (mkF m 101 #[.val (.int i0), .val (.int i1), .val (.int i2), .val (.int i3), .val (.int i4), .val (.int i5), .val (.int (3 : Int32)), .val (.ref b29), .val (.ref b33), .unset] [(.int (3 : Int32))]))
    refine own_step (fun t k => XS.iconst X34.here hx rfl (hb hby at_101) k) ?_
    show own_Fin p e below s Q 16 128 (T34.setTop (mkF m 102 #[.val (.int i0), .val (.int i1), .val (.int i2), .val (.int i3), .val (.int i4), .val (.int i5), .val (.int (3 : Int32)), .val (.ref b29), .val (.ref b33), .unset] [(.int (2 : Int32)), (.int (3 : Int32))]))
    refine own_step (fun t k => XS.icmpYes X34.here hx rfl (pc0 := 102) (pc' := 122) rfl (hb hby at_102) rfl (feq (by decide : ¬ ((3 : Int32) = (2 : Int32)))).2 (by decide) (by decide) k) ?_
    show own_Fin p e below s Q 16 128 (T34.setTop (mkF m 122 #[.val (.int i0), .val (.int i1), .val (.int i2), .val (.int i3), .val (.int i4), .val (.int i5), .val (.int (3 : Int32)), .val (.ref b29), .val (.ref b33), .unset] []))
    refine own_step (fun t k => XS.iloadN X34.here hx rfl (hb hby at_122) rfl  k) ?_
    show own_Fin p e below s Q 16 128 (T34.setTop (mkF m 123 #[.val (.int i0), .val (.int i1), .val (.int i2), .val (.int i3), .val (.int i4), .val (.int i5), .val (.int (3 : Int32)), .val (.ref b29), .val (.ref b33), .unset] [(.int i3)]))
    refine own_step (fun t k => XS.i2b X34.here hx rfl (hb hby at_123) rfl k) ?_
    show own_Fin p e below s Q 16 128 (T34.setTop (mkF m 124 #[.val (.int i0), .val (.int i1), .val (.int i2), .val (.int i3), .val (.int i4), .val (.int i5), .val (.int (3 : Int32)), .val (.ref b29), .val (.ref b33), .unset] [(.int (i3.toInt8.toInt32))]))
    refine own_step (fun t k => XS.bipush X34.here hx rfl (hb hby at_124) k) ?_
    show own_Fin p e below s Q 16 128 (T34.setTop (mkF m 126 #[.val (.int i0), .val (.int i1), .val (.int i2), .val (.int i3), .val (.int i4), .val (.int i5), .val (.int (3 : Int32)), .val (.ref b29), .val (.ref b33), .unset] [(.int (47 : Int32)), (.int (i3.toInt8.toInt32))]))
    by_cases hB126_35 : (i3.toInt8.toInt32) = (47 : Int32)
    · refine own_step (fun t k => XS.icmpNo X34.here hx rfl (hb hby at_126) rfl (teq hB126_35).2 k) ?_
      show own_Fin p e below s Q 16 128 (T34.setTop (mkF m 129 #[.val (.int i0), .val (.int i1), .val (.int i2), .val (.int i3), .val (.int i4), .val (.int i5), .val (.int (3 : Int32)), .val (.ref b29), .val (.ref b33), .unset] []))
      refine own_step (fun t k => XS.iconst X34.here hx rfl (hb hby at_129) k) ?_
      show own_Fin p e below s Q 16 128 (T34.setTop (mkF m 130 #[.val (.int i0), .val (.int i1), .val (.int i2), .val (.int i3), .val (.int i4), .val (.int i5), .val (.int (3 : Int32)), .val (.ref b29), .val (.ref b33), .unset] [(.int (1 : Int32))]))
      refine own_step (fun t k => XS.goto X34.here hx rfl (pc0 := 130) (pc' := 134) rfl (hb hby at_130) (by decide) (by decide) k) ?_
      show own_Fin p e below s Q 16 128 (T34.setTop (mkF m 134 #[.val (.int i0), .val (.int i1), .val (.int i2), .val (.int i3), .val (.int i4), .val (.int i5), .val (.int (3 : Int32)), .val (.ref b29), .val (.ref b33), .unset] [(.int (1 : Int32))]))
      refine own_step (fun t k => XS.istore X34.here hx rfl (hb hby at_134) rfl (l' := #[.val (.int i0), .val (.int i1), .val (.int i2), .val (.int i3), .val (.int i4), .val (.int i5), .val (.int (3 : Int32)), .val (.ref b29), .val (.ref b33), .val (.int (1 : Int32))]) rfl k) ?_
      show own_Fin p e below s Q 16 128 (T34.setTop (mkF m 136 #[.val (.int i0), .val (.int i1), .val (.int i2), .val (.int i3), .val (.int i4), .val (.int i5), .val (.int (3 : Int32)), .val (.ref b29), .val (.ref b33), .val (.int (1 : Int32))] []))
      refine own_step (fun t k => XS.aload X34.here hx rfl (hb hby at_136) rfl rfl k) ?_
      show own_Fin p e below s Q 16 128 (T34.setTop (mkF m 138 #[.val (.int i0), .val (.int i1), .val (.int i2), .val (.int i3), .val (.int i4), .val (.int i5), .val (.int (3 : Int32)), .val (.ref b29), .val (.ref b33), .val (.int (1 : Int32))] [(.ref b33)]))
      obtain ⟨cq36, kq36, q36a, q36b, q36c⟩ := isOf hZ rfl Ex34
      obtain ⟨_, _, ⟨T36, L36, k36, n36⟩, -, X36, ⟨Lc36, hQ36, l36, y36, z36⟩, st36⟩ := X34.virtualBack hx (y := (⟨"com/example/endorse/endorse/ArchiveEntry", "isDirectory", "()Z"⟩ : MethodName)) (z := (⟨"com/example/endorse/endorse/ArchiveEntry", "isDirectory", "()Z"⟩ : MethodName)) hown (mvT hZ (hw _ (List.mem_of_getElem? (i := 24) rfl))) (mvT hZ (hw _ (List.mem_of_getElem? (i := 25) rfl))) (notFace_of_selects (args := #[]) (mvT hZ (hw _ (List.mem_of_getElem? (i := 27) rfl)))) (mvT hZ (hw _ (List.mem_of_getElem? (i := 27) rfl))) (mvT hZ (hw _ (List.mem_of_getElem? (i := 26) rfl))) (by decide) (backOf (W := 0) (rm3 l Z a0 hw [] b33 b29 gf32 3 T34.heap n0 F34_name V34_b29 (by decide)) hZ (hw _ (List.mem_of_getElem? (i := 28) rfl)) (hw _ (List.mem_of_getElem? (i := 3) rfl)) (by decide) (by decide)) q36a q36c (g := (mkF m 138 #[.val (.int i0), .val (.int i1), .val (.int i2), .val (.int i3), .val (.int i4), .val (.int i5), .val (.int (3 : Int32)), .val (.ref b29), .val (.ref b33), .val (.int (1 : Int32))] [(.ref b33)])) rfl (by rw [hml]; rfl) (Steps.refl _) (argsL := []) (rest := []) (lenOf pdm_1 rfl) rfl (by show 2 * 0 + _ ≤ _; exact Nat.le_of_eq rfl) (hb hby at_138) (fun _ _ => ⟨rfl, rfl, (show cells + 1 + 1 + 0 + 0 ≤ 16 from (Nat.le_trans (Nat.add_le_add_right hc 2) (by decide))), (show slots + 3 + 7 + 0 + 0 ≤ 128 from (Nat.le_trans (Nat.add_le_add_right hs 10) (by decide)))⟩)
      dsimp only [Pt.U, Pt.locs, Pt.cells, Pt.slots] at X36 l36 y36 z36 st36 hQ36
      have yy36 : k36 = cells + 1 + 1 + 0 + 0 := y36
      have zz36 : n36 = slots + 3 + 7 + 0 + 0 := z36
      rw [yy36, zz36] at X36
      subst l36
      obtain ⟨rfl, N36q, e36⟩ := hQ36
      have N36 := Fr.app N34 N36q
      refine own_step (fun t k => st36.trans k) ?_
      show own_Fin p e below s Q 16 128 (T36.setTop (mkF m 141 #[.val (.int i0), .val (.int i1), .val (.int i2), .val (.int i3), .val (.int i4), .val (.int i5), .val (.int (3 : Int32)), .val (.ref b29), .val (.ref b33), .val (.int (1 : Int32))] [(.int (f3_0 gf32 3))]))
      refine own_step (fun t k => XS.iload X36.here hx rfl (hb hby at_141) rfl  k) ?_
      show own_Fin p e below s Q 16 128 (T36.setTop (mkF m 143 #[.val (.int i0), .val (.int i1), .val (.int i2), .val (.int i3), .val (.int i4), .val (.int i5), .val (.int (3 : Int32)), .val (.ref b29), .val (.ref b33), .val (.int (1 : Int32))] [(.int (1 : Int32)), (.int (f3_0 gf32 3))]))
      refine own_step (fun t k => XS.icmpNo X36.here hx rfl (hb hby at_143) rfl (teq ((own_dir _ 2 3 i3 (by decide) (by decide) (by rw [hgf32, hgf31, hgf30]; rfl)).1 hB126_35)).2 k) ?_
      show own_Fin p e below s Q 16 128 (T36.setTop (mkF m 146 #[.val (.int i0), .val (.int i1), .val (.int i2), .val (.int i3), .val (.int i4), .val (.int i5), .val (.int (3 : Int32)), .val (.ref b29), .val (.ref b33), .val (.int (1 : Int32))] []))
      refine own_step (fun t k => XS.iconst X36.here hx rfl (hb hby at_146) k) ?_
      show own_Fin p e below s Q 16 128 (T36.setTop (mkF m 147 #[.val (.int i0), .val (.int i1), .val (.int i2), .val (.int i3), .val (.int i4), .val (.int i5), .val (.int (3 : Int32)), .val (.ref b29), .val (.ref b33), .val (.int (1 : Int32))] [(.int (1 : Int32))]))
      refine own_step (fun t k => XS.goto X36.here hx rfl (pc0 := 147) (pc' := 151) rfl (hb hby at_147) (by decide) (by decide) k) ?_
      show own_Fin p e below s Q 16 128 (T36.setTop (mkF m 151 #[.val (.int i0), .val (.int i1), .val (.int i2), .val (.int i3), .val (.int i4), .val (.int i5), .val (.int (3 : Int32)), .val (.ref b29), .val (.ref b33), .val (.int (1 : Int32))] [(.int (1 : Int32))]))
      exact own_retN X36 hx hlk hret (by simp) (hb hby at_151) (Nat.le_trans (Nat.add_le_add_right hc 2) (by decide)) (Nat.le_trans (Nat.add_le_add_right hs 10) (by decide)) rfl N36 (fun L' n' => hQ _ L' n') (rfl)
    · refine own_step (fun t k => XS.icmpYes X34.here hx rfl (pc0 := 126) (pc' := 133) rfl (hb hby at_126) rfl (feq hB126_35).2 (by decide) (by decide) k) ?_
      show own_Fin p e below s Q 16 128 (T34.setTop (mkF m 133 #[.val (.int i0), .val (.int i1), .val (.int i2), .val (.int i3), .val (.int i4), .val (.int i5), .val (.int (3 : Int32)), .val (.ref b29), .val (.ref b33), .unset] []))
      refine own_step (fun t k => XS.iconst X34.here hx rfl (hb hby at_133) k) ?_
      show own_Fin p e below s Q 16 128 (T34.setTop (mkF m 134 #[.val (.int i0), .val (.int i1), .val (.int i2), .val (.int i3), .val (.int i4), .val (.int i5), .val (.int (3 : Int32)), .val (.ref b29), .val (.ref b33), .unset] [(.int (0 : Int32))]))
      refine own_step (fun t k => XS.istore X34.here hx rfl (hb hby at_134) rfl (l' := #[.val (.int i0), .val (.int i1), .val (.int i2), .val (.int i3), .val (.int i4), .val (.int i5), .val (.int (3 : Int32)), .val (.ref b29), .val (.ref b33), .val (.int (0 : Int32))]) rfl k) ?_
      show own_Fin p e below s Q 16 128 (T34.setTop (mkF m 136 #[.val (.int i0), .val (.int i1), .val (.int i2), .val (.int i3), .val (.int i4), .val (.int i5), .val (.int (3 : Int32)), .val (.ref b29), .val (.ref b33), .val (.int (0 : Int32))] []))
      refine own_step (fun t k => XS.aload X34.here hx rfl (hb hby at_136) rfl rfl k) ?_
      show own_Fin p e below s Q 16 128 (T34.setTop (mkF m 138 #[.val (.int i0), .val (.int i1), .val (.int i2), .val (.int i3), .val (.int i4), .val (.int i5), .val (.int (3 : Int32)), .val (.ref b29), .val (.ref b33), .val (.int (0 : Int32))] [(.ref b33)]))
      obtain ⟨cq37, kq37, q37a, q37b, q37c⟩ := isOf hZ rfl Ex34
      obtain ⟨_, _, ⟨T37, L37, k37, n37⟩, -, X37, ⟨Lc37, hQ37, l37, y37, z37⟩, st37⟩ := X34.virtualBack hx (y := (⟨"com/example/endorse/endorse/ArchiveEntry", "isDirectory", "()Z"⟩ : MethodName)) (z := (⟨"com/example/endorse/endorse/ArchiveEntry", "isDirectory", "()Z"⟩ : MethodName)) hown (mvT hZ (hw _ (List.mem_of_getElem? (i := 24) rfl))) (mvT hZ (hw _ (List.mem_of_getElem? (i := 25) rfl))) (notFace_of_selects (args := #[]) (mvT hZ (hw _ (List.mem_of_getElem? (i := 27) rfl)))) (mvT hZ (hw _ (List.mem_of_getElem? (i := 27) rfl))) (mvT hZ (hw _ (List.mem_of_getElem? (i := 26) rfl))) (by decide) (backOf (W := 0) (rm3 l Z a0 hw [] b33 b29 gf32 3 T34.heap n0 F34_name V34_b29 (by decide)) hZ (hw _ (List.mem_of_getElem? (i := 28) rfl)) (hw _ (List.mem_of_getElem? (i := 3) rfl)) (by decide) (by decide)) q37a q37c (g := (mkF m 138 #[.val (.int i0), .val (.int i1), .val (.int i2), .val (.int i3), .val (.int i4), .val (.int i5), .val (.int (3 : Int32)), .val (.ref b29), .val (.ref b33), .val (.int (0 : Int32))] [(.ref b33)])) rfl (by rw [hml]; rfl) (Steps.refl _) (argsL := []) (rest := []) (lenOf pdm_1 rfl) rfl (by show 2 * 0 + _ ≤ _; exact Nat.le_of_eq rfl) (hb hby at_138) (fun _ _ => ⟨rfl, rfl, (show cells + 1 + 1 + 0 + 0 ≤ 16 from (Nat.le_trans (Nat.add_le_add_right hc 2) (by decide))), (show slots + 3 + 7 + 0 + 0 ≤ 128 from (Nat.le_trans (Nat.add_le_add_right hs 10) (by decide)))⟩)
      dsimp only [Pt.U, Pt.locs, Pt.cells, Pt.slots] at X37 l37 y37 z37 st37 hQ37
      have yy37 : k37 = cells + 1 + 1 + 0 + 0 := y37
      have zz37 : n37 = slots + 3 + 7 + 0 + 0 := z37
      rw [yy37, zz37] at X37
      subst l37
      obtain ⟨rfl, N37q, e37⟩ := hQ37
      have N37 := Fr.app N34 N37q
      refine own_step (fun t k => st37.trans k) ?_
      show own_Fin p e below s Q 16 128 (T37.setTop (mkF m 141 #[.val (.int i0), .val (.int i1), .val (.int i2), .val (.int i3), .val (.int i4), .val (.int i5), .val (.int (3 : Int32)), .val (.ref b29), .val (.ref b33), .val (.int (0 : Int32))] [(.int (f3_0 gf32 3))]))
      refine own_step (fun t k => XS.iload X37.here hx rfl (hb hby at_141) rfl  k) ?_
      show own_Fin p e below s Q 16 128 (T37.setTop (mkF m 143 #[.val (.int i0), .val (.int i1), .val (.int i2), .val (.int i3), .val (.int i4), .val (.int i5), .val (.int (3 : Int32)), .val (.ref b29), .val (.ref b33), .val (.int (0 : Int32))] [(.int (0 : Int32)), (.int (f3_0 gf32 3))]))
      refine own_step (fun t k => XS.icmpNo X37.here hx rfl (hb hby at_143) rfl (teq ((own_dir _ 2 3 i3 (by decide) (by decide) (by rw [hgf32, hgf31, hgf30]; rfl)).2 hB126_35)).2 k) ?_
      show own_Fin p e below s Q 16 128 (T37.setTop (mkF m 146 #[.val (.int i0), .val (.int i1), .val (.int i2), .val (.int i3), .val (.int i4), .val (.int i5), .val (.int (3 : Int32)), .val (.ref b29), .val (.ref b33), .val (.int (0 : Int32))] []))
      refine own_step (fun t k => XS.iconst X37.here hx rfl (hb hby at_146) k) ?_
      show own_Fin p e below s Q 16 128 (T37.setTop (mkF m 147 #[.val (.int i0), .val (.int i1), .val (.int i2), .val (.int i3), .val (.int i4), .val (.int i5), .val (.int (3 : Int32)), .val (.ref b29), .val (.ref b33), .val (.int (0 : Int32))] [(.int (1 : Int32))]))
      refine own_step (fun t k => XS.goto X37.here hx rfl (pc0 := 147) (pc' := 151) rfl (hb hby at_147) (by decide) (by decide) k) ?_
      show own_Fin p e below s Q 16 128 (T37.setTop (mkF m 151 #[.val (.int i0), .val (.int i1), .val (.int i2), .val (.int i3), .val (.int i4), .val (.int i5), .val (.int (3 : Int32)), .val (.ref b29), .val (.ref b33), .val (.int (0 : Int32))] [(.int (1 : Int32))]))
      exact own_retN X37 hx hlk hret (by simp) (hb hby at_151) (Nat.le_trans (Nat.add_le_add_right hc 2) (by decide)) (Nat.le_trans (Nat.add_le_add_right hs 10) (by decide)) rfl N37 (fun L' n' => hQ _ L' n') (rfl)
set_option maxRecDepth 65536 in
set_option maxHeartbeats 40000000 in
theorem b0_0 {p : Program} {l : Launch} {e : Env} {s : State} {m : MethodId} {args : Array Value} {below : List Frame} {meth : Method} {c : Code} {T : State} {locs : List Loc} {cells slots : Nat} {Z : State} {a0 : Array Value} {h : Heap} {n0 : Nat} {Q : Option Value → Heap → List Loc → Prop} (i0 : Int32) (i1 : Int32) (i2 : Int32) (i3 : Int32) (i4 : Int32) (i5 : Int32) (hw : ∀ d ∈ tables_1, d.before a0 Z = true) (X : Stand p l e room_1 s m args below meth c T locs cells slots) (hx : p.tables.exec = Jvm.exec) (hZ : Z.Warmed39 s.vm) (hby : c.code = code) (hml : c.maxLocals = 10) (hown : s.vm.findClass "com/example/endorse/endorse/ArchiveEntryIsDirectoryPinLaw" = some m.cls) (hret : meth.sig.returnType = some .boolean) (hlk : meth.locks = false) (eT : T.heap = h) (N : Fr n0 locs) (hc : cells ≤ 0) (hs : slots ≤ 0) (Z0 : n0 ≤ h.size) (hQ : ∀ H' L', Fr n0 L' → Q (some (.int 1)) H' L') :
    own_Fin p e below s Q 16 128 (T.setTop (mkF m 0 #[.val (.int i0), .val (.int i1), .val (.int i2), .val (.int i3), .val (.int i4), .val (.int i5), .unset, .unset, .unset, .unset] [])) := by
  refine own_step (fun t k => XS.iloadN X.here hx rfl (hb hby at_0) rfl  k) ?_
  show own_Fin p e below s Q 16 128 (T.setTop (mkF m 1 #[.val (.int i0), .val (.int i1), .val (.int i2), .val (.int i3), .val (.int i4), .val (.int i5), .unset, .unset, .unset, .unset] [(.int i0)]))
  refine own_step (fun t k => XS.iconst X.here hx rfl (hb hby at_1) k) ?_
  show own_Fin p e below s Q 16 128 (T.setTop (mkF m 2 #[.val (.int i0), .val (.int i1), .val (.int i2), .val (.int i3), .val (.int i4), .val (.int i5), .unset, .unset, .unset, .unset] [(.int (3 : Int32)), (.int i0)]))
  refine own_step (fun t k => XS.iand X.here hx rfl (hb hby at_2) rfl k) ?_
  show own_Fin p e below s Q 16 128 (T.setTop (mkF m 3 #[.val (.int i0), .val (.int i1), .val (.int i2), .val (.int i3), .val (.int i4), .val (.int i5), .unset, .unset, .unset, .unset] [(.int (i0 &&& (3 : Int32)))]))
  refine own_step (fun t k => XS.istore X.here hx rfl (hb hby at_3) rfl (l' := #[.val (.int i0), .val (.int i1), .val (.int i2), .val (.int i3), .val (.int i4), .val (.int i5), .val (.int (i0 &&& (3 : Int32))), .unset, .unset, .unset]) rfl k) ?_
  exact b0_5 i0 i1 i2 i3 i4 i5 (i0 &&& (3 : Int32)) hw X hx hZ hby hml hown hret hlk eT N (Nat.le_trans (Nat.add_le_add_right hc 0) (by decide)) (Nat.le_trans (Nat.add_le_add_right hs 0) (by decide)) (own_n _) Z0 hQ
theorem pnm_1 : plainName "com/example/endorse/endorse/ArchiveEntryIsDirectoryPinLaw" = true := by first | (simp [plainName, overriddenIn]; done) | decide +kernel
theorem pdm_2 : parseMethodDescriptor "(IIIIII)Z" = some ⟨[.int, .int, .int, .int, .int, .int], some .boolean⟩ := by decide +kernel
theorem ef_0 (m : MethodId) (i0 : Int32) (i1 : Int32) (i2 : Int32) (i3 : Int32) (i4 : Int32) (i5 : Int32) : entryFrame m #[(.int i0), (.int i1), (.int i2), (.int i3), (.int i4), (.int i5)] maxLocals = (mkF m 0 #[.val (.int i0), .val (.int i1), .val (.int i2), .val (.int i3), .val (.int i4), .val (.int i5), .unset, .unset, .unset, .unset] []) := by first | (simp [entryFrame, mkF, argsToLocals, Value.category, maxLocals]; done) | rfl
def Q0 (i0 : Int32) (i1 : Int32) (i2 : Int32) (i3 : Int32) (i4 : Int32) (i5 : Int32) (h0 : Heap) (n0 : Nat) (v : Option Value) (h : Heap) (L : List Loc) : Prop := v = some (.int 1) ∧ Fr n0 L
set_option maxRecDepth 65536 in
set_option maxHeartbeats 4000000 in
theorem rm0 (l : Launch) (Z : State) (a0 : Array Value) (hw : ∀ d ∈ tables_1, d.before a0 Z = true) (ws : List Jvm.Cond) (i0 : Int32) (i1 : Int32) (i2 : Int32) (i3 : Int32) (i4 : Int32) (i5 : Int32) (h0 : Heap) (n0 : Nat) (Z0 : n0 ≤ h0.size) :
    MetFree l x (head1 (Jvm.Cond.code x code maxLocals ret :: ws) room_1) (fun a U => a = #[(.int i0), (.int i1), (.int i2), (.int i3), (.int i4), (.int i5)] ∧ Z.Warmed39 U.vm ∧ U.heap = h0) (fun _ _ _ _ _ => True) (fun _ U o U' => ∃ v L, o = .returned v ∧ Q0 i0 i1 i2 i3 i4 i5 h0 n0 v U'.heap L ∧ FrameEnd U o U' L 16 128) := by
  refine MetFree.of_bodySF (plainFor_of_name pnm_1) hisR ?_
  intro p e s m args below meth c s₁ Bd hml0 hP hK
  obtain ⟨rfl, hZ, hh⟩ := hP
  have hx := Bd.exec
  have hby := Bd.bytes
  have hml : c.maxLocals = 10 := hml0
  have hown : s.vm.findClass "com/example/endorse/endorse/ArchiveEntryIsDirectoryPinLaw" = some m.cls := findClass_of_methodNamed Bd.named
  have X0 : Stand p l e room_1 s m #[(.int i0), (.int i1), (.int i2), (.int i3), (.int i4), (.int i5)] below meth c s₁ [] 0 0 := Stand.of_body Bd
  have e0 : s₁.heap = h0 := by rw [← hh, Bd.state]; rfl
  have fin := b0_0 i0 i1 i2 i3 i4 i5 (Q := Q0 i0 i1 i2 i3 i4 i5 h0 n0) hw X0 hx hZ hby hml hown Bd.returns (BodyLoose.notSynchronized Bd) e0 (Fr.nil n0) (Nat.zero_le _) (Nat.zero_le _) Z0 (fun H' L' n' => ⟨rfl, n'⟩)
  exact own_step (fun t k => castTop (ef_0 m i0 i1 i2 i3 i4 i5) k) fin
set_option maxRecDepth 65536 in
set_option maxHeartbeats 40000000 in
theorem comes_1 {Post : Tables → Env → Array Value → State → Outcome → State → Prop} (hpost : ∀ tb e args s v u, (limb_1_1.after args s (.returned v) u = true ∧ limb_1_2.after args s (.returned v) u = true ∧ True) → FrameEnd s (.returned v) u (Jvm.fieldLocs frame_1_writes args s ++ Jvm.arrayLocs frame_1_arrays args s ++ Jvm.staticLocs frame_1_statics s) 16 128 → Post tb e args s (.returned v) u) :
    ArmFor flags0 classFile x code maxLocals ret World_1 tables_1 room_1 Calls_1 rest_1 Pre_1 Post := by
  intro l hfl _ _ p e ha hc hk s m args below hf hA hF happ hP
  obtain ⟨hcalls, hrest, hpre⟩ := hP
  obtain ⟨-, -, -, hnamed, -, -, -, hat⟩ := (Spec.applies_iff hf).mp happ
  obtain ⟨hg, hn⟩ := and_e (Cond.before_iff.mp (show (Jvm.Cond.and given_1 narrow_1).before args s = true from hpre))
  obtain ⟨g1, g2⟩ := and_e hg
  obtain ⟨g3, g4⟩ := and_e g2
  obtain ⟨g5, g6⟩ := and_e g4
  obtain ⟨g7, g8⟩ := and_e g6
  obtain ⟨g9, g10⟩ := and_e g8
  obtain ⟨g11, g12⟩ := and_e g10
  obtain ⟨w0, w1, w2, w3, w4, w5, rfl⟩ : ∃ w0 w1 w2 w3 w4 w5 : Value, args = #[w0, w1, w2, w3, w4, w5] := by
    have hs : args.size = 6 := by simpa [Cond.value, given_1] using g1
    obtain ⟨L⟩ := args
    match L, hs with
    | [w0, w1, w2, w3, w4, w5], _ => exact ⟨w0, w1, w2, w3, w4, w5, rfl⟩
  have hw := fun d (hd : d ∈ tables_1) => atoms_spec (ws := Jvm.Cond.code x code maxLocals ret :: tables_1) hat d (List.mem_cons_of_mem _ hd)
  obtain ⟨i0, ei0⟩ := is_v g3
  obtain rfl : w0 = (.int i0) := Option.some.inj ei0
  obtain ⟨i1, ei1⟩ := is_v g5
  obtain rfl : w1 = (.int i1) := Option.some.inj ei1
  obtain ⟨i2, ei2⟩ := is_v g7
  obtain rfl : w2 = (.int i2) := Option.some.inj ei2
  obtain ⟨i3, ei3⟩ := is_v g9
  obtain rfl : w3 = (.int i3) := Option.some.inj ei3
  obtain ⟨i4, ei4⟩ := is_v g11
  obtain rfl : w4 = (.int i4) := Option.some.inj ei4
  obtain ⟨i5, ei5⟩ := is_v g12
  obtain rfl : w5 = (.int i5) := Option.some.inj ei5
  obtain ⟨n, o, h1, h2, h3, _, L, rfl, ⟨hval, N⟩, hq⟩ := rm0 l s _ hw tables_1 i0 i1 i2 i3 i4 i5 s.heap s.heap.size (Nat.le_refl _) p e ha hc hk s m _ below hf ((Spec.applies_iff_loose hf).mp happ).1 ⟨rfl, State.Warmed39.refl s, rfl⟩ trivial
  subst hval
  refine ⟨n, _, h1, h2, h3, hpost _ _ _ _ _ _ ⟨Cond.after_iff.mpr rfl, Cond.after_iff.mpr (eq_i res_at (Term.int_eval (1)) rfl), trivial⟩ ⟨hq.1, hq.2.1, (hq.2.2.sift fun y hy => Or.inr (N y hy)).mono (by decide) (by decide)⟩⟩
theorem main_1_1 : Claimed_1_1 := comes_1 fun _ _ _ _ _ _ h hF => ⟨h.1, hF⟩
theorem main_1_2 : Claimed_1_2 := comes_1 fun _ _ _ _ _ _ h hF => ⟨h.2.1, hF⟩
end Jvm.Pilot.@@N@@
namespace Jvm.Pilot.@@N@@
open Jvm Jvm.ClassFile Sem Op Lib Jvm.Free Jvm.Stand Jvm.Pilot.@@N@@.Jvm.D
/-! MADE BY PROGRAM (witnessworld.py) out of the Statement's table words and the real class files: 9 classes; the members and pool entries that the words name. The judged class is class 1, her method 1. -/
namespace start1
open Jvm.ClassFile
def u (s : String) : CpInfo := .utf8 (stringToUtf16 s)
/-- a pool by its gaps: so many unusable entries, then the entry; so many at the end -/
def gap : Nat → List CpInfo → List CpInfo
  | 0, r => r
  | n + 1, r => .unusable :: gap n r
def poolList (es : List (Nat × CpInfo)) (last : Nat) : List CpInfo := es.foldr (fun e r => gap e.1 (e.2 :: r)) (gap last [])
def pool (es : List (Nat × CpInfo)) (last : Nat) : Array CpInfo := ⟨poolList es last⟩
def fileOf (pool : Array CpInfo) (this : Nat) (attrs : Array Attribute := #[]) (ms : Array MethodInfo := #[]) (fl : Nat := 33) (sup : Nat := 0) (ifs : Array Nat := #[]) (fds : Array FieldInfo := #[]) : ClassFile where
  minorVersion := 0
  majorVersion := 65
  constantPool := pool
  accessFlags := fl
  thisClass := this
  superClass := sup
  interfaces := ifs
  fields := fds
  methods := ms
  attributes := attrs
def plain (name : String) (sup : Option ClassId) : Class where
  name := name
  kind := .ordinary
  loader := none
  accessFlags := 33
  super := sup
  interfaces := #[]
  cf := none
  fields := #[]
  methods := #[]
  instanceTypes := #[]
  staticTypes := #[]
  resolved := #[]
  callSites := []
  init := .initialized
  statics := none
  mirror := none

def pool0 : Array CpInfo := pool [(5, u "<init>"), (0, u "()V"), (1, .class_ 10), (1, u "java/lang/Object")] 113

def k0c0 : Code := { maxStack := 0, maxLocals := 1, code := object_method_1_code, exceptionTable := #[], attributes := #[] }
def k0m0 : Method := { name := "<init>", desc := "()V", sig := { parameters := [], returnType := none }, accessFlags := 1, code := some k0c0 }
/-- java/lang/Object -/
def k0 : Class := { plain "java/lang/Object" none with
  accessFlags := 33
  interfaces := #[]
  cf := some (fileOf pool0 8 #[] #[{ accessFlags := 1, nameIndex := 5, descriptorIndex := 6, attributes := #[] }] 33 0 #[] #[])
  fields := #[]
  methods := #[k0m0]
  instanceTypes := #[]
  staticTypes := #[]
  resolved := Array.replicate 124 none
  statics := none }

def pool1 : Array CpInfo := pool [(2, .class_ 4), (1, u "java/lang/Object"), (0, u "<init>"), (0, u "()V"), (0, .class_ 8), (0, u "com/example/endorse/endorse/ArchiveEntry"), (0, .methodref 7 10), (0, .nameAndType 5 11), (0, u "([BIIJJJJ)V"), (0, .methodref 7 13), (0, .nameAndType 14 15), (0, u "isDirectory"), (0, u "()Z"), (0, .class_ 17), (0, u "com/example/endorse/endorse/ArchiveEntryIsDirectoryPinLaw"), (2, u "law"), (0, u "(IIIIII)Z")] 5

def k1m0 : Method := { name := "<init>", desc := "()V", sig := { parameters := [], returnType := none }, accessFlags := 2, code := none }
def k1c1 : Code := { maxStack := 13, maxLocals := 10, code := code, exceptionTable := #[], attributes := #[] }
def k1m1 : Method := { name := "law", desc := "(IIIIII)Z", sig := { parameters := [.int, .int, .int, .int, .int, .int], returnType := some .boolean }, accessFlags := 9, code := some k1c1 }
/-- com/example/endorse/endorse/ArchiveEntryIsDirectoryPinLaw -/
def k1 : Class := { plain "com/example/endorse/endorse/ArchiveEntryIsDirectoryPinLaw" (some 0) with
  accessFlags := 49
  interfaces := #[]
  cf := some (fileOf pool1 16 #[] #[{ accessFlags := 2, nameIndex := 5, descriptorIndex := 6, attributes := #[] }, { accessFlags := 9, nameIndex := 20, descriptorIndex := 21, attributes := #[] }] 49 2 #[] #[])
  fields := #[]
  methods := #[k1m0, k1m1]
  instanceTypes := #[]
  staticTypes := #[]
  resolved := Array.replicate 27 none
  statics := none }

def pool2 : Array CpInfo := pool [(1, .methodref 2 3), (0, .class_ 4), (0, .nameAndType 5 6), (0, u "java/lang/Object"), (0, u "<init>"), (0, u "()V"), (0, .fieldref 8 9), (0, .class_ 10), (0, .nameAndType 11 12), (0, u "com/example/endorse/endorse/ArchiveEntry"), (0, u "name"), (0, u "[B"), (0, .fieldref 8 14), (0, .nameAndType 15 16), (0, u "flags"), (0, u "I"), (0, .fieldref 8 18), (0, .nameAndType 19 16), (0, u "method"), (0, .fieldref 8 21), (0, .nameAndType 22 23), (0, u "crc"), (0, u "J"), (0, .fieldref 8 25), (0, .nameAndType 26 23), (0, u "compressedSize"), (0, .fieldref 8 28), (0, .nameAndType 29 23), (0, u "size"), (0, .fieldref 8 31), (0, .nameAndType 32 23), (0, u "localHeaderOffset"), (25, u "([BIIJJJJ)V"), (158, u "NATIVE_CODE"), (9, u "STORED"), (2, u "DEFLATED"), (1, u "LOCAL_SIGNATURE"), (0, u "LOCAL_FIXED_SIZE"), (1, u "CENTRAL_SIGNATURE"), (0, u "CENTRAL_FIXED_SIZE"), (1, u "ENCRYPTED"), (1, u "ALIGNMENT"), (1, u "PAGE_ALIGNMENT"), (1, u "PADDING_ID"), (0, u "PADDING_FIXED_SIZE"), (1, u "MAX_EXTRA_SIZE"), (0, u "VERSION"), (0, u "S"), (1, u "FIXED_DATE"), (1, u "SHOWN_CHARACTERS"), (11, u "isDirectory"), (0, u "()Z")] 24

def k2c0 : Code := { maxStack := 3, maxLocals := 12, code := prog_14_method_1_code, exceptionTable := #[], attributes := #[] }
def k2m0 : Method := { name := "<init>", desc := "([BIIJJJJ)V", sig := { parameters := [(.array .byte), .int, .int, .long, .long, .long, .long], returnType := none }, accessFlags := 0, code := some k2c0 }
def k2c1 : Code := { maxStack := 3, maxLocals := 1, code := prog_14_method_7_code, exceptionTable := #[], attributes := #[] }
def k2m1 : Method := { name := "isDirectory", desc := "()Z", sig := { parameters := [], returnType := some .boolean }, accessFlags := 0, code := some k2c1 }
/-- com/example/endorse/endorse/ArchiveEntry -/
def k2 : Class := { plain "com/example/endorse/endorse/ArchiveEntry" (some 0) with
  accessFlags := 48
  interfaces := #[]
  cf := some (fileOf pool2 8 #[] #[{ accessFlags := 0, nameIndex := 5, descriptorIndex := 58, attributes := #[] }, { accessFlags := 0, nameIndex := 265, descriptorIndex := 266, attributes := #[] }] 48 2 #[] #[{ accessFlags := 24, nameIndex := 227, descriptorIndex := 16, attributes := #[] }, { accessFlags := 24, nameIndex := 230, descriptorIndex := 16, attributes := #[] }, { accessFlags := 24, nameIndex := 232, descriptorIndex := 16, attributes := #[] }, { accessFlags := 24, nameIndex := 233, descriptorIndex := 16, attributes := #[] }, { accessFlags := 24, nameIndex := 235, descriptorIndex := 16, attributes := #[] }, { accessFlags := 24, nameIndex := 236, descriptorIndex := 16, attributes := #[] }, { accessFlags := 26, nameIndex := 238, descriptorIndex := 16, attributes := #[] }, { accessFlags := 26, nameIndex := 240, descriptorIndex := 16, attributes := #[] }, { accessFlags := 26, nameIndex := 242, descriptorIndex := 16, attributes := #[] }, { accessFlags := 26, nameIndex := 217, descriptorIndex := 12, attributes := #[] }, { accessFlags := 26, nameIndex := 244, descriptorIndex := 16, attributes := #[] }, { accessFlags := 26, nameIndex := 245, descriptorIndex := 16, attributes := #[] }, { accessFlags := 26, nameIndex := 247, descriptorIndex := 16, attributes := #[] }, { accessFlags := 26, nameIndex := 248, descriptorIndex := 249, attributes := #[] }, { accessFlags := 26, nameIndex := 251, descriptorIndex := 249, attributes := #[] }, { accessFlags := 26, nameIndex := 253, descriptorIndex := 16, attributes := #[] }, { accessFlags := 18, nameIndex := 11, descriptorIndex := 12, attributes := #[] }, { accessFlags := 18, nameIndex := 15, descriptorIndex := 16, attributes := #[] }, { accessFlags := 18, nameIndex := 19, descriptorIndex := 16, attributes := #[] }, { accessFlags := 18, nameIndex := 22, descriptorIndex := 23, attributes := #[] }, { accessFlags := 18, nameIndex := 26, descriptorIndex := 23, attributes := #[] }, { accessFlags := 18, nameIndex := 29, descriptorIndex := 23, attributes := #[] }, { accessFlags := 18, nameIndex := 32, descriptorIndex := 23, attributes := #[] }])
  fields := #[{ name := "STORED", type := .int, accessFlags := 24, slot := 0, constantValue := 0 }, { name := "DEFLATED", type := .int, accessFlags := 24, slot := 1, constantValue := 0 }, { name := "LOCAL_SIGNATURE", type := .int, accessFlags := 24, slot := 2, constantValue := 0 }, { name := "LOCAL_FIXED_SIZE", type := .int, accessFlags := 24, slot := 3, constantValue := 0 }, { name := "CENTRAL_SIGNATURE", type := .int, accessFlags := 24, slot := 4, constantValue := 0 }, { name := "CENTRAL_FIXED_SIZE", type := .int, accessFlags := 24, slot := 5, constantValue := 0 }, { name := "ENCRYPTED", type := .int, accessFlags := 26, slot := 6, constantValue := 0 }, { name := "ALIGNMENT", type := .int, accessFlags := 26, slot := 7, constantValue := 0 }, { name := "PAGE_ALIGNMENT", type := .int, accessFlags := 26, slot := 8, constantValue := 0 }, { name := "NATIVE_CODE", type := (.array .byte), accessFlags := 26, slot := 9, constantValue := 0 }, { name := "PADDING_ID", type := .int, accessFlags := 26, slot := 10, constantValue := 0 }, { name := "PADDING_FIXED_SIZE", type := .int, accessFlags := 26, slot := 11, constantValue := 0 }, { name := "MAX_EXTRA_SIZE", type := .int, accessFlags := 26, slot := 12, constantValue := 0 }, { name := "VERSION", type := .short, accessFlags := 26, slot := 13, constantValue := 0 }, { name := "FIXED_DATE", type := .short, accessFlags := 26, slot := 14, constantValue := 0 }, { name := "SHOWN_CHARACTERS", type := .int, accessFlags := 26, slot := 15, constantValue := 0 }, { name := "name", type := (.array .byte), accessFlags := 18, slot := 0, constantValue := 0 }, { name := "flags", type := .int, accessFlags := 18, slot := 1, constantValue := 0 }, { name := "method", type := .int, accessFlags := 18, slot := 2, constantValue := 0 }, { name := "crc", type := .long, accessFlags := 18, slot := 3, constantValue := 0 }, { name := "compressedSize", type := .long, accessFlags := 18, slot := 4, constantValue := 0 }, { name := "size", type := .long, accessFlags := 18, slot := 5, constantValue := 0 }, { name := "localHeaderOffset", type := .long, accessFlags := 18, slot := 6, constantValue := 0 }]
  methods := #[k2m0, k2m1]
  instanceTypes := #[(.array .byte), .int, .int, .long, .long, .long, .long]
  staticTypes := #[.int, .int, .int, .int, .int, .int, .int, .int, .int, (.array .byte), .int, .int, .int, .short, .short, .int]
  resolved := Array.replicate 291 none
  statics := none }

def pool3 : Array CpInfo := pool [(1, u "java/lang/Cloneable"), (0, .class_ 1), (0, u "java/lang/Object"), (0, .class_ 3)] 3

/-- java/lang/Cloneable -/
def k3 : Class := { plain "java/lang/Cloneable" (some 0) with
  accessFlags := 1537
  interfaces := #[]
  cf := some (fileOf pool3 2 #[] #[] 1537 4 #[] #[])
  fields := #[]
  methods := #[]
  instanceTypes := #[]
  staticTypes := #[]
  resolved := Array.replicate 8 none
  statics := none }

def pool4 : Array CpInfo := pool [(1, u "java/io/Serializable"), (0, .class_ 1), (0, u "java/lang/Object"), (0, .class_ 3)] 3

/-- java/io/Serializable -/
def k4 : Class := { plain "java/io/Serializable" (some 0) with
  accessFlags := 1537
  interfaces := #[]
  cf := some (fileOf pool4 2 #[] #[] 1537 4 #[] #[])
  fields := #[]
  methods := #[]
  instanceTypes := #[]
  staticTypes := #[]
  resolved := Array.replicate 8 none
  statics := none }

/-- the primitive byte -/
def k5 : Class := { plain "byte" none with kind := .primitive 'B', accessFlags := 0x411 }
/-- [B -/
def k6 : Class := { plain "[B" (some 0) with kind := .array 5 .byte, interfaces := #[3, 4], accessFlags := 1041 }

/-- the primitive int -/
def k7 : Class := { plain "int" none with kind := .primitive 'I', accessFlags := 0x411 }
/-- [I -/
def k8 : Class := { plain "[I" (some 0) with kind := .array 7 .int, interfaces := #[3, 4], accessFlags := 1041 }

def heap : Heap := #[]
def classes : Array Class := #[k0, k1, k2, k3, k4, k5, k6, k7, k8]
def interned : List (Array UInt16 × Addr) := []
def slotsUsed : Nat := 0
def theMethod : MethodId := ⟨1, 1⟩
def args0 : Array Value := #[.int 5, .int 5, .int 5, .int 5, .int 5, .int 5]
def aboutOver (below : List Frame) : State where
  vm := { classes := classes, interned := interned.toArray }
  heap := heap
  slotsUsed := slotsUsed
  threads := #[{ frames := .invoking theMethod args0 :: below }]
def below0 : List Frame := [.native { method := ⟨0, 0⟩, args := #[] }]
def about1 : State := aboutOver below0
def p0 : Program := .bare "" "" ""
def e0 : Env := launch0.env 0 0 0
theorem w_frames : about1.frames = Frame.invoking theMethod args0 :: below0 := rfl
set_option maxRecDepth 65536 in
theorem w_args : argsFit about1.vm theMethod args0 = true := by decide +kernel
set_option maxRecDepth 65536 in
theorem w_heap : heapFits about1 = true := by decide +kernel
set_option maxRecDepth 65536 in
theorem w_runnable : about1.curStatus? = some .runnable := by decide +kernel
set_option maxRecDepth 65536 in
theorem w_alone : about1.alone = true := by decide +kernel
set_option maxRecDepth 65536 in
theorem w_named : about1.methodNamed? x = some theMethod := by decide +kernel
set_option maxRecDepth 65536 in
theorem w_hears : about1.hears theMethod below0 = true := by decide +kernel
set_option maxRecDepth 65536 in
theorem w_ripe : about1.ripe theMethod args0 below0 = true := by decide +kernel
theorem w_running : about1.status = .running := rfl
set_option maxRecDepth 65536 in
theorem w_room : about1.hasRoom e0.platform room_1 = true :=
  launch0.hasRoom_least _ room_1 (by decide +kernel) (by decide +kernel) (by decide +kernel) (by decide +kernel) (by decide +kernel) (by decide +kernel)
theorem allAtoms_all (ts : List Jvm.Cond) (a : Array Jvm.Value) (st : Jvm.State) : (allAtoms ts).before a st = ts.all (fun c => c.before a st) := by
  induction ts with
  | nil => rfl
  | cons c t ih =>
    show (Jvm.Cond.and c (allAtoms t)).before a st = _
    rw [Jvm.Cond.before_and, ih, List.all_cons]
def words1 : List Jvm.Cond := Jvm.Cond.code x code maxLocals ret :: tables_1
/-- a 'code' word, met by the world's own term for the bytes: nothing is compared byte by byte -/
theorem code_word {y : MethodName} {bytes : ByteArray} {mx : Nat} {rt : Option FieldType} {a : Array Value} {s : State} {m : MethodId} {meth : Method} {c : Code} (h1 : s.methodNamed? y = some m) (h2 : s.vm.method? m = some meth) (h3 : meth.code = some c) (h4 : c.code = bytes)
    (h5 : (c.maxLocals == mx && c.exceptionTable.isEmpty && decide (c.maxStack ≤ mostOperands) && decide (meth.sig.returnType = rt) && !meth.locks && decide (parseMethodDescriptor y.desc = some meth.sig)) = true) : (Jvm.Cond.code y bytes mx rt).before a s = true := by
  simp only [Bool.and_eq_true, beq_iff_eq, Bool.not_eq_true', decide_eq_true_eq] at h5
  obtain ⟨⟨⟨⟨⟨g1, g2⟩, g3⟩, g4⟩, g5⟩, g6⟩ := h5
  simp [Cond.before, Cond.holds, Cond.value, h1, h2, h3, h4, g1, g2, g3, g4, g5, g6]
def isCode : Jvm.Cond → Bool
  | .code _ _ _ _ => true
  | _ => false
theorem all_split {L : List Jvm.Cond} {P : Jvm.Cond → Bool} (h1 : L.all (fun c => isCode c || P c) = true) (h2 : ∀ c ∈ L.filter isCode, P c = true) : L.all P = true := by
  refine List.all_eq_true.mpr fun c hc => ?_
  have h := List.all_eq_true.mp h1 c hc
  rcases Bool.eq_false_or_eq_true (isCode c) with hi | hi
  · exact h2 c (List.mem_filter.mpr ⟨hc, hi⟩)
  · simpa [hi] using h
set_option maxRecDepth 65536 in
theorem w_c0 : (Jvm.Cond.code x code maxLocals ret).before args0 about1 = true := code_word (m := ⟨1, 1⟩) (meth := k1m1) (c := k1c1) (by decide +kernel) rfl rfl rfl (by decide +kernel)
set_option maxRecDepth 65536 in
theorem w_c1 : (Jvm.Cond.code ({ cls := "com/example/endorse/endorse/ArchiveEntry", name := "<init>", desc := "([BIIJJJJ)V" } : Jvm.MethodName) prog_14_method_1_code (12 : Nat) (Option.none : Option Jvm.ClassFile.FieldType)).before args0 about1 = true := code_word (m := ⟨2, 0⟩) (meth := k2m0) (c := k2c0) (by decide +kernel) rfl rfl rfl (by decide +kernel)
set_option maxRecDepth 65536 in
theorem w_c2 : (Jvm.Cond.code ({ cls := "java/lang/Object", name := "<init>", desc := "()V" } : Jvm.MethodName) object_method_1_code (1 : Nat) (Option.none : Option Jvm.ClassFile.FieldType)).before args0 about1 = true := code_word (m := ⟨0, 0⟩) (meth := k0m0) (c := k0c0) (by decide +kernel) rfl rfl rfl (by decide +kernel)
set_option maxRecDepth 65536 in
theorem w_c3 : (Jvm.Cond.code ({ cls := "com/example/endorse/endorse/ArchiveEntry", name := "isDirectory", desc := "()Z" } : Jvm.MethodName) prog_14_method_7_code (1 : Nat) (Option.some Jvm.ClassFile.FieldType.boolean)).before args0 about1 = true := code_word (m := ⟨2, 1⟩) (meth := k2m1) (c := k2c1) (by decide +kernel) rfl rfl rfl (by decide +kernel)
def codes1 : List Jvm.Cond := [Jvm.Cond.code x code maxLocals ret, Jvm.Cond.code ({ cls := "com/example/endorse/endorse/ArchiveEntry", name := "<init>", desc := "([BIIJJJJ)V" } : Jvm.MethodName) prog_14_method_1_code (12 : Nat) (Option.none : Option Jvm.ClassFile.FieldType), Jvm.Cond.code ({ cls := "java/lang/Object", name := "<init>", desc := "()V" } : Jvm.MethodName) object_method_1_code (1 : Nat) (Option.none : Option Jvm.ClassFile.FieldType), Jvm.Cond.code ({ cls := "com/example/endorse/endorse/ArchiveEntry", name := "isDirectory", desc := "()Z" } : Jvm.MethodName) prog_14_method_7_code (1 : Nat) (Option.some Jvm.ClassFile.FieldType.boolean)]
set_option maxRecDepth 65536 in
theorem codes_eq : words1.filter isCode = codes1 := rfl
theorem w_codes : ∀ c ∈ words1.filter isCode, c.before args0 about1 = true := by
  rw [codes_eq]
  intro c hc
  simp only [codes1, List.mem_cons, List.not_mem_nil, or_false] at hc
  rcases hc with rfl | rfl | rfl | rfl
  · exact w_c0
  · exact w_c1
  · exact w_c2
  · exact w_c3
set_option maxRecDepth 65536 in
theorem w_t1 : (words1.take 24).all (fun c => isCode c || c.before args0 about1) = true := by decide +kernel
set_option maxRecDepth 65536 in
theorem w_t2 : (words1.drop 24).all (fun c => isCode c || c.before args0 about1) = true := by decide +kernel
theorem w_tables : (allAtoms (Jvm.Cond.code x code maxLocals ret :: tables_1)).before args0 about1 = true := by
  rw [allAtoms_all]
  show words1.all (fun c => c.before args0 about1) = true
  refine all_split ?_ w_codes
  rw [← List.take_append_drop 24 words1, List.all_append, w_t1, w_t2]
  rfl
set_option maxRecDepth 65536 in
theorem w_case : (Jvm.Cond.and given_1 narrow_1).before args0 about1 = true := by decide +kernel
theorem w_applies : (headSpec (Jvm.Cond.code x code maxLocals ret :: tables_1) room_1).applies x e0.platform about1 = true :=
  (Spec.applies_iff w_frames).mpr ⟨w_running, w_runnable, w_alone, w_named, w_hears, w_ripe, w_room, w_tables⟩
theorem atStart : AtStart classFile x code maxLocals ret World_1 tables_1 room_1 Calls_1 rest_1 Pre_1 launch0 p0 e0 about1 theMethod args0 below0 :=
  ⟨lists_1, trivial, launch0.admits_env _ _ _, launch0.least_env, fairChoices_fair.cas, fairChoices_fair.clock, w_frames, w_args, w_heap, w_applies, trivial, trivial, w_case⟩
end start1
theorem witness_1 : WitnessClaimed_1 := ⟨start1.p0, start1.e0, start1.about1, start1.theMethod, start1.args0, start1.below0, start1.atStart⟩
end Jvm.Pilot.@@N@@

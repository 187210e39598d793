import JvmDerived
import JvmDerived.Pilot.@@N@@Statement
import JvmDerived.Pilot.@@N@@Code
set_option linter.unusedVariables false
set_option linter.unusedSimpArgs false
namespace Jvm.RoadKit
open Sem ClassFile Op Lib Jvm.Stand Jvm.Free Jvm.LawKit
section New
variable {p : Program} {l : Launch} {e : Env} {R : Room} {s : State} {m : MethodId} {args : Array Value} {below : List Frame} {meth : Method} {c : Code} {T : State} {locs : List Loc} {cells slots : Nat}
theorem retI (X : Stand p l e R s m args below meth c T locs cells slots) (hx : p.tables.exec = Jvm.exec) {pc : Nat} {Ls : Array Slot} {z : Int32} {rest : List Value} (hret : meth.sig.returnType = some .int) (hd : decode c.code pc = .ok (.ireturn, 1)) {fs : List Frame}
    (hl : ∀ (f : JFrame) (acts : List Action), f.method = m → f.locked = none → f.entered = [] → (doReturn e (T.setTop f) acts (some (.int z))).1 = T.setFrames fs) : Steps p.tables e below (T.setTop (mkF m pc Ls (.int z :: rest))) (T.setFrames fs) := by
  have hm' : T.vm.method? m = some meth := X.method'
  have hn : narrow .int (.int z) = .int z := rfl
  show Steps p.tables e below (T.setTop { method := m, pc := pc, locals := Ls, stack := _ :: rest, locked := none }) _
  jvm_step X.here [X.here.top, hx, hd, hm', hret, hn]
  first | (intro acts; rw [hl _ acts rfl rfl rfl]) | rw [hl _ _ rfl rfl rfl]
  exact Steps.refl _
end New
end Jvm.RoadKit
namespace Jvm.Pilot.@@N@@
open Jvm Jvm.ClassFile Sem Op Lib Jvm.Free Jvm.Stand Jvm.LawKit Jvm.RoadKit Bundle Jvm.Pilot.@@N@@.Jvm.D
section OwnKit
variable {p : Program} {l : Launch} {e : Env} {R : Room} {s : State} {m : MethodId} {args : Array Value} {below : List Frame} {meth : Method} {c : Code} {T : State} {locs : List Loc} {cells slots : Nat}
/-- what a body owes from the state A on: it comes to its return, and what it returned, the heap and the written places satisfy Q -/
def own_Fin (p : Program) (e : Env) (below : List Frame) (s : State) (Q : Option Value → Heap → List Loc → Prop) (rc rs : Nat) (A : State) : Prop :=
  ∃ s₂ o, Steps p.tables e below A s₂ ∧ s₂.status = .running ∧ Ended s₂ below o ∧ ∃ v L, o = .returned v ∧ Q v s₂.heap L ∧ FrameEnd s o s₂ L rc rs
theorem own_step {Q : Option Value → Heap → List Loc → Prop} {rc rs : Nat} {A B : State} (k : ∀ t, Steps p.tables e below B t → Steps p.tables e below A t) (h : own_Fin p e below s Q rc rs B) : own_Fin p e below s Q rc rs A := by
  obtain ⟨s₂, o, h1, h2⟩ := h
  exact ⟨s₂, o, k _ h1, h2⟩
theorem own_retN (X : Stand p l e R s m args below meth c T locs cells slots) (hx : p.tables.exec = Jvm.exec) (hlk : meth.locks = false) {Q : Option Value → Heap → List Loc → Prop} {rc rs n0 : Nat} {h : Heap} {pc : Nat} {Ls : Array Slot} {z v : Int32} {t : FieldType} {rest : List Value} (hret : meth.sig.returnType = some t) (ht : t = .boolean ∨ t = .byte ∨ t = .char ∨ t = .short)
    (hd : decode c.code pc = .ok (.ireturn, 1)) (hc : cells ≤ rc) (hs : slots ≤ rs) (eT : T.heap = h) (N : Fr n0 locs) (hQ : ∀ L', Fr n0 L' → Q (some (.int v)) h L') (hv : v = nar t z) :
    own_Fin p e below s Q rc rs (T.setTop (mkF m pc Ls (.int z :: rest))) := by
  subst hv
  obtain ⟨fs, hr, hrun, hended, hW, hsame⟩ := X.leave (v := some (.int (nar t z))) (fun h => by rw [hret] at h; cases h) hlk
  refine ⟨_, _, retN X hx hret ht hd hr, hrun, hended, _, _, rfl, ?_, ⟨_, rfl⟩, hW, hsame.mono hc hs⟩
  show Q _ T.heap _
  rw [eT]
  exact hQ _ N
theorem own_retI (X : Stand p l e R s m args below meth c T locs cells slots) (hx : p.tables.exec = Jvm.exec) (hlk : meth.locks = false) {Q : Option Value → Heap → List Loc → Prop} {rc rs n0 : Nat} {h : Heap} {pc : Nat} {Ls : Array Slot} {z v : Int32} {rest : List Value} (hret : meth.sig.returnType = some .int)
    (hd : decode c.code pc = .ok (.ireturn, 1)) (hc : cells ≤ rc) (hs : slots ≤ rs) (eT : T.heap = h) (N : Fr n0 locs) (hQ : ∀ L', Fr n0 L' → Q (some (.int v)) h L') (hv : v = z) :
    own_Fin p e below s Q rc rs (T.setTop (mkF m pc Ls (.int z :: rest))) := by
  subst hv
  obtain ⟨fs, hr, hrun, hended, hW, hsame⟩ := X.leave (v := some (.int v)) (fun h => by rw [hret] at h; cases h) hlk
  refine ⟨_, _, retI X hx hret hd hr, hrun, hended, _, _, rfl, ?_, ⟨_, rfl⟩, hW, hsame.mono hc hs⟩
  show Q _ T.heap _
  rw [eT]
  exact hQ _ N
theorem own_ret0 (X : Stand p l e R s m args below meth c T locs cells slots) (hx : p.tables.exec = Jvm.exec) (hlk : meth.locks = false) {Q : Option Value → Heap → List Loc → Prop} {rc rs : Nat} {h : Heap} {pc : Nat} {Ls : Array Slot} (hret : meth.sig.returnType = none)
    (hd : decode c.code pc = .ok (.return_, 1)) (hc : cells ≤ rc) (hs : slots ≤ rs) (eT : T.heap = h) (hQ : Q none h locs) :
    own_Fin p e below s Q rc rs (T.setTop (mkF m pc Ls [])) := by
  obtain ⟨fs, hr, hrun, hended, hW, hsame⟩ := X.leave (v := none) (fun _ => rfl) hlk
  refine ⟨_, _, X.returnOut hx hret hd hr, hrun, hended, _, _, rfl, ?_, ⟨_, rfl⟩, hW, hsame.mono hc hs⟩
  show Q _ T.heap _
  rw [eT]
  exact hQ
end OwnKit
/-- an array of n ints (bytes, ..) at a: its i-th is g i -/
def own_AF (Z : State) (h : Heap) (a : Addr) (ty : FieldType) (n : Nat) (g : Nat → Int32) : Prop := ∃ c : Cell, Arr Z h a c ty ∧ c.slots.size = n ∧ ∀ i, i < n → c.slots[i]? = some (.int (g i))
def own_In (n : Nat) (j : Int32) : Prop := ¬ (j < 0 ∨ n ≤ j.toNatClampNeg)
theorem own_AF.lt {Z : State} {h : Heap} {a : Addr} {ty : FieldType} {n : Nat} {g : Nat → Int32} (F : own_AF Z h a ty n g) : a < h.size := by obtain ⟨c, A, -⟩ := F; exact A.lt
theorem own_AFext {Z : State} {h h' : Heap} {a : Addr} {ty : FieldType} {n : Nat} {g : Nat → Int32} (F : own_AF Z h a ty n g) (E : Ext h h') : own_AF Z h' a ty n g := by obtain ⟨c, A, r⟩ := F; exact ⟨c, A.ext E, r⟩
theorem own_AFoth {Z : State} {h h' : Heap} {a b : Addr} {sl : Nat} {v : Value} {ty : FieldType} {n : Nat} {g : Nat → Int32} (F : own_AF Z h b ty n g) (W : Wr h h' a sl v) (q : b ≠ a) : own_AF Z h' b ty n g := by obtain ⟨c, A, r⟩ := F; exact ⟨c, A.other W q, r⟩
theorem own_AFkeep {Z : State} {h h' : Heap} {a : Addr} {ws : List Addr} {ty : FieldType} {n : Nat} {g : Nat → Int32} (F : own_AF Z h a ty n g) (K : Keep h h' ws) (q : a ∉ ws) : own_AF Z h' a ty n g := by obtain ⟨c, A, r⟩ := F; exact ⟨c, ⟨K.2.1 a c A.1 q, A.2⟩, r⟩
theorem own_AFset {Z : State} {h h' : Heap} {a : Addr} {ty : FieldType} {n k : Nat} {g : Nat → Int32} {c : Cell} {x : Int32} (A : Arr Z h a c ty) (S : c.slots.size = n) (H : ∀ i, i < n → c.slots[i]? = some (.int (g i))) (W : Wr h h' a k (.int x)) : own_AF Z h' a ty n (fun i => if i = k then x else g i) := by
  obtain ⟨c', e1, e2, e3, e4, e5, e6, e7⟩ := wr_at W A.1
  refine ⟨c', ⟨e1, ?_⟩, e4.trans S, fun i hi => ?_⟩
  · rw [(e7 rfl).1]; exact A.2
  · by_cases q : i = k
    · subst q
      show c'.slots[i]? = some (.int (if i = i then x else g i))
      rw [if_pos rfl]
      exact (e7 rfl).2.1
    · show c'.slots[i]? = some (.int (if i = k then x else g i))
      rw [e6 i q, if_neg q]
      exact H i hi
theorem own_AFnew {Z : State} {h : Heap} {a : Addr} {k : ClassId} {ty : FieldType} {z : Int32} {n : Nat} (A : Arr Z h a (newA k ty z) ty) (hn : z.toNatClampNeg = n) (hd : defaultValue ty = .int 0 := by rfl) : own_AF Z h a ty n (fun _ => 0) :=
  ⟨_, A, (sz_new _ _ _).trans hn, fun i hi => by
    have hs : (newA k ty z).slots = Array.replicate z.toNatClampNeg (defaultValue ty) := rfl
    rw [hs, hn, hd]
    simp [hi]⟩
theorem own_eqi {x y : Int32} {b : Int} (h : y.toInt = b) : x = y ↔ x.toInt = b := by rw [← h]; exact Int32.toInt_inj.symm

theorem d1_0 : decode prog_132_method_30_code 0 = .ok (.aload_n 0, 1) := by decide +kernel
theorem d1_1 : decode prog_132_method_30_code 1 = .ok (.iload_n 1, 1) := by decide +kernel
theorem d1_2 : decode prog_132_method_30_code 2 = .ok (.baload, 1) := by decide +kernel
theorem d1_3 : decode prog_132_method_30_code 3 = .ok (.istore_n 2, 1) := by decide +kernel
theorem d1_4 : decode prog_132_method_30_code 4 = .ok (.iload_n 2, 1) := by decide +kernel
theorem d1_5 : decode prog_132_method_30_code 5 = .ok (.ifCond .lt 8, 3) := by decide +kernel
theorem d1_8 : decode prog_132_method_30_code 8 = .ok (.iload_n 2, 1) := by decide +kernel
theorem d1_9 : decode prog_132_method_30_code 9 = .ok (.istore_n 3, 1) := by decide +kernel
theorem d1_10 : decode prog_132_method_30_code 10 = .ok (.goto 108, 3) := by decide +kernel
theorem d1_13 : decode prog_132_method_30_code 13 = .ok (.iload_n 2, 1) := by decide +kernel
theorem d1_14 : decode prog_132_method_30_code 14 = .ok (.bipush (-32), 2) := by decide +kernel
theorem d1_16 : decode prog_132_method_30_code 16 = .ok (.if_icmp .ge 23, 3) := by decide +kernel
theorem d1_19 : decode prog_132_method_30_code 19 = .ok (.iload_n 2, 1) := by decide +kernel
theorem d1_20 : decode prog_132_method_30_code 20 = .ok (.bipush 31, 2) := by decide +kernel
theorem d1_22 : decode prog_132_method_30_code 22 = .ok (.iand, 1) := by decide +kernel
theorem d1_23 : decode prog_132_method_30_code 23 = .ok (.bipush 6, 2) := by decide +kernel
theorem d1_25 : decode prog_132_method_30_code 25 = .ok (.ishl, 1) := by decide +kernel
theorem d1_26 : decode prog_132_method_30_code 26 = .ok (.aload_n 0, 1) := by decide +kernel
theorem d1_27 : decode prog_132_method_30_code 27 = .ok (.iload_n 1, 1) := by decide +kernel
theorem d1_28 : decode prog_132_method_30_code 28 = .ok (.iconst 1, 1) := by decide +kernel
theorem d1_29 : decode prog_132_method_30_code 29 = .ok (.iadd, 1) := by decide +kernel
theorem d1_30 : decode prog_132_method_30_code 30 = .ok (.baload, 1) := by decide +kernel
theorem d1_31 : decode prog_132_method_30_code 31 = .ok (.bipush 63, 2) := by decide +kernel
theorem d1_33 : decode prog_132_method_30_code 33 = .ok (.iand, 1) := by decide +kernel
theorem d1_34 : decode prog_132_method_30_code 34 = .ok (.ior, 1) := by decide +kernel
theorem d1_35 : decode prog_132_method_30_code 35 = .ok (.istore_n 3, 1) := by decide +kernel
theorem d1_36 : decode prog_132_method_30_code 36 = .ok (.goto 82, 3) := by decide +kernel
theorem d1_39 : decode prog_132_method_30_code 39 = .ok (.iload_n 2, 1) := by decide +kernel
theorem d1_40 : decode prog_132_method_30_code 40 = .ok (.bipush (-16), 2) := by decide +kernel
theorem d1_42 : decode prog_132_method_30_code 42 = .ok (.if_icmp .ge 35, 3) := by decide +kernel
theorem d1_45 : decode prog_132_method_30_code 45 = .ok (.iload_n 2, 1) := by decide +kernel
theorem d1_46 : decode prog_132_method_30_code 46 = .ok (.bipush 15, 2) := by decide +kernel
theorem d1_48 : decode prog_132_method_30_code 48 = .ok (.iand, 1) := by decide +kernel
theorem d1_49 : decode prog_132_method_30_code 49 = .ok (.bipush 12, 2) := by decide +kernel
theorem d1_51 : decode prog_132_method_30_code 51 = .ok (.ishl, 1) := by decide +kernel
theorem d1_52 : decode prog_132_method_30_code 52 = .ok (.aload_n 0, 1) := by decide +kernel
theorem d1_53 : decode prog_132_method_30_code 53 = .ok (.iload_n 1, 1) := by decide +kernel
theorem d1_54 : decode prog_132_method_30_code 54 = .ok (.iconst 1, 1) := by decide +kernel
theorem d1_55 : decode prog_132_method_30_code 55 = .ok (.iadd, 1) := by decide +kernel
theorem d1_56 : decode prog_132_method_30_code 56 = .ok (.baload, 1) := by decide +kernel
theorem d1_57 : decode prog_132_method_30_code 57 = .ok (.bipush 63, 2) := by decide +kernel
theorem d1_59 : decode prog_132_method_30_code 59 = .ok (.iand, 1) := by decide +kernel
theorem d1_60 : decode prog_132_method_30_code 60 = .ok (.bipush 6, 2) := by decide +kernel
theorem d1_62 : decode prog_132_method_30_code 62 = .ok (.ishl, 1) := by decide +kernel
theorem d1_63 : decode prog_132_method_30_code 63 = .ok (.ior, 1) := by decide +kernel
theorem d1_64 : decode prog_132_method_30_code 64 = .ok (.aload_n 0, 1) := by decide +kernel
theorem d1_65 : decode prog_132_method_30_code 65 = .ok (.iload_n 1, 1) := by decide +kernel
theorem d1_66 : decode prog_132_method_30_code 66 = .ok (.iconst 2, 1) := by decide +kernel
theorem d1_67 : decode prog_132_method_30_code 67 = .ok (.iadd, 1) := by decide +kernel
theorem d1_68 : decode prog_132_method_30_code 68 = .ok (.baload, 1) := by decide +kernel
theorem d1_69 : decode prog_132_method_30_code 69 = .ok (.bipush 63, 2) := by decide +kernel
theorem d1_71 : decode prog_132_method_30_code 71 = .ok (.iand, 1) := by decide +kernel
theorem d1_72 : decode prog_132_method_30_code 72 = .ok (.ior, 1) := by decide +kernel
theorem d1_73 : decode prog_132_method_30_code 73 = .ok (.istore_n 3, 1) := by decide +kernel
theorem d1_74 : decode prog_132_method_30_code 74 = .ok (.goto 44, 3) := by decide +kernel
theorem d1_77 : decode prog_132_method_30_code 77 = .ok (.iload_n 2, 1) := by decide +kernel
theorem d1_78 : decode prog_132_method_30_code 78 = .ok (.bipush 7, 2) := by decide +kernel
theorem d1_80 : decode prog_132_method_30_code 80 = .ok (.iand, 1) := by decide +kernel
theorem d1_81 : decode prog_132_method_30_code 81 = .ok (.bipush 18, 2) := by decide +kernel
theorem d1_83 : decode prog_132_method_30_code 83 = .ok (.ishl, 1) := by decide +kernel
theorem d1_84 : decode prog_132_method_30_code 84 = .ok (.aload_n 0, 1) := by decide +kernel
theorem d1_85 : decode prog_132_method_30_code 85 = .ok (.iload_n 1, 1) := by decide +kernel
theorem d1_86 : decode prog_132_method_30_code 86 = .ok (.iconst 1, 1) := by decide +kernel
theorem d1_87 : decode prog_132_method_30_code 87 = .ok (.iadd, 1) := by decide +kernel
theorem d1_88 : decode prog_132_method_30_code 88 = .ok (.baload, 1) := by decide +kernel
theorem d1_89 : decode prog_132_method_30_code 89 = .ok (.bipush 63, 2) := by decide +kernel
theorem d1_91 : decode prog_132_method_30_code 91 = .ok (.iand, 1) := by decide +kernel
theorem d1_92 : decode prog_132_method_30_code 92 = .ok (.bipush 12, 2) := by decide +kernel
theorem d1_94 : decode prog_132_method_30_code 94 = .ok (.ishl, 1) := by decide +kernel
theorem d1_95 : decode prog_132_method_30_code 95 = .ok (.ior, 1) := by decide +kernel
theorem d1_96 : decode prog_132_method_30_code 96 = .ok (.aload_n 0, 1) := by decide +kernel
theorem d1_97 : decode prog_132_method_30_code 97 = .ok (.iload_n 1, 1) := by decide +kernel
theorem d1_98 : decode prog_132_method_30_code 98 = .ok (.iconst 2, 1) := by decide +kernel
theorem d1_99 : decode prog_132_method_30_code 99 = .ok (.iadd, 1) := by decide +kernel
theorem d1_100 : decode prog_132_method_30_code 100 = .ok (.baload, 1) := by decide +kernel
theorem d1_101 : decode prog_132_method_30_code 101 = .ok (.bipush 63, 2) := by decide +kernel
theorem d1_103 : decode prog_132_method_30_code 103 = .ok (.iand, 1) := by decide +kernel
theorem d1_104 : decode prog_132_method_30_code 104 = .ok (.bipush 6, 2) := by decide +kernel
theorem d1_106 : decode prog_132_method_30_code 106 = .ok (.ishl, 1) := by decide +kernel
theorem d1_107 : decode prog_132_method_30_code 107 = .ok (.ior, 1) := by decide +kernel
theorem d1_108 : decode prog_132_method_30_code 108 = .ok (.aload_n 0, 1) := by decide +kernel
theorem d1_109 : decode prog_132_method_30_code 109 = .ok (.iload_n 1, 1) := by decide +kernel
theorem d1_110 : decode prog_132_method_30_code 110 = .ok (.iconst 3, 1) := by decide +kernel
theorem d1_111 : decode prog_132_method_30_code 111 = .ok (.iadd, 1) := by decide +kernel
theorem d1_112 : decode prog_132_method_30_code 112 = .ok (.baload, 1) := by decide +kernel
theorem d1_113 : decode prog_132_method_30_code 113 = .ok (.bipush 63, 2) := by decide +kernel
theorem d1_115 : decode prog_132_method_30_code 115 = .ok (.iand, 1) := by decide +kernel
theorem d1_116 : decode prog_132_method_30_code 116 = .ok (.ior, 1) := by decide +kernel
theorem d1_117 : decode prog_132_method_30_code 117 = .ok (.istore_n 3, 1) := by decide +kernel
theorem d1_118 : decode prog_132_method_30_code 118 = .ok (.iload_n 3, 1) := by decide +kernel
theorem d1_119 : decode prog_132_method_30_code 119 = .ok (.ireturn, 1) := by decide +kernel
def f1_118 (g0 : Nat → Int32) (i1 : Int32) (i2 : Int32) (i3 : Int32) : Int32 := i3
set_option maxRecDepth 65536 in
set_option maxHeartbeats 40000000 in
theorem b1_118 {p : Program} {l : Launch} {e : Env} {s : State} {m : MethodId} {args : Array Value} {below : List Frame} {meth : Method} {c : Code} {T : State} {locs : List Loc} {cells slots : Nat} {Z : State} {a0 : Array Value} {h : Heap} {n0 : Nat} {Q : Option Value → Heap → List Loc → Prop} (o0 : Addr) (g0 : Nat → Int32) (z0 : Nat) (i1 : Int32) (i2 : Int32) (i3 : Int32) (hw : ∀ d ∈ tables_1, d.before a0 Z = true) (X : Stand p l e ({ frames := 0, cells := 0, slots := 0, locals := 0 } : Room) s m args below meth c T locs cells slots) (hx : p.tables.exec = Jvm.exec) (hZ : Z.Warmed39 s.vm) (hby : c.code = prog_132_method_30_code) (hml : c.maxLocals = 4) (hown : s.vm.findClass "com/example/zoria/zoria/xml/XmlName" = some m.cls) (hret : meth.sig.returnType = some .int) (hlk : meth.locks = false) (eT : T.heap = h) (N : Fr n0 locs) (hc : cells ≤ 0) (hs : slots ≤ 0) (A0 : own_AF Z h o0 .byte z0 g0) (hb0 : own_In z0 i1) (hb1 : own_In z0 (i1 + (1 : Int32))) (hb2 : own_In z0 (i1 + (2 : Int32))) (hb3 : own_In z0 (i1 + (3 : Int32))) (v : Int32) (hv : v = f1_118 g0 i1 i2 i3) (hQ : ∀ L', Fr n0 L' → Q (some (.int v)) h L') :
    own_Fin p e below s Q 0 0 (T.setTop (mkF m 118 #[.val (.ref o0), .val (.int i1), .val (.int i2), .val (.int i3)] [])) := by
  refine own_step (fun t k => XS.iloadN X.here hx rfl (hb hby d1_118) rfl  k) ?_
  show own_Fin p e below s Q 0 0 (T.setTop (mkF m 119 #[.val (.ref o0), .val (.int i1), .val (.int i2), .val (.int i3)] [(.int i3)]))
  exact own_retI X hx hlk hret (hb hby d1_119) (by omega) (by omega) eT N hQ (hv)
def f1_19 (g0 : Nat → Int32) (i1 : Int32) (i2 : Int32) : Int32 := f1_118 g0 i1 i2 (((i2 &&& (31 : Int32)) <<< ((6 : Int32) &&& 31)) ||| ((g0 ((i1 + (1 : Int32))).toNatClampNeg) &&& (63 : Int32)))
set_option maxRecDepth 65536 in
set_option maxHeartbeats 40000000 in
theorem b1_19 {p : Program} {l : Launch} {e : Env} {s : State} {m : MethodId} {args : Array Value} {below : List Frame} {meth : Method} {c : Code} {T : State} {locs : List Loc} {cells slots : Nat} {Z : State} {a0 : Array Value} {h : Heap} {n0 : Nat} {Q : Option Value → Heap → List Loc → Prop} (o0 : Addr) (g0 : Nat → Int32) (z0 : Nat) (i1 : Int32) (i2 : Int32) (hw : ∀ d ∈ tables_1, d.before a0 Z = true) (X : Stand p l e ({ frames := 0, cells := 0, slots := 0, locals := 0 } : Room) s m args below meth c T locs cells slots) (hx : p.tables.exec = Jvm.exec) (hZ : Z.Warmed39 s.vm) (hby : c.code = prog_132_method_30_code) (hml : c.maxLocals = 4) (hown : s.vm.findClass "com/example/zoria/zoria/xml/XmlName" = some m.cls) (hret : meth.sig.returnType = some .int) (hlk : meth.locks = false) (eT : T.heap = h) (N : Fr n0 locs) (hc : cells ≤ 0) (hs : slots ≤ 0) (A0 : own_AF Z h o0 .byte z0 g0) (hb0 : own_In z0 i1) (hb1 : own_In z0 (i1 + (1 : Int32))) (hb2 : own_In z0 (i1 + (2 : Int32))) (hb3 : own_In z0 (i1 + (3 : Int32))) (v : Int32) (hv : v = f1_19 g0 i1 i2) (hQ : ∀ L', Fr n0 L' → Q (some (.int v)) h L') :
    own_Fin p e below s Q 0 0 (T.setTop (mkF m 19 #[.val (.ref o0), .val (.int i1), .val (.int i2), .unset] [])) := by
  refine own_step (fun t k => XS.iloadN X.here hx rfl (hb hby d1_19) rfl  k) ?_
  show own_Fin p e below s Q 0 0 (T.setTop (mkF m 20 #[.val (.ref o0), .val (.int i1), .val (.int i2), .unset] [(.int i2)]))
  refine own_step (fun t k => XS.bipush X.here hx rfl (hb hby d1_20) k) ?_
  show own_Fin p e below s Q 0 0 (T.setTop (mkF m 22 #[.val (.ref o0), .val (.int i1), .val (.int i2), .unset] [(.int (31 : Int32)), (.int i2)]))
  refine own_step (fun t k => XS.iand X.here hx rfl (hb hby d1_22) rfl k) ?_
  show own_Fin p e below s Q 0 0 (T.setTop (mkF m 23 #[.val (.ref o0), .val (.int i1), .val (.int i2), .unset] [(.int (i2 &&& (31 : Int32)))]))
  refine own_step (fun t k => XS.bipush X.here hx rfl (hb hby d1_23) k) ?_
  show own_Fin p e below s Q 0 0 (T.setTop (mkF m 25 #[.val (.ref o0), .val (.int i1), .val (.int i2), .unset] [(.int (6 : Int32)), (.int (i2 &&& (31 : Int32)))]))
  refine own_step (fun t k => XS.ishl X.here hx rfl (hb hby d1_25) rfl k) ?_
  show own_Fin p e below s Q 0 0 (T.setTop (mkF m 26 #[.val (.ref o0), .val (.int i1), .val (.int i2), .unset] [(.int ((i2 &&& (31 : Int32)) <<< ((6 : Int32) &&& 31)))]))
  refine own_step (fun t k => XS.aloadN X.here hx rfl (hb hby d1_26) rfl rfl k) ?_
  show own_Fin p e below s Q 0 0 (T.setTop (mkF m 27 #[.val (.ref o0), .val (.int i1), .val (.int i2), .unset] [(.ref o0), (.int ((i2 &&& (31 : Int32)) <<< ((6 : Int32) &&& 31)))]))
  refine own_step (fun t k => XS.iloadN X.here hx rfl (hb hby d1_27) rfl  k) ?_
  show own_Fin p e below s Q 0 0 (T.setTop (mkF m 28 #[.val (.ref o0), .val (.int i1), .val (.int i2), .unset] [(.int i1), (.ref o0), (.int ((i2 &&& (31 : Int32)) <<< ((6 : Int32) &&& 31)))]))
  refine own_step (fun t k => XS.iconst X.here hx rfl (hb hby d1_28) k) ?_
  show own_Fin p e below s Q 0 0 (T.setTop (mkF m 29 #[.val (.ref o0), .val (.int i1), .val (.int i2), .unset] [(.int (1 : Int32)), (.int i1), (.ref o0), (.int ((i2 &&& (31 : Int32)) <<< ((6 : Int32) &&& 31)))]))
  refine own_step (fun t k => XS.iadd X.here hx rfl (hb hby d1_29) rfl k) ?_
  show own_Fin p e below s Q 0 0 (T.setTop (mkF m 30 #[.val (.ref o0), .val (.int i1), .val (.int i2), .unset] [(.int (i1 + (1 : Int32))), (.ref o0), (.int ((i2 &&& (31 : Int32)) <<< ((6 : Int32) &&& 31)))]))
  obtain ⟨ca30, Ar30, Sz30, Ht30⟩ := id A0
  have hin30 : ¬ ((i1 + (1 : Int32)) < 0 ∨ ca30.slots.size ≤ ((i1 + (1 : Int32))).toNatClampNeg) := by rw [Sz30]; exact hb1
  refine own_step (X.baloadBytes hx (j := (i1 + (1 : Int32))) (v := (.int (g0 ((i1 + (1 : Int32))).toNatClampNeg))) (by rw [eT]; exact Ar30.1) (State.isArrayOf_alike hZ.alike Ar30.2.1) Ar30.2.2 hin30 (Ht30 _ (by rw [← Sz30]; exact Nat.lt_of_not_le fun y => hin30 (Or.inr y))) (g := (mkF m 30 #[.val (.ref o0), .val (.int i1), .val (.int i2), .unset] [(.int (i1 + (1 : Int32))), (.ref o0), (.int ((i2 &&& (31 : Int32)) <<< ((6 : Int32) &&& 31)))])) rfl rfl (hb hby d1_30)) ?_
  show own_Fin p e below s Q 0 0 (T.setTop (mkF m 31 #[.val (.ref o0), .val (.int i1), .val (.int i2), .unset] [(.int (g0 ((i1 + (1 : Int32))).toNatClampNeg)), (.int ((i2 &&& (31 : Int32)) <<< ((6 : Int32) &&& 31)))]))
  refine own_step (fun t k => XS.bipush X.here hx rfl (hb hby d1_31) k) ?_
  show own_Fin p e below s Q 0 0 (T.setTop (mkF m 33 #[.val (.ref o0), .val (.int i1), .val (.int i2), .unset] [(.int (63 : Int32)), (.int (g0 ((i1 + (1 : Int32))).toNatClampNeg)), (.int ((i2 &&& (31 : Int32)) <<< ((6 : Int32) &&& 31)))]))
  refine own_step (fun t k => XS.iand X.here hx rfl (hb hby d1_33) rfl k) ?_
  show own_Fin p e below s Q 0 0 (T.setTop (mkF m 34 #[.val (.ref o0), .val (.int i1), .val (.int i2), .unset] [(.int ((g0 ((i1 + (1 : Int32))).toNatClampNeg) &&& (63 : Int32))), (.int ((i2 &&& (31 : Int32)) <<< ((6 : Int32) &&& 31)))]))
  refine own_step (fun t k => XS.ior X.here hx rfl (hb hby d1_34) rfl k) ?_
  show own_Fin p e below s Q 0 0 (T.setTop (mkF m 35 #[.val (.ref o0), .val (.int i1), .val (.int i2), .unset] [(.int (((i2 &&& (31 : Int32)) <<< ((6 : Int32) &&& 31)) ||| ((g0 ((i1 + (1 : Int32))).toNatClampNeg) &&& (63 : Int32))))]))
  refine own_step (fun t k => XS.istoreN X.here hx rfl (hb hby d1_35) rfl (l' := #[.val (.ref o0), .val (.int i1), .val (.int i2), .val (.int (((i2 &&& (31 : Int32)) <<< ((6 : Int32) &&& 31)) ||| ((g0 ((i1 + (1 : Int32))).toNatClampNeg) &&& (63 : Int32))))]) rfl k) ?_
  show own_Fin p e below s Q 0 0 (T.setTop (mkF m 36 #[.val (.ref o0), .val (.int i1), .val (.int i2), .val (.int (((i2 &&& (31 : Int32)) <<< ((6 : Int32) &&& 31)) ||| ((g0 ((i1 + (1 : Int32))).toNatClampNeg) &&& (63 : Int32))))] []))
  refine own_step (fun t k => XS.goto X.here hx rfl (pc0 := 36) (pc' := 118) rfl (hb hby d1_36) (by decide) (by decide) k) ?_
  exact b1_118 o0 g0 z0 i1 i2 (((i2 &&& (31 : Int32)) <<< ((6 : Int32) &&& 31)) ||| ((g0 ((i1 + (1 : Int32))).toNatClampNeg) &&& (63 : Int32))) hw X hx hZ hby hml hown hret hlk eT N (by omega) (by omega) A0 hb0 hb1 hb2 hb3 v (hv) hQ
def f1_45 (g0 : Nat → Int32) (i1 : Int32) (i2 : Int32) : Int32 := f1_118 g0 i1 i2 ((((i2 &&& (15 : Int32)) <<< ((12 : Int32) &&& 31)) ||| (((g0 ((i1 + (1 : Int32))).toNatClampNeg) &&& (63 : Int32)) <<< ((6 : Int32) &&& 31))) ||| ((g0 ((i1 + (2 : Int32))).toNatClampNeg) &&& (63 : Int32)))
set_option maxRecDepth 65536 in
set_option maxHeartbeats 40000000 in
theorem b1_45 {p : Program} {l : Launch} {e : Env} {s : State} {m : MethodId} {args : Array Value} {below : List Frame} {meth : Method} {c : Code} {T : State} {locs : List Loc} {cells slots : Nat} {Z : State} {a0 : Array Value} {h : Heap} {n0 : Nat} {Q : Option Value → Heap → List Loc → Prop} (o0 : Addr) (g0 : Nat → Int32) (z0 : Nat) (i1 : Int32) (i2 : Int32) (hw : ∀ d ∈ tables_1, d.before a0 Z = true) (X : Stand p l e ({ frames := 0, cells := 0, slots := 0, locals := 0 } : Room) s m args below meth c T locs cells slots) (hx : p.tables.exec = Jvm.exec) (hZ : Z.Warmed39 s.vm) (hby : c.code = prog_132_method_30_code) (hml : c.maxLocals = 4) (hown : s.vm.findClass "com/example/zoria/zoria/xml/XmlName" = some m.cls) (hret : meth.sig.returnType = some .int) (hlk : meth.locks = false) (eT : T.heap = h) (N : Fr n0 locs) (hc : cells ≤ 0) (hs : slots ≤ 0) (A0 : own_AF Z h o0 .byte z0 g0) (hb0 : own_In z0 i1) (hb1 : own_In z0 (i1 + (1 : Int32))) (hb2 : own_In z0 (i1 + (2 : Int32))) (hb3 : own_In z0 (i1 + (3 : Int32))) (v : Int32) (hv : v = f1_45 g0 i1 i2) (hQ : ∀ L', Fr n0 L' → Q (some (.int v)) h L') :
    own_Fin p e below s Q 0 0 (T.setTop (mkF m 45 #[.val (.ref o0), .val (.int i1), .val (.int i2), .unset] [])) := by
  refine own_step (fun t k => XS.iloadN X.here hx rfl (hb hby d1_45) rfl  k) ?_
  show own_Fin p e below s Q 0 0 (T.setTop (mkF m 46 #[.val (.ref o0), .val (.int i1), .val (.int i2), .unset] [(.int i2)]))
  refine own_step (fun t k => XS.bipush X.here hx rfl (hb hby d1_46) k) ?_
  show own_Fin p e below s Q 0 0 (T.setTop (mkF m 48 #[.val (.ref o0), .val (.int i1), .val (.int i2), .unset] [(.int (15 : Int32)), (.int i2)]))
  refine own_step (fun t k => XS.iand X.here hx rfl (hb hby d1_48) rfl k) ?_
  show own_Fin p e below s Q 0 0 (T.setTop (mkF m 49 #[.val (.ref o0), .val (.int i1), .val (.int i2), .unset] [(.int (i2 &&& (15 : Int32)))]))
  refine own_step (fun t k => XS.bipush X.here hx rfl (hb hby d1_49) k) ?_
  show own_Fin p e below s Q 0 0 (T.setTop (mkF m 51 #[.val (.ref o0), .val (.int i1), .val (.int i2), .unset] [(.int (12 : Int32)), (.int (i2 &&& (15 : Int32)))]))
  refine own_step (fun t k => XS.ishl X.here hx rfl (hb hby d1_51) rfl k) ?_
  show own_Fin p e below s Q 0 0 (T.setTop (mkF m 52 #[.val (.ref o0), .val (.int i1), .val (.int i2), .unset] [(.int ((i2 &&& (15 : Int32)) <<< ((12 : Int32) &&& 31)))]))
  refine own_step (fun t k => XS.aloadN X.here hx rfl (hb hby d1_52) rfl rfl k) ?_
  show own_Fin p e below s Q 0 0 (T.setTop (mkF m 53 #[.val (.ref o0), .val (.int i1), .val (.int i2), .unset] [(.ref o0), (.int ((i2 &&& (15 : Int32)) <<< ((12 : Int32) &&& 31)))]))
  refine own_step (fun t k => XS.iloadN X.here hx rfl (hb hby d1_53) rfl  k) ?_
  show own_Fin p e below s Q 0 0 (T.setTop (mkF m 54 #[.val (.ref o0), .val (.int i1), .val (.int i2), .unset] [(.int i1), (.ref o0), (.int ((i2 &&& (15 : Int32)) <<< ((12 : Int32) &&& 31)))]))
  refine own_step (fun t k => XS.iconst X.here hx rfl (hb hby d1_54) k) ?_
  show own_Fin p e below s Q 0 0 (T.setTop (mkF m 55 #[.val (.ref o0), .val (.int i1), .val (.int i2), .unset] [(.int (1 : Int32)), (.int i1), (.ref o0), (.int ((i2 &&& (15 : Int32)) <<< ((12 : Int32) &&& 31)))]))
  refine own_step (fun t k => XS.iadd X.here hx rfl (hb hby d1_55) rfl k) ?_
  show own_Fin p e below s Q 0 0 (T.setTop (mkF m 56 #[.val (.ref o0), .val (.int i1), .val (.int i2), .unset] [(.int (i1 + (1 : Int32))), (.ref o0), (.int ((i2 &&& (15 : Int32)) <<< ((12 : Int32) &&& 31)))]))
  obtain ⟨ca56, Ar56, Sz56, Ht56⟩ := id A0
  have hin56 : ¬ ((i1 + (1 : Int32)) < 0 ∨ ca56.slots.size ≤ ((i1 + (1 : Int32))).toNatClampNeg) := by rw [Sz56]; exact hb1
  refine own_step (X.baloadBytes hx (j := (i1 + (1 : Int32))) (v := (.int (g0 ((i1 + (1 : Int32))).toNatClampNeg))) (by rw [eT]; exact Ar56.1) (State.isArrayOf_alike hZ.alike Ar56.2.1) Ar56.2.2 hin56 (Ht56 _ (by rw [← Sz56]; exact Nat.lt_of_not_le fun y => hin56 (Or.inr y))) (g := (mkF m 56 #[.val (.ref o0), .val (.int i1), .val (.int i2), .unset] [(.int (i1 + (1 : Int32))), (.ref o0), (.int ((i2 &&& (15 : Int32)) <<< ((12 : Int32) &&& 31)))])) rfl rfl (hb hby d1_56)) ?_
  show own_Fin p e below s Q 0 0 (T.setTop (mkF m 57 #[.val (.ref o0), .val (.int i1), .val (.int i2), .unset] [(.int (g0 ((i1 + (1 : Int32))).toNatClampNeg)), (.int ((i2 &&& (15 : Int32)) <<< ((12 : Int32) &&& 31)))]))
  refine own_step (fun t k => XS.bipush X.here hx rfl (hb hby d1_57) k) ?_
  show own_Fin p e below s Q 0 0 (T.setTop (mkF m 59 #[.val (.ref o0), .val (.int i1), .val (.int i2), .unset] [(.int (63 : Int32)), (.int (g0 ((i1 + (1 : Int32))).toNatClampNeg)), (.int ((i2 &&& (15 : Int32)) <<< ((12 : Int32) &&& 31)))]))
  refine own_step (fun t k => XS.iand X.here hx rfl (hb hby d1_59) rfl k) ?_
  show own_Fin p e below s Q 0 0 (T.setTop (mkF m 60 #[.val (.ref o0), .val (.int i1), .val (.int i2), .unset] [(.int ((g0 ((i1 + (1 : Int32))).toNatClampNeg) &&& (63 : Int32))), (.int ((i2 &&& (15 : Int32)) <<< ((12 : Int32) &&& 31)))]))
  refine own_step (fun t k => XS.bipush X.here hx rfl (hb hby d1_60) k) ?_
  show own_Fin p e below s Q 0 0 (T.setTop (mkF m 62 #[.val (.ref o0), .val (.int i1), .val (.int i2), .unset] [(.int (6 : Int32)), (.int ((g0 ((i1 + (1 : Int32))).toNatClampNeg) &&& (63 : Int32))), (.int ((i2 &&& (15 : Int32)) <<< ((12 : Int32) &&& 31)))]))
  refine own_step (fun t k => XS.ishl X.here hx rfl (hb hby d1_62) rfl k) ?_
  show own_Fin p e below s Q 0 0 (T.setTop (mkF m 63 #[.val (.ref o0), .val (.int i1), .val (.int i2), .unset] [(.int (((g0 ((i1 + (1 : Int32))).toNatClampNeg) &&& (63 : Int32)) <<< ((6 : Int32) &&& 31))), (.int ((i2 &&& (15 : Int32)) <<< ((12 : Int32) &&& 31)))]))
  refine own_step (fun t k => XS.ior X.here hx rfl (hb hby d1_63) rfl k) ?_
  show own_Fin p e below s Q 0 0 (T.setTop (mkF m 64 #[.val (.ref o0), .val (.int i1), .val (.int i2), .unset] [(.int (((i2 &&& (15 : Int32)) <<< ((12 : Int32) &&& 31)) ||| (((g0 ((i1 + (1 : Int32))).toNatClampNeg) &&& (63 : Int32)) <<< ((6 : Int32) &&& 31))))]))
  refine own_step (fun t k => XS.aloadN X.here hx rfl (hb hby d1_64) rfl rfl k) ?_
  show own_Fin p e below s Q 0 0 (T.setTop (mkF m 65 #[.val (.ref o0), .val (.int i1), .val (.int i2), .unset] [(.ref o0), (.int (((i2 &&& (15 : Int32)) <<< ((12 : Int32) &&& 31)) ||| (((g0 ((i1 + (1 : Int32))).toNatClampNeg) &&& (63 : Int32)) <<< ((6 : Int32) &&& 31))))]))
  refine own_step (fun t k => XS.iloadN X.here hx rfl (hb hby d1_65) rfl  k) ?_
  show own_Fin p e below s Q 0 0 (T.setTop (mkF m 66 #[.val (.ref o0), .val (.int i1), .val (.int i2), .unset] [(.int i1), (.ref o0), (.int (((i2 &&& (15 : Int32)) <<< ((12 : Int32) &&& 31)) ||| (((g0 ((i1 + (1 : Int32))).toNatClampNeg) &&& (63 : Int32)) <<< ((6 : Int32) &&& 31))))]))
  refine own_step (fun t k => XS.iconst X.here hx rfl (hb hby d1_66) k) ?_
  show own_Fin p e below s Q 0 0 (T.setTop (mkF m 67 #[.val (.ref o0), .val (.int i1), .val (.int i2), .unset] [(.int (2 : Int32)), (.int i1), (.ref o0), (.int (((i2 &&& (15 : Int32)) <<< ((12 : Int32) &&& 31)) ||| (((g0 ((i1 + (1 : Int32))).toNatClampNeg) &&& (63 : Int32)) <<< ((6 : Int32) &&& 31))))]))
  refine own_step (fun t k => XS.iadd X.here hx rfl (hb hby d1_67) rfl k) ?_
  show own_Fin p e below s Q 0 0 (T.setTop (mkF m 68 #[.val (.ref o0), .val (.int i1), .val (.int i2), .unset] [(.int (i1 + (2 : Int32))), (.ref o0), (.int (((i2 &&& (15 : Int32)) <<< ((12 : Int32) &&& 31)) ||| (((g0 ((i1 + (1 : Int32))).toNatClampNeg) &&& (63 : Int32)) <<< ((6 : Int32) &&& 31))))]))
  obtain ⟨ca68, Ar68, Sz68, Ht68⟩ := id A0
  have hin68 : ¬ ((i1 + (2 : Int32)) < 0 ∨ ca68.slots.size ≤ ((i1 + (2 : Int32))).toNatClampNeg) := by rw [Sz68]; exact hb2
  refine own_step (X.baloadBytes hx (j := (i1 + (2 : Int32))) (v := (.int (g0 ((i1 + (2 : Int32))).toNatClampNeg))) (by rw [eT]; exact Ar68.1) (State.isArrayOf_alike hZ.alike Ar68.2.1) Ar68.2.2 hin68 (Ht68 _ (by rw [← Sz68]; exact Nat.lt_of_not_le fun y => hin68 (Or.inr y))) (g := (mkF m 68 #[.val (.ref o0), .val (.int i1), .val (.int i2), .unset] [(.int (i1 + (2 : Int32))), (.ref o0), (.int (((i2 &&& (15 : Int32)) <<< ((12 : Int32) &&& 31)) ||| (((g0 ((i1 + (1 : Int32))).toNatClampNeg) &&& (63 : Int32)) <<< ((6 : Int32) &&& 31))))])) rfl rfl (hb hby d1_68)) ?_
  show own_Fin p e below s Q 0 0 (T.setTop (mkF m 69 #[.val (.ref o0), .val (.int i1), .val (.int i2), .unset] [(.int (g0 ((i1 + (2 : Int32))).toNatClampNeg)), (.int (((i2 &&& (15 : Int32)) <<< ((12 : Int32) &&& 31)) ||| (((g0 ((i1 + (1 : Int32))).toNatClampNeg) &&& (63 : Int32)) <<< ((6 : Int32) &&& 31))))]))
  refine own_step (fun t k => XS.bipush X.here hx rfl (hb hby d1_69) k) ?_
  show own_Fin p e below s Q 0 0 (T.setTop (mkF m 71 #[.val (.ref o0), .val (.int i1), .val (.int i2), .unset] [(.int (63 : Int32)), (.int (g0 ((i1 + (2 : Int32))).toNatClampNeg)), (.int (((i2 &&& (15 : Int32)) <<< ((12 : Int32) &&& 31)) ||| (((g0 ((i1 + (1 : Int32))).toNatClampNeg) &&& (63 : Int32)) <<< ((6 : Int32) &&& 31))))]))
  refine own_step (fun t k => XS.iand X.here hx rfl (hb hby d1_71) rfl k) ?_
  show own_Fin p e below s Q 0 0 (T.setTop (mkF m 72 #[.val (.ref o0), .val (.int i1), .val (.int i2), .unset] [(.int ((g0 ((i1 + (2 : Int32))).toNatClampNeg) &&& (63 : Int32))), (.int (((i2 &&& (15 : Int32)) <<< ((12 : Int32) &&& 31)) ||| (((g0 ((i1 + (1 : Int32))).toNatClampNeg) &&& (63 : Int32)) <<< ((6 : Int32) &&& 31))))]))
  refine own_step (fun t k => XS.ior X.here hx rfl (hb hby d1_72) rfl k) ?_
  show own_Fin p e below s Q 0 0 (T.setTop (mkF m 73 #[.val (.ref o0), .val (.int i1), .val (.int i2), .unset] [(.int ((((i2 &&& (15 : Int32)) <<< ((12 : Int32) &&& 31)) ||| (((g0 ((i1 + (1 : Int32))).toNatClampNeg) &&& (63 : Int32)) <<< ((6 : Int32) &&& 31))) ||| ((g0 ((i1 + (2 : Int32))).toNatClampNeg) &&& (63 : Int32))))]))
  refine own_step (fun t k => XS.istoreN X.here hx rfl (hb hby d1_73) rfl (l' := #[.val (.ref o0), .val (.int i1), .val (.int i2), .val (.int ((((i2 &&& (15 : Int32)) <<< ((12 : Int32) &&& 31)) ||| (((g0 ((i1 + (1 : Int32))).toNatClampNeg) &&& (63 : Int32)) <<< ((6 : Int32) &&& 31))) ||| ((g0 ((i1 + (2 : Int32))).toNatClampNeg) &&& (63 : Int32))))]) rfl k) ?_
  show own_Fin p e below s Q 0 0 (T.setTop (mkF m 74 #[.val (.ref o0), .val (.int i1), .val (.int i2), .val (.int ((((i2 &&& (15 : Int32)) <<< ((12 : Int32) &&& 31)) ||| (((g0 ((i1 + (1 : Int32))).toNatClampNeg) &&& (63 : Int32)) <<< ((6 : Int32) &&& 31))) ||| ((g0 ((i1 + (2 : Int32))).toNatClampNeg) &&& (63 : Int32))))] []))
  refine own_step (fun t k => XS.goto X.here hx rfl (pc0 := 74) (pc' := 118) rfl (hb hby d1_74) (by decide) (by decide) k) ?_
  exact b1_118 o0 g0 z0 i1 i2 ((((i2 &&& (15 : Int32)) <<< ((12 : Int32) &&& 31)) ||| (((g0 ((i1 + (1 : Int32))).toNatClampNeg) &&& (63 : Int32)) <<< ((6 : Int32) &&& 31))) ||| ((g0 ((i1 + (2 : Int32))).toNatClampNeg) &&& (63 : Int32))) hw X hx hZ hby hml hown hret hlk eT N (by omega) (by omega) A0 hb0 hb1 hb2 hb3 v (hv) hQ
def f1_77 (g0 : Nat → Int32) (i1 : Int32) (i2 : Int32) : Int32 := f1_118 g0 i1 i2 (((((i2 &&& (7 : Int32)) <<< ((18 : Int32) &&& 31)) ||| (((g0 ((i1 + (1 : Int32))).toNatClampNeg) &&& (63 : Int32)) <<< ((12 : Int32) &&& 31))) ||| (((g0 ((i1 + (2 : Int32))).toNatClampNeg) &&& (63 : Int32)) <<< ((6 : Int32) &&& 31))) ||| ((g0 ((i1 + (3 : Int32))).toNatClampNeg) &&& (63 : Int32)))
set_option maxRecDepth 65536 in
set_option maxHeartbeats 40000000 in
theorem b1_77 {p : Program} {l : Launch} {e : Env} {s : State} {m : MethodId} {args : Array Value} {below : List Frame} {meth : Method} {c : Code} {T : State} {locs : List Loc} {cells slots : Nat} {Z : State} {a0 : Array Value} {h : Heap} {n0 : Nat} {Q : Option Value → Heap → List Loc → Prop} (o0 : Addr) (g0 : Nat → Int32) (z0 : Nat) (i1 : Int32) (i2 : Int32) (hw : ∀ d ∈ tables_1, d.before a0 Z = true) (X : Stand p l e ({ frames := 0, cells := 0, slots := 0, locals := 0 } : Room) s m args below meth c T locs cells slots) (hx : p.tables.exec = Jvm.exec) (hZ : Z.Warmed39 s.vm) (hby : c.code = prog_132_method_30_code) (hml : c.maxLocals = 4) (hown : s.vm.findClass "com/example/zoria/zoria/xml/XmlName" = some m.cls) (hret : meth.sig.returnType = some .int) (hlk : meth.locks = false) (eT : T.heap = h) (N : Fr n0 locs) (hc : cells ≤ 0) (hs : slots ≤ 0) (A0 : own_AF Z h o0 .byte z0 g0) (hb0 : own_In z0 i1) (hb1 : own_In z0 (i1 + (1 : Int32))) (hb2 : own_In z0 (i1 + (2 : Int32))) (hb3 : own_In z0 (i1 + (3 : Int32))) (v : Int32) (hv : v = f1_77 g0 i1 i2) (hQ : ∀ L', Fr n0 L' → Q (some (.int v)) h L') :
    own_Fin p e below s Q 0 0 (T.setTop (mkF m 77 #[.val (.ref o0), .val (.int i1), .val (.int i2), .unset] [])) := by
  refine own_step (fun t k => XS.iloadN X.here hx rfl (hb hby d1_77) rfl  k) ?_
  show own_Fin p e below s Q 0 0 (T.setTop (mkF m 78 #[.val (.ref o0), .val (.int i1), .val (.int i2), .unset] [(.int i2)]))
  refine own_step (fun t k => XS.bipush X.here hx rfl (hb hby d1_78) k) ?_
  show own_Fin p e below s Q 0 0 (T.setTop (mkF m 80 #[.val (.ref o0), .val (.int i1), .val (.int i2), .unset] [(.int (7 : Int32)), (.int i2)]))
  refine own_step (fun t k => XS.iand X.here hx rfl (hb hby d1_80) rfl k) ?_
  show own_Fin p e below s Q 0 0 (T.setTop (mkF m 81 #[.val (.ref o0), .val (.int i1), .val (.int i2), .unset] [(.int (i2 &&& (7 : Int32)))]))
  refine own_step (fun t k => XS.bipush X.here hx rfl (hb hby d1_81) k) ?_
  show own_Fin p e below s Q 0 0 (T.setTop (mkF m 83 #[.val (.ref o0), .val (.int i1), .val (.int i2), .unset] [(.int (18 : Int32)), (.int (i2 &&& (7 : Int32)))]))
  refine own_step (fun t k => XS.ishl X.here hx rfl (hb hby d1_83) rfl k) ?_
  show own_Fin p e below s Q 0 0 (T.setTop (mkF m 84 #[.val (.ref o0), .val (.int i1), .val (.int i2), .unset] [(.int ((i2 &&& (7 : Int32)) <<< ((18 : Int32) &&& 31)))]))
  refine own_step (fun t k => XS.aloadN X.here hx rfl (hb hby d1_84) rfl rfl k) ?_
  show own_Fin p e below s Q 0 0 (T.setTop (mkF m 85 #[.val (.ref o0), .val (.int i1), .val (.int i2), .unset] [(.ref o0), (.int ((i2 &&& (7 : Int32)) <<< ((18 : Int32) &&& 31)))]))
  refine own_step (fun t k => XS.iloadN X.here hx rfl (hb hby d1_85) rfl  k) ?_
  show own_Fin p e below s Q 0 0 (T.setTop (mkF m 86 #[.val (.ref o0), .val (.int i1), .val (.int i2), .unset] [(.int i1), (.ref o0), (.int ((i2 &&& (7 : Int32)) <<< ((18 : Int32) &&& 31)))]))
  refine own_step (fun t k => XS.iconst X.here hx rfl (hb hby d1_86) k) ?_
  show own_Fin p e below s Q 0 0 (T.setTop (mkF m 87 #[.val (.ref o0), .val (.int i1), .val (.int i2), .unset] [(.int (1 : Int32)), (.int i1), (.ref o0), (.int ((i2 &&& (7 : Int32)) <<< ((18 : Int32) &&& 31)))]))
  refine own_step (fun t k => XS.iadd X.here hx rfl (hb hby d1_87) rfl k) ?_
  show own_Fin p e below s Q 0 0 (T.setTop (mkF m 88 #[.val (.ref o0), .val (.int i1), .val (.int i2), .unset] [(.int (i1 + (1 : Int32))), (.ref o0), (.int ((i2 &&& (7 : Int32)) <<< ((18 : Int32) &&& 31)))]))
  obtain ⟨ca88, Ar88, Sz88, Ht88⟩ := id A0
  have hin88 : ¬ ((i1 + (1 : Int32)) < 0 ∨ ca88.slots.size ≤ ((i1 + (1 : Int32))).toNatClampNeg) := by rw [Sz88]; exact hb1
  refine own_step (X.baloadBytes hx (j := (i1 + (1 : Int32))) (v := (.int (g0 ((i1 + (1 : Int32))).toNatClampNeg))) (by rw [eT]; exact Ar88.1) (State.isArrayOf_alike hZ.alike Ar88.2.1) Ar88.2.2 hin88 (Ht88 _ (by rw [← Sz88]; exact Nat.lt_of_not_le fun y => hin88 (Or.inr y))) (g := (mkF m 88 #[.val (.ref o0), .val (.int i1), .val (.int i2), .unset] [(.int (i1 + (1 : Int32))), (.ref o0), (.int ((i2 &&& (7 : Int32)) <<< ((18 : Int32) &&& 31)))])) rfl rfl (hb hby d1_88)) ?_
  show own_Fin p e below s Q 0 0 (T.setTop (mkF m 89 #[.val (.ref o0), .val (.int i1), .val (.int i2), .unset] [(.int (g0 ((i1 + (1 : Int32))).toNatClampNeg)), (.int ((i2 &&& (7 : Int32)) <<< ((18 : Int32) &&& 31)))]))
  refine own_step (fun t k => XS.bipush X.here hx rfl (hb hby d1_89) k) ?_
  show own_Fin p e below s Q 0 0 (T.setTop (mkF m 91 #[.val (.ref o0), .val (.int i1), .val (.int i2), .unset] [(.int (63 : Int32)), (.int (g0 ((i1 + (1 : Int32))).toNatClampNeg)), (.int ((i2 &&& (7 : Int32)) <<< ((18 : Int32) &&& 31)))]))
  refine own_step (fun t k => XS.iand X.here hx rfl (hb hby d1_91) rfl k) ?_
  show own_Fin p e below s Q 0 0 (T.setTop (mkF m 92 #[.val (.ref o0), .val (.int i1), .val (.int i2), .unset] [(.int ((g0 ((i1 + (1 : Int32))).toNatClampNeg) &&& (63 : Int32))), (.int ((i2 &&& (7 : Int32)) <<< ((18 : Int32) &&& 31)))]))
  refine own_step (fun t k => XS.bipush X.here hx rfl (hb hby d1_92) k) ?_
  show own_Fin p e below s Q 0 0 (T.setTop (mkF m 94 #[.val (.ref o0), .val (.int i1), .val (.int i2), .unset] [(.int (12 : Int32)), (.int ((g0 ((i1 + (1 : Int32))).toNatClampNeg) &&& (63 : Int32))), (.int ((i2 &&& (7 : Int32)) <<< ((18 : Int32) &&& 31)))]))
  refine own_step (fun t k => XS.ishl X.here hx rfl (hb hby d1_94) rfl k) ?_
  show own_Fin p e below s Q 0 0 (T.setTop (mkF m 95 #[.val (.ref o0), .val (.int i1), .val (.int i2), .unset] [(.int (((g0 ((i1 + (1 : Int32))).toNatClampNeg) &&& (63 : Int32)) <<< ((12 : Int32) &&& 31))), (.int ((i2 &&& (7 : Int32)) <<< ((18 : Int32) &&& 31)))]))
  refine own_step (fun t k => XS.ior X.here hx rfl (hb hby d1_95) rfl k) ?_
  show own_Fin p e below s Q 0 0 (T.setTop (mkF m 96 #[.val (.ref o0), .val (.int i1), .val (.int i2), .unset] [(.int (((i2 &&& (7 : Int32)) <<< ((18 : Int32) &&& 31)) ||| (((g0 ((i1 + (1 : Int32))).toNatClampNeg) &&& (63 : Int32)) <<< ((12 : Int32) &&& 31))))]))
  refine own_step (fun t k => XS.aloadN X.here hx rfl (hb hby d1_96) rfl rfl k) ?_
  show own_Fin p e below s Q 0 0 (T.setTop (mkF m 97 #[.val (.ref o0), .val (.int i1), .val (.int i2), .unset] [(.ref o0), (.int (((i2 &&& (7 : Int32)) <<< ((18 : Int32) &&& 31)) ||| (((g0 ((i1 + (1 : Int32))).toNatClampNeg) &&& (63 : Int32)) <<< ((12 : Int32) &&& 31))))]))
  refine own_step (fun t k => XS.iloadN X.here hx rfl (hb hby d1_97) rfl  k) ?_
  show own_Fin p e below s Q 0 0 (T.setTop (mkF m 98 #[.val (.ref o0), .val (.int i1), .val (.int i2), .unset] [(.int i1), (.ref o0), (.int (((i2 &&& (7 : Int32)) <<< ((18 : Int32) &&& 31)) ||| (((g0 ((i1 + (1 : Int32))).toNatClampNeg) &&& (63 : Int32)) <<< ((12 : Int32) &&& 31))))]))
  refine own_step (fun t k => XS.iconst X.here hx rfl (hb hby d1_98) k) ?_
  show own_Fin p e below s Q 0 0 (T.setTop (mkF m 99 #[.val (.ref o0), .val (.int i1), .val (.int i2), .unset] [(.int (2 : Int32)), (.int i1), (.ref o0), (.int (((i2 &&& (7 : Int32)) <<< ((18 : Int32) &&& 31)) ||| (((g0 ((i1 + (1 : Int32))).toNatClampNeg) &&& (63 : Int32)) <<< ((12 : Int32) &&& 31))))]))
  refine own_step (fun t k => XS.iadd X.here hx rfl (hb hby d1_99) rfl k) ?_
  show own_Fin p e below s Q 0 0 (T.setTop (mkF m 100 #[.val (.ref o0), .val (.int i1), .val (.int i2), .unset] [(.int (i1 + (2 : Int32))), (.ref o0), (.int (((i2 &&& (7 : Int32)) <<< ((18 : Int32) &&& 31)) ||| (((g0 ((i1 + (1 : Int32))).toNatClampNeg) &&& (63 : Int32)) <<< ((12 : Int32) &&& 31))))]))
  obtain ⟨ca100, Ar100, Sz100, Ht100⟩ := id A0
  have hin100 : ¬ ((i1 + (2 : Int32)) < 0 ∨ ca100.slots.size ≤ ((i1 + (2 : Int32))).toNatClampNeg) := by rw [Sz100]; exact hb2
  refine own_step (X.baloadBytes hx (j := (i1 + (2 : Int32))) (v := (.int (g0 ((i1 + (2 : Int32))).toNatClampNeg))) (by rw [eT]; exact Ar100.1) (State.isArrayOf_alike hZ.alike Ar100.2.1) Ar100.2.2 hin100 (Ht100 _ (by rw [← Sz100]; exact Nat.lt_of_not_le fun y => hin100 (Or.inr y))) (g := (mkF m 100 #[.val (.ref o0), .val (.int i1), .val (.int i2), .unset] [(.int (i1 + (2 : Int32))), (.ref o0), (.int (((i2 &&& (7 : Int32)) <<< ((18 : Int32) &&& 31)) ||| (((g0 ((i1 + (1 : Int32))).toNatClampNeg) &&& (63 : Int32)) <<< ((12 : Int32) &&& 31))))])) rfl rfl (hb hby d1_100)) ?_
  show own_Fin p e below s Q 0 0 (T.setTop (mkF m 101 #[.val (.ref o0), .val (.int i1), .val (.int i2), .unset] [(.int (g0 ((i1 + (2 : Int32))).toNatClampNeg)), (.int (((i2 &&& (7 : Int32)) <<< ((18 : Int32) &&& 31)) ||| (((g0 ((i1 + (1 : Int32))).toNatClampNeg) &&& (63 : Int32)) <<< ((12 : Int32) &&& 31))))]))
  refine own_step (fun t k => XS.bipush X.here hx rfl (hb hby d1_101) k) ?_
  show own_Fin p e below s Q 0 0 (T.setTop (mkF m 103 #[.val (.ref o0), .val (.int i1), .val (.int i2), .unset] [(.int (63 : Int32)), (.int (g0 ((i1 + (2 : Int32))).toNatClampNeg)), (.int (((i2 &&& (7 : Int32)) <<< ((18 : Int32) &&& 31)) ||| (((g0 ((i1 + (1 : Int32))).toNatClampNeg) &&& (63 : Int32)) <<< ((12 : Int32) &&& 31))))]))
  refine own_step (fun t k => XS.iand X.here hx rfl (hb hby d1_103) rfl k) ?_
  show own_Fin p e below s Q 0 0 (T.setTop (mkF m 104 #[.val (.ref o0), .val (.int i1), .val (.int i2), .unset] [(.int ((g0 ((i1 + (2 : Int32))).toNatClampNeg) &&& (63 : Int32))), (.int (((i2 &&& (7 : Int32)) <<< ((18 : Int32) &&& 31)) ||| (((g0 ((i1 + (1 : Int32))).toNatClampNeg) &&& (63 : Int32)) <<< ((12 : Int32) &&& 31))))]))
  refine own_step (fun t k => XS.bipush X.here hx rfl (hb hby d1_104) k) ?_
  show own_Fin p e below s Q 0 0 (T.setTop (mkF m 106 #[.val (.ref o0), .val (.int i1), .val (.int i2), .unset] [(.int (6 : Int32)), (.int ((g0 ((i1 + (2 : Int32))).toNatClampNeg) &&& (63 : Int32))), (.int (((i2 &&& (7 : Int32)) <<< ((18 : Int32) &&& 31)) ||| (((g0 ((i1 + (1 : Int32))).toNatClampNeg) &&& (63 : Int32)) <<< ((12 : Int32) &&& 31))))]))
  refine own_step (fun t k => XS.ishl X.here hx rfl (hb hby d1_106) rfl k) ?_
  show own_Fin p e below s Q 0 0 (T.setTop (mkF m 107 #[.val (.ref o0), .val (.int i1), .val (.int i2), .unset] [(.int (((g0 ((i1 + (2 : Int32))).toNatClampNeg) &&& (63 : Int32)) <<< ((6 : Int32) &&& 31))), (.int (((i2 &&& (7 : Int32)) <<< ((18 : Int32) &&& 31)) ||| (((g0 ((i1 + (1 : Int32))).toNatClampNeg) &&& (63 : Int32)) <<< ((12 : Int32) &&& 31))))]))
  refine own_step (fun t k => XS.ior X.here hx rfl (hb hby d1_107) rfl k) ?_
  show own_Fin p e below s Q 0 0 (T.setTop (mkF m 108 #[.val (.ref o0), .val (.int i1), .val (.int i2), .unset] [(.int ((((i2 &&& (7 : Int32)) <<< ((18 : Int32) &&& 31)) ||| (((g0 ((i1 + (1 : Int32))).toNatClampNeg) &&& (63 : Int32)) <<< ((12 : Int32) &&& 31))) ||| (((g0 ((i1 + (2 : Int32))).toNatClampNeg) &&& (63 : Int32)) <<< ((6 : Int32) &&& 31))))]))
  refine own_step (fun t k => XS.aloadN X.here hx rfl (hb hby d1_108) rfl rfl k) ?_
  show own_Fin p e below s Q 0 0 (T.setTop (mkF m 109 #[.val (.ref o0), .val (.int i1), .val (.int i2), .unset] [(.ref o0), (.int ((((i2 &&& (7 : Int32)) <<< ((18 : Int32) &&& 31)) ||| (((g0 ((i1 + (1 : Int32))).toNatClampNeg) &&& (63 : Int32)) <<< ((12 : Int32) &&& 31))) ||| (((g0 ((i1 + (2 : Int32))).toNatClampNeg) &&& (63 : Int32)) <<< ((6 : Int32) &&& 31))))]))
  refine own_step (fun t k => XS.iloadN X.here hx rfl (hb hby d1_109) rfl  k) ?_
  show own_Fin p e below s Q 0 0 (T.setTop (mkF m 110 #[.val (.ref o0), .val (.int i1), .val (.int i2), .unset] [(.int i1), (.ref o0), (.int ((((i2 &&& (7 : Int32)) <<< ((18 : Int32) &&& 31)) ||| (((g0 ((i1 + (1 : Int32))).toNatClampNeg) &&& (63 : Int32)) <<< ((12 : Int32) &&& 31))) ||| (((g0 ((i1 + (2 : Int32))).toNatClampNeg) &&& (63 : Int32)) <<< ((6 : Int32) &&& 31))))]))
  refine own_step (fun t k => XS.iconst X.here hx rfl (hb hby d1_110) k) ?_
  show own_Fin p e below s Q 0 0 (T.setTop (mkF m 111 #[.val (.ref o0), .val (.int i1), .val (.int i2), .unset] [(.int (3 : Int32)), (.int i1), (.ref o0), (.int ((((i2 &&& (7 : Int32)) <<< ((18 : Int32) &&& 31)) ||| (((g0 ((i1 + (1 : Int32))).toNatClampNeg) &&& (63 : Int32)) <<< ((12 : Int32) &&& 31))) ||| (((g0 ((i1 + (2 : Int32))).toNatClampNeg) &&& (63 : Int32)) <<< ((6 : Int32) &&& 31))))]))
  refine own_step (fun t k => XS.iadd X.here hx rfl (hb hby d1_111) rfl k) ?_
  show own_Fin p e below s Q 0 0 (T.setTop (mkF m 112 #[.val (.ref o0), .val (.int i1), .val (.int i2), .unset] [(.int (i1 + (3 : Int32))), (.ref o0), (.int ((((i2 &&& (7 : Int32)) <<< ((18 : Int32) &&& 31)) ||| (((g0 ((i1 + (1 : Int32))).toNatClampNeg) &&& (63 : Int32)) <<< ((12 : Int32) &&& 31))) ||| (((g0 ((i1 + (2 : Int32))).toNatClampNeg) &&& (63 : Int32)) <<< ((6 : Int32) &&& 31))))]))
  obtain ⟨ca112, Ar112, Sz112, Ht112⟩ := id A0
  have hin112 : ¬ ((i1 + (3 : Int32)) < 0 ∨ ca112.slots.size ≤ ((i1 + (3 : Int32))).toNatClampNeg) := by rw [Sz112]; exact hb3
  refine own_step (X.baloadBytes hx (j := (i1 + (3 : Int32))) (v := (.int (g0 ((i1 + (3 : Int32))).toNatClampNeg))) (by rw [eT]; exact Ar112.1) (State.isArrayOf_alike hZ.alike Ar112.2.1) Ar112.2.2 hin112 (Ht112 _ (by rw [← Sz112]; exact Nat.lt_of_not_le fun y => hin112 (Or.inr y))) (g := (mkF m 112 #[.val (.ref o0), .val (.int i1), .val (.int i2), .unset] [(.int (i1 + (3 : Int32))), (.ref o0), (.int ((((i2 &&& (7 : Int32)) <<< ((18 : Int32) &&& 31)) ||| (((g0 ((i1 + (1 : Int32))).toNatClampNeg) &&& (63 : Int32)) <<< ((12 : Int32) &&& 31))) ||| (((g0 ((i1 + (2 : Int32))).toNatClampNeg) &&& (63 : Int32)) <<< ((6 : Int32) &&& 31))))])) rfl rfl (hb hby d1_112)) ?_
  show own_Fin p e below s Q 0 0 (T.setTop (mkF m 113 #[.val (.ref o0), .val (.int i1), .val (.int i2), .unset] [(.int (g0 ((i1 + (3 : Int32))).toNatClampNeg)), (.int ((((i2 &&& (7 : Int32)) <<< ((18 : Int32) &&& 31)) ||| (((g0 ((i1 + (1 : Int32))).toNatClampNeg) &&& (63 : Int32)) <<< ((12 : Int32) &&& 31))) ||| (((g0 ((i1 + (2 : Int32))).toNatClampNeg) &&& (63 : Int32)) <<< ((6 : Int32) &&& 31))))]))
  refine own_step (fun t k => XS.bipush X.here hx rfl (hb hby d1_113) k) ?_
  show own_Fin p e below s Q 0 0 (T.setTop (mkF m 115 #[.val (.ref o0), .val (.int i1), .val (.int i2), .unset] [(.int (63 : Int32)), (.int (g0 ((i1 + (3 : Int32))).toNatClampNeg)), (.int ((((i2 &&& (7 : Int32)) <<< ((18 : Int32) &&& 31)) ||| (((g0 ((i1 + (1 : Int32))).toNatClampNeg) &&& (63 : Int32)) <<< ((12 : Int32) &&& 31))) ||| (((g0 ((i1 + (2 : Int32))).toNatClampNeg) &&& (63 : Int32)) <<< ((6 : Int32) &&& 31))))]))
  refine own_step (fun t k => XS.iand X.here hx rfl (hb hby d1_115) rfl k) ?_
  show own_Fin p e below s Q 0 0 (T.setTop (mkF m 116 #[.val (.ref o0), .val (.int i1), .val (.int i2), .unset] [(.int ((g0 ((i1 + (3 : Int32))).toNatClampNeg) &&& (63 : Int32))), (.int ((((i2 &&& (7 : Int32)) <<< ((18 : Int32) &&& 31)) ||| (((g0 ((i1 + (1 : Int32))).toNatClampNeg) &&& (63 : Int32)) <<< ((12 : Int32) &&& 31))) ||| (((g0 ((i1 + (2 : Int32))).toNatClampNeg) &&& (63 : Int32)) <<< ((6 : Int32) &&& 31))))]))
  refine own_step (fun t k => XS.ior X.here hx rfl (hb hby d1_116) rfl k) ?_
  show own_Fin p e below s Q 0 0 (T.setTop (mkF m 117 #[.val (.ref o0), .val (.int i1), .val (.int i2), .unset] [(.int (((((i2 &&& (7 : Int32)) <<< ((18 : Int32) &&& 31)) ||| (((g0 ((i1 + (1 : Int32))).toNatClampNeg) &&& (63 : Int32)) <<< ((12 : Int32) &&& 31))) ||| (((g0 ((i1 + (2 : Int32))).toNatClampNeg) &&& (63 : Int32)) <<< ((6 : Int32) &&& 31))) ||| ((g0 ((i1 + (3 : Int32))).toNatClampNeg) &&& (63 : Int32))))]))
  refine own_step (fun t k => XS.istoreN X.here hx rfl (hb hby d1_117) rfl (l' := #[.val (.ref o0), .val (.int i1), .val (.int i2), .val (.int (((((i2 &&& (7 : Int32)) <<< ((18 : Int32) &&& 31)) ||| (((g0 ((i1 + (1 : Int32))).toNatClampNeg) &&& (63 : Int32)) <<< ((12 : Int32) &&& 31))) ||| (((g0 ((i1 + (2 : Int32))).toNatClampNeg) &&& (63 : Int32)) <<< ((6 : Int32) &&& 31))) ||| ((g0 ((i1 + (3 : Int32))).toNatClampNeg) &&& (63 : Int32))))]) rfl k) ?_
  exact b1_118 o0 g0 z0 i1 i2 (((((i2 &&& (7 : Int32)) <<< ((18 : Int32) &&& 31)) ||| (((g0 ((i1 + (1 : Int32))).toNatClampNeg) &&& (63 : Int32)) <<< ((12 : Int32) &&& 31))) ||| (((g0 ((i1 + (2 : Int32))).toNatClampNeg) &&& (63 : Int32)) <<< ((6 : Int32) &&& 31))) ||| ((g0 ((i1 + (3 : Int32))).toNatClampNeg) &&& (63 : Int32))) hw X hx hZ hby hml hown hret hlk eT N (by omega) (by omega) A0 hb0 hb1 hb2 hb3 v (hv) hQ
def f1_39 (g0 : Nat → Int32) (i1 : Int32) (i2 : Int32) : Int32 := if i2 < (-16 : Int32) then f1_45 g0 i1 i2 else f1_77 g0 i1 i2
set_option maxRecDepth 65536 in
set_option maxHeartbeats 40000000 in
theorem b1_39 {p : Program} {l : Launch} {e : Env} {s : State} {m : MethodId} {args : Array Value} {below : List Frame} {meth : Method} {c : Code} {T : State} {locs : List Loc} {cells slots : Nat} {Z : State} {a0 : Array Value} {h : Heap} {n0 : Nat} {Q : Option Value → Heap → List Loc → Prop} (o0 : Addr) (g0 : Nat → Int32) (z0 : Nat) (i1 : Int32) (i2 : Int32) (hw : ∀ d ∈ tables_1, d.before a0 Z = true) (X : Stand p l e ({ frames := 0, cells := 0, slots := 0, locals := 0 } : Room) s m args below meth c T locs cells slots) (hx : p.tables.exec = Jvm.exec) (hZ : Z.Warmed39 s.vm) (hby : c.code = prog_132_method_30_code) (hml : c.maxLocals = 4) (hown : s.vm.findClass "com/example/zoria/zoria/xml/XmlName" = some m.cls) (hret : meth.sig.returnType = some .int) (hlk : meth.locks = false) (eT : T.heap = h) (N : Fr n0 locs) (hc : cells ≤ 0) (hs : slots ≤ 0) (A0 : own_AF Z h o0 .byte z0 g0) (hb0 : own_In z0 i1) (hb1 : own_In z0 (i1 + (1 : Int32))) (hb2 : own_In z0 (i1 + (2 : Int32))) (hb3 : own_In z0 (i1 + (3 : Int32))) (v : Int32) (hv : v = f1_39 g0 i1 i2) (hQ : ∀ L', Fr n0 L' → Q (some (.int v)) h L') :
    own_Fin p e below s Q 0 0 (T.setTop (mkF m 39 #[.val (.ref o0), .val (.int i1), .val (.int i2), .unset] [])) := by
  refine own_step (fun t k => XS.iloadN X.here hx rfl (hb hby d1_39) rfl  k) ?_
  show own_Fin p e below s Q 0 0 (T.setTop (mkF m 40 #[.val (.ref o0), .val (.int i1), .val (.int i2), .unset] [(.int i2)]))
  refine own_step (fun t k => XS.bipush X.here hx rfl (hb hby d1_40) k) ?_
  show own_Fin p e below s Q 0 0 (T.setTop (mkF m 42 #[.val (.ref o0), .val (.int i1), .val (.int i2), .unset] [(.int (-16 : Int32)), (.int i2)]))
  by_cases hB42_6 : i2 < (-16 : Int32)
  · refine own_step (fun t k => XS.icmpNo X.here hx rfl (hb hby d1_42) rfl (tlt hB42_6).2.1 k) ?_
    exact b1_45 o0 g0 z0 i1 i2 hw X hx hZ hby hml hown hret hlk eT N (by omega) (by omega) A0 hb0 hb1 hb2 hb3 v (hv.trans (if_pos hB42_6)) hQ
  · refine own_step (fun t k => XS.icmpYes X.here hx rfl (pc0 := 42) (pc' := 77) rfl (hb hby d1_42) rfl (flt hB42_6).2.1 (by decide) (by decide) k) ?_
    exact b1_77 o0 g0 z0 i1 i2 hw X hx hZ hby hml hown hret hlk eT N (by omega) (by omega) A0 hb0 hb1 hb2 hb3 v (hv.trans (if_neg hB42_6)) hQ
def f1_13 (g0 : Nat → Int32) (i1 : Int32) (i2 : Int32) : Int32 := if i2 < (-32 : Int32) then f1_19 g0 i1 i2 else f1_39 g0 i1 i2
set_option maxRecDepth 65536 in
set_option maxHeartbeats 40000000 in
theorem b1_13 {p : Program} {l : Launch} {e : Env} {s : State} {m : MethodId} {args : Array Value} {below : List Frame} {meth : Method} {c : Code} {T : State} {locs : List Loc} {cells slots : Nat} {Z : State} {a0 : Array Value} {h : Heap} {n0 : Nat} {Q : Option Value → Heap → List Loc → Prop} (o0 : Addr) (g0 : Nat → Int32) (z0 : Nat) (i1 : Int32) (i2 : Int32) (hw : ∀ d ∈ tables_1, d.before a0 Z = true) (X : Stand p l e ({ frames := 0, cells := 0, slots := 0, locals := 0 } : Room) s m args below meth c T locs cells slots) (hx : p.tables.exec = Jvm.exec) (hZ : Z.Warmed39 s.vm) (hby : c.code = prog_132_method_30_code) (hml : c.maxLocals = 4) (hown : s.vm.findClass "com/example/zoria/zoria/xml/XmlName" = some m.cls) (hret : meth.sig.returnType = some .int) (hlk : meth.locks = false) (eT : T.heap = h) (N : Fr n0 locs) (hc : cells ≤ 0) (hs : slots ≤ 0) (A0 : own_AF Z h o0 .byte z0 g0) (hb0 : own_In z0 i1) (hb1 : own_In z0 (i1 + (1 : Int32))) (hb2 : own_In z0 (i1 + (2 : Int32))) (hb3 : own_In z0 (i1 + (3 : Int32))) (v : Int32) (hv : v = f1_13 g0 i1 i2) (hQ : ∀ L', Fr n0 L' → Q (some (.int v)) h L') :
    own_Fin p e below s Q 0 0 (T.setTop (mkF m 13 #[.val (.ref o0), .val (.int i1), .val (.int i2), .unset] [])) := by
  refine own_step (fun t k => XS.iloadN X.here hx rfl (hb hby d1_13) rfl  k) ?_
  show own_Fin p e below s Q 0 0 (T.setTop (mkF m 14 #[.val (.ref o0), .val (.int i1), .val (.int i2), .unset] [(.int i2)]))
  refine own_step (fun t k => XS.bipush X.here hx rfl (hb hby d1_14) k) ?_
  show own_Fin p e below s Q 0 0 (T.setTop (mkF m 16 #[.val (.ref o0), .val (.int i1), .val (.int i2), .unset] [(.int (-32 : Int32)), (.int i2)]))
  by_cases hB16_3 : i2 < (-32 : Int32)
  · refine own_step (fun t k => XS.icmpNo X.here hx rfl (hb hby d1_16) rfl (tlt hB16_3).2.1 k) ?_
    exact b1_19 o0 g0 z0 i1 i2 hw X hx hZ hby hml hown hret hlk eT N (by omega) (by omega) A0 hb0 hb1 hb2 hb3 v (hv.trans (if_pos hB16_3)) hQ
  · refine own_step (fun t k => XS.icmpYes X.here hx rfl (pc0 := 16) (pc' := 39) rfl (hb hby d1_16) rfl (flt hB16_3).2.1 (by decide) (by decide) k) ?_
    exact b1_39 o0 g0 z0 i1 i2 hw X hx hZ hby hml hown hret hlk eT N (by omega) (by omega) A0 hb0 hb1 hb2 hb3 v (hv.trans (if_neg hB16_3)) hQ
def f1_8 (g0 : Nat → Int32) (i1 : Int32) (i2 : Int32) : Int32 := f1_118 g0 i1 i2 i2
set_option maxRecDepth 65536 in
set_option maxHeartbeats 40000000 in
theorem b1_8 {p : Program} {l : Launch} {e : Env} {s : State} {m : MethodId} {args : Array Value} {below : List Frame} {meth : Method} {c : Code} {T : State} {locs : List Loc} {cells slots : Nat} {Z : State} {a0 : Array Value} {h : Heap} {n0 : Nat} {Q : Option Value → Heap → List Loc → Prop} (o0 : Addr) (g0 : Nat → Int32) (z0 : Nat) (i1 : Int32) (i2 : Int32) (hw : ∀ d ∈ tables_1, d.before a0 Z = true) (X : Stand p l e ({ frames := 0, cells := 0, slots := 0, locals := 0 } : Room) s m args below meth c T locs cells slots) (hx : p.tables.exec = Jvm.exec) (hZ : Z.Warmed39 s.vm) (hby : c.code = prog_132_method_30_code) (hml : c.maxLocals = 4) (hown : s.vm.findClass "com/example/zoria/zoria/xml/XmlName" = some m.cls) (hret : meth.sig.returnType = some .int) (hlk : meth.locks = false) (eT : T.heap = h) (N : Fr n0 locs) (hc : cells ≤ 0) (hs : slots ≤ 0) (A0 : own_AF Z h o0 .byte z0 g0) (hb0 : own_In z0 i1) (hb1 : own_In z0 (i1 + (1 : Int32))) (hb2 : own_In z0 (i1 + (2 : Int32))) (hb3 : own_In z0 (i1 + (3 : Int32))) (v : Int32) (hv : v = f1_8 g0 i1 i2) (hQ : ∀ L', Fr n0 L' → Q (some (.int v)) h L') :
    own_Fin p e below s Q 0 0 (T.setTop (mkF m 8 #[.val (.ref o0), .val (.int i1), .val (.int i2), .unset] [])) := by
  refine own_step (fun t k => XS.iloadN X.here hx rfl (hb hby d1_8) rfl  k) ?_
  show own_Fin p e below s Q 0 0 (T.setTop (mkF m 9 #[.val (.ref o0), .val (.int i1), .val (.int i2), .unset] [(.int i2)]))
  refine own_step (fun t k => XS.istoreN X.here hx rfl (hb hby d1_9) rfl (l' := #[.val (.ref o0), .val (.int i1), .val (.int i2), .val (.int i2)]) rfl k) ?_
  show own_Fin p e below s Q 0 0 (T.setTop (mkF m 10 #[.val (.ref o0), .val (.int i1), .val (.int i2), .val (.int i2)] []))
  refine own_step (fun t k => XS.goto X.here hx rfl (pc0 := 10) (pc' := 118) rfl (hb hby d1_10) (by decide) (by decide) k) ?_
  exact b1_118 o0 g0 z0 i1 i2 i2 hw X hx hZ hby hml hown hret hlk eT N (by omega) (by omega) A0 hb0 hb1 hb2 hb3 v (hv) hQ
def f1_0 (g0 : Nat → Int32) (i1 : Int32) : Int32 := if (g0 (i1).toNatClampNeg) < (0 : Int32) then f1_13 g0 i1 (g0 (i1).toNatClampNeg) else f1_8 g0 i1 (g0 (i1).toNatClampNeg)
set_option maxRecDepth 65536 in
set_option maxHeartbeats 40000000 in
theorem b1_0 {p : Program} {l : Launch} {e : Env} {s : State} {m : MethodId} {args : Array Value} {below : List Frame} {meth : Method} {c : Code} {T : State} {locs : List Loc} {cells slots : Nat} {Z : State} {a0 : Array Value} {h : Heap} {n0 : Nat} {Q : Option Value → Heap → List Loc → Prop} (o0 : Addr) (g0 : Nat → Int32) (z0 : Nat) (i1 : Int32) (hw : ∀ d ∈ tables_1, d.before a0 Z = true) (X : Stand p l e ({ frames := 0, cells := 0, slots := 0, locals := 0 } : Room) s m args below meth c T locs cells slots) (hx : p.tables.exec = Jvm.exec) (hZ : Z.Warmed39 s.vm) (hby : c.code = prog_132_method_30_code) (hml : c.maxLocals = 4) (hown : s.vm.findClass "com/example/zoria/zoria/xml/XmlName" = some m.cls) (hret : meth.sig.returnType = some .int) (hlk : meth.locks = false) (eT : T.heap = h) (N : Fr n0 locs) (hc : cells ≤ 0) (hs : slots ≤ 0) (A0 : own_AF Z h o0 .byte z0 g0) (hb0 : own_In z0 i1) (hb1 : own_In z0 (i1 + (1 : Int32))) (hb2 : own_In z0 (i1 + (2 : Int32))) (hb3 : own_In z0 (i1 + (3 : Int32))) (v : Int32) (hv : v = f1_0 g0 i1) (hQ : ∀ L', Fr n0 L' → Q (some (.int v)) h L') :
    own_Fin p e below s Q 0 0 (T.setTop (mkF m 0 #[.val (.ref o0), .val (.int i1), .unset, .unset] [])) := by
  refine own_step (fun t k => XS.aloadN X.here hx rfl (hb hby d1_0) rfl rfl k) ?_
  show own_Fin p e below s Q 0 0 (T.setTop (mkF m 1 #[.val (.ref o0), .val (.int i1), .unset, .unset] [(.ref o0)]))
  refine own_step (fun t k => XS.iloadN X.here hx rfl (hb hby d1_1) rfl  k) ?_
  show own_Fin p e below s Q 0 0 (T.setTop (mkF m 2 #[.val (.ref o0), .val (.int i1), .unset, .unset] [(.int i1), (.ref o0)]))
  obtain ⟨ca2, Ar2, Sz2, Ht2⟩ := id A0
  have hin2 : ¬ (i1 < 0 ∨ ca2.slots.size ≤ (i1).toNatClampNeg) := by rw [Sz2]; exact hb0
  refine own_step (X.baloadBytes hx (j := i1) (v := (.int (g0 (i1).toNatClampNeg))) (by rw [eT]; exact Ar2.1) (State.isArrayOf_alike hZ.alike Ar2.2.1) Ar2.2.2 hin2 (Ht2 _ (by rw [← Sz2]; exact Nat.lt_of_not_le fun y => hin2 (Or.inr y))) (g := (mkF m 2 #[.val (.ref o0), .val (.int i1), .unset, .unset] [(.int i1), (.ref o0)])) rfl rfl (hb hby d1_2)) ?_
  show own_Fin p e below s Q 0 0 (T.setTop (mkF m 3 #[.val (.ref o0), .val (.int i1), .unset, .unset] [(.int (g0 (i1).toNatClampNeg))]))
  refine own_step (fun t k => XS.istoreN X.here hx rfl (hb hby d1_3) rfl (l' := #[.val (.ref o0), .val (.int i1), .val (.int (g0 (i1).toNatClampNeg)), .unset]) rfl k) ?_
  show own_Fin p e below s Q 0 0 (T.setTop (mkF m 4 #[.val (.ref o0), .val (.int i1), .val (.int (g0 (i1).toNatClampNeg)), .unset] []))
  refine own_step (fun t k => XS.iloadN X.here hx rfl (hb hby d1_4) rfl  k) ?_
  show own_Fin p e below s Q 0 0 (T.setTop (mkF m 5 #[.val (.ref o0), .val (.int i1), .val (.int (g0 (i1).toNatClampNeg)), .unset] [(.int (g0 (i1).toNatClampNeg))]))
  by_cases hB5_1 : (g0 (i1).toNatClampNeg) < (0 : Int32)
  · refine own_step (fun t k => XS.ifYes X.here hx rfl (pc0 := 5) (pc' := 13) rfl (hb hby d1_5) rfl ((if0 _ _).trans (tlt hB5_1).1) (by decide) (by decide) k) ?_
    exact b1_13 o0 g0 z0 i1 (g0 (i1).toNatClampNeg) hw X hx hZ hby hml hown hret hlk eT N (by omega) (by omega) A0 hb0 hb1 hb2 hb3 v (hv.trans (if_pos hB5_1)) hQ
  · refine own_step (fun t k => XS.ifNo X.here hx rfl (hb hby d1_5) rfl ((if0 _ _).trans (flt hB5_1).1) k) ?_
    exact b1_8 o0 g0 z0 i1 (g0 (i1).toNatClampNeg) hw X hx hZ hby hml hown hret hlk eT N (by omega) (by omega) A0 hb0 hb1 hb2 hb3 v (hv.trans (if_neg hB5_1)) hQ
theorem pnm_0 : plainName "com/example/zoria/zoria/xml/XmlName" = true := by first | (simp [plainName, overriddenIn]; done) | decide +kernel
theorem pdm_0 : parseMethodDescriptor "([BI)I" = some ⟨[(.array .byte), .int], some .int⟩ := by decide +kernel
theorem ef_1 (m : MethodId) (o0 : Addr) (i1 : Int32) : entryFrame m #[(.ref o0), (.int i1)] 4 = (mkF m 0 #[.val (.ref o0), .val (.int i1), .unset, .unset] []) := by first | (simp [entryFrame, mkF, argsToLocals, Value.category]; done) | rfl
def Q1 (o0 : Addr) (g0 : Nat → Int32) (z0 : Nat) (i1 : Int32) (h0 : Heap) (n0 : Nat) (v : Option Value) (h : Heap) (L : List Loc) : Prop := v = some (.int (f1_0 g0 i1)) ∧ Fr n0 L ∧ h = h0
set_option maxRecDepth 65536 in
set_option maxHeartbeats 4000000 in
theorem rm1 (l : Launch) (Z : State) (a0 : Array Value) (hw : ∀ d ∈ tables_1, d.before a0 Z = true) (ws : List Jvm.Cond) (o0 : Addr) (g0 : Nat → Int32) (z0 : Nat) (i1 : Int32) (h0 : Heap) (n0 : Nat) (A0 : own_AF Z h0 o0 .byte z0 g0) (hb0 : own_In z0 i1) (hb1 : own_In z0 (i1 + (1 : Int32))) (hb2 : own_In z0 (i1 + (2 : Int32))) (hb3 : own_In z0 (i1 + (3 : Int32))) :
    MetFree l (⟨"com/example/zoria/zoria/xml/XmlName", "codePointAt", "([BI)I"⟩ : MethodName) (head1 (Jvm.Cond.code (⟨"com/example/zoria/zoria/xml/XmlName", "codePointAt", "([BI)I"⟩ : MethodName) prog_132_method_30_code 4 (some .int) :: ws) ({ frames := 0, cells := 0, slots := 0, locals := 0 } : Room)) (fun a U => a = #[(.ref o0), (.int i1)] ∧ Z.Warmed39 U.vm ∧ U.heap = h0) (fun _ _ _ _ _ => True) (fun _ U o U' => ∃ v L, o = .returned v ∧ Q1 o0 g0 z0 i1 h0 n0 v U'.heap L ∧ FrameEnd U o U' L ({ frames := 0, cells := 0, slots := 0, locals := 0 } : Room).cells ({ frames := 0, cells := 0, slots := 0, locals := 0 } : Room).slots) := by
  refine MetFree.of_bodySF (plainFor_of_name pnm_0) hisR ?_
  intro p e s m args below meth c s₁ Bd hml0 hP hK
  obtain ⟨rfl, hZ, hh⟩ := hP
  have hx := Bd.exec
  have hby := Bd.bytes
  have hml : c.maxLocals = 4 := hml0
  have hown : s.vm.findClass "com/example/zoria/zoria/xml/XmlName" = some m.cls := findClass_of_methodNamed Bd.named
  have X0 : Stand p l e ({ frames := 0, cells := 0, slots := 0, locals := 0 } : Room) s m #[(.ref o0), (.int i1)] below meth c s₁ [] 0 0 := Stand.of_body Bd
  have e0 : s₁.heap = h0 := by rw [← hh, Bd.state]; rfl
  have fin := b1_0 o0 g0 z0 i1 (Q := Q1 o0 g0 z0 i1 h0 n0) hw X0 hx hZ hby hml hown Bd.returns (BodyLoose.notSynchronized Bd) e0 (Fr.nil n0) (Nat.zero_le _) (Nat.zero_le _) A0 hb0 hb1 hb2 hb3 _ rfl (fun L' n' => ⟨rfl, n', rfl⟩)
  exact own_step (fun t k => castTop (ef_1 m o0 i1) k) fin
theorem own_z0 : (0 : Int32).toInt = 0 := by decide
theorem own_nlt {x : Int32} (h : 0 ≤ x.toInt) : ¬ x < (0 : Int32) := fun q => by
  have q' := Int32.lt_iff_toInt_lt.mp q
  rw [own_z0] at q'
  omega
theorem own_ov (o : Int32) (d : Int32) (D : Nat) (hd : d.toInt = D) (hD : D ≤ 4) (h : 0 ≤ o.toInt ∧ o.toInt ≤ 3) : (o + d).toInt = o.toInt + D := by
  have e := c_iadd o d
  have r := rng32 (o + d)
  omega
theorem own_on (o : Int32) (h : 0 ≤ o.toInt) : o.toNatClampNeg = o.toInt.toNat := by
  have e := nat_of (own_nlt h)
  omega
theorem own_idx (o : Int32) (h : 0 ≤ o.toInt ∧ o.toInt ≤ 3) : ∃ n : Nat, n ≤ 3 ∧ (o).toNatClampNeg = n ∧ ((o + (1 : Int32))).toNatClampNeg = n + 1 ∧ ((o + (2 : Int32))).toNatClampNeg = n + 2 ∧ ((o + (3 : Int32))).toNatClampNeg = n + 3 := by
  have e1 := own_ov o 1 1 (by decide) (by decide) h
  have e2 := own_ov o 2 2 (by decide) (by decide) h
  have e3 := own_ov o 3 3 (by decide) (by decide) h
  refine ⟨o.toInt.toNat, by omega, own_on o h.1, ?_, ?_, ?_⟩
  · rw [own_on _ (by omega)]; omega
  · rw [own_on _ (by omega)]; omega
  · rw [own_on _ (by omega)]; omega
theorem own_inE (j : Int32) (h : 0 ≤ j.toInt ∧ j.toInt < 8) : own_In 8 j := by
  intro q
  have e := own_on j h.1
  rcases q with q | q
  · exact own_nlt h.1 q
  · omega
theorem own_m3 (k : Int32) : 0 ≤ (k &&& (3 : Int32)).toInt ∧ (k &&& (3 : Int32)).toInt ≤ 3 := c_and k 3 (by decide)
theorem own_o0 (k : Int32) : own_In 8 (k &&& (3 : Int32)) := own_inE _ (by have := own_m3 k; omega)
theorem own_o1 (k : Int32) : own_In 8 ((k &&& (3 : Int32)) + (1 : Int32)) := own_inE _ (by have h := own_m3 k; have := own_ov _ 1 1 (by decide) (by decide) h; omega)
theorem own_o2 (k : Int32) : own_In 8 ((k &&& (3 : Int32)) + (2 : Int32)) := own_inE _ (by have h := own_m3 k; have := own_ov _ 2 2 (by decide) (by decide) h; omega)
theorem own_o3 (k : Int32) : own_In 8 ((k &&& (3 : Int32)) + (3 : Int32)) := own_inE _ (by have h := own_m3 k; have := own_ov _ 3 3 (by decide) (by decide) h; omega)
theorem own_nb (x : Int32) : ((nar .byte (x.toInt8.toInt32)).toInt - x.toInt) % 256 = 0 ∧ -128 ≤ (nar .byte (x.toInt8.toInt32)).toInt ∧ (nar .byte (x.toInt8.toInt32)).toInt < 128 := by
  have a := c_i2b x
  have b := c_i2b x.toInt8.toInt32
  show (x.toInt8.toInt32.toInt8.toInt32.toInt - x.toInt) % 256 = 0 ∧ -128 ≤ x.toInt8.toInt32.toInt8.toInt32.toInt ∧ x.toInt8.toInt32.toInt8.toInt32.toInt < 128
  omega
theorem own_two (b0 b1 : Int32) : (((b0 &&& (31 : Int32)) <<< ((6 : Int32) &&& 31)) ||| (b1 &&& (63 : Int32))).toInt = (b0.toInt % 32) * 64 + b1.toInt % 64 := by
  have m0 := c_mask b0 31 5 (by decide) (by decide)
  have m1 := c_mask b1 63 6 (by decide) (by decide)
  have p5 : ((2 ^ 5 : Nat) : Int) = 32 := rfl
  have p6 : ((2 ^ 6 : Nat) : Int) = 64 := rfl
  rw [p5] at m0
  rw [p6] at m1
  have s0 := c_ishl (b0 &&& (31 : Int32)) 6 6 (by decide)
  rw [p6] at s0
  generalize (b0 &&& (31 : Int32)) <<< ((6 : Int32) &&& 31) = x at s0 ⊢
  generalize b1 &&& (63 : Int32) = y at m1 ⊢
  have rx := rng32 x
  have e := c_or x y 6 (by decide) 64 rfl (by omega) (by omega) (by omega)
  have r := rng32 (x ||| y)
  omega
theorem own_three (b0 b1 b2 : Int32) : ((((b0 &&& (15 : Int32)) <<< ((12 : Int32) &&& 31)) ||| ((b1 &&& (63 : Int32)) <<< ((6 : Int32) &&& 31))) ||| (b2 &&& (63 : Int32))).toInt = (b0.toInt % 16) * 4096 + (b1.toInt % 64) * 64 + b2.toInt % 64 := by
  have m0 := c_mask b0 15 4 (by decide) (by decide)
  have m1 := c_mask b1 63 6 (by decide) (by decide)
  have m2 := c_mask b2 63 6 (by decide) (by decide)
  have p4 : ((2 ^ 4 : Nat) : Int) = 16 := rfl
  have p6 : ((2 ^ 6 : Nat) : Int) = 64 := rfl
  have p12 : ((2 ^ 12 : Nat) : Int) = 4096 := rfl
  rw [p4] at m0
  rw [p6] at m1 m2
  have s0 := c_ishl (b0 &&& (15 : Int32)) 12 12 (by decide)
  have s1 := c_ishl (b1 &&& (63 : Int32)) 6 6 (by decide)
  rw [p12] at s0
  rw [p6] at s1
  generalize (b0 &&& (15 : Int32)) <<< ((12 : Int32) &&& 31) = x at s0 ⊢
  generalize (b1 &&& (63 : Int32)) <<< ((6 : Int32) &&& 31) = y at s1 ⊢
  generalize b2 &&& (63 : Int32) = z at m2 ⊢
  have rx := rng32 x
  have ry := rng32 y
  have e := c_or x y 12 (by decide) 4096 rfl (by omega) (by omega) (by omega)
  have r := rng32 (x ||| y)
  generalize x ||| y = w at e r ⊢
  have e2 := c_or w z 6 (by decide) 64 rfl (by omega) (by omega) (by omega)
  have r2 := rng32 (w ||| z)
  omega
theorem own_four (b0 b1 b2 b3 : Int32) : (((((b0 &&& (7 : Int32)) <<< ((18 : Int32) &&& 31)) ||| ((b1 &&& (63 : Int32)) <<< ((12 : Int32) &&& 31))) ||| ((b2 &&& (63 : Int32)) <<< ((6 : Int32) &&& 31))) ||| (b3 &&& (63 : Int32))).toInt = (b0.toInt % 8) * 262144 + (b1.toInt % 64) * 4096 + (b2.toInt % 64) * 64 + b3.toInt % 64 := by
  have m0 := c_mask b0 7 3 (by decide) (by decide)
  have m1 := c_mask b1 63 6 (by decide) (by decide)
  have m2 := c_mask b2 63 6 (by decide) (by decide)
  have m3 := c_mask b3 63 6 (by decide) (by decide)
  have p3 : ((2 ^ 3 : Nat) : Int) = 8 := rfl
  have p6 : ((2 ^ 6 : Nat) : Int) = 64 := rfl
  have p12 : ((2 ^ 12 : Nat) : Int) = 4096 := rfl
  have p18 : ((2 ^ 18 : Nat) : Int) = 262144 := rfl
  rw [p3] at m0
  rw [p6] at m1 m2 m3
  have s0 := c_ishl (b0 &&& (7 : Int32)) 18 18 (by decide)
  have s1 := c_ishl (b1 &&& (63 : Int32)) 12 12 (by decide)
  have s2 := c_ishl (b2 &&& (63 : Int32)) 6 6 (by decide)
  rw [p18] at s0
  rw [p12] at s1
  rw [p6] at s2
  generalize (b0 &&& (7 : Int32)) <<< ((18 : Int32) &&& 31) = x at s0 ⊢
  generalize (b1 &&& (63 : Int32)) <<< ((12 : Int32) &&& 31) = y at s1 ⊢
  generalize (b2 &&& (63 : Int32)) <<< ((6 : Int32) &&& 31) = z at s2 ⊢
  generalize b3 &&& (63 : Int32) = t at m3 ⊢
  have rx := rng32 x
  have ry := rng32 y
  have rz := rng32 z
  have e := c_or x y 18 (by decide) 262144 rfl (by omega) (by omega) (by omega)
  have r := rng32 (x ||| y)
  generalize x ||| y = w at e r ⊢
  have e2 := c_or w z 12 (by decide) 4096 rfl (by omega) (by omega) (by omega)
  have r2 := rng32 (w ||| z)
  generalize w ||| z = w2 at e2 r2 ⊢
  have e3 := c_or w2 t 6 (by decide) 64 rfl (by omega) (by omega) (by omega)
  have r3 := rng32 (w2 ||| t)
  omega
theorem own_dec1 (g : Nat → Int32) (o : Int32) (h : 0 ≤ (g (o).toNatClampNeg).toInt) : f1_0 g o = g (o).toNatClampNeg := if_neg (own_nlt h)
theorem own_neg {x : Int32} (c : Int32) (C : Int) (hc : c.toInt = C) : (x < c) ↔ x.toInt < C := by rw [← hc]; exact Int32.lt_iff_toInt_lt
theorem own_dec2 (g : Nat → Int32) (o : Int32) (h : (g (o).toNatClampNeg).toInt < -32) : (f1_0 g o).toInt = ((g (o).toNatClampNeg).toInt % 32) * 64 + (g ((o + (1 : Int32))).toNatClampNeg).toInt % 64 := by
  have h1 := (own_neg (x := g (o).toNatClampNeg) 0 0 (by decide)).mpr (by omega)
  have h2 := (own_neg (x := g (o).toNatClampNeg) (-32) (-32) (by decide)).mpr (by omega)
  unfold f1_0 f1_13
  rw [if_pos h1, if_pos h2]
  exact own_two _ _
theorem own_dec3 (g : Nat → Int32) (o : Int32) (h : -32 ≤ (g (o).toNatClampNeg).toInt ∧ (g (o).toNatClampNeg).toInt < -16) : (f1_0 g o).toInt = ((g (o).toNatClampNeg).toInt % 16) * 4096 + ((g ((o + (1 : Int32))).toNatClampNeg).toInt % 64) * 64 + (g ((o + (2 : Int32))).toNatClampNeg).toInt % 64 := by
  have h1 := (own_neg (x := g (o).toNatClampNeg) 0 0 (by decide)).mpr (by omega)
  have h2 : ¬ g (o).toNatClampNeg < (-32 : Int32) := fun q => by have := (own_neg (-32) (-32) (by decide)).mp q; omega
  have h3 := (own_neg (x := g (o).toNatClampNeg) (-16) (-16) (by decide)).mpr (by omega)
  unfold f1_0 f1_13 f1_39
  rw [if_pos h1, if_neg h2, if_pos h3]
  exact own_three _ _ _
theorem own_dec4 (g : Nat → Int32) (o : Int32) (h : -16 ≤ (g (o).toNatClampNeg).toInt ∧ (g (o).toNatClampNeg).toInt < 0) : (f1_0 g o).toInt = ((g (o).toNatClampNeg).toInt % 8) * 262144 + ((g ((o + (1 : Int32))).toNatClampNeg).toInt % 64) * 4096 + ((g ((o + (2 : Int32))).toNatClampNeg).toInt % 64) * 64 + (g ((o + (3 : Int32))).toNatClampNeg).toInt % 64 := by
  have h1 := (own_neg (x := g (o).toNatClampNeg) 0 0 (by decide)).mpr (by omega)
  have h2 : ¬ g (o).toNatClampNeg < (-32 : Int32) := fun q => by have := (own_neg (-32) (-32) (by decide)).mp q; omega
  have h3 : ¬ g (o).toNatClampNeg < (-16 : Int32) := fun q => by have := (own_neg (-16) (-16) (by decide)).mp q; omega
  unfold f1_0 f1_13 f1_39
  rw [if_pos h1, if_neg h2, if_neg h3]
  exact own_four _ _ _ _
theorem own_c (s : Int32) : 0 ≤ ((s &&& (2147483647 : Int32)) % (1114112 : Int32)).toInt ∧ ((s &&& (2147483647 : Int32)) % (1114112 : Int32)).toInt < 1114112 := by
  have e0 := (c_and s 2147483647 (by decide)).1
  have e1 := (c_irem (s &&& (2147483647 : Int32)) 1114112 1114112 (by decide)).1 e0
  omega
theorem own_div (c : Int32) (d : Int32) (D : Int) (hd : d.toInt = D) (h1 : d ≠ -1) (h : 0 ≤ c.toInt) : (c / d).toInt = c.toInt / D := (c_idiv c d D hd h1).1 h
theorem own_rem (c : Int32) (d : Int32) (D : Int) (hd : d.toInt = D) (h : 0 ≤ c.toInt) : (c % d).toInt = c.toInt % D := (c_irem c d D hd).1 h
theorem own_road1 (c o : Int32) (g ga : Nat → Int32) (hA : ga = (fun i => if i = (o).toNatClampNeg then (nar .byte (c.toInt8.toInt32)) else g i)) (ho : 0 ≤ o.toInt ∧ o.toInt ≤ 3) (hc : 0 ≤ c.toInt ∧ c.toInt < 128) : f1_0 ga o = c := by
  have e0 : ga (o).toNatClampNeg = nar .byte (c.toInt8.toInt32) := by rw [hA]; exact if_pos rfl
  have b := own_nb c
  rw [own_dec1 ga o (by rw [e0]; omega), e0]
  exact Int32.toInt_inj.mp (by omega)
theorem own_road2 (c o : Int32) (g ga gb : Nat → Int32) (hA : ga = (fun i => if i = (o).toNatClampNeg then (nar .byte ((((192 : Int32) + (c / (64 : Int32))).toInt8.toInt32))) else g i)) (hB : gb = (fun i => if i = ((o + (1 : Int32))).toNatClampNeg then (nar .byte ((((128 : Int32) + (c % (64 : Int32))).toInt8.toInt32))) else ga i)) (ho : 0 ≤ o.toInt ∧ o.toInt ≤ 3) (hc : 128 ≤ c.toInt ∧ c.toInt < 2048) : f1_0 gb o = c := by
  obtain ⟨n, hn, i0, i1, i2, i3⟩ := own_idx o ho
  have e0 : gb (o).toNatClampNeg = nar .byte ((((192 : Int32) + (c / (64 : Int32))).toInt8.toInt32)) := by
    rw [hB, hA, i0, i1]; show (if n = n + 1 then _ else if n = n then _ else _) = _; rw [if_neg (by omega), if_pos rfl]
  have e1 : gb ((o + (1 : Int32))).toNatClampNeg = nar .byte ((((128 : Int32) + (c % (64 : Int32))).toInt8.toInt32)) := by
    rw [hB]; exact if_pos rfl
  have d0 := own_div c 64 64 (by decide) (by decide) (by omega)
  have d1 := own_rem c 64 64 (by decide) (by omega)
  have a0 := c_iadd 192 (c / 64)
  have a1 := c_iadd 128 (c % 64)
  have z0 : (192 : Int32).toInt = 192 := by decide
  have z1 : (128 : Int32).toInt = 128 := by decide
  have r0 := rng32 ((192 : Int32) + (c / (64 : Int32)))
  have r1 := rng32 ((128 : Int32) + (c % (64 : Int32)))
  have b0 := own_nb ((192 : Int32) + (c / (64 : Int32)))
  have b1 := own_nb ((128 : Int32) + (c % (64 : Int32)))
  rw [← e0] at b0
  rw [← e1] at b1
  have k := own_dec2 gb o (by omega)
  exact Int32.toInt_inj.mp (by omega)
theorem own_road3 (c o : Int32) (g ga gb gc : Nat → Int32) (hA : ga = (fun i => if i = (o).toNatClampNeg then (nar .byte ((((224 : Int32) + (c / (4096 : Int32))).toInt8.toInt32))) else g i)) (hB : gb = (fun i => if i = ((o + (1 : Int32))).toNatClampNeg then (nar .byte ((((128 : Int32) + ((c / (64 : Int32)) % (64 : Int32))).toInt8.toInt32))) else ga i)) (hC : gc = (fun i => if i = ((o + (2 : Int32))).toNatClampNeg then (nar .byte ((((128 : Int32) + (c % (64 : Int32))).toInt8.toInt32))) else gb i)) (ho : 0 ≤ o.toInt ∧ o.toInt ≤ 3) (hc : 2048 ≤ c.toInt ∧ c.toInt < 65536) : f1_0 gc o = c := by
  obtain ⟨n, hn, i0, i1, i2, i3⟩ := own_idx o ho
  have e0 : gc (o).toNatClampNeg = nar .byte ((((224 : Int32) + (c / (4096 : Int32))).toInt8.toInt32)) := by
    rw [hC, hB, hA, i0, i1, i2]; show (if n = n + 2 then _ else if n = n + 1 then _ else if n = n then _ else _) = _; rw [if_neg (by omega), if_neg (by omega), if_pos rfl]
  have e1 : gc ((o + (1 : Int32))).toNatClampNeg = nar .byte ((((128 : Int32) + ((c / (64 : Int32)) % (64 : Int32))).toInt8.toInt32)) := by
    rw [hC, hB, i1, i2]; show (if n + 1 = n + 2 then _ else if n + 1 = n + 1 then _ else _) = _; rw [if_neg (by omega), if_pos rfl]
  have e2 : gc ((o + (2 : Int32))).toNatClampNeg = nar .byte ((((128 : Int32) + (c % (64 : Int32))).toInt8.toInt32)) := by
    rw [hC]; exact if_pos rfl
  have d0 := own_div c 4096 4096 (by decide) (by decide) (by omega)
  have d1 := own_div c 64 64 (by decide) (by decide) (by omega)
  have d2 := own_rem c 64 64 (by decide) (by omega)
  have d3 := own_rem (c / 64) 64 64 (by decide) (by omega)
  have a0 := c_iadd 224 (c / 4096)
  have a1 := c_iadd 128 ((c / 64) % 64)
  have a2 := c_iadd 128 (c % 64)
  have z0 : (224 : Int32).toInt = 224 := by decide
  have z1 : (128 : Int32).toInt = 128 := by decide
  have r0 := rng32 ((224 : Int32) + (c / (4096 : Int32)))
  have r1 := rng32 ((128 : Int32) + ((c / 64) % (64 : Int32)))
  have r2 := rng32 ((128 : Int32) + (c % (64 : Int32)))
  have b0 := own_nb ((224 : Int32) + (c / (4096 : Int32)))
  have b1 := own_nb ((128 : Int32) + ((c / (64 : Int32)) % (64 : Int32)))
  have b2 := own_nb ((128 : Int32) + (c % (64 : Int32)))
  rw [← e0] at b0
  rw [← e1] at b1
  rw [← e2] at b2
  have k := own_dec3 gc o (by omega)
  exact Int32.toInt_inj.mp (by omega)
theorem own_road4 (c o : Int32) (g ga gb gc gd : Nat → Int32) (hA : ga = (fun i => if i = (o).toNatClampNeg then (nar .byte ((((240 : Int32) + (c / (262144 : Int32))).toInt8.toInt32))) else g i)) (hB : gb = (fun i => if i = ((o + (1 : Int32))).toNatClampNeg then (nar .byte ((((128 : Int32) + ((c / (4096 : Int32)) % (64 : Int32))).toInt8.toInt32))) else ga i)) (hC : gc = (fun i => if i = ((o + (2 : Int32))).toNatClampNeg then (nar .byte ((((128 : Int32) + ((c / (64 : Int32)) % (64 : Int32))).toInt8.toInt32))) else gb i)) (hD : gd = (fun i => if i = ((o + (3 : Int32))).toNatClampNeg then (nar .byte ((((128 : Int32) + (c % (64 : Int32))).toInt8.toInt32))) else gc i)) (ho : 0 ≤ o.toInt ∧ o.toInt ≤ 3) (hc : 65536 ≤ c.toInt ∧ c.toInt < 1114112) : f1_0 gd o = c := by
  obtain ⟨n, hn, i0, i1, i2, i3⟩ := own_idx o ho
  have e0 : gd (o).toNatClampNeg = nar .byte ((((240 : Int32) + (c / (262144 : Int32))).toInt8.toInt32)) := by
    rw [hD, hC, hB, hA, i0, i1, i2, i3]; show (if n = n + 3 then _ else if n = n + 2 then _ else if n = n + 1 then _ else if n = n then _ else _) = _; rw [if_neg (by omega), if_neg (by omega), if_neg (by omega), if_pos rfl]
  have e1 : gd ((o + (1 : Int32))).toNatClampNeg = nar .byte ((((128 : Int32) + ((c / (4096 : Int32)) % (64 : Int32))).toInt8.toInt32)) := by
    rw [hD, hC, hB, i1, i2, i3]; show (if n + 1 = n + 3 then _ else if n + 1 = n + 2 then _ else if n + 1 = n + 1 then _ else _) = _; rw [if_neg (by omega), if_neg (by omega), if_pos rfl]
  have e2 : gd ((o + (2 : Int32))).toNatClampNeg = nar .byte ((((128 : Int32) + ((c / (64 : Int32)) % (64 : Int32))).toInt8.toInt32)) := by
    rw [hD, hC, i2, i3]; show (if n + 2 = n + 3 then _ else if n + 2 = n + 2 then _ else _) = _; rw [if_neg (by omega), if_pos rfl]
  have e3 : gd ((o + (3 : Int32))).toNatClampNeg = nar .byte ((((128 : Int32) + (c % (64 : Int32))).toInt8.toInt32)) := by
    rw [hD]; exact if_pos rfl
  have d0 := own_div c 262144 262144 (by decide) (by decide) (by omega)
  have d1 := own_div c 4096 4096 (by decide) (by decide) (by omega)
  have d2 := own_div c 64 64 (by decide) (by decide) (by omega)
  have d3 := own_rem c 64 64 (by decide) (by omega)
  have d4 := own_rem (c / 4096) 64 64 (by decide) (by omega)
  have d5 := own_rem (c / 64) 64 64 (by decide) (by omega)
  have a0 := c_iadd 240 (c / 262144)
  have a1 := c_iadd 128 ((c / 4096) % 64)
  have a2 := c_iadd 128 ((c / 64) % 64)
  have a3 := c_iadd 128 (c % 64)
  have z0 : (240 : Int32).toInt = 240 := by decide
  have z1 : (128 : Int32).toInt = 128 := by decide
  have r0 := rng32 ((240 : Int32) + (c / (262144 : Int32)))
  have r1 := rng32 ((128 : Int32) + ((c / 4096) % (64 : Int32)))
  have r2 := rng32 ((128 : Int32) + ((c / 64) % (64 : Int32)))
  have r3 := rng32 ((128 : Int32) + (c % (64 : Int32)))
  have b0 := own_nb ((240 : Int32) + (c / (262144 : Int32)))
  have b1 := own_nb ((128 : Int32) + ((c / (4096 : Int32)) % (64 : Int32)))
  have b2 := own_nb ((128 : Int32) + ((c / (64 : Int32)) % (64 : Int32)))
  have b3 := own_nb ((128 : Int32) + (c % (64 : Int32)))
  rw [← e0] at b0
  rw [← e1] at b1
  rw [← e2] at b2
  rw [← e3] at b3
  have k := own_dec4 gd o (by omega)
  exact Int32.toInt_inj.mp (by omega)
set_option maxRecDepth 65536 in
set_option maxHeartbeats 40000000 in
theorem b0_0 {p : Program} {l : Launch} {e : Env} {s : State} {m : MethodId} {args : Array Value} {below : List Frame} {meth : Method} {c : Code} {T : State} {locs : List Loc} {cells slots : Nat} {Z : State} {a0 : Array Value} {h : Heap} {n0 : Nat} {Q : Option Value → Heap → List Loc → Prop} (i0 : Int32) (i1 : Int32) (j2 : Int64) (hw : ∀ d ∈ tables_1, d.before a0 Z = true) (X : Stand p l e room_1 s m args below meth c T locs cells slots) (hx : p.tables.exec = Jvm.exec) (hZ : Z.Warmed39 s.vm) (hby : c.code = code) (hml : c.maxLocals = 7) (hown : s.vm.findClass "com/example/zoria/zoria/xml/XmlNameCodePointAtPinLaw" = some m.cls) (hret : meth.sig.returnType = some .boolean) (hlk : meth.locks = false) (eT : T.heap = h) (N : Fr n0 locs) (hc : cells ≤ 0) (hs : slots ≤ 0) (Z0 : n0 ≤ h.size) (hQ : ∀ H' L', Fr n0 L' → Q (some (.int 1)) H' L') :
    own_Fin p e below s Q 16 128 (T.setTop (mkF m 0 #[.val (.int i0), .val (.int i1), .val (.long j2), .second, .unset, .unset, .unset] [])) := by
  refine own_step (fun t k => XS.iloadN X.here hx rfl (hb hby at_0) rfl  k) ?_
  show own_Fin p e below s Q 16 128 (T.setTop (mkF m 1 #[.val (.int i0), .val (.int i1), .val (.long j2), .second, .unset, .unset, .unset] [(.int i0)]))
  refine own_step (X.ldcInt hx hown (mvT hZ (hw _ (List.mem_of_getElem? (i := 0) rfl))) (g := (mkF m 1 #[.val (.int i0), .val (.int i1), .val (.long j2), .second, .unset, .unset, .unset] [(.int i0)])) rfl (hb hby at_1)) ?_
  show own_Fin p e below s Q 16 128 (T.setTop (mkF m 3 #[.val (.int i0), .val (.int i1), .val (.long j2), .second, .unset, .unset, .unset] [(.int (2147483647 : Int32)), (.int i0)]))
  refine own_step (fun t k => XS.iand X.here hx rfl (hb hby at_3) rfl k) ?_
  show own_Fin p e below s Q 16 128 (T.setTop (mkF m 4 #[.val (.int i0), .val (.int i1), .val (.long j2), .second, .unset, .unset, .unset] [(.int (i0 &&& (2147483647 : Int32)))]))
  refine own_step (X.ldcInt hx hown (mvT hZ (hw _ (List.mem_of_getElem? (i := 1) rfl))) (g := (mkF m 4 #[.val (.int i0), .val (.int i1), .val (.long j2), .second, .unset, .unset, .unset] [(.int (i0 &&& (2147483647 : Int32)))])) rfl (hb hby at_4)) ?_
  show own_Fin p e below s Q 16 128 (T.setTop (mkF m 6 #[.val (.int i0), .val (.int i1), .val (.long j2), .second, .unset, .unset, .unset] [(.int (1114112 : Int32)), (.int (i0 &&& (2147483647 : Int32)))]))
  refine own_step (fun t k => XS.irem X.here hx rfl (hb hby at_6) rfl (by decide) k) ?_
  rw [irem_eq_mod (i0 &&& (2147483647 : Int32)) (1114112 : Int32)]
  show own_Fin p e below s Q 16 128 (T.setTop (mkF m 7 #[.val (.int i0), .val (.int i1), .val (.long j2), .second, .unset, .unset, .unset] [(.int ((i0 &&& (2147483647 : Int32)) % (1114112 : Int32)))]))
  refine own_step (fun t k => XS.istore X.here hx rfl (hb hby at_7) rfl (l' := #[.val (.int i0), .val (.int i1), .val (.long j2), .second, .val (.int ((i0 &&& (2147483647 : Int32)) % (1114112 : Int32))), .unset, .unset]) rfl k) ?_
  show own_Fin p e below s Q 16 128 (T.setTop (mkF m 9 #[.val (.int i0), .val (.int i1), .val (.long j2), .second, .val (.int ((i0 &&& (2147483647 : Int32)) % (1114112 : Int32))), .unset, .unset] []))
  refine own_step (fun t k => XS.iloadN X.here hx rfl (hb hby at_9) rfl  k) ?_
  show own_Fin p e below s Q 16 128 (T.setTop (mkF m 10 #[.val (.int i0), .val (.int i1), .val (.long j2), .second, .val (.int ((i0 &&& (2147483647 : Int32)) % (1114112 : Int32))), .unset, .unset] [(.int i1)]))
  refine own_step (fun t k => XS.iconst X.here hx rfl (hb hby at_10) k) ?_
  show own_Fin p e below s Q 16 128 (T.setTop (mkF m 11 #[.val (.int i0), .val (.int i1), .val (.long j2), .second, .val (.int ((i0 &&& (2147483647 : Int32)) % (1114112 : Int32))), .unset, .unset] [(.int (3 : Int32)), (.int i1)]))
  refine own_step (fun t k => XS.iand X.here hx rfl (hb hby at_11) rfl k) ?_
  show own_Fin p e below s Q 16 128 (T.setTop (mkF m 12 #[.val (.int i0), .val (.int i1), .val (.long j2), .second, .val (.int ((i0 &&& (2147483647 : Int32)) % (1114112 : Int32))), .unset, .unset] [(.int (i1 &&& (3 : Int32)))]))
  refine own_step (fun t k => XS.istore X.here hx rfl (hb hby at_12) rfl (l' := #[.val (.int i0), .val (.int i1), .val (.long j2), .second, .val (.int ((i0 &&& (2147483647 : Int32)) % (1114112 : Int32))), .val (.int (i1 &&& (3 : Int32))), .unset]) rfl k) ?_
  show own_Fin p e below s Q 16 128 (T.setTop (mkF m 14 #[.val (.int i0), .val (.int i1), .val (.long j2), .second, .val (.int ((i0 &&& (2147483647 : Int32)) % (1114112 : Int32))), .val (.int (i1 &&& (3 : Int32))), .unset] []))
  refine own_step (fun t k => XS.bipush X.here hx rfl (hb hby at_14) k) ?_
  show own_Fin p e below s Q 16 128 (T.setTop (mkF m 16 #[.val (.int i0), .val (.int i1), .val (.long j2), .second, .val (.int ((i0 &&& (2147483647 : Int32)) % (1114112 : Int32))), .val (.int (i1 &&& (3 : Int32))), .unset] [(.int (8 : Int32))]))
  obtain ⟨T10, h10, k10, X10, e10, E10, AA10, st10⟩ := newP X hx hZ (hw _ (List.mem_of_getElem? (i := 2) rfl)) eT (g := (mkF m 16 #[.val (.int i0), .val (.int i1), .val (.long j2), .second, .val (.int ((i0 &&& (2147483647 : Int32)) % (1114112 : Int32))), .val (.int (i1 &&& (3 : Int32))), .unset] [(.int (8 : Int32))])) rfl (hb hby at_16) rfl (by decide) (cap := 8) (by decide) (by decide) (by show cells + 1 ≤ 16; omega) (by show slots + 8 ≤ 128; omega)
  obtain ⟨b10, gg10⟩ : ∃ z, z = h.size := ⟨_, rfl⟩
  rw [← gg10] at AA10 st10
  have V10 : own_AF Z h10 b10 .byte 8 (fun _ => 0) := own_AFnew AA10 (by decide)
  have fr10 : n0 ≤ b10 := Nat.le_trans Z0 (Nat.le_of_eq gg10.symm)
  have Z010 : n0 ≤ h10.size := Nat.le_trans Z0 E10.1
  refine own_step st10 ?_
  show own_Fin p e below s Q 16 128 (T10.setTop (mkF m 18 #[.val (.int i0), .val (.int i1), .val (.long j2), .second, .val (.int ((i0 &&& (2147483647 : Int32)) % (1114112 : Int32))), .val (.int (i1 &&& (3 : Int32))), .unset] [(.ref b10)]))
  refine own_step (fun t k => XS.astore X10.here hx rfl (hb hby at_18) rfl rfl (l' := #[.val (.int i0), .val (.int i1), .val (.long j2), .second, .val (.int ((i0 &&& (2147483647 : Int32)) % (1114112 : Int32))), .val (.int (i1 &&& (3 : Int32))), .val (.ref b10)]) rfl k) ?_
  show own_Fin p e below s Q 16 128 (T10.setTop (mkF m 20 #[.val (.int i0), .val (.int i1), .val (.long j2), .second, .val (.int ((i0 &&& (2147483647 : Int32)) % (1114112 : Int32))), .val (.int (i1 &&& (3 : Int32))), .val (.ref b10)] []))
  refine own_step (fun t k => XS.aload X10.here hx rfl (hb hby at_20) rfl rfl k) ?_
  show own_Fin p e below s Q 16 128 (T10.setTop (mkF m 22 #[.val (.int i0), .val (.int i1), .val (.long j2), .second, .val (.int ((i0 &&& (2147483647 : Int32)) % (1114112 : Int32))), .val (.int (i1 &&& (3 : Int32))), .val (.ref b10)] [(.ref b10)]))
  refine own_step (fun t k => XS.iconst X10.here hx rfl (hb hby at_22) k) ?_
  show own_Fin p e below s Q 16 128 (T10.setTop (mkF m 23 #[.val (.int i0), .val (.int i1), .val (.long j2), .second, .val (.int ((i0 &&& (2147483647 : Int32)) % (1114112 : Int32))), .val (.int (i1 &&& (3 : Int32))), .val (.ref b10)] [(.int (0 : Int32)), (.ref b10)]))
  refine own_step (fun t k => XS.lloadN X10.here hx rfl (hb hby at_23) rfl  k) ?_
  show own_Fin p e below s Q 16 128 (T10.setTop (mkF m 24 #[.val (.int i0), .val (.int i1), .val (.long j2), .second, .val (.int ((i0 &&& (2147483647 : Int32)) % (1114112 : Int32))), .val (.int (i1 &&& (3 : Int32))), .val (.ref b10)] [(.long j2), (.int (0 : Int32)), (.ref b10)]))
  refine own_step (fun t k => XS.l2i X10.here hx rfl (hb hby at_24) rfl k) ?_
  show own_Fin p e below s Q 16 128 (T10.setTop (mkF m 25 #[.val (.int i0), .val (.int i1), .val (.long j2), .second, .val (.int ((i0 &&& (2147483647 : Int32)) % (1114112 : Int32))), .val (.int (i1 &&& (3 : Int32))), .val (.ref b10)] [(.int (j2.toInt32)), (.int (0 : Int32)), (.ref b10)]))
  refine own_step (fun t k => XS.i2b X10.here hx rfl (hb hby at_25) rfl k) ?_
  show own_Fin p e below s Q 16 128 (T10.setTop (mkF m 26 #[.val (.int i0), .val (.int i1), .val (.long j2), .second, .val (.int ((i0 &&& (2147483647 : Int32)) % (1114112 : Int32))), .val (.int (i1 &&& (3 : Int32))), .val (.ref b10)] [(.int ((j2.toInt32).toInt8.toInt32)), (.int (0 : Int32)), (.ref b10)]))
  obtain ⟨ca11, Ar11, Sz11, Ht11⟩ := id V10
  have hin11 : ¬ ((0 : Int32) < 0 ∨ ca11.slots.size ≤ ((0 : Int32)).toNatClampNeg) := by rw [Sz11]; exact (by decide)
  obtain ⟨T11, h11, X11, e11, W11, st11⟩ := stB X10 hx hZ e10 Ar11 (j := (0 : Int32)) hin11 (g := (mkF m 26 #[.val (.int i0), .val (.int i1), .val (.long j2), .second, .val (.int ((i0 &&& (2147483647 : Int32)) % (1114112 : Int32))), .val (.int (i1 &&& (3 : Int32))), .val (.ref b10)] [(.int ((j2.toInt32).toInt8.toInt32)), (.int (0 : Int32)), (.ref b10)])) rfl rfl (hb hby at_26)
  have V11 : own_AF Z h11 b10 .byte 8 (fun i => if i = 0 then (nar .byte ((j2.toInt32).toInt8.toInt32)) else (fun _ => 0) i) := own_AFset Ar11 Sz11 Ht11 W11
  obtain ⟨gf11, hgf11⟩ : ∃ g' : Nat → Int32, g' = (fun i => if i = 0 then (nar .byte ((j2.toInt32).toInt8.toInt32)) else (fun _ => 0) i) := ⟨_, rfl⟩
  rw [← hgf11] at V11
  have N11 := Fr.snoc X11 N fr10
  have Z011 : n0 ≤ h11.size := Nat.le_trans Z010 (Nat.le_of_eq W11.size.symm)
  refine own_step st11 ?_
  show own_Fin p e below s Q 16 128 (T11.setTop (mkF m 27 #[.val (.int i0), .val (.int i1), .val (.long j2), .second, .val (.int ((i0 &&& (2147483647 : Int32)) % (1114112 : Int32))), .val (.int (i1 &&& (3 : Int32))), .val (.ref b10)] []))
  refine own_step (fun t k => XS.aload X11.here hx rfl (hb hby at_27) rfl rfl k) ?_
  show own_Fin p e below s Q 16 128 (T11.setTop (mkF m 29 #[.val (.int i0), .val (.int i1), .val (.long j2), .second, .val (.int ((i0 &&& (2147483647 : Int32)) % (1114112 : Int32))), .val (.int (i1 &&& (3 : Int32))), .val (.ref b10)] [(.ref b10)]))
  refine own_step (fun t k => XS.iconst X11.here hx rfl (hb hby at_29) k) ?_
  show own_Fin p e below s Q 16 128 (T11.setTop (mkF m 30 #[.val (.int i0), .val (.int i1), .val (.long j2), .second, .val (.int ((i0 &&& (2147483647 : Int32)) % (1114112 : Int32))), .val (.int (i1 &&& (3 : Int32))), .val (.ref b10)] [(.int (1 : Int32)), (.ref b10)]))
  refine own_step (fun t k => XS.lloadN X11.here hx rfl (hb hby at_30) rfl  k) ?_
  show own_Fin p e below s Q 16 128 (T11.setTop (mkF m 31 #[.val (.int i0), .val (.int i1), .val (.long j2), .second, .val (.int ((i0 &&& (2147483647 : Int32)) % (1114112 : Int32))), .val (.int (i1 &&& (3 : Int32))), .val (.ref b10)] [(.long j2), (.int (1 : Int32)), (.ref b10)]))
  refine own_step (fun t k => XS.bipush X11.here hx rfl (hb hby at_31) k) ?_
  show own_Fin p e below s Q 16 128 (T11.setTop (mkF m 33 #[.val (.int i0), .val (.int i1), .val (.long j2), .second, .val (.int ((i0 &&& (2147483647 : Int32)) % (1114112 : Int32))), .val (.int (i1 &&& (3 : Int32))), .val (.ref b10)] [(.int (8 : Int32)), (.long j2), (.int (1 : Int32)), (.ref b10)]))
  refine own_step (fun t k => XS.lushr X11.here hx rfl (hb hby at_33) rfl k) ?_
  show own_Fin p e below s Q 16 128 (T11.setTop (mkF m 34 #[.val (.int i0), .val (.int i1), .val (.long j2), .second, .val (.int ((i0 &&& (2147483647 : Int32)) % (1114112 : Int32))), .val (.int (i1 &&& (3 : Int32))), .val (.ref b10)] [(.long ((j2.toUInt64 >>> ((8 : Int32) &&& 0x3f).toInt64.toUInt64).toInt64)), (.int (1 : Int32)), (.ref b10)]))
  refine own_step (fun t k => XS.l2i X11.here hx rfl (hb hby at_34) rfl k) ?_
  show own_Fin p e below s Q 16 128 (T11.setTop (mkF m 35 #[.val (.int i0), .val (.int i1), .val (.long j2), .second, .val (.int ((i0 &&& (2147483647 : Int32)) % (1114112 : Int32))), .val (.int (i1 &&& (3 : Int32))), .val (.ref b10)] [(.int (((j2.toUInt64 >>> ((8 : Int32) &&& 0x3f).toInt64.toUInt64).toInt64).toInt32)), (.int (1 : Int32)), (.ref b10)]))
  refine own_step (fun t k => XS.i2b X11.here hx rfl (hb hby at_35) rfl k) ?_
  show own_Fin p e below s Q 16 128 (T11.setTop (mkF m 36 #[.val (.int i0), .val (.int i1), .val (.long j2), .second, .val (.int ((i0 &&& (2147483647 : Int32)) % (1114112 : Int32))), .val (.int (i1 &&& (3 : Int32))), .val (.ref b10)] [(.int ((((j2.toUInt64 >>> ((8 : Int32) &&& 0x3f).toInt64.toUInt64).toInt64).toInt32).toInt8.toInt32)), (.int (1 : Int32)), (.ref b10)]))
  obtain ⟨ca12, Ar12, Sz12, Ht12⟩ := id V11
  have hin12 : ¬ ((1 : Int32) < 0 ∨ ca12.slots.size ≤ ((1 : Int32)).toNatClampNeg) := by rw [Sz12]; exact (by decide)
  obtain ⟨T12, h12, X12, e12, W12, st12⟩ := stB X11 hx hZ e11 Ar12 (j := (1 : Int32)) hin12 (g := (mkF m 36 #[.val (.int i0), .val (.int i1), .val (.long j2), .second, .val (.int ((i0 &&& (2147483647 : Int32)) % (1114112 : Int32))), .val (.int (i1 &&& (3 : Int32))), .val (.ref b10)] [(.int ((((j2.toUInt64 >>> ((8 : Int32) &&& 0x3f).toInt64.toUInt64).toInt64).toInt32).toInt8.toInt32)), (.int (1 : Int32)), (.ref b10)])) rfl rfl (hb hby at_36)
  have V12 : own_AF Z h12 b10 .byte 8 (fun i => if i = 1 then (nar .byte ((((j2.toUInt64 >>> ((8 : Int32) &&& 0x3f).toInt64.toUInt64).toInt64).toInt32).toInt8.toInt32)) else gf11 i) := own_AFset Ar12 Sz12 Ht12 W12
  obtain ⟨gf12, hgf12⟩ : ∃ g' : Nat → Int32, g' = (fun i => if i = 1 then (nar .byte ((((j2.toUInt64 >>> ((8 : Int32) &&& 0x3f).toInt64.toUInt64).toInt64).toInt32).toInt8.toInt32)) else gf11 i) := ⟨_, rfl⟩
  rw [← hgf12] at V12
  have N12 := Fr.snoc X12 N11 fr10
  have Z012 : n0 ≤ h12.size := Nat.le_trans Z011 (Nat.le_of_eq W12.size.symm)
  refine own_step st12 ?_
  show own_Fin p e below s Q 16 128 (T12.setTop (mkF m 37 #[.val (.int i0), .val (.int i1), .val (.long j2), .second, .val (.int ((i0 &&& (2147483647 : Int32)) % (1114112 : Int32))), .val (.int (i1 &&& (3 : Int32))), .val (.ref b10)] []))
  refine own_step (fun t k => XS.aload X12.here hx rfl (hb hby at_37) rfl rfl k) ?_
  show own_Fin p e below s Q 16 128 (T12.setTop (mkF m 39 #[.val (.int i0), .val (.int i1), .val (.long j2), .second, .val (.int ((i0 &&& (2147483647 : Int32)) % (1114112 : Int32))), .val (.int (i1 &&& (3 : Int32))), .val (.ref b10)] [(.ref b10)]))
  refine own_step (fun t k => XS.iconst X12.here hx rfl (hb hby at_39) k) ?_
  show own_Fin p e below s Q 16 128 (T12.setTop (mkF m 40 #[.val (.int i0), .val (.int i1), .val (.long j2), .second, .val (.int ((i0 &&& (2147483647 : Int32)) % (1114112 : Int32))), .val (.int (i1 &&& (3 : Int32))), .val (.ref b10)] [(.int (2 : Int32)), (.ref b10)]))
  refine own_step (fun t k => XS.lloadN X12.here hx rfl (hb hby at_40) rfl  k) ?_
  show own_Fin p e below s Q 16 128 (T12.setTop (mkF m 41 #[.val (.int i0), .val (.int i1), .val (.long j2), .second, .val (.int ((i0 &&& (2147483647 : Int32)) % (1114112 : Int32))), .val (.int (i1 &&& (3 : Int32))), .val (.ref b10)] [(.long j2), (.int (2 : Int32)), (.ref b10)]))
  refine own_step (fun t k => XS.bipush X12.here hx rfl (hb hby at_41) k) ?_
  show own_Fin p e below s Q 16 128 (T12.setTop (mkF m 43 #[.val (.int i0), .val (.int i1), .val (.long j2), .second, .val (.int ((i0 &&& (2147483647 : Int32)) % (1114112 : Int32))), .val (.int (i1 &&& (3 : Int32))), .val (.ref b10)] [(.int (16 : Int32)), (.long j2), (.int (2 : Int32)), (.ref b10)]))
  refine own_step (fun t k => XS.lushr X12.here hx rfl (hb hby at_43) rfl k) ?_
  show own_Fin p e below s Q 16 128 (T12.setTop (mkF m 44 #[.val (.int i0), .val (.int i1), .val (.long j2), .second, .val (.int ((i0 &&& (2147483647 : Int32)) % (1114112 : Int32))), .val (.int (i1 &&& (3 : Int32))), .val (.ref b10)] [(.long ((j2.toUInt64 >>> ((16 : Int32) &&& 0x3f).toInt64.toUInt64).toInt64)), (.int (2 : Int32)), (.ref b10)]))
  refine own_step (fun t k => XS.l2i X12.here hx rfl (hb hby at_44) rfl k) ?_
  show own_Fin p e below s Q 16 128 (T12.setTop (mkF m 45 #[.val (.int i0), .val (.int i1), .val (.long j2), .second, .val (.int ((i0 &&& (2147483647 : Int32)) % (1114112 : Int32))), .val (.int (i1 &&& (3 : Int32))), .val (.ref b10)] [(.int (((j2.toUInt64 >>> ((16 : Int32) &&& 0x3f).toInt64.toUInt64).toInt64).toInt32)), (.int (2 : Int32)), (.ref b10)]))
  refine own_step (fun t k => XS.i2b X12.here hx rfl (hb hby at_45) rfl k) ?_
  show own_Fin p e below s Q 16 128 (T12.setTop (mkF m 46 #[.val (.int i0), .val (.int i1), .val (.long j2), .second, .val (.int ((i0 &&& (2147483647 : Int32)) % (1114112 : Int32))), .val (.int (i1 &&& (3 : Int32))), .val (.ref b10)] [(.int ((((j2.toUInt64 >>> ((16 : Int32) &&& 0x3f).toInt64.toUInt64).toInt64).toInt32).toInt8.toInt32)), (.int (2 : Int32)), (.ref b10)]))
  obtain ⟨ca13, Ar13, Sz13, Ht13⟩ := id V12
  have hin13 : ¬ ((2 : Int32) < 0 ∨ ca13.slots.size ≤ ((2 : Int32)).toNatClampNeg) := by rw [Sz13]; exact (by decide)
  obtain ⟨T13, h13, X13, e13, W13, st13⟩ := stB X12 hx hZ e12 Ar13 (j := (2 : Int32)) hin13 (g := (mkF m 46 #[.val (.int i0), .val (.int i1), .val (.long j2), .second, .val (.int ((i0 &&& (2147483647 : Int32)) % (1114112 : Int32))), .val (.int (i1 &&& (3 : Int32))), .val (.ref b10)] [(.int ((((j2.toUInt64 >>> ((16 : Int32) &&& 0x3f).toInt64.toUInt64).toInt64).toInt32).toInt8.toInt32)), (.int (2 : Int32)), (.ref b10)])) rfl rfl (hb hby at_46)
  have V13 : own_AF Z h13 b10 .byte 8 (fun i => if i = 2 then (nar .byte ((((j2.toUInt64 >>> ((16 : Int32) &&& 0x3f).toInt64.toUInt64).toInt64).toInt32).toInt8.toInt32)) else gf12 i) := own_AFset Ar13 Sz13 Ht13 W13
  obtain ⟨gf13, hgf13⟩ : ∃ g' : Nat → Int32, g' = (fun i => if i = 2 then (nar .byte ((((j2.toUInt64 >>> ((16 : Int32) &&& 0x3f).toInt64.toUInt64).toInt64).toInt32).toInt8.toInt32)) else gf12 i) := ⟨_, rfl⟩
  rw [← hgf13] at V13
  have N13 := Fr.snoc X13 N12 fr10
  have Z013 : n0 ≤ h13.size := Nat.le_trans Z012 (Nat.le_of_eq W13.size.symm)
  refine own_step st13 ?_
  show own_Fin p e below s Q 16 128 (T13.setTop (mkF m 47 #[.val (.int i0), .val (.int i1), .val (.long j2), .second, .val (.int ((i0 &&& (2147483647 : Int32)) % (1114112 : Int32))), .val (.int (i1 &&& (3 : Int32))), .val (.ref b10)] []))
  refine own_step (fun t k => XS.aload X13.here hx rfl (hb hby at_47) rfl rfl k) ?_
  show own_Fin p e below s Q 16 128 (T13.setTop (mkF m 49 #[.val (.int i0), .val (.int i1), .val (.long j2), .second, .val (.int ((i0 &&& (2147483647 : Int32)) % (1114112 : Int32))), .val (.int (i1 &&& (3 : Int32))), .val (.ref b10)] [(.ref b10)]))
  refine own_step (fun t k => XS.iconst X13.here hx rfl (hb hby at_49) k) ?_
  show own_Fin p e below s Q 16 128 (T13.setTop (mkF m 50 #[.val (.int i0), .val (.int i1), .val (.long j2), .second, .val (.int ((i0 &&& (2147483647 : Int32)) % (1114112 : Int32))), .val (.int (i1 &&& (3 : Int32))), .val (.ref b10)] [(.int (3 : Int32)), (.ref b10)]))
  refine own_step (fun t k => XS.lloadN X13.here hx rfl (hb hby at_50) rfl  k) ?_
  show own_Fin p e below s Q 16 128 (T13.setTop (mkF m 51 #[.val (.int i0), .val (.int i1), .val (.long j2), .second, .val (.int ((i0 &&& (2147483647 : Int32)) % (1114112 : Int32))), .val (.int (i1 &&& (3 : Int32))), .val (.ref b10)] [(.long j2), (.int (3 : Int32)), (.ref b10)]))
  refine own_step (fun t k => XS.bipush X13.here hx rfl (hb hby at_51) k) ?_
  show own_Fin p e below s Q 16 128 (T13.setTop (mkF m 53 #[.val (.int i0), .val (.int i1), .val (.long j2), .second, .val (.int ((i0 &&& (2147483647 : Int32)) % (1114112 : Int32))), .val (.int (i1 &&& (3 : Int32))), .val (.ref b10)] [(.int (24 : Int32)), (.long j2), (.int (3 : Int32)), (.ref b10)]))
  refine own_step (fun t k => XS.lushr X13.here hx rfl (hb hby at_53) rfl k) ?_
  show own_Fin p e below s Q 16 128 (T13.setTop (mkF m 54 #[.val (.int i0), .val (.int i1), .val (.long j2), .second, .val (.int ((i0 &&& (2147483647 : Int32)) % (1114112 : Int32))), .val (.int (i1 &&& (3 : Int32))), .val (.ref b10)] [(.long ((j2.toUInt64 >>> ((24 : Int32) &&& 0x3f).toInt64.toUInt64).toInt64)), (.int (3 : Int32)), (.ref b10)]))
  refine own_step (fun t k => XS.l2i X13.here hx rfl (hb hby at_54) rfl k) ?_
  show own_Fin p e below s Q 16 128 (T13.setTop (mkF m 55 #[.val (.int i0), .val (.int i1), .val (.long j2), .second, .val (.int ((i0 &&& (2147483647 : Int32)) % (1114112 : Int32))), .val (.int (i1 &&& (3 : Int32))), .val (.ref b10)] [(.int (((j2.toUInt64 >>> ((24 : Int32) &&& 0x3f).toInt64.toUInt64).toInt64).toInt32)), (.int (3 : Int32)), (.ref b10)]))
  refine own_step (fun t k => XS.i2b X13.here hx rfl (hb hby at_55) rfl k) ?_
  show own_Fin p e below s Q 16 128 (T13.setTop (mkF m 56 #[.val (.int i0), .val (.int i1), .val (.long j2), .second, .val (.int ((i0 &&& (2147483647 : Int32)) % (1114112 : Int32))), .val (.int (i1 &&& (3 : Int32))), .val (.ref b10)] [(.int ((((j2.toUInt64 >>> ((24 : Int32) &&& 0x3f).toInt64.toUInt64).toInt64).toInt32).toInt8.toInt32)), (.int (3 : Int32)), (.ref b10)]))
  obtain ⟨ca14, Ar14, Sz14, Ht14⟩ := id V13
  have hin14 : ¬ ((3 : Int32) < 0 ∨ ca14.slots.size ≤ ((3 : Int32)).toNatClampNeg) := by rw [Sz14]; exact (by decide)
  obtain ⟨T14, h14, X14, e14, W14, st14⟩ := stB X13 hx hZ e13 Ar14 (j := (3 : Int32)) hin14 (g := (mkF m 56 #[.val (.int i0), .val (.int i1), .val (.long j2), .second, .val (.int ((i0 &&& (2147483647 : Int32)) % (1114112 : Int32))), .val (.int (i1 &&& (3 : Int32))), .val (.ref b10)] [(.int ((((j2.toUInt64 >>> ((24 : Int32) &&& 0x3f).toInt64.toUInt64).toInt64).toInt32).toInt8.toInt32)), (.int (3 : Int32)), (.ref b10)])) rfl rfl (hb hby at_56)
  have V14 : own_AF Z h14 b10 .byte 8 (fun i => if i = 3 then (nar .byte ((((j2.toUInt64 >>> ((24 : Int32) &&& 0x3f).toInt64.toUInt64).toInt64).toInt32).toInt8.toInt32)) else gf13 i) := own_AFset Ar14 Sz14 Ht14 W14
  obtain ⟨gf14, hgf14⟩ : ∃ g' : Nat → Int32, g' = (fun i => if i = 3 then (nar .byte ((((j2.toUInt64 >>> ((24 : Int32) &&& 0x3f).toInt64.toUInt64).toInt64).toInt32).toInt8.toInt32)) else gf13 i) := ⟨_, rfl⟩
  rw [← hgf14] at V14
  have N14 := Fr.snoc X14 N13 fr10
  have Z014 : n0 ≤ h14.size := Nat.le_trans Z013 (Nat.le_of_eq W14.size.symm)
  refine own_step st14 ?_
  show own_Fin p e below s Q 16 128 (T14.setTop (mkF m 57 #[.val (.int i0), .val (.int i1), .val (.long j2), .second, .val (.int ((i0 &&& (2147483647 : Int32)) % (1114112 : Int32))), .val (.int (i1 &&& (3 : Int32))), .val (.ref b10)] []))
  refine own_step (fun t k => XS.aload X14.here hx rfl (hb hby at_57) rfl rfl k) ?_
  show own_Fin p e below s Q 16 128 (T14.setTop (mkF m 59 #[.val (.int i0), .val (.int i1), .val (.long j2), .second, .val (.int ((i0 &&& (2147483647 : Int32)) % (1114112 : Int32))), .val (.int (i1 &&& (3 : Int32))), .val (.ref b10)] [(.ref b10)]))
  refine own_step (fun t k => XS.iconst X14.here hx rfl (hb hby at_59) k) ?_
  show own_Fin p e below s Q 16 128 (T14.setTop (mkF m 60 #[.val (.int i0), .val (.int i1), .val (.long j2), .second, .val (.int ((i0 &&& (2147483647 : Int32)) % (1114112 : Int32))), .val (.int (i1 &&& (3 : Int32))), .val (.ref b10)] [(.int (4 : Int32)), (.ref b10)]))
  refine own_step (fun t k => XS.lloadN X14.here hx rfl (hb hby at_60) rfl  k) ?_
  show own_Fin p e below s Q 16 128 (T14.setTop (mkF m 61 #[.val (.int i0), .val (.int i1), .val (.long j2), .second, .val (.int ((i0 &&& (2147483647 : Int32)) % (1114112 : Int32))), .val (.int (i1 &&& (3 : Int32))), .val (.ref b10)] [(.long j2), (.int (4 : Int32)), (.ref b10)]))
  refine own_step (fun t k => XS.bipush X14.here hx rfl (hb hby at_61) k) ?_
  show own_Fin p e below s Q 16 128 (T14.setTop (mkF m 63 #[.val (.int i0), .val (.int i1), .val (.long j2), .second, .val (.int ((i0 &&& (2147483647 : Int32)) % (1114112 : Int32))), .val (.int (i1 &&& (3 : Int32))), .val (.ref b10)] [(.int (32 : Int32)), (.long j2), (.int (4 : Int32)), (.ref b10)]))
  refine own_step (fun t k => XS.lushr X14.here hx rfl (hb hby at_63) rfl k) ?_
  show own_Fin p e below s Q 16 128 (T14.setTop (mkF m 64 #[.val (.int i0), .val (.int i1), .val (.long j2), .second, .val (.int ((i0 &&& (2147483647 : Int32)) % (1114112 : Int32))), .val (.int (i1 &&& (3 : Int32))), .val (.ref b10)] [(.long ((j2.toUInt64 >>> ((32 : Int32) &&& 0x3f).toInt64.toUInt64).toInt64)), (.int (4 : Int32)), (.ref b10)]))
  refine own_step (fun t k => XS.l2i X14.here hx rfl (hb hby at_64) rfl k) ?_
  show own_Fin p e below s Q 16 128 (T14.setTop (mkF m 65 #[.val (.int i0), .val (.int i1), .val (.long j2), .second, .val (.int ((i0 &&& (2147483647 : Int32)) % (1114112 : Int32))), .val (.int (i1 &&& (3 : Int32))), .val (.ref b10)] [(.int (((j2.toUInt64 >>> ((32 : Int32) &&& 0x3f).toInt64.toUInt64).toInt64).toInt32)), (.int (4 : Int32)), (.ref b10)]))
  refine own_step (fun t k => XS.i2b X14.here hx rfl (hb hby at_65) rfl k) ?_
  show own_Fin p e below s Q 16 128 (T14.setTop (mkF m 66 #[.val (.int i0), .val (.int i1), .val (.long j2), .second, .val (.int ((i0 &&& (2147483647 : Int32)) % (1114112 : Int32))), .val (.int (i1 &&& (3 : Int32))), .val (.ref b10)] [(.int ((((j2.toUInt64 >>> ((32 : Int32) &&& 0x3f).toInt64.toUInt64).toInt64).toInt32).toInt8.toInt32)), (.int (4 : Int32)), (.ref b10)]))
  obtain ⟨ca15, Ar15, Sz15, Ht15⟩ := id V14
  have hin15 : ¬ ((4 : Int32) < 0 ∨ ca15.slots.size ≤ ((4 : Int32)).toNatClampNeg) := by rw [Sz15]; exact (by decide)
  obtain ⟨T15, h15, X15, e15, W15, st15⟩ := stB X14 hx hZ e14 Ar15 (j := (4 : Int32)) hin15 (g := (mkF m 66 #[.val (.int i0), .val (.int i1), .val (.long j2), .second, .val (.int ((i0 &&& (2147483647 : Int32)) % (1114112 : Int32))), .val (.int (i1 &&& (3 : Int32))), .val (.ref b10)] [(.int ((((j2.toUInt64 >>> ((32 : Int32) &&& 0x3f).toInt64.toUInt64).toInt64).toInt32).toInt8.toInt32)), (.int (4 : Int32)), (.ref b10)])) rfl rfl (hb hby at_66)
  have V15 : own_AF Z h15 b10 .byte 8 (fun i => if i = 4 then (nar .byte ((((j2.toUInt64 >>> ((32 : Int32) &&& 0x3f).toInt64.toUInt64).toInt64).toInt32).toInt8.toInt32)) else gf14 i) := own_AFset Ar15 Sz15 Ht15 W15
  obtain ⟨gf15, hgf15⟩ : ∃ g' : Nat → Int32, g' = (fun i => if i = 4 then (nar .byte ((((j2.toUInt64 >>> ((32 : Int32) &&& 0x3f).toInt64.toUInt64).toInt64).toInt32).toInt8.toInt32)) else gf14 i) := ⟨_, rfl⟩
  rw [← hgf15] at V15
  have N15 := Fr.snoc X15 N14 fr10
  have Z015 : n0 ≤ h15.size := Nat.le_trans Z014 (Nat.le_of_eq W15.size.symm)
  refine own_step st15 ?_
  show own_Fin p e below s Q 16 128 (T15.setTop (mkF m 67 #[.val (.int i0), .val (.int i1), .val (.long j2), .second, .val (.int ((i0 &&& (2147483647 : Int32)) % (1114112 : Int32))), .val (.int (i1 &&& (3 : Int32))), .val (.ref b10)] []))
  refine own_step (fun t k => XS.aload X15.here hx rfl (hb hby at_67) rfl rfl k) ?_
  show own_Fin p e below s Q 16 128 (T15.setTop (mkF m 69 #[.val (.int i0), .val (.int i1), .val (.long j2), .second, .val (.int ((i0 &&& (2147483647 : Int32)) % (1114112 : Int32))), .val (.int (i1 &&& (3 : Int32))), .val (.ref b10)] [(.ref b10)]))
  refine own_step (fun t k => XS.iconst X15.here hx rfl (hb hby at_69) k) ?_
  show own_Fin p e below s Q 16 128 (T15.setTop (mkF m 70 #[.val (.int i0), .val (.int i1), .val (.long j2), .second, .val (.int ((i0 &&& (2147483647 : Int32)) % (1114112 : Int32))), .val (.int (i1 &&& (3 : Int32))), .val (.ref b10)] [(.int (5 : Int32)), (.ref b10)]))
  refine own_step (fun t k => XS.lloadN X15.here hx rfl (hb hby at_70) rfl  k) ?_
  show own_Fin p e below s Q 16 128 (T15.setTop (mkF m 71 #[.val (.int i0), .val (.int i1), .val (.long j2), .second, .val (.int ((i0 &&& (2147483647 : Int32)) % (1114112 : Int32))), .val (.int (i1 &&& (3 : Int32))), .val (.ref b10)] [(.long j2), (.int (5 : Int32)), (.ref b10)]))
  refine own_step (fun t k => XS.bipush X15.here hx rfl (hb hby at_71) k) ?_
  show own_Fin p e below s Q 16 128 (T15.setTop (mkF m 73 #[.val (.int i0), .val (.int i1), .val (.long j2), .second, .val (.int ((i0 &&& (2147483647 : Int32)) % (1114112 : Int32))), .val (.int (i1 &&& (3 : Int32))), .val (.ref b10)] [(.int (40 : Int32)), (.long j2), (.int (5 : Int32)), (.ref b10)]))
  refine own_step (fun t k => XS.lushr X15.here hx rfl (hb hby at_73) rfl k) ?_
  show own_Fin p e below s Q 16 128 (T15.setTop (mkF m 74 #[.val (.int i0), .val (.int i1), .val (.long j2), .second, .val (.int ((i0 &&& (2147483647 : Int32)) % (1114112 : Int32))), .val (.int (i1 &&& (3 : Int32))), .val (.ref b10)] [(.long ((j2.toUInt64 >>> ((40 : Int32) &&& 0x3f).toInt64.toUInt64).toInt64)), (.int (5 : Int32)), (.ref b10)]))
  refine own_step (fun t k => XS.l2i X15.here hx rfl (hb hby at_74) rfl k) ?_
  show own_Fin p e below s Q 16 128 (T15.setTop (mkF m 75 #[.val (.int i0), .val (.int i1), .val (.long j2), .second, .val (.int ((i0 &&& (2147483647 : Int32)) % (1114112 : Int32))), .val (.int (i1 &&& (3 : Int32))), .val (.ref b10)] [(.int (((j2.toUInt64 >>> ((40 : Int32) &&& 0x3f).toInt64.toUInt64).toInt64).toInt32)), (.int (5 : Int32)), (.ref b10)]))
  refine own_step (fun t k => XS.i2b X15.here hx rfl (hb hby at_75) rfl k) ?_
  show own_Fin p e below s Q 16 128 (T15.setTop (mkF m 76 #[.val (.int i0), .val (.int i1), .val (.long j2), .second, .val (.int ((i0 &&& (2147483647 : Int32)) % (1114112 : Int32))), .val (.int (i1 &&& (3 : Int32))), .val (.ref b10)] [(.int ((((j2.toUInt64 >>> ((40 : Int32) &&& 0x3f).toInt64.toUInt64).toInt64).toInt32).toInt8.toInt32)), (.int (5 : Int32)), (.ref b10)]))
  obtain ⟨ca16, Ar16, Sz16, Ht16⟩ := id V15
  have hin16 : ¬ ((5 : Int32) < 0 ∨ ca16.slots.size ≤ ((5 : Int32)).toNatClampNeg) := by rw [Sz16]; exact (by decide)
  obtain ⟨T16, h16, X16, e16, W16, st16⟩ := stB X15 hx hZ e15 Ar16 (j := (5 : Int32)) hin16 (g := (mkF m 76 #[.val (.int i0), .val (.int i1), .val (.long j2), .second, .val (.int ((i0 &&& (2147483647 : Int32)) % (1114112 : Int32))), .val (.int (i1 &&& (3 : Int32))), .val (.ref b10)] [(.int ((((j2.toUInt64 >>> ((40 : Int32) &&& 0x3f).toInt64.toUInt64).toInt64).toInt32).toInt8.toInt32)), (.int (5 : Int32)), (.ref b10)])) rfl rfl (hb hby at_76)
  have V16 : own_AF Z h16 b10 .byte 8 (fun i => if i = 5 then (nar .byte ((((j2.toUInt64 >>> ((40 : Int32) &&& 0x3f).toInt64.toUInt64).toInt64).toInt32).toInt8.toInt32)) else gf15 i) := own_AFset Ar16 Sz16 Ht16 W16
  obtain ⟨gf16, hgf16⟩ : ∃ g' : Nat → Int32, g' = (fun i => if i = 5 then (nar .byte ((((j2.toUInt64 >>> ((40 : Int32) &&& 0x3f).toInt64.toUInt64).toInt64).toInt32).toInt8.toInt32)) else gf15 i) := ⟨_, rfl⟩
  rw [← hgf16] at V16
  have N16 := Fr.snoc X16 N15 fr10
  have Z016 : n0 ≤ h16.size := Nat.le_trans Z015 (Nat.le_of_eq W16.size.symm)
  refine own_step st16 ?_
  show own_Fin p e below s Q 16 128 (T16.setTop (mkF m 77 #[.val (.int i0), .val (.int i1), .val (.long j2), .second, .val (.int ((i0 &&& (2147483647 : Int32)) % (1114112 : Int32))), .val (.int (i1 &&& (3 : Int32))), .val (.ref b10)] []))
  refine own_step (fun t k => XS.aload X16.here hx rfl (hb hby at_77) rfl rfl k) ?_
  show own_Fin p e below s Q 16 128 (T16.setTop (mkF m 79 #[.val (.int i0), .val (.int i1), .val (.long j2), .second, .val (.int ((i0 &&& (2147483647 : Int32)) % (1114112 : Int32))), .val (.int (i1 &&& (3 : Int32))), .val (.ref b10)] [(.ref b10)]))
  refine own_step (fun t k => XS.bipush X16.here hx rfl (hb hby at_79) k) ?_
  show own_Fin p e below s Q 16 128 (T16.setTop (mkF m 81 #[.val (.int i0), .val (.int i1), .val (.long j2), .second, .val (.int ((i0 &&& (2147483647 : Int32)) % (1114112 : Int32))), .val (.int (i1 &&& (3 : Int32))), .val (.ref b10)] [(.int (6 : Int32)), (.ref b10)]))
  refine own_step (fun t k => XS.lloadN X16.here hx rfl (hb hby at_81) rfl  k) ?_
  show own_Fin p e below s Q 16 128 (T16.setTop (mkF m 82 #[.val (.int i0), .val (.int i1), .val (.long j2), .second, .val (.int ((i0 &&& (2147483647 : Int32)) % (1114112 : Int32))), .val (.int (i1 &&& (3 : Int32))), .val (.ref b10)] [(.long j2), (.int (6 : Int32)), (.ref b10)]))
  refine own_step (fun t k => XS.bipush X16.here hx rfl (hb hby at_82) k) ?_
  show own_Fin p e below s Q 16 128 (T16.setTop (mkF m 84 #[.val (.int i0), .val (.int i1), .val (.long j2), .second, .val (.int ((i0 &&& (2147483647 : Int32)) % (1114112 : Int32))), .val (.int (i1 &&& (3 : Int32))), .val (.ref b10)] [(.int (48 : Int32)), (.long j2), (.int (6 : Int32)), (.ref b10)]))
  refine own_step (fun t k => XS.lushr X16.here hx rfl (hb hby at_84) rfl k) ?_
  show own_Fin p e below s Q 16 128 (T16.setTop (mkF m 85 #[.val (.int i0), .val (.int i1), .val (.long j2), .second, .val (.int ((i0 &&& (2147483647 : Int32)) % (1114112 : Int32))), .val (.int (i1 &&& (3 : Int32))), .val (.ref b10)] [(.long ((j2.toUInt64 >>> ((48 : Int32) &&& 0x3f).toInt64.toUInt64).toInt64)), (.int (6 : Int32)), (.ref b10)]))
  refine own_step (fun t k => XS.l2i X16.here hx rfl (hb hby at_85) rfl k) ?_
  show own_Fin p e below s Q 16 128 (T16.setTop (mkF m 86 #[.val (.int i0), .val (.int i1), .val (.long j2), .second, .val (.int ((i0 &&& (2147483647 : Int32)) % (1114112 : Int32))), .val (.int (i1 &&& (3 : Int32))), .val (.ref b10)] [(.int (((j2.toUInt64 >>> ((48 : Int32) &&& 0x3f).toInt64.toUInt64).toInt64).toInt32)), (.int (6 : Int32)), (.ref b10)]))
  refine own_step (fun t k => XS.i2b X16.here hx rfl (hb hby at_86) rfl k) ?_
  show own_Fin p e below s Q 16 128 (T16.setTop (mkF m 87 #[.val (.int i0), .val (.int i1), .val (.long j2), .second, .val (.int ((i0 &&& (2147483647 : Int32)) % (1114112 : Int32))), .val (.int (i1 &&& (3 : Int32))), .val (.ref b10)] [(.int ((((j2.toUInt64 >>> ((48 : Int32) &&& 0x3f).toInt64.toUInt64).toInt64).toInt32).toInt8.toInt32)), (.int (6 : Int32)), (.ref b10)]))
  obtain ⟨ca17, Ar17, Sz17, Ht17⟩ := id V16
  have hin17 : ¬ ((6 : Int32) < 0 ∨ ca17.slots.size ≤ ((6 : Int32)).toNatClampNeg) := by rw [Sz17]; exact (by decide)
  obtain ⟨T17, h17, X17, e17, W17, st17⟩ := stB X16 hx hZ e16 Ar17 (j := (6 : Int32)) hin17 (g := (mkF m 87 #[.val (.int i0), .val (.int i1), .val (.long j2), .second, .val (.int ((i0 &&& (2147483647 : Int32)) % (1114112 : Int32))), .val (.int (i1 &&& (3 : Int32))), .val (.ref b10)] [(.int ((((j2.toUInt64 >>> ((48 : Int32) &&& 0x3f).toInt64.toUInt64).toInt64).toInt32).toInt8.toInt32)), (.int (6 : Int32)), (.ref b10)])) rfl rfl (hb hby at_87)
  have V17 : own_AF Z h17 b10 .byte 8 (fun i => if i = 6 then (nar .byte ((((j2.toUInt64 >>> ((48 : Int32) &&& 0x3f).toInt64.toUInt64).toInt64).toInt32).toInt8.toInt32)) else gf16 i) := own_AFset Ar17 Sz17 Ht17 W17
  obtain ⟨gf17, hgf17⟩ : ∃ g' : Nat → Int32, g' = (fun i => if i = 6 then (nar .byte ((((j2.toUInt64 >>> ((48 : Int32) &&& 0x3f).toInt64.toUInt64).toInt64).toInt32).toInt8.toInt32)) else gf16 i) := ⟨_, rfl⟩
  rw [← hgf17] at V17
  have N17 := Fr.snoc X17 N16 fr10
  have Z017 : n0 ≤ h17.size := Nat.le_trans Z016 (Nat.le_of_eq W17.size.symm)
  refine own_step st17 ?_
  show own_Fin p e below s Q 16 128 (T17.setTop (mkF m 88 #[.val (.int i0), .val (.int i1), .val (.long j2), .second, .val (.int ((i0 &&& (2147483647 : Int32)) % (1114112 : Int32))), .val (.int (i1 &&& (3 : Int32))), .val (.ref b10)] []))
  refine own_step (fun t k => XS.aload X17.here hx rfl (hb hby at_88) rfl rfl k) ?_
  show own_Fin p e below s Q 16 128 (T17.setTop (mkF m 90 #[.val (.int i0), .val (.int i1), .val (.long j2), .second, .val (.int ((i0 &&& (2147483647 : Int32)) % (1114112 : Int32))), .val (.int (i1 &&& (3 : Int32))), .val (.ref b10)] [(.ref b10)]))
  refine own_step (fun t k => XS.bipush X17.here hx rfl (hb hby at_90) k) ?_
  show own_Fin p e below s Q 16 128 (T17.setTop (mkF m 92 #[.val (.int i0), .val (.int i1), .val (.long j2), .second, .val (.int ((i0 &&& (2147483647 : Int32)) % (1114112 : Int32))), .val (.int (i1 &&& (3 : Int32))), .val (.ref b10)] [(.int (7 : Int32)), (.ref b10)]))
  refine own_step (fun t k => XS.lloadN X17.here hx rfl (hb hby at_92) rfl  k) ?_
  show own_Fin p e below s Q 16 128 (T17.setTop (mkF m 93 #[.val (.int i0), .val (.int i1), .val (.long j2), .second, .val (.int ((i0 &&& (2147483647 : Int32)) % (1114112 : Int32))), .val (.int (i1 &&& (3 : Int32))), .val (.ref b10)] [(.long j2), (.int (7 : Int32)), (.ref b10)]))
  refine own_step (fun t k => XS.bipush X17.here hx rfl (hb hby at_93) k) ?_
  show own_Fin p e below s Q 16 128 (T17.setTop (mkF m 95 #[.val (.int i0), .val (.int i1), .val (.long j2), .second, .val (.int ((i0 &&& (2147483647 : Int32)) % (1114112 : Int32))), .val (.int (i1 &&& (3 : Int32))), .val (.ref b10)] [(.int (56 : Int32)), (.long j2), (.int (7 : Int32)), (.ref b10)]))
  refine own_step (fun t k => XS.lushr X17.here hx rfl (hb hby at_95) rfl k) ?_
  show own_Fin p e below s Q 16 128 (T17.setTop (mkF m 96 #[.val (.int i0), .val (.int i1), .val (.long j2), .second, .val (.int ((i0 &&& (2147483647 : Int32)) % (1114112 : Int32))), .val (.int (i1 &&& (3 : Int32))), .val (.ref b10)] [(.long ((j2.toUInt64 >>> ((56 : Int32) &&& 0x3f).toInt64.toUInt64).toInt64)), (.int (7 : Int32)), (.ref b10)]))
  refine own_step (fun t k => XS.l2i X17.here hx rfl (hb hby at_96) rfl k) ?_
  show own_Fin p e below s Q 16 128 (T17.setTop (mkF m 97 #[.val (.int i0), .val (.int i1), .val (.long j2), .second, .val (.int ((i0 &&& (2147483647 : Int32)) % (1114112 : Int32))), .val (.int (i1 &&& (3 : Int32))), .val (.ref b10)] [(.int (((j2.toUInt64 >>> ((56 : Int32) &&& 0x3f).toInt64.toUInt64).toInt64).toInt32)), (.int (7 : Int32)), (.ref b10)]))
  refine own_step (fun t k => XS.i2b X17.here hx rfl (hb hby at_97) rfl k) ?_
  show own_Fin p e below s Q 16 128 (T17.setTop (mkF m 98 #[.val (.int i0), .val (.int i1), .val (.long j2), .second, .val (.int ((i0 &&& (2147483647 : Int32)) % (1114112 : Int32))), .val (.int (i1 &&& (3 : Int32))), .val (.ref b10)] [(.int ((((j2.toUInt64 >>> ((56 : Int32) &&& 0x3f).toInt64.toUInt64).toInt64).toInt32).toInt8.toInt32)), (.int (7 : Int32)), (.ref b10)]))
  obtain ⟨ca18, Ar18, Sz18, Ht18⟩ := id V17
  have hin18 : ¬ ((7 : Int32) < 0 ∨ ca18.slots.size ≤ ((7 : Int32)).toNatClampNeg) := by rw [Sz18]; exact (by decide)
  obtain ⟨T18, h18, X18, e18, W18, st18⟩ := stB X17 hx hZ e17 Ar18 (j := (7 : Int32)) hin18 (g := (mkF m 98 #[.val (.int i0), .val (.int i1), .val (.long j2), .second, .val (.int ((i0 &&& (2147483647 : Int32)) % (1114112 : Int32))), .val (.int (i1 &&& (3 : Int32))), .val (.ref b10)] [(.int ((((j2.toUInt64 >>> ((56 : Int32) &&& 0x3f).toInt64.toUInt64).toInt64).toInt32).toInt8.toInt32)), (.int (7 : Int32)), (.ref b10)])) rfl rfl (hb hby at_98)
  have V18 : own_AF Z h18 b10 .byte 8 (fun i => if i = 7 then (nar .byte ((((j2.toUInt64 >>> ((56 : Int32) &&& 0x3f).toInt64.toUInt64).toInt64).toInt32).toInt8.toInt32)) else gf17 i) := own_AFset Ar18 Sz18 Ht18 W18
  obtain ⟨gf18, hgf18⟩ : ∃ g' : Nat → Int32, g' = (fun i => if i = 7 then (nar .byte ((((j2.toUInt64 >>> ((56 : Int32) &&& 0x3f).toInt64.toUInt64).toInt64).toInt32).toInt8.toInt32)) else gf17 i) := ⟨_, rfl⟩
  rw [← hgf18] at V18
  have N18 := Fr.snoc X18 N17 fr10
  have Z018 : n0 ≤ h18.size := Nat.le_trans Z017 (Nat.le_of_eq W18.size.symm)
  refine own_step st18 ?_
  show own_Fin p e below s Q 16 128 (T18.setTop (mkF m 99 #[.val (.int i0), .val (.int i1), .val (.long j2), .second, .val (.int ((i0 &&& (2147483647 : Int32)) % (1114112 : Int32))), .val (.int (i1 &&& (3 : Int32))), .val (.ref b10)] []))
  refine own_step (fun t k => XS.iload X18.here hx rfl (hb hby at_99) rfl  k) ?_
  show own_Fin p e below s Q 16 128 (T18.setTop (mkF m 101 #[.val (.int i0), .val (.int i1), .val (.long j2), .second, .val (.int ((i0 &&& (2147483647 : Int32)) % (1114112 : Int32))), .val (.int (i1 &&& (3 : Int32))), .val (.ref b10)] [(.int ((i0 &&& (2147483647 : Int32)) % (1114112 : Int32)))]))
  refine own_step (fun t k => XS.sipush X18.here hx rfl (hb hby at_101) k) ?_
  show own_Fin p e below s Q 16 128 (T18.setTop (mkF m 104 #[.val (.int i0), .val (.int i1), .val (.long j2), .second, .val (.int ((i0 &&& (2147483647 : Int32)) % (1114112 : Int32))), .val (.int (i1 &&& (3 : Int32))), .val (.ref b10)] [(.int (128 : Int32)), (.int ((i0 &&& (2147483647 : Int32)) % (1114112 : Int32)))]))
  by_cases hB104_19 : ((i0 &&& (2147483647 : Int32)) % (1114112 : Int32)) < (128 : Int32)
  · refine own_step (fun t k => XS.icmpNo X18.here hx rfl (hb hby at_104) rfl (tlt hB104_19).2.1 k) ?_
    show own_Fin p e below s Q 16 128 (T18.setTop (mkF m 107 #[.val (.int i0), .val (.int i1), .val (.long j2), .second, .val (.int ((i0 &&& (2147483647 : Int32)) % (1114112 : Int32))), .val (.int (i1 &&& (3 : Int32))), .val (.ref b10)] []))
    refine own_step (fun t k => XS.aload X18.here hx rfl (hb hby at_107) rfl rfl k) ?_
    show own_Fin p e below s Q 16 128 (T18.setTop (mkF m 109 #[.val (.int i0), .val (.int i1), .val (.long j2), .second, .val (.int ((i0 &&& (2147483647 : Int32)) % (1114112 : Int32))), .val (.int (i1 &&& (3 : Int32))), .val (.ref b10)] [(.ref b10)]))
    refine own_step (fun t k => XS.iload X18.here hx rfl (hb hby at_109) rfl  k) ?_
    show own_Fin p e below s Q 16 128 (T18.setTop (mkF m 111 #[.val (.int i0), .val (.int i1), .val (.long j2), .second, .val (.int ((i0 &&& (2147483647 : Int32)) % (1114112 : Int32))), .val (.int (i1 &&& (3 : Int32))), .val (.ref b10)] [(.int (i1 &&& (3 : Int32))), (.ref b10)]))
    refine own_step (fun t k => XS.iload X18.here hx rfl (hb hby at_111) rfl  k) ?_
    show own_Fin p e below s Q 16 128 (T18.setTop (mkF m 113 #[.val (.int i0), .val (.int i1), .val (.long j2), .second, .val (.int ((i0 &&& (2147483647 : Int32)) % (1114112 : Int32))), .val (.int (i1 &&& (3 : Int32))), .val (.ref b10)] [(.int ((i0 &&& (2147483647 : Int32)) % (1114112 : Int32))), (.int (i1 &&& (3 : Int32))), (.ref b10)]))
    refine own_step (fun t k => XS.i2b X18.here hx rfl (hb hby at_113) rfl k) ?_
    show own_Fin p e below s Q 16 128 (T18.setTop (mkF m 114 #[.val (.int i0), .val (.int i1), .val (.long j2), .second, .val (.int ((i0 &&& (2147483647 : Int32)) % (1114112 : Int32))), .val (.int (i1 &&& (3 : Int32))), .val (.ref b10)] [(.int (((i0 &&& (2147483647 : Int32)) % (1114112 : Int32)).toInt8.toInt32)), (.int (i1 &&& (3 : Int32))), (.ref b10)]))
    obtain ⟨ca20, Ar20, Sz20, Ht20⟩ := id V18
    have hin20 : ¬ ((i1 &&& (3 : Int32)) < 0 ∨ ca20.slots.size ≤ ((i1 &&& (3 : Int32))).toNatClampNeg) := by rw [Sz20]; exact own_o0 i1
    obtain ⟨T20, h20, X20, e20, W20, st20⟩ := stB X18 hx hZ e18 Ar20 (j := (i1 &&& (3 : Int32))) hin20 (g := (mkF m 114 #[.val (.int i0), .val (.int i1), .val (.long j2), .second, .val (.int ((i0 &&& (2147483647 : Int32)) % (1114112 : Int32))), .val (.int (i1 &&& (3 : Int32))), .val (.ref b10)] [(.int (((i0 &&& (2147483647 : Int32)) % (1114112 : Int32)).toInt8.toInt32)), (.int (i1 &&& (3 : Int32))), (.ref b10)])) rfl rfl (hb hby at_114)
    have V20 : own_AF Z h20 b10 .byte 8 (fun i => if i = ((i1 &&& (3 : Int32))).toNatClampNeg then (nar .byte (((i0 &&& (2147483647 : Int32)) % (1114112 : Int32)).toInt8.toInt32)) else gf18 i) := own_AFset Ar20 Sz20 Ht20 W20
    obtain ⟨gf20, hgf20⟩ : ∃ g' : Nat → Int32, g' = (fun i => if i = ((i1 &&& (3 : Int32))).toNatClampNeg then (nar .byte (((i0 &&& (2147483647 : Int32)) % (1114112 : Int32)).toInt8.toInt32)) else gf18 i) := ⟨_, rfl⟩
    rw [← hgf20] at V20
    have N20 := Fr.snoc X20 N18 fr10
    have Z020 : n0 ≤ h20.size := Nat.le_trans Z018 (Nat.le_of_eq W20.size.symm)
    refine own_step st20 ?_
    show own_Fin p e below s Q 16 128 (T20.setTop (mkF m 115 #[.val (.int i0), .val (.int i1), .val (.long j2), .second, .val (.int ((i0 &&& (2147483647 : Int32)) % (1114112 : Int32))), .val (.int (i1 &&& (3 : Int32))), .val (.ref b10)] []))
    refine own_step (fun t k => XS.goto X20.here hx rfl (pc0 := 115) (pc' := 297) rfl (hb hby at_115) (by decide) (by decide) k) ?_
    show own_Fin p e below s Q 16 128 (T20.setTop (mkF m 297 #[.val (.int i0), .val (.int i1), .val (.long j2), .second, .val (.int ((i0 &&& (2147483647 : Int32)) % (1114112 : Int32))), .val (.int (i1 &&& (3 : Int32))), .val (.ref b10)] []))
    refine own_step (fun t k => XS.aload X20.here hx rfl (hb hby at_297) rfl rfl k) ?_
    show own_Fin p e below s Q 16 128 (T20.setTop (mkF m 299 #[.val (.int i0), .val (.int i1), .val (.long j2), .second, .val (.int ((i0 &&& (2147483647 : Int32)) % (1114112 : Int32))), .val (.int (i1 &&& (3 : Int32))), .val (.ref b10)] [(.ref b10)]))
    refine own_step (fun t k => XS.iload X20.here hx rfl (hb hby at_299) rfl  k) ?_
    show own_Fin p e below s Q 16 128 (T20.setTop (mkF m 301 #[.val (.int i0), .val (.int i1), .val (.long j2), .second, .val (.int ((i0 &&& (2147483647 : Int32)) % (1114112 : Int32))), .val (.int (i1 &&& (3 : Int32))), .val (.ref b10)] [(.int (i1 &&& (3 : Int32))), (.ref b10)]))
    obtain ⟨_, _, ⟨T21, L21, k21, n21⟩, -, X21, ⟨Lc21, hQ21, l21, y21, z21⟩, st21⟩ := Jvm.LawKit.callS X20 hx (y := (⟨"com/example/zoria/zoria/xml/XmlName", "codePointAt", "([BI)I"⟩ : MethodName)) hown (mvT hZ (hw _ (List.mem_of_getElem? (i := 3) rfl))) (mvT hZ (hw _ (List.mem_of_getElem? (i := 4) rfl))) (mvT hZ (hw _ (List.mem_of_getElem? (i := 5) rfl))) (mvT hZ (hw _ (List.mem_of_getElem? (i := 6) rfl))) (by decide) (backOf (W := 0) (rm1 l Z a0 hw [] b10 gf20 8 (i1 &&& (3 : Int32)) h20 n0 V20 (own_o0 i1) (own_o1 i1) (own_o2 i1) (own_o3 i1)) hZ (hw _ (List.mem_of_getElem? (i := 6) rfl)) (hw _ (List.mem_of_getElem? (i := 5) rfl)) (by decide) (by decide)) (g := (mkF m 301 #[.val (.int i0), .val (.int i1), .val (.long j2), .second, .val (.int ((i0 &&& (2147483647 : Int32)) % (1114112 : Int32))), .val (.int (i1 &&& (3 : Int32))), .val (.ref b10)] [(.int (i1 &&& (3 : Int32))), (.ref b10)])) rfl (by rw [hml]; rfl) (argsL := [(.ref b10), (.int (i1 &&& (3 : Int32)))]) (rest := []) (lenOf pdm_0 rfl) rfl (by show 2 * 0 + _ ≤ _; exact Nat.le_of_eq rfl) (hb hby at_301) (fun _ _ => ⟨rfl, e20, (by show cells + 1 + 0 ≤ 16; omega), (by show slots + 8 + 0 ≤ 128; omega)⟩)
    dsimp only [Pt.U, Pt.locs, Pt.cells, Pt.slots] at X21 l21 y21 z21 st21 hQ21
    have yy21 : k21 = cells + 1 + 0 := y21
    have zz21 : n21 = slots + 8 + 0 := z21
    subst l21 yy21 zz21
    obtain ⟨rfl, N21q, e21⟩ := hQ21
    have N21 := Fr.app N20 N21q
    refine own_step st21 ?_
    show own_Fin p e below s Q 16 128 (T21.setTop (mkF m 304 #[.val (.int i0), .val (.int i1), .val (.long j2), .second, .val (.int ((i0 &&& (2147483647 : Int32)) % (1114112 : Int32))), .val (.int (i1 &&& (3 : Int32))), .val (.ref b10)] [(.int (f1_0 gf20 (i1 &&& (3 : Int32))))]))
    refine own_step (fun t k => XS.iload X21.here hx rfl (hb hby at_304) rfl  k) ?_
    show own_Fin p e below s Q 16 128 (T21.setTop (mkF m 306 #[.val (.int i0), .val (.int i1), .val (.long j2), .second, .val (.int ((i0 &&& (2147483647 : Int32)) % (1114112 : Int32))), .val (.int (i1 &&& (3 : Int32))), .val (.ref b10)] [(.int ((i0 &&& (2147483647 : Int32)) % (1114112 : Int32))), (.int (f1_0 gf20 (i1 &&& (3 : Int32))))]))
    refine own_step (fun t k => XS.icmpNo X21.here hx rfl (hb hby at_306) rfl (teq (own_road1 _ _ _ _ hgf20 (own_m3 i1) (by have w := own_c i0; have q104 := (own_neg (128 : Int32) 128 (by decide)).mp hB104_19; omega))).2 k) ?_
    show own_Fin p e below s Q 16 128 (T21.setTop (mkF m 309 #[.val (.int i0), .val (.int i1), .val (.long j2), .second, .val (.int ((i0 &&& (2147483647 : Int32)) % (1114112 : Int32))), .val (.int (i1 &&& (3 : Int32))), .val (.ref b10)] []))
    refine own_step (fun t k => XS.iconst X21.here hx rfl (hb hby at_309) k) ?_
    show own_Fin p e below s Q 16 128 (T21.setTop (mkF m 310 #[.val (.int i0), .val (.int i1), .val (.long j2), .second, .val (.int ((i0 &&& (2147483647 : Int32)) % (1114112 : Int32))), .val (.int (i1 &&& (3 : Int32))), .val (.ref b10)] [(.int (1 : Int32))]))
    refine own_step (fun t k => XS.goto X21.here hx rfl (pc0 := 310) (pc' := 314) rfl (hb hby at_310) (by decide) (by decide) k) ?_
    show own_Fin p e below s Q 16 128 (T21.setTop (mkF m 314 #[.val (.int i0), .val (.int i1), .val (.long j2), .second, .val (.int ((i0 &&& (2147483647 : Int32)) % (1114112 : Int32))), .val (.int (i1 &&& (3 : Int32))), .val (.ref b10)] [(.int (1 : Int32))]))
    exact own_retN X21 hx hlk hret (by simp) (hb hby at_314) (by omega) (by omega) rfl N21 (fun L' n' => hQ _ L' n') (rfl)
  · refine own_step (fun t k => XS.icmpYes X18.here hx rfl (pc0 := 104) (pc' := 118) rfl (hb hby at_104) rfl (flt hB104_19).2.1 (by decide) (by decide) k) ?_
    show own_Fin p e below s Q 16 128 (T18.setTop (mkF m 118 #[.val (.int i0), .val (.int i1), .val (.long j2), .second, .val (.int ((i0 &&& (2147483647 : Int32)) % (1114112 : Int32))), .val (.int (i1 &&& (3 : Int32))), .val (.ref b10)] []))
    refine own_step (fun t k => XS.iload X18.here hx rfl (hb hby at_118) rfl  k) ?_
    show own_Fin p e below s Q 16 128 (T18.setTop (mkF m 120 #[.val (.int i0), .val (.int i1), .val (.long j2), .second, .val (.int ((i0 &&& (2147483647 : Int32)) % (1114112 : Int32))), .val (.int (i1 &&& (3 : Int32))), .val (.ref b10)] [(.int ((i0 &&& (2147483647 : Int32)) % (1114112 : Int32)))]))
    refine own_step (fun t k => XS.sipush X18.here hx rfl (hb hby at_120) k) ?_
    show own_Fin p e below s Q 16 128 (T18.setTop (mkF m 123 #[.val (.int i0), .val (.int i1), .val (.long j2), .second, .val (.int ((i0 &&& (2147483647 : Int32)) % (1114112 : Int32))), .val (.int (i1 &&& (3 : Int32))), .val (.ref b10)] [(.int (2048 : Int32)), (.int ((i0 &&& (2147483647 : Int32)) % (1114112 : Int32)))]))
    by_cases hB123_22 : ((i0 &&& (2147483647 : Int32)) % (1114112 : Int32)) < (2048 : Int32)
    · refine own_step (fun t k => XS.icmpNo X18.here hx rfl (hb hby at_123) rfl (tlt hB123_22).2.1 k) ?_
      show own_Fin p e below s Q 16 128 (T18.setTop (mkF m 126 #[.val (.int i0), .val (.int i1), .val (.long j2), .second, .val (.int ((i0 &&& (2147483647 : Int32)) % (1114112 : Int32))), .val (.int (i1 &&& (3 : Int32))), .val (.ref b10)] []))
      refine own_step (fun t k => XS.aload X18.here hx rfl (hb hby at_126) rfl rfl k) ?_
      show own_Fin p e below s Q 16 128 (T18.setTop (mkF m 128 #[.val (.int i0), .val (.int i1), .val (.long j2), .second, .val (.int ((i0 &&& (2147483647 : Int32)) % (1114112 : Int32))), .val (.int (i1 &&& (3 : Int32))), .val (.ref b10)] [(.ref b10)]))
      refine own_step (fun t k => XS.iload X18.here hx rfl (hb hby at_128) rfl  k) ?_
      show own_Fin p e below s Q 16 128 (T18.setTop (mkF m 130 #[.val (.int i0), .val (.int i1), .val (.long j2), .second, .val (.int ((i0 &&& (2147483647 : Int32)) % (1114112 : Int32))), .val (.int (i1 &&& (3 : Int32))), .val (.ref b10)] [(.int (i1 &&& (3 : Int32))), (.ref b10)]))
      refine own_step (fun t k => XS.sipush X18.here hx rfl (hb hby at_130) k) ?_
      show own_Fin p e below s Q 16 128 (T18.setTop (mkF m 133 #[.val (.int i0), .val (.int i1), .val (.long j2), .second, .val (.int ((i0 &&& (2147483647 : Int32)) % (1114112 : Int32))), .val (.int (i1 &&& (3 : Int32))), .val (.ref b10)] [(.int (192 : Int32)), (.int (i1 &&& (3 : Int32))), (.ref b10)]))
      refine own_step (fun t k => XS.iload X18.here hx rfl (hb hby at_133) rfl  k) ?_
      show own_Fin p e below s Q 16 128 (T18.setTop (mkF m 135 #[.val (.int i0), .val (.int i1), .val (.long j2), .second, .val (.int ((i0 &&& (2147483647 : Int32)) % (1114112 : Int32))), .val (.int (i1 &&& (3 : Int32))), .val (.ref b10)] [(.int ((i0 &&& (2147483647 : Int32)) % (1114112 : Int32))), (.int (192 : Int32)), (.int (i1 &&& (3 : Int32))), (.ref b10)]))
      refine own_step (fun t k => XS.bipush X18.here hx rfl (hb hby at_135) k) ?_
      show own_Fin p e below s Q 16 128 (T18.setTop (mkF m 137 #[.val (.int i0), .val (.int i1), .val (.long j2), .second, .val (.int ((i0 &&& (2147483647 : Int32)) % (1114112 : Int32))), .val (.int (i1 &&& (3 : Int32))), .val (.ref b10)] [(.int (64 : Int32)), (.int ((i0 &&& (2147483647 : Int32)) % (1114112 : Int32))), (.int (192 : Int32)), (.int (i1 &&& (3 : Int32))), (.ref b10)]))
      refine own_step (fun t k => XS.idiv X18.here hx rfl (hb hby at_137) rfl (by decide) k) ?_
      show own_Fin p e below s Q 16 128 (T18.setTop (mkF m 138 #[.val (.int i0), .val (.int i1), .val (.long j2), .second, .val (.int ((i0 &&& (2147483647 : Int32)) % (1114112 : Int32))), .val (.int (i1 &&& (3 : Int32))), .val (.ref b10)] [(.int (((i0 &&& (2147483647 : Int32)) % (1114112 : Int32)) / (64 : Int32))), (.int (192 : Int32)), (.int (i1 &&& (3 : Int32))), (.ref b10)]))
      refine own_step (fun t k => XS.iadd X18.here hx rfl (hb hby at_138) rfl k) ?_
      show own_Fin p e below s Q 16 128 (T18.setTop (mkF m 139 #[.val (.int i0), .val (.int i1), .val (.long j2), .second, .val (.int ((i0 &&& (2147483647 : Int32)) % (1114112 : Int32))), .val (.int (i1 &&& (3 : Int32))), .val (.ref b10)] [(.int ((192 : Int32) + (((i0 &&& (2147483647 : Int32)) % (1114112 : Int32)) / (64 : Int32)))), (.int (i1 &&& (3 : Int32))), (.ref b10)]))
      refine own_step (fun t k => XS.i2b X18.here hx rfl (hb hby at_139) rfl k) ?_
      show own_Fin p e below s Q 16 128 (T18.setTop (mkF m 140 #[.val (.int i0), .val (.int i1), .val (.long j2), .second, .val (.int ((i0 &&& (2147483647 : Int32)) % (1114112 : Int32))), .val (.int (i1 &&& (3 : Int32))), .val (.ref b10)] [(.int (((192 : Int32) + (((i0 &&& (2147483647 : Int32)) % (1114112 : Int32)) / (64 : Int32))).toInt8.toInt32)), (.int (i1 &&& (3 : Int32))), (.ref b10)]))
      obtain ⟨ca23, Ar23, Sz23, Ht23⟩ := id V18
      have hin23 : ¬ ((i1 &&& (3 : Int32)) < 0 ∨ ca23.slots.size ≤ ((i1 &&& (3 : Int32))).toNatClampNeg) := by rw [Sz23]; exact own_o0 i1
      obtain ⟨T23, h23, X23, e23, W23, st23⟩ := stB X18 hx hZ e18 Ar23 (j := (i1 &&& (3 : Int32))) hin23 (g := (mkF m 140 #[.val (.int i0), .val (.int i1), .val (.long j2), .second, .val (.int ((i0 &&& (2147483647 : Int32)) % (1114112 : Int32))), .val (.int (i1 &&& (3 : Int32))), .val (.ref b10)] [(.int (((192 : Int32) + (((i0 &&& (2147483647 : Int32)) % (1114112 : Int32)) / (64 : Int32))).toInt8.toInt32)), (.int (i1 &&& (3 : Int32))), (.ref b10)])) rfl rfl (hb hby at_140)
      have V23 : own_AF Z h23 b10 .byte 8 (fun i => if i = ((i1 &&& (3 : Int32))).toNatClampNeg then (nar .byte (((192 : Int32) + (((i0 &&& (2147483647 : Int32)) % (1114112 : Int32)) / (64 : Int32))).toInt8.toInt32)) else gf18 i) := own_AFset Ar23 Sz23 Ht23 W23
      obtain ⟨gf23, hgf23⟩ : ∃ g' : Nat → Int32, g' = (fun i => if i = ((i1 &&& (3 : Int32))).toNatClampNeg then (nar .byte (((192 : Int32) + (((i0 &&& (2147483647 : Int32)) % (1114112 : Int32)) / (64 : Int32))).toInt8.toInt32)) else gf18 i) := ⟨_, rfl⟩
      rw [← hgf23] at V23
      have N23 := Fr.snoc X23 N18 fr10
      have Z023 : n0 ≤ h23.size := Nat.le_trans Z018 (Nat.le_of_eq W23.size.symm)
      refine own_step st23 ?_
      show own_Fin p e below s Q 16 128 (T23.setTop (mkF m 141 #[.val (.int i0), .val (.int i1), .val (.long j2), .second, .val (.int ((i0 &&& (2147483647 : Int32)) % (1114112 : Int32))), .val (.int (i1 &&& (3 : Int32))), .val (.ref b10)] []))
      refine own_step (fun t k => XS.aload X23.here hx rfl (hb hby at_141) rfl rfl k) ?_
      show own_Fin p e below s Q 16 128 (T23.setTop (mkF m 143 #[.val (.int i0), .val (.int i1), .val (.long j2), .second, .val (.int ((i0 &&& (2147483647 : Int32)) % (1114112 : Int32))), .val (.int (i1 &&& (3 : Int32))), .val (.ref b10)] [(.ref b10)]))
      refine own_step (fun t k => XS.iload X23.here hx rfl (hb hby at_143) rfl  k) ?_
      show own_Fin p e below s Q 16 128 (T23.setTop (mkF m 145 #[.val (.int i0), .val (.int i1), .val (.long j2), .second, .val (.int ((i0 &&& (2147483647 : Int32)) % (1114112 : Int32))), .val (.int (i1 &&& (3 : Int32))), .val (.ref b10)] [(.int (i1 &&& (3 : Int32))), (.ref b10)]))
      refine own_step (fun t k => XS.iconst X23.here hx rfl (hb hby at_145) k) ?_
      show own_Fin p e below s Q 16 128 (T23.setTop (mkF m 146 #[.val (.int i0), .val (.int i1), .val (.long j2), .second, .val (.int ((i0 &&& (2147483647 : Int32)) % (1114112 : Int32))), .val (.int (i1 &&& (3 : Int32))), .val (.ref b10)] [(.int (1 : Int32)), (.int (i1 &&& (3 : Int32))), (.ref b10)]))
      refine own_step (fun t k => XS.iadd X23.here hx rfl (hb hby at_146) rfl k) ?_
      show own_Fin p e below s Q 16 128 (T23.setTop (mkF m 147 #[.val (.int i0), .val (.int i1), .val (.long j2), .second, .val (.int ((i0 &&& (2147483647 : Int32)) % (1114112 : Int32))), .val (.int (i1 &&& (3 : Int32))), .val (.ref b10)] [(.int ((i1 &&& (3 : Int32)) + (1 : Int32))), (.ref b10)]))
      refine own_step (fun t k => XS.sipush X23.here hx rfl (hb hby at_147) k) ?_
      show own_Fin p e below s Q 16 128 (T23.setTop (mkF m 150 #[.val (.int i0), .val (.int i1), .val (.long j2), .second, .val (.int ((i0 &&& (2147483647 : Int32)) % (1114112 : Int32))), .val (.int (i1 &&& (3 : Int32))), .val (.ref b10)] [(.int (128 : Int32)), (.int ((i1 &&& (3 : Int32)) + (1 : Int32))), (.ref b10)]))
      refine own_step (fun t k => XS.iload X23.here hx rfl (hb hby at_150) rfl  k) ?_
      show own_Fin p e below s Q 16 128 (T23.setTop (mkF m 152 #[.val (.int i0), .val (.int i1), .val (.long j2), .second, .val (.int ((i0 &&& (2147483647 : Int32)) % (1114112 : Int32))), .val (.int (i1 &&& (3 : Int32))), .val (.ref b10)] [(.int ((i0 &&& (2147483647 : Int32)) % (1114112 : Int32))), (.int (128 : Int32)), (.int ((i1 &&& (3 : Int32)) + (1 : Int32))), (.ref b10)]))
      refine own_step (fun t k => XS.bipush X23.here hx rfl (hb hby at_152) k) ?_
      show own_Fin p e below s Q 16 128 (T23.setTop (mkF m 154 #[.val (.int i0), .val (.int i1), .val (.long j2), .second, .val (.int ((i0 &&& (2147483647 : Int32)) % (1114112 : Int32))), .val (.int (i1 &&& (3 : Int32))), .val (.ref b10)] [(.int (64 : Int32)), (.int ((i0 &&& (2147483647 : Int32)) % (1114112 : Int32))), (.int (128 : Int32)), (.int ((i1 &&& (3 : Int32)) + (1 : Int32))), (.ref b10)]))
      refine own_step (fun t k => XS.irem X23.here hx rfl (hb hby at_154) rfl (by decide) k) ?_
      rw [irem_eq_mod ((i0 &&& (2147483647 : Int32)) % (1114112 : Int32)) (64 : Int32)]
      show own_Fin p e below s Q 16 128 (T23.setTop (mkF m 155 #[.val (.int i0), .val (.int i1), .val (.long j2), .second, .val (.int ((i0 &&& (2147483647 : Int32)) % (1114112 : Int32))), .val (.int (i1 &&& (3 : Int32))), .val (.ref b10)] [(.int (((i0 &&& (2147483647 : Int32)) % (1114112 : Int32)) % (64 : Int32))), (.int (128 : Int32)), (.int ((i1 &&& (3 : Int32)) + (1 : Int32))), (.ref b10)]))
      refine own_step (fun t k => XS.iadd X23.here hx rfl (hb hby at_155) rfl k) ?_
      show own_Fin p e below s Q 16 128 (T23.setTop (mkF m 156 #[.val (.int i0), .val (.int i1), .val (.long j2), .second, .val (.int ((i0 &&& (2147483647 : Int32)) % (1114112 : Int32))), .val (.int (i1 &&& (3 : Int32))), .val (.ref b10)] [(.int ((128 : Int32) + (((i0 &&& (2147483647 : Int32)) % (1114112 : Int32)) % (64 : Int32)))), (.int ((i1 &&& (3 : Int32)) + (1 : Int32))), (.ref b10)]))
      refine own_step (fun t k => XS.i2b X23.here hx rfl (hb hby at_156) rfl k) ?_
      show own_Fin p e below s Q 16 128 (T23.setTop (mkF m 157 #[.val (.int i0), .val (.int i1), .val (.long j2), .second, .val (.int ((i0 &&& (2147483647 : Int32)) % (1114112 : Int32))), .val (.int (i1 &&& (3 : Int32))), .val (.ref b10)] [(.int (((128 : Int32) + (((i0 &&& (2147483647 : Int32)) % (1114112 : Int32)) % (64 : Int32))).toInt8.toInt32)), (.int ((i1 &&& (3 : Int32)) + (1 : Int32))), (.ref b10)]))
      obtain ⟨ca24, Ar24, Sz24, Ht24⟩ := id V23
      have hin24 : ¬ (((i1 &&& (3 : Int32)) + (1 : Int32)) < 0 ∨ ca24.slots.size ≤ (((i1 &&& (3 : Int32)) + (1 : Int32))).toNatClampNeg) := by rw [Sz24]; exact own_o1 i1
      obtain ⟨T24, h24, X24, e24, W24, st24⟩ := stB X23 hx hZ e23 Ar24 (j := ((i1 &&& (3 : Int32)) + (1 : Int32))) hin24 (g := (mkF m 157 #[.val (.int i0), .val (.int i1), .val (.long j2), .second, .val (.int ((i0 &&& (2147483647 : Int32)) % (1114112 : Int32))), .val (.int (i1 &&& (3 : Int32))), .val (.ref b10)] [(.int (((128 : Int32) + (((i0 &&& (2147483647 : Int32)) % (1114112 : Int32)) % (64 : Int32))).toInt8.toInt32)), (.int ((i1 &&& (3 : Int32)) + (1 : Int32))), (.ref b10)])) rfl rfl (hb hby at_157)
      have V24 : own_AF Z h24 b10 .byte 8 (fun i => if i = (((i1 &&& (3 : Int32)) + (1 : Int32))).toNatClampNeg then (nar .byte (((128 : Int32) + (((i0 &&& (2147483647 : Int32)) % (1114112 : Int32)) % (64 : Int32))).toInt8.toInt32)) else gf23 i) := own_AFset Ar24 Sz24 Ht24 W24
      obtain ⟨gf24, hgf24⟩ : ∃ g' : Nat → Int32, g' = (fun i => if i = (((i1 &&& (3 : Int32)) + (1 : Int32))).toNatClampNeg then (nar .byte (((128 : Int32) + (((i0 &&& (2147483647 : Int32)) % (1114112 : Int32)) % (64 : Int32))).toInt8.toInt32)) else gf23 i) := ⟨_, rfl⟩
      rw [← hgf24] at V24
      have N24 := Fr.snoc X24 N23 fr10
      have Z024 : n0 ≤ h24.size := Nat.le_trans Z023 (Nat.le_of_eq W24.size.symm)
      refine own_step st24 ?_
      show own_Fin p e below s Q 16 128 (T24.setTop (mkF m 158 #[.val (.int i0), .val (.int i1), .val (.long j2), .second, .val (.int ((i0 &&& (2147483647 : Int32)) % (1114112 : Int32))), .val (.int (i1 &&& (3 : Int32))), .val (.ref b10)] []))
      refine own_step (fun t k => XS.goto X24.here hx rfl (pc0 := 158) (pc' := 297) rfl (hb hby at_158) (by decide) (by decide) k) ?_
      show own_Fin p e below s Q 16 128 (T24.setTop (mkF m 297 #[.val (.int i0), .val (.int i1), .val (.long j2), .second, .val (.int ((i0 &&& (2147483647 : Int32)) % (1114112 : Int32))), .val (.int (i1 &&& (3 : Int32))), .val (.ref b10)] []))
      refine own_step (fun t k => XS.aload X24.here hx rfl (hb hby at_297) rfl rfl k) ?_
      show own_Fin p e below s Q 16 128 (T24.setTop (mkF m 299 #[.val (.int i0), .val (.int i1), .val (.long j2), .second, .val (.int ((i0 &&& (2147483647 : Int32)) % (1114112 : Int32))), .val (.int (i1 &&& (3 : Int32))), .val (.ref b10)] [(.ref b10)]))
      refine own_step (fun t k => XS.iload X24.here hx rfl (hb hby at_299) rfl  k) ?_
      show own_Fin p e below s Q 16 128 (T24.setTop (mkF m 301 #[.val (.int i0), .val (.int i1), .val (.long j2), .second, .val (.int ((i0 &&& (2147483647 : Int32)) % (1114112 : Int32))), .val (.int (i1 &&& (3 : Int32))), .val (.ref b10)] [(.int (i1 &&& (3 : Int32))), (.ref b10)]))
      obtain ⟨_, _, ⟨T25, L25, k25, n25⟩, -, X25, ⟨Lc25, hQ25, l25, y25, z25⟩, st25⟩ := Jvm.LawKit.callS X24 hx (y := (⟨"com/example/zoria/zoria/xml/XmlName", "codePointAt", "([BI)I"⟩ : MethodName)) hown (mvT hZ (hw _ (List.mem_of_getElem? (i := 3) rfl))) (mvT hZ (hw _ (List.mem_of_getElem? (i := 4) rfl))) (mvT hZ (hw _ (List.mem_of_getElem? (i := 5) rfl))) (mvT hZ (hw _ (List.mem_of_getElem? (i := 6) rfl))) (by decide) (backOf (W := 0) (rm1 l Z a0 hw [] b10 gf24 8 (i1 &&& (3 : Int32)) h24 n0 V24 (own_o0 i1) (own_o1 i1) (own_o2 i1) (own_o3 i1)) hZ (hw _ (List.mem_of_getElem? (i := 6) rfl)) (hw _ (List.mem_of_getElem? (i := 5) rfl)) (by decide) (by decide)) (g := (mkF m 301 #[.val (.int i0), .val (.int i1), .val (.long j2), .second, .val (.int ((i0 &&& (2147483647 : Int32)) % (1114112 : Int32))), .val (.int (i1 &&& (3 : Int32))), .val (.ref b10)] [(.int (i1 &&& (3 : Int32))), (.ref b10)])) rfl (by rw [hml]; rfl) (argsL := [(.ref b10), (.int (i1 &&& (3 : Int32)))]) (rest := []) (lenOf pdm_0 rfl) rfl (by show 2 * 0 + _ ≤ _; exact Nat.le_of_eq rfl) (hb hby at_301) (fun _ _ => ⟨rfl, e24, (by show cells + 1 + 0 ≤ 16; omega), (by show slots + 8 + 0 ≤ 128; omega)⟩)
      dsimp only [Pt.U, Pt.locs, Pt.cells, Pt.slots] at X25 l25 y25 z25 st25 hQ25
      have yy25 : k25 = cells + 1 + 0 := y25
      have zz25 : n25 = slots + 8 + 0 := z25
      subst l25 yy25 zz25
      obtain ⟨rfl, N25q, e25⟩ := hQ25
      have N25 := Fr.app N24 N25q
      refine own_step st25 ?_
      show own_Fin p e below s Q 16 128 (T25.setTop (mkF m 304 #[.val (.int i0), .val (.int i1), .val (.long j2), .second, .val (.int ((i0 &&& (2147483647 : Int32)) % (1114112 : Int32))), .val (.int (i1 &&& (3 : Int32))), .val (.ref b10)] [(.int (f1_0 gf24 (i1 &&& (3 : Int32))))]))
      refine own_step (fun t k => XS.iload X25.here hx rfl (hb hby at_304) rfl  k) ?_
      show own_Fin p e below s Q 16 128 (T25.setTop (mkF m 306 #[.val (.int i0), .val (.int i1), .val (.long j2), .second, .val (.int ((i0 &&& (2147483647 : Int32)) % (1114112 : Int32))), .val (.int (i1 &&& (3 : Int32))), .val (.ref b10)] [(.int ((i0 &&& (2147483647 : Int32)) % (1114112 : Int32))), (.int (f1_0 gf24 (i1 &&& (3 : Int32))))]))
      refine own_step (fun t k => XS.icmpNo X25.here hx rfl (hb hby at_306) rfl (teq (own_road2 _ _ _ _ _ hgf23 hgf24 (own_m3 i1) (by have w := own_c i0; have q104 : ¬ (((i0 &&& (2147483647 : Int32)) % (1114112 : Int32))).toInt < 128 := fun y => hB104_19 ((own_neg (128 : Int32) 128 (by decide)).mpr y); have q123 := (own_neg (2048 : Int32) 2048 (by decide)).mp hB123_22; omega))).2 k) ?_
      show own_Fin p e below s Q 16 128 (T25.setTop (mkF m 309 #[.val (.int i0), .val (.int i1), .val (.long j2), .second, .val (.int ((i0 &&& (2147483647 : Int32)) % (1114112 : Int32))), .val (.int (i1 &&& (3 : Int32))), .val (.ref b10)] []))
      refine own_step (fun t k => XS.iconst X25.here hx rfl (hb hby at_309) k) ?_
      show own_Fin p e below s Q 16 128 (T25.setTop (mkF m 310 #[.val (.int i0), .val (.int i1), .val (.long j2), .second, .val (.int ((i0 &&& (2147483647 : Int32)) % (1114112 : Int32))), .val (.int (i1 &&& (3 : Int32))), .val (.ref b10)] [(.int (1 : Int32))]))
      refine own_step (fun t k => XS.goto X25.here hx rfl (pc0 := 310) (pc' := 314) rfl (hb hby at_310) (by decide) (by decide) k) ?_
      show own_Fin p e below s Q 16 128 (T25.setTop (mkF m 314 #[.val (.int i0), .val (.int i1), .val (.long j2), .second, .val (.int ((i0 &&& (2147483647 : Int32)) % (1114112 : Int32))), .val (.int (i1 &&& (3 : Int32))), .val (.ref b10)] [(.int (1 : Int32))]))
      exact own_retN X25 hx hlk hret (by simp) (hb hby at_314) (by omega) (by omega) rfl N25 (fun L' n' => hQ _ L' n') (rfl)
    · refine own_step (fun t k => XS.icmpYes X18.here hx rfl (pc0 := 123) (pc' := 161) rfl (hb hby at_123) rfl (flt hB123_22).2.1 (by decide) (by decide) k) ?_
      show own_Fin p e below s Q 16 128 (T18.setTop (mkF m 161 #[.val (.int i0), .val (.int i1), .val (.long j2), .second, .val (.int ((i0 &&& (2147483647 : Int32)) % (1114112 : Int32))), .val (.int (i1 &&& (3 : Int32))), .val (.ref b10)] []))
      refine own_step (fun t k => XS.iload X18.here hx rfl (hb hby at_161) rfl  k) ?_
      show own_Fin p e below s Q 16 128 (T18.setTop (mkF m 163 #[.val (.int i0), .val (.int i1), .val (.long j2), .second, .val (.int ((i0 &&& (2147483647 : Int32)) % (1114112 : Int32))), .val (.int (i1 &&& (3 : Int32))), .val (.ref b10)] [(.int ((i0 &&& (2147483647 : Int32)) % (1114112 : Int32)))]))
      refine own_step (X18.ldcInt hx hown (mvT hZ (hw _ (List.mem_of_getElem? (i := 7) rfl))) (g := (mkF m 163 #[.val (.int i0), .val (.int i1), .val (.long j2), .second, .val (.int ((i0 &&& (2147483647 : Int32)) % (1114112 : Int32))), .val (.int (i1 &&& (3 : Int32))), .val (.ref b10)] [(.int ((i0 &&& (2147483647 : Int32)) % (1114112 : Int32)))])) rfl (hb hby at_163)) ?_
      show own_Fin p e below s Q 16 128 (T18.setTop (mkF m 165 #[.val (.int i0), .val (.int i1), .val (.long j2), .second, .val (.int ((i0 &&& (2147483647 : Int32)) % (1114112 : Int32))), .val (.int (i1 &&& (3 : Int32))), .val (.ref b10)] [(.int (65536 : Int32)), (.int ((i0 &&& (2147483647 : Int32)) % (1114112 : Int32)))]))
      by_cases hB165_26 : ((i0 &&& (2147483647 : Int32)) % (1114112 : Int32)) < (65536 : Int32)
      · refine own_step (fun t k => XS.icmpNo X18.here hx rfl (hb hby at_165) rfl (tlt hB165_26).2.1 k) ?_
        show own_Fin p e below s Q 16 128 (T18.setTop (mkF m 168 #[.val (.int i0), .val (.int i1), .val (.long j2), .second, .val (.int ((i0 &&& (2147483647 : Int32)) % (1114112 : Int32))), .val (.int (i1 &&& (3 : Int32))), .val (.ref b10)] []))
        refine own_step (fun t k => XS.aload X18.here hx rfl (hb hby at_168) rfl rfl k) ?_
        show own_Fin p e below s Q 16 128 (T18.setTop (mkF m 170 #[.val (.int i0), .val (.int i1), .val (.long j2), .second, .val (.int ((i0 &&& (2147483647 : Int32)) % (1114112 : Int32))), .val (.int (i1 &&& (3 : Int32))), .val (.ref b10)] [(.ref b10)]))
        refine own_step (fun t k => XS.iload X18.here hx rfl (hb hby at_170) rfl  k) ?_
        show own_Fin p e below s Q 16 128 (T18.setTop (mkF m 172 #[.val (.int i0), .val (.int i1), .val (.long j2), .second, .val (.int ((i0 &&& (2147483647 : Int32)) % (1114112 : Int32))), .val (.int (i1 &&& (3 : Int32))), .val (.ref b10)] [(.int (i1 &&& (3 : Int32))), (.ref b10)]))
        refine own_step (fun t k => XS.sipush X18.here hx rfl (hb hby at_172) k) ?_
        show own_Fin p e below s Q 16 128 (T18.setTop (mkF m 175 #[.val (.int i0), .val (.int i1), .val (.long j2), .second, .val (.int ((i0 &&& (2147483647 : Int32)) % (1114112 : Int32))), .val (.int (i1 &&& (3 : Int32))), .val (.ref b10)] [(.int (224 : Int32)), (.int (i1 &&& (3 : Int32))), (.ref b10)]))
        refine own_step (fun t k => XS.iload X18.here hx rfl (hb hby at_175) rfl  k) ?_
        show own_Fin p e below s Q 16 128 (T18.setTop (mkF m 177 #[.val (.int i0), .val (.int i1), .val (.long j2), .second, .val (.int ((i0 &&& (2147483647 : Int32)) % (1114112 : Int32))), .val (.int (i1 &&& (3 : Int32))), .val (.ref b10)] [(.int ((i0 &&& (2147483647 : Int32)) % (1114112 : Int32))), (.int (224 : Int32)), (.int (i1 &&& (3 : Int32))), (.ref b10)]))
        refine own_step (fun t k => XS.sipush X18.here hx rfl (hb hby at_177) k) ?_
        show own_Fin p e below s Q 16 128 (T18.setTop (mkF m 180 #[.val (.int i0), .val (.int i1), .val (.long j2), .second, .val (.int ((i0 &&& (2147483647 : Int32)) % (1114112 : Int32))), .val (.int (i1 &&& (3 : Int32))), .val (.ref b10)] [(.int (4096 : Int32)), (.int ((i0 &&& (2147483647 : Int32)) % (1114112 : Int32))), (.int (224 : Int32)), (.int (i1 &&& (3 : Int32))), (.ref b10)]))
        refine own_step (fun t k => XS.idiv X18.here hx rfl (hb hby at_180) rfl (by decide) k) ?_
        show own_Fin p e below s Q 16 128 (T18.setTop (mkF m 181 #[.val (.int i0), .val (.int i1), .val (.long j2), .second, .val (.int ((i0 &&& (2147483647 : Int32)) % (1114112 : Int32))), .val (.int (i1 &&& (3 : Int32))), .val (.ref b10)] [(.int (((i0 &&& (2147483647 : Int32)) % (1114112 : Int32)) / (4096 : Int32))), (.int (224 : Int32)), (.int (i1 &&& (3 : Int32))), (.ref b10)]))
        refine own_step (fun t k => XS.iadd X18.here hx rfl (hb hby at_181) rfl k) ?_
        show own_Fin p e below s Q 16 128 (T18.setTop (mkF m 182 #[.val (.int i0), .val (.int i1), .val (.long j2), .second, .val (.int ((i0 &&& (2147483647 : Int32)) % (1114112 : Int32))), .val (.int (i1 &&& (3 : Int32))), .val (.ref b10)] [(.int ((224 : Int32) + (((i0 &&& (2147483647 : Int32)) % (1114112 : Int32)) / (4096 : Int32)))), (.int (i1 &&& (3 : Int32))), (.ref b10)]))
        refine own_step (fun t k => XS.i2b X18.here hx rfl (hb hby at_182) rfl k) ?_
        show own_Fin p e below s Q 16 128 (T18.setTop (mkF m 183 #[.val (.int i0), .val (.int i1), .val (.long j2), .second, .val (.int ((i0 &&& (2147483647 : Int32)) % (1114112 : Int32))), .val (.int (i1 &&& (3 : Int32))), .val (.ref b10)] [(.int (((224 : Int32) + (((i0 &&& (2147483647 : Int32)) % (1114112 : Int32)) / (4096 : Int32))).toInt8.toInt32)), (.int (i1 &&& (3 : Int32))), (.ref b10)]))
        obtain ⟨ca27, Ar27, Sz27, Ht27⟩ := id V18
        have hin27 : ¬ ((i1 &&& (3 : Int32)) < 0 ∨ ca27.slots.size ≤ ((i1 &&& (3 : Int32))).toNatClampNeg) := by rw [Sz27]; exact own_o0 i1
        obtain ⟨T27, h27, X27, e27, W27, st27⟩ := stB X18 hx hZ e18 Ar27 (j := (i1 &&& (3 : Int32))) hin27 (g := (mkF m 183 #[.val (.int i0), .val (.int i1), .val (.long j2), .second, .val (.int ((i0 &&& (2147483647 : Int32)) % (1114112 : Int32))), .val (.int (i1 &&& (3 : Int32))), .val (.ref b10)] [(.int (((224 : Int32) + (((i0 &&& (2147483647 : Int32)) % (1114112 : Int32)) / (4096 : Int32))).toInt8.toInt32)), (.int (i1 &&& (3 : Int32))), (.ref b10)])) rfl rfl (hb hby at_183)
        have V27 : own_AF Z h27 b10 .byte 8 (fun i => if i = ((i1 &&& (3 : Int32))).toNatClampNeg then (nar .byte (((224 : Int32) + (((i0 &&& (2147483647 : Int32)) % (1114112 : Int32)) / (4096 : Int32))).toInt8.toInt32)) else gf18 i) := own_AFset Ar27 Sz27 Ht27 W27
        obtain ⟨gf27, hgf27⟩ : ∃ g' : Nat → Int32, g' = (fun i => if i = ((i1 &&& (3 : Int32))).toNatClampNeg then (nar .byte (((224 : Int32) + (((i0 &&& (2147483647 : Int32)) % (1114112 : Int32)) / (4096 : Int32))).toInt8.toInt32)) else gf18 i) := ⟨_, rfl⟩
        rw [← hgf27] at V27
        have N27 := Fr.snoc X27 N18 fr10
        have Z027 : n0 ≤ h27.size := Nat.le_trans Z018 (Nat.le_of_eq W27.size.symm)
        refine own_step st27 ?_
        show own_Fin p e below s Q 16 128 (T27.setTop (mkF m 184 #[.val (.int i0), .val (.int i1), .val (.long j2), .second, .val (.int ((i0 &&& (2147483647 : Int32)) % (1114112 : Int32))), .val (.int (i1 &&& (3 : Int32))), .val (.ref b10)] []))
        refine own_step (fun t k => XS.aload X27.here hx rfl (hb hby at_184) rfl rfl k) ?_
        show own_Fin p e below s Q 16 128 (T27.setTop (mkF m 186 #[.val (.int i0), .val (.int i1), .val (.long j2), .second, .val (.int ((i0 &&& (2147483647 : Int32)) % (1114112 : Int32))), .val (.int (i1 &&& (3 : Int32))), .val (.ref b10)] [(.ref b10)]))
        refine own_step (fun t k => XS.iload X27.here hx rfl (hb hby at_186) rfl  k) ?_
        show own_Fin p e below s Q 16 128 (T27.setTop (mkF m 188 #[.val (.int i0), .val (.int i1), .val (.long j2), .second, .val (.int ((i0 &&& (2147483647 : Int32)) % (1114112 : Int32))), .val (.int (i1 &&& (3 : Int32))), .val (.ref b10)] [(.int (i1 &&& (3 : Int32))), (.ref b10)]))
        refine own_step (fun t k => XS.iconst X27.here hx rfl (hb hby at_188) k) ?_
        show own_Fin p e below s Q 16 128 (T27.setTop (mkF m 189 #[.val (.int i0), .val (.int i1), .val (.long j2), .second, .val (.int ((i0 &&& (2147483647 : Int32)) % (1114112 : Int32))), .val (.int (i1 &&& (3 : Int32))), .val (.ref b10)] [(.int (1 : Int32)), (.int (i1 &&& (3 : Int32))), (.ref b10)]))
        refine own_step (fun t k => XS.iadd X27.here hx rfl (hb hby at_189) rfl k) ?_
        show own_Fin p e below s Q 16 128 (T27.setTop (mkF m 190 #[.val (.int i0), .val (.int i1), .val (.long j2), .second, .val (.int ((i0 &&& (2147483647 : Int32)) % (1114112 : Int32))), .val (.int (i1 &&& (3 : Int32))), .val (.ref b10)] [(.int ((i1 &&& (3 : Int32)) + (1 : Int32))), (.ref b10)]))
        refine own_step (fun t k => XS.sipush X27.here hx rfl (hb hby at_190) k) ?_
        show own_Fin p e below s Q 16 128 (T27.setTop (mkF m 193 #[.val (.int i0), .val (.int i1), .val (.long j2), .second, .val (.int ((i0 &&& (2147483647 : Int32)) % (1114112 : Int32))), .val (.int (i1 &&& (3 : Int32))), .val (.ref b10)] [(.int (128 : Int32)), (.int ((i1 &&& (3 : Int32)) + (1 : Int32))), (.ref b10)]))
        refine own_step (fun t k => XS.iload X27.here hx rfl (hb hby at_193) rfl  k) ?_
        show own_Fin p e below s Q 16 128 (T27.setTop (mkF m 195 #[.val (.int i0), .val (.int i1), .val (.long j2), .second, .val (.int ((i0 &&& (2147483647 : Int32)) % (1114112 : Int32))), .val (.int (i1 &&& (3 : Int32))), .val (.ref b10)] [(.int ((i0 &&& (2147483647 : Int32)) % (1114112 : Int32))), (.int (128 : Int32)), (.int ((i1 &&& (3 : Int32)) + (1 : Int32))), (.ref b10)]))
        refine own_step (fun t k => XS.bipush X27.here hx rfl (hb hby at_195) k) ?_
        show own_Fin p e below s Q 16 128 (T27.setTop (mkF m 197 #[.val (.int i0), .val (.int i1), .val (.long j2), .second, .val (.int ((i0 &&& (2147483647 : Int32)) % (1114112 : Int32))), .val (.int (i1 &&& (3 : Int32))), .val (.ref b10)] [(.int (64 : Int32)), (.int ((i0 &&& (2147483647 : Int32)) % (1114112 : Int32))), (.int (128 : Int32)), (.int ((i1 &&& (3 : Int32)) + (1 : Int32))), (.ref b10)]))
        refine own_step (fun t k => XS.idiv X27.here hx rfl (hb hby at_197) rfl (by decide) k) ?_
        show own_Fin p e below s Q 16 128 (T27.setTop (mkF m 198 #[.val (.int i0), .val (.int i1), .val (.long j2), .second, .val (.int ((i0 &&& (2147483647 : Int32)) % (1114112 : Int32))), .val (.int (i1 &&& (3 : Int32))), .val (.ref b10)] [(.int (((i0 &&& (2147483647 : Int32)) % (1114112 : Int32)) / (64 : Int32))), (.int (128 : Int32)), (.int ((i1 &&& (3 : Int32)) + (1 : Int32))), (.ref b10)]))
        refine own_step (fun t k => XS.bipush X27.here hx rfl (hb hby at_198) k) ?_
        show own_Fin p e below s Q 16 128 (T27.setTop (mkF m 200 #[.val (.int i0), .val (.int i1), .val (.long j2), .second, .val (.int ((i0 &&& (2147483647 : Int32)) % (1114112 : Int32))), .val (.int (i1 &&& (3 : Int32))), .val (.ref b10)] [(.int (64 : Int32)), (.int (((i0 &&& (2147483647 : Int32)) % (1114112 : Int32)) / (64 : Int32))), (.int (128 : Int32)), (.int ((i1 &&& (3 : Int32)) + (1 : Int32))), (.ref b10)]))
        refine own_step (fun t k => XS.irem X27.here hx rfl (hb hby at_200) rfl (by decide) k) ?_
        rw [irem_eq_mod (((i0 &&& (2147483647 : Int32)) % (1114112 : Int32)) / (64 : Int32)) (64 : Int32)]
        show own_Fin p e below s Q 16 128 (T27.setTop (mkF m 201 #[.val (.int i0), .val (.int i1), .val (.long j2), .second, .val (.int ((i0 &&& (2147483647 : Int32)) % (1114112 : Int32))), .val (.int (i1 &&& (3 : Int32))), .val (.ref b10)] [(.int ((((i0 &&& (2147483647 : Int32)) % (1114112 : Int32)) / (64 : Int32)) % (64 : Int32))), (.int (128 : Int32)), (.int ((i1 &&& (3 : Int32)) + (1 : Int32))), (.ref b10)]))
        refine own_step (fun t k => XS.iadd X27.here hx rfl (hb hby at_201) rfl k) ?_
        show own_Fin p e below s Q 16 128 (T27.setTop (mkF m 202 #[.val (.int i0), .val (.int i1), .val (.long j2), .second, .val (.int ((i0 &&& (2147483647 : Int32)) % (1114112 : Int32))), .val (.int (i1 &&& (3 : Int32))), .val (.ref b10)] [(.int ((128 : Int32) + ((((i0 &&& (2147483647 : Int32)) % (1114112 : Int32)) / (64 : Int32)) % (64 : Int32)))), (.int ((i1 &&& (3 : Int32)) + (1 : Int32))), (.ref b10)]))
        refine own_step (fun t k => XS.i2b X27.here hx rfl (hb hby at_202) rfl k) ?_
        show own_Fin p e below s Q 16 128 (T27.setTop (mkF m 203 #[.val (.int i0), .val (.int i1), .val (.long j2), .second, .val (.int ((i0 &&& (2147483647 : Int32)) % (1114112 : Int32))), .val (.int (i1 &&& (3 : Int32))), .val (.ref b10)] [(.int (((128 : Int32) + ((((i0 &&& (2147483647 : Int32)) % (1114112 : Int32)) / (64 : Int32)) % (64 : Int32))).toInt8.toInt32)), (.int ((i1 &&& (3 : Int32)) + (1 : Int32))), (.ref b10)]))
        obtain ⟨ca28, Ar28, Sz28, Ht28⟩ := id V27
        have hin28 : ¬ (((i1 &&& (3 : Int32)) + (1 : Int32)) < 0 ∨ ca28.slots.size ≤ (((i1 &&& (3 : Int32)) + (1 : Int32))).toNatClampNeg) := by rw [Sz28]; exact own_o1 i1
        obtain ⟨T28, h28, X28, e28, W28, st28⟩ := stB X27 hx hZ e27 Ar28 (j := ((i1 &&& (3 : Int32)) + (1 : Int32))) hin28 (g := (mkF m 203 #[.val (.int i0), .val (.int i1), .val (.long j2), .second, .val (.int ((i0 &&& (2147483647 : Int32)) % (1114112 : Int32))), .val (.int (i1 &&& (3 : Int32))), .val (.ref b10)] [(.int (((128 : Int32) + ((((i0 &&& (2147483647 : Int32)) % (1114112 : Int32)) / (64 : Int32)) % (64 : Int32))).toInt8.toInt32)), (.int ((i1 &&& (3 : Int32)) + (1 : Int32))), (.ref b10)])) rfl rfl (hb hby at_203)
        have V28 : own_AF Z h28 b10 .byte 8 (fun i => if i = (((i1 &&& (3 : Int32)) + (1 : Int32))).toNatClampNeg then (nar .byte (((128 : Int32) + ((((i0 &&& (2147483647 : Int32)) % (1114112 : Int32)) / (64 : Int32)) % (64 : Int32))).toInt8.toInt32)) else gf27 i) := own_AFset Ar28 Sz28 Ht28 W28
        obtain ⟨gf28, hgf28⟩ : ∃ g' : Nat → Int32, g' = (fun i => if i = (((i1 &&& (3 : Int32)) + (1 : Int32))).toNatClampNeg then (nar .byte (((128 : Int32) + ((((i0 &&& (2147483647 : Int32)) % (1114112 : Int32)) / (64 : Int32)) % (64 : Int32))).toInt8.toInt32)) else gf27 i) := ⟨_, rfl⟩
        rw [← hgf28] at V28
        have N28 := Fr.snoc X28 N27 fr10
        have Z028 : n0 ≤ h28.size := Nat.le_trans Z027 (Nat.le_of_eq W28.size.symm)
        refine own_step st28 ?_
        show own_Fin p e below s Q 16 128 (T28.setTop (mkF m 204 #[.val (.int i0), .val (.int i1), .val (.long j2), .second, .val (.int ((i0 &&& (2147483647 : Int32)) % (1114112 : Int32))), .val (.int (i1 &&& (3 : Int32))), .val (.ref b10)] []))
        refine own_step (fun t k => XS.aload X28.here hx rfl (hb hby at_204) rfl rfl k) ?_
        show own_Fin p e below s Q 16 128 (T28.setTop (mkF m 206 #[.val (.int i0), .val (.int i1), .val (.long j2), .second, .val (.int ((i0 &&& (2147483647 : Int32)) % (1114112 : Int32))), .val (.int (i1 &&& (3 : Int32))), .val (.ref b10)] [(.ref b10)]))
        refine own_step (fun t k => XS.iload X28.here hx rfl (hb hby at_206) rfl  k) ?_
        show own_Fin p e below s Q 16 128 (T28.setTop (mkF m 208 #[.val (.int i0), .val (.int i1), .val (.long j2), .second, .val (.int ((i0 &&& (2147483647 : Int32)) % (1114112 : Int32))), .val (.int (i1 &&& (3 : Int32))), .val (.ref b10)] [(.int (i1 &&& (3 : Int32))), (.ref b10)]))
        refine own_step (fun t k => XS.iconst X28.here hx rfl (hb hby at_208) k) ?_
        show own_Fin p e below s Q 16 128 (T28.setTop (mkF m 209 #[.val (.int i0), .val (.int i1), .val (.long j2), .second, .val (.int ((i0 &&& (2147483647 : Int32)) % (1114112 : Int32))), .val (.int (i1 &&& (3 : Int32))), .val (.ref b10)] [(.int (2 : Int32)), (.int (i1 &&& (3 : Int32))), (.ref b10)]))
        refine own_step (fun t k => XS.iadd X28.here hx rfl (hb hby at_209) rfl k) ?_
        show own_Fin p e below s Q 16 128 (T28.setTop (mkF m 210 #[.val (.int i0), .val (.int i1), .val (.long j2), .second, .val (.int ((i0 &&& (2147483647 : Int32)) % (1114112 : Int32))), .val (.int (i1 &&& (3 : Int32))), .val (.ref b10)] [(.int ((i1 &&& (3 : Int32)) + (2 : Int32))), (.ref b10)]))
        refine own_step (fun t k => XS.sipush X28.here hx rfl (hb hby at_210) k) ?_
        show own_Fin p e below s Q 16 128 (T28.setTop (mkF m 213 #[.val (.int i0), .val (.int i1), .val (.long j2), .second, .val (.int ((i0 &&& (2147483647 : Int32)) % (1114112 : Int32))), .val (.int (i1 &&& (3 : Int32))), .val (.ref b10)] [(.int (128 : Int32)), (.int ((i1 &&& (3 : Int32)) + (2 : Int32))), (.ref b10)]))
        refine own_step (fun t k => XS.iload X28.here hx rfl (hb hby at_213) rfl  k) ?_
        show own_Fin p e below s Q 16 128 (T28.setTop (mkF m 215 #[.val (.int i0), .val (.int i1), .val (.long j2), .second, .val (.int ((i0 &&& (2147483647 : Int32)) % (1114112 : Int32))), .val (.int (i1 &&& (3 : Int32))), .val (.ref b10)] [(.int ((i0 &&& (2147483647 : Int32)) % (1114112 : Int32))), (.int (128 : Int32)), (.int ((i1 &&& (3 : Int32)) + (2 : Int32))), (.ref b10)]))
        refine own_step (fun t k => XS.bipush X28.here hx rfl (hb hby at_215) k) ?_
        show own_Fin p e below s Q 16 128 (T28.setTop (mkF m 217 #[.val (.int i0), .val (.int i1), .val (.long j2), .second, .val (.int ((i0 &&& (2147483647 : Int32)) % (1114112 : Int32))), .val (.int (i1 &&& (3 : Int32))), .val (.ref b10)] [(.int (64 : Int32)), (.int ((i0 &&& (2147483647 : Int32)) % (1114112 : Int32))), (.int (128 : Int32)), (.int ((i1 &&& (3 : Int32)) + (2 : Int32))), (.ref b10)]))
        refine own_step (fun t k => XS.irem X28.here hx rfl (hb hby at_217) rfl (by decide) k) ?_
        rw [irem_eq_mod ((i0 &&& (2147483647 : Int32)) % (1114112 : Int32)) (64 : Int32)]
        show own_Fin p e below s Q 16 128 (T28.setTop (mkF m 218 #[.val (.int i0), .val (.int i1), .val (.long j2), .second, .val (.int ((i0 &&& (2147483647 : Int32)) % (1114112 : Int32))), .val (.int (i1 &&& (3 : Int32))), .val (.ref b10)] [(.int (((i0 &&& (2147483647 : Int32)) % (1114112 : Int32)) % (64 : Int32))), (.int (128 : Int32)), (.int ((i1 &&& (3 : Int32)) + (2 : Int32))), (.ref b10)]))
        refine own_step (fun t k => XS.iadd X28.here hx rfl (hb hby at_218) rfl k) ?_
        show own_Fin p e below s Q 16 128 (T28.setTop (mkF m 219 #[.val (.int i0), .val (.int i1), .val (.long j2), .second, .val (.int ((i0 &&& (2147483647 : Int32)) % (1114112 : Int32))), .val (.int (i1 &&& (3 : Int32))), .val (.ref b10)] [(.int ((128 : Int32) + (((i0 &&& (2147483647 : Int32)) % (1114112 : Int32)) % (64 : Int32)))), (.int ((i1 &&& (3 : Int32)) + (2 : Int32))), (.ref b10)]))
        refine own_step (fun t k => XS.i2b X28.here hx rfl (hb hby at_219) rfl k) ?_
        show own_Fin p e below s Q 16 128 (T28.setTop (mkF m 220 #[.val (.int i0), .val (.int i1), .val (.long j2), .second, .val (.int ((i0 &&& (2147483647 : Int32)) % (1114112 : Int32))), .val (.int (i1 &&& (3 : Int32))), .val (.ref b10)] [(.int (((128 : Int32) + (((i0 &&& (2147483647 : Int32)) % (1114112 : Int32)) % (64 : Int32))).toInt8.toInt32)), (.int ((i1 &&& (3 : Int32)) + (2 : Int32))), (.ref b10)]))
        obtain ⟨ca29, Ar29, Sz29, Ht29⟩ := id V28
        have hin29 : ¬ (((i1 &&& (3 : Int32)) + (2 : Int32)) < 0 ∨ ca29.slots.size ≤ (((i1 &&& (3 : Int32)) + (2 : Int32))).toNatClampNeg) := by rw [Sz29]; exact own_o2 i1
        obtain ⟨T29, h29, X29, e29, W29, st29⟩ := stB X28 hx hZ e28 Ar29 (j := ((i1 &&& (3 : Int32)) + (2 : Int32))) hin29 (g := (mkF m 220 #[.val (.int i0), .val (.int i1), .val (.long j2), .second, .val (.int ((i0 &&& (2147483647 : Int32)) % (1114112 : Int32))), .val (.int (i1 &&& (3 : Int32))), .val (.ref b10)] [(.int (((128 : Int32) + (((i0 &&& (2147483647 : Int32)) % (1114112 : Int32)) % (64 : Int32))).toInt8.toInt32)), (.int ((i1 &&& (3 : Int32)) + (2 : Int32))), (.ref b10)])) rfl rfl (hb hby at_220)
        have V29 : own_AF Z h29 b10 .byte 8 (fun i => if i = (((i1 &&& (3 : Int32)) + (2 : Int32))).toNatClampNeg then (nar .byte (((128 : Int32) + (((i0 &&& (2147483647 : Int32)) % (1114112 : Int32)) % (64 : Int32))).toInt8.toInt32)) else gf28 i) := own_AFset Ar29 Sz29 Ht29 W29
        obtain ⟨gf29, hgf29⟩ : ∃ g' : Nat → Int32, g' = (fun i => if i = (((i1 &&& (3 : Int32)) + (2 : Int32))).toNatClampNeg then (nar .byte (((128 : Int32) + (((i0 &&& (2147483647 : Int32)) % (1114112 : Int32)) % (64 : Int32))).toInt8.toInt32)) else gf28 i) := ⟨_, rfl⟩
        rw [← hgf29] at V29
        have N29 := Fr.snoc X29 N28 fr10
        have Z029 : n0 ≤ h29.size := Nat.le_trans Z028 (Nat.le_of_eq W29.size.symm)
        refine own_step st29 ?_
        show own_Fin p e below s Q 16 128 (T29.setTop (mkF m 221 #[.val (.int i0), .val (.int i1), .val (.long j2), .second, .val (.int ((i0 &&& (2147483647 : Int32)) % (1114112 : Int32))), .val (.int (i1 &&& (3 : Int32))), .val (.ref b10)] []))
        refine own_step (fun t k => XS.goto X29.here hx rfl (pc0 := 221) (pc' := 297) rfl (hb hby at_221) (by decide) (by decide) k) ?_
        show own_Fin p e below s Q 16 128 (T29.setTop (mkF m 297 #[.val (.int i0), .val (.int i1), .val (.long j2), .second, .val (.int ((i0 &&& (2147483647 : Int32)) % (1114112 : Int32))), .val (.int (i1 &&& (3 : Int32))), .val (.ref b10)] []))
        refine own_step (fun t k => XS.aload X29.here hx rfl (hb hby at_297) rfl rfl k) ?_
        show own_Fin p e below s Q 16 128 (T29.setTop (mkF m 299 #[.val (.int i0), .val (.int i1), .val (.long j2), .second, .val (.int ((i0 &&& (2147483647 : Int32)) % (1114112 : Int32))), .val (.int (i1 &&& (3 : Int32))), .val (.ref b10)] [(.ref b10)]))
        refine own_step (fun t k => XS.iload X29.here hx rfl (hb hby at_299) rfl  k) ?_
        show own_Fin p e below s Q 16 128 (T29.setTop (mkF m 301 #[.val (.int i0), .val (.int i1), .val (.long j2), .second, .val (.int ((i0 &&& (2147483647 : Int32)) % (1114112 : Int32))), .val (.int (i1 &&& (3 : Int32))), .val (.ref b10)] [(.int (i1 &&& (3 : Int32))), (.ref b10)]))
        obtain ⟨_, _, ⟨T30, L30, k30, n30⟩, -, X30, ⟨Lc30, hQ30, l30, y30, z30⟩, st30⟩ := Jvm.LawKit.callS X29 hx (y := (⟨"com/example/zoria/zoria/xml/XmlName", "codePointAt", "([BI)I"⟩ : MethodName)) hown (mvT hZ (hw _ (List.mem_of_getElem? (i := 3) rfl))) (mvT hZ (hw _ (List.mem_of_getElem? (i := 4) rfl))) (mvT hZ (hw _ (List.mem_of_getElem? (i := 5) rfl))) (mvT hZ (hw _ (List.mem_of_getElem? (i := 6) rfl))) (by decide) (backOf (W := 0) (rm1 l Z a0 hw [] b10 gf29 8 (i1 &&& (3 : Int32)) h29 n0 V29 (own_o0 i1) (own_o1 i1) (own_o2 i1) (own_o3 i1)) hZ (hw _ (List.mem_of_getElem? (i := 6) rfl)) (hw _ (List.mem_of_getElem? (i := 5) rfl)) (by decide) (by decide)) (g := (mkF m 301 #[.val (.int i0), .val (.int i1), .val (.long j2), .second, .val (.int ((i0 &&& (2147483647 : Int32)) % (1114112 : Int32))), .val (.int (i1 &&& (3 : Int32))), .val (.ref b10)] [(.int (i1 &&& (3 : Int32))), (.ref b10)])) rfl (by rw [hml]; rfl) (argsL := [(.ref b10), (.int (i1 &&& (3 : Int32)))]) (rest := []) (lenOf pdm_0 rfl) rfl (by show 2 * 0 + _ ≤ _; exact Nat.le_of_eq rfl) (hb hby at_301) (fun _ _ => ⟨rfl, e29, (by show cells + 1 + 0 ≤ 16; omega), (by show slots + 8 + 0 ≤ 128; omega)⟩)
        dsimp only [Pt.U, Pt.locs, Pt.cells, Pt.slots] at X30 l30 y30 z30 st30 hQ30
        have yy30 : k30 = cells + 1 + 0 := y30
        have zz30 : n30 = slots + 8 + 0 := z30
        subst l30 yy30 zz30
        obtain ⟨rfl, N30q, e30⟩ := hQ30
        have N30 := Fr.app N29 N30q
        refine own_step st30 ?_
        show own_Fin p e below s Q 16 128 (T30.setTop (mkF m 304 #[.val (.int i0), .val (.int i1), .val (.long j2), .second, .val (.int ((i0 &&& (2147483647 : Int32)) % (1114112 : Int32))), .val (.int (i1 &&& (3 : Int32))), .val (.ref b10)] [(.int (f1_0 gf29 (i1 &&& (3 : Int32))))]))
        refine own_step (fun t k => XS.iload X30.here hx rfl (hb hby at_304) rfl  k) ?_
        show own_Fin p e below s Q 16 128 (T30.setTop (mkF m 306 #[.val (.int i0), .val (.int i1), .val (.long j2), .second, .val (.int ((i0 &&& (2147483647 : Int32)) % (1114112 : Int32))), .val (.int (i1 &&& (3 : Int32))), .val (.ref b10)] [(.int ((i0 &&& (2147483647 : Int32)) % (1114112 : Int32))), (.int (f1_0 gf29 (i1 &&& (3 : Int32))))]))
        refine own_step (fun t k => XS.icmpNo X30.here hx rfl (hb hby at_306) rfl (teq (own_road3 _ _ _ _ _ _ hgf27 hgf28 hgf29 (own_m3 i1) (by have w := own_c i0; have q104 : ¬ (((i0 &&& (2147483647 : Int32)) % (1114112 : Int32))).toInt < 128 := fun y => hB104_19 ((own_neg (128 : Int32) 128 (by decide)).mpr y); have q123 : ¬ (((i0 &&& (2147483647 : Int32)) % (1114112 : Int32))).toInt < 2048 := fun y => hB123_22 ((own_neg (2048 : Int32) 2048 (by decide)).mpr y); have q165 := (own_neg (65536 : Int32) 65536 (by decide)).mp hB165_26; omega))).2 k) ?_
        show own_Fin p e below s Q 16 128 (T30.setTop (mkF m 309 #[.val (.int i0), .val (.int i1), .val (.long j2), .second, .val (.int ((i0 &&& (2147483647 : Int32)) % (1114112 : Int32))), .val (.int (i1 &&& (3 : Int32))), .val (.ref b10)] []))
        refine own_step (fun t k => XS.iconst X30.here hx rfl (hb hby at_309) k) ?_
        show own_Fin p e below s Q 16 128 (T30.setTop (mkF m 310 #[.val (.int i0), .val (.int i1), .val (.long j2), .second, .val (.int ((i0 &&& (2147483647 : Int32)) % (1114112 : Int32))), .val (.int (i1 &&& (3 : Int32))), .val (.ref b10)] [(.int (1 : Int32))]))
        refine own_step (fun t k => XS.goto X30.here hx rfl (pc0 := 310) (pc' := 314) rfl (hb hby at_310) (by decide) (by decide) k) ?_
        show own_Fin p e below s Q 16 128 (T30.setTop (mkF m 314 #[.val (.int i0), .val (.int i1), .val (.long j2), .second, .val (.int ((i0 &&& (2147483647 : Int32)) % (1114112 : Int32))), .val (.int (i1 &&& (3 : Int32))), .val (.ref b10)] [(.int (1 : Int32))]))
        exact own_retN X30 hx hlk hret (by simp) (hb hby at_314) (by omega) (by omega) rfl N30 (fun L' n' => hQ _ L' n') (rfl)
      · refine own_step (fun t k => XS.icmpYes X18.here hx rfl (pc0 := 165) (pc' := 224) rfl (hb hby at_165) rfl (flt hB165_26).2.1 (by decide) (by decide) k) ?_
        show own_Fin p e below s Q 16 128 (T18.setTop (mkF m 224 #[.val (.int i0), .val (.int i1), .val (.long j2), .second, .val (.int ((i0 &&& (2147483647 : Int32)) % (1114112 : Int32))), .val (.int (i1 &&& (3 : Int32))), .val (.ref b10)] []))
        refine own_step (fun t k => XS.aload X18.here hx rfl (hb hby at_224) rfl rfl k) ?_
        show own_Fin p e below s Q 16 128 (T18.setTop (mkF m 226 #[.val (.int i0), .val (.int i1), .val (.long j2), .second, .val (.int ((i0 &&& (2147483647 : Int32)) % (1114112 : Int32))), .val (.int (i1 &&& (3 : Int32))), .val (.ref b10)] [(.ref b10)]))
        refine own_step (fun t k => XS.iload X18.here hx rfl (hb hby at_226) rfl  k) ?_
        show own_Fin p e below s Q 16 128 (T18.setTop (mkF m 228 #[.val (.int i0), .val (.int i1), .val (.long j2), .second, .val (.int ((i0 &&& (2147483647 : Int32)) % (1114112 : Int32))), .val (.int (i1 &&& (3 : Int32))), .val (.ref b10)] [(.int (i1 &&& (3 : Int32))), (.ref b10)]))
        refine own_step (fun t k => XS.sipush X18.here hx rfl (hb hby at_228) k) ?_
        show own_Fin p e below s Q 16 128 (T18.setTop (mkF m 231 #[.val (.int i0), .val (.int i1), .val (.long j2), .second, .val (.int ((i0 &&& (2147483647 : Int32)) % (1114112 : Int32))), .val (.int (i1 &&& (3 : Int32))), .val (.ref b10)] [(.int (240 : Int32)), (.int (i1 &&& (3 : Int32))), (.ref b10)]))
        refine own_step (fun t k => XS.iload X18.here hx rfl (hb hby at_231) rfl  k) ?_
        show own_Fin p e below s Q 16 128 (T18.setTop (mkF m 233 #[.val (.int i0), .val (.int i1), .val (.long j2), .second, .val (.int ((i0 &&& (2147483647 : Int32)) % (1114112 : Int32))), .val (.int (i1 &&& (3 : Int32))), .val (.ref b10)] [(.int ((i0 &&& (2147483647 : Int32)) % (1114112 : Int32))), (.int (240 : Int32)), (.int (i1 &&& (3 : Int32))), (.ref b10)]))
        refine own_step (X18.ldcInt hx hown (mvT hZ (hw _ (List.mem_of_getElem? (i := 8) rfl))) (g := (mkF m 233 #[.val (.int i0), .val (.int i1), .val (.long j2), .second, .val (.int ((i0 &&& (2147483647 : Int32)) % (1114112 : Int32))), .val (.int (i1 &&& (3 : Int32))), .val (.ref b10)] [(.int ((i0 &&& (2147483647 : Int32)) % (1114112 : Int32))), (.int (240 : Int32)), (.int (i1 &&& (3 : Int32))), (.ref b10)])) rfl (hb hby at_233)) ?_
        show own_Fin p e below s Q 16 128 (T18.setTop (mkF m 235 #[.val (.int i0), .val (.int i1), .val (.long j2), .second, .val (.int ((i0 &&& (2147483647 : Int32)) % (1114112 : Int32))), .val (.int (i1 &&& (3 : Int32))), .val (.ref b10)] [(.int (262144 : Int32)), (.int ((i0 &&& (2147483647 : Int32)) % (1114112 : Int32))), (.int (240 : Int32)), (.int (i1 &&& (3 : Int32))), (.ref b10)]))
        refine own_step (fun t k => XS.idiv X18.here hx rfl (hb hby at_235) rfl (by decide) k) ?_
        show own_Fin p e below s Q 16 128 (T18.setTop (mkF m 236 #[.val (.int i0), .val (.int i1), .val (.long j2), .second, .val (.int ((i0 &&& (2147483647 : Int32)) % (1114112 : Int32))), .val (.int (i1 &&& (3 : Int32))), .val (.ref b10)] [(.int (((i0 &&& (2147483647 : Int32)) % (1114112 : Int32)) / (262144 : Int32))), (.int (240 : Int32)), (.int (i1 &&& (3 : Int32))), (.ref b10)]))
        refine own_step (fun t k => XS.iadd X18.here hx rfl (hb hby at_236) rfl k) ?_
        show own_Fin p e below s Q 16 128 (T18.setTop (mkF m 237 #[.val (.int i0), .val (.int i1), .val (.long j2), .second, .val (.int ((i0 &&& (2147483647 : Int32)) % (1114112 : Int32))), .val (.int (i1 &&& (3 : Int32))), .val (.ref b10)] [(.int ((240 : Int32) + (((i0 &&& (2147483647 : Int32)) % (1114112 : Int32)) / (262144 : Int32)))), (.int (i1 &&& (3 : Int32))), (.ref b10)]))
        refine own_step (fun t k => XS.i2b X18.here hx rfl (hb hby at_237) rfl k) ?_
        show own_Fin p e below s Q 16 128 (T18.setTop (mkF m 238 #[.val (.int i0), .val (.int i1), .val (.long j2), .second, .val (.int ((i0 &&& (2147483647 : Int32)) % (1114112 : Int32))), .val (.int (i1 &&& (3 : Int32))), .val (.ref b10)] [(.int (((240 : Int32) + (((i0 &&& (2147483647 : Int32)) % (1114112 : Int32)) / (262144 : Int32))).toInt8.toInt32)), (.int (i1 &&& (3 : Int32))), (.ref b10)]))
        obtain ⟨ca31, Ar31, Sz31, Ht31⟩ := id V18
        have hin31 : ¬ ((i1 &&& (3 : Int32)) < 0 ∨ ca31.slots.size ≤ ((i1 &&& (3 : Int32))).toNatClampNeg) := by rw [Sz31]; exact own_o0 i1
        obtain ⟨T31, h31, X31, e31, W31, st31⟩ := stB X18 hx hZ e18 Ar31 (j := (i1 &&& (3 : Int32))) hin31 (g := (mkF m 238 #[.val (.int i0), .val (.int i1), .val (.long j2), .second, .val (.int ((i0 &&& (2147483647 : Int32)) % (1114112 : Int32))), .val (.int (i1 &&& (3 : Int32))), .val (.ref b10)] [(.int (((240 : Int32) + (((i0 &&& (2147483647 : Int32)) % (1114112 : Int32)) / (262144 : Int32))).toInt8.toInt32)), (.int (i1 &&& (3 : Int32))), (.ref b10)])) rfl rfl (hb hby at_238)
        have V31 : own_AF Z h31 b10 .byte 8 (fun i => if i = ((i1 &&& (3 : Int32))).toNatClampNeg then (nar .byte (((240 : Int32) + (((i0 &&& (2147483647 : Int32)) % (1114112 : Int32)) / (262144 : Int32))).toInt8.toInt32)) else gf18 i) := own_AFset Ar31 Sz31 Ht31 W31
        obtain ⟨gf31, hgf31⟩ : ∃ g' : Nat → Int32, g' = (fun i => if i = ((i1 &&& (3 : Int32))).toNatClampNeg then (nar .byte (((240 : Int32) + (((i0 &&& (2147483647 : Int32)) % (1114112 : Int32)) / (262144 : Int32))).toInt8.toInt32)) else gf18 i) := ⟨_, rfl⟩
        rw [← hgf31] at V31
        have N31 := Fr.snoc X31 N18 fr10
        have Z031 : n0 ≤ h31.size := Nat.le_trans Z018 (Nat.le_of_eq W31.size.symm)
        refine own_step st31 ?_
        show own_Fin p e below s Q 16 128 (T31.setTop (mkF m 239 #[.val (.int i0), .val (.int i1), .val (.long j2), .second, .val (.int ((i0 &&& (2147483647 : Int32)) % (1114112 : Int32))), .val (.int (i1 &&& (3 : Int32))), .val (.ref b10)] []))
        refine own_step (fun t k => XS.aload X31.here hx rfl (hb hby at_239) rfl rfl k) ?_
        show own_Fin p e below s Q 16 128 (T31.setTop (mkF m 241 #[.val (.int i0), .val (.int i1), .val (.long j2), .second, .val (.int ((i0 &&& (2147483647 : Int32)) % (1114112 : Int32))), .val (.int (i1 &&& (3 : Int32))), .val (.ref b10)] [(.ref b10)]))
        refine own_step (fun t k => XS.iload X31.here hx rfl (hb hby at_241) rfl  k) ?_
        show own_Fin p e below s Q 16 128 (T31.setTop (mkF m 243 #[.val (.int i0), .val (.int i1), .val (.long j2), .second, .val (.int ((i0 &&& (2147483647 : Int32)) % (1114112 : Int32))), .val (.int (i1 &&& (3 : Int32))), .val (.ref b10)] [(.int (i1 &&& (3 : Int32))), (.ref b10)]))
        refine own_step (fun t k => XS.iconst X31.here hx rfl (hb hby at_243) k) ?_
        show own_Fin p e below s Q 16 128 (T31.setTop (mkF m 244 #[.val (.int i0), .val (.int i1), .val (.long j2), .second, .val (.int ((i0 &&& (2147483647 : Int32)) % (1114112 : Int32))), .val (.int (i1 &&& (3 : Int32))), .val (.ref b10)] [(.int (1 : Int32)), (.int (i1 &&& (3 : Int32))), (.ref b10)]))
        refine own_step (fun t k => XS.iadd X31.here hx rfl (hb hby at_244) rfl k) ?_
        show own_Fin p e below s Q 16 128 (T31.setTop (mkF m 245 #[.val (.int i0), .val (.int i1), .val (.long j2), .second, .val (.int ((i0 &&& (2147483647 : Int32)) % (1114112 : Int32))), .val (.int (i1 &&& (3 : Int32))), .val (.ref b10)] [(.int ((i1 &&& (3 : Int32)) + (1 : Int32))), (.ref b10)]))
        refine own_step (fun t k => XS.sipush X31.here hx rfl (hb hby at_245) k) ?_
        show own_Fin p e below s Q 16 128 (T31.setTop (mkF m 248 #[.val (.int i0), .val (.int i1), .val (.long j2), .second, .val (.int ((i0 &&& (2147483647 : Int32)) % (1114112 : Int32))), .val (.int (i1 &&& (3 : Int32))), .val (.ref b10)] [(.int (128 : Int32)), (.int ((i1 &&& (3 : Int32)) + (1 : Int32))), (.ref b10)]))
        refine own_step (fun t k => XS.iload X31.here hx rfl (hb hby at_248) rfl  k) ?_
        show own_Fin p e below s Q 16 128 (T31.setTop (mkF m 250 #[.val (.int i0), .val (.int i1), .val (.long j2), .second, .val (.int ((i0 &&& (2147483647 : Int32)) % (1114112 : Int32))), .val (.int (i1 &&& (3 : Int32))), .val (.ref b10)] [(.int ((i0 &&& (2147483647 : Int32)) % (1114112 : Int32))), (.int (128 : Int32)), (.int ((i1 &&& (3 : Int32)) + (1 : Int32))), (.ref b10)]))
        refine own_step (fun t k => XS.sipush X31.here hx rfl (hb hby at_250) k) ?_
        show own_Fin p e below s Q 16 128 (T31.setTop (mkF m 253 #[.val (.int i0), .val (.int i1), .val (.long j2), .second, .val (.int ((i0 &&& (2147483647 : Int32)) % (1114112 : Int32))), .val (.int (i1 &&& (3 : Int32))), .val (.ref b10)] [(.int (4096 : Int32)), (.int ((i0 &&& (2147483647 : Int32)) % (1114112 : Int32))), (.int (128 : Int32)), (.int ((i1 &&& (3 : Int32)) + (1 : Int32))), (.ref b10)]))
        refine own_step (fun t k => XS.idiv X31.here hx rfl (hb hby at_253) rfl (by decide) k) ?_
        show own_Fin p e below s Q 16 128 (T31.setTop (mkF m 254 #[.val (.int i0), .val (.int i1), .val (.long j2), .second, .val (.int ((i0 &&& (2147483647 : Int32)) % (1114112 : Int32))), .val (.int (i1 &&& (3 : Int32))), .val (.ref b10)] [(.int (((i0 &&& (2147483647 : Int32)) % (1114112 : Int32)) / (4096 : Int32))), (.int (128 : Int32)), (.int ((i1 &&& (3 : Int32)) + (1 : Int32))), (.ref b10)]))
        refine own_step (fun t k => XS.bipush X31.here hx rfl (hb hby at_254) k) ?_
        show own_Fin p e below s Q 16 128 (T31.setTop (mkF m 256 #[.val (.int i0), .val (.int i1), .val (.long j2), .second, .val (.int ((i0 &&& (2147483647 : Int32)) % (1114112 : Int32))), .val (.int (i1 &&& (3 : Int32))), .val (.ref b10)] [(.int (64 : Int32)), (.int (((i0 &&& (2147483647 : Int32)) % (1114112 : Int32)) / (4096 : Int32))), (.int (128 : Int32)), (.int ((i1 &&& (3 : Int32)) + (1 : Int32))), (.ref b10)]))
        refine own_step (fun t k => XS.irem X31.here hx rfl (hb hby at_256) rfl (by decide) k) ?_
        rw [irem_eq_mod (((i0 &&& (2147483647 : Int32)) % (1114112 : Int32)) / (4096 : Int32)) (64 : Int32)]
        show own_Fin p e below s Q 16 128 (T31.setTop (mkF m 257 #[.val (.int i0), .val (.int i1), .val (.long j2), .second, .val (.int ((i0 &&& (2147483647 : Int32)) % (1114112 : Int32))), .val (.int (i1 &&& (3 : Int32))), .val (.ref b10)] [(.int ((((i0 &&& (2147483647 : Int32)) % (1114112 : Int32)) / (4096 : Int32)) % (64 : Int32))), (.int (128 : Int32)), (.int ((i1 &&& (3 : Int32)) + (1 : Int32))), (.ref b10)]))
        refine own_step (fun t k => XS.iadd X31.here hx rfl (hb hby at_257) rfl k) ?_
        show own_Fin p e below s Q 16 128 (T31.setTop (mkF m 258 #[.val (.int i0), .val (.int i1), .val (.long j2), .second, .val (.int ((i0 &&& (2147483647 : Int32)) % (1114112 : Int32))), .val (.int (i1 &&& (3 : Int32))), .val (.ref b10)] [(.int ((128 : Int32) + ((((i0 &&& (2147483647 : Int32)) % (1114112 : Int32)) / (4096 : Int32)) % (64 : Int32)))), (.int ((i1 &&& (3 : Int32)) + (1 : Int32))), (.ref b10)]))
        refine own_step (fun t k => XS.i2b X31.here hx rfl (hb hby at_258) rfl k) ?_
        show own_Fin p e below s Q 16 128 (T31.setTop (mkF m 259 #[.val (.int i0), .val (.int i1), .val (.long j2), .second, .val (.int ((i0 &&& (2147483647 : Int32)) % (1114112 : Int32))), .val (.int (i1 &&& (3 : Int32))), .val (.ref b10)] [(.int (((128 : Int32) + ((((i0 &&& (2147483647 : Int32)) % (1114112 : Int32)) / (4096 : Int32)) % (64 : Int32))).toInt8.toInt32)), (.int ((i1 &&& (3 : Int32)) + (1 : Int32))), (.ref b10)]))
        obtain ⟨ca32, Ar32, Sz32, Ht32⟩ := id V31
        have hin32 : ¬ (((i1 &&& (3 : Int32)) + (1 : Int32)) < 0 ∨ ca32.slots.size ≤ (((i1 &&& (3 : Int32)) + (1 : Int32))).toNatClampNeg) := by rw [Sz32]; exact own_o1 i1
        obtain ⟨T32, h32, X32, e32, W32, st32⟩ := stB X31 hx hZ e31 Ar32 (j := ((i1 &&& (3 : Int32)) + (1 : Int32))) hin32 (g := (mkF m 259 #[.val (.int i0), .val (.int i1), .val (.long j2), .second, .val (.int ((i0 &&& (2147483647 : Int32)) % (1114112 : Int32))), .val (.int (i1 &&& (3 : Int32))), .val (.ref b10)] [(.int (((128 : Int32) + ((((i0 &&& (2147483647 : Int32)) % (1114112 : Int32)) / (4096 : Int32)) % (64 : Int32))).toInt8.toInt32)), (.int ((i1 &&& (3 : Int32)) + (1 : Int32))), (.ref b10)])) rfl rfl (hb hby at_259)
        have V32 : own_AF Z h32 b10 .byte 8 (fun i => if i = (((i1 &&& (3 : Int32)) + (1 : Int32))).toNatClampNeg then (nar .byte (((128 : Int32) + ((((i0 &&& (2147483647 : Int32)) % (1114112 : Int32)) / (4096 : Int32)) % (64 : Int32))).toInt8.toInt32)) else gf31 i) := own_AFset Ar32 Sz32 Ht32 W32
        obtain ⟨gf32, hgf32⟩ : ∃ g' : Nat → Int32, g' = (fun i => if i = (((i1 &&& (3 : Int32)) + (1 : Int32))).toNatClampNeg then (nar .byte (((128 : Int32) + ((((i0 &&& (2147483647 : Int32)) % (1114112 : Int32)) / (4096 : Int32)) % (64 : Int32))).toInt8.toInt32)) else gf31 i) := ⟨_, rfl⟩
        rw [← hgf32] at V32
        have N32 := Fr.snoc X32 N31 fr10
        have Z032 : n0 ≤ h32.size := Nat.le_trans Z031 (Nat.le_of_eq W32.size.symm)
        refine own_step st32 ?_
        show own_Fin p e below s Q 16 128 (T32.setTop (mkF m 260 #[.val (.int i0), .val (.int i1), .val (.long j2), .second, .val (.int ((i0 &&& (2147483647 : Int32)) % (1114112 : Int32))), .val (.int (i1 &&& (3 : Int32))), .val (.ref b10)] []))
        refine own_step (fun t k => XS.aload X32.here hx rfl (hb hby at_260) rfl rfl k) ?_
        show own_Fin p e below s Q 16 128 (T32.setTop (mkF m 262 #[.val (.int i0), .val (.int i1), .val (.long j2), .second, .val (.int ((i0 &&& (2147483647 : Int32)) % (1114112 : Int32))), .val (.int (i1 &&& (3 : Int32))), .val (.ref b10)] [(.ref b10)]))
        refine own_step (fun t k => XS.iload X32.here hx rfl (hb hby at_262) rfl  k) ?_
        show own_Fin p e below s Q 16 128 (T32.setTop (mkF m 264 #[.val (.int i0), .val (.int i1), .val (.long j2), .second, .val (.int ((i0 &&& (2147483647 : Int32)) % (1114112 : Int32))), .val (.int (i1 &&& (3 : Int32))), .val (.ref b10)] [(.int (i1 &&& (3 : Int32))), (.ref b10)]))
        refine own_step (fun t k => XS.iconst X32.here hx rfl (hb hby at_264) k) ?_
        show own_Fin p e below s Q 16 128 (T32.setTop (mkF m 265 #[.val (.int i0), .val (.int i1), .val (.long j2), .second, .val (.int ((i0 &&& (2147483647 : Int32)) % (1114112 : Int32))), .val (.int (i1 &&& (3 : Int32))), .val (.ref b10)] [(.int (2 : Int32)), (.int (i1 &&& (3 : Int32))), (.ref b10)]))
        refine own_step (fun t k => XS.iadd X32.here hx rfl (hb hby at_265) rfl k) ?_
        show own_Fin p e below s Q 16 128 (T32.setTop (mkF m 266 #[.val (.int i0), .val (.int i1), .val (.long j2), .second, .val (.int ((i0 &&& (2147483647 : Int32)) % (1114112 : Int32))), .val (.int (i1 &&& (3 : Int32))), .val (.ref b10)] [(.int ((i1 &&& (3 : Int32)) + (2 : Int32))), (.ref b10)]))
        refine own_step (fun t k => XS.sipush X32.here hx rfl (hb hby at_266) k) ?_
        show own_Fin p e below s Q 16 128 (T32.setTop (mkF m 269 #[.val (.int i0), .val (.int i1), .val (.long j2), .second, .val (.int ((i0 &&& (2147483647 : Int32)) % (1114112 : Int32))), .val (.int (i1 &&& (3 : Int32))), .val (.ref b10)] [(.int (128 : Int32)), (.int ((i1 &&& (3 : Int32)) + (2 : Int32))), (.ref b10)]))
        refine own_step (fun t k => XS.iload X32.here hx rfl (hb hby at_269) rfl  k) ?_
        show own_Fin p e below s Q 16 128 (T32.setTop (mkF m 271 #[.val (.int i0), .val (.int i1), .val (.long j2), .second, .val (.int ((i0 &&& (2147483647 : Int32)) % (1114112 : Int32))), .val (.int (i1 &&& (3 : Int32))), .val (.ref b10)] [(.int ((i0 &&& (2147483647 : Int32)) % (1114112 : Int32))), (.int (128 : Int32)), (.int ((i1 &&& (3 : Int32)) + (2 : Int32))), (.ref b10)]))
        refine own_step (fun t k => XS.bipush X32.here hx rfl (hb hby at_271) k) ?_
        show own_Fin p e below s Q 16 128 (T32.setTop (mkF m 273 #[.val (.int i0), .val (.int i1), .val (.long j2), .second, .val (.int ((i0 &&& (2147483647 : Int32)) % (1114112 : Int32))), .val (.int (i1 &&& (3 : Int32))), .val (.ref b10)] [(.int (64 : Int32)), (.int ((i0 &&& (2147483647 : Int32)) % (1114112 : Int32))), (.int (128 : Int32)), (.int ((i1 &&& (3 : Int32)) + (2 : Int32))), (.ref b10)]))
        refine own_step (fun t k => XS.idiv X32.here hx rfl (hb hby at_273) rfl (by decide) k) ?_
        show own_Fin p e below s Q 16 128 (T32.setTop (mkF m 274 #[.val (.int i0), .val (.int i1), .val (.long j2), .second, .val (.int ((i0 &&& (2147483647 : Int32)) % (1114112 : Int32))), .val (.int (i1 &&& (3 : Int32))), .val (.ref b10)] [(.int (((i0 &&& (2147483647 : Int32)) % (1114112 : Int32)) / (64 : Int32))), (.int (128 : Int32)), (.int ((i1 &&& (3 : Int32)) + (2 : Int32))), (.ref b10)]))
        refine own_step (fun t k => XS.bipush X32.here hx rfl (hb hby at_274) k) ?_
        show own_Fin p e below s Q 16 128 (T32.setTop (mkF m 276 #[.val (.int i0), .val (.int i1), .val (.long j2), .second, .val (.int ((i0 &&& (2147483647 : Int32)) % (1114112 : Int32))), .val (.int (i1 &&& (3 : Int32))), .val (.ref b10)] [(.int (64 : Int32)), (.int (((i0 &&& (2147483647 : Int32)) % (1114112 : Int32)) / (64 : Int32))), (.int (128 : Int32)), (.int ((i1 &&& (3 : Int32)) + (2 : Int32))), (.ref b10)]))
        refine own_step (fun t k => XS.irem X32.here hx rfl (hb hby at_276) rfl (by decide) k) ?_
        rw [irem_eq_mod (((i0 &&& (2147483647 : Int32)) % (1114112 : Int32)) / (64 : Int32)) (64 : Int32)]
        show own_Fin p e below s Q 16 128 (T32.setTop (mkF m 277 #[.val (.int i0), .val (.int i1), .val (.long j2), .second, .val (.int ((i0 &&& (2147483647 : Int32)) % (1114112 : Int32))), .val (.int (i1 &&& (3 : Int32))), .val (.ref b10)] [(.int ((((i0 &&& (2147483647 : Int32)) % (1114112 : Int32)) / (64 : Int32)) % (64 : Int32))), (.int (128 : Int32)), (.int ((i1 &&& (3 : Int32)) + (2 : Int32))), (.ref b10)]))
        refine own_step (fun t k => XS.iadd X32.here hx rfl (hb hby at_277) rfl k) ?_
        show own_Fin p e below s Q 16 128 (T32.setTop (mkF m 278 #[.val (.int i0), .val (.int i1), .val (.long j2), .second, .val (.int ((i0 &&& (2147483647 : Int32)) % (1114112 : Int32))), .val (.int (i1 &&& (3 : Int32))), .val (.ref b10)] [(.int ((128 : Int32) + ((((i0 &&& (2147483647 : Int32)) % (1114112 : Int32)) / (64 : Int32)) % (64 : Int32)))), (.int ((i1 &&& (3 : Int32)) + (2 : Int32))), (.ref b10)]))
        refine own_step (fun t k => XS.i2b X32.here hx rfl (hb hby at_278) rfl k) ?_
        show own_Fin p e below s Q 16 128 (T32.setTop (mkF m 279 #[.val (.int i0), .val (.int i1), .val (.long j2), .second, .val (.int ((i0 &&& (2147483647 : Int32)) % (1114112 : Int32))), .val (.int (i1 &&& (3 : Int32))), .val (.ref b10)] [(.int (((128 : Int32) + ((((i0 &&& (2147483647 : Int32)) % (1114112 : Int32)) / (64 : Int32)) % (64 : Int32))).toInt8.toInt32)), (.int ((i1 &&& (3 : Int32)) + (2 : Int32))), (.ref b10)]))
        obtain ⟨ca33, Ar33, Sz33, Ht33⟩ := id V32
        have hin33 : ¬ (((i1 &&& (3 : Int32)) + (2 : Int32)) < 0 ∨ ca33.slots.size ≤ (((i1 &&& (3 : Int32)) + (2 : Int32))).toNatClampNeg) := by rw [Sz33]; exact own_o2 i1
        obtain ⟨T33, h33, X33, e33, W33, st33⟩ := stB X32 hx hZ e32 Ar33 (j := ((i1 &&& (3 : Int32)) + (2 : Int32))) hin33 (g := (mkF m 279 #[.val (.int i0), .val (.int i1), .val (.long j2), .second, .val (.int ((i0 &&& (2147483647 : Int32)) % (1114112 : Int32))), .val (.int (i1 &&& (3 : Int32))), .val (.ref b10)] [(.int (((128 : Int32) + ((((i0 &&& (2147483647 : Int32)) % (1114112 : Int32)) / (64 : Int32)) % (64 : Int32))).toInt8.toInt32)), (.int ((i1 &&& (3 : Int32)) + (2 : Int32))), (.ref b10)])) rfl rfl (hb hby at_279)
        have V33 : own_AF Z h33 b10 .byte 8 (fun i => if i = (((i1 &&& (3 : Int32)) + (2 : Int32))).toNatClampNeg then (nar .byte (((128 : Int32) + ((((i0 &&& (2147483647 : Int32)) % (1114112 : Int32)) / (64 : Int32)) % (64 : Int32))).toInt8.toInt32)) else gf32 i) := own_AFset Ar33 Sz33 Ht33 W33
        obtain ⟨gf33, hgf33⟩ : ∃ g' : Nat → Int32, g' = (fun i => if i = (((i1 &&& (3 : Int32)) + (2 : Int32))).toNatClampNeg then (nar .byte (((128 : Int32) + ((((i0 &&& (2147483647 : Int32)) % (1114112 : Int32)) / (64 : Int32)) % (64 : Int32))).toInt8.toInt32)) else gf32 i) := ⟨_, rfl⟩
        rw [← hgf33] at V33
        have N33 := Fr.snoc X33 N32 fr10
        have Z033 : n0 ≤ h33.size := Nat.le_trans Z032 (Nat.le_of_eq W33.size.symm)
        refine own_step st33 ?_
        show own_Fin p e below s Q 16 128 (T33.setTop (mkF m 280 #[.val (.int i0), .val (.int i1), .val (.long j2), .second, .val (.int ((i0 &&& (2147483647 : Int32)) % (1114112 : Int32))), .val (.int (i1 &&& (3 : Int32))), .val (.ref b10)] []))
        refine own_step (fun t k => XS.aload X33.here hx rfl (hb hby at_280) rfl rfl k) ?_
        show own_Fin p e below s Q 16 128 (T33.setTop (mkF m 282 #[.val (.int i0), .val (.int i1), .val (.long j2), .second, .val (.int ((i0 &&& (2147483647 : Int32)) % (1114112 : Int32))), .val (.int (i1 &&& (3 : Int32))), .val (.ref b10)] [(.ref b10)]))
        refine own_step (fun t k => XS.iload X33.here hx rfl (hb hby at_282) rfl  k) ?_
        show own_Fin p e below s Q 16 128 (T33.setTop (mkF m 284 #[.val (.int i0), .val (.int i1), .val (.long j2), .second, .val (.int ((i0 &&& (2147483647 : Int32)) % (1114112 : Int32))), .val (.int (i1 &&& (3 : Int32))), .val (.ref b10)] [(.int (i1 &&& (3 : Int32))), (.ref b10)]))
        refine own_step (fun t k => XS.iconst X33.here hx rfl (hb hby at_284) k) ?_
        show own_Fin p e below s Q 16 128 (T33.setTop (mkF m 285 #[.val (.int i0), .val (.int i1), .val (.long j2), .second, .val (.int ((i0 &&& (2147483647 : Int32)) % (1114112 : Int32))), .val (.int (i1 &&& (3 : Int32))), .val (.ref b10)] [(.int (3 : Int32)), (.int (i1 &&& (3 : Int32))), (.ref b10)]))
        refine own_step (fun t k => XS.iadd X33.here hx rfl (hb hby at_285) rfl k) ?_
        show own_Fin p e below s Q 16 128 (T33.setTop (mkF m 286 #[.val (.int i0), .val (.int i1), .val (.long j2), .second, .val (.int ((i0 &&& (2147483647 : Int32)) % (1114112 : Int32))), .val (.int (i1 &&& (3 : Int32))), .val (.ref b10)] [(.int ((i1 &&& (3 : Int32)) + (3 : Int32))), (.ref b10)]))
        refine own_step (fun t k => XS.sipush X33.here hx rfl (hb hby at_286) k) ?_
        show own_Fin p e below s Q 16 128 (T33.setTop (mkF m 289 #[.val (.int i0), .val (.int i1), .val (.long j2), .second, .val (.int ((i0 &&& (2147483647 : Int32)) % (1114112 : Int32))), .val (.int (i1 &&& (3 : Int32))), .val (.ref b10)] [(.int (128 : Int32)), (.int ((i1 &&& (3 : Int32)) + (3 : Int32))), (.ref b10)]))
        refine own_step (fun t k => XS.iload X33.here hx rfl (hb hby at_289) rfl  k) ?_
        show own_Fin p e below s Q 16 128 (T33.setTop (mkF m 291 #[.val (.int i0), .val (.int i1), .val (.long j2), .second, .val (.int ((i0 &&& (2147483647 : Int32)) % (1114112 : Int32))), .val (.int (i1 &&& (3 : Int32))), .val (.ref b10)] [(.int ((i0 &&& (2147483647 : Int32)) % (1114112 : Int32))), (.int (128 : Int32)), (.int ((i1 &&& (3 : Int32)) + (3 : Int32))), (.ref b10)]))
        refine own_step (fun t k => XS.bipush X33.here hx rfl (hb hby at_291) k) ?_
        show own_Fin p e below s Q 16 128 (T33.setTop (mkF m 293 #[.val (.int i0), .val (.int i1), .val (.long j2), .second, .val (.int ((i0 &&& (2147483647 : Int32)) % (1114112 : Int32))), .val (.int (i1 &&& (3 : Int32))), .val (.ref b10)] [(.int (64 : Int32)), (.int ((i0 &&& (2147483647 : Int32)) % (1114112 : Int32))), (.int (128 : Int32)), (.int ((i1 &&& (3 : Int32)) + (3 : Int32))), (.ref b10)]))
        refine own_step (fun t k => XS.irem X33.here hx rfl (hb hby at_293) rfl (by decide) k) ?_
        rw [irem_eq_mod ((i0 &&& (2147483647 : Int32)) % (1114112 : Int32)) (64 : Int32)]
        show own_Fin p e below s Q 16 128 (T33.setTop (mkF m 294 #[.val (.int i0), .val (.int i1), .val (.long j2), .second, .val (.int ((i0 &&& (2147483647 : Int32)) % (1114112 : Int32))), .val (.int (i1 &&& (3 : Int32))), .val (.ref b10)] [(.int (((i0 &&& (2147483647 : Int32)) % (1114112 : Int32)) % (64 : Int32))), (.int (128 : Int32)), (.int ((i1 &&& (3 : Int32)) + (3 : Int32))), (.ref b10)]))
        refine own_step (fun t k => XS.iadd X33.here hx rfl (hb hby at_294) rfl k) ?_
        show own_Fin p e below s Q 16 128 (T33.setTop (mkF m 295 #[.val (.int i0), .val (.int i1), .val (.long j2), .second, .val (.int ((i0 &&& (2147483647 : Int32)) % (1114112 : Int32))), .val (.int (i1 &&& (3 : Int32))), .val (.ref b10)] [(.int ((128 : Int32) + (((i0 &&& (2147483647 : Int32)) % (1114112 : Int32)) % (64 : Int32)))), (.int ((i1 &&& (3 : Int32)) + (3 : Int32))), (.ref b10)]))
        refine own_step (fun t k => XS.i2b X33.here hx rfl (hb hby at_295) rfl k) ?_
        show own_Fin p e below s Q 16 128 (T33.setTop (mkF m 296 #[.val (.int i0), .val (.int i1), .val (.long j2), .second, .val (.int ((i0 &&& (2147483647 : Int32)) % (1114112 : Int32))), .val (.int (i1 &&& (3 : Int32))), .val (.ref b10)] [(.int (((128 : Int32) + (((i0 &&& (2147483647 : Int32)) % (1114112 : Int32)) % (64 : Int32))).toInt8.toInt32)), (.int ((i1 &&& (3 : Int32)) + (3 : Int32))), (.ref b10)]))
        obtain ⟨ca34, Ar34, Sz34, Ht34⟩ := id V33
        have hin34 : ¬ (((i1 &&& (3 : Int32)) + (3 : Int32)) < 0 ∨ ca34.slots.size ≤ (((i1 &&& (3 : Int32)) + (3 : Int32))).toNatClampNeg) := by rw [Sz34]; exact own_o3 i1
        obtain ⟨T34, h34, X34, e34, W34, st34⟩ := stB X33 hx hZ e33 Ar34 (j := ((i1 &&& (3 : Int32)) + (3 : Int32))) hin34 (g := (mkF m 296 #[.val (.int i0), .val (.int i1), .val (.long j2), .second, .val (.int ((i0 &&& (2147483647 : Int32)) % (1114112 : Int32))), .val (.int (i1 &&& (3 : Int32))), .val (.ref b10)] [(.int (((128 : Int32) + (((i0 &&& (2147483647 : Int32)) % (1114112 : Int32)) % (64 : Int32))).toInt8.toInt32)), (.int ((i1 &&& (3 : Int32)) + (3 : Int32))), (.ref b10)])) rfl rfl (hb hby at_296)
        have V34 : own_AF Z h34 b10 .byte 8 (fun i => if i = (((i1 &&& (3 : Int32)) + (3 : Int32))).toNatClampNeg then (nar .byte (((128 : Int32) + (((i0 &&& (2147483647 : Int32)) % (1114112 : Int32)) % (64 : Int32))).toInt8.toInt32)) else gf33 i) := own_AFset Ar34 Sz34 Ht34 W34
        obtain ⟨gf34, hgf34⟩ : ∃ g' : Nat → Int32, g' = (fun i => if i = (((i1 &&& (3 : Int32)) + (3 : Int32))).toNatClampNeg then (nar .byte (((128 : Int32) + (((i0 &&& (2147483647 : Int32)) % (1114112 : Int32)) % (64 : Int32))).toInt8.toInt32)) else gf33 i) := ⟨_, rfl⟩
        rw [← hgf34] at V34
        have N34 := Fr.snoc X34 N33 fr10
        have Z034 : n0 ≤ h34.size := Nat.le_trans Z033 (Nat.le_of_eq W34.size.symm)
        refine own_step st34 ?_
        show own_Fin p e below s Q 16 128 (T34.setTop (mkF m 297 #[.val (.int i0), .val (.int i1), .val (.long j2), .second, .val (.int ((i0 &&& (2147483647 : Int32)) % (1114112 : Int32))), .val (.int (i1 &&& (3 : Int32))), .val (.ref b10)] []))
        refine own_step (fun t k => XS.aload X34.here hx rfl (hb hby at_297) rfl rfl k) ?_
        show own_Fin p e below s Q 16 128 (T34.setTop (mkF m 299 #[.val (.int i0), .val (.int i1), .val (.long j2), .second, .val (.int ((i0 &&& (2147483647 : Int32)) % (1114112 : Int32))), .val (.int (i1 &&& (3 : Int32))), .val (.ref b10)] [(.ref b10)]))
        refine own_step (fun t k => XS.iload X34.here hx rfl (hb hby at_299) rfl  k) ?_
        show own_Fin p e below s Q 16 128 (T34.setTop (mkF m 301 #[.val (.int i0), .val (.int i1), .val (.long j2), .second, .val (.int ((i0 &&& (2147483647 : Int32)) % (1114112 : Int32))), .val (.int (i1 &&& (3 : Int32))), .val (.ref b10)] [(.int (i1 &&& (3 : Int32))), (.ref b10)]))
        obtain ⟨_, _, ⟨T35, L35, k35, n35⟩, -, X35, ⟨Lc35, hQ35, l35, y35, z35⟩, st35⟩ := Jvm.LawKit.callS X34 hx (y := (⟨"com/example/zoria/zoria/xml/XmlName", "codePointAt", "([BI)I"⟩ : MethodName)) hown (mvT hZ (hw _ (List.mem_of_getElem? (i := 3) rfl))) (mvT hZ (hw _ (List.mem_of_getElem? (i := 4) rfl))) (mvT hZ (hw _ (List.mem_of_getElem? (i := 5) rfl))) (mvT hZ (hw _ (List.mem_of_getElem? (i := 6) rfl))) (by decide) (backOf (W := 0) (rm1 l Z a0 hw [] b10 gf34 8 (i1 &&& (3 : Int32)) h34 n0 V34 (own_o0 i1) (own_o1 i1) (own_o2 i1) (own_o3 i1)) hZ (hw _ (List.mem_of_getElem? (i := 6) rfl)) (hw _ (List.mem_of_getElem? (i := 5) rfl)) (by decide) (by decide)) (g := (mkF m 301 #[.val (.int i0), .val (.int i1), .val (.long j2), .second, .val (.int ((i0 &&& (2147483647 : Int32)) % (1114112 : Int32))), .val (.int (i1 &&& (3 : Int32))), .val (.ref b10)] [(.int (i1 &&& (3 : Int32))), (.ref b10)])) rfl (by rw [hml]; rfl) (argsL := [(.ref b10), (.int (i1 &&& (3 : Int32)))]) (rest := []) (lenOf pdm_0 rfl) rfl (by show 2 * 0 + _ ≤ _; exact Nat.le_of_eq rfl) (hb hby at_301) (fun _ _ => ⟨rfl, e34, (by show cells + 1 + 0 ≤ 16; omega), (by show slots + 8 + 0 ≤ 128; omega)⟩)
        dsimp only [Pt.U, Pt.locs, Pt.cells, Pt.slots] at X35 l35 y35 z35 st35 hQ35
        have yy35 : k35 = cells + 1 + 0 := y35
        have zz35 : n35 = slots + 8 + 0 := z35
        subst l35 yy35 zz35
        obtain ⟨rfl, N35q, e35⟩ := hQ35
        have N35 := Fr.app N34 N35q
        refine own_step st35 ?_
        show own_Fin p e below s Q 16 128 (T35.setTop (mkF m 304 #[.val (.int i0), .val (.int i1), .val (.long j2), .second, .val (.int ((i0 &&& (2147483647 : Int32)) % (1114112 : Int32))), .val (.int (i1 &&& (3 : Int32))), .val (.ref b10)] [(.int (f1_0 gf34 (i1 &&& (3 : Int32))))]))
        refine own_step (fun t k => XS.iload X35.here hx rfl (hb hby at_304) rfl  k) ?_
        show own_Fin p e below s Q 16 128 (T35.setTop (mkF m 306 #[.val (.int i0), .val (.int i1), .val (.long j2), .second, .val (.int ((i0 &&& (2147483647 : Int32)) % (1114112 : Int32))), .val (.int (i1 &&& (3 : Int32))), .val (.ref b10)] [(.int ((i0 &&& (2147483647 : Int32)) % (1114112 : Int32))), (.int (f1_0 gf34 (i1 &&& (3 : Int32))))]))
        refine own_step (fun t k => XS.icmpNo X35.here hx rfl (hb hby at_306) rfl (teq (own_road4 _ _ _ _ _ _ _ hgf31 hgf32 hgf33 hgf34 (own_m3 i1) (by have w := own_c i0; have q104 : ¬ (((i0 &&& (2147483647 : Int32)) % (1114112 : Int32))).toInt < 128 := fun y => hB104_19 ((own_neg (128 : Int32) 128 (by decide)).mpr y); have q123 : ¬ (((i0 &&& (2147483647 : Int32)) % (1114112 : Int32))).toInt < 2048 := fun y => hB123_22 ((own_neg (2048 : Int32) 2048 (by decide)).mpr y); have q165 : ¬ (((i0 &&& (2147483647 : Int32)) % (1114112 : Int32))).toInt < 65536 := fun y => hB165_26 ((own_neg (65536 : Int32) 65536 (by decide)).mpr y); omega))).2 k) ?_
        show own_Fin p e below s Q 16 128 (T35.setTop (mkF m 309 #[.val (.int i0), .val (.int i1), .val (.long j2), .second, .val (.int ((i0 &&& (2147483647 : Int32)) % (1114112 : Int32))), .val (.int (i1 &&& (3 : Int32))), .val (.ref b10)] []))
        refine own_step (fun t k => XS.iconst X35.here hx rfl (hb hby at_309) k) ?_
        show own_Fin p e below s Q 16 128 (T35.setTop (mkF m 310 #[.val (.int i0), .val (.int i1), .val (.long j2), .second, .val (.int ((i0 &&& (2147483647 : Int32)) % (1114112 : Int32))), .val (.int (i1 &&& (3 : Int32))), .val (.ref b10)] [(.int (1 : Int32))]))
        refine own_step (fun t k => XS.goto X35.here hx rfl (pc0 := 310) (pc' := 314) rfl (hb hby at_310) (by decide) (by decide) k) ?_
        show own_Fin p e below s Q 16 128 (T35.setTop (mkF m 314 #[.val (.int i0), .val (.int i1), .val (.long j2), .second, .val (.int ((i0 &&& (2147483647 : Int32)) % (1114112 : Int32))), .val (.int (i1 &&& (3 : Int32))), .val (.ref b10)] [(.int (1 : Int32))]))
        exact own_retN X35 hx hlk hret (by simp) (hb hby at_314) (by omega) (by omega) rfl N35 (fun L' n' => hQ _ L' n') (rfl)
theorem pnm_1 : plainName "com/example/zoria/zoria/xml/XmlNameCodePointAtPinLaw" = true := by first | (simp [plainName, overriddenIn]; done) | decide +kernel
theorem pdm_1 : parseMethodDescriptor "(IIJ)Z" = some ⟨[.int, .int, .long], some .boolean⟩ := by decide +kernel
theorem ef_0 (m : MethodId) (i0 : Int32) (i1 : Int32) (j2 : Int64) : entryFrame m #[(.int i0), (.int i1), (.long j2)] maxLocals = (mkF m 0 #[.val (.int i0), .val (.int i1), .val (.long j2), .second, .unset, .unset, .unset] []) := by first | (simp [entryFrame, mkF, argsToLocals, Value.category, maxLocals]; done) | rfl
def Q0 (i0 : Int32) (i1 : Int32) (j2 : Int64) (h0 : Heap) (n0 : Nat) (v : Option Value) (h : Heap) (L : List Loc) : Prop := v = some (.int 1) ∧ Fr n0 L
set_option maxRecDepth 65536 in
set_option maxHeartbeats 4000000 in
theorem rm0 (l : Launch) (Z : State) (a0 : Array Value) (hw : ∀ d ∈ tables_1, d.before a0 Z = true) (ws : List Jvm.Cond) (i0 : Int32) (i1 : Int32) (j2 : Int64) (h0 : Heap) (n0 : Nat) (Z0 : n0 ≤ h0.size) :
    MetFree l x (head1 (Jvm.Cond.code x code maxLocals ret :: ws) room_1) (fun a U => a = #[(.int i0), (.int i1), (.long j2)] ∧ Z.Warmed39 U.vm ∧ U.heap = h0) (fun _ _ _ _ _ => True) (fun _ U o U' => ∃ v L, o = .returned v ∧ Q0 i0 i1 j2 h0 n0 v U'.heap L ∧ FrameEnd U o U' L 16 128) := by
  refine MetFree.of_bodySF (plainFor_of_name pnm_1) hisR ?_
  intro p e s m args below meth c s₁ Bd hml0 hP hK
  obtain ⟨rfl, hZ, hh⟩ := hP
  have hx := Bd.exec
  have hby := Bd.bytes
  have hml : c.maxLocals = 7 := hml0
  have hown : s.vm.findClass "com/example/zoria/zoria/xml/XmlNameCodePointAtPinLaw" = some m.cls := findClass_of_methodNamed Bd.named
  have X0 : Stand p l e room_1 s m #[(.int i0), (.int i1), (.long j2)] below meth c s₁ [] 0 0 := Stand.of_body Bd
  have e0 : s₁.heap = h0 := by rw [← hh, Bd.state]; rfl
  have fin := b0_0 i0 i1 j2 (Q := Q0 i0 i1 j2 h0 n0) hw X0 hx hZ hby hml hown Bd.returns (BodyLoose.notSynchronized Bd) e0 (Fr.nil n0) (Nat.zero_le _) (Nat.zero_le _) Z0 (fun H' L' n' => ⟨rfl, n'⟩)
  exact own_step (fun t k => castTop (ef_0 m i0 i1 j2) k) fin
set_option maxRecDepth 65536 in
set_option maxHeartbeats 40000000 in
theorem comes_1 {Post : Tables → Env → Array Value → State → Outcome → State → Prop} (hpost : ∀ tb e args s v u, (limb_1_1.after args s (.returned v) u = true ∧ limb_1_2.after args s (.returned v) u = true ∧ True) → FrameEnd s (.returned v) u (Jvm.fieldLocs frame_1_writes args s ++ Jvm.arrayLocs frame_1_arrays args s ++ Jvm.staticLocs frame_1_statics s) 16 128 → Post tb e args s (.returned v) u) :
    ArmFor flags0 classFile x code maxLocals ret World_1 tables_1 room_1 Calls_1 rest_1 Pre_1 Post := by
  intro l hfl _ _ p e ha hc hk s m args below hf hA hF happ hP
  obtain ⟨hcalls, hrest, hpre⟩ := hP
  obtain ⟨-, -, -, hnamed, -, -, -, hat⟩ := (Spec.applies_iff hf).mp happ
  obtain ⟨hg, hn⟩ := and_e (Cond.before_iff.mp (show (Jvm.Cond.and given_1 narrow_1).before args s = true from hpre))
  obtain ⟨g1, g2⟩ := and_e hg
  obtain ⟨g3, g4⟩ := and_e g2
  obtain ⟨g5, g6⟩ := and_e g4
  obtain ⟨w0, w1, w2, rfl⟩ : ∃ w0 w1 w2 : Value, args = #[w0, w1, w2] := by
    have hs : args.size = 3 := by simpa [Cond.value, given_1] using g1
    obtain ⟨L⟩ := args
    match L, hs with
    | [w0, w1, w2], _ => exact ⟨w0, w1, w2, rfl⟩
  have hw := fun d (hd : d ∈ tables_1) => atoms_spec (ws := Jvm.Cond.code x code maxLocals ret :: tables_1) hat d (List.mem_cons_of_mem _ hd)
  obtain ⟨i0, ei0⟩ := is_v g3
  obtain rfl : w0 = (.int i0) := Option.some.inj ei0
  obtain ⟨i1, ei1⟩ := is_v g5
  obtain rfl : w1 = (.int i1) := Option.some.inj ei1
  obtain ⟨i2, ei2⟩ := isL_v g6
  obtain rfl : w2 = (.long i2) := Option.some.inj ei2
  obtain ⟨n, o, h1, h2, h3, _, L, rfl, ⟨hval, N⟩, hq⟩ := rm0 l s _ hw tables_1 i0 i1 i2 s.heap s.heap.size (Nat.le_refl _) p e ha hc hk s m _ below hf ((Spec.applies_iff_loose hf).mp happ).1 ⟨rfl, State.Warmed39.refl s, rfl⟩ trivial
  subst hval
  refine ⟨n, _, h1, h2, h3, hpost _ _ _ _ _ _ ⟨Cond.after_iff.mpr rfl, Cond.after_iff.mpr (eq_i res_at (Term.int_eval (1)) rfl), trivial⟩ ⟨hq.1, hq.2.1, (hq.2.2.sift fun y hy => Or.inr (N y hy)).mono (by decide) (by decide)⟩⟩
theorem main_1_1 : Claimed_1_1 := comes_1 fun _ _ _ _ _ _ h hF => ⟨h.1, hF⟩
theorem main_1_2 : Claimed_1_2 := comes_1 fun _ _ _ _ _ _ h hF => ⟨h.2.1, hF⟩
end Jvm.Pilot.@@N@@
namespace Jvm.Pilot.@@N@@
open Jvm Jvm.ClassFile Sem Op Lib Jvm.Free Jvm.Stand Jvm.Pilot.@@N@@.Jvm.D
/-! MADE BY PROGRAM (witnessworld.py) out of the Statement's table words and the real class files: 9 classes; the members and pool entries that the words name. The judged class is class 1, her method 1. -/
namespace start1
open Jvm.ClassFile
def u (s : String) : CpInfo := .utf8 (stringToUtf16 s)
/-- a pool by its gaps: so many unusable entries, then the entry; so many at the end -/
def gap : Nat → List CpInfo → List CpInfo
  | 0, r => r
  | n + 1, r => .unusable :: gap n r
def poolList (es : List (Nat × CpInfo)) (last : Nat) : List CpInfo := es.foldr (fun e r => gap e.1 (e.2 :: r)) (gap last [])
def pool (es : List (Nat × CpInfo)) (last : Nat) : Array CpInfo := ⟨poolList es last⟩
def fileOf (pool : Array CpInfo) (this : Nat) (attrs : Array Attribute := #[]) (ms : Array MethodInfo := #[]) (fl : Nat := 33) (sup : Nat := 0) (ifs : Array Nat := #[]) (fds : Array FieldInfo := #[]) : ClassFile where
  minorVersion := 0
  majorVersion := 65
  constantPool := pool
  accessFlags := fl
  thisClass := this
  superClass := sup
  interfaces := ifs
  fields := fds
  methods := ms
  attributes := attrs
def plain (name : String) (sup : Option ClassId) : Class where
  name := name
  kind := .ordinary
  loader := none
  accessFlags := 33
  super := sup
  interfaces := #[]
  cf := none
  fields := #[]
  methods := #[]
  instanceTypes := #[]
  staticTypes := #[]
  resolved := #[]
  callSites := []
  init := .initialized
  statics := none
  mirror := none

def pool0 : Array CpInfo := pool [(5, u "<init>"), (0, u "()V"), (1, .class_ 10), (1, u "java/lang/Object")] 113

def k0m0 : Method := { name := "<init>", desc := "()V", sig := { parameters := [], returnType := none }, accessFlags := 1, code := none }
/-- java/lang/Object -/
def k0 : Class := { plain "java/lang/Object" none with
  accessFlags := 33
  interfaces := #[]
  cf := some (fileOf pool0 8 #[] #[{ accessFlags := 1, nameIndex := 5, descriptorIndex := 6, attributes := #[] }] 33 0 #[] #[])
  fields := #[]
  methods := #[k0m0]
  instanceTypes := #[]
  staticTypes := #[]
  resolved := Array.replicate 124 none
  statics := none }

def pool1 : Array CpInfo := pool [(2, .class_ 4), (1, u "java/lang/Object"), (0, u "<init>"), (0, u "()V"), (0, .integer 2147483647), (0, .integer 1114112), (0, .integer 65536), (0, .integer 262144), (0, .methodref 12 13), (0, .class_ 14), (0, .nameAndType 15 16), (0, u "com/example/zoria/zoria/xml/XmlName"), (0, u "codePointAt"), (0, u "([BI)I"), (0, .class_ 18), (0, u "com/example/zoria/zoria/xml/XmlNameCodePointAtPinLaw"), (2, u "law"), (0, u "(IIJ)Z")] 5

def k1m0 : Method := { name := "<init>", desc := "()V", sig := { parameters := [], returnType := none }, accessFlags := 1, code := none }
def k1c1 : Code := { maxStack := 5, maxLocals := 7, code := code, exceptionTable := #[], attributes := #[] }
def k1m1 : Method := { name := "law", desc := "(IIJ)Z", sig := { parameters := [.int, .int, .long], returnType := some .boolean }, accessFlags := 9, code := some k1c1 }
/-- com/example/zoria/zoria/xml/XmlNameCodePointAtPinLaw -/
def k1 : Class := { plain "com/example/zoria/zoria/xml/XmlNameCodePointAtPinLaw" (some 0) with
  accessFlags := 49
  interfaces := #[]
  cf := some (fileOf pool1 17 #[] #[{ accessFlags := 1, nameIndex := 5, descriptorIndex := 6, attributes := #[] }, { accessFlags := 9, nameIndex := 21, descriptorIndex := 22, attributes := #[] }] 49 2 #[] #[])
  fields := #[]
  methods := #[k1m0, k1m1]
  instanceTypes := #[]
  staticTypes := #[]
  resolved := Array.replicate 28 none
  statics := none }

def pool2 : Array CpInfo := pool [(2, .class_ 4), (1, u "java/lang/Object"), (0, u "<init>"), (0, u "()V"), (3, .class_ 12), (1, u "com/example/zoria/zoria/xml/XmlName"), (0, u "bindingState"), (0, u "J"), (2, u "bytes"), (0, u "[B"), (7, u "characters"), (0, u "Lcom/example/zoria/zoria/xml/TextBuffer;"), (8, u "I"), (2, u "length"), (12, u "prefix"), (8, u "Ljava/lang/String;"), (2, u "local"), (16, u "colon"), (3, u "hash"), (3, u "units"), (3, u "declares"), (3, u "Z"), (3, u "decoded"), (3, u "NAME_START"), (0, u "[Z"), (2, u "codePointAt"), (0, u "([BI)I"), (13, u "qualified"), (2, u "localByteStart"), (2, u "namesElement"), (4, u "prefixHash"), (3, u "POWERS_OF_31"), (0, u "[I"), (6, u "localNameHash"), (60, u "XMLNS_LENGTH"), (22, u "NAME_START_BITS"), (0, u "[J"), (3, u "NAME_CHAR_BITS"), (9, u "NAME_START_RANGES"), (2, u "NAME_OTHER_RANGES"), (7, u "NAME_CHAR"), (2, u "NAME_CHAR_BUT_COLON"), (9, u "SHORT_NAME_BYTES"), (2, u "NOT_QUALIFIED"), (1, u "binding")] 33

def k2m0 : Method := { name := "<init>", desc := "()V", sig := { parameters := [], returnType := none }, accessFlags := 0, code := none }
def k2c1 : Code := { maxStack := 4, maxLocals := 4, code := prog_132_method_30_code, exceptionTable := #[], attributes := #[] }
def k2m1 : Method := { name := "codePointAt", desc := "([BI)I", sig := { parameters := [(.array .byte), .int], returnType := some .int }, accessFlags := 8, code := some k2c1 }
/-- com/example/zoria/zoria/xml/XmlName -/
def k2 : Class := { plain "com/example/zoria/zoria/xml/XmlName" (some 0) with
  accessFlags := 48
  interfaces := #[]
  cf := some (fileOf pool2 10 #[] #[{ accessFlags := 0, nameIndex := 5, descriptorIndex := 6, attributes := #[] }, { accessFlags := 8, nameIndex := 109, descriptorIndex := 110, attributes := #[] }] 48 2 #[] #[{ accessFlags := 26, nameIndex := 246, descriptorIndex := 140, attributes := #[] }, { accessFlags := 26, nameIndex := 249, descriptorIndex := 140, attributes := #[] }, { accessFlags := 24, nameIndex := 231, descriptorIndex := 232, attributes := #[] }, { accessFlags := 24, nameIndex := 236, descriptorIndex := 232, attributes := #[] }, { accessFlags := 24, nameIndex := 105, descriptorIndex := 106, attributes := #[] }, { accessFlags := 24, nameIndex := 257, descriptorIndex := 106, attributes := #[] }, { accessFlags := 24, nameIndex := 260, descriptorIndex := 106, attributes := #[] }, { accessFlags := 26, nameIndex := 270, descriptorIndex := 36, attributes := #[] }, { accessFlags := 24, nameIndex := 273, descriptorIndex := 36, attributes := #[] }, { accessFlags := 24, nameIndex := 139, descriptorIndex := 140, attributes := #[] }, { accessFlags := 26, nameIndex := 208, descriptorIndex := 36, attributes := #[] }, { accessFlags := 2, nameIndex := 17, descriptorIndex := 18, attributes := #[] }, { accessFlags := 0, nameIndex := 39, descriptorIndex := 36, attributes := #[] }, { accessFlags := 0, nameIndex := 85, descriptorIndex := 36, attributes := #[] }, { accessFlags := 2, nameIndex := 89, descriptorIndex := 36, attributes := #[] }, { accessFlags := 18, nameIndex := 26, descriptorIndex := 27, attributes := #[] }, { accessFlags := 2, nameIndex := 101, descriptorIndex := 97, attributes := #[] }, { accessFlags := 2, nameIndex := 81, descriptorIndex := 36, attributes := #[] }, { accessFlags := 0, nameIndex := 124, descriptorIndex := 97, attributes := #[] }, { accessFlags := 0, nameIndex := 127, descriptorIndex := 36, attributes := #[] }, { accessFlags := 2, nameIndex := 135, descriptorIndex := 36, attributes := #[] }, { accessFlags := 2, nameIndex := 147, descriptorIndex := 36, attributes := #[] }, { accessFlags := 0, nameIndex := 93, descriptorIndex := 97, attributes := #[] }, { accessFlags := 0, nameIndex := 130, descriptorIndex := 97, attributes := #[] }, { accessFlags := 2, nameIndex := 52, descriptorIndex := 61, attributes := #[] }, { accessFlags := 2, nameIndex := 64, descriptorIndex := 61, attributes := #[] }, { accessFlags := 0, nameIndex := 275, descriptorIndex := 36, attributes := #[] }, { accessFlags := 0, nameIndex := 13, descriptorIndex := 14, attributes := #[] }])
  fields := #[{ name := "NAME_START_RANGES", type := (.array .int), accessFlags := 26, slot := 0, constantValue := 0 }, { name := "NAME_OTHER_RANGES", type := (.array .int), accessFlags := 26, slot := 1, constantValue := 0 }, { name := "NAME_START_BITS", type := (.array .long), accessFlags := 24, slot := 2, constantValue := 0 }, { name := "NAME_CHAR_BITS", type := (.array .long), accessFlags := 24, slot := 3, constantValue := 0 }, { name := "NAME_START", type := (.array .boolean), accessFlags := 24, slot := 4, constantValue := 0 }, { name := "NAME_CHAR", type := (.array .boolean), accessFlags := 24, slot := 5, constantValue := 0 }, { name := "NAME_CHAR_BUT_COLON", type := (.array .boolean), accessFlags := 24, slot := 6, constantValue := 0 }, { name := "SHORT_NAME_BYTES", type := .int, accessFlags := 26, slot := 7, constantValue := 0 }, { name := "NOT_QUALIFIED", type := .int, accessFlags := 24, slot := 8, constantValue := 0 }, { name := "POWERS_OF_31", type := (.array .int), accessFlags := 24, slot := 9, constantValue := 0 }, { name := "XMLNS_LENGTH", type := .int, accessFlags := 26, slot := 10, constantValue := 0 }, { name := "bytes", type := (.array .byte), accessFlags := 2, slot := 0, constantValue := 0 }, { name := "length", type := .int, accessFlags := 0, slot := 1, constantValue := 0 }, { name := "hash", type := .int, accessFlags := 0, slot := 2, constantValue := 0 }, { name := "units", type := .int, accessFlags := 2, slot := 3, constantValue := 0 }, { name := "characters", type := (.object "com/example/zoria/zoria/xml/TextBuffer"), accessFlags := 18, slot := 4, constantValue := 0 }, { name := "decoded", type := .boolean, accessFlags := 2, slot := 5, constantValue := 0 }, { name := "colon", type := .int, accessFlags := 2, slot := 6, constantValue := 0 }, { name := "qualified", type := .boolean, accessFlags := 0, slot := 7, constantValue := 0 }, { name := "localByteStart", type := .int, accessFlags := 0, slot := 8, constantValue := 0 }, { name := "prefixHash", type := .int, accessFlags := 2, slot := 9, constantValue := 0 }, { name := "localNameHash", type := .int, accessFlags := 2, slot := 10, constantValue := 0 }, { name := "declares", type := .boolean, accessFlags := 0, slot := 11, constantValue := 0 }, { name := "namesElement", type := .boolean, accessFlags := 0, slot := 12, constantValue := 0 }, { name := "prefix", type := (.object "java/lang/String"), accessFlags := 2, slot := 13, constantValue := 0 }, { name := "local", type := (.object "java/lang/String"), accessFlags := 2, slot := 14, constantValue := 0 }, { name := "binding", type := .int, accessFlags := 0, slot := 15, constantValue := 0 }, { name := "bindingState", type := .long, accessFlags := 0, slot := 16, constantValue := 0 }]
  methods := #[k2m0, k2m1]
  instanceTypes := #[(.array .byte), .int, .int, .int, (.object "com/example/zoria/zoria/xml/TextBuffer"), .boolean, .int, .boolean, .int, .int, .int, .boolean, .boolean, (.object "java/lang/String"), (.object "java/lang/String"), .int, .long]
  staticTypes := #[(.array .int), (.array .int), (.array .long), (.array .long), (.array .boolean), (.array .boolean), (.array .boolean), .int, .int, (.array .int), .int]
  resolved := Array.replicate 309 none
  statics := none }

def pool3 : Array CpInfo := pool [(1, u "java/lang/Cloneable"), (0, .class_ 1), (0, u "java/lang/Object"), (0, .class_ 3)] 3

/-- java/lang/Cloneable -/
def k3 : Class := { plain "java/lang/Cloneable" (some 0) with
  accessFlags := 1537
  interfaces := #[]
  cf := some (fileOf pool3 2 #[] #[] 1537 4 #[] #[])
  fields := #[]
  methods := #[]
  instanceTypes := #[]
  staticTypes := #[]
  resolved := Array.replicate 8 none
  statics := none }

def pool4 : Array CpInfo := pool [(1, u "java/io/Serializable"), (0, .class_ 1), (0, u "java/lang/Object"), (0, .class_ 3)] 3

/-- java/io/Serializable -/
def k4 : Class := { plain "java/io/Serializable" (some 0) with
  accessFlags := 1537
  interfaces := #[]
  cf := some (fileOf pool4 2 #[] #[] 1537 4 #[] #[])
  fields := #[]
  methods := #[]
  instanceTypes := #[]
  staticTypes := #[]
  resolved := Array.replicate 8 none
  statics := none }

/-- the primitive byte -/
def k5 : Class := { plain "byte" none with kind := .primitive 'B', accessFlags := 0x411 }
/-- [B -/
def k6 : Class := { plain "[B" (some 0) with kind := .array 5 .byte, interfaces := #[3, 4], accessFlags := 1041 }

/-- the primitive int -/
def k7 : Class := { plain "int" none with kind := .primitive 'I', accessFlags := 0x411 }
/-- [I -/
def k8 : Class := { plain "[I" (some 0) with kind := .array 7 .int, interfaces := #[3, 4], accessFlags := 1041 }

def heap : Heap := #[]
def classes : Array Class := #[k0, k1, k2, k3, k4, k5, k6, k7, k8]
def interned : List (Array UInt16 × Addr) := []
def slotsUsed : Nat := 0
def theMethod : MethodId := ⟨1, 1⟩
def args0 : Array Value := #[.int 5, .int 5, .long 5]
def aboutOver (below : List Frame) : State where
  vm := { classes := classes, interned := interned.toArray }
  heap := heap
  slotsUsed := slotsUsed
  threads := #[{ frames := .invoking theMethod args0 :: below }]
def below0 : List Frame := [.native { method := ⟨0, 0⟩, args := #[] }]
def about1 : State := aboutOver below0
def p0 : Program := .bare "" "" ""
def e0 : Env := launch0.env 0 0 0
theorem w_frames : about1.frames = Frame.invoking theMethod args0 :: below0 := rfl
set_option maxRecDepth 65536 in
theorem w_args : argsFit about1.vm theMethod args0 = true := by decide +kernel
set_option maxRecDepth 65536 in
theorem w_heap : heapFits about1 = true := by decide +kernel
set_option maxRecDepth 65536 in
theorem w_runnable : about1.curStatus? = some .runnable := by decide +kernel
set_option maxRecDepth 65536 in
theorem w_alone : about1.alone = true := by decide +kernel
set_option maxRecDepth 65536 in
theorem w_named : about1.methodNamed? x = some theMethod := by decide +kernel
set_option maxRecDepth 65536 in
theorem w_hears : about1.hears theMethod below0 = true := by decide +kernel
set_option maxRecDepth 65536 in
theorem w_ripe : about1.ripe theMethod args0 below0 = true := by decide +kernel
theorem w_running : about1.status = .running := rfl
set_option maxRecDepth 65536 in
theorem w_room : about1.hasRoom e0.platform room_1 = true :=
  launch0.hasRoom_least _ room_1 (by decide +kernel) (by decide +kernel) (by decide +kernel) (by decide +kernel) (by decide +kernel) (by decide +kernel)
theorem allAtoms_all (ts : List Jvm.Cond) (a : Array Jvm.Value) (st : Jvm.State) : (allAtoms ts).before a st = ts.all (fun c => c.before a st) := by
  induction ts with
  | nil => rfl
  | cons c t ih =>
    show (Jvm.Cond.and c (allAtoms t)).before a st = _
    rw [Jvm.Cond.before_and, ih, List.all_cons]
def words1 : List Jvm.Cond := Jvm.Cond.code x code maxLocals ret :: tables_1
/-- a 'code' word, met by the world's own term for the bytes: nothing is compared byte by byte -/
theorem code_word {y : MethodName} {bytes : ByteArray} {mx : Nat} {rt : Option FieldType} {a : Array Value} {s : State} {m : MethodId} {meth : Method} {c : Code} (h1 : s.methodNamed? y = some m) (h2 : s.vm.method? m = some meth) (h3 : meth.code = some c) (h4 : c.code = bytes)
    (h5 : (c.maxLocals == mx && c.exceptionTable.isEmpty && decide (c.maxStack ≤ mostOperands) && decide (meth.sig.returnType = rt) && !meth.locks && decide (parseMethodDescriptor y.desc = some meth.sig)) = true) : (Jvm.Cond.code y bytes mx rt).before a s = true := by
  simp only [Bool.and_eq_true, beq_iff_eq, Bool.not_eq_true', decide_eq_true_eq] at h5
  obtain ⟨⟨⟨⟨⟨g1, g2⟩, g3⟩, g4⟩, g5⟩, g6⟩ := h5
  simp [Cond.before, Cond.holds, Cond.value, h1, h2, h3, h4, g1, g2, g3, g4, g5, g6]
def isCode : Jvm.Cond → Bool
  | .code _ _ _ _ => true
  | _ => false
theorem all_split {L : List Jvm.Cond} {P : Jvm.Cond → Bool} (h1 : L.all (fun c => isCode c || P c) = true) (h2 : ∀ c ∈ L.filter isCode, P c = true) : L.all P = true := by
  refine List.all_eq_true.mpr fun c hc => ?_
  have h := List.all_eq_true.mp h1 c hc
  rcases Bool.eq_false_or_eq_true (isCode c) with hi | hi
  · exact h2 c (List.mem_filter.mpr ⟨hc, hi⟩)
  · simpa [hi] using h
set_option maxRecDepth 65536 in
theorem w_c0 : (Jvm.Cond.code x code maxLocals ret).before args0 about1 = true := code_word (m := ⟨1, 1⟩) (meth := k1m1) (c := k1c1) (by decide +kernel) rfl rfl rfl (by decide +kernel)
set_option maxRecDepth 65536 in
theorem w_c1 : (Jvm.Cond.code ({ cls := "com/example/zoria/zoria/xml/XmlName", name := "codePointAt", desc := "([BI)I" } : Jvm.MethodName) prog_132_method_30_code (4 : Nat) (Option.some Jvm.ClassFile.FieldType.int)).before args0 about1 = true := code_word (m := ⟨2, 1⟩) (meth := k2m1) (c := k2c1) (by decide +kernel) rfl rfl rfl (by decide +kernel)
def codes1 : List Jvm.Cond := [Jvm.Cond.code x code maxLocals ret, Jvm.Cond.code ({ cls := "com/example/zoria/zoria/xml/XmlName", name := "codePointAt", desc := "([BI)I" } : Jvm.MethodName) prog_132_method_30_code (4 : Nat) (Option.some Jvm.ClassFile.FieldType.int)]
set_option maxRecDepth 65536 in
theorem codes_eq : words1.filter isCode = codes1 := rfl
theorem w_codes : ∀ c ∈ words1.filter isCode, c.before args0 about1 = true := by
  rw [codes_eq]
  intro c hc
  simp only [codes1, List.mem_cons, List.not_mem_nil, or_false] at hc
  rcases hc with rfl | rfl
  · exact w_c0
  · exact w_c1
set_option maxRecDepth 65536 in
theorem w_t1 : words1.all (fun c => isCode c || c.before args0 about1) = true := by decide +kernel
theorem w_tables : (allAtoms (Jvm.Cond.code x code maxLocals ret :: tables_1)).before args0 about1 = true := by
  rw [allAtoms_all]
  show words1.all (fun c => c.before args0 about1) = true
  refine all_split ?_ w_codes
  rw [w_t1]
set_option maxRecDepth 65536 in
theorem w_case : (Jvm.Cond.and given_1 narrow_1).before args0 about1 = true := by decide +kernel
theorem w_applies : (headSpec (Jvm.Cond.code x code maxLocals ret :: tables_1) room_1).applies x e0.platform about1 = true :=
  (Spec.applies_iff w_frames).mpr ⟨w_running, w_runnable, w_alone, w_named, w_hears, w_ripe, w_room, w_tables⟩
theorem atStart : AtStart classFile x code maxLocals ret World_1 tables_1 room_1 Calls_1 rest_1 Pre_1 launch0 p0 e0 about1 theMethod args0 below0 :=
  ⟨lists_1, trivial, launch0.admits_env _ _ _, launch0.least_env, fairChoices_fair.cas, fairChoices_fair.clock, w_frames, w_args, w_heap, w_applies, trivial, trivial, w_case⟩
end start1
theorem witness_1 : WitnessClaimed_1 := ⟨start1.p0, start1.e0, start1.about1, start1.theMethod, start1.args0, start1.below0, start1.atStart⟩
end Jvm.Pilot.@@N@@

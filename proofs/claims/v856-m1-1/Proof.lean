import JvmDerived
import JvmDerived.Pilot.@@N@@Statement
import JvmDerived.Pilot.@@N@@Code
set_option linter.unusedVariables false
set_option linter.unusedSimpArgs false
namespace Jvm.RoadKit
open Sem ClassFile Op Lib Jvm.Stand Jvm.Free Jvm.LawKit
section New
variable {p : Program} {l : Launch} {e : Env} {R : Room} {s : State} {m : MethodId} {args : Array Value} {below : List Frame} {meth : Method} {c : Code} {T : State} {locs : List Loc} {cells slots : Nat}
theorem retI (X : Stand p l e R s m args below meth c T locs cells slots) (hx : p.tables.exec = Jvm.exec) {pc : Nat} {Ls : Array Slot} {z : Int32} {rest : List Value} (hret : meth.sig.returnType = some .int) (hd : decode c.code pc = .ok (.ireturn, 1)) {fs : List Frame}
    (hl : ∀ (f : JFrame) (acts : List Action), f.method = m → f.locked = none → f.entered = [] → (doReturn e (T.setTop f) acts (some (.int z))).1 = T.setFrames fs) : Steps p.tables e below (T.setTop (mkF m pc Ls (.int z :: rest))) (T.setFrames fs) := by
  have hm' : T.vm.method? m = some meth := X.method'
  have hn : narrow .int (.int z) = .int z := rfl
  show Steps p.tables e below (T.setTop { method := m, pc := pc, locals := Ls, stack := _ :: rest, locked := none }) _
  jvm_step X.here [X.here.top, hx, hd, hm', hret, hn]
  first | (intro acts; rw [hl _ acts rfl rfl rfl]) | rw [hl _ _ rfl rfl rfl]
  exact Steps.refl _
end New
end Jvm.RoadKit
namespace Jvm.Pilot.@@N@@
open Jvm Jvm.ClassFile Sem Op Lib Jvm.Free Jvm.Stand Jvm.LawKit Jvm.RoadKit Bundle Jvm.Pilot.@@N@@.Jvm.D
section OwnKit
variable {p : Program} {l : Launch} {e : Env} {R : Room} {s : State} {m : MethodId} {args : Array Value} {below : List Frame} {meth : Method} {c : Code} {T : State} {locs : List Loc} {cells slots : Nat}
/-- what a body owes from the state A on: it comes to its return, and what it returned, the heap and the written places satisfy Q -/
def own_Fin (p : Program) (e : Env) (below : List Frame) (s : State) (Q : Option Value → Heap → List Loc → Prop) (rc rs : Nat) (A : State) : Prop :=
  ∃ s₂ o, Steps p.tables e below A s₂ ∧ s₂.status = .running ∧ Ended s₂ below o ∧ ∃ v L, o = .returned v ∧ Q v s₂.heap L ∧ FrameEnd s o s₂ L rc rs
theorem own_step {Q : Option Value → Heap → List Loc → Prop} {rc rs : Nat} {A B : State} (k : ∀ t, Steps p.tables e below B t → Steps p.tables e below A t) (h : own_Fin p e below s Q rc rs B) : own_Fin p e below s Q rc rs A := by
  obtain ⟨s₂, o, h1, h2⟩ := h
  exact ⟨s₂, o, k _ h1, h2⟩
theorem own_retN (X : Stand p l e R s m args below meth c T locs cells slots) (hx : p.tables.exec = Jvm.exec) (hlk : meth.locks = false) {Q : Option Value → Heap → List Loc → Prop} {rc rs n0 : Nat} {h : Heap} {pc : Nat} {Ls : Array Slot} {z v : Int32} {t : FieldType} {rest : List Value} (hret : meth.sig.returnType = some t) (ht : t = .boolean ∨ t = .byte ∨ t = .char ∨ t = .short)
    (hd : decode c.code pc = .ok (.ireturn, 1)) (hc : cells ≤ rc) (hs : slots ≤ rs) (eT : T.heap = h) (N : Fr n0 locs) (hQ : ∀ L', Fr n0 L' → Q (some (.int v)) h L') (hv : v = nar t z) :
    own_Fin p e below s Q rc rs (T.setTop (mkF m pc Ls (.int z :: rest))) := by
  subst hv
  obtain ⟨fs, hr, hrun, hended, hW, hsame⟩ := X.leave (v := some (.int (nar t z))) (fun h => by rw [hret] at h; cases h) hlk
  refine ⟨_, _, retN X hx hret ht hd hr, hrun, hended, _, _, rfl, ?_, ⟨_, rfl⟩, hW, hsame.mono hc hs⟩
  show Q _ T.heap _
  rw [eT]
  exact hQ _ N
theorem own_retI (X : Stand p l e R s m args below meth c T locs cells slots) (hx : p.tables.exec = Jvm.exec) (hlk : meth.locks = false) {Q : Option Value → Heap → List Loc → Prop} {rc rs n0 : Nat} {h : Heap} {pc : Nat} {Ls : Array Slot} {z v : Int32} {rest : List Value} (hret : meth.sig.returnType = some .int)
    (hd : decode c.code pc = .ok (.ireturn, 1)) (hc : cells ≤ rc) (hs : slots ≤ rs) (eT : T.heap = h) (N : Fr n0 locs) (hQ : ∀ L', Fr n0 L' → Q (some (.int v)) h L') (hv : v = z) :
    own_Fin p e below s Q rc rs (T.setTop (mkF m pc Ls (.int z :: rest))) := by
  subst hv
  obtain ⟨fs, hr, hrun, hended, hW, hsame⟩ := X.leave (v := some (.int v)) (fun h => by rw [hret] at h; cases h) hlk
  refine ⟨_, _, retI X hx hret hd hr, hrun, hended, _, _, rfl, ?_, ⟨_, rfl⟩, hW, hsame.mono hc hs⟩
  show Q _ T.heap _
  rw [eT]
  exact hQ _ N
theorem own_ret0 (X : Stand p l e R s m args below meth c T locs cells slots) (hx : p.tables.exec = Jvm.exec) (hlk : meth.locks = false) {Q : Option Value → Heap → List Loc → Prop} {rc rs : Nat} {h : Heap} {pc : Nat} {Ls : Array Slot} (hret : meth.sig.returnType = none)
    (hd : decode c.code pc = .ok (.return_, 1)) (hc : cells ≤ rc) (hs : slots ≤ rs) (eT : T.heap = h) (hQ : Q none h locs) :
    own_Fin p e below s Q rc rs (T.setTop (mkF m pc Ls [])) := by
  obtain ⟨fs, hr, hrun, hended, hW, hsame⟩ := X.leave (v := none) (fun _ => rfl) hlk
  refine ⟨_, _, X.returnOut hx hret hd hr, hrun, hended, _, _, rfl, ?_, ⟨_, rfl⟩, hW, hsame.mono hc hs⟩
  show Q _ T.heap _
  rw [eT]
  exact hQ
end OwnKit
/-- an array of n ints (bytes, ..) at a: its i-th is g i -/
def own_AF (Z : State) (h : Heap) (a : Addr) (ty : FieldType) (n : Nat) (g : Nat → Int32) : Prop := ∃ c : Cell, Arr Z h a c ty ∧ c.slots.size = n ∧ ∀ i, i < n → c.slots[i]? = some (.int (g i))
def own_In (n : Nat) (j : Int32) : Prop := ¬ (j < 0 ∨ n ≤ j.toNatClampNeg)
theorem own_AF.lt {Z : State} {h : Heap} {a : Addr} {ty : FieldType} {n : Nat} {g : Nat → Int32} (F : own_AF Z h a ty n g) : a < h.size := by obtain ⟨c, A, -⟩ := F; exact A.lt
theorem own_AFext {Z : State} {h h' : Heap} {a : Addr} {ty : FieldType} {n : Nat} {g : Nat → Int32} (F : own_AF Z h a ty n g) (E : Ext h h') : own_AF Z h' a ty n g := by obtain ⟨c, A, r⟩ := F; exact ⟨c, A.ext E, r⟩
theorem own_AFoth {Z : State} {h h' : Heap} {a b : Addr} {sl : Nat} {v : Value} {ty : FieldType} {n : Nat} {g : Nat → Int32} (F : own_AF Z h b ty n g) (W : Wr h h' a sl v) (q : b ≠ a) : own_AF Z h' b ty n g := by obtain ⟨c, A, r⟩ := F; exact ⟨c, A.other W q, r⟩
theorem own_AFkeep {Z : State} {h h' : Heap} {a : Addr} {ws : List Addr} {ty : FieldType} {n : Nat} {g : Nat → Int32} (F : own_AF Z h a ty n g) (K : Keep h h' ws) (q : a ∉ ws) : own_AF Z h' a ty n g := by obtain ⟨c, A, r⟩ := F; exact ⟨c, ⟨K.2.1 a c A.1 q, A.2⟩, r⟩
theorem own_AFset {Z : State} {h h' : Heap} {a : Addr} {ty : FieldType} {n k : Nat} {g : Nat → Int32} {c : Cell} {x : Int32} (A : Arr Z h a c ty) (S : c.slots.size = n) (H : ∀ i, i < n → c.slots[i]? = some (.int (g i))) (W : Wr h h' a k (.int x)) : own_AF Z h' a ty n (fun i => if i = k then x else g i) := by
  obtain ⟨c', e1, e2, e3, e4, e5, e6, e7⟩ := wr_at W A.1
  refine ⟨c', ⟨e1, ?_⟩, e4.trans S, fun i hi => ?_⟩
  · rw [(e7 rfl).1]; exact A.2
  · by_cases q : i = k
    · subst q
      show c'.slots[i]? = some (.int (if i = i then x else g i))
      rw [if_pos rfl]
      exact (e7 rfl).2.1
    · show c'.slots[i]? = some (.int (if i = k then x else g i))
      rw [e6 i q, if_neg q]
      exact H i hi
theorem own_AFnew {Z : State} {h : Heap} {a : Addr} {k : ClassId} {ty : FieldType} {z : Int32} {n : Nat} (A : Arr Z h a (newA k ty z) ty) (hn : z.toNatClampNeg = n) (hd : defaultValue ty = .int 0 := by rfl) : own_AF Z h a ty n (fun _ => 0) :=
  ⟨_, A, (sz_new _ _ _).trans hn, fun i hi => by
    have hs : (newA k ty z).slots = Array.replicate z.toNatClampNeg (defaultValue ty) := rfl
    rw [hs, hn, hd]
    simp [hi]⟩
theorem own_eqi {x y : Int32} {b : Int} (h : y.toInt = b) : x = y ↔ x.toInt = b := by rw [← h]; exact Int32.toInt_inj.symm

theorem d2_0 : decode method_3_code 0 = .ok (.iload_n 0, 1) := by decide +kernel
theorem d2_1 : decode method_3_code 1 = .ok (.bipush 58, 2) := by decide +kernel
theorem d2_3 : decode method_3_code 3 = .ok (.if_icmp .lt 9, 3) := by decide +kernel
theorem d2_6 : decode method_3_code 6 = .ok (.iload_n 0, 1) := by decide +kernel
theorem d2_7 : decode method_3_code 7 = .ok (.ldc 18, 2) := by decide +kernel
theorem d2_9 : decode method_3_code 9 = .ok (.if_icmp .le 5, 3) := by decide +kernel
theorem d2_12 : decode method_3_code 12 = .ok (.iconst 0, 1) := by decide +kernel
theorem d2_13 : decode method_3_code 13 = .ok (.ireturn, 1) := by decide +kernel
theorem d2_14 : decode method_3_code 14 = .ok (.iload_n 0, 1) := by decide +kernel
theorem d2_15 : decode method_3_code 15 = .ok (.bipush 59, 2) := by decide +kernel
theorem d2_17 : decode method_3_code 17 = .ok (.if_icmp .lt 9, 3) := by decide +kernel
theorem d2_20 : decode method_3_code 20 = .ok (.iload_n 0, 1) := by decide +kernel
theorem d2_21 : decode method_3_code 21 = .ok (.bipush 64, 2) := by decide +kernel
theorem d2_23 : decode method_3_code 23 = .ok (.if_icmp .le 161, 3) := by decide +kernel
theorem d2_26 : decode method_3_code 26 = .ok (.iload_n 0, 1) := by decide +kernel
theorem d2_27 : decode method_3_code 27 = .ok (.bipush 91, 2) := by decide +kernel
theorem d2_29 : decode method_3_code 29 = .ok (.if_icmp .lt 9, 3) := by decide +kernel
theorem d2_32 : decode method_3_code 32 = .ok (.iload_n 0, 1) := by decide +kernel
theorem d2_33 : decode method_3_code 33 = .ok (.bipush 94, 2) := by decide +kernel
theorem d2_35 : decode method_3_code 35 = .ok (.if_icmp .le 149, 3) := by decide +kernel
theorem d2_38 : decode method_3_code 38 = .ok (.iload_n 0, 1) := by decide +kernel
theorem d2_39 : decode method_3_code 39 = .ok (.bipush 96, 2) := by decide +kernel
theorem d2_41 : decode method_3_code 41 = .ok (.if_icmp .eq 143, 3) := by decide +kernel
theorem d2_44 : decode method_3_code 44 = .ok (.iload_n 0, 1) := by decide +kernel
theorem d2_45 : decode method_3_code 45 = .ok (.bipush 123, 2) := by decide +kernel
theorem d2_47 : decode method_3_code 47 = .ok (.if_icmp .lt 10, 3) := by decide +kernel
theorem d2_50 : decode method_3_code 50 = .ok (.iload_n 0, 1) := by decide +kernel
theorem d2_51 : decode method_3_code 51 = .ok (.sipush 191, 3) := by decide +kernel
theorem d2_54 : decode method_3_code 54 = .ok (.if_icmp .le 130, 3) := by decide +kernel
theorem d2_57 : decode method_3_code 57 = .ok (.iload_n 0, 1) := by decide +kernel
theorem d2_58 : decode method_3_code 58 = .ok (.sipush 215, 3) := by decide +kernel
theorem d2_61 : decode method_3_code 61 = .ok (.if_icmp .eq 123, 3) := by decide +kernel
theorem d2_64 : decode method_3_code 64 = .ok (.iload_n 0, 1) := by decide +kernel
theorem d2_65 : decode method_3_code 65 = .ok (.sipush 247, 3) := by decide +kernel
theorem d2_68 : decode method_3_code 68 = .ok (.if_icmp .eq 116, 3) := by decide +kernel
theorem d2_71 : decode method_3_code 71 = .ok (.iload_n 0, 1) := by decide +kernel
theorem d2_72 : decode method_3_code 72 = .ok (.sipush 768, 3) := by decide +kernel
theorem d2_75 : decode method_3_code 75 = .ok (.if_icmp .lt 10, 3) := by decide +kernel
theorem d2_78 : decode method_3_code 78 = .ok (.iload_n 0, 1) := by decide +kernel
theorem d2_79 : decode method_3_code 79 = .ok (.sipush 879, 3) := by decide +kernel
theorem d2_82 : decode method_3_code 82 = .ok (.if_icmp .le 102, 3) := by decide +kernel
theorem d2_85 : decode method_3_code 85 = .ok (.iload_n 0, 1) := by decide +kernel
theorem d2_86 : decode method_3_code 86 = .ok (.sipush 894, 3) := by decide +kernel
theorem d2_89 : decode method_3_code 89 = .ok (.if_icmp .eq 95, 3) := by decide +kernel
theorem d2_92 : decode method_3_code 92 = .ok (.iload_n 0, 1) := by decide +kernel
theorem d2_93 : decode method_3_code 93 = .ok (.sipush 8192, 3) := by decide +kernel
theorem d2_96 : decode method_3_code 96 = .ok (.if_icmp .lt 10, 3) := by decide +kernel
theorem d2_99 : decode method_3_code 99 = .ok (.iload_n 0, 1) := by decide +kernel
theorem d2_100 : decode method_3_code 100 = .ok (.sipush 8203, 3) := by decide +kernel
theorem d2_103 : decode method_3_code 103 = .ok (.if_icmp .le 81, 3) := by decide +kernel
theorem d2_106 : decode method_3_code 106 = .ok (.iload_n 0, 1) := by decide +kernel
theorem d2_107 : decode method_3_code 107 = .ok (.sipush 8206, 3) := by decide +kernel
theorem d2_110 : decode method_3_code 110 = .ok (.if_icmp .lt 10, 3) := by decide +kernel
theorem d2_113 : decode method_3_code 113 = .ok (.iload_n 0, 1) := by decide +kernel
theorem d2_114 : decode method_3_code 114 = .ok (.sipush 8303, 3) := by decide +kernel
theorem d2_117 : decode method_3_code 117 = .ok (.if_icmp .le 67, 3) := by decide +kernel
theorem d2_120 : decode method_3_code 120 = .ok (.iload_n 0, 1) := by decide +kernel
theorem d2_121 : decode method_3_code 121 = .ok (.sipush 8592, 3) := by decide +kernel
theorem d2_124 : decode method_3_code 124 = .ok (.if_icmp .lt 10, 3) := by decide +kernel
theorem d2_127 : decode method_3_code 127 = .ok (.iload_n 0, 1) := by decide +kernel
theorem d2_128 : decode method_3_code 128 = .ok (.sipush 11263, 3) := by decide +kernel
theorem d2_131 : decode method_3_code 131 = .ok (.if_icmp .le 53, 3) := by decide +kernel
theorem d2_134 : decode method_3_code 134 = .ok (.iload_n 0, 1) := by decide +kernel
theorem d2_135 : decode method_3_code 135 = .ok (.sipush 12272, 3) := by decide +kernel
theorem d2_138 : decode method_3_code 138 = .ok (.if_icmp .lt 10, 3) := by decide +kernel
theorem d2_141 : decode method_3_code 141 = .ok (.iload_n 0, 1) := by decide +kernel
theorem d2_142 : decode method_3_code 142 = .ok (.sipush 12288, 3) := by decide +kernel
theorem d2_145 : decode method_3_code 145 = .ok (.if_icmp .le 39, 3) := by decide +kernel
theorem d2_148 : decode method_3_code 148 = .ok (.iload_n 0, 1) := by decide +kernel
theorem d2_149 : decode method_3_code 149 = .ok (.ldc 19, 2) := by decide +kernel
theorem d2_151 : decode method_3_code 151 = .ok (.if_icmp .lt 9, 3) := by decide +kernel
theorem d2_154 : decode method_3_code 154 = .ok (.iload_n 0, 1) := by decide +kernel
theorem d2_155 : decode method_3_code 155 = .ok (.ldc 20, 2) := by decide +kernel
theorem d2_157 : decode method_3_code 157 = .ok (.if_icmp .le 27, 3) := by decide +kernel
theorem d2_160 : decode method_3_code 160 = .ok (.iload_n 0, 1) := by decide +kernel
theorem d2_161 : decode method_3_code 161 = .ok (.ldc 21, 2) := by decide +kernel
theorem d2_163 : decode method_3_code 163 = .ok (.if_icmp .lt 9, 3) := by decide +kernel
theorem d2_166 : decode method_3_code 166 = .ok (.iload_n 0, 1) := by decide +kernel
theorem d2_167 : decode method_3_code 167 = .ok (.ldc 22, 2) := by decide +kernel
theorem d2_169 : decode method_3_code 169 = .ok (.if_icmp .le 15, 3) := by decide +kernel
theorem d2_172 : decode method_3_code 172 = .ok (.iload_n 0, 1) := by decide +kernel
theorem d2_173 : decode method_3_code 173 = .ok (.ldc 23, 2) := by decide +kernel
theorem d2_175 : decode method_3_code 175 = .ok (.if_icmp .lt 13, 3) := by decide +kernel
theorem d2_178 : decode method_3_code 178 = .ok (.iload_n 0, 1) := by decide +kernel
theorem d2_179 : decode method_3_code 179 = .ok (.ldc 24, 2) := by decide +kernel
theorem d2_181 : decode method_3_code 181 = .ok (.if_icmp .gt 7, 3) := by decide +kernel
theorem d2_184 : decode method_3_code 184 = .ok (.iconst 1, 1) := by decide +kernel
theorem d2_185 : decode method_3_code 185 = .ok (.goto 4, 3) := by decide +kernel
theorem d2_188 : decode method_3_code 188 = .ok (.iconst 0, 1) := by decide +kernel
theorem d2_189 : decode method_3_code 189 = .ok (.istore_n 1, 1) := by decide +kernel
theorem d2_190 : decode method_3_code 190 = .ok (.iload_n 1, 1) := by decide +kernel
theorem d2_191 : decode method_3_code 191 = .ok (.ifCond .ne 7, 3) := by decide +kernel
theorem d2_194 : decode method_3_code 194 = .ok (.iconst 1, 1) := by decide +kernel
theorem d2_195 : decode method_3_code 195 = .ok (.goto 4, 3) := by decide +kernel
theorem d2_198 : decode method_3_code 198 = .ok (.iconst 0, 1) := by decide +kernel
theorem d2_199 : decode method_3_code 199 = .ok (.ireturn, 1) := by decide +kernel
def f2_12 (i0 : Int32) : Int32 := (0 : Int32)
set_option maxRecDepth 65536 in
set_option maxHeartbeats 40000000 in
theorem b2_12 {p : Program} {l : Launch} {e : Env} {s : State} {m : MethodId} {args : Array Value} {below : List Frame} {meth : Method} {c : Code} {T : State} {locs : List Loc} {cells slots : Nat} {Z : State} {a0 : Array Value} {h : Heap} {n0 : Nat} {Q : Option Value → Heap → List Loc → Prop} (i0 : Int32) (hw : ∀ d ∈ tables_1, d.before a0 Z = true) (X : Stand p l e ({ frames := 0, cells := 0, slots := 0, locals := 0 } : Room) s m args below meth c T locs cells slots) (hx : p.tables.exec = Jvm.exec) (hZ : Z.Warmed39 s.vm) (hby : c.code = method_3_code) (hml : c.maxLocals = 2) (hown : s.vm.findClass "com/example/caddisfly/caddisfly/template/TextIsNameStartCharPinLaw" = some m.cls) (hret : meth.sig.returnType = some .boolean) (hlk : meth.locks = false) (eT : T.heap = h) (N : Fr n0 locs) (hc : cells ≤ 0) (hs : slots ≤ 0) (v : Int32) (hv : v = f2_12 i0) (hQ : ∀ L', Fr n0 L' → Q (some (.int v)) h L') :
    own_Fin p e below s Q 0 0 (T.setTop (mkF m 12 #[.val (.int i0), .unset] [])) := by
  refine own_step (fun t k => XS.iconst X.here hx rfl (hb hby d2_12) k) ?_
  show own_Fin p e below s Q 0 0 (T.setTop (mkF m 13 #[.val (.int i0), .unset] [(.int (0 : Int32))]))
  exact own_retN X hx hlk hret (by simp) (hb hby d2_13) (by omega) (by omega) eT N hQ (hv)
def f2_199 (i0 : Int32) (i1 : Int32) (is0 : Int32) : Int32 := (nar .boolean is0)
set_option maxRecDepth 65536 in
set_option maxHeartbeats 40000000 in
theorem b2_199 {p : Program} {l : Launch} {e : Env} {s : State} {m : MethodId} {args : Array Value} {below : List Frame} {meth : Method} {c : Code} {T : State} {locs : List Loc} {cells slots : Nat} {Z : State} {a0 : Array Value} {h : Heap} {n0 : Nat} {Q : Option Value → Heap → List Loc → Prop} (i0 : Int32) (i1 : Int32) (is0 : Int32) (hw : ∀ d ∈ tables_1, d.before a0 Z = true) (X : Stand p l e ({ frames := 0, cells := 0, slots := 0, locals := 0 } : Room) s m args below meth c T locs cells slots) (hx : p.tables.exec = Jvm.exec) (hZ : Z.Warmed39 s.vm) (hby : c.code = method_3_code) (hml : c.maxLocals = 2) (hown : s.vm.findClass "com/example/caddisfly/caddisfly/template/TextIsNameStartCharPinLaw" = some m.cls) (hret : meth.sig.returnType = some .boolean) (hlk : meth.locks = false) (eT : T.heap = h) (N : Fr n0 locs) (hc : cells ≤ 0) (hs : slots ≤ 0) (v : Int32) (hv : v = f2_199 i0 i1 is0) (hQ : ∀ L', Fr n0 L' → Q (some (.int v)) h L') :
    own_Fin p e below s Q 0 0 (T.setTop (mkF m 199 #[.val (.int i0), .val (.int i1)] [(.int is0)])) := by
  exact own_retN X hx hlk hret (by simp) (hb hby d2_199) (by omega) (by omega) eT N hQ (hv)
def f2_194 (i0 : Int32) (i1 : Int32) : Int32 := f2_199 i0 i1 (1 : Int32)
set_option maxRecDepth 65536 in
set_option maxHeartbeats 40000000 in
theorem b2_194 {p : Program} {l : Launch} {e : Env} {s : State} {m : MethodId} {args : Array Value} {below : List Frame} {meth : Method} {c : Code} {T : State} {locs : List Loc} {cells slots : Nat} {Z : State} {a0 : Array Value} {h : Heap} {n0 : Nat} {Q : Option Value → Heap → List Loc → Prop} (i0 : Int32) (i1 : Int32) (hw : ∀ d ∈ tables_1, d.before a0 Z = true) (X : Stand p l e ({ frames := 0, cells := 0, slots := 0, locals := 0 } : Room) s m args below meth c T locs cells slots) (hx : p.tables.exec = Jvm.exec) (hZ : Z.Warmed39 s.vm) (hby : c.code = method_3_code) (hml : c.maxLocals = 2) (hown : s.vm.findClass "com/example/caddisfly/caddisfly/template/TextIsNameStartCharPinLaw" = some m.cls) (hret : meth.sig.returnType = some .boolean) (hlk : meth.locks = false) (eT : T.heap = h) (N : Fr n0 locs) (hc : cells ≤ 0) (hs : slots ≤ 0) (v : Int32) (hv : v = f2_194 i0 i1) (hQ : ∀ L', Fr n0 L' → Q (some (.int v)) h L') :
    own_Fin p e below s Q 0 0 (T.setTop (mkF m 194 #[.val (.int i0), .val (.int i1)] [])) := by
  refine own_step (fun t k => XS.iconst X.here hx rfl (hb hby d2_194) k) ?_
  show own_Fin p e below s Q 0 0 (T.setTop (mkF m 195 #[.val (.int i0), .val (.int i1)] [(.int (1 : Int32))]))
  refine own_step (fun t k => XS.goto X.here hx rfl (pc0 := 195) (pc' := 199) rfl (hb hby d2_195) (by decide) (by decide) k) ?_
  exact b2_199 i0 i1 (1 : Int32) hw X hx hZ hby hml hown hret hlk eT N (by omega) (by omega) v (hv) hQ
def f2_198 (i0 : Int32) (i1 : Int32) : Int32 := f2_199 i0 i1 (0 : Int32)
set_option maxRecDepth 65536 in
set_option maxHeartbeats 40000000 in
theorem b2_198 {p : Program} {l : Launch} {e : Env} {s : State} {m : MethodId} {args : Array Value} {below : List Frame} {meth : Method} {c : Code} {T : State} {locs : List Loc} {cells slots : Nat} {Z : State} {a0 : Array Value} {h : Heap} {n0 : Nat} {Q : Option Value → Heap → List Loc → Prop} (i0 : Int32) (i1 : Int32) (hw : ∀ d ∈ tables_1, d.before a0 Z = true) (X : Stand p l e ({ frames := 0, cells := 0, slots := 0, locals := 0 } : Room) s m args below meth c T locs cells slots) (hx : p.tables.exec = Jvm.exec) (hZ : Z.Warmed39 s.vm) (hby : c.code = method_3_code) (hml : c.maxLocals = 2) (hown : s.vm.findClass "com/example/caddisfly/caddisfly/template/TextIsNameStartCharPinLaw" = some m.cls) (hret : meth.sig.returnType = some .boolean) (hlk : meth.locks = false) (eT : T.heap = h) (N : Fr n0 locs) (hc : cells ≤ 0) (hs : slots ≤ 0) (v : Int32) (hv : v = f2_198 i0 i1) (hQ : ∀ L', Fr n0 L' → Q (some (.int v)) h L') :
    own_Fin p e below s Q 0 0 (T.setTop (mkF m 198 #[.val (.int i0), .val (.int i1)] [])) := by
  refine own_step (fun t k => XS.iconst X.here hx rfl (hb hby d2_198) k) ?_
  exact b2_199 i0 i1 (0 : Int32) hw X hx hZ hby hml hown hret hlk eT N (by omega) (by omega) v (hv) hQ
def f2_189 (i0 : Int32) (is0 : Int32) : Int32 := if is0 = (0 : Int32) then f2_194 i0 is0 else f2_198 i0 is0
set_option maxRecDepth 65536 in
set_option maxHeartbeats 40000000 in
theorem b2_189 {p : Program} {l : Launch} {e : Env} {s : State} {m : MethodId} {args : Array Value} {below : List Frame} {meth : Method} {c : Code} {T : State} {locs : List Loc} {cells slots : Nat} {Z : State} {a0 : Array Value} {h : Heap} {n0 : Nat} {Q : Option Value → Heap → List Loc → Prop} (i0 : Int32) (is0 : Int32) (hw : ∀ d ∈ tables_1, d.before a0 Z = true) (X : Stand p l e ({ frames := 0, cells := 0, slots := 0, locals := 0 } : Room) s m args below meth c T locs cells slots) (hx : p.tables.exec = Jvm.exec) (hZ : Z.Warmed39 s.vm) (hby : c.code = method_3_code) (hml : c.maxLocals = 2) (hown : s.vm.findClass "com/example/caddisfly/caddisfly/template/TextIsNameStartCharPinLaw" = some m.cls) (hret : meth.sig.returnType = some .boolean) (hlk : meth.locks = false) (eT : T.heap = h) (N : Fr n0 locs) (hc : cells ≤ 0) (hs : slots ≤ 0) (v : Int32) (hv : v = f2_189 i0 is0) (hQ : ∀ L', Fr n0 L' → Q (some (.int v)) h L') :
    own_Fin p e below s Q 0 0 (T.setTop (mkF m 189 #[.val (.int i0), .unset] [(.int is0)])) := by
  refine own_step (fun t k => XS.istoreN X.here hx rfl (hb hby d2_189) rfl (l' := #[.val (.int i0), .val (.int is0)]) rfl k) ?_
  show own_Fin p e below s Q 0 0 (T.setTop (mkF m 190 #[.val (.int i0), .val (.int is0)] []))
  refine own_step (fun t k => XS.iloadN X.here hx rfl (hb hby d2_190) rfl  k) ?_
  show own_Fin p e below s Q 0 0 (T.setTop (mkF m 191 #[.val (.int i0), .val (.int is0)] [(.int is0)]))
  by_cases hB191_13 : is0 = (0 : Int32)
  · refine own_step (fun t k => XS.ifNo X.here hx rfl (hb hby d2_191) rfl ((if0 _ _).trans (teq hB191_13).2) k) ?_
    exact b2_194 i0 is0 hw X hx hZ hby hml hown hret hlk eT N (by omega) (by omega) v (hv.trans (if_pos hB191_13)) hQ
  · refine own_step (fun t k => XS.ifYes X.here hx rfl (pc0 := 191) (pc' := 198) rfl (hb hby d2_191) rfl ((if0 _ _).trans (feq hB191_13).2) (by decide) (by decide) k) ?_
    exact b2_198 i0 is0 hw X hx hZ hby hml hown hret hlk eT N (by omega) (by omega) v (hv.trans (if_neg hB191_13)) hQ
def f2_184 (i0 : Int32) : Int32 := f2_189 i0 (1 : Int32)
set_option maxRecDepth 65536 in
set_option maxHeartbeats 40000000 in
theorem b2_184 {p : Program} {l : Launch} {e : Env} {s : State} {m : MethodId} {args : Array Value} {below : List Frame} {meth : Method} {c : Code} {T : State} {locs : List Loc} {cells slots : Nat} {Z : State} {a0 : Array Value} {h : Heap} {n0 : Nat} {Q : Option Value → Heap → List Loc → Prop} (i0 : Int32) (hw : ∀ d ∈ tables_1, d.before a0 Z = true) (X : Stand p l e ({ frames := 0, cells := 0, slots := 0, locals := 0 } : Room) s m args below meth c T locs cells slots) (hx : p.tables.exec = Jvm.exec) (hZ : Z.Warmed39 s.vm) (hby : c.code = method_3_code) (hml : c.maxLocals = 2) (hown : s.vm.findClass "com/example/caddisfly/caddisfly/template/TextIsNameStartCharPinLaw" = some m.cls) (hret : meth.sig.returnType = some .boolean) (hlk : meth.locks = false) (eT : T.heap = h) (N : Fr n0 locs) (hc : cells ≤ 0) (hs : slots ≤ 0) (v : Int32) (hv : v = f2_184 i0) (hQ : ∀ L', Fr n0 L' → Q (some (.int v)) h L') :
    own_Fin p e below s Q 0 0 (T.setTop (mkF m 184 #[.val (.int i0), .unset] [])) := by
  refine own_step (fun t k => XS.iconst X.here hx rfl (hb hby d2_184) k) ?_
  show own_Fin p e below s Q 0 0 (T.setTop (mkF m 185 #[.val (.int i0), .unset] [(.int (1 : Int32))]))
  refine own_step (fun t k => XS.goto X.here hx rfl (pc0 := 185) (pc' := 189) rfl (hb hby d2_185) (by decide) (by decide) k) ?_
  exact b2_189 i0 (1 : Int32) hw X hx hZ hby hml hown hret hlk eT N (by omega) (by omega) v (hv) hQ
def f2_188 (i0 : Int32) : Int32 := f2_189 i0 (0 : Int32)
set_option maxRecDepth 65536 in
set_option maxHeartbeats 40000000 in
theorem b2_188 {p : Program} {l : Launch} {e : Env} {s : State} {m : MethodId} {args : Array Value} {below : List Frame} {meth : Method} {c : Code} {T : State} {locs : List Loc} {cells slots : Nat} {Z : State} {a0 : Array Value} {h : Heap} {n0 : Nat} {Q : Option Value → Heap → List Loc → Prop} (i0 : Int32) (hw : ∀ d ∈ tables_1, d.before a0 Z = true) (X : Stand p l e ({ frames := 0, cells := 0, slots := 0, locals := 0 } : Room) s m args below meth c T locs cells slots) (hx : p.tables.exec = Jvm.exec) (hZ : Z.Warmed39 s.vm) (hby : c.code = method_3_code) (hml : c.maxLocals = 2) (hown : s.vm.findClass "com/example/caddisfly/caddisfly/template/TextIsNameStartCharPinLaw" = some m.cls) (hret : meth.sig.returnType = some .boolean) (hlk : meth.locks = false) (eT : T.heap = h) (N : Fr n0 locs) (hc : cells ≤ 0) (hs : slots ≤ 0) (v : Int32) (hv : v = f2_188 i0) (hQ : ∀ L', Fr n0 L' → Q (some (.int v)) h L') :
    own_Fin p e below s Q 0 0 (T.setTop (mkF m 188 #[.val (.int i0), .unset] [])) := by
  refine own_step (fun t k => XS.iconst X.here hx rfl (hb hby d2_188) k) ?_
  exact b2_189 i0 (0 : Int32) hw X hx hZ hby hml hown hret hlk eT N (by omega) (by omega) v (hv) hQ
def f2_178 (i0 : Int32) : Int32 := if (65535 : Int32) < i0 then f2_188 i0 else f2_184 i0
set_option maxRecDepth 65536 in
set_option maxHeartbeats 40000000 in
theorem b2_178 {p : Program} {l : Launch} {e : Env} {s : State} {m : MethodId} {args : Array Value} {below : List Frame} {meth : Method} {c : Code} {T : State} {locs : List Loc} {cells slots : Nat} {Z : State} {a0 : Array Value} {h : Heap} {n0 : Nat} {Q : Option Value → Heap → List Loc → Prop} (i0 : Int32) (hw : ∀ d ∈ tables_1, d.before a0 Z = true) (X : Stand p l e ({ frames := 0, cells := 0, slots := 0, locals := 0 } : Room) s m args below meth c T locs cells slots) (hx : p.tables.exec = Jvm.exec) (hZ : Z.Warmed39 s.vm) (hby : c.code = method_3_code) (hml : c.maxLocals = 2) (hown : s.vm.findClass "com/example/caddisfly/caddisfly/template/TextIsNameStartCharPinLaw" = some m.cls) (hret : meth.sig.returnType = some .boolean) (hlk : meth.locks = false) (eT : T.heap = h) (N : Fr n0 locs) (hc : cells ≤ 0) (hs : slots ≤ 0) (v : Int32) (hv : v = f2_178 i0) (hQ : ∀ L', Fr n0 L' → Q (some (.int v)) h L') :
    own_Fin p e below s Q 0 0 (T.setTop (mkF m 178 #[.val (.int i0), .unset] [])) := by
  refine own_step (fun t k => XS.iloadN X.here hx rfl (hb hby d2_178) rfl  k) ?_
  show own_Fin p e below s Q 0 0 (T.setTop (mkF m 179 #[.val (.int i0), .unset] [(.int i0)]))
  refine own_step (X.ldcInt hx hown (mvT hZ (hw _ (List.mem_of_getElem? (i := 21) rfl))) (g := (mkF m 179 #[.val (.int i0), .unset] [(.int i0)])) rfl (hb hby d2_179)) ?_
  show own_Fin p e below s Q 0 0 (T.setTop (mkF m 181 #[.val (.int i0), .unset] [(.int (65535 : Int32)), (.int i0)]))
  by_cases hB181_45 : (65535 : Int32) < i0
  · refine own_step (fun t k => XS.icmpYes X.here hx rfl (pc0 := 181) (pc' := 188) rfl (hb hby d2_181) rfl (tlt hB181_45).2.2.1 (by decide) (by decide) k) ?_
    exact b2_188 i0 hw X hx hZ hby hml hown hret hlk eT N (by omega) (by omega) v (hv.trans (if_pos hB181_45)) hQ
  · refine own_step (fun t k => XS.icmpNo X.here hx rfl (hb hby d2_181) rfl (flt hB181_45).2.2.1 k) ?_
    exact b2_184 i0 hw X hx hZ hby hml hown hret hlk eT N (by omega) (by omega) v (hv.trans (if_neg hB181_45)) hQ
def f2_172 (i0 : Int32) : Int32 := if i0 < (65534 : Int32) then f2_188 i0 else f2_178 i0
set_option maxRecDepth 65536 in
set_option maxHeartbeats 40000000 in
theorem b2_172 {p : Program} {l : Launch} {e : Env} {s : State} {m : MethodId} {args : Array Value} {below : List Frame} {meth : Method} {c : Code} {T : State} {locs : List Loc} {cells slots : Nat} {Z : State} {a0 : Array Value} {h : Heap} {n0 : Nat} {Q : Option Value → Heap → List Loc → Prop} (i0 : Int32) (hw : ∀ d ∈ tables_1, d.before a0 Z = true) (X : Stand p l e ({ frames := 0, cells := 0, slots := 0, locals := 0 } : Room) s m args below meth c T locs cells slots) (hx : p.tables.exec = Jvm.exec) (hZ : Z.Warmed39 s.vm) (hby : c.code = method_3_code) (hml : c.maxLocals = 2) (hown : s.vm.findClass "com/example/caddisfly/caddisfly/template/TextIsNameStartCharPinLaw" = some m.cls) (hret : meth.sig.returnType = some .boolean) (hlk : meth.locks = false) (eT : T.heap = h) (N : Fr n0 locs) (hc : cells ≤ 0) (hs : slots ≤ 0) (v : Int32) (hv : v = f2_172 i0) (hQ : ∀ L', Fr n0 L' → Q (some (.int v)) h L') :
    own_Fin p e below s Q 0 0 (T.setTop (mkF m 172 #[.val (.int i0), .unset] [])) := by
  refine own_step (fun t k => XS.iloadN X.here hx rfl (hb hby d2_172) rfl  k) ?_
  show own_Fin p e below s Q 0 0 (T.setTop (mkF m 173 #[.val (.int i0), .unset] [(.int i0)]))
  refine own_step (X.ldcInt hx hown (mvT hZ (hw _ (List.mem_of_getElem? (i := 14) rfl))) (g := (mkF m 173 #[.val (.int i0), .unset] [(.int i0)])) rfl (hb hby d2_173)) ?_
  show own_Fin p e below s Q 0 0 (T.setTop (mkF m 175 #[.val (.int i0), .unset] [(.int (65534 : Int32)), (.int i0)]))
  by_cases hB175_42 : i0 < (65534 : Int32)
  · refine own_step (fun t k => XS.icmpYes X.here hx rfl (pc0 := 175) (pc' := 188) rfl (hb hby d2_175) rfl (tlt hB175_42).1 (by decide) (by decide) k) ?_
    exact b2_188 i0 hw X hx hZ hby hml hown hret hlk eT N (by omega) (by omega) v (hv.trans (if_pos hB175_42)) hQ
  · refine own_step (fun t k => XS.icmpNo X.here hx rfl (hb hby d2_175) rfl (flt hB175_42).1 k) ?_
    exact b2_178 i0 hw X hx hZ hby hml hown hret hlk eT N (by omega) (by omega) v (hv.trans (if_neg hB175_42)) hQ
def f2_166 (i0 : Int32) : Int32 := if (65007 : Int32) < i0 then f2_172 i0 else f2_184 i0
set_option maxRecDepth 65536 in
set_option maxHeartbeats 40000000 in
theorem b2_166 {p : Program} {l : Launch} {e : Env} {s : State} {m : MethodId} {args : Array Value} {below : List Frame} {meth : Method} {c : Code} {T : State} {locs : List Loc} {cells slots : Nat} {Z : State} {a0 : Array Value} {h : Heap} {n0 : Nat} {Q : Option Value → Heap → List Loc → Prop} (i0 : Int32) (hw : ∀ d ∈ tables_1, d.before a0 Z = true) (X : Stand p l e ({ frames := 0, cells := 0, slots := 0, locals := 0 } : Room) s m args below meth c T locs cells slots) (hx : p.tables.exec = Jvm.exec) (hZ : Z.Warmed39 s.vm) (hby : c.code = method_3_code) (hml : c.maxLocals = 2) (hown : s.vm.findClass "com/example/caddisfly/caddisfly/template/TextIsNameStartCharPinLaw" = some m.cls) (hret : meth.sig.returnType = some .boolean) (hlk : meth.locks = false) (eT : T.heap = h) (N : Fr n0 locs) (hc : cells ≤ 0) (hs : slots ≤ 0) (v : Int32) (hv : v = f2_166 i0) (hQ : ∀ L', Fr n0 L' → Q (some (.int v)) h L') :
    own_Fin p e below s Q 0 0 (T.setTop (mkF m 166 #[.val (.int i0), .unset] [])) := by
  refine own_step (fun t k => XS.iloadN X.here hx rfl (hb hby d2_166) rfl  k) ?_
  show own_Fin p e below s Q 0 0 (T.setTop (mkF m 167 #[.val (.int i0), .unset] [(.int i0)]))
  refine own_step (X.ldcInt hx hown (mvT hZ (hw _ (List.mem_of_getElem? (i := 20) rfl))) (g := (mkF m 167 #[.val (.int i0), .unset] [(.int i0)])) rfl (hb hby d2_167)) ?_
  show own_Fin p e below s Q 0 0 (T.setTop (mkF m 169 #[.val (.int i0), .unset] [(.int (65007 : Int32)), (.int i0)]))
  by_cases hB169_49 : (65007 : Int32) < i0
  · refine own_step (fun t k => XS.icmpNo X.here hx rfl (hb hby d2_169) rfl (tlt hB169_49).2.2.2 k) ?_
    exact b2_172 i0 hw X hx hZ hby hml hown hret hlk eT N (by omega) (by omega) v (hv.trans (if_pos hB169_49)) hQ
  · refine own_step (fun t k => XS.icmpYes X.here hx rfl (pc0 := 169) (pc' := 184) rfl (hb hby d2_169) rfl (flt hB169_49).2.2.2 (by decide) (by decide) k) ?_
    exact b2_184 i0 hw X hx hZ hby hml hown hret hlk eT N (by omega) (by omega) v (hv.trans (if_neg hB169_49)) hQ
def f2_160 (i0 : Int32) : Int32 := if i0 < (64976 : Int32) then f2_172 i0 else f2_166 i0
set_option maxRecDepth 65536 in
set_option maxHeartbeats 40000000 in
theorem b2_160 {p : Program} {l : Launch} {e : Env} {s : State} {m : MethodId} {args : Array Value} {below : List Frame} {meth : Method} {c : Code} {T : State} {locs : List Loc} {cells slots : Nat} {Z : State} {a0 : Array Value} {h : Heap} {n0 : Nat} {Q : Option Value → Heap → List Loc → Prop} (i0 : Int32) (hw : ∀ d ∈ tables_1, d.before a0 Z = true) (X : Stand p l e ({ frames := 0, cells := 0, slots := 0, locals := 0 } : Room) s m args below meth c T locs cells slots) (hx : p.tables.exec = Jvm.exec) (hZ : Z.Warmed39 s.vm) (hby : c.code = method_3_code) (hml : c.maxLocals = 2) (hown : s.vm.findClass "com/example/caddisfly/caddisfly/template/TextIsNameStartCharPinLaw" = some m.cls) (hret : meth.sig.returnType = some .boolean) (hlk : meth.locks = false) (eT : T.heap = h) (N : Fr n0 locs) (hc : cells ≤ 0) (hs : slots ≤ 0) (v : Int32) (hv : v = f2_160 i0) (hQ : ∀ L', Fr n0 L' → Q (some (.int v)) h L') :
    own_Fin p e below s Q 0 0 (T.setTop (mkF m 160 #[.val (.int i0), .unset] [])) := by
  refine own_step (fun t k => XS.iloadN X.here hx rfl (hb hby d2_160) rfl  k) ?_
  show own_Fin p e below s Q 0 0 (T.setTop (mkF m 161 #[.val (.int i0), .unset] [(.int i0)]))
  refine own_step (X.ldcInt hx hown (mvT hZ (hw _ (List.mem_of_getElem? (i := 13) rfl))) (g := (mkF m 161 #[.val (.int i0), .unset] [(.int i0)])) rfl (hb hby d2_161)) ?_
  show own_Fin p e below s Q 0 0 (T.setTop (mkF m 163 #[.val (.int i0), .unset] [(.int (64976 : Int32)), (.int i0)]))
  by_cases hB163_40 : i0 < (64976 : Int32)
  · refine own_step (fun t k => XS.icmpYes X.here hx rfl (pc0 := 163) (pc' := 172) rfl (hb hby d2_163) rfl (tlt hB163_40).1 (by decide) (by decide) k) ?_
    exact b2_172 i0 hw X hx hZ hby hml hown hret hlk eT N (by omega) (by omega) v (hv.trans (if_pos hB163_40)) hQ
  · refine own_step (fun t k => XS.icmpNo X.here hx rfl (hb hby d2_163) rfl (flt hB163_40).1 k) ?_
    exact b2_166 i0 hw X hx hZ hby hml hown hret hlk eT N (by omega) (by omega) v (hv.trans (if_neg hB163_40)) hQ
def f2_154 (i0 : Int32) : Int32 := if (63743 : Int32) < i0 then f2_160 i0 else f2_184 i0
set_option maxRecDepth 65536 in
set_option maxHeartbeats 40000000 in
theorem b2_154 {p : Program} {l : Launch} {e : Env} {s : State} {m : MethodId} {args : Array Value} {below : List Frame} {meth : Method} {c : Code} {T : State} {locs : List Loc} {cells slots : Nat} {Z : State} {a0 : Array Value} {h : Heap} {n0 : Nat} {Q : Option Value → Heap → List Loc → Prop} (i0 : Int32) (hw : ∀ d ∈ tables_1, d.before a0 Z = true) (X : Stand p l e ({ frames := 0, cells := 0, slots := 0, locals := 0 } : Room) s m args below meth c T locs cells slots) (hx : p.tables.exec = Jvm.exec) (hZ : Z.Warmed39 s.vm) (hby : c.code = method_3_code) (hml : c.maxLocals = 2) (hown : s.vm.findClass "com/example/caddisfly/caddisfly/template/TextIsNameStartCharPinLaw" = some m.cls) (hret : meth.sig.returnType = some .boolean) (hlk : meth.locks = false) (eT : T.heap = h) (N : Fr n0 locs) (hc : cells ≤ 0) (hs : slots ≤ 0) (v : Int32) (hv : v = f2_154 i0) (hQ : ∀ L', Fr n0 L' → Q (some (.int v)) h L') :
    own_Fin p e below s Q 0 0 (T.setTop (mkF m 154 #[.val (.int i0), .unset] [])) := by
  refine own_step (fun t k => XS.iloadN X.here hx rfl (hb hby d2_154) rfl  k) ?_
  show own_Fin p e below s Q 0 0 (T.setTop (mkF m 155 #[.val (.int i0), .unset] [(.int i0)]))
  refine own_step (X.ldcInt hx hown (mvT hZ (hw _ (List.mem_of_getElem? (i := 19) rfl))) (g := (mkF m 155 #[.val (.int i0), .unset] [(.int i0)])) rfl (hb hby d2_155)) ?_
  show own_Fin p e below s Q 0 0 (T.setTop (mkF m 157 #[.val (.int i0), .unset] [(.int (63743 : Int32)), (.int i0)]))
  by_cases hB157_53 : (63743 : Int32) < i0
  · refine own_step (fun t k => XS.icmpNo X.here hx rfl (hb hby d2_157) rfl (tlt hB157_53).2.2.2 k) ?_
    exact b2_160 i0 hw X hx hZ hby hml hown hret hlk eT N (by omega) (by omega) v (hv.trans (if_pos hB157_53)) hQ
  · refine own_step (fun t k => XS.icmpYes X.here hx rfl (pc0 := 157) (pc' := 184) rfl (hb hby d2_157) rfl (flt hB157_53).2.2.2 (by decide) (by decide) k) ?_
    exact b2_184 i0 hw X hx hZ hby hml hown hret hlk eT N (by omega) (by omega) v (hv.trans (if_neg hB157_53)) hQ
def f2_148 (i0 : Int32) : Int32 := if i0 < (55296 : Int32) then f2_160 i0 else f2_154 i0
set_option maxRecDepth 65536 in
set_option maxHeartbeats 40000000 in
theorem b2_148 {p : Program} {l : Launch} {e : Env} {s : State} {m : MethodId} {args : Array Value} {below : List Frame} {meth : Method} {c : Code} {T : State} {locs : List Loc} {cells slots : Nat} {Z : State} {a0 : Array Value} {h : Heap} {n0 : Nat} {Q : Option Value → Heap → List Loc → Prop} (i0 : Int32) (hw : ∀ d ∈ tables_1, d.before a0 Z = true) (X : Stand p l e ({ frames := 0, cells := 0, slots := 0, locals := 0 } : Room) s m args below meth c T locs cells slots) (hx : p.tables.exec = Jvm.exec) (hZ : Z.Warmed39 s.vm) (hby : c.code = method_3_code) (hml : c.maxLocals = 2) (hown : s.vm.findClass "com/example/caddisfly/caddisfly/template/TextIsNameStartCharPinLaw" = some m.cls) (hret : meth.sig.returnType = some .boolean) (hlk : meth.locks = false) (eT : T.heap = h) (N : Fr n0 locs) (hc : cells ≤ 0) (hs : slots ≤ 0) (v : Int32) (hv : v = f2_148 i0) (hQ : ∀ L', Fr n0 L' → Q (some (.int v)) h L') :
    own_Fin p e below s Q 0 0 (T.setTop (mkF m 148 #[.val (.int i0), .unset] [])) := by
  refine own_step (fun t k => XS.iloadN X.here hx rfl (hb hby d2_148) rfl  k) ?_
  show own_Fin p e below s Q 0 0 (T.setTop (mkF m 149 #[.val (.int i0), .unset] [(.int i0)]))
  refine own_step (X.ldcInt hx hown (mvT hZ (hw _ (List.mem_of_getElem? (i := 12) rfl))) (g := (mkF m 149 #[.val (.int i0), .unset] [(.int i0)])) rfl (hb hby d2_149)) ?_
  show own_Fin p e below s Q 0 0 (T.setTop (mkF m 151 #[.val (.int i0), .unset] [(.int (55296 : Int32)), (.int i0)]))
  by_cases hB151_38 : i0 < (55296 : Int32)
  · refine own_step (fun t k => XS.icmpYes X.here hx rfl (pc0 := 151) (pc' := 160) rfl (hb hby d2_151) rfl (tlt hB151_38).1 (by decide) (by decide) k) ?_
    exact b2_160 i0 hw X hx hZ hby hml hown hret hlk eT N (by omega) (by omega) v (hv.trans (if_pos hB151_38)) hQ
  · refine own_step (fun t k => XS.icmpNo X.here hx rfl (hb hby d2_151) rfl (flt hB151_38).1 k) ?_
    exact b2_154 i0 hw X hx hZ hby hml hown hret hlk eT N (by omega) (by omega) v (hv.trans (if_neg hB151_38)) hQ
def f2_141 (i0 : Int32) : Int32 := if (12288 : Int32) < i0 then f2_148 i0 else f2_184 i0
set_option maxRecDepth 65536 in
set_option maxHeartbeats 40000000 in
theorem b2_141 {p : Program} {l : Launch} {e : Env} {s : State} {m : MethodId} {args : Array Value} {below : List Frame} {meth : Method} {c : Code} {T : State} {locs : List Loc} {cells slots : Nat} {Z : State} {a0 : Array Value} {h : Heap} {n0 : Nat} {Q : Option Value → Heap → List Loc → Prop} (i0 : Int32) (hw : ∀ d ∈ tables_1, d.before a0 Z = true) (X : Stand p l e ({ frames := 0, cells := 0, slots := 0, locals := 0 } : Room) s m args below meth c T locs cells slots) (hx : p.tables.exec = Jvm.exec) (hZ : Z.Warmed39 s.vm) (hby : c.code = method_3_code) (hml : c.maxLocals = 2) (hown : s.vm.findClass "com/example/caddisfly/caddisfly/template/TextIsNameStartCharPinLaw" = some m.cls) (hret : meth.sig.returnType = some .boolean) (hlk : meth.locks = false) (eT : T.heap = h) (N : Fr n0 locs) (hc : cells ≤ 0) (hs : slots ≤ 0) (v : Int32) (hv : v = f2_141 i0) (hQ : ∀ L', Fr n0 L' → Q (some (.int v)) h L') :
    own_Fin p e below s Q 0 0 (T.setTop (mkF m 141 #[.val (.int i0), .unset] [])) := by
  refine own_step (fun t k => XS.iloadN X.here hx rfl (hb hby d2_141) rfl  k) ?_
  show own_Fin p e below s Q 0 0 (T.setTop (mkF m 142 #[.val (.int i0), .unset] [(.int i0)]))
  refine own_step (fun t k => XS.sipush X.here hx rfl (hb hby d2_142) k) ?_
  show own_Fin p e below s Q 0 0 (T.setTop (mkF m 145 #[.val (.int i0), .unset] [(.int (12288 : Int32)), (.int i0)]))
  by_cases hB145_57 : (12288 : Int32) < i0
  · refine own_step (fun t k => XS.icmpNo X.here hx rfl (hb hby d2_145) rfl (tlt hB145_57).2.2.2 k) ?_
    exact b2_148 i0 hw X hx hZ hby hml hown hret hlk eT N (by omega) (by omega) v (hv.trans (if_pos hB145_57)) hQ
  · refine own_step (fun t k => XS.icmpYes X.here hx rfl (pc0 := 145) (pc' := 184) rfl (hb hby d2_145) rfl (flt hB145_57).2.2.2 (by decide) (by decide) k) ?_
    exact b2_184 i0 hw X hx hZ hby hml hown hret hlk eT N (by omega) (by omega) v (hv.trans (if_neg hB145_57)) hQ
def f2_134 (i0 : Int32) : Int32 := if i0 < (12272 : Int32) then f2_148 i0 else f2_141 i0
set_option maxRecDepth 65536 in
set_option maxHeartbeats 40000000 in
theorem b2_134 {p : Program} {l : Launch} {e : Env} {s : State} {m : MethodId} {args : Array Value} {below : List Frame} {meth : Method} {c : Code} {T : State} {locs : List Loc} {cells slots : Nat} {Z : State} {a0 : Array Value} {h : Heap} {n0 : Nat} {Q : Option Value → Heap → List Loc → Prop} (i0 : Int32) (hw : ∀ d ∈ tables_1, d.before a0 Z = true) (X : Stand p l e ({ frames := 0, cells := 0, slots := 0, locals := 0 } : Room) s m args below meth c T locs cells slots) (hx : p.tables.exec = Jvm.exec) (hZ : Z.Warmed39 s.vm) (hby : c.code = method_3_code) (hml : c.maxLocals = 2) (hown : s.vm.findClass "com/example/caddisfly/caddisfly/template/TextIsNameStartCharPinLaw" = some m.cls) (hret : meth.sig.returnType = some .boolean) (hlk : meth.locks = false) (eT : T.heap = h) (N : Fr n0 locs) (hc : cells ≤ 0) (hs : slots ≤ 0) (v : Int32) (hv : v = f2_134 i0) (hQ : ∀ L', Fr n0 L' → Q (some (.int v)) h L') :
    own_Fin p e below s Q 0 0 (T.setTop (mkF m 134 #[.val (.int i0), .unset] [])) := by
  refine own_step (fun t k => XS.iloadN X.here hx rfl (hb hby d2_134) rfl  k) ?_
  show own_Fin p e below s Q 0 0 (T.setTop (mkF m 135 #[.val (.int i0), .unset] [(.int i0)]))
  refine own_step (fun t k => XS.sipush X.here hx rfl (hb hby d2_135) k) ?_
  show own_Fin p e below s Q 0 0 (T.setTop (mkF m 138 #[.val (.int i0), .unset] [(.int (12272 : Int32)), (.int i0)]))
  by_cases hB138_36 : i0 < (12272 : Int32)
  · refine own_step (fun t k => XS.icmpYes X.here hx rfl (pc0 := 138) (pc' := 148) rfl (hb hby d2_138) rfl (tlt hB138_36).1 (by decide) (by decide) k) ?_
    exact b2_148 i0 hw X hx hZ hby hml hown hret hlk eT N (by omega) (by omega) v (hv.trans (if_pos hB138_36)) hQ
  · refine own_step (fun t k => XS.icmpNo X.here hx rfl (hb hby d2_138) rfl (flt hB138_36).1 k) ?_
    exact b2_141 i0 hw X hx hZ hby hml hown hret hlk eT N (by omega) (by omega) v (hv.trans (if_neg hB138_36)) hQ
def f2_127 (i0 : Int32) : Int32 := if (11263 : Int32) < i0 then f2_134 i0 else f2_184 i0
set_option maxRecDepth 65536 in
set_option maxHeartbeats 40000000 in
theorem b2_127 {p : Program} {l : Launch} {e : Env} {s : State} {m : MethodId} {args : Array Value} {below : List Frame} {meth : Method} {c : Code} {T : State} {locs : List Loc} {cells slots : Nat} {Z : State} {a0 : Array Value} {h : Heap} {n0 : Nat} {Q : Option Value → Heap → List Loc → Prop} (i0 : Int32) (hw : ∀ d ∈ tables_1, d.before a0 Z = true) (X : Stand p l e ({ frames := 0, cells := 0, slots := 0, locals := 0 } : Room) s m args below meth c T locs cells slots) (hx : p.tables.exec = Jvm.exec) (hZ : Z.Warmed39 s.vm) (hby : c.code = method_3_code) (hml : c.maxLocals = 2) (hown : s.vm.findClass "com/example/caddisfly/caddisfly/template/TextIsNameStartCharPinLaw" = some m.cls) (hret : meth.sig.returnType = some .boolean) (hlk : meth.locks = false) (eT : T.heap = h) (N : Fr n0 locs) (hc : cells ≤ 0) (hs : slots ≤ 0) (v : Int32) (hv : v = f2_127 i0) (hQ : ∀ L', Fr n0 L' → Q (some (.int v)) h L') :
    own_Fin p e below s Q 0 0 (T.setTop (mkF m 127 #[.val (.int i0), .unset] [])) := by
  refine own_step (fun t k => XS.iloadN X.here hx rfl (hb hby d2_127) rfl  k) ?_
  show own_Fin p e below s Q 0 0 (T.setTop (mkF m 128 #[.val (.int i0), .unset] [(.int i0)]))
  refine own_step (fun t k => XS.sipush X.here hx rfl (hb hby d2_128) k) ?_
  show own_Fin p e below s Q 0 0 (T.setTop (mkF m 131 #[.val (.int i0), .unset] [(.int (11263 : Int32)), (.int i0)]))
  by_cases hB131_61 : (11263 : Int32) < i0
  · refine own_step (fun t k => XS.icmpNo X.here hx rfl (hb hby d2_131) rfl (tlt hB131_61).2.2.2 k) ?_
    exact b2_134 i0 hw X hx hZ hby hml hown hret hlk eT N (by omega) (by omega) v (hv.trans (if_pos hB131_61)) hQ
  · refine own_step (fun t k => XS.icmpYes X.here hx rfl (pc0 := 131) (pc' := 184) rfl (hb hby d2_131) rfl (flt hB131_61).2.2.2 (by decide) (by decide) k) ?_
    exact b2_184 i0 hw X hx hZ hby hml hown hret hlk eT N (by omega) (by omega) v (hv.trans (if_neg hB131_61)) hQ
def f2_120 (i0 : Int32) : Int32 := if i0 < (8592 : Int32) then f2_134 i0 else f2_127 i0
set_option maxRecDepth 65536 in
set_option maxHeartbeats 40000000 in
theorem b2_120 {p : Program} {l : Launch} {e : Env} {s : State} {m : MethodId} {args : Array Value} {below : List Frame} {meth : Method} {c : Code} {T : State} {locs : List Loc} {cells slots : Nat} {Z : State} {a0 : Array Value} {h : Heap} {n0 : Nat} {Q : Option Value → Heap → List Loc → Prop} (i0 : Int32) (hw : ∀ d ∈ tables_1, d.before a0 Z = true) (X : Stand p l e ({ frames := 0, cells := 0, slots := 0, locals := 0 } : Room) s m args below meth c T locs cells slots) (hx : p.tables.exec = Jvm.exec) (hZ : Z.Warmed39 s.vm) (hby : c.code = method_3_code) (hml : c.maxLocals = 2) (hown : s.vm.findClass "com/example/caddisfly/caddisfly/template/TextIsNameStartCharPinLaw" = some m.cls) (hret : meth.sig.returnType = some .boolean) (hlk : meth.locks = false) (eT : T.heap = h) (N : Fr n0 locs) (hc : cells ≤ 0) (hs : slots ≤ 0) (v : Int32) (hv : v = f2_120 i0) (hQ : ∀ L', Fr n0 L' → Q (some (.int v)) h L') :
    own_Fin p e below s Q 0 0 (T.setTop (mkF m 120 #[.val (.int i0), .unset] [])) := by
  refine own_step (fun t k => XS.iloadN X.here hx rfl (hb hby d2_120) rfl  k) ?_
  show own_Fin p e below s Q 0 0 (T.setTop (mkF m 121 #[.val (.int i0), .unset] [(.int i0)]))
  refine own_step (fun t k => XS.sipush X.here hx rfl (hb hby d2_121) k) ?_
  show own_Fin p e below s Q 0 0 (T.setTop (mkF m 124 #[.val (.int i0), .unset] [(.int (8592 : Int32)), (.int i0)]))
  by_cases hB124_34 : i0 < (8592 : Int32)
  · refine own_step (fun t k => XS.icmpYes X.here hx rfl (pc0 := 124) (pc' := 134) rfl (hb hby d2_124) rfl (tlt hB124_34).1 (by decide) (by decide) k) ?_
    exact b2_134 i0 hw X hx hZ hby hml hown hret hlk eT N (by omega) (by omega) v (hv.trans (if_pos hB124_34)) hQ
  · refine own_step (fun t k => XS.icmpNo X.here hx rfl (hb hby d2_124) rfl (flt hB124_34).1 k) ?_
    exact b2_127 i0 hw X hx hZ hby hml hown hret hlk eT N (by omega) (by omega) v (hv.trans (if_neg hB124_34)) hQ
def f2_113 (i0 : Int32) : Int32 := if (8303 : Int32) < i0 then f2_120 i0 else f2_184 i0
set_option maxRecDepth 65536 in
set_option maxHeartbeats 40000000 in
theorem b2_113 {p : Program} {l : Launch} {e : Env} {s : State} {m : MethodId} {args : Array Value} {below : List Frame} {meth : Method} {c : Code} {T : State} {locs : List Loc} {cells slots : Nat} {Z : State} {a0 : Array Value} {h : Heap} {n0 : Nat} {Q : Option Value → Heap → List Loc → Prop} (i0 : Int32) (hw : ∀ d ∈ tables_1, d.before a0 Z = true) (X : Stand p l e ({ frames := 0, cells := 0, slots := 0, locals := 0 } : Room) s m args below meth c T locs cells slots) (hx : p.tables.exec = Jvm.exec) (hZ : Z.Warmed39 s.vm) (hby : c.code = method_3_code) (hml : c.maxLocals = 2) (hown : s.vm.findClass "com/example/caddisfly/caddisfly/template/TextIsNameStartCharPinLaw" = some m.cls) (hret : meth.sig.returnType = some .boolean) (hlk : meth.locks = false) (eT : T.heap = h) (N : Fr n0 locs) (hc : cells ≤ 0) (hs : slots ≤ 0) (v : Int32) (hv : v = f2_113 i0) (hQ : ∀ L', Fr n0 L' → Q (some (.int v)) h L') :
    own_Fin p e below s Q 0 0 (T.setTop (mkF m 113 #[.val (.int i0), .unset] [])) := by
  refine own_step (fun t k => XS.iloadN X.here hx rfl (hb hby d2_113) rfl  k) ?_
  show own_Fin p e below s Q 0 0 (T.setTop (mkF m 114 #[.val (.int i0), .unset] [(.int i0)]))
  refine own_step (fun t k => XS.sipush X.here hx rfl (hb hby d2_114) k) ?_
  show own_Fin p e below s Q 0 0 (T.setTop (mkF m 117 #[.val (.int i0), .unset] [(.int (8303 : Int32)), (.int i0)]))
  by_cases hB117_65 : (8303 : Int32) < i0
  · refine own_step (fun t k => XS.icmpNo X.here hx rfl (hb hby d2_117) rfl (tlt hB117_65).2.2.2 k) ?_
    exact b2_120 i0 hw X hx hZ hby hml hown hret hlk eT N (by omega) (by omega) v (hv.trans (if_pos hB117_65)) hQ
  · refine own_step (fun t k => XS.icmpYes X.here hx rfl (pc0 := 117) (pc' := 184) rfl (hb hby d2_117) rfl (flt hB117_65).2.2.2 (by decide) (by decide) k) ?_
    exact b2_184 i0 hw X hx hZ hby hml hown hret hlk eT N (by omega) (by omega) v (hv.trans (if_neg hB117_65)) hQ
def f2_106 (i0 : Int32) : Int32 := if i0 < (8206 : Int32) then f2_120 i0 else f2_113 i0
set_option maxRecDepth 65536 in
set_option maxHeartbeats 40000000 in
theorem b2_106 {p : Program} {l : Launch} {e : Env} {s : State} {m : MethodId} {args : Array Value} {below : List Frame} {meth : Method} {c : Code} {T : State} {locs : List Loc} {cells slots : Nat} {Z : State} {a0 : Array Value} {h : Heap} {n0 : Nat} {Q : Option Value → Heap → List Loc → Prop} (i0 : Int32) (hw : ∀ d ∈ tables_1, d.before a0 Z = true) (X : Stand p l e ({ frames := 0, cells := 0, slots := 0, locals := 0 } : Room) s m args below meth c T locs cells slots) (hx : p.tables.exec = Jvm.exec) (hZ : Z.Warmed39 s.vm) (hby : c.code = method_3_code) (hml : c.maxLocals = 2) (hown : s.vm.findClass "com/example/caddisfly/caddisfly/template/TextIsNameStartCharPinLaw" = some m.cls) (hret : meth.sig.returnType = some .boolean) (hlk : meth.locks = false) (eT : T.heap = h) (N : Fr n0 locs) (hc : cells ≤ 0) (hs : slots ≤ 0) (v : Int32) (hv : v = f2_106 i0) (hQ : ∀ L', Fr n0 L' → Q (some (.int v)) h L') :
    own_Fin p e below s Q 0 0 (T.setTop (mkF m 106 #[.val (.int i0), .unset] [])) := by
  refine own_step (fun t k => XS.iloadN X.here hx rfl (hb hby d2_106) rfl  k) ?_
  show own_Fin p e below s Q 0 0 (T.setTop (mkF m 107 #[.val (.int i0), .unset] [(.int i0)]))
  refine own_step (fun t k => XS.sipush X.here hx rfl (hb hby d2_107) k) ?_
  show own_Fin p e below s Q 0 0 (T.setTop (mkF m 110 #[.val (.int i0), .unset] [(.int (8206 : Int32)), (.int i0)]))
  by_cases hB110_32 : i0 < (8206 : Int32)
  · refine own_step (fun t k => XS.icmpYes X.here hx rfl (pc0 := 110) (pc' := 120) rfl (hb hby d2_110) rfl (tlt hB110_32).1 (by decide) (by decide) k) ?_
    exact b2_120 i0 hw X hx hZ hby hml hown hret hlk eT N (by omega) (by omega) v (hv.trans (if_pos hB110_32)) hQ
  · refine own_step (fun t k => XS.icmpNo X.here hx rfl (hb hby d2_110) rfl (flt hB110_32).1 k) ?_
    exact b2_113 i0 hw X hx hZ hby hml hown hret hlk eT N (by omega) (by omega) v (hv.trans (if_neg hB110_32)) hQ
def f2_99 (i0 : Int32) : Int32 := if (8203 : Int32) < i0 then f2_106 i0 else f2_184 i0
set_option maxRecDepth 65536 in
set_option maxHeartbeats 40000000 in
theorem b2_99 {p : Program} {l : Launch} {e : Env} {s : State} {m : MethodId} {args : Array Value} {below : List Frame} {meth : Method} {c : Code} {T : State} {locs : List Loc} {cells slots : Nat} {Z : State} {a0 : Array Value} {h : Heap} {n0 : Nat} {Q : Option Value → Heap → List Loc → Prop} (i0 : Int32) (hw : ∀ d ∈ tables_1, d.before a0 Z = true) (X : Stand p l e ({ frames := 0, cells := 0, slots := 0, locals := 0 } : Room) s m args below meth c T locs cells slots) (hx : p.tables.exec = Jvm.exec) (hZ : Z.Warmed39 s.vm) (hby : c.code = method_3_code) (hml : c.maxLocals = 2) (hown : s.vm.findClass "com/example/caddisfly/caddisfly/template/TextIsNameStartCharPinLaw" = some m.cls) (hret : meth.sig.returnType = some .boolean) (hlk : meth.locks = false) (eT : T.heap = h) (N : Fr n0 locs) (hc : cells ≤ 0) (hs : slots ≤ 0) (v : Int32) (hv : v = f2_99 i0) (hQ : ∀ L', Fr n0 L' → Q (some (.int v)) h L') :
    own_Fin p e below s Q 0 0 (T.setTop (mkF m 99 #[.val (.int i0), .unset] [])) := by
  refine own_step (fun t k => XS.iloadN X.here hx rfl (hb hby d2_99) rfl  k) ?_
  show own_Fin p e below s Q 0 0 (T.setTop (mkF m 100 #[.val (.int i0), .unset] [(.int i0)]))
  refine own_step (fun t k => XS.sipush X.here hx rfl (hb hby d2_100) k) ?_
  show own_Fin p e below s Q 0 0 (T.setTop (mkF m 103 #[.val (.int i0), .unset] [(.int (8203 : Int32)), (.int i0)]))
  by_cases hB103_69 : (8203 : Int32) < i0
  · refine own_step (fun t k => XS.icmpNo X.here hx rfl (hb hby d2_103) rfl (tlt hB103_69).2.2.2 k) ?_
    exact b2_106 i0 hw X hx hZ hby hml hown hret hlk eT N (by omega) (by omega) v (hv.trans (if_pos hB103_69)) hQ
  · refine own_step (fun t k => XS.icmpYes X.here hx rfl (pc0 := 103) (pc' := 184) rfl (hb hby d2_103) rfl (flt hB103_69).2.2.2 (by decide) (by decide) k) ?_
    exact b2_184 i0 hw X hx hZ hby hml hown hret hlk eT N (by omega) (by omega) v (hv.trans (if_neg hB103_69)) hQ
def f2_92 (i0 : Int32) : Int32 := if i0 < (8192 : Int32) then f2_106 i0 else f2_99 i0
set_option maxRecDepth 65536 in
set_option maxHeartbeats 40000000 in
theorem b2_92 {p : Program} {l : Launch} {e : Env} {s : State} {m : MethodId} {args : Array Value} {below : List Frame} {meth : Method} {c : Code} {T : State} {locs : List Loc} {cells slots : Nat} {Z : State} {a0 : Array Value} {h : Heap} {n0 : Nat} {Q : Option Value → Heap → List Loc → Prop} (i0 : Int32) (hw : ∀ d ∈ tables_1, d.before a0 Z = true) (X : Stand p l e ({ frames := 0, cells := 0, slots := 0, locals := 0 } : Room) s m args below meth c T locs cells slots) (hx : p.tables.exec = Jvm.exec) (hZ : Z.Warmed39 s.vm) (hby : c.code = method_3_code) (hml : c.maxLocals = 2) (hown : s.vm.findClass "com/example/caddisfly/caddisfly/template/TextIsNameStartCharPinLaw" = some m.cls) (hret : meth.sig.returnType = some .boolean) (hlk : meth.locks = false) (eT : T.heap = h) (N : Fr n0 locs) (hc : cells ≤ 0) (hs : slots ≤ 0) (v : Int32) (hv : v = f2_92 i0) (hQ : ∀ L', Fr n0 L' → Q (some (.int v)) h L') :
    own_Fin p e below s Q 0 0 (T.setTop (mkF m 92 #[.val (.int i0), .unset] [])) := by
  refine own_step (fun t k => XS.iloadN X.here hx rfl (hb hby d2_92) rfl  k) ?_
  show own_Fin p e below s Q 0 0 (T.setTop (mkF m 93 #[.val (.int i0), .unset] [(.int i0)]))
  refine own_step (fun t k => XS.sipush X.here hx rfl (hb hby d2_93) k) ?_
  show own_Fin p e below s Q 0 0 (T.setTop (mkF m 96 #[.val (.int i0), .unset] [(.int (8192 : Int32)), (.int i0)]))
  by_cases hB96_30 : i0 < (8192 : Int32)
  · refine own_step (fun t k => XS.icmpYes X.here hx rfl (pc0 := 96) (pc' := 106) rfl (hb hby d2_96) rfl (tlt hB96_30).1 (by decide) (by decide) k) ?_
    exact b2_106 i0 hw X hx hZ hby hml hown hret hlk eT N (by omega) (by omega) v (hv.trans (if_pos hB96_30)) hQ
  · refine own_step (fun t k => XS.icmpNo X.here hx rfl (hb hby d2_96) rfl (flt hB96_30).1 k) ?_
    exact b2_99 i0 hw X hx hZ hby hml hown hret hlk eT N (by omega) (by omega) v (hv.trans (if_neg hB96_30)) hQ
def f2_85 (i0 : Int32) : Int32 := if i0 = (894 : Int32) then f2_184 i0 else f2_92 i0
set_option maxRecDepth 65536 in
set_option maxHeartbeats 40000000 in
theorem b2_85 {p : Program} {l : Launch} {e : Env} {s : State} {m : MethodId} {args : Array Value} {below : List Frame} {meth : Method} {c : Code} {T : State} {locs : List Loc} {cells slots : Nat} {Z : State} {a0 : Array Value} {h : Heap} {n0 : Nat} {Q : Option Value → Heap → List Loc → Prop} (i0 : Int32) (hw : ∀ d ∈ tables_1, d.before a0 Z = true) (X : Stand p l e ({ frames := 0, cells := 0, slots := 0, locals := 0 } : Room) s m args below meth c T locs cells slots) (hx : p.tables.exec = Jvm.exec) (hZ : Z.Warmed39 s.vm) (hby : c.code = method_3_code) (hml : c.maxLocals = 2) (hown : s.vm.findClass "com/example/caddisfly/caddisfly/template/TextIsNameStartCharPinLaw" = some m.cls) (hret : meth.sig.returnType = some .boolean) (hlk : meth.locks = false) (eT : T.heap = h) (N : Fr n0 locs) (hc : cells ≤ 0) (hs : slots ≤ 0) (v : Int32) (hv : v = f2_85 i0) (hQ : ∀ L', Fr n0 L' → Q (some (.int v)) h L') :
    own_Fin p e below s Q 0 0 (T.setTop (mkF m 85 #[.val (.int i0), .unset] [])) := by
  refine own_step (fun t k => XS.iloadN X.here hx rfl (hb hby d2_85) rfl  k) ?_
  show own_Fin p e below s Q 0 0 (T.setTop (mkF m 86 #[.val (.int i0), .unset] [(.int i0)]))
  refine own_step (fun t k => XS.sipush X.here hx rfl (hb hby d2_86) k) ?_
  show own_Fin p e below s Q 0 0 (T.setTop (mkF m 89 #[.val (.int i0), .unset] [(.int (894 : Int32)), (.int i0)]))
  by_cases hB89_27 : i0 = (894 : Int32)
  · refine own_step (fun t k => XS.icmpYes X.here hx rfl (pc0 := 89) (pc' := 184) rfl (hb hby d2_89) rfl (teq hB89_27).1 (by decide) (by decide) k) ?_
    exact b2_184 i0 hw X hx hZ hby hml hown hret hlk eT N (by omega) (by omega) v (hv.trans (if_pos hB89_27)) hQ
  · refine own_step (fun t k => XS.icmpNo X.here hx rfl (hb hby d2_89) rfl (feq hB89_27).1 k) ?_
    exact b2_92 i0 hw X hx hZ hby hml hown hret hlk eT N (by omega) (by omega) v (hv.trans (if_neg hB89_27)) hQ
def f2_78 (i0 : Int32) : Int32 := if (879 : Int32) < i0 then f2_85 i0 else f2_184 i0
set_option maxRecDepth 65536 in
set_option maxHeartbeats 40000000 in
theorem b2_78 {p : Program} {l : Launch} {e : Env} {s : State} {m : MethodId} {args : Array Value} {below : List Frame} {meth : Method} {c : Code} {T : State} {locs : List Loc} {cells slots : Nat} {Z : State} {a0 : Array Value} {h : Heap} {n0 : Nat} {Q : Option Value → Heap → List Loc → Prop} (i0 : Int32) (hw : ∀ d ∈ tables_1, d.before a0 Z = true) (X : Stand p l e ({ frames := 0, cells := 0, slots := 0, locals := 0 } : Room) s m args below meth c T locs cells slots) (hx : p.tables.exec = Jvm.exec) (hZ : Z.Warmed39 s.vm) (hby : c.code = method_3_code) (hml : c.maxLocals = 2) (hown : s.vm.findClass "com/example/caddisfly/caddisfly/template/TextIsNameStartCharPinLaw" = some m.cls) (hret : meth.sig.returnType = some .boolean) (hlk : meth.locks = false) (eT : T.heap = h) (N : Fr n0 locs) (hc : cells ≤ 0) (hs : slots ≤ 0) (v : Int32) (hv : v = f2_78 i0) (hQ : ∀ L', Fr n0 L' → Q (some (.int v)) h L') :
    own_Fin p e below s Q 0 0 (T.setTop (mkF m 78 #[.val (.int i0), .unset] [])) := by
  refine own_step (fun t k => XS.iloadN X.here hx rfl (hb hby d2_78) rfl  k) ?_
  show own_Fin p e below s Q 0 0 (T.setTop (mkF m 79 #[.val (.int i0), .unset] [(.int i0)]))
  refine own_step (fun t k => XS.sipush X.here hx rfl (hb hby d2_79) k) ?_
  show own_Fin p e below s Q 0 0 (T.setTop (mkF m 82 #[.val (.int i0), .unset] [(.int (879 : Int32)), (.int i0)]))
  by_cases hB82_73 : (879 : Int32) < i0
  · refine own_step (fun t k => XS.icmpNo X.here hx rfl (hb hby d2_82) rfl (tlt hB82_73).2.2.2 k) ?_
    exact b2_85 i0 hw X hx hZ hby hml hown hret hlk eT N (by omega) (by omega) v (hv.trans (if_pos hB82_73)) hQ
  · refine own_step (fun t k => XS.icmpYes X.here hx rfl (pc0 := 82) (pc' := 184) rfl (hb hby d2_82) rfl (flt hB82_73).2.2.2 (by decide) (by decide) k) ?_
    exact b2_184 i0 hw X hx hZ hby hml hown hret hlk eT N (by omega) (by omega) v (hv.trans (if_neg hB82_73)) hQ
def f2_71 (i0 : Int32) : Int32 := if i0 < (768 : Int32) then f2_85 i0 else f2_78 i0
set_option maxRecDepth 65536 in
set_option maxHeartbeats 40000000 in
theorem b2_71 {p : Program} {l : Launch} {e : Env} {s : State} {m : MethodId} {args : Array Value} {below : List Frame} {meth : Method} {c : Code} {T : State} {locs : List Loc} {cells slots : Nat} {Z : State} {a0 : Array Value} {h : Heap} {n0 : Nat} {Q : Option Value → Heap → List Loc → Prop} (i0 : Int32) (hw : ∀ d ∈ tables_1, d.before a0 Z = true) (X : Stand p l e ({ frames := 0, cells := 0, slots := 0, locals := 0 } : Room) s m args below meth c T locs cells slots) (hx : p.tables.exec = Jvm.exec) (hZ : Z.Warmed39 s.vm) (hby : c.code = method_3_code) (hml : c.maxLocals = 2) (hown : s.vm.findClass "com/example/caddisfly/caddisfly/template/TextIsNameStartCharPinLaw" = some m.cls) (hret : meth.sig.returnType = some .boolean) (hlk : meth.locks = false) (eT : T.heap = h) (N : Fr n0 locs) (hc : cells ≤ 0) (hs : slots ≤ 0) (v : Int32) (hv : v = f2_71 i0) (hQ : ∀ L', Fr n0 L' → Q (some (.int v)) h L') :
    own_Fin p e below s Q 0 0 (T.setTop (mkF m 71 #[.val (.int i0), .unset] [])) := by
  refine own_step (fun t k => XS.iloadN X.here hx rfl (hb hby d2_71) rfl  k) ?_
  show own_Fin p e below s Q 0 0 (T.setTop (mkF m 72 #[.val (.int i0), .unset] [(.int i0)]))
  refine own_step (fun t k => XS.sipush X.here hx rfl (hb hby d2_72) k) ?_
  show own_Fin p e below s Q 0 0 (T.setTop (mkF m 75 #[.val (.int i0), .unset] [(.int (768 : Int32)), (.int i0)]))
  by_cases hB75_25 : i0 < (768 : Int32)
  · refine own_step (fun t k => XS.icmpYes X.here hx rfl (pc0 := 75) (pc' := 85) rfl (hb hby d2_75) rfl (tlt hB75_25).1 (by decide) (by decide) k) ?_
    exact b2_85 i0 hw X hx hZ hby hml hown hret hlk eT N (by omega) (by omega) v (hv.trans (if_pos hB75_25)) hQ
  · refine own_step (fun t k => XS.icmpNo X.here hx rfl (hb hby d2_75) rfl (flt hB75_25).1 k) ?_
    exact b2_78 i0 hw X hx hZ hby hml hown hret hlk eT N (by omega) (by omega) v (hv.trans (if_neg hB75_25)) hQ
def f2_64 (i0 : Int32) : Int32 := if i0 = (247 : Int32) then f2_184 i0 else f2_71 i0
set_option maxRecDepth 65536 in
set_option maxHeartbeats 40000000 in
theorem b2_64 {p : Program} {l : Launch} {e : Env} {s : State} {m : MethodId} {args : Array Value} {below : List Frame} {meth : Method} {c : Code} {T : State} {locs : List Loc} {cells slots : Nat} {Z : State} {a0 : Array Value} {h : Heap} {n0 : Nat} {Q : Option Value → Heap → List Loc → Prop} (i0 : Int32) (hw : ∀ d ∈ tables_1, d.before a0 Z = true) (X : Stand p l e ({ frames := 0, cells := 0, slots := 0, locals := 0 } : Room) s m args below meth c T locs cells slots) (hx : p.tables.exec = Jvm.exec) (hZ : Z.Warmed39 s.vm) (hby : c.code = method_3_code) (hml : c.maxLocals = 2) (hown : s.vm.findClass "com/example/caddisfly/caddisfly/template/TextIsNameStartCharPinLaw" = some m.cls) (hret : meth.sig.returnType = some .boolean) (hlk : meth.locks = false) (eT : T.heap = h) (N : Fr n0 locs) (hc : cells ≤ 0) (hs : slots ≤ 0) (v : Int32) (hv : v = f2_64 i0) (hQ : ∀ L', Fr n0 L' → Q (some (.int v)) h L') :
    own_Fin p e below s Q 0 0 (T.setTop (mkF m 64 #[.val (.int i0), .unset] [])) := by
  refine own_step (fun t k => XS.iloadN X.here hx rfl (hb hby d2_64) rfl  k) ?_
  show own_Fin p e below s Q 0 0 (T.setTop (mkF m 65 #[.val (.int i0), .unset] [(.int i0)]))
  refine own_step (fun t k => XS.sipush X.here hx rfl (hb hby d2_65) k) ?_
  show own_Fin p e below s Q 0 0 (T.setTop (mkF m 68 #[.val (.int i0), .unset] [(.int (247 : Int32)), (.int i0)]))
  by_cases hB68_22 : i0 = (247 : Int32)
  · refine own_step (fun t k => XS.icmpYes X.here hx rfl (pc0 := 68) (pc' := 184) rfl (hb hby d2_68) rfl (teq hB68_22).1 (by decide) (by decide) k) ?_
    exact b2_184 i0 hw X hx hZ hby hml hown hret hlk eT N (by omega) (by omega) v (hv.trans (if_pos hB68_22)) hQ
  · refine own_step (fun t k => XS.icmpNo X.here hx rfl (hb hby d2_68) rfl (feq hB68_22).1 k) ?_
    exact b2_71 i0 hw X hx hZ hby hml hown hret hlk eT N (by omega) (by omega) v (hv.trans (if_neg hB68_22)) hQ
def f2_57 (i0 : Int32) : Int32 := if i0 = (215 : Int32) then f2_184 i0 else f2_64 i0
set_option maxRecDepth 65536 in
set_option maxHeartbeats 40000000 in
theorem b2_57 {p : Program} {l : Launch} {e : Env} {s : State} {m : MethodId} {args : Array Value} {below : List Frame} {meth : Method} {c : Code} {T : State} {locs : List Loc} {cells slots : Nat} {Z : State} {a0 : Array Value} {h : Heap} {n0 : Nat} {Q : Option Value → Heap → List Loc → Prop} (i0 : Int32) (hw : ∀ d ∈ tables_1, d.before a0 Z = true) (X : Stand p l e ({ frames := 0, cells := 0, slots := 0, locals := 0 } : Room) s m args below meth c T locs cells slots) (hx : p.tables.exec = Jvm.exec) (hZ : Z.Warmed39 s.vm) (hby : c.code = method_3_code) (hml : c.maxLocals = 2) (hown : s.vm.findClass "com/example/caddisfly/caddisfly/template/TextIsNameStartCharPinLaw" = some m.cls) (hret : meth.sig.returnType = some .boolean) (hlk : meth.locks = false) (eT : T.heap = h) (N : Fr n0 locs) (hc : cells ≤ 0) (hs : slots ≤ 0) (v : Int32) (hv : v = f2_57 i0) (hQ : ∀ L', Fr n0 L' → Q (some (.int v)) h L') :
    own_Fin p e below s Q 0 0 (T.setTop (mkF m 57 #[.val (.int i0), .unset] [])) := by
  refine own_step (fun t k => XS.iloadN X.here hx rfl (hb hby d2_57) rfl  k) ?_
  show own_Fin p e below s Q 0 0 (T.setTop (mkF m 58 #[.val (.int i0), .unset] [(.int i0)]))
  refine own_step (fun t k => XS.sipush X.here hx rfl (hb hby d2_58) k) ?_
  show own_Fin p e below s Q 0 0 (T.setTop (mkF m 61 #[.val (.int i0), .unset] [(.int (215 : Int32)), (.int i0)]))
  by_cases hB61_19 : i0 = (215 : Int32)
  · refine own_step (fun t k => XS.icmpYes X.here hx rfl (pc0 := 61) (pc' := 184) rfl (hb hby d2_61) rfl (teq hB61_19).1 (by decide) (by decide) k) ?_
    exact b2_184 i0 hw X hx hZ hby hml hown hret hlk eT N (by omega) (by omega) v (hv.trans (if_pos hB61_19)) hQ
  · refine own_step (fun t k => XS.icmpNo X.here hx rfl (hb hby d2_61) rfl (feq hB61_19).1 k) ?_
    exact b2_64 i0 hw X hx hZ hby hml hown hret hlk eT N (by omega) (by omega) v (hv.trans (if_neg hB61_19)) hQ
def f2_50 (i0 : Int32) : Int32 := if (191 : Int32) < i0 then f2_57 i0 else f2_184 i0
set_option maxRecDepth 65536 in
set_option maxHeartbeats 40000000 in
theorem b2_50 {p : Program} {l : Launch} {e : Env} {s : State} {m : MethodId} {args : Array Value} {below : List Frame} {meth : Method} {c : Code} {T : State} {locs : List Loc} {cells slots : Nat} {Z : State} {a0 : Array Value} {h : Heap} {n0 : Nat} {Q : Option Value → Heap → List Loc → Prop} (i0 : Int32) (hw : ∀ d ∈ tables_1, d.before a0 Z = true) (X : Stand p l e ({ frames := 0, cells := 0, slots := 0, locals := 0 } : Room) s m args below meth c T locs cells slots) (hx : p.tables.exec = Jvm.exec) (hZ : Z.Warmed39 s.vm) (hby : c.code = method_3_code) (hml : c.maxLocals = 2) (hown : s.vm.findClass "com/example/caddisfly/caddisfly/template/TextIsNameStartCharPinLaw" = some m.cls) (hret : meth.sig.returnType = some .boolean) (hlk : meth.locks = false) (eT : T.heap = h) (N : Fr n0 locs) (hc : cells ≤ 0) (hs : slots ≤ 0) (v : Int32) (hv : v = f2_50 i0) (hQ : ∀ L', Fr n0 L' → Q (some (.int v)) h L') :
    own_Fin p e below s Q 0 0 (T.setTop (mkF m 50 #[.val (.int i0), .unset] [])) := by
  refine own_step (fun t k => XS.iloadN X.here hx rfl (hb hby d2_50) rfl  k) ?_
  show own_Fin p e below s Q 0 0 (T.setTop (mkF m 51 #[.val (.int i0), .unset] [(.int i0)]))
  refine own_step (fun t k => XS.sipush X.here hx rfl (hb hby d2_51) k) ?_
  show own_Fin p e below s Q 0 0 (T.setTop (mkF m 54 #[.val (.int i0), .unset] [(.int (191 : Int32)), (.int i0)]))
  by_cases hB54_77 : (191 : Int32) < i0
  · refine own_step (fun t k => XS.icmpNo X.here hx rfl (hb hby d2_54) rfl (tlt hB54_77).2.2.2 k) ?_
    exact b2_57 i0 hw X hx hZ hby hml hown hret hlk eT N (by omega) (by omega) v (hv.trans (if_pos hB54_77)) hQ
  · refine own_step (fun t k => XS.icmpYes X.here hx rfl (pc0 := 54) (pc' := 184) rfl (hb hby d2_54) rfl (flt hB54_77).2.2.2 (by decide) (by decide) k) ?_
    exact b2_184 i0 hw X hx hZ hby hml hown hret hlk eT N (by omega) (by omega) v (hv.trans (if_neg hB54_77)) hQ
def f2_44 (i0 : Int32) : Int32 := if i0 < (123 : Int32) then f2_57 i0 else f2_50 i0
set_option maxRecDepth 65536 in
set_option maxHeartbeats 40000000 in
theorem b2_44 {p : Program} {l : Launch} {e : Env} {s : State} {m : MethodId} {args : Array Value} {below : List Frame} {meth : Method} {c : Code} {T : State} {locs : List Loc} {cells slots : Nat} {Z : State} {a0 : Array Value} {h : Heap} {n0 : Nat} {Q : Option Value → Heap → List Loc → Prop} (i0 : Int32) (hw : ∀ d ∈ tables_1, d.before a0 Z = true) (X : Stand p l e ({ frames := 0, cells := 0, slots := 0, locals := 0 } : Room) s m args below meth c T locs cells slots) (hx : p.tables.exec = Jvm.exec) (hZ : Z.Warmed39 s.vm) (hby : c.code = method_3_code) (hml : c.maxLocals = 2) (hown : s.vm.findClass "com/example/caddisfly/caddisfly/template/TextIsNameStartCharPinLaw" = some m.cls) (hret : meth.sig.returnType = some .boolean) (hlk : meth.locks = false) (eT : T.heap = h) (N : Fr n0 locs) (hc : cells ≤ 0) (hs : slots ≤ 0) (v : Int32) (hv : v = f2_44 i0) (hQ : ∀ L', Fr n0 L' → Q (some (.int v)) h L') :
    own_Fin p e below s Q 0 0 (T.setTop (mkF m 44 #[.val (.int i0), .unset] [])) := by
  refine own_step (fun t k => XS.iloadN X.here hx rfl (hb hby d2_44) rfl  k) ?_
  show own_Fin p e below s Q 0 0 (T.setTop (mkF m 45 #[.val (.int i0), .unset] [(.int i0)]))
  refine own_step (fun t k => XS.bipush X.here hx rfl (hb hby d2_45) k) ?_
  show own_Fin p e below s Q 0 0 (T.setTop (mkF m 47 #[.val (.int i0), .unset] [(.int (123 : Int32)), (.int i0)]))
  by_cases hB47_17 : i0 < (123 : Int32)
  · refine own_step (fun t k => XS.icmpYes X.here hx rfl (pc0 := 47) (pc' := 57) rfl (hb hby d2_47) rfl (tlt hB47_17).1 (by decide) (by decide) k) ?_
    exact b2_57 i0 hw X hx hZ hby hml hown hret hlk eT N (by omega) (by omega) v (hv.trans (if_pos hB47_17)) hQ
  · refine own_step (fun t k => XS.icmpNo X.here hx rfl (hb hby d2_47) rfl (flt hB47_17).1 k) ?_
    exact b2_50 i0 hw X hx hZ hby hml hown hret hlk eT N (by omega) (by omega) v (hv.trans (if_neg hB47_17)) hQ
def f2_38 (i0 : Int32) : Int32 := if i0 = (96 : Int32) then f2_184 i0 else f2_44 i0
set_option maxRecDepth 65536 in
set_option maxHeartbeats 40000000 in
theorem b2_38 {p : Program} {l : Launch} {e : Env} {s : State} {m : MethodId} {args : Array Value} {below : List Frame} {meth : Method} {c : Code} {T : State} {locs : List Loc} {cells slots : Nat} {Z : State} {a0 : Array Value} {h : Heap} {n0 : Nat} {Q : Option Value → Heap → List Loc → Prop} (i0 : Int32) (hw : ∀ d ∈ tables_1, d.before a0 Z = true) (X : Stand p l e ({ frames := 0, cells := 0, slots := 0, locals := 0 } : Room) s m args below meth c T locs cells slots) (hx : p.tables.exec = Jvm.exec) (hZ : Z.Warmed39 s.vm) (hby : c.code = method_3_code) (hml : c.maxLocals = 2) (hown : s.vm.findClass "com/example/caddisfly/caddisfly/template/TextIsNameStartCharPinLaw" = some m.cls) (hret : meth.sig.returnType = some .boolean) (hlk : meth.locks = false) (eT : T.heap = h) (N : Fr n0 locs) (hc : cells ≤ 0) (hs : slots ≤ 0) (v : Int32) (hv : v = f2_38 i0) (hQ : ∀ L', Fr n0 L' → Q (some (.int v)) h L') :
    own_Fin p e below s Q 0 0 (T.setTop (mkF m 38 #[.val (.int i0), .unset] [])) := by
  refine own_step (fun t k => XS.iloadN X.here hx rfl (hb hby d2_38) rfl  k) ?_
  show own_Fin p e below s Q 0 0 (T.setTop (mkF m 39 #[.val (.int i0), .unset] [(.int i0)]))
  refine own_step (fun t k => XS.bipush X.here hx rfl (hb hby d2_39) k) ?_
  show own_Fin p e below s Q 0 0 (T.setTop (mkF m 41 #[.val (.int i0), .unset] [(.int (96 : Int32)), (.int i0)]))
  by_cases hB41_11 : i0 = (96 : Int32)
  · refine own_step (fun t k => XS.icmpYes X.here hx rfl (pc0 := 41) (pc' := 184) rfl (hb hby d2_41) rfl (teq hB41_11).1 (by decide) (by decide) k) ?_
    exact b2_184 i0 hw X hx hZ hby hml hown hret hlk eT N (by omega) (by omega) v (hv.trans (if_pos hB41_11)) hQ
  · refine own_step (fun t k => XS.icmpNo X.here hx rfl (hb hby d2_41) rfl (feq hB41_11).1 k) ?_
    exact b2_44 i0 hw X hx hZ hby hml hown hret hlk eT N (by omega) (by omega) v (hv.trans (if_neg hB41_11)) hQ
def f2_32 (i0 : Int32) : Int32 := if (94 : Int32) < i0 then f2_38 i0 else f2_184 i0
set_option maxRecDepth 65536 in
set_option maxHeartbeats 40000000 in
theorem b2_32 {p : Program} {l : Launch} {e : Env} {s : State} {m : MethodId} {args : Array Value} {below : List Frame} {meth : Method} {c : Code} {T : State} {locs : List Loc} {cells slots : Nat} {Z : State} {a0 : Array Value} {h : Heap} {n0 : Nat} {Q : Option Value → Heap → List Loc → Prop} (i0 : Int32) (hw : ∀ d ∈ tables_1, d.before a0 Z = true) (X : Stand p l e ({ frames := 0, cells := 0, slots := 0, locals := 0 } : Room) s m args below meth c T locs cells slots) (hx : p.tables.exec = Jvm.exec) (hZ : Z.Warmed39 s.vm) (hby : c.code = method_3_code) (hml : c.maxLocals = 2) (hown : s.vm.findClass "com/example/caddisfly/caddisfly/template/TextIsNameStartCharPinLaw" = some m.cls) (hret : meth.sig.returnType = some .boolean) (hlk : meth.locks = false) (eT : T.heap = h) (N : Fr n0 locs) (hc : cells ≤ 0) (hs : slots ≤ 0) (v : Int32) (hv : v = f2_32 i0) (hQ : ∀ L', Fr n0 L' → Q (some (.int v)) h L') :
    own_Fin p e below s Q 0 0 (T.setTop (mkF m 32 #[.val (.int i0), .unset] [])) := by
  refine own_step (fun t k => XS.iloadN X.here hx rfl (hb hby d2_32) rfl  k) ?_
  show own_Fin p e below s Q 0 0 (T.setTop (mkF m 33 #[.val (.int i0), .unset] [(.int i0)]))
  refine own_step (fun t k => XS.bipush X.here hx rfl (hb hby d2_33) k) ?_
  show own_Fin p e below s Q 0 0 (T.setTop (mkF m 35 #[.val (.int i0), .unset] [(.int (94 : Int32)), (.int i0)]))
  by_cases hB35_81 : (94 : Int32) < i0
  · refine own_step (fun t k => XS.icmpNo X.here hx rfl (hb hby d2_35) rfl (tlt hB35_81).2.2.2 k) ?_
    exact b2_38 i0 hw X hx hZ hby hml hown hret hlk eT N (by omega) (by omega) v (hv.trans (if_pos hB35_81)) hQ
  · refine own_step (fun t k => XS.icmpYes X.here hx rfl (pc0 := 35) (pc' := 184) rfl (hb hby d2_35) rfl (flt hB35_81).2.2.2 (by decide) (by decide) k) ?_
    exact b2_184 i0 hw X hx hZ hby hml hown hret hlk eT N (by omega) (by omega) v (hv.trans (if_neg hB35_81)) hQ
def f2_26 (i0 : Int32) : Int32 := if i0 < (91 : Int32) then f2_38 i0 else f2_32 i0
set_option maxRecDepth 65536 in
set_option maxHeartbeats 40000000 in
theorem b2_26 {p : Program} {l : Launch} {e : Env} {s : State} {m : MethodId} {args : Array Value} {below : List Frame} {meth : Method} {c : Code} {T : State} {locs : List Loc} {cells slots : Nat} {Z : State} {a0 : Array Value} {h : Heap} {n0 : Nat} {Q : Option Value → Heap → List Loc → Prop} (i0 : Int32) (hw : ∀ d ∈ tables_1, d.before a0 Z = true) (X : Stand p l e ({ frames := 0, cells := 0, slots := 0, locals := 0 } : Room) s m args below meth c T locs cells slots) (hx : p.tables.exec = Jvm.exec) (hZ : Z.Warmed39 s.vm) (hby : c.code = method_3_code) (hml : c.maxLocals = 2) (hown : s.vm.findClass "com/example/caddisfly/caddisfly/template/TextIsNameStartCharPinLaw" = some m.cls) (hret : meth.sig.returnType = some .boolean) (hlk : meth.locks = false) (eT : T.heap = h) (N : Fr n0 locs) (hc : cells ≤ 0) (hs : slots ≤ 0) (v : Int32) (hv : v = f2_26 i0) (hQ : ∀ L', Fr n0 L' → Q (some (.int v)) h L') :
    own_Fin p e below s Q 0 0 (T.setTop (mkF m 26 #[.val (.int i0), .unset] [])) := by
  refine own_step (fun t k => XS.iloadN X.here hx rfl (hb hby d2_26) rfl  k) ?_
  show own_Fin p e below s Q 0 0 (T.setTop (mkF m 27 #[.val (.int i0), .unset] [(.int i0)]))
  refine own_step (fun t k => XS.bipush X.here hx rfl (hb hby d2_27) k) ?_
  show own_Fin p e below s Q 0 0 (T.setTop (mkF m 29 #[.val (.int i0), .unset] [(.int (91 : Int32)), (.int i0)]))
  by_cases hB29_9 : i0 < (91 : Int32)
  · refine own_step (fun t k => XS.icmpYes X.here hx rfl (pc0 := 29) (pc' := 38) rfl (hb hby d2_29) rfl (tlt hB29_9).1 (by decide) (by decide) k) ?_
    exact b2_38 i0 hw X hx hZ hby hml hown hret hlk eT N (by omega) (by omega) v (hv.trans (if_pos hB29_9)) hQ
  · refine own_step (fun t k => XS.icmpNo X.here hx rfl (hb hby d2_29) rfl (flt hB29_9).1 k) ?_
    exact b2_32 i0 hw X hx hZ hby hml hown hret hlk eT N (by omega) (by omega) v (hv.trans (if_neg hB29_9)) hQ
def f2_20 (i0 : Int32) : Int32 := if (64 : Int32) < i0 then f2_26 i0 else f2_184 i0
set_option maxRecDepth 65536 in
set_option maxHeartbeats 40000000 in
theorem b2_20 {p : Program} {l : Launch} {e : Env} {s : State} {m : MethodId} {args : Array Value} {below : List Frame} {meth : Method} {c : Code} {T : State} {locs : List Loc} {cells slots : Nat} {Z : State} {a0 : Array Value} {h : Heap} {n0 : Nat} {Q : Option Value → Heap → List Loc → Prop} (i0 : Int32) (hw : ∀ d ∈ tables_1, d.before a0 Z = true) (X : Stand p l e ({ frames := 0, cells := 0, slots := 0, locals := 0 } : Room) s m args below meth c T locs cells slots) (hx : p.tables.exec = Jvm.exec) (hZ : Z.Warmed39 s.vm) (hby : c.code = method_3_code) (hml : c.maxLocals = 2) (hown : s.vm.findClass "com/example/caddisfly/caddisfly/template/TextIsNameStartCharPinLaw" = some m.cls) (hret : meth.sig.returnType = some .boolean) (hlk : meth.locks = false) (eT : T.heap = h) (N : Fr n0 locs) (hc : cells ≤ 0) (hs : slots ≤ 0) (v : Int32) (hv : v = f2_20 i0) (hQ : ∀ L', Fr n0 L' → Q (some (.int v)) h L') :
    own_Fin p e below s Q 0 0 (T.setTop (mkF m 20 #[.val (.int i0), .unset] [])) := by
  refine own_step (fun t k => XS.iloadN X.here hx rfl (hb hby d2_20) rfl  k) ?_
  show own_Fin p e below s Q 0 0 (T.setTop (mkF m 21 #[.val (.int i0), .unset] [(.int i0)]))
  refine own_step (fun t k => XS.bipush X.here hx rfl (hb hby d2_21) k) ?_
  show own_Fin p e below s Q 0 0 (T.setTop (mkF m 23 #[.val (.int i0), .unset] [(.int (64 : Int32)), (.int i0)]))
  by_cases hB23_85 : (64 : Int32) < i0
  · refine own_step (fun t k => XS.icmpNo X.here hx rfl (hb hby d2_23) rfl (tlt hB23_85).2.2.2 k) ?_
    exact b2_26 i0 hw X hx hZ hby hml hown hret hlk eT N (by omega) (by omega) v (hv.trans (if_pos hB23_85)) hQ
  · refine own_step (fun t k => XS.icmpYes X.here hx rfl (pc0 := 23) (pc' := 184) rfl (hb hby d2_23) rfl (flt hB23_85).2.2.2 (by decide) (by decide) k) ?_
    exact b2_184 i0 hw X hx hZ hby hml hown hret hlk eT N (by omega) (by omega) v (hv.trans (if_neg hB23_85)) hQ
def f2_14 (i0 : Int32) : Int32 := if i0 < (59 : Int32) then f2_26 i0 else f2_20 i0
set_option maxRecDepth 65536 in
set_option maxHeartbeats 40000000 in
theorem b2_14 {p : Program} {l : Launch} {e : Env} {s : State} {m : MethodId} {args : Array Value} {below : List Frame} {meth : Method} {c : Code} {T : State} {locs : List Loc} {cells slots : Nat} {Z : State} {a0 : Array Value} {h : Heap} {n0 : Nat} {Q : Option Value → Heap → List Loc → Prop} (i0 : Int32) (hw : ∀ d ∈ tables_1, d.before a0 Z = true) (X : Stand p l e ({ frames := 0, cells := 0, slots := 0, locals := 0 } : Room) s m args below meth c T locs cells slots) (hx : p.tables.exec = Jvm.exec) (hZ : Z.Warmed39 s.vm) (hby : c.code = method_3_code) (hml : c.maxLocals = 2) (hown : s.vm.findClass "com/example/caddisfly/caddisfly/template/TextIsNameStartCharPinLaw" = some m.cls) (hret : meth.sig.returnType = some .boolean) (hlk : meth.locks = false) (eT : T.heap = h) (N : Fr n0 locs) (hc : cells ≤ 0) (hs : slots ≤ 0) (v : Int32) (hv : v = f2_14 i0) (hQ : ∀ L', Fr n0 L' → Q (some (.int v)) h L') :
    own_Fin p e below s Q 0 0 (T.setTop (mkF m 14 #[.val (.int i0), .unset] [])) := by
  refine own_step (fun t k => XS.iloadN X.here hx rfl (hb hby d2_14) rfl  k) ?_
  show own_Fin p e below s Q 0 0 (T.setTop (mkF m 15 #[.val (.int i0), .unset] [(.int i0)]))
  refine own_step (fun t k => XS.bipush X.here hx rfl (hb hby d2_15) k) ?_
  show own_Fin p e below s Q 0 0 (T.setTop (mkF m 17 #[.val (.int i0), .unset] [(.int (59 : Int32)), (.int i0)]))
  by_cases hB17_7 : i0 < (59 : Int32)
  · refine own_step (fun t k => XS.icmpYes X.here hx rfl (pc0 := 17) (pc' := 26) rfl (hb hby d2_17) rfl (tlt hB17_7).1 (by decide) (by decide) k) ?_
    exact b2_26 i0 hw X hx hZ hby hml hown hret hlk eT N (by omega) (by omega) v (hv.trans (if_pos hB17_7)) hQ
  · refine own_step (fun t k => XS.icmpNo X.here hx rfl (hb hby d2_17) rfl (flt hB17_7).1 k) ?_
    exact b2_20 i0 hw X hx hZ hby hml hown hret hlk eT N (by omega) (by omega) v (hv.trans (if_neg hB17_7)) hQ
def f2_6 (i0 : Int32) : Int32 := if (983039 : Int32) < i0 then f2_12 i0 else f2_14 i0
set_option maxRecDepth 65536 in
set_option maxHeartbeats 40000000 in
theorem b2_6 {p : Program} {l : Launch} {e : Env} {s : State} {m : MethodId} {args : Array Value} {below : List Frame} {meth : Method} {c : Code} {T : State} {locs : List Loc} {cells slots : Nat} {Z : State} {a0 : Array Value} {h : Heap} {n0 : Nat} {Q : Option Value → Heap → List Loc → Prop} (i0 : Int32) (hw : ∀ d ∈ tables_1, d.before a0 Z = true) (X : Stand p l e ({ frames := 0, cells := 0, slots := 0, locals := 0 } : Room) s m args below meth c T locs cells slots) (hx : p.tables.exec = Jvm.exec) (hZ : Z.Warmed39 s.vm) (hby : c.code = method_3_code) (hml : c.maxLocals = 2) (hown : s.vm.findClass "com/example/caddisfly/caddisfly/template/TextIsNameStartCharPinLaw" = some m.cls) (hret : meth.sig.returnType = some .boolean) (hlk : meth.locks = false) (eT : T.heap = h) (N : Fr n0 locs) (hc : cells ≤ 0) (hs : slots ≤ 0) (v : Int32) (hv : v = f2_6 i0) (hQ : ∀ L', Fr n0 L' → Q (some (.int v)) h L') :
    own_Fin p e below s Q 0 0 (T.setTop (mkF m 6 #[.val (.int i0), .unset] [])) := by
  refine own_step (fun t k => XS.iloadN X.here hx rfl (hb hby d2_6) rfl  k) ?_
  show own_Fin p e below s Q 0 0 (T.setTop (mkF m 7 #[.val (.int i0), .unset] [(.int i0)]))
  refine own_step (X.ldcInt hx hown (mvT hZ (hw _ (List.mem_of_getElem? (i := 11) rfl))) (g := (mkF m 7 #[.val (.int i0), .unset] [(.int i0)])) rfl (hb hby d2_7)) ?_
  show own_Fin p e below s Q 0 0 (T.setTop (mkF m 9 #[.val (.int i0), .unset] [(.int (983039 : Int32)), (.int i0)]))
  by_cases hB9_4 : (983039 : Int32) < i0
  · refine own_step (fun t k => XS.icmpNo X.here hx rfl (hb hby d2_9) rfl (tlt hB9_4).2.2.2 k) ?_
    exact b2_12 i0 hw X hx hZ hby hml hown hret hlk eT N (by omega) (by omega) v (hv.trans (if_pos hB9_4)) hQ
  · refine own_step (fun t k => XS.icmpYes X.here hx rfl (pc0 := 9) (pc' := 14) rfl (hb hby d2_9) rfl (flt hB9_4).2.2.2 (by decide) (by decide) k) ?_
    exact b2_14 i0 hw X hx hZ hby hml hown hret hlk eT N (by omega) (by omega) v (hv.trans (if_neg hB9_4)) hQ
def f2_0 (i0 : Int32) : Int32 := if i0 < (58 : Int32) then f2_12 i0 else f2_6 i0
set_option maxRecDepth 65536 in
set_option maxHeartbeats 40000000 in
theorem b2_0 {p : Program} {l : Launch} {e : Env} {s : State} {m : MethodId} {args : Array Value} {below : List Frame} {meth : Method} {c : Code} {T : State} {locs : List Loc} {cells slots : Nat} {Z : State} {a0 : Array Value} {h : Heap} {n0 : Nat} {Q : Option Value → Heap → List Loc → Prop} (i0 : Int32) (hw : ∀ d ∈ tables_1, d.before a0 Z = true) (X : Stand p l e ({ frames := 0, cells := 0, slots := 0, locals := 0 } : Room) s m args below meth c T locs cells slots) (hx : p.tables.exec = Jvm.exec) (hZ : Z.Warmed39 s.vm) (hby : c.code = method_3_code) (hml : c.maxLocals = 2) (hown : s.vm.findClass "com/example/caddisfly/caddisfly/template/TextIsNameStartCharPinLaw" = some m.cls) (hret : meth.sig.returnType = some .boolean) (hlk : meth.locks = false) (eT : T.heap = h) (N : Fr n0 locs) (hc : cells ≤ 0) (hs : slots ≤ 0) (v : Int32) (hv : v = f2_0 i0) (hQ : ∀ L', Fr n0 L' → Q (some (.int v)) h L') :
    own_Fin p e below s Q 0 0 (T.setTop (mkF m 0 #[.val (.int i0), .unset] [])) := by
  refine own_step (fun t k => XS.iloadN X.here hx rfl (hb hby d2_0) rfl  k) ?_
  show own_Fin p e below s Q 0 0 (T.setTop (mkF m 1 #[.val (.int i0), .unset] [(.int i0)]))
  refine own_step (fun t k => XS.bipush X.here hx rfl (hb hby d2_1) k) ?_
  show own_Fin p e below s Q 0 0 (T.setTop (mkF m 3 #[.val (.int i0), .unset] [(.int (58 : Int32)), (.int i0)]))
  by_cases hB3_1 : i0 < (58 : Int32)
  · refine own_step (fun t k => XS.icmpYes X.here hx rfl (pc0 := 3) (pc' := 12) rfl (hb hby d2_3) rfl (tlt hB3_1).1 (by decide) (by decide) k) ?_
    exact b2_12 i0 hw X hx hZ hby hml hown hret hlk eT N (by omega) (by omega) v (hv.trans (if_pos hB3_1)) hQ
  · refine own_step (fun t k => XS.icmpNo X.here hx rfl (hb hby d2_3) rfl (flt hB3_1).1 k) ?_
    exact b2_6 i0 hw X hx hZ hby hml hown hret hlk eT N (by omega) (by omega) v (hv.trans (if_neg hB3_1)) hQ
theorem pnm_0 : plainName "com/example/caddisfly/caddisfly/template/TextIsNameStartCharPinLaw" = true := by first | (simp [plainName, overriddenIn]; done) | decide +kernel
theorem pdm_0 : parseMethodDescriptor "(I)Z" = some ⟨[.int], some .boolean⟩ := by decide +kernel
theorem ef_2 (m : MethodId) (i0 : Int32) : entryFrame m #[(.int i0)] 2 = (mkF m 0 #[.val (.int i0), .unset] []) := by first | (simp [entryFrame, mkF, argsToLocals, Value.category]; done) | rfl
def Q2 (i0 : Int32) (h0 : Heap) (n0 : Nat) (v : Option Value) (h : Heap) (L : List Loc) : Prop := v = some (.int (f2_0 i0)) ∧ Fr n0 L ∧ h = h0
set_option maxRecDepth 65536 in
set_option maxHeartbeats 4000000 in
theorem rm2 (l : Launch) (Z : State) (a0 : Array Value) (hw : ∀ d ∈ tables_1, d.before a0 Z = true) (ws : List Jvm.Cond) (i0 : Int32) (h0 : Heap) (n0 : Nat) :
    MetFree l (⟨"com/example/caddisfly/caddisfly/template/TextIsNameStartCharPinLaw", "reference", "(I)Z"⟩ : MethodName) (head1 (Jvm.Cond.code (⟨"com/example/caddisfly/caddisfly/template/TextIsNameStartCharPinLaw", "reference", "(I)Z"⟩ : MethodName) method_3_code 2 (some .boolean) :: ws) ({ frames := 0, cells := 0, slots := 0, locals := 0 } : Room)) (fun a U => a = #[(.int i0)] ∧ Z.Warmed39 U.vm ∧ U.heap = h0) (fun _ _ _ _ _ => True) (fun _ U o U' => ∃ v L, o = .returned v ∧ Q2 i0 h0 n0 v U'.heap L ∧ FrameEnd U o U' L ({ frames := 0, cells := 0, slots := 0, locals := 0 } : Room).cells ({ frames := 0, cells := 0, slots := 0, locals := 0 } : Room).slots) := by
  refine MetFree.of_bodySF (plainFor_of_name pnm_0) hisR ?_
  intro p e s m args below meth c s₁ Bd hml0 hP hK
  obtain ⟨rfl, hZ, hh⟩ := hP
  have hx := Bd.exec
  have hby := Bd.bytes
  have hml : c.maxLocals = 2 := hml0
  have hown : s.vm.findClass "com/example/caddisfly/caddisfly/template/TextIsNameStartCharPinLaw" = some m.cls := findClass_of_methodNamed Bd.named
  have X0 : Stand p l e ({ frames := 0, cells := 0, slots := 0, locals := 0 } : Room) s m #[(.int i0)] below meth c s₁ [] 0 0 := Stand.of_body Bd
  have e0 : s₁.heap = h0 := by rw [← hh, Bd.state]; rfl
  have fin := b2_0 i0 (Q := Q2 i0 h0 n0) hw X0 hx hZ hby hml hown Bd.returns (BodyLoose.notSynchronized Bd) e0 (Fr.nil n0) (Nat.zero_le _) (Nat.zero_le _) _ rfl (fun L' n' => ⟨rfl, n', rfl⟩)
  exact own_step (fun t k => castTop (ef_2 m i0) k) fin
theorem d1_0 : decode prog_189_method_8_code 0 = .ok (.iload_n 0, 1) := by decide +kernel
theorem d1_1 : decode prog_189_method_8_code 1 = .ok (.bipush 58, 2) := by decide +kernel
theorem d1_3 : decode prog_189_method_8_code 3 = .ok (.if_icmp .eq 194, 3) := by decide +kernel
theorem d1_6 : decode prog_189_method_8_code 6 = .ok (.iload_n 0, 1) := by decide +kernel
theorem d1_7 : decode prog_189_method_8_code 7 = .ok (.bipush 95, 2) := by decide +kernel
theorem d1_9 : decode prog_189_method_8_code 9 = .ok (.if_icmp .eq 188, 3) := by decide +kernel
theorem d1_12 : decode prog_189_method_8_code 12 = .ok (.iload_n 0, 1) := by decide +kernel
theorem d1_13 : decode prog_189_method_8_code 13 = .ok (.bipush 65, 2) := by decide +kernel
theorem d1_15 : decode prog_189_method_8_code 15 = .ok (.if_icmp .lt 9, 3) := by decide +kernel
theorem d1_18 : decode prog_189_method_8_code 18 = .ok (.iload_n 0, 1) := by decide +kernel
theorem d1_19 : decode prog_189_method_8_code 19 = .ok (.bipush 90, 2) := by decide +kernel
theorem d1_21 : decode prog_189_method_8_code 21 = .ok (.if_icmp .le 176, 3) := by decide +kernel
theorem d1_24 : decode prog_189_method_8_code 24 = .ok (.iload_n 0, 1) := by decide +kernel
theorem d1_25 : decode prog_189_method_8_code 25 = .ok (.bipush 97, 2) := by decide +kernel
theorem d1_27 : decode prog_189_method_8_code 27 = .ok (.if_icmp .lt 9, 3) := by decide +kernel
theorem d1_30 : decode prog_189_method_8_code 30 = .ok (.iload_n 0, 1) := by decide +kernel
theorem d1_31 : decode prog_189_method_8_code 31 = .ok (.bipush 122, 2) := by decide +kernel
theorem d1_33 : decode prog_189_method_8_code 33 = .ok (.if_icmp .le 164, 3) := by decide +kernel
theorem d1_36 : decode prog_189_method_8_code 36 = .ok (.iload_n 0, 1) := by decide +kernel
theorem d1_37 : decode prog_189_method_8_code 37 = .ok (.sipush 192, 3) := by decide +kernel
theorem d1_40 : decode prog_189_method_8_code 40 = .ok (.if_icmp .lt 10, 3) := by decide +kernel
theorem d1_43 : decode prog_189_method_8_code 43 = .ok (.iload_n 0, 1) := by decide +kernel
theorem d1_44 : decode prog_189_method_8_code 44 = .ok (.sipush 214, 3) := by decide +kernel
theorem d1_47 : decode prog_189_method_8_code 47 = .ok (.if_icmp .le 150, 3) := by decide +kernel
theorem d1_50 : decode prog_189_method_8_code 50 = .ok (.iload_n 0, 1) := by decide +kernel
theorem d1_51 : decode prog_189_method_8_code 51 = .ok (.sipush 216, 3) := by decide +kernel
theorem d1_54 : decode prog_189_method_8_code 54 = .ok (.if_icmp .lt 10, 3) := by decide +kernel
theorem d1_57 : decode prog_189_method_8_code 57 = .ok (.iload_n 0, 1) := by decide +kernel
theorem d1_58 : decode prog_189_method_8_code 58 = .ok (.sipush 246, 3) := by decide +kernel
theorem d1_61 : decode prog_189_method_8_code 61 = .ok (.if_icmp .le 136, 3) := by decide +kernel
theorem d1_64 : decode prog_189_method_8_code 64 = .ok (.iload_n 0, 1) := by decide +kernel
theorem d1_65 : decode prog_189_method_8_code 65 = .ok (.sipush 248, 3) := by decide +kernel
theorem d1_68 : decode prog_189_method_8_code 68 = .ok (.if_icmp .lt 10, 3) := by decide +kernel
theorem d1_71 : decode prog_189_method_8_code 71 = .ok (.iload_n 0, 1) := by decide +kernel
theorem d1_72 : decode prog_189_method_8_code 72 = .ok (.sipush 767, 3) := by decide +kernel
theorem d1_75 : decode prog_189_method_8_code 75 = .ok (.if_icmp .le 122, 3) := by decide +kernel
theorem d1_78 : decode prog_189_method_8_code 78 = .ok (.iload_n 0, 1) := by decide +kernel
theorem d1_79 : decode prog_189_method_8_code 79 = .ok (.sipush 880, 3) := by decide +kernel
theorem d1_82 : decode prog_189_method_8_code 82 = .ok (.if_icmp .lt 10, 3) := by decide +kernel
theorem d1_85 : decode prog_189_method_8_code 85 = .ok (.iload_n 0, 1) := by decide +kernel
theorem d1_86 : decode prog_189_method_8_code 86 = .ok (.sipush 893, 3) := by decide +kernel
theorem d1_89 : decode prog_189_method_8_code 89 = .ok (.if_icmp .le 108, 3) := by decide +kernel
theorem d1_92 : decode prog_189_method_8_code 92 = .ok (.iload_n 0, 1) := by decide +kernel
theorem d1_93 : decode prog_189_method_8_code 93 = .ok (.sipush 895, 3) := by decide +kernel
theorem d1_96 : decode prog_189_method_8_code 96 = .ok (.if_icmp .lt 10, 3) := by decide +kernel
theorem d1_99 : decode prog_189_method_8_code 99 = .ok (.iload_n 0, 1) := by decide +kernel
theorem d1_100 : decode prog_189_method_8_code 100 = .ok (.sipush 8191, 3) := by decide +kernel
theorem d1_103 : decode prog_189_method_8_code 103 = .ok (.if_icmp .le 94, 3) := by decide +kernel
theorem d1_106 : decode prog_189_method_8_code 106 = .ok (.iload_n 0, 1) := by decide +kernel
theorem d1_107 : decode prog_189_method_8_code 107 = .ok (.sipush 8204, 3) := by decide +kernel
theorem d1_110 : decode prog_189_method_8_code 110 = .ok (.if_icmp .lt 10, 3) := by decide +kernel
theorem d1_113 : decode prog_189_method_8_code 113 = .ok (.iload_n 0, 1) := by decide +kernel
theorem d1_114 : decode prog_189_method_8_code 114 = .ok (.sipush 8205, 3) := by decide +kernel
theorem d1_117 : decode prog_189_method_8_code 117 = .ok (.if_icmp .le 80, 3) := by decide +kernel
theorem d1_120 : decode prog_189_method_8_code 120 = .ok (.iload_n 0, 1) := by decide +kernel
theorem d1_121 : decode prog_189_method_8_code 121 = .ok (.sipush 8304, 3) := by decide +kernel
theorem d1_124 : decode prog_189_method_8_code 124 = .ok (.if_icmp .lt 10, 3) := by decide +kernel
theorem d1_127 : decode prog_189_method_8_code 127 = .ok (.iload_n 0, 1) := by decide +kernel
theorem d1_128 : decode prog_189_method_8_code 128 = .ok (.sipush 8591, 3) := by decide +kernel
theorem d1_131 : decode prog_189_method_8_code 131 = .ok (.if_icmp .le 66, 3) := by decide +kernel
theorem d1_134 : decode prog_189_method_8_code 134 = .ok (.iload_n 0, 1) := by decide +kernel
theorem d1_135 : decode prog_189_method_8_code 135 = .ok (.sipush 11264, 3) := by decide +kernel
theorem d1_138 : decode prog_189_method_8_code 138 = .ok (.if_icmp .lt 10, 3) := by decide +kernel
theorem d1_141 : decode prog_189_method_8_code 141 = .ok (.iload_n 0, 1) := by decide +kernel
theorem d1_142 : decode prog_189_method_8_code 142 = .ok (.sipush 12271, 3) := by decide +kernel
theorem d1_145 : decode prog_189_method_8_code 145 = .ok (.if_icmp .le 52, 3) := by decide +kernel
theorem d1_148 : decode prog_189_method_8_code 148 = .ok (.iload_n 0, 1) := by decide +kernel
theorem d1_149 : decode prog_189_method_8_code 149 = .ok (.sipush 12289, 3) := by decide +kernel
theorem d1_152 : decode prog_189_method_8_code 152 = .ok (.if_icmp .lt 9, 3) := by decide +kernel
theorem d1_155 : decode prog_189_method_8_code 155 = .ok (.iload_n 0, 1) := by decide +kernel
theorem d1_156 : decode prog_189_method_8_code 156 = .ok (.ldc 44, 2) := by decide +kernel
theorem d1_158 : decode prog_189_method_8_code 158 = .ok (.if_icmp .le 39, 3) := by decide +kernel
theorem d1_161 : decode prog_189_method_8_code 161 = .ok (.iload_n 0, 1) := by decide +kernel
theorem d1_162 : decode prog_189_method_8_code 162 = .ok (.ldc 49, 2) := by decide +kernel
theorem d1_164 : decode prog_189_method_8_code 164 = .ok (.if_icmp .lt 9, 3) := by decide +kernel
theorem d1_167 : decode prog_189_method_8_code 167 = .ok (.iload_n 0, 1) := by decide +kernel
theorem d1_168 : decode prog_189_method_8_code 168 = .ok (.ldc 50, 2) := by decide +kernel
theorem d1_170 : decode prog_189_method_8_code 170 = .ok (.if_icmp .le 27, 3) := by decide +kernel
theorem d1_173 : decode prog_189_method_8_code 173 = .ok (.iload_n 0, 1) := by decide +kernel
theorem d1_174 : decode prog_189_method_8_code 174 = .ok (.ldc 51, 2) := by decide +kernel
theorem d1_176 : decode prog_189_method_8_code 176 = .ok (.if_icmp .lt 9, 3) := by decide +kernel
theorem d1_179 : decode prog_189_method_8_code 179 = .ok (.iload_n 0, 1) := by decide +kernel
theorem d1_180 : decode prog_189_method_8_code 180 = .ok (.ldc 46, 2) := by decide +kernel
theorem d1_182 : decode prog_189_method_8_code 182 = .ok (.if_icmp .le 15, 3) := by decide +kernel
theorem d1_185 : decode prog_189_method_8_code 185 = .ok (.iload_n 0, 1) := by decide +kernel
theorem d1_186 : decode prog_189_method_8_code 186 = .ok (.ldc 47, 2) := by decide +kernel
theorem d1_188 : decode prog_189_method_8_code 188 = .ok (.if_icmp .lt 13, 3) := by decide +kernel
theorem d1_191 : decode prog_189_method_8_code 191 = .ok (.iload_n 0, 1) := by decide +kernel
theorem d1_192 : decode prog_189_method_8_code 192 = .ok (.ldc 52, 2) := by decide +kernel
theorem d1_194 : decode prog_189_method_8_code 194 = .ok (.if_icmp .gt 7, 3) := by decide +kernel
theorem d1_197 : decode prog_189_method_8_code 197 = .ok (.iconst 1, 1) := by decide +kernel
theorem d1_198 : decode prog_189_method_8_code 198 = .ok (.goto 4, 3) := by decide +kernel
theorem d1_201 : decode prog_189_method_8_code 201 = .ok (.iconst 0, 1) := by decide +kernel
theorem d1_202 : decode prog_189_method_8_code 202 = .ok (.ireturn, 1) := by decide +kernel
def f1_202 (i0 : Int32) (is0 : Int32) : Int32 := (nar .boolean is0)
set_option maxRecDepth 65536 in
set_option maxHeartbeats 40000000 in
theorem b1_202 {p : Program} {l : Launch} {e : Env} {s : State} {m : MethodId} {args : Array Value} {below : List Frame} {meth : Method} {c : Code} {T : State} {locs : List Loc} {cells slots : Nat} {Z : State} {a0 : Array Value} {h : Heap} {n0 : Nat} {Q : Option Value → Heap → List Loc → Prop} (i0 : Int32) (is0 : Int32) (hw : ∀ d ∈ tables_1, d.before a0 Z = true) (X : Stand p l e ({ frames := 0, cells := 0, slots := 0, locals := 0 } : Room) s m args below meth c T locs cells slots) (hx : p.tables.exec = Jvm.exec) (hZ : Z.Warmed39 s.vm) (hby : c.code = prog_189_method_8_code) (hml : c.maxLocals = 1) (hown : s.vm.findClass "com/example/caddisfly/caddisfly/template/Text" = some m.cls) (hret : meth.sig.returnType = some .boolean) (hlk : meth.locks = false) (eT : T.heap = h) (N : Fr n0 locs) (hc : cells ≤ 0) (hs : slots ≤ 0) (v : Int32) (hv : v = f1_202 i0 is0) (hQ : ∀ L', Fr n0 L' → Q (some (.int v)) h L') :
    own_Fin p e below s Q 0 0 (T.setTop (mkF m 202 #[.val (.int i0)] [(.int is0)])) := by
  exact own_retN X hx hlk hret (by simp) (hb hby d1_202) (by omega) (by omega) eT N hQ (hv)
def f1_197 (i0 : Int32) : Int32 := f1_202 i0 (1 : Int32)
set_option maxRecDepth 65536 in
set_option maxHeartbeats 40000000 in
theorem b1_197 {p : Program} {l : Launch} {e : Env} {s : State} {m : MethodId} {args : Array Value} {below : List Frame} {meth : Method} {c : Code} {T : State} {locs : List Loc} {cells slots : Nat} {Z : State} {a0 : Array Value} {h : Heap} {n0 : Nat} {Q : Option Value → Heap → List Loc → Prop} (i0 : Int32) (hw : ∀ d ∈ tables_1, d.before a0 Z = true) (X : Stand p l e ({ frames := 0, cells := 0, slots := 0, locals := 0 } : Room) s m args below meth c T locs cells slots) (hx : p.tables.exec = Jvm.exec) (hZ : Z.Warmed39 s.vm) (hby : c.code = prog_189_method_8_code) (hml : c.maxLocals = 1) (hown : s.vm.findClass "com/example/caddisfly/caddisfly/template/Text" = some m.cls) (hret : meth.sig.returnType = some .boolean) (hlk : meth.locks = false) (eT : T.heap = h) (N : Fr n0 locs) (hc : cells ≤ 0) (hs : slots ≤ 0) (v : Int32) (hv : v = f1_197 i0) (hQ : ∀ L', Fr n0 L' → Q (some (.int v)) h L') :
    own_Fin p e below s Q 0 0 (T.setTop (mkF m 197 #[.val (.int i0)] [])) := by
  refine own_step (fun t k => XS.iconst X.here hx rfl (hb hby d1_197) k) ?_
  show own_Fin p e below s Q 0 0 (T.setTop (mkF m 198 #[.val (.int i0)] [(.int (1 : Int32))]))
  refine own_step (fun t k => XS.goto X.here hx rfl (pc0 := 198) (pc' := 202) rfl (hb hby d1_198) (by decide) (by decide) k) ?_
  exact b1_202 i0 (1 : Int32) hw X hx hZ hby hml hown hret hlk eT N (by omega) (by omega) v (hv) hQ
def f1_201 (i0 : Int32) : Int32 := f1_202 i0 (0 : Int32)
set_option maxRecDepth 65536 in
set_option maxHeartbeats 40000000 in
theorem b1_201 {p : Program} {l : Launch} {e : Env} {s : State} {m : MethodId} {args : Array Value} {below : List Frame} {meth : Method} {c : Code} {T : State} {locs : List Loc} {cells slots : Nat} {Z : State} {a0 : Array Value} {h : Heap} {n0 : Nat} {Q : Option Value → Heap → List Loc → Prop} (i0 : Int32) (hw : ∀ d ∈ tables_1, d.before a0 Z = true) (X : Stand p l e ({ frames := 0, cells := 0, slots := 0, locals := 0 } : Room) s m args below meth c T locs cells slots) (hx : p.tables.exec = Jvm.exec) (hZ : Z.Warmed39 s.vm) (hby : c.code = prog_189_method_8_code) (hml : c.maxLocals = 1) (hown : s.vm.findClass "com/example/caddisfly/caddisfly/template/Text" = some m.cls) (hret : meth.sig.returnType = some .boolean) (hlk : meth.locks = false) (eT : T.heap = h) (N : Fr n0 locs) (hc : cells ≤ 0) (hs : slots ≤ 0) (v : Int32) (hv : v = f1_201 i0) (hQ : ∀ L', Fr n0 L' → Q (some (.int v)) h L') :
    own_Fin p e below s Q 0 0 (T.setTop (mkF m 201 #[.val (.int i0)] [])) := by
  refine own_step (fun t k => XS.iconst X.here hx rfl (hb hby d1_201) k) ?_
  exact b1_202 i0 (0 : Int32) hw X hx hZ hby hml hown hret hlk eT N (by omega) (by omega) v (hv) hQ
def f1_191 (i0 : Int32) : Int32 := if (983039 : Int32) < i0 then f1_201 i0 else f1_197 i0
set_option maxRecDepth 65536 in
set_option maxHeartbeats 40000000 in
theorem b1_191 {p : Program} {l : Launch} {e : Env} {s : State} {m : MethodId} {args : Array Value} {below : List Frame} {meth : Method} {c : Code} {T : State} {locs : List Loc} {cells slots : Nat} {Z : State} {a0 : Array Value} {h : Heap} {n0 : Nat} {Q : Option Value → Heap → List Loc → Prop} (i0 : Int32) (hw : ∀ d ∈ tables_1, d.before a0 Z = true) (X : Stand p l e ({ frames := 0, cells := 0, slots := 0, locals := 0 } : Room) s m args below meth c T locs cells slots) (hx : p.tables.exec = Jvm.exec) (hZ : Z.Warmed39 s.vm) (hby : c.code = prog_189_method_8_code) (hml : c.maxLocals = 1) (hown : s.vm.findClass "com/example/caddisfly/caddisfly/template/Text" = some m.cls) (hret : meth.sig.returnType = some .boolean) (hlk : meth.locks = false) (eT : T.heap = h) (N : Fr n0 locs) (hc : cells ≤ 0) (hs : slots ≤ 0) (v : Int32) (hv : v = f1_191 i0) (hQ : ∀ L', Fr n0 L' → Q (some (.int v)) h L') :
    own_Fin p e below s Q 0 0 (T.setTop (mkF m 191 #[.val (.int i0)] [])) := by
  refine own_step (fun t k => XS.iloadN X.here hx rfl (hb hby d1_191) rfl  k) ?_
  show own_Fin p e below s Q 0 0 (T.setTop (mkF m 192 #[.val (.int i0)] [(.int i0)]))
  refine own_step (X.ldcInt hx hown (mvT hZ (hw _ (List.mem_of_getElem? (i := 18) rfl))) (g := (mkF m 192 #[.val (.int i0)] [(.int i0)])) rfl (hb hby d1_192)) ?_
  show own_Fin p e below s Q 0 0 (T.setTop (mkF m 194 #[.val (.int i0)] [(.int (983039 : Int32)), (.int i0)]))
  by_cases hB194_123 : (983039 : Int32) < i0
  · refine own_step (fun t k => XS.icmpYes X.here hx rfl (pc0 := 194) (pc' := 201) rfl (hb hby d1_194) rfl (tlt hB194_123).2.2.1 (by decide) (by decide) k) ?_
    exact b1_201 i0 hw X hx hZ hby hml hown hret hlk eT N (by omega) (by omega) v (hv.trans (if_pos hB194_123)) hQ
  · refine own_step (fun t k => XS.icmpNo X.here hx rfl (hb hby d1_194) rfl (flt hB194_123).2.2.1 k) ?_
    exact b1_197 i0 hw X hx hZ hby hml hown hret hlk eT N (by omega) (by omega) v (hv.trans (if_neg hB194_123)) hQ
def f1_185 (i0 : Int32) : Int32 := if i0 < (65536 : Int32) then f1_201 i0 else f1_191 i0
set_option maxRecDepth 65536 in
set_option maxHeartbeats 40000000 in
theorem b1_185 {p : Program} {l : Launch} {e : Env} {s : State} {m : MethodId} {args : Array Value} {below : List Frame} {meth : Method} {c : Code} {T : State} {locs : List Loc} {cells slots : Nat} {Z : State} {a0 : Array Value} {h : Heap} {n0 : Nat} {Q : Option Value → Heap → List Loc → Prop} (i0 : Int32) (hw : ∀ d ∈ tables_1, d.before a0 Z = true) (X : Stand p l e ({ frames := 0, cells := 0, slots := 0, locals := 0 } : Room) s m args below meth c T locs cells slots) (hx : p.tables.exec = Jvm.exec) (hZ : Z.Warmed39 s.vm) (hby : c.code = prog_189_method_8_code) (hml : c.maxLocals = 1) (hown : s.vm.findClass "com/example/caddisfly/caddisfly/template/Text" = some m.cls) (hret : meth.sig.returnType = some .boolean) (hlk : meth.locks = false) (eT : T.heap = h) (N : Fr n0 locs) (hc : cells ≤ 0) (hs : slots ≤ 0) (v : Int32) (hv : v = f1_185 i0) (hQ : ∀ L', Fr n0 L' → Q (some (.int v)) h L') :
    own_Fin p e below s Q 0 0 (T.setTop (mkF m 185 #[.val (.int i0)] [])) := by
  refine own_step (fun t k => XS.iloadN X.here hx rfl (hb hby d1_185) rfl  k) ?_
  show own_Fin p e below s Q 0 0 (T.setTop (mkF m 186 #[.val (.int i0)] [(.int i0)]))
  refine own_step (X.ldcInt hx hown (mvT hZ (hw _ (List.mem_of_getElem? (i := 6) rfl))) (g := (mkF m 186 #[.val (.int i0)] [(.int i0)])) rfl (hb hby d1_186)) ?_
  show own_Fin p e below s Q 0 0 (T.setTop (mkF m 188 #[.val (.int i0)] [(.int (65536 : Int32)), (.int i0)]))
  by_cases hB188_120 : i0 < (65536 : Int32)
  · refine own_step (fun t k => XS.icmpYes X.here hx rfl (pc0 := 188) (pc' := 201) rfl (hb hby d1_188) rfl (tlt hB188_120).1 (by decide) (by decide) k) ?_
    exact b1_201 i0 hw X hx hZ hby hml hown hret hlk eT N (by omega) (by omega) v (hv.trans (if_pos hB188_120)) hQ
  · refine own_step (fun t k => XS.icmpNo X.here hx rfl (hb hby d1_188) rfl (flt hB188_120).1 k) ?_
    exact b1_191 i0 hw X hx hZ hby hml hown hret hlk eT N (by omega) (by omega) v (hv.trans (if_neg hB188_120)) hQ
def f1_179 (i0 : Int32) : Int32 := if (65533 : Int32) < i0 then f1_185 i0 else f1_197 i0
set_option maxRecDepth 65536 in
set_option maxHeartbeats 40000000 in
theorem b1_179 {p : Program} {l : Launch} {e : Env} {s : State} {m : MethodId} {args : Array Value} {below : List Frame} {meth : Method} {c : Code} {T : State} {locs : List Loc} {cells slots : Nat} {Z : State} {a0 : Array Value} {h : Heap} {n0 : Nat} {Q : Option Value → Heap → List Loc → Prop} (i0 : Int32) (hw : ∀ d ∈ tables_1, d.before a0 Z = true) (X : Stand p l e ({ frames := 0, cells := 0, slots := 0, locals := 0 } : Room) s m args below meth c T locs cells slots) (hx : p.tables.exec = Jvm.exec) (hZ : Z.Warmed39 s.vm) (hby : c.code = prog_189_method_8_code) (hml : c.maxLocals = 1) (hown : s.vm.findClass "com/example/caddisfly/caddisfly/template/Text" = some m.cls) (hret : meth.sig.returnType = some .boolean) (hlk : meth.locks = false) (eT : T.heap = h) (N : Fr n0 locs) (hc : cells ≤ 0) (hs : slots ≤ 0) (v : Int32) (hv : v = f1_179 i0) (hQ : ∀ L', Fr n0 L' → Q (some (.int v)) h L') :
    own_Fin p e below s Q 0 0 (T.setTop (mkF m 179 #[.val (.int i0)] [])) := by
  refine own_step (fun t k => XS.iloadN X.here hx rfl (hb hby d1_179) rfl  k) ?_
  show own_Fin p e below s Q 0 0 (T.setTop (mkF m 180 #[.val (.int i0)] [(.int i0)]))
  refine own_step (X.ldcInt hx hown (mvT hZ (hw _ (List.mem_of_getElem? (i := 17) rfl))) (g := (mkF m 180 #[.val (.int i0)] [(.int i0)])) rfl (hb hby d1_180)) ?_
  show own_Fin p e below s Q 0 0 (T.setTop (mkF m 182 #[.val (.int i0)] [(.int (65533 : Int32)), (.int i0)]))
  by_cases hB182_127 : (65533 : Int32) < i0
  · refine own_step (fun t k => XS.icmpNo X.here hx rfl (hb hby d1_182) rfl (tlt hB182_127).2.2.2 k) ?_
    exact b1_185 i0 hw X hx hZ hby hml hown hret hlk eT N (by omega) (by omega) v (hv.trans (if_pos hB182_127)) hQ
  · refine own_step (fun t k => XS.icmpYes X.here hx rfl (pc0 := 182) (pc' := 197) rfl (hb hby d1_182) rfl (flt hB182_127).2.2.2 (by decide) (by decide) k) ?_
    exact b1_197 i0 hw X hx hZ hby hml hown hret hlk eT N (by omega) (by omega) v (hv.trans (if_neg hB182_127)) hQ
def f1_173 (i0 : Int32) : Int32 := if i0 < (65008 : Int32) then f1_185 i0 else f1_179 i0
set_option maxRecDepth 65536 in
set_option maxHeartbeats 40000000 in
theorem b1_173 {p : Program} {l : Launch} {e : Env} {s : State} {m : MethodId} {args : Array Value} {below : List Frame} {meth : Method} {c : Code} {T : State} {locs : List Loc} {cells slots : Nat} {Z : State} {a0 : Array Value} {h : Heap} {n0 : Nat} {Q : Option Value → Heap → List Loc → Prop} (i0 : Int32) (hw : ∀ d ∈ tables_1, d.before a0 Z = true) (X : Stand p l e ({ frames := 0, cells := 0, slots := 0, locals := 0 } : Room) s m args below meth c T locs cells slots) (hx : p.tables.exec = Jvm.exec) (hZ : Z.Warmed39 s.vm) (hby : c.code = prog_189_method_8_code) (hml : c.maxLocals = 1) (hown : s.vm.findClass "com/example/caddisfly/caddisfly/template/Text" = some m.cls) (hret : meth.sig.returnType = some .boolean) (hlk : meth.locks = false) (eT : T.heap = h) (N : Fr n0 locs) (hc : cells ≤ 0) (hs : slots ≤ 0) (v : Int32) (hv : v = f1_173 i0) (hQ : ∀ L', Fr n0 L' → Q (some (.int v)) h L') :
    own_Fin p e below s Q 0 0 (T.setTop (mkF m 173 #[.val (.int i0)] [])) := by
  refine own_step (fun t k => XS.iloadN X.here hx rfl (hb hby d1_173) rfl  k) ?_
  show own_Fin p e below s Q 0 0 (T.setTop (mkF m 174 #[.val (.int i0)] [(.int i0)]))
  refine own_step (X.ldcInt hx hown (mvT hZ (hw _ (List.mem_of_getElem? (i := 5) rfl))) (g := (mkF m 174 #[.val (.int i0)] [(.int i0)])) rfl (hb hby d1_174)) ?_
  show own_Fin p e below s Q 0 0 (T.setTop (mkF m 176 #[.val (.int i0)] [(.int (65008 : Int32)), (.int i0)]))
  by_cases hB176_118 : i0 < (65008 : Int32)
  · refine own_step (fun t k => XS.icmpYes X.here hx rfl (pc0 := 176) (pc' := 185) rfl (hb hby d1_176) rfl (tlt hB176_118).1 (by decide) (by decide) k) ?_
    exact b1_185 i0 hw X hx hZ hby hml hown hret hlk eT N (by omega) (by omega) v (hv.trans (if_pos hB176_118)) hQ
  · refine own_step (fun t k => XS.icmpNo X.here hx rfl (hb hby d1_176) rfl (flt hB176_118).1 k) ?_
    exact b1_179 i0 hw X hx hZ hby hml hown hret hlk eT N (by omega) (by omega) v (hv.trans (if_neg hB176_118)) hQ
def f1_167 (i0 : Int32) : Int32 := if (64975 : Int32) < i0 then f1_173 i0 else f1_197 i0
set_option maxRecDepth 65536 in
set_option maxHeartbeats 40000000 in
theorem b1_167 {p : Program} {l : Launch} {e : Env} {s : State} {m : MethodId} {args : Array Value} {below : List Frame} {meth : Method} {c : Code} {T : State} {locs : List Loc} {cells slots : Nat} {Z : State} {a0 : Array Value} {h : Heap} {n0 : Nat} {Q : Option Value → Heap → List Loc → Prop} (i0 : Int32) (hw : ∀ d ∈ tables_1, d.before a0 Z = true) (X : Stand p l e ({ frames := 0, cells := 0, slots := 0, locals := 0 } : Room) s m args below meth c T locs cells slots) (hx : p.tables.exec = Jvm.exec) (hZ : Z.Warmed39 s.vm) (hby : c.code = prog_189_method_8_code) (hml : c.maxLocals = 1) (hown : s.vm.findClass "com/example/caddisfly/caddisfly/template/Text" = some m.cls) (hret : meth.sig.returnType = some .boolean) (hlk : meth.locks = false) (eT : T.heap = h) (N : Fr n0 locs) (hc : cells ≤ 0) (hs : slots ≤ 0) (v : Int32) (hv : v = f1_167 i0) (hQ : ∀ L', Fr n0 L' → Q (some (.int v)) h L') :
    own_Fin p e below s Q 0 0 (T.setTop (mkF m 167 #[.val (.int i0)] [])) := by
  refine own_step (fun t k => XS.iloadN X.here hx rfl (hb hby d1_167) rfl  k) ?_
  show own_Fin p e below s Q 0 0 (T.setTop (mkF m 168 #[.val (.int i0)] [(.int i0)]))
  refine own_step (X.ldcInt hx hown (mvT hZ (hw _ (List.mem_of_getElem? (i := 16) rfl))) (g := (mkF m 168 #[.val (.int i0)] [(.int i0)])) rfl (hb hby d1_168)) ?_
  show own_Fin p e below s Q 0 0 (T.setTop (mkF m 170 #[.val (.int i0)] [(.int (64975 : Int32)), (.int i0)]))
  by_cases hB170_131 : (64975 : Int32) < i0
  · refine own_step (fun t k => XS.icmpNo X.here hx rfl (hb hby d1_170) rfl (tlt hB170_131).2.2.2 k) ?_
    exact b1_173 i0 hw X hx hZ hby hml hown hret hlk eT N (by omega) (by omega) v (hv.trans (if_pos hB170_131)) hQ
  · refine own_step (fun t k => XS.icmpYes X.here hx rfl (pc0 := 170) (pc' := 197) rfl (hb hby d1_170) rfl (flt hB170_131).2.2.2 (by decide) (by decide) k) ?_
    exact b1_197 i0 hw X hx hZ hby hml hown hret hlk eT N (by omega) (by omega) v (hv.trans (if_neg hB170_131)) hQ
def f1_161 (i0 : Int32) : Int32 := if i0 < (63744 : Int32) then f1_173 i0 else f1_167 i0
set_option maxRecDepth 65536 in
set_option maxHeartbeats 40000000 in
theorem b1_161 {p : Program} {l : Launch} {e : Env} {s : State} {m : MethodId} {args : Array Value} {below : List Frame} {meth : Method} {c : Code} {T : State} {locs : List Loc} {cells slots : Nat} {Z : State} {a0 : Array Value} {h : Heap} {n0 : Nat} {Q : Option Value → Heap → List Loc → Prop} (i0 : Int32) (hw : ∀ d ∈ tables_1, d.before a0 Z = true) (X : Stand p l e ({ frames := 0, cells := 0, slots := 0, locals := 0 } : Room) s m args below meth c T locs cells slots) (hx : p.tables.exec = Jvm.exec) (hZ : Z.Warmed39 s.vm) (hby : c.code = prog_189_method_8_code) (hml : c.maxLocals = 1) (hown : s.vm.findClass "com/example/caddisfly/caddisfly/template/Text" = some m.cls) (hret : meth.sig.returnType = some .boolean) (hlk : meth.locks = false) (eT : T.heap = h) (N : Fr n0 locs) (hc : cells ≤ 0) (hs : slots ≤ 0) (v : Int32) (hv : v = f1_161 i0) (hQ : ∀ L', Fr n0 L' → Q (some (.int v)) h L') :
    own_Fin p e below s Q 0 0 (T.setTop (mkF m 161 #[.val (.int i0)] [])) := by
  refine own_step (fun t k => XS.iloadN X.here hx rfl (hb hby d1_161) rfl  k) ?_
  show own_Fin p e below s Q 0 0 (T.setTop (mkF m 162 #[.val (.int i0)] [(.int i0)]))
  refine own_step (X.ldcInt hx hown (mvT hZ (hw _ (List.mem_of_getElem? (i := 4) rfl))) (g := (mkF m 162 #[.val (.int i0)] [(.int i0)])) rfl (hb hby d1_162)) ?_
  show own_Fin p e below s Q 0 0 (T.setTop (mkF m 164 #[.val (.int i0)] [(.int (63744 : Int32)), (.int i0)]))
  by_cases hB164_116 : i0 < (63744 : Int32)
  · refine own_step (fun t k => XS.icmpYes X.here hx rfl (pc0 := 164) (pc' := 173) rfl (hb hby d1_164) rfl (tlt hB164_116).1 (by decide) (by decide) k) ?_
    exact b1_173 i0 hw X hx hZ hby hml hown hret hlk eT N (by omega) (by omega) v (hv.trans (if_pos hB164_116)) hQ
  · refine own_step (fun t k => XS.icmpNo X.here hx rfl (hb hby d1_164) rfl (flt hB164_116).1 k) ?_
    exact b1_167 i0 hw X hx hZ hby hml hown hret hlk eT N (by omega) (by omega) v (hv.trans (if_neg hB164_116)) hQ
def f1_155 (i0 : Int32) : Int32 := if (55295 : Int32) < i0 then f1_161 i0 else f1_197 i0
set_option maxRecDepth 65536 in
set_option maxHeartbeats 40000000 in
theorem b1_155 {p : Program} {l : Launch} {e : Env} {s : State} {m : MethodId} {args : Array Value} {below : List Frame} {meth : Method} {c : Code} {T : State} {locs : List Loc} {cells slots : Nat} {Z : State} {a0 : Array Value} {h : Heap} {n0 : Nat} {Q : Option Value → Heap → List Loc → Prop} (i0 : Int32) (hw : ∀ d ∈ tables_1, d.before a0 Z = true) (X : Stand p l e ({ frames := 0, cells := 0, slots := 0, locals := 0 } : Room) s m args below meth c T locs cells slots) (hx : p.tables.exec = Jvm.exec) (hZ : Z.Warmed39 s.vm) (hby : c.code = prog_189_method_8_code) (hml : c.maxLocals = 1) (hown : s.vm.findClass "com/example/caddisfly/caddisfly/template/Text" = some m.cls) (hret : meth.sig.returnType = some .boolean) (hlk : meth.locks = false) (eT : T.heap = h) (N : Fr n0 locs) (hc : cells ≤ 0) (hs : slots ≤ 0) (v : Int32) (hv : v = f1_155 i0) (hQ : ∀ L', Fr n0 L' → Q (some (.int v)) h L') :
    own_Fin p e below s Q 0 0 (T.setTop (mkF m 155 #[.val (.int i0)] [])) := by
  refine own_step (fun t k => XS.iloadN X.here hx rfl (hb hby d1_155) rfl  k) ?_
  show own_Fin p e below s Q 0 0 (T.setTop (mkF m 156 #[.val (.int i0)] [(.int i0)]))
  refine own_step (X.ldcInt hx hown (mvT hZ (hw _ (List.mem_of_getElem? (i := 15) rfl))) (g := (mkF m 156 #[.val (.int i0)] [(.int i0)])) rfl (hb hby d1_156)) ?_
  show own_Fin p e below s Q 0 0 (T.setTop (mkF m 158 #[.val (.int i0)] [(.int (55295 : Int32)), (.int i0)]))
  by_cases hB158_135 : (55295 : Int32) < i0
  · refine own_step (fun t k => XS.icmpNo X.here hx rfl (hb hby d1_158) rfl (tlt hB158_135).2.2.2 k) ?_
    exact b1_161 i0 hw X hx hZ hby hml hown hret hlk eT N (by omega) (by omega) v (hv.trans (if_pos hB158_135)) hQ
  · refine own_step (fun t k => XS.icmpYes X.here hx rfl (pc0 := 158) (pc' := 197) rfl (hb hby d1_158) rfl (flt hB158_135).2.2.2 (by decide) (by decide) k) ?_
    exact b1_197 i0 hw X hx hZ hby hml hown hret hlk eT N (by omega) (by omega) v (hv.trans (if_neg hB158_135)) hQ
def f1_148 (i0 : Int32) : Int32 := if i0 < (12289 : Int32) then f1_161 i0 else f1_155 i0
set_option maxRecDepth 65536 in
set_option maxHeartbeats 40000000 in
theorem b1_148 {p : Program} {l : Launch} {e : Env} {s : State} {m : MethodId} {args : Array Value} {below : List Frame} {meth : Method} {c : Code} {T : State} {locs : List Loc} {cells slots : Nat} {Z : State} {a0 : Array Value} {h : Heap} {n0 : Nat} {Q : Option Value → Heap → List Loc → Prop} (i0 : Int32) (hw : ∀ d ∈ tables_1, d.before a0 Z = true) (X : Stand p l e ({ frames := 0, cells := 0, slots := 0, locals := 0 } : Room) s m args below meth c T locs cells slots) (hx : p.tables.exec = Jvm.exec) (hZ : Z.Warmed39 s.vm) (hby : c.code = prog_189_method_8_code) (hml : c.maxLocals = 1) (hown : s.vm.findClass "com/example/caddisfly/caddisfly/template/Text" = some m.cls) (hret : meth.sig.returnType = some .boolean) (hlk : meth.locks = false) (eT : T.heap = h) (N : Fr n0 locs) (hc : cells ≤ 0) (hs : slots ≤ 0) (v : Int32) (hv : v = f1_148 i0) (hQ : ∀ L', Fr n0 L' → Q (some (.int v)) h L') :
    own_Fin p e below s Q 0 0 (T.setTop (mkF m 148 #[.val (.int i0)] [])) := by
  refine own_step (fun t k => XS.iloadN X.here hx rfl (hb hby d1_148) rfl  k) ?_
  show own_Fin p e below s Q 0 0 (T.setTop (mkF m 149 #[.val (.int i0)] [(.int i0)]))
  refine own_step (fun t k => XS.sipush X.here hx rfl (hb hby d1_149) k) ?_
  show own_Fin p e below s Q 0 0 (T.setTop (mkF m 152 #[.val (.int i0)] [(.int (12289 : Int32)), (.int i0)]))
  by_cases hB152_114 : i0 < (12289 : Int32)
  · refine own_step (fun t k => XS.icmpYes X.here hx rfl (pc0 := 152) (pc' := 161) rfl (hb hby d1_152) rfl (tlt hB152_114).1 (by decide) (by decide) k) ?_
    exact b1_161 i0 hw X hx hZ hby hml hown hret hlk eT N (by omega) (by omega) v (hv.trans (if_pos hB152_114)) hQ
  · refine own_step (fun t k => XS.icmpNo X.here hx rfl (hb hby d1_152) rfl (flt hB152_114).1 k) ?_
    exact b1_155 i0 hw X hx hZ hby hml hown hret hlk eT N (by omega) (by omega) v (hv.trans (if_neg hB152_114)) hQ
def f1_141 (i0 : Int32) : Int32 := if (12271 : Int32) < i0 then f1_148 i0 else f1_197 i0
set_option maxRecDepth 65536 in
set_option maxHeartbeats 40000000 in
theorem b1_141 {p : Program} {l : Launch} {e : Env} {s : State} {m : MethodId} {args : Array Value} {below : List Frame} {meth : Method} {c : Code} {T : State} {locs : List Loc} {cells slots : Nat} {Z : State} {a0 : Array Value} {h : Heap} {n0 : Nat} {Q : Option Value → Heap → List Loc → Prop} (i0 : Int32) (hw : ∀ d ∈ tables_1, d.before a0 Z = true) (X : Stand p l e ({ frames := 0, cells := 0, slots := 0, locals := 0 } : Room) s m args below meth c T locs cells slots) (hx : p.tables.exec = Jvm.exec) (hZ : Z.Warmed39 s.vm) (hby : c.code = prog_189_method_8_code) (hml : c.maxLocals = 1) (hown : s.vm.findClass "com/example/caddisfly/caddisfly/template/Text" = some m.cls) (hret : meth.sig.returnType = some .boolean) (hlk : meth.locks = false) (eT : T.heap = h) (N : Fr n0 locs) (hc : cells ≤ 0) (hs : slots ≤ 0) (v : Int32) (hv : v = f1_141 i0) (hQ : ∀ L', Fr n0 L' → Q (some (.int v)) h L') :
    own_Fin p e below s Q 0 0 (T.setTop (mkF m 141 #[.val (.int i0)] [])) := by
  refine own_step (fun t k => XS.iloadN X.here hx rfl (hb hby d1_141) rfl  k) ?_
  show own_Fin p e below s Q 0 0 (T.setTop (mkF m 142 #[.val (.int i0)] [(.int i0)]))
  refine own_step (fun t k => XS.sipush X.here hx rfl (hb hby d1_142) k) ?_
  show own_Fin p e below s Q 0 0 (T.setTop (mkF m 145 #[.val (.int i0)] [(.int (12271 : Int32)), (.int i0)]))
  by_cases hB145_139 : (12271 : Int32) < i0
  · refine own_step (fun t k => XS.icmpNo X.here hx rfl (hb hby d1_145) rfl (tlt hB145_139).2.2.2 k) ?_
    exact b1_148 i0 hw X hx hZ hby hml hown hret hlk eT N (by omega) (by omega) v (hv.trans (if_pos hB145_139)) hQ
  · refine own_step (fun t k => XS.icmpYes X.here hx rfl (pc0 := 145) (pc' := 197) rfl (hb hby d1_145) rfl (flt hB145_139).2.2.2 (by decide) (by decide) k) ?_
    exact b1_197 i0 hw X hx hZ hby hml hown hret hlk eT N (by omega) (by omega) v (hv.trans (if_neg hB145_139)) hQ
def f1_134 (i0 : Int32) : Int32 := if i0 < (11264 : Int32) then f1_148 i0 else f1_141 i0
set_option maxRecDepth 65536 in
set_option maxHeartbeats 40000000 in
theorem b1_134 {p : Program} {l : Launch} {e : Env} {s : State} {m : MethodId} {args : Array Value} {below : List Frame} {meth : Method} {c : Code} {T : State} {locs : List Loc} {cells slots : Nat} {Z : State} {a0 : Array Value} {h : Heap} {n0 : Nat} {Q : Option Value → Heap → List Loc → Prop} (i0 : Int32) (hw : ∀ d ∈ tables_1, d.before a0 Z = true) (X : Stand p l e ({ frames := 0, cells := 0, slots := 0, locals := 0 } : Room) s m args below meth c T locs cells slots) (hx : p.tables.exec = Jvm.exec) (hZ : Z.Warmed39 s.vm) (hby : c.code = prog_189_method_8_code) (hml : c.maxLocals = 1) (hown : s.vm.findClass "com/example/caddisfly/caddisfly/template/Text" = some m.cls) (hret : meth.sig.returnType = some .boolean) (hlk : meth.locks = false) (eT : T.heap = h) (N : Fr n0 locs) (hc : cells ≤ 0) (hs : slots ≤ 0) (v : Int32) (hv : v = f1_134 i0) (hQ : ∀ L', Fr n0 L' → Q (some (.int v)) h L') :
    own_Fin p e below s Q 0 0 (T.setTop (mkF m 134 #[.val (.int i0)] [])) := by
  refine own_step (fun t k => XS.iloadN X.here hx rfl (hb hby d1_134) rfl  k) ?_
  show own_Fin p e below s Q 0 0 (T.setTop (mkF m 135 #[.val (.int i0)] [(.int i0)]))
  refine own_step (fun t k => XS.sipush X.here hx rfl (hb hby d1_135) k) ?_
  show own_Fin p e below s Q 0 0 (T.setTop (mkF m 138 #[.val (.int i0)] [(.int (11264 : Int32)), (.int i0)]))
  by_cases hB138_112 : i0 < (11264 : Int32)
  · refine own_step (fun t k => XS.icmpYes X.here hx rfl (pc0 := 138) (pc' := 148) rfl (hb hby d1_138) rfl (tlt hB138_112).1 (by decide) (by decide) k) ?_
    exact b1_148 i0 hw X hx hZ hby hml hown hret hlk eT N (by omega) (by omega) v (hv.trans (if_pos hB138_112)) hQ
  · refine own_step (fun t k => XS.icmpNo X.here hx rfl (hb hby d1_138) rfl (flt hB138_112).1 k) ?_
    exact b1_141 i0 hw X hx hZ hby hml hown hret hlk eT N (by omega) (by omega) v (hv.trans (if_neg hB138_112)) hQ
def f1_127 (i0 : Int32) : Int32 := if (8591 : Int32) < i0 then f1_134 i0 else f1_197 i0
set_option maxRecDepth 65536 in
set_option maxHeartbeats 40000000 in
theorem b1_127 {p : Program} {l : Launch} {e : Env} {s : State} {m : MethodId} {args : Array Value} {below : List Frame} {meth : Method} {c : Code} {T : State} {locs : List Loc} {cells slots : Nat} {Z : State} {a0 : Array Value} {h : Heap} {n0 : Nat} {Q : Option Value → Heap → List Loc → Prop} (i0 : Int32) (hw : ∀ d ∈ tables_1, d.before a0 Z = true) (X : Stand p l e ({ frames := 0, cells := 0, slots := 0, locals := 0 } : Room) s m args below meth c T locs cells slots) (hx : p.tables.exec = Jvm.exec) (hZ : Z.Warmed39 s.vm) (hby : c.code = prog_189_method_8_code) (hml : c.maxLocals = 1) (hown : s.vm.findClass "com/example/caddisfly/caddisfly/template/Text" = some m.cls) (hret : meth.sig.returnType = some .boolean) (hlk : meth.locks = false) (eT : T.heap = h) (N : Fr n0 locs) (hc : cells ≤ 0) (hs : slots ≤ 0) (v : Int32) (hv : v = f1_127 i0) (hQ : ∀ L', Fr n0 L' → Q (some (.int v)) h L') :
    own_Fin p e below s Q 0 0 (T.setTop (mkF m 127 #[.val (.int i0)] [])) := by
  refine own_step (fun t k => XS.iloadN X.here hx rfl (hb hby d1_127) rfl  k) ?_
  show own_Fin p e below s Q 0 0 (T.setTop (mkF m 128 #[.val (.int i0)] [(.int i0)]))
  refine own_step (fun t k => XS.sipush X.here hx rfl (hb hby d1_128) k) ?_
  show own_Fin p e below s Q 0 0 (T.setTop (mkF m 131 #[.val (.int i0)] [(.int (8591 : Int32)), (.int i0)]))
  by_cases hB131_143 : (8591 : Int32) < i0
  · refine own_step (fun t k => XS.icmpNo X.here hx rfl (hb hby d1_131) rfl (tlt hB131_143).2.2.2 k) ?_
    exact b1_134 i0 hw X hx hZ hby hml hown hret hlk eT N (by omega) (by omega) v (hv.trans (if_pos hB131_143)) hQ
  · refine own_step (fun t k => XS.icmpYes X.here hx rfl (pc0 := 131) (pc' := 197) rfl (hb hby d1_131) rfl (flt hB131_143).2.2.2 (by decide) (by decide) k) ?_
    exact b1_197 i0 hw X hx hZ hby hml hown hret hlk eT N (by omega) (by omega) v (hv.trans (if_neg hB131_143)) hQ
def f1_120 (i0 : Int32) : Int32 := if i0 < (8304 : Int32) then f1_134 i0 else f1_127 i0
set_option maxRecDepth 65536 in
set_option maxHeartbeats 40000000 in
theorem b1_120 {p : Program} {l : Launch} {e : Env} {s : State} {m : MethodId} {args : Array Value} {below : List Frame} {meth : Method} {c : Code} {T : State} {locs : List Loc} {cells slots : Nat} {Z : State} {a0 : Array Value} {h : Heap} {n0 : Nat} {Q : Option Value → Heap → List Loc → Prop} (i0 : Int32) (hw : ∀ d ∈ tables_1, d.before a0 Z = true) (X : Stand p l e ({ frames := 0, cells := 0, slots := 0, locals := 0 } : Room) s m args below meth c T locs cells slots) (hx : p.tables.exec = Jvm.exec) (hZ : Z.Warmed39 s.vm) (hby : c.code = prog_189_method_8_code) (hml : c.maxLocals = 1) (hown : s.vm.findClass "com/example/caddisfly/caddisfly/template/Text" = some m.cls) (hret : meth.sig.returnType = some .boolean) (hlk : meth.locks = false) (eT : T.heap = h) (N : Fr n0 locs) (hc : cells ≤ 0) (hs : slots ≤ 0) (v : Int32) (hv : v = f1_120 i0) (hQ : ∀ L', Fr n0 L' → Q (some (.int v)) h L') :
    own_Fin p e below s Q 0 0 (T.setTop (mkF m 120 #[.val (.int i0)] [])) := by
  refine own_step (fun t k => XS.iloadN X.here hx rfl (hb hby d1_120) rfl  k) ?_
  show own_Fin p e below s Q 0 0 (T.setTop (mkF m 121 #[.val (.int i0)] [(.int i0)]))
  refine own_step (fun t k => XS.sipush X.here hx rfl (hb hby d1_121) k) ?_
  show own_Fin p e below s Q 0 0 (T.setTop (mkF m 124 #[.val (.int i0)] [(.int (8304 : Int32)), (.int i0)]))
  by_cases hB124_110 : i0 < (8304 : Int32)
  · refine own_step (fun t k => XS.icmpYes X.here hx rfl (pc0 := 124) (pc' := 134) rfl (hb hby d1_124) rfl (tlt hB124_110).1 (by decide) (by decide) k) ?_
    exact b1_134 i0 hw X hx hZ hby hml hown hret hlk eT N (by omega) (by omega) v (hv.trans (if_pos hB124_110)) hQ
  · refine own_step (fun t k => XS.icmpNo X.here hx rfl (hb hby d1_124) rfl (flt hB124_110).1 k) ?_
    exact b1_127 i0 hw X hx hZ hby hml hown hret hlk eT N (by omega) (by omega) v (hv.trans (if_neg hB124_110)) hQ
def f1_113 (i0 : Int32) : Int32 := if (8205 : Int32) < i0 then f1_120 i0 else f1_197 i0
set_option maxRecDepth 65536 in
set_option maxHeartbeats 40000000 in
theorem b1_113 {p : Program} {l : Launch} {e : Env} {s : State} {m : MethodId} {args : Array Value} {below : List Frame} {meth : Method} {c : Code} {T : State} {locs : List Loc} {cells slots : Nat} {Z : State} {a0 : Array Value} {h : Heap} {n0 : Nat} {Q : Option Value → Heap → List Loc → Prop} (i0 : Int32) (hw : ∀ d ∈ tables_1, d.before a0 Z = true) (X : Stand p l e ({ frames := 0, cells := 0, slots := 0, locals := 0 } : Room) s m args below meth c T locs cells slots) (hx : p.tables.exec = Jvm.exec) (hZ : Z.Warmed39 s.vm) (hby : c.code = prog_189_method_8_code) (hml : c.maxLocals = 1) (hown : s.vm.findClass "com/example/caddisfly/caddisfly/template/Text" = some m.cls) (hret : meth.sig.returnType = some .boolean) (hlk : meth.locks = false) (eT : T.heap = h) (N : Fr n0 locs) (hc : cells ≤ 0) (hs : slots ≤ 0) (v : Int32) (hv : v = f1_113 i0) (hQ : ∀ L', Fr n0 L' → Q (some (.int v)) h L') :
    own_Fin p e below s Q 0 0 (T.setTop (mkF m 113 #[.val (.int i0)] [])) := by
  refine own_step (fun t k => XS.iloadN X.here hx rfl (hb hby d1_113) rfl  k) ?_
  show own_Fin p e below s Q 0 0 (T.setTop (mkF m 114 #[.val (.int i0)] [(.int i0)]))
  refine own_step (fun t k => XS.sipush X.here hx rfl (hb hby d1_114) k) ?_
  show own_Fin p e below s Q 0 0 (T.setTop (mkF m 117 #[.val (.int i0)] [(.int (8205 : Int32)), (.int i0)]))
  by_cases hB117_147 : (8205 : Int32) < i0
  · refine own_step (fun t k => XS.icmpNo X.here hx rfl (hb hby d1_117) rfl (tlt hB117_147).2.2.2 k) ?_
    exact b1_120 i0 hw X hx hZ hby hml hown hret hlk eT N (by omega) (by omega) v (hv.trans (if_pos hB117_147)) hQ
  · refine own_step (fun t k => XS.icmpYes X.here hx rfl (pc0 := 117) (pc' := 197) rfl (hb hby d1_117) rfl (flt hB117_147).2.2.2 (by decide) (by decide) k) ?_
    exact b1_197 i0 hw X hx hZ hby hml hown hret hlk eT N (by omega) (by omega) v (hv.trans (if_neg hB117_147)) hQ
def f1_106 (i0 : Int32) : Int32 := if i0 < (8204 : Int32) then f1_120 i0 else f1_113 i0
set_option maxRecDepth 65536 in
set_option maxHeartbeats 40000000 in
theorem b1_106 {p : Program} {l : Launch} {e : Env} {s : State} {m : MethodId} {args : Array Value} {below : List Frame} {meth : Method} {c : Code} {T : State} {locs : List Loc} {cells slots : Nat} {Z : State} {a0 : Array Value} {h : Heap} {n0 : Nat} {Q : Option Value → Heap → List Loc → Prop} (i0 : Int32) (hw : ∀ d ∈ tables_1, d.before a0 Z = true) (X : Stand p l e ({ frames := 0, cells := 0, slots := 0, locals := 0 } : Room) s m args below meth c T locs cells slots) (hx : p.tables.exec = Jvm.exec) (hZ : Z.Warmed39 s.vm) (hby : c.code = prog_189_method_8_code) (hml : c.maxLocals = 1) (hown : s.vm.findClass "com/example/caddisfly/caddisfly/template/Text" = some m.cls) (hret : meth.sig.returnType = some .boolean) (hlk : meth.locks = false) (eT : T.heap = h) (N : Fr n0 locs) (hc : cells ≤ 0) (hs : slots ≤ 0) (v : Int32) (hv : v = f1_106 i0) (hQ : ∀ L', Fr n0 L' → Q (some (.int v)) h L') :
    own_Fin p e below s Q 0 0 (T.setTop (mkF m 106 #[.val (.int i0)] [])) := by
  refine own_step (fun t k => XS.iloadN X.here hx rfl (hb hby d1_106) rfl  k) ?_
  show own_Fin p e below s Q 0 0 (T.setTop (mkF m 107 #[.val (.int i0)] [(.int i0)]))
  refine own_step (fun t k => XS.sipush X.here hx rfl (hb hby d1_107) k) ?_
  show own_Fin p e below s Q 0 0 (T.setTop (mkF m 110 #[.val (.int i0)] [(.int (8204 : Int32)), (.int i0)]))
  by_cases hB110_108 : i0 < (8204 : Int32)
  · refine own_step (fun t k => XS.icmpYes X.here hx rfl (pc0 := 110) (pc' := 120) rfl (hb hby d1_110) rfl (tlt hB110_108).1 (by decide) (by decide) k) ?_
    exact b1_120 i0 hw X hx hZ hby hml hown hret hlk eT N (by omega) (by omega) v (hv.trans (if_pos hB110_108)) hQ
  · refine own_step (fun t k => XS.icmpNo X.here hx rfl (hb hby d1_110) rfl (flt hB110_108).1 k) ?_
    exact b1_113 i0 hw X hx hZ hby hml hown hret hlk eT N (by omega) (by omega) v (hv.trans (if_neg hB110_108)) hQ
def f1_99 (i0 : Int32) : Int32 := if (8191 : Int32) < i0 then f1_106 i0 else f1_197 i0
set_option maxRecDepth 65536 in
set_option maxHeartbeats 40000000 in
theorem b1_99 {p : Program} {l : Launch} {e : Env} {s : State} {m : MethodId} {args : Array Value} {below : List Frame} {meth : Method} {c : Code} {T : State} {locs : List Loc} {cells slots : Nat} {Z : State} {a0 : Array Value} {h : Heap} {n0 : Nat} {Q : Option Value → Heap → List Loc → Prop} (i0 : Int32) (hw : ∀ d ∈ tables_1, d.before a0 Z = true) (X : Stand p l e ({ frames := 0, cells := 0, slots := 0, locals := 0 } : Room) s m args below meth c T locs cells slots) (hx : p.tables.exec = Jvm.exec) (hZ : Z.Warmed39 s.vm) (hby : c.code = prog_189_method_8_code) (hml : c.maxLocals = 1) (hown : s.vm.findClass "com/example/caddisfly/caddisfly/template/Text" = some m.cls) (hret : meth.sig.returnType = some .boolean) (hlk : meth.locks = false) (eT : T.heap = h) (N : Fr n0 locs) (hc : cells ≤ 0) (hs : slots ≤ 0) (v : Int32) (hv : v = f1_99 i0) (hQ : ∀ L', Fr n0 L' → Q (some (.int v)) h L') :
    own_Fin p e below s Q 0 0 (T.setTop (mkF m 99 #[.val (.int i0)] [])) := by
  refine own_step (fun t k => XS.iloadN X.here hx rfl (hb hby d1_99) rfl  k) ?_
  show own_Fin p e below s Q 0 0 (T.setTop (mkF m 100 #[.val (.int i0)] [(.int i0)]))
  refine own_step (fun t k => XS.sipush X.here hx rfl (hb hby d1_100) k) ?_
  show own_Fin p e below s Q 0 0 (T.setTop (mkF m 103 #[.val (.int i0)] [(.int (8191 : Int32)), (.int i0)]))
  by_cases hB103_151 : (8191 : Int32) < i0
  · refine own_step (fun t k => XS.icmpNo X.here hx rfl (hb hby d1_103) rfl (tlt hB103_151).2.2.2 k) ?_
    exact b1_106 i0 hw X hx hZ hby hml hown hret hlk eT N (by omega) (by omega) v (hv.trans (if_pos hB103_151)) hQ
  · refine own_step (fun t k => XS.icmpYes X.here hx rfl (pc0 := 103) (pc' := 197) rfl (hb hby d1_103) rfl (flt hB103_151).2.2.2 (by decide) (by decide) k) ?_
    exact b1_197 i0 hw X hx hZ hby hml hown hret hlk eT N (by omega) (by omega) v (hv.trans (if_neg hB103_151)) hQ
def f1_92 (i0 : Int32) : Int32 := if i0 < (895 : Int32) then f1_106 i0 else f1_99 i0
set_option maxRecDepth 65536 in
set_option maxHeartbeats 40000000 in
theorem b1_92 {p : Program} {l : Launch} {e : Env} {s : State} {m : MethodId} {args : Array Value} {below : List Frame} {meth : Method} {c : Code} {T : State} {locs : List Loc} {cells slots : Nat} {Z : State} {a0 : Array Value} {h : Heap} {n0 : Nat} {Q : Option Value → Heap → List Loc → Prop} (i0 : Int32) (hw : ∀ d ∈ tables_1, d.before a0 Z = true) (X : Stand p l e ({ frames := 0, cells := 0, slots := 0, locals := 0 } : Room) s m args below meth c T locs cells slots) (hx : p.tables.exec = Jvm.exec) (hZ : Z.Warmed39 s.vm) (hby : c.code = prog_189_method_8_code) (hml : c.maxLocals = 1) (hown : s.vm.findClass "com/example/caddisfly/caddisfly/template/Text" = some m.cls) (hret : meth.sig.returnType = some .boolean) (hlk : meth.locks = false) (eT : T.heap = h) (N : Fr n0 locs) (hc : cells ≤ 0) (hs : slots ≤ 0) (v : Int32) (hv : v = f1_92 i0) (hQ : ∀ L', Fr n0 L' → Q (some (.int v)) h L') :
    own_Fin p e below s Q 0 0 (T.setTop (mkF m 92 #[.val (.int i0)] [])) := by
  refine own_step (fun t k => XS.iloadN X.here hx rfl (hb hby d1_92) rfl  k) ?_
  show own_Fin p e below s Q 0 0 (T.setTop (mkF m 93 #[.val (.int i0)] [(.int i0)]))
  refine own_step (fun t k => XS.sipush X.here hx rfl (hb hby d1_93) k) ?_
  show own_Fin p e below s Q 0 0 (T.setTop (mkF m 96 #[.val (.int i0)] [(.int (895 : Int32)), (.int i0)]))
  by_cases hB96_106 : i0 < (895 : Int32)
  · refine own_step (fun t k => XS.icmpYes X.here hx rfl (pc0 := 96) (pc' := 106) rfl (hb hby d1_96) rfl (tlt hB96_106).1 (by decide) (by decide) k) ?_
    exact b1_106 i0 hw X hx hZ hby hml hown hret hlk eT N (by omega) (by omega) v (hv.trans (if_pos hB96_106)) hQ
  · refine own_step (fun t k => XS.icmpNo X.here hx rfl (hb hby d1_96) rfl (flt hB96_106).1 k) ?_
    exact b1_99 i0 hw X hx hZ hby hml hown hret hlk eT N (by omega) (by omega) v (hv.trans (if_neg hB96_106)) hQ
def f1_85 (i0 : Int32) : Int32 := if (893 : Int32) < i0 then f1_92 i0 else f1_197 i0
set_option maxRecDepth 65536 in
set_option maxHeartbeats 40000000 in
theorem b1_85 {p : Program} {l : Launch} {e : Env} {s : State} {m : MethodId} {args : Array Value} {below : List Frame} {meth : Method} {c : Code} {T : State} {locs : List Loc} {cells slots : Nat} {Z : State} {a0 : Array Value} {h : Heap} {n0 : Nat} {Q : Option Value → Heap → List Loc → Prop} (i0 : Int32) (hw : ∀ d ∈ tables_1, d.before a0 Z = true) (X : Stand p l e ({ frames := 0, cells := 0, slots := 0, locals := 0 } : Room) s m args below meth c T locs cells slots) (hx : p.tables.exec = Jvm.exec) (hZ : Z.Warmed39 s.vm) (hby : c.code = prog_189_method_8_code) (hml : c.maxLocals = 1) (hown : s.vm.findClass "com/example/caddisfly/caddisfly/template/Text" = some m.cls) (hret : meth.sig.returnType = some .boolean) (hlk : meth.locks = false) (eT : T.heap = h) (N : Fr n0 locs) (hc : cells ≤ 0) (hs : slots ≤ 0) (v : Int32) (hv : v = f1_85 i0) (hQ : ∀ L', Fr n0 L' → Q (some (.int v)) h L') :
    own_Fin p e below s Q 0 0 (T.setTop (mkF m 85 #[.val (.int i0)] [])) := by
  refine own_step (fun t k => XS.iloadN X.here hx rfl (hb hby d1_85) rfl  k) ?_
  show own_Fin p e below s Q 0 0 (T.setTop (mkF m 86 #[.val (.int i0)] [(.int i0)]))
  refine own_step (fun t k => XS.sipush X.here hx rfl (hb hby d1_86) k) ?_
  show own_Fin p e below s Q 0 0 (T.setTop (mkF m 89 #[.val (.int i0)] [(.int (893 : Int32)), (.int i0)]))
  by_cases hB89_155 : (893 : Int32) < i0
  · refine own_step (fun t k => XS.icmpNo X.here hx rfl (hb hby d1_89) rfl (tlt hB89_155).2.2.2 k) ?_
    exact b1_92 i0 hw X hx hZ hby hml hown hret hlk eT N (by omega) (by omega) v (hv.trans (if_pos hB89_155)) hQ
  · refine own_step (fun t k => XS.icmpYes X.here hx rfl (pc0 := 89) (pc' := 197) rfl (hb hby d1_89) rfl (flt hB89_155).2.2.2 (by decide) (by decide) k) ?_
    exact b1_197 i0 hw X hx hZ hby hml hown hret hlk eT N (by omega) (by omega) v (hv.trans (if_neg hB89_155)) hQ
def f1_78 (i0 : Int32) : Int32 := if i0 < (880 : Int32) then f1_92 i0 else f1_85 i0
set_option maxRecDepth 65536 in
set_option maxHeartbeats 40000000 in
theorem b1_78 {p : Program} {l : Launch} {e : Env} {s : State} {m : MethodId} {args : Array Value} {below : List Frame} {meth : Method} {c : Code} {T : State} {locs : List Loc} {cells slots : Nat} {Z : State} {a0 : Array Value} {h : Heap} {n0 : Nat} {Q : Option Value → Heap → List Loc → Prop} (i0 : Int32) (hw : ∀ d ∈ tables_1, d.before a0 Z = true) (X : Stand p l e ({ frames := 0, cells := 0, slots := 0, locals := 0 } : Room) s m args below meth c T locs cells slots) (hx : p.tables.exec = Jvm.exec) (hZ : Z.Warmed39 s.vm) (hby : c.code = prog_189_method_8_code) (hml : c.maxLocals = 1) (hown : s.vm.findClass "com/example/caddisfly/caddisfly/template/Text" = some m.cls) (hret : meth.sig.returnType = some .boolean) (hlk : meth.locks = false) (eT : T.heap = h) (N : Fr n0 locs) (hc : cells ≤ 0) (hs : slots ≤ 0) (v : Int32) (hv : v = f1_78 i0) (hQ : ∀ L', Fr n0 L' → Q (some (.int v)) h L') :
    own_Fin p e below s Q 0 0 (T.setTop (mkF m 78 #[.val (.int i0)] [])) := by
  refine own_step (fun t k => XS.iloadN X.here hx rfl (hb hby d1_78) rfl  k) ?_
  show own_Fin p e below s Q 0 0 (T.setTop (mkF m 79 #[.val (.int i0)] [(.int i0)]))
  refine own_step (fun t k => XS.sipush X.here hx rfl (hb hby d1_79) k) ?_
  show own_Fin p e below s Q 0 0 (T.setTop (mkF m 82 #[.val (.int i0)] [(.int (880 : Int32)), (.int i0)]))
  by_cases hB82_104 : i0 < (880 : Int32)
  · refine own_step (fun t k => XS.icmpYes X.here hx rfl (pc0 := 82) (pc' := 92) rfl (hb hby d1_82) rfl (tlt hB82_104).1 (by decide) (by decide) k) ?_
    exact b1_92 i0 hw X hx hZ hby hml hown hret hlk eT N (by omega) (by omega) v (hv.trans (if_pos hB82_104)) hQ
  · refine own_step (fun t k => XS.icmpNo X.here hx rfl (hb hby d1_82) rfl (flt hB82_104).1 k) ?_
    exact b1_85 i0 hw X hx hZ hby hml hown hret hlk eT N (by omega) (by omega) v (hv.trans (if_neg hB82_104)) hQ
def f1_71 (i0 : Int32) : Int32 := if (767 : Int32) < i0 then f1_78 i0 else f1_197 i0
set_option maxRecDepth 65536 in
set_option maxHeartbeats 40000000 in
theorem b1_71 {p : Program} {l : Launch} {e : Env} {s : State} {m : MethodId} {args : Array Value} {below : List Frame} {meth : Method} {c : Code} {T : State} {locs : List Loc} {cells slots : Nat} {Z : State} {a0 : Array Value} {h : Heap} {n0 : Nat} {Q : Option Value → Heap → List Loc → Prop} (i0 : Int32) (hw : ∀ d ∈ tables_1, d.before a0 Z = true) (X : Stand p l e ({ frames := 0, cells := 0, slots := 0, locals := 0 } : Room) s m args below meth c T locs cells slots) (hx : p.tables.exec = Jvm.exec) (hZ : Z.Warmed39 s.vm) (hby : c.code = prog_189_method_8_code) (hml : c.maxLocals = 1) (hown : s.vm.findClass "com/example/caddisfly/caddisfly/template/Text" = some m.cls) (hret : meth.sig.returnType = some .boolean) (hlk : meth.locks = false) (eT : T.heap = h) (N : Fr n0 locs) (hc : cells ≤ 0) (hs : slots ≤ 0) (v : Int32) (hv : v = f1_71 i0) (hQ : ∀ L', Fr n0 L' → Q (some (.int v)) h L') :
    own_Fin p e below s Q 0 0 (T.setTop (mkF m 71 #[.val (.int i0)] [])) := by
  refine own_step (fun t k => XS.iloadN X.here hx rfl (hb hby d1_71) rfl  k) ?_
  show own_Fin p e below s Q 0 0 (T.setTop (mkF m 72 #[.val (.int i0)] [(.int i0)]))
  refine own_step (fun t k => XS.sipush X.here hx rfl (hb hby d1_72) k) ?_
  show own_Fin p e below s Q 0 0 (T.setTop (mkF m 75 #[.val (.int i0)] [(.int (767 : Int32)), (.int i0)]))
  by_cases hB75_159 : (767 : Int32) < i0
  · refine own_step (fun t k => XS.icmpNo X.here hx rfl (hb hby d1_75) rfl (tlt hB75_159).2.2.2 k) ?_
    exact b1_78 i0 hw X hx hZ hby hml hown hret hlk eT N (by omega) (by omega) v (hv.trans (if_pos hB75_159)) hQ
  · refine own_step (fun t k => XS.icmpYes X.here hx rfl (pc0 := 75) (pc' := 197) rfl (hb hby d1_75) rfl (flt hB75_159).2.2.2 (by decide) (by decide) k) ?_
    exact b1_197 i0 hw X hx hZ hby hml hown hret hlk eT N (by omega) (by omega) v (hv.trans (if_neg hB75_159)) hQ
def f1_64 (i0 : Int32) : Int32 := if i0 < (248 : Int32) then f1_78 i0 else f1_71 i0
set_option maxRecDepth 65536 in
set_option maxHeartbeats 40000000 in
theorem b1_64 {p : Program} {l : Launch} {e : Env} {s : State} {m : MethodId} {args : Array Value} {below : List Frame} {meth : Method} {c : Code} {T : State} {locs : List Loc} {cells slots : Nat} {Z : State} {a0 : Array Value} {h : Heap} {n0 : Nat} {Q : Option Value → Heap → List Loc → Prop} (i0 : Int32) (hw : ∀ d ∈ tables_1, d.before a0 Z = true) (X : Stand p l e ({ frames := 0, cells := 0, slots := 0, locals := 0 } : Room) s m args below meth c T locs cells slots) (hx : p.tables.exec = Jvm.exec) (hZ : Z.Warmed39 s.vm) (hby : c.code = prog_189_method_8_code) (hml : c.maxLocals = 1) (hown : s.vm.findClass "com/example/caddisfly/caddisfly/template/Text" = some m.cls) (hret : meth.sig.returnType = some .boolean) (hlk : meth.locks = false) (eT : T.heap = h) (N : Fr n0 locs) (hc : cells ≤ 0) (hs : slots ≤ 0) (v : Int32) (hv : v = f1_64 i0) (hQ : ∀ L', Fr n0 L' → Q (some (.int v)) h L') :
    own_Fin p e below s Q 0 0 (T.setTop (mkF m 64 #[.val (.int i0)] [])) := by
  refine own_step (fun t k => XS.iloadN X.here hx rfl (hb hby d1_64) rfl  k) ?_
  show own_Fin p e below s Q 0 0 (T.setTop (mkF m 65 #[.val (.int i0)] [(.int i0)]))
  refine own_step (fun t k => XS.sipush X.here hx rfl (hb hby d1_65) k) ?_
  show own_Fin p e below s Q 0 0 (T.setTop (mkF m 68 #[.val (.int i0)] [(.int (248 : Int32)), (.int i0)]))
  by_cases hB68_102 : i0 < (248 : Int32)
  · refine own_step (fun t k => XS.icmpYes X.here hx rfl (pc0 := 68) (pc' := 78) rfl (hb hby d1_68) rfl (tlt hB68_102).1 (by decide) (by decide) k) ?_
    exact b1_78 i0 hw X hx hZ hby hml hown hret hlk eT N (by omega) (by omega) v (hv.trans (if_pos hB68_102)) hQ
  · refine own_step (fun t k => XS.icmpNo X.here hx rfl (hb hby d1_68) rfl (flt hB68_102).1 k) ?_
    exact b1_71 i0 hw X hx hZ hby hml hown hret hlk eT N (by omega) (by omega) v (hv.trans (if_neg hB68_102)) hQ
def f1_57 (i0 : Int32) : Int32 := if (246 : Int32) < i0 then f1_64 i0 else f1_197 i0
set_option maxRecDepth 65536 in
set_option maxHeartbeats 40000000 in
theorem b1_57 {p : Program} {l : Launch} {e : Env} {s : State} {m : MethodId} {args : Array Value} {below : List Frame} {meth : Method} {c : Code} {T : State} {locs : List Loc} {cells slots : Nat} {Z : State} {a0 : Array Value} {h : Heap} {n0 : Nat} {Q : Option Value → Heap → List Loc → Prop} (i0 : Int32) (hw : ∀ d ∈ tables_1, d.before a0 Z = true) (X : Stand p l e ({ frames := 0, cells := 0, slots := 0, locals := 0 } : Room) s m args below meth c T locs cells slots) (hx : p.tables.exec = Jvm.exec) (hZ : Z.Warmed39 s.vm) (hby : c.code = prog_189_method_8_code) (hml : c.maxLocals = 1) (hown : s.vm.findClass "com/example/caddisfly/caddisfly/template/Text" = some m.cls) (hret : meth.sig.returnType = some .boolean) (hlk : meth.locks = false) (eT : T.heap = h) (N : Fr n0 locs) (hc : cells ≤ 0) (hs : slots ≤ 0) (v : Int32) (hv : v = f1_57 i0) (hQ : ∀ L', Fr n0 L' → Q (some (.int v)) h L') :
    own_Fin p e below s Q 0 0 (T.setTop (mkF m 57 #[.val (.int i0)] [])) := by
  refine own_step (fun t k => XS.iloadN X.here hx rfl (hb hby d1_57) rfl  k) ?_
  show own_Fin p e below s Q 0 0 (T.setTop (mkF m 58 #[.val (.int i0)] [(.int i0)]))
  refine own_step (fun t k => XS.sipush X.here hx rfl (hb hby d1_58) k) ?_
  show own_Fin p e below s Q 0 0 (T.setTop (mkF m 61 #[.val (.int i0)] [(.int (246 : Int32)), (.int i0)]))
  by_cases hB61_163 : (246 : Int32) < i0
  · refine own_step (fun t k => XS.icmpNo X.here hx rfl (hb hby d1_61) rfl (tlt hB61_163).2.2.2 k) ?_
    exact b1_64 i0 hw X hx hZ hby hml hown hret hlk eT N (by omega) (by omega) v (hv.trans (if_pos hB61_163)) hQ
  · refine own_step (fun t k => XS.icmpYes X.here hx rfl (pc0 := 61) (pc' := 197) rfl (hb hby d1_61) rfl (flt hB61_163).2.2.2 (by decide) (by decide) k) ?_
    exact b1_197 i0 hw X hx hZ hby hml hown hret hlk eT N (by omega) (by omega) v (hv.trans (if_neg hB61_163)) hQ
def f1_50 (i0 : Int32) : Int32 := if i0 < (216 : Int32) then f1_64 i0 else f1_57 i0
set_option maxRecDepth 65536 in
set_option maxHeartbeats 40000000 in
theorem b1_50 {p : Program} {l : Launch} {e : Env} {s : State} {m : MethodId} {args : Array Value} {below : List Frame} {meth : Method} {c : Code} {T : State} {locs : List Loc} {cells slots : Nat} {Z : State} {a0 : Array Value} {h : Heap} {n0 : Nat} {Q : Option Value → Heap → List Loc → Prop} (i0 : Int32) (hw : ∀ d ∈ tables_1, d.before a0 Z = true) (X : Stand p l e ({ frames := 0, cells := 0, slots := 0, locals := 0 } : Room) s m args below meth c T locs cells slots) (hx : p.tables.exec = Jvm.exec) (hZ : Z.Warmed39 s.vm) (hby : c.code = prog_189_method_8_code) (hml : c.maxLocals = 1) (hown : s.vm.findClass "com/example/caddisfly/caddisfly/template/Text" = some m.cls) (hret : meth.sig.returnType = some .boolean) (hlk : meth.locks = false) (eT : T.heap = h) (N : Fr n0 locs) (hc : cells ≤ 0) (hs : slots ≤ 0) (v : Int32) (hv : v = f1_50 i0) (hQ : ∀ L', Fr n0 L' → Q (some (.int v)) h L') :
    own_Fin p e below s Q 0 0 (T.setTop (mkF m 50 #[.val (.int i0)] [])) := by
  refine own_step (fun t k => XS.iloadN X.here hx rfl (hb hby d1_50) rfl  k) ?_
  show own_Fin p e below s Q 0 0 (T.setTop (mkF m 51 #[.val (.int i0)] [(.int i0)]))
  refine own_step (fun t k => XS.sipush X.here hx rfl (hb hby d1_51) k) ?_
  show own_Fin p e below s Q 0 0 (T.setTop (mkF m 54 #[.val (.int i0)] [(.int (216 : Int32)), (.int i0)]))
  by_cases hB54_100 : i0 < (216 : Int32)
  · refine own_step (fun t k => XS.icmpYes X.here hx rfl (pc0 := 54) (pc' := 64) rfl (hb hby d1_54) rfl (tlt hB54_100).1 (by decide) (by decide) k) ?_
    exact b1_64 i0 hw X hx hZ hby hml hown hret hlk eT N (by omega) (by omega) v (hv.trans (if_pos hB54_100)) hQ
  · refine own_step (fun t k => XS.icmpNo X.here hx rfl (hb hby d1_54) rfl (flt hB54_100).1 k) ?_
    exact b1_57 i0 hw X hx hZ hby hml hown hret hlk eT N (by omega) (by omega) v (hv.trans (if_neg hB54_100)) hQ
def f1_43 (i0 : Int32) : Int32 := if (214 : Int32) < i0 then f1_50 i0 else f1_197 i0
set_option maxRecDepth 65536 in
set_option maxHeartbeats 40000000 in
theorem b1_43 {p : Program} {l : Launch} {e : Env} {s : State} {m : MethodId} {args : Array Value} {below : List Frame} {meth : Method} {c : Code} {T : State} {locs : List Loc} {cells slots : Nat} {Z : State} {a0 : Array Value} {h : Heap} {n0 : Nat} {Q : Option Value → Heap → List Loc → Prop} (i0 : Int32) (hw : ∀ d ∈ tables_1, d.before a0 Z = true) (X : Stand p l e ({ frames := 0, cells := 0, slots := 0, locals := 0 } : Room) s m args below meth c T locs cells slots) (hx : p.tables.exec = Jvm.exec) (hZ : Z.Warmed39 s.vm) (hby : c.code = prog_189_method_8_code) (hml : c.maxLocals = 1) (hown : s.vm.findClass "com/example/caddisfly/caddisfly/template/Text" = some m.cls) (hret : meth.sig.returnType = some .boolean) (hlk : meth.locks = false) (eT : T.heap = h) (N : Fr n0 locs) (hc : cells ≤ 0) (hs : slots ≤ 0) (v : Int32) (hv : v = f1_43 i0) (hQ : ∀ L', Fr n0 L' → Q (some (.int v)) h L') :
    own_Fin p e below s Q 0 0 (T.setTop (mkF m 43 #[.val (.int i0)] [])) := by
  refine own_step (fun t k => XS.iloadN X.here hx rfl (hb hby d1_43) rfl  k) ?_
  show own_Fin p e below s Q 0 0 (T.setTop (mkF m 44 #[.val (.int i0)] [(.int i0)]))
  refine own_step (fun t k => XS.sipush X.here hx rfl (hb hby d1_44) k) ?_
  show own_Fin p e below s Q 0 0 (T.setTop (mkF m 47 #[.val (.int i0)] [(.int (214 : Int32)), (.int i0)]))
  by_cases hB47_167 : (214 : Int32) < i0
  · refine own_step (fun t k => XS.icmpNo X.here hx rfl (hb hby d1_47) rfl (tlt hB47_167).2.2.2 k) ?_
    exact b1_50 i0 hw X hx hZ hby hml hown hret hlk eT N (by omega) (by omega) v (hv.trans (if_pos hB47_167)) hQ
  · refine own_step (fun t k => XS.icmpYes X.here hx rfl (pc0 := 47) (pc' := 197) rfl (hb hby d1_47) rfl (flt hB47_167).2.2.2 (by decide) (by decide) k) ?_
    exact b1_197 i0 hw X hx hZ hby hml hown hret hlk eT N (by omega) (by omega) v (hv.trans (if_neg hB47_167)) hQ
def f1_36 (i0 : Int32) : Int32 := if i0 < (192 : Int32) then f1_50 i0 else f1_43 i0
set_option maxRecDepth 65536 in
set_option maxHeartbeats 40000000 in
theorem b1_36 {p : Program} {l : Launch} {e : Env} {s : State} {m : MethodId} {args : Array Value} {below : List Frame} {meth : Method} {c : Code} {T : State} {locs : List Loc} {cells slots : Nat} {Z : State} {a0 : Array Value} {h : Heap} {n0 : Nat} {Q : Option Value → Heap → List Loc → Prop} (i0 : Int32) (hw : ∀ d ∈ tables_1, d.before a0 Z = true) (X : Stand p l e ({ frames := 0, cells := 0, slots := 0, locals := 0 } : Room) s m args below meth c T locs cells slots) (hx : p.tables.exec = Jvm.exec) (hZ : Z.Warmed39 s.vm) (hby : c.code = prog_189_method_8_code) (hml : c.maxLocals = 1) (hown : s.vm.findClass "com/example/caddisfly/caddisfly/template/Text" = some m.cls) (hret : meth.sig.returnType = some .boolean) (hlk : meth.locks = false) (eT : T.heap = h) (N : Fr n0 locs) (hc : cells ≤ 0) (hs : slots ≤ 0) (v : Int32) (hv : v = f1_36 i0) (hQ : ∀ L', Fr n0 L' → Q (some (.int v)) h L') :
    own_Fin p e below s Q 0 0 (T.setTop (mkF m 36 #[.val (.int i0)] [])) := by
  refine own_step (fun t k => XS.iloadN X.here hx rfl (hb hby d1_36) rfl  k) ?_
  show own_Fin p e below s Q 0 0 (T.setTop (mkF m 37 #[.val (.int i0)] [(.int i0)]))
  refine own_step (fun t k => XS.sipush X.here hx rfl (hb hby d1_37) k) ?_
  show own_Fin p e below s Q 0 0 (T.setTop (mkF m 40 #[.val (.int i0)] [(.int (192 : Int32)), (.int i0)]))
  by_cases hB40_98 : i0 < (192 : Int32)
  · refine own_step (fun t k => XS.icmpYes X.here hx rfl (pc0 := 40) (pc' := 50) rfl (hb hby d1_40) rfl (tlt hB40_98).1 (by decide) (by decide) k) ?_
    exact b1_50 i0 hw X hx hZ hby hml hown hret hlk eT N (by omega) (by omega) v (hv.trans (if_pos hB40_98)) hQ
  · refine own_step (fun t k => XS.icmpNo X.here hx rfl (hb hby d1_40) rfl (flt hB40_98).1 k) ?_
    exact b1_43 i0 hw X hx hZ hby hml hown hret hlk eT N (by omega) (by omega) v (hv.trans (if_neg hB40_98)) hQ
def f1_30 (i0 : Int32) : Int32 := if (122 : Int32) < i0 then f1_36 i0 else f1_197 i0
set_option maxRecDepth 65536 in
set_option maxHeartbeats 40000000 in
theorem b1_30 {p : Program} {l : Launch} {e : Env} {s : State} {m : MethodId} {args : Array Value} {below : List Frame} {meth : Method} {c : Code} {T : State} {locs : List Loc} {cells slots : Nat} {Z : State} {a0 : Array Value} {h : Heap} {n0 : Nat} {Q : Option Value → Heap → List Loc → Prop} (i0 : Int32) (hw : ∀ d ∈ tables_1, d.before a0 Z = true) (X : Stand p l e ({ frames := 0, cells := 0, slots := 0, locals := 0 } : Room) s m args below meth c T locs cells slots) (hx : p.tables.exec = Jvm.exec) (hZ : Z.Warmed39 s.vm) (hby : c.code = prog_189_method_8_code) (hml : c.maxLocals = 1) (hown : s.vm.findClass "com/example/caddisfly/caddisfly/template/Text" = some m.cls) (hret : meth.sig.returnType = some .boolean) (hlk : meth.locks = false) (eT : T.heap = h) (N : Fr n0 locs) (hc : cells ≤ 0) (hs : slots ≤ 0) (v : Int32) (hv : v = f1_30 i0) (hQ : ∀ L', Fr n0 L' → Q (some (.int v)) h L') :
    own_Fin p e below s Q 0 0 (T.setTop (mkF m 30 #[.val (.int i0)] [])) := by
  refine own_step (fun t k => XS.iloadN X.here hx rfl (hb hby d1_30) rfl  k) ?_
  show own_Fin p e below s Q 0 0 (T.setTop (mkF m 31 #[.val (.int i0)] [(.int i0)]))
  refine own_step (fun t k => XS.bipush X.here hx rfl (hb hby d1_31) k) ?_
  show own_Fin p e below s Q 0 0 (T.setTop (mkF m 33 #[.val (.int i0)] [(.int (122 : Int32)), (.int i0)]))
  by_cases hB33_171 : (122 : Int32) < i0
  · refine own_step (fun t k => XS.icmpNo X.here hx rfl (hb hby d1_33) rfl (tlt hB33_171).2.2.2 k) ?_
    exact b1_36 i0 hw X hx hZ hby hml hown hret hlk eT N (by omega) (by omega) v (hv.trans (if_pos hB33_171)) hQ
  · refine own_step (fun t k => XS.icmpYes X.here hx rfl (pc0 := 33) (pc' := 197) rfl (hb hby d1_33) rfl (flt hB33_171).2.2.2 (by decide) (by decide) k) ?_
    exact b1_197 i0 hw X hx hZ hby hml hown hret hlk eT N (by omega) (by omega) v (hv.trans (if_neg hB33_171)) hQ
def f1_24 (i0 : Int32) : Int32 := if i0 < (97 : Int32) then f1_36 i0 else f1_30 i0
set_option maxRecDepth 65536 in
set_option maxHeartbeats 40000000 in
theorem b1_24 {p : Program} {l : Launch} {e : Env} {s : State} {m : MethodId} {args : Array Value} {below : List Frame} {meth : Method} {c : Code} {T : State} {locs : List Loc} {cells slots : Nat} {Z : State} {a0 : Array Value} {h : Heap} {n0 : Nat} {Q : Option Value → Heap → List Loc → Prop} (i0 : Int32) (hw : ∀ d ∈ tables_1, d.before a0 Z = true) (X : Stand p l e ({ frames := 0, cells := 0, slots := 0, locals := 0 } : Room) s m args below meth c T locs cells slots) (hx : p.tables.exec = Jvm.exec) (hZ : Z.Warmed39 s.vm) (hby : c.code = prog_189_method_8_code) (hml : c.maxLocals = 1) (hown : s.vm.findClass "com/example/caddisfly/caddisfly/template/Text" = some m.cls) (hret : meth.sig.returnType = some .boolean) (hlk : meth.locks = false) (eT : T.heap = h) (N : Fr n0 locs) (hc : cells ≤ 0) (hs : slots ≤ 0) (v : Int32) (hv : v = f1_24 i0) (hQ : ∀ L', Fr n0 L' → Q (some (.int v)) h L') :
    own_Fin p e below s Q 0 0 (T.setTop (mkF m 24 #[.val (.int i0)] [])) := by
  refine own_step (fun t k => XS.iloadN X.here hx rfl (hb hby d1_24) rfl  k) ?_
  show own_Fin p e below s Q 0 0 (T.setTop (mkF m 25 #[.val (.int i0)] [(.int i0)]))
  refine own_step (fun t k => XS.bipush X.here hx rfl (hb hby d1_25) k) ?_
  show own_Fin p e below s Q 0 0 (T.setTop (mkF m 27 #[.val (.int i0)] [(.int (97 : Int32)), (.int i0)]))
  by_cases hB27_96 : i0 < (97 : Int32)
  · refine own_step (fun t k => XS.icmpYes X.here hx rfl (pc0 := 27) (pc' := 36) rfl (hb hby d1_27) rfl (tlt hB27_96).1 (by decide) (by decide) k) ?_
    exact b1_36 i0 hw X hx hZ hby hml hown hret hlk eT N (by omega) (by omega) v (hv.trans (if_pos hB27_96)) hQ
  · refine own_step (fun t k => XS.icmpNo X.here hx rfl (hb hby d1_27) rfl (flt hB27_96).1 k) ?_
    exact b1_30 i0 hw X hx hZ hby hml hown hret hlk eT N (by omega) (by omega) v (hv.trans (if_neg hB27_96)) hQ
def f1_18 (i0 : Int32) : Int32 := if (90 : Int32) < i0 then f1_24 i0 else f1_197 i0
set_option maxRecDepth 65536 in
set_option maxHeartbeats 40000000 in
theorem b1_18 {p : Program} {l : Launch} {e : Env} {s : State} {m : MethodId} {args : Array Value} {below : List Frame} {meth : Method} {c : Code} {T : State} {locs : List Loc} {cells slots : Nat} {Z : State} {a0 : Array Value} {h : Heap} {n0 : Nat} {Q : Option Value → Heap → List Loc → Prop} (i0 : Int32) (hw : ∀ d ∈ tables_1, d.before a0 Z = true) (X : Stand p l e ({ frames := 0, cells := 0, slots := 0, locals := 0 } : Room) s m args below meth c T locs cells slots) (hx : p.tables.exec = Jvm.exec) (hZ : Z.Warmed39 s.vm) (hby : c.code = prog_189_method_8_code) (hml : c.maxLocals = 1) (hown : s.vm.findClass "com/example/caddisfly/caddisfly/template/Text" = some m.cls) (hret : meth.sig.returnType = some .boolean) (hlk : meth.locks = false) (eT : T.heap = h) (N : Fr n0 locs) (hc : cells ≤ 0) (hs : slots ≤ 0) (v : Int32) (hv : v = f1_18 i0) (hQ : ∀ L', Fr n0 L' → Q (some (.int v)) h L') :
    own_Fin p e below s Q 0 0 (T.setTop (mkF m 18 #[.val (.int i0)] [])) := by
  refine own_step (fun t k => XS.iloadN X.here hx rfl (hb hby d1_18) rfl  k) ?_
  show own_Fin p e below s Q 0 0 (T.setTop (mkF m 19 #[.val (.int i0)] [(.int i0)]))
  refine own_step (fun t k => XS.bipush X.here hx rfl (hb hby d1_19) k) ?_
  show own_Fin p e below s Q 0 0 (T.setTop (mkF m 21 #[.val (.int i0)] [(.int (90 : Int32)), (.int i0)]))
  by_cases hB21_175 : (90 : Int32) < i0
  · refine own_step (fun t k => XS.icmpNo X.here hx rfl (hb hby d1_21) rfl (tlt hB21_175).2.2.2 k) ?_
    exact b1_24 i0 hw X hx hZ hby hml hown hret hlk eT N (by omega) (by omega) v (hv.trans (if_pos hB21_175)) hQ
  · refine own_step (fun t k => XS.icmpYes X.here hx rfl (pc0 := 21) (pc' := 197) rfl (hb hby d1_21) rfl (flt hB21_175).2.2.2 (by decide) (by decide) k) ?_
    exact b1_197 i0 hw X hx hZ hby hml hown hret hlk eT N (by omega) (by omega) v (hv.trans (if_neg hB21_175)) hQ
def f1_12 (i0 : Int32) : Int32 := if i0 < (65 : Int32) then f1_24 i0 else f1_18 i0
set_option maxRecDepth 65536 in
set_option maxHeartbeats 40000000 in
theorem b1_12 {p : Program} {l : Launch} {e : Env} {s : State} {m : MethodId} {args : Array Value} {below : List Frame} {meth : Method} {c : Code} {T : State} {locs : List Loc} {cells slots : Nat} {Z : State} {a0 : Array Value} {h : Heap} {n0 : Nat} {Q : Option Value → Heap → List Loc → Prop} (i0 : Int32) (hw : ∀ d ∈ tables_1, d.before a0 Z = true) (X : Stand p l e ({ frames := 0, cells := 0, slots := 0, locals := 0 } : Room) s m args below meth c T locs cells slots) (hx : p.tables.exec = Jvm.exec) (hZ : Z.Warmed39 s.vm) (hby : c.code = prog_189_method_8_code) (hml : c.maxLocals = 1) (hown : s.vm.findClass "com/example/caddisfly/caddisfly/template/Text" = some m.cls) (hret : meth.sig.returnType = some .boolean) (hlk : meth.locks = false) (eT : T.heap = h) (N : Fr n0 locs) (hc : cells ≤ 0) (hs : slots ≤ 0) (v : Int32) (hv : v = f1_12 i0) (hQ : ∀ L', Fr n0 L' → Q (some (.int v)) h L') :
    own_Fin p e below s Q 0 0 (T.setTop (mkF m 12 #[.val (.int i0)] [])) := by
  refine own_step (fun t k => XS.iloadN X.here hx rfl (hb hby d1_12) rfl  k) ?_
  show own_Fin p e below s Q 0 0 (T.setTop (mkF m 13 #[.val (.int i0)] [(.int i0)]))
  refine own_step (fun t k => XS.bipush X.here hx rfl (hb hby d1_13) k) ?_
  show own_Fin p e below s Q 0 0 (T.setTop (mkF m 15 #[.val (.int i0)] [(.int (65 : Int32)), (.int i0)]))
  by_cases hB15_94 : i0 < (65 : Int32)
  · refine own_step (fun t k => XS.icmpYes X.here hx rfl (pc0 := 15) (pc' := 24) rfl (hb hby d1_15) rfl (tlt hB15_94).1 (by decide) (by decide) k) ?_
    exact b1_24 i0 hw X hx hZ hby hml hown hret hlk eT N (by omega) (by omega) v (hv.trans (if_pos hB15_94)) hQ
  · refine own_step (fun t k => XS.icmpNo X.here hx rfl (hb hby d1_15) rfl (flt hB15_94).1 k) ?_
    exact b1_18 i0 hw X hx hZ hby hml hown hret hlk eT N (by omega) (by omega) v (hv.trans (if_neg hB15_94)) hQ
def f1_6 (i0 : Int32) : Int32 := if i0 = (95 : Int32) then f1_197 i0 else f1_12 i0
set_option maxRecDepth 65536 in
set_option maxHeartbeats 40000000 in
theorem b1_6 {p : Program} {l : Launch} {e : Env} {s : State} {m : MethodId} {args : Array Value} {below : List Frame} {meth : Method} {c : Code} {T : State} {locs : List Loc} {cells slots : Nat} {Z : State} {a0 : Array Value} {h : Heap} {n0 : Nat} {Q : Option Value → Heap → List Loc → Prop} (i0 : Int32) (hw : ∀ d ∈ tables_1, d.before a0 Z = true) (X : Stand p l e ({ frames := 0, cells := 0, slots := 0, locals := 0 } : Room) s m args below meth c T locs cells slots) (hx : p.tables.exec = Jvm.exec) (hZ : Z.Warmed39 s.vm) (hby : c.code = prog_189_method_8_code) (hml : c.maxLocals = 1) (hown : s.vm.findClass "com/example/caddisfly/caddisfly/template/Text" = some m.cls) (hret : meth.sig.returnType = some .boolean) (hlk : meth.locks = false) (eT : T.heap = h) (N : Fr n0 locs) (hc : cells ≤ 0) (hs : slots ≤ 0) (v : Int32) (hv : v = f1_6 i0) (hQ : ∀ L', Fr n0 L' → Q (some (.int v)) h L') :
    own_Fin p e below s Q 0 0 (T.setTop (mkF m 6 #[.val (.int i0)] [])) := by
  refine own_step (fun t k => XS.iloadN X.here hx rfl (hb hby d1_6) rfl  k) ?_
  show own_Fin p e below s Q 0 0 (T.setTop (mkF m 7 #[.val (.int i0)] [(.int i0)]))
  refine own_step (fun t k => XS.bipush X.here hx rfl (hb hby d1_7) k) ?_
  show own_Fin p e below s Q 0 0 (T.setTop (mkF m 9 #[.val (.int i0)] [(.int (95 : Int32)), (.int i0)]))
  by_cases hB9_91 : i0 = (95 : Int32)
  · refine own_step (fun t k => XS.icmpYes X.here hx rfl (pc0 := 9) (pc' := 197) rfl (hb hby d1_9) rfl (teq hB9_91).1 (by decide) (by decide) k) ?_
    exact b1_197 i0 hw X hx hZ hby hml hown hret hlk eT N (by omega) (by omega) v (hv.trans (if_pos hB9_91)) hQ
  · refine own_step (fun t k => XS.icmpNo X.here hx rfl (hb hby d1_9) rfl (feq hB9_91).1 k) ?_
    exact b1_12 i0 hw X hx hZ hby hml hown hret hlk eT N (by omega) (by omega) v (hv.trans (if_neg hB9_91)) hQ
def f1_0 (i0 : Int32) : Int32 := if i0 = (58 : Int32) then f1_197 i0 else f1_6 i0
set_option maxRecDepth 65536 in
set_option maxHeartbeats 40000000 in
theorem b1_0 {p : Program} {l : Launch} {e : Env} {s : State} {m : MethodId} {args : Array Value} {below : List Frame} {meth : Method} {c : Code} {T : State} {locs : List Loc} {cells slots : Nat} {Z : State} {a0 : Array Value} {h : Heap} {n0 : Nat} {Q : Option Value → Heap → List Loc → Prop} (i0 : Int32) (hw : ∀ d ∈ tables_1, d.before a0 Z = true) (X : Stand p l e ({ frames := 0, cells := 0, slots := 0, locals := 0 } : Room) s m args below meth c T locs cells slots) (hx : p.tables.exec = Jvm.exec) (hZ : Z.Warmed39 s.vm) (hby : c.code = prog_189_method_8_code) (hml : c.maxLocals = 1) (hown : s.vm.findClass "com/example/caddisfly/caddisfly/template/Text" = some m.cls) (hret : meth.sig.returnType = some .boolean) (hlk : meth.locks = false) (eT : T.heap = h) (N : Fr n0 locs) (hc : cells ≤ 0) (hs : slots ≤ 0) (v : Int32) (hv : v = f1_0 i0) (hQ : ∀ L', Fr n0 L' → Q (some (.int v)) h L') :
    own_Fin p e below s Q 0 0 (T.setTop (mkF m 0 #[.val (.int i0)] [])) := by
  refine own_step (fun t k => XS.iloadN X.here hx rfl (hb hby d1_0) rfl  k) ?_
  show own_Fin p e below s Q 0 0 (T.setTop (mkF m 1 #[.val (.int i0)] [(.int i0)]))
  refine own_step (fun t k => XS.bipush X.here hx rfl (hb hby d1_1) k) ?_
  show own_Fin p e below s Q 0 0 (T.setTop (mkF m 3 #[.val (.int i0)] [(.int (58 : Int32)), (.int i0)]))
  by_cases hB3_88 : i0 = (58 : Int32)
  · refine own_step (fun t k => XS.icmpYes X.here hx rfl (pc0 := 3) (pc' := 197) rfl (hb hby d1_3) rfl (teq hB3_88).1 (by decide) (by decide) k) ?_
    exact b1_197 i0 hw X hx hZ hby hml hown hret hlk eT N (by omega) (by omega) v (hv.trans (if_pos hB3_88)) hQ
  · refine own_step (fun t k => XS.icmpNo X.here hx rfl (hb hby d1_3) rfl (feq hB3_88).1 k) ?_
    exact b1_6 i0 hw X hx hZ hby hml hown hret hlk eT N (by omega) (by omega) v (hv.trans (if_neg hB3_88)) hQ
theorem pnm_1 : plainName "com/example/caddisfly/caddisfly/template/Text" = true := by first | (simp [plainName, overriddenIn]; done) | decide +kernel
theorem ef_1 (m : MethodId) (i0 : Int32) : entryFrame m #[(.int i0)] 1 = (mkF m 0 #[.val (.int i0)] []) := by first | (simp [entryFrame, mkF, argsToLocals, Value.category]; done) | rfl
def Q1 (i0 : Int32) (h0 : Heap) (n0 : Nat) (v : Option Value) (h : Heap) (L : List Loc) : Prop := v = some (.int (f1_0 i0)) ∧ Fr n0 L ∧ h = h0
set_option maxRecDepth 65536 in
set_option maxHeartbeats 4000000 in
theorem rm1 (l : Launch) (Z : State) (a0 : Array Value) (hw : ∀ d ∈ tables_1, d.before a0 Z = true) (ws : List Jvm.Cond) (i0 : Int32) (h0 : Heap) (n0 : Nat) :
    MetFree l (⟨"com/example/caddisfly/caddisfly/template/Text", "isNameStartChar", "(I)Z"⟩ : MethodName) (head1 (Jvm.Cond.code (⟨"com/example/caddisfly/caddisfly/template/Text", "isNameStartChar", "(I)Z"⟩ : MethodName) prog_189_method_8_code 1 (some .boolean) :: ws) ({ frames := 0, cells := 0, slots := 0, locals := 0 } : Room)) (fun a U => a = #[(.int i0)] ∧ Z.Warmed39 U.vm ∧ U.heap = h0) (fun _ _ _ _ _ => True) (fun _ U o U' => ∃ v L, o = .returned v ∧ Q1 i0 h0 n0 v U'.heap L ∧ FrameEnd U o U' L ({ frames := 0, cells := 0, slots := 0, locals := 0 } : Room).cells ({ frames := 0, cells := 0, slots := 0, locals := 0 } : Room).slots) := by
  refine MetFree.of_bodySF (plainFor_of_name pnm_1) hisR ?_
  intro p e s m args below meth c s₁ Bd hml0 hP hK
  obtain ⟨rfl, hZ, hh⟩ := hP
  have hx := Bd.exec
  have hby := Bd.bytes
  have hml : c.maxLocals = 1 := hml0
  have hown : s.vm.findClass "com/example/caddisfly/caddisfly/template/Text" = some m.cls := findClass_of_methodNamed Bd.named
  have X0 : Stand p l e ({ frames := 0, cells := 0, slots := 0, locals := 0 } : Room) s m #[(.int i0)] below meth c s₁ [] 0 0 := Stand.of_body Bd
  have e0 : s₁.heap = h0 := by rw [← hh, Bd.state]; rfl
  have fin := b1_0 i0 (Q := Q1 i0 h0 n0) hw X0 hx hZ hby hml hown Bd.returns (BodyLoose.notSynchronized Bd) e0 (Fr.nil n0) (Nat.zero_le _) (Nat.zero_le _) _ rfl (fun L' n' => ⟨rfl, n', rfl⟩)
  exact own_step (fun t k => castTop (ef_1 m i0) k) fin
def f0_16 (i0 : Int32) (is0 : Int32) : Int32 := (nar .boolean is0)
set_option maxRecDepth 65536 in
set_option maxHeartbeats 40000000 in
theorem b0_16 {p : Program} {l : Launch} {e : Env} {s : State} {m : MethodId} {args : Array Value} {below : List Frame} {meth : Method} {c : Code} {T : State} {locs : List Loc} {cells slots : Nat} {Z : State} {a0 : Array Value} {h : Heap} {n0 : Nat} {Q : Option Value → Heap → List Loc → Prop} (i0 : Int32) (is0 : Int32) (hw : ∀ d ∈ tables_1, d.before a0 Z = true) (X : Stand p l e room_1 s m args below meth c T locs cells slots) (hx : p.tables.exec = Jvm.exec) (hZ : Z.Warmed39 s.vm) (hby : c.code = code) (hml : c.maxLocals = 1) (hown : s.vm.findClass "com/example/caddisfly/caddisfly/template/TextIsNameStartCharPinLaw" = some m.cls) (hret : meth.sig.returnType = some .boolean) (hlk : meth.locks = false) (eT : T.heap = h) (N : Fr n0 locs) (hc : cells ≤ 0) (hs : slots ≤ 0) (v : Int32) (hv : v = f0_16 i0 is0) (hQ : ∀ L', Fr n0 L' → Q (some (.int v)) h L') :
    own_Fin p e below s Q 0 0 (T.setTop (mkF m 16 #[.val (.int i0)] [(.int is0)])) := by
  exact own_retN X hx hlk hret (by simp) (hb hby at_16) (by omega) (by omega) eT N hQ (hv)
def f0_11 (i0 : Int32) : Int32 := f0_16 i0 (1 : Int32)
set_option maxRecDepth 65536 in
set_option maxHeartbeats 40000000 in
theorem b0_11 {p : Program} {l : Launch} {e : Env} {s : State} {m : MethodId} {args : Array Value} {below : List Frame} {meth : Method} {c : Code} {T : State} {locs : List Loc} {cells slots : Nat} {Z : State} {a0 : Array Value} {h : Heap} {n0 : Nat} {Q : Option Value → Heap → List Loc → Prop} (i0 : Int32) (hw : ∀ d ∈ tables_1, d.before a0 Z = true) (X : Stand p l e room_1 s m args below meth c T locs cells slots) (hx : p.tables.exec = Jvm.exec) (hZ : Z.Warmed39 s.vm) (hby : c.code = code) (hml : c.maxLocals = 1) (hown : s.vm.findClass "com/example/caddisfly/caddisfly/template/TextIsNameStartCharPinLaw" = some m.cls) (hret : meth.sig.returnType = some .boolean) (hlk : meth.locks = false) (eT : T.heap = h) (N : Fr n0 locs) (hc : cells ≤ 0) (hs : slots ≤ 0) (v : Int32) (hv : v = f0_11 i0) (hQ : ∀ L', Fr n0 L' → Q (some (.int v)) h L') :
    own_Fin p e below s Q 0 0 (T.setTop (mkF m 11 #[.val (.int i0)] [])) := by
  refine own_step (fun t k => XS.iconst X.here hx rfl (hb hby at_11) k) ?_
  show own_Fin p e below s Q 0 0 (T.setTop (mkF m 12 #[.val (.int i0)] [(.int (1 : Int32))]))
  refine own_step (fun t k => XS.goto X.here hx rfl (pc0 := 12) (pc' := 16) rfl (hb hby at_12) (by decide) (by decide) k) ?_
  exact b0_16 i0 (1 : Int32) hw X hx hZ hby hml hown hret hlk eT N (by omega) (by omega) v (hv) hQ
def f0_15 (i0 : Int32) : Int32 := f0_16 i0 (0 : Int32)
set_option maxRecDepth 65536 in
set_option maxHeartbeats 40000000 in
theorem b0_15 {p : Program} {l : Launch} {e : Env} {s : State} {m : MethodId} {args : Array Value} {below : List Frame} {meth : Method} {c : Code} {T : State} {locs : List Loc} {cells slots : Nat} {Z : State} {a0 : Array Value} {h : Heap} {n0 : Nat} {Q : Option Value → Heap → List Loc → Prop} (i0 : Int32) (hw : ∀ d ∈ tables_1, d.before a0 Z = true) (X : Stand p l e room_1 s m args below meth c T locs cells slots) (hx : p.tables.exec = Jvm.exec) (hZ : Z.Warmed39 s.vm) (hby : c.code = code) (hml : c.maxLocals = 1) (hown : s.vm.findClass "com/example/caddisfly/caddisfly/template/TextIsNameStartCharPinLaw" = some m.cls) (hret : meth.sig.returnType = some .boolean) (hlk : meth.locks = false) (eT : T.heap = h) (N : Fr n0 locs) (hc : cells ≤ 0) (hs : slots ≤ 0) (v : Int32) (hv : v = f0_15 i0) (hQ : ∀ L', Fr n0 L' → Q (some (.int v)) h L') :
    own_Fin p e below s Q 0 0 (T.setTop (mkF m 15 #[.val (.int i0)] [])) := by
  refine own_step (fun t k => XS.iconst X.here hx rfl (hb hby at_15) k) ?_
  exact b0_16 i0 (0 : Int32) hw X hx hZ hby hml hown hret hlk eT N (by omega) (by omega) v (hv) hQ
def f0_0 (i0 : Int32) : Int32 := if (f1_0 i0) = (f2_0 i0) then f0_11 i0 else f0_15 i0
set_option maxRecDepth 65536 in
set_option maxHeartbeats 40000000 in
theorem b0_0 {p : Program} {l : Launch} {e : Env} {s : State} {m : MethodId} {args : Array Value} {below : List Frame} {meth : Method} {c : Code} {T : State} {locs : List Loc} {cells slots : Nat} {Z : State} {a0 : Array Value} {h : Heap} {n0 : Nat} {Q : Option Value → Heap → List Loc → Prop} (i0 : Int32) (hw : ∀ d ∈ tables_1, d.before a0 Z = true) (X : Stand p l e room_1 s m args below meth c T locs cells slots) (hx : p.tables.exec = Jvm.exec) (hZ : Z.Warmed39 s.vm) (hby : c.code = code) (hml : c.maxLocals = 1) (hown : s.vm.findClass "com/example/caddisfly/caddisfly/template/TextIsNameStartCharPinLaw" = some m.cls) (hret : meth.sig.returnType = some .boolean) (hlk : meth.locks = false) (eT : T.heap = h) (N : Fr n0 locs) (hc : cells ≤ 0) (hs : slots ≤ 0) (v : Int32) (hv : v = f0_0 i0) (hQ : ∀ L', Fr n0 L' → Q (some (.int v)) h L') :
    own_Fin p e below s Q 0 0 (T.setTop (mkF m 0 #[.val (.int i0)] [])) := by
  refine own_step (fun t k => XS.iloadN X.here hx rfl (hb hby at_0) rfl  k) ?_
  show own_Fin p e below s Q 0 0 (T.setTop (mkF m 1 #[.val (.int i0)] [(.int i0)]))
  obtain ⟨_, _, ⟨T178, L178, k178, n178⟩, -, X178, ⟨Lc178, hQ178, l178, y178, z178⟩, st178⟩ := Jvm.LawKit.callS X hx (y := (⟨"com/example/caddisfly/caddisfly/template/Text", "isNameStartChar", "(I)Z"⟩ : MethodName)) hown (mvT hZ (hw _ (List.mem_of_getElem? (i := 0) rfl))) (mvT hZ (hw _ (List.mem_of_getElem? (i := 1) rfl))) (mvT hZ (hw _ (List.mem_of_getElem? (i := 2) rfl))) (mvT hZ (hw _ (List.mem_of_getElem? (i := 3) rfl))) (by decide) (backOf (W := 0) (rm1 l Z a0 hw [] i0 h n0) hZ (hw _ (List.mem_of_getElem? (i := 3) rfl)) (hw _ (List.mem_of_getElem? (i := 2) rfl)) (by decide) (by decide)) (g := (mkF m 1 #[.val (.int i0)] [(.int i0)])) rfl (by rw [hml]; rfl) (argsL := [(.int i0)]) (rest := []) (lenOf pdm_0 rfl) rfl (by show 2 * 0 + _ ≤ _; exact Nat.le_of_eq rfl) (hb hby at_1) (fun _ _ => ⟨rfl, eT, (by show (_ : Nat) ≤ 0; omega), (by show (_ : Nat) ≤ 0; omega)⟩)
  dsimp only [Pt.U, Pt.locs, Pt.cells, Pt.slots] at X178 l178 y178 z178 st178 hQ178
  subst l178 y178 z178
  obtain ⟨rfl, N178q, e178⟩ := hQ178
  have N178 := Fr.app N N178q
  refine own_step st178 ?_
  show own_Fin p e below s Q 0 0 (T178.setTop (mkF m 4 #[.val (.int i0)] [(.int (f1_0 i0))]))
  refine own_step (fun t k => XS.iloadN X178.here hx rfl (hb hby at_4) rfl  k) ?_
  show own_Fin p e below s Q 0 0 (T178.setTop (mkF m 5 #[.val (.int i0)] [(.int i0), (.int (f1_0 i0))]))
  obtain ⟨_, _, ⟨T179, L179, k179, n179⟩, -, X179, ⟨Lc179, hQ179, l179, y179, z179⟩, st179⟩ := Jvm.LawKit.callS X178 hx (y := (⟨"com/example/caddisfly/caddisfly/template/TextIsNameStartCharPinLaw", "reference", "(I)Z"⟩ : MethodName)) hown (mvT hZ (hw _ (List.mem_of_getElem? (i := 7) rfl))) (mvT hZ (hw _ (List.mem_of_getElem? (i := 8) rfl))) (mvT hZ (hw _ (List.mem_of_getElem? (i := 9) rfl))) (mvT hZ (hw _ (List.mem_of_getElem? (i := 10) rfl))) (by decide) (backOf (W := 1) (rm2 l Z a0 hw [] i0 h n0) hZ (hw _ (List.mem_of_getElem? (i := 10) rfl)) (hw _ (List.mem_of_getElem? (i := 9) rfl)) (by decide) (by decide)) (g := (mkF m 5 #[.val (.int i0)] [(.int i0), (.int (f1_0 i0))])) rfl (by rw [hml]; rfl) (argsL := [(.int i0)]) (rest := [(.int (f1_0 i0))]) (lenOf pdm_0 rfl) rfl (by show 2 * 0 + _ ≤ _; exact Nat.le_of_eq rfl) (hb hby at_5) (fun _ _ => ⟨rfl, e178, (by show (_ : Nat) ≤ 0; omega), (by show (_ : Nat) ≤ 0; omega)⟩)
  dsimp only [Pt.U, Pt.locs, Pt.cells, Pt.slots] at X179 l179 y179 z179 st179 hQ179
  subst l179 y179 z179
  obtain ⟨rfl, N179q, e179⟩ := hQ179
  have N179 := Fr.app N178 N179q
  refine own_step st179 ?_
  show own_Fin p e below s Q 0 0 (T179.setTop (mkF m 8 #[.val (.int i0)] [(.int (f2_0 i0)), (.int (f1_0 i0))]))
  by_cases hB8_180 : (f1_0 i0) = (f2_0 i0)
  · refine own_step (fun t k => XS.icmpNo X179.here hx rfl (hb hby at_8) rfl (teq hB8_180).2 k) ?_
    exact b0_11 i0 hw X179 hx hZ hby hml hown hret hlk e179 N179 (by omega) (by omega) v (hv.trans (if_pos hB8_180)) hQ
  · refine own_step (fun t k => XS.icmpYes X179.here hx rfl (pc0 := 8) (pc' := 15) rfl (hb hby at_8) rfl (feq hB8_180).2 (by decide) (by decide) k) ?_
    exact b0_15 i0 hw X179 hx hZ hby hml hown hret hlk e179 N179 (by omega) (by omega) v (hv.trans (if_neg hB8_180)) hQ
theorem ef_0 (m : MethodId) (i0 : Int32) : entryFrame m #[(.int i0)] maxLocals = (mkF m 0 #[.val (.int i0)] []) := by first | (simp [entryFrame, mkF, argsToLocals, Value.category, maxLocals]; done) | rfl
def Q0 (i0 : Int32) (h0 : Heap) (n0 : Nat) (v : Option Value) (h : Heap) (L : List Loc) : Prop := v = some (.int (f0_0 i0)) ∧ Fr n0 L ∧ h = h0
set_option maxRecDepth 65536 in
set_option maxHeartbeats 4000000 in
theorem rm0 (l : Launch) (Z : State) (a0 : Array Value) (hw : ∀ d ∈ tables_1, d.before a0 Z = true) (ws : List Jvm.Cond) (i0 : Int32) (h0 : Heap) (n0 : Nat) :
    MetFree l x (head1 (Jvm.Cond.code x code maxLocals ret :: ws) room_1) (fun a U => a = #[(.int i0)] ∧ Z.Warmed39 U.vm ∧ U.heap = h0) (fun _ _ _ _ _ => True) (fun _ U o U' => ∃ v L, o = .returned v ∧ Q0 i0 h0 n0 v U'.heap L ∧ FrameEnd U o U' L 0 0) := by
  refine MetFree.of_bodySF (plainFor_of_name pnm_0) hisR ?_
  intro p e s m args below meth c s₁ Bd hml0 hP hK
  obtain ⟨rfl, hZ, hh⟩ := hP
  have hx := Bd.exec
  have hby := Bd.bytes
  have hml : c.maxLocals = 1 := hml0
  have hown : s.vm.findClass "com/example/caddisfly/caddisfly/template/TextIsNameStartCharPinLaw" = some m.cls := findClass_of_methodNamed Bd.named
  have X0 : Stand p l e room_1 s m #[(.int i0)] below meth c s₁ [] 0 0 := Stand.of_body Bd
  have e0 : s₁.heap = h0 := by rw [← hh, Bd.state]; rfl
  have fin := b0_0 i0 (Q := Q0 i0 h0 n0) hw X0 hx hZ hby hml hown Bd.returns (BodyLoose.notSynchronized Bd) e0 (Fr.nil n0) (Nat.zero_le _) (Nat.zero_le _) _ rfl (fun L' n' => ⟨rfl, n', rfl⟩)
  exact own_step (fun t k => castTop (ef_0 m i0) k) fin
theorem own_c2_12 (x : Int32) : (False → f2_12 x = 1) ∧ (¬ (False) → f2_12 x = 0) := by
  exact ⟨fun d => False.elim d, fun d => rfl⟩
theorem own_c2_199_1_0 (x : Int32) : (False → f2_199 x (1 : Int32) (0 : Int32) = 1) ∧ (¬ (False) → f2_199 x (1 : Int32) (0 : Int32) = 0) := by
  exact ⟨fun d => False.elim d, fun d => rfl⟩
theorem own_c2_198_1 (x : Int32) : (False → f2_198 x (1 : Int32) = 1) ∧ (¬ (False) → f2_198 x (1 : Int32) = 0) := by
  exact own_c2_199_1_0 x
theorem own_c2_189_1 (x : Int32) : (False → f2_189 x (1 : Int32) = 1) ∧ (¬ (False) → f2_189 x (1 : Int32) = 0) := by
  exact ⟨fun d => (if_neg (by decide) : f2_189 x (1 : Int32) = _).trans ((own_c2_198_1 x).1 d), fun d => (if_neg (by decide) : f2_189 x (1 : Int32) = _).trans ((own_c2_198_1 x).2 d)⟩
theorem own_c2_184 (x : Int32) : (False → f2_184 x = 1) ∧ (¬ (False) → f2_184 x = 0) := by
  exact own_c2_189_1 x
theorem own_c2_199_0_1 (x : Int32) : (True → f2_199 x (0 : Int32) (1 : Int32) = 1) ∧ (¬ (True) → f2_199 x (0 : Int32) (1 : Int32) = 0) := by
  exact ⟨fun d => rfl, fun d => absurd trivial d⟩
theorem own_c2_194_0 (x : Int32) : (True → f2_194 x (0 : Int32) = 1) ∧ (¬ (True) → f2_194 x (0 : Int32) = 0) := by
  exact own_c2_199_0_1 x
theorem own_c2_189_0 (x : Int32) : (True → f2_189 x (0 : Int32) = 1) ∧ (¬ (True) → f2_189 x (0 : Int32) = 0) := by
  exact ⟨fun d => (if_pos (by decide) : f2_189 x (0 : Int32) = _).trans ((own_c2_194_0 x).1 d), fun d => (if_pos (by decide) : f2_189 x (0 : Int32) = _).trans ((own_c2_194_0 x).2 d)⟩
theorem own_c2_188 (x : Int32) : (True → f2_188 x = 1) ∧ (¬ (True) → f2_188 x = 0) := by
  exact own_c2_189_0 x
theorem own_c2_178 (x : Int32) : (65536 ≤ x.toInt → f2_178 x = 1) ∧ (¬ (65536 ≤ x.toInt) → f2_178 x = 0) := by
  have hi : ((65535 : Int32) < x) ↔ 65535 < x.toInt := Int32.lt_iff_toInt_lt
  have r1 := Int32.le_toInt x
  have r2 := Int32.toInt_lt x
  by_cases hB : (65535 : Int32) < x
  · have hb : 65535 < x.toInt := hi.mp hB
    exact ⟨fun d => ((if_pos hB) : f2_178 x = _).trans ((own_c2_188 x).1 (by first | exact trivial | exact not_false | omega)), fun d => ((if_pos hB) : f2_178 x = _).trans ((own_c2_188 x).2 (by first | exact trivial | exact not_false | omega))⟩
  · have hb : ¬ (65535 < x.toInt) := fun y => hB (hi.mpr y)
    exact ⟨fun d => ((if_neg hB) : f2_178 x = _).trans ((own_c2_184 x).1 (by first | exact trivial | exact not_false | omega)), fun d => ((if_neg hB) : f2_178 x = _).trans ((own_c2_184 x).2 (by first | exact trivial | exact not_false | omega))⟩
theorem own_c2_172 (x : Int32) : (x.toInt ≤ 65533 ∨ 65536 ≤ x.toInt → f2_172 x = 1) ∧ (¬ (x.toInt ≤ 65533 ∨ 65536 ≤ x.toInt) → f2_172 x = 0) := by
  have hi : (x < (65534 : Int32)) ↔ x.toInt < 65534 := Int32.lt_iff_toInt_lt
  have r1 := Int32.le_toInt x
  have r2 := Int32.toInt_lt x
  by_cases hB : x < (65534 : Int32)
  · have hb : x.toInt < 65534 := hi.mp hB
    exact ⟨fun d => ((if_pos hB) : f2_172 x = _).trans ((own_c2_188 x).1 (by first | exact trivial | exact not_false | omega)), fun d => ((if_pos hB) : f2_172 x = _).trans ((own_c2_188 x).2 (by first | exact trivial | exact not_false | omega))⟩
  · have hb : ¬ (x.toInt < 65534) := fun y => hB (hi.mpr y)
    exact ⟨fun d => ((if_neg hB) : f2_172 x = _).trans ((own_c2_178 x).1 (by first | exact trivial | exact not_false | omega)), fun d => ((if_neg hB) : f2_172 x = _).trans ((own_c2_178 x).2 (by first | exact trivial | exact not_false | omega))⟩
theorem own_c2_166 (x : Int32) : ((65008 ≤ x.toInt ∧ x.toInt ≤ 65533) ∨ 65536 ≤ x.toInt → f2_166 x = 1) ∧ (¬ ((65008 ≤ x.toInt ∧ x.toInt ≤ 65533) ∨ 65536 ≤ x.toInt) → f2_166 x = 0) := by
  have hi : ((65007 : Int32) < x) ↔ 65007 < x.toInt := Int32.lt_iff_toInt_lt
  have r1 := Int32.le_toInt x
  have r2 := Int32.toInt_lt x
  by_cases hB : (65007 : Int32) < x
  · have hb : 65007 < x.toInt := hi.mp hB
    exact ⟨fun d => ((if_pos hB) : f2_166 x = _).trans ((own_c2_172 x).1 (by first | exact trivial | exact not_false | omega)), fun d => ((if_pos hB) : f2_166 x = _).trans ((own_c2_172 x).2 (by first | exact trivial | exact not_false | omega))⟩
  · have hb : ¬ (65007 < x.toInt) := fun y => hB (hi.mpr y)
    exact ⟨fun d => ((if_neg hB) : f2_166 x = _).trans ((own_c2_184 x).1 (by first | exact trivial | exact not_false | omega)), fun d => ((if_neg hB) : f2_166 x = _).trans ((own_c2_184 x).2 (by first | exact trivial | exact not_false | omega))⟩
theorem own_c2_160 (x : Int32) : (x.toInt ≤ 64975 ∨ (65008 ≤ x.toInt ∧ x.toInt ≤ 65533) ∨ 65536 ≤ x.toInt → f2_160 x = 1) ∧ (¬ (x.toInt ≤ 64975 ∨ (65008 ≤ x.toInt ∧ x.toInt ≤ 65533) ∨ 65536 ≤ x.toInt) → f2_160 x = 0) := by
  have hi : (x < (64976 : Int32)) ↔ x.toInt < 64976 := Int32.lt_iff_toInt_lt
  have r1 := Int32.le_toInt x
  have r2 := Int32.toInt_lt x
  by_cases hB : x < (64976 : Int32)
  · have hb : x.toInt < 64976 := hi.mp hB
    exact ⟨fun d => ((if_pos hB) : f2_160 x = _).trans ((own_c2_172 x).1 (by first | exact trivial | exact not_false | omega)), fun d => ((if_pos hB) : f2_160 x = _).trans ((own_c2_172 x).2 (by first | exact trivial | exact not_false | omega))⟩
  · have hb : ¬ (x.toInt < 64976) := fun y => hB (hi.mpr y)
    exact ⟨fun d => ((if_neg hB) : f2_160 x = _).trans ((own_c2_166 x).1 (by first | exact trivial | exact not_false | omega)), fun d => ((if_neg hB) : f2_160 x = _).trans ((own_c2_166 x).2 (by first | exact trivial | exact not_false | omega))⟩
theorem own_c2_154 (x : Int32) : ((63744 ≤ x.toInt ∧ x.toInt ≤ 64975) ∨ (65008 ≤ x.toInt ∧ x.toInt ≤ 65533) ∨ 65536 ≤ x.toInt → f2_154 x = 1) ∧ (¬ ((63744 ≤ x.toInt ∧ x.toInt ≤ 64975) ∨ (65008 ≤ x.toInt ∧ x.toInt ≤ 65533) ∨ 65536 ≤ x.toInt) → f2_154 x = 0) := by
  have hi : ((63743 : Int32) < x) ↔ 63743 < x.toInt := Int32.lt_iff_toInt_lt
  have r1 := Int32.le_toInt x
  have r2 := Int32.toInt_lt x
  by_cases hB : (63743 : Int32) < x
  · have hb : 63743 < x.toInt := hi.mp hB
    exact ⟨fun d => ((if_pos hB) : f2_154 x = _).trans ((own_c2_160 x).1 (by first | exact trivial | exact not_false | omega)), fun d => ((if_pos hB) : f2_154 x = _).trans ((own_c2_160 x).2 (by first | exact trivial | exact not_false | omega))⟩
  · have hb : ¬ (63743 < x.toInt) := fun y => hB (hi.mpr y)
    exact ⟨fun d => ((if_neg hB) : f2_154 x = _).trans ((own_c2_184 x).1 (by first | exact trivial | exact not_false | omega)), fun d => ((if_neg hB) : f2_154 x = _).trans ((own_c2_184 x).2 (by first | exact trivial | exact not_false | omega))⟩
theorem own_c2_148 (x : Int32) : (x.toInt ≤ 55295 ∨ (63744 ≤ x.toInt ∧ x.toInt ≤ 64975) ∨ (65008 ≤ x.toInt ∧ x.toInt ≤ 65533) ∨ 65536 ≤ x.toInt → f2_148 x = 1) ∧ (¬ (x.toInt ≤ 55295 ∨ (63744 ≤ x.toInt ∧ x.toInt ≤ 64975) ∨ (65008 ≤ x.toInt ∧ x.toInt ≤ 65533) ∨ 65536 ≤ x.toInt) → f2_148 x = 0) := by
  have hi : (x < (55296 : Int32)) ↔ x.toInt < 55296 := Int32.lt_iff_toInt_lt
  have r1 := Int32.le_toInt x
  have r2 := Int32.toInt_lt x
  by_cases hB : x < (55296 : Int32)
  · have hb : x.toInt < 55296 := hi.mp hB
    exact ⟨fun d => ((if_pos hB) : f2_148 x = _).trans ((own_c2_160 x).1 (by first | exact trivial | exact not_false | omega)), fun d => ((if_pos hB) : f2_148 x = _).trans ((own_c2_160 x).2 (by first | exact trivial | exact not_false | omega))⟩
  · have hb : ¬ (x.toInt < 55296) := fun y => hB (hi.mpr y)
    exact ⟨fun d => ((if_neg hB) : f2_148 x = _).trans ((own_c2_154 x).1 (by first | exact trivial | exact not_false | omega)), fun d => ((if_neg hB) : f2_148 x = _).trans ((own_c2_154 x).2 (by first | exact trivial | exact not_false | omega))⟩
theorem own_c2_141 (x : Int32) : ((12289 ≤ x.toInt ∧ x.toInt ≤ 55295) ∨ (63744 ≤ x.toInt ∧ x.toInt ≤ 64975) ∨ (65008 ≤ x.toInt ∧ x.toInt ≤ 65533) ∨ 65536 ≤ x.toInt → f2_141 x = 1) ∧ (¬ ((12289 ≤ x.toInt ∧ x.toInt ≤ 55295) ∨ (63744 ≤ x.toInt ∧ x.toInt ≤ 64975) ∨ (65008 ≤ x.toInt ∧ x.toInt ≤ 65533) ∨ 65536 ≤ x.toInt) → f2_141 x = 0) := by
  have hi : ((12288 : Int32) < x) ↔ 12288 < x.toInt := Int32.lt_iff_toInt_lt
  have r1 := Int32.le_toInt x
  have r2 := Int32.toInt_lt x
  by_cases hB : (12288 : Int32) < x
  · have hb : 12288 < x.toInt := hi.mp hB
    exact ⟨fun d => ((if_pos hB) : f2_141 x = _).trans ((own_c2_148 x).1 (by first | exact trivial | exact not_false | omega)), fun d => ((if_pos hB) : f2_141 x = _).trans ((own_c2_148 x).2 (by first | exact trivial | exact not_false | omega))⟩
  · have hb : ¬ (12288 < x.toInt) := fun y => hB (hi.mpr y)
    exact ⟨fun d => ((if_neg hB) : f2_141 x = _).trans ((own_c2_184 x).1 (by first | exact trivial | exact not_false | omega)), fun d => ((if_neg hB) : f2_141 x = _).trans ((own_c2_184 x).2 (by first | exact trivial | exact not_false | omega))⟩
theorem own_c2_134 (x : Int32) : (x.toInt ≤ 12271 ∨ (12289 ≤ x.toInt ∧ x.toInt ≤ 55295) ∨ (63744 ≤ x.toInt ∧ x.toInt ≤ 64975) ∨ (65008 ≤ x.toInt ∧ x.toInt ≤ 65533) ∨ 65536 ≤ x.toInt → f2_134 x = 1) ∧ (¬ (x.toInt ≤ 12271 ∨ (12289 ≤ x.toInt ∧ x.toInt ≤ 55295) ∨ (63744 ≤ x.toInt ∧ x.toInt ≤ 64975) ∨ (65008 ≤ x.toInt ∧ x.toInt ≤ 65533) ∨ 65536 ≤ x.toInt) → f2_134 x = 0) := by
  have hi : (x < (12272 : Int32)) ↔ x.toInt < 12272 := Int32.lt_iff_toInt_lt
  have r1 := Int32.le_toInt x
  have r2 := Int32.toInt_lt x
  by_cases hB : x < (12272 : Int32)
  · have hb : x.toInt < 12272 := hi.mp hB
    exact ⟨fun d => ((if_pos hB) : f2_134 x = _).trans ((own_c2_148 x).1 (by first | exact trivial | exact not_false | omega)), fun d => ((if_pos hB) : f2_134 x = _).trans ((own_c2_148 x).2 (by first | exact trivial | exact not_false | omega))⟩
  · have hb : ¬ (x.toInt < 12272) := fun y => hB (hi.mpr y)
    exact ⟨fun d => ((if_neg hB) : f2_134 x = _).trans ((own_c2_141 x).1 (by first | exact trivial | exact not_false | omega)), fun d => ((if_neg hB) : f2_134 x = _).trans ((own_c2_141 x).2 (by first | exact trivial | exact not_false | omega))⟩
theorem own_c2_127 (x : Int32) : ((11264 ≤ x.toInt ∧ x.toInt ≤ 12271) ∨ (12289 ≤ x.toInt ∧ x.toInt ≤ 55295) ∨ (63744 ≤ x.toInt ∧ x.toInt ≤ 64975) ∨ (65008 ≤ x.toInt ∧ x.toInt ≤ 65533) ∨ 65536 ≤ x.toInt → f2_127 x = 1) ∧ (¬ ((11264 ≤ x.toInt ∧ x.toInt ≤ 12271) ∨ (12289 ≤ x.toInt ∧ x.toInt ≤ 55295) ∨ (63744 ≤ x.toInt ∧ x.toInt ≤ 64975) ∨ (65008 ≤ x.toInt ∧ x.toInt ≤ 65533) ∨ 65536 ≤ x.toInt) → f2_127 x = 0) := by
  have hi : ((11263 : Int32) < x) ↔ 11263 < x.toInt := Int32.lt_iff_toInt_lt
  have r1 := Int32.le_toInt x
  have r2 := Int32.toInt_lt x
  by_cases hB : (11263 : Int32) < x
  · have hb : 11263 < x.toInt := hi.mp hB
    exact ⟨fun d => ((if_pos hB) : f2_127 x = _).trans ((own_c2_134 x).1 (by first | exact trivial | exact not_false | omega)), fun d => ((if_pos hB) : f2_127 x = _).trans ((own_c2_134 x).2 (by first | exact trivial | exact not_false | omega))⟩
  · have hb : ¬ (11263 < x.toInt) := fun y => hB (hi.mpr y)
    exact ⟨fun d => ((if_neg hB) : f2_127 x = _).trans ((own_c2_184 x).1 (by first | exact trivial | exact not_false | omega)), fun d => ((if_neg hB) : f2_127 x = _).trans ((own_c2_184 x).2 (by first | exact trivial | exact not_false | omega))⟩
theorem own_c2_120 (x : Int32) : (x.toInt ≤ 8591 ∨ (11264 ≤ x.toInt ∧ x.toInt ≤ 12271) ∨ (12289 ≤ x.toInt ∧ x.toInt ≤ 55295) ∨ (63744 ≤ x.toInt ∧ x.toInt ≤ 64975) ∨ (65008 ≤ x.toInt ∧ x.toInt ≤ 65533) ∨ 65536 ≤ x.toInt → f2_120 x = 1) ∧ (¬ (x.toInt ≤ 8591 ∨ (11264 ≤ x.toInt ∧ x.toInt ≤ 12271) ∨ (12289 ≤ x.toInt ∧ x.toInt ≤ 55295) ∨ (63744 ≤ x.toInt ∧ x.toInt ≤ 64975) ∨ (65008 ≤ x.toInt ∧ x.toInt ≤ 65533) ∨ 65536 ≤ x.toInt) → f2_120 x = 0) := by
  have hi : (x < (8592 : Int32)) ↔ x.toInt < 8592 := Int32.lt_iff_toInt_lt
  have r1 := Int32.le_toInt x
  have r2 := Int32.toInt_lt x
  by_cases hB : x < (8592 : Int32)
  · have hb : x.toInt < 8592 := hi.mp hB
    exact ⟨fun d => ((if_pos hB) : f2_120 x = _).trans ((own_c2_134 x).1 (by first | exact trivial | exact not_false | omega)), fun d => ((if_pos hB) : f2_120 x = _).trans ((own_c2_134 x).2 (by first | exact trivial | exact not_false | omega))⟩
  · have hb : ¬ (x.toInt < 8592) := fun y => hB (hi.mpr y)
    exact ⟨fun d => ((if_neg hB) : f2_120 x = _).trans ((own_c2_127 x).1 (by first | exact trivial | exact not_false | omega)), fun d => ((if_neg hB) : f2_120 x = _).trans ((own_c2_127 x).2 (by first | exact trivial | exact not_false | omega))⟩
theorem own_c2_113 (x : Int32) : ((8304 ≤ x.toInt ∧ x.toInt ≤ 8591) ∨ (11264 ≤ x.toInt ∧ x.toInt ≤ 12271) ∨ (12289 ≤ x.toInt ∧ x.toInt ≤ 55295) ∨ (63744 ≤ x.toInt ∧ x.toInt ≤ 64975) ∨ (65008 ≤ x.toInt ∧ x.toInt ≤ 65533) ∨ 65536 ≤ x.toInt → f2_113 x = 1) ∧ (¬ ((8304 ≤ x.toInt ∧ x.toInt ≤ 8591) ∨ (11264 ≤ x.toInt ∧ x.toInt ≤ 12271) ∨ (12289 ≤ x.toInt ∧ x.toInt ≤ 55295) ∨ (63744 ≤ x.toInt ∧ x.toInt ≤ 64975) ∨ (65008 ≤ x.toInt ∧ x.toInt ≤ 65533) ∨ 65536 ≤ x.toInt) → f2_113 x = 0) := by
  have hi : ((8303 : Int32) < x) ↔ 8303 < x.toInt := Int32.lt_iff_toInt_lt
  have r1 := Int32.le_toInt x
  have r2 := Int32.toInt_lt x
  by_cases hB : (8303 : Int32) < x
  · have hb : 8303 < x.toInt := hi.mp hB
    exact ⟨fun d => ((if_pos hB) : f2_113 x = _).trans ((own_c2_120 x).1 (by first | exact trivial | exact not_false | omega)), fun d => ((if_pos hB) : f2_113 x = _).trans ((own_c2_120 x).2 (by first | exact trivial | exact not_false | omega))⟩
  · have hb : ¬ (8303 < x.toInt) := fun y => hB (hi.mpr y)
    exact ⟨fun d => ((if_neg hB) : f2_113 x = _).trans ((own_c2_184 x).1 (by first | exact trivial | exact not_false | omega)), fun d => ((if_neg hB) : f2_113 x = _).trans ((own_c2_184 x).2 (by first | exact trivial | exact not_false | omega))⟩
theorem own_c2_106 (x : Int32) : (x.toInt ≤ 8205 ∨ (8304 ≤ x.toInt ∧ x.toInt ≤ 8591) ∨ (11264 ≤ x.toInt ∧ x.toInt ≤ 12271) ∨ (12289 ≤ x.toInt ∧ x.toInt ≤ 55295) ∨ (63744 ≤ x.toInt ∧ x.toInt ≤ 64975) ∨ (65008 ≤ x.toInt ∧ x.toInt ≤ 65533) ∨ 65536 ≤ x.toInt → f2_106 x = 1) ∧ (¬ (x.toInt ≤ 8205 ∨ (8304 ≤ x.toInt ∧ x.toInt ≤ 8591) ∨ (11264 ≤ x.toInt ∧ x.toInt ≤ 12271) ∨ (12289 ≤ x.toInt ∧ x.toInt ≤ 55295) ∨ (63744 ≤ x.toInt ∧ x.toInt ≤ 64975) ∨ (65008 ≤ x.toInt ∧ x.toInt ≤ 65533) ∨ 65536 ≤ x.toInt) → f2_106 x = 0) := by
  have hi : (x < (8206 : Int32)) ↔ x.toInt < 8206 := Int32.lt_iff_toInt_lt
  have r1 := Int32.le_toInt x
  have r2 := Int32.toInt_lt x
  by_cases hB : x < (8206 : Int32)
  · have hb : x.toInt < 8206 := hi.mp hB
    exact ⟨fun d => ((if_pos hB) : f2_106 x = _).trans ((own_c2_120 x).1 (by first | exact trivial | exact not_false | omega)), fun d => ((if_pos hB) : f2_106 x = _).trans ((own_c2_120 x).2 (by first | exact trivial | exact not_false | omega))⟩
  · have hb : ¬ (x.toInt < 8206) := fun y => hB (hi.mpr y)
    exact ⟨fun d => ((if_neg hB) : f2_106 x = _).trans ((own_c2_113 x).1 (by first | exact trivial | exact not_false | omega)), fun d => ((if_neg hB) : f2_106 x = _).trans ((own_c2_113 x).2 (by first | exact trivial | exact not_false | omega))⟩
theorem own_c2_99 (x : Int32) : ((8204 ≤ x.toInt ∧ x.toInt ≤ 8205) ∨ (8304 ≤ x.toInt ∧ x.toInt ≤ 8591) ∨ (11264 ≤ x.toInt ∧ x.toInt ≤ 12271) ∨ (12289 ≤ x.toInt ∧ x.toInt ≤ 55295) ∨ (63744 ≤ x.toInt ∧ x.toInt ≤ 64975) ∨ (65008 ≤ x.toInt ∧ x.toInt ≤ 65533) ∨ 65536 ≤ x.toInt → f2_99 x = 1) ∧ (¬ ((8204 ≤ x.toInt ∧ x.toInt ≤ 8205) ∨ (8304 ≤ x.toInt ∧ x.toInt ≤ 8591) ∨ (11264 ≤ x.toInt ∧ x.toInt ≤ 12271) ∨ (12289 ≤ x.toInt ∧ x.toInt ≤ 55295) ∨ (63744 ≤ x.toInt ∧ x.toInt ≤ 64975) ∨ (65008 ≤ x.toInt ∧ x.toInt ≤ 65533) ∨ 65536 ≤ x.toInt) → f2_99 x = 0) := by
  have hi : ((8203 : Int32) < x) ↔ 8203 < x.toInt := Int32.lt_iff_toInt_lt
  have r1 := Int32.le_toInt x
  have r2 := Int32.toInt_lt x
  by_cases hB : (8203 : Int32) < x
  · have hb : 8203 < x.toInt := hi.mp hB
    exact ⟨fun d => ((if_pos hB) : f2_99 x = _).trans ((own_c2_106 x).1 (by first | exact trivial | exact not_false | omega)), fun d => ((if_pos hB) : f2_99 x = _).trans ((own_c2_106 x).2 (by first | exact trivial | exact not_false | omega))⟩
  · have hb : ¬ (8203 < x.toInt) := fun y => hB (hi.mpr y)
    exact ⟨fun d => ((if_neg hB) : f2_99 x = _).trans ((own_c2_184 x).1 (by first | exact trivial | exact not_false | omega)), fun d => ((if_neg hB) : f2_99 x = _).trans ((own_c2_184 x).2 (by first | exact trivial | exact not_false | omega))⟩
theorem own_c2_92 (x : Int32) : (x.toInt ≤ 8191 ∨ (8204 ≤ x.toInt ∧ x.toInt ≤ 8205) ∨ (8304 ≤ x.toInt ∧ x.toInt ≤ 8591) ∨ (11264 ≤ x.toInt ∧ x.toInt ≤ 12271) ∨ (12289 ≤ x.toInt ∧ x.toInt ≤ 55295) ∨ (63744 ≤ x.toInt ∧ x.toInt ≤ 64975) ∨ (65008 ≤ x.toInt ∧ x.toInt ≤ 65533) ∨ 65536 ≤ x.toInt → f2_92 x = 1) ∧ (¬ (x.toInt ≤ 8191 ∨ (8204 ≤ x.toInt ∧ x.toInt ≤ 8205) ∨ (8304 ≤ x.toInt ∧ x.toInt ≤ 8591) ∨ (11264 ≤ x.toInt ∧ x.toInt ≤ 12271) ∨ (12289 ≤ x.toInt ∧ x.toInt ≤ 55295) ∨ (63744 ≤ x.toInt ∧ x.toInt ≤ 64975) ∨ (65008 ≤ x.toInt ∧ x.toInt ≤ 65533) ∨ 65536 ≤ x.toInt) → f2_92 x = 0) := by
  have hi : (x < (8192 : Int32)) ↔ x.toInt < 8192 := Int32.lt_iff_toInt_lt
  have r1 := Int32.le_toInt x
  have r2 := Int32.toInt_lt x
  by_cases hB : x < (8192 : Int32)
  · have hb : x.toInt < 8192 := hi.mp hB
    exact ⟨fun d => ((if_pos hB) : f2_92 x = _).trans ((own_c2_106 x).1 (by first | exact trivial | exact not_false | omega)), fun d => ((if_pos hB) : f2_92 x = _).trans ((own_c2_106 x).2 (by first | exact trivial | exact not_false | omega))⟩
  · have hb : ¬ (x.toInt < 8192) := fun y => hB (hi.mpr y)
    exact ⟨fun d => ((if_neg hB) : f2_92 x = _).trans ((own_c2_99 x).1 (by first | exact trivial | exact not_false | omega)), fun d => ((if_neg hB) : f2_92 x = _).trans ((own_c2_99 x).2 (by first | exact trivial | exact not_false | omega))⟩
theorem own_c2_85 (x : Int32) : (x.toInt ≤ 893 ∨ (895 ≤ x.toInt ∧ x.toInt ≤ 8191) ∨ (8204 ≤ x.toInt ∧ x.toInt ≤ 8205) ∨ (8304 ≤ x.toInt ∧ x.toInt ≤ 8591) ∨ (11264 ≤ x.toInt ∧ x.toInt ≤ 12271) ∨ (12289 ≤ x.toInt ∧ x.toInt ≤ 55295) ∨ (63744 ≤ x.toInt ∧ x.toInt ≤ 64975) ∨ (65008 ≤ x.toInt ∧ x.toInt ≤ 65533) ∨ 65536 ≤ x.toInt → f2_85 x = 1) ∧ (¬ (x.toInt ≤ 893 ∨ (895 ≤ x.toInt ∧ x.toInt ≤ 8191) ∨ (8204 ≤ x.toInt ∧ x.toInt ≤ 8205) ∨ (8304 ≤ x.toInt ∧ x.toInt ≤ 8591) ∨ (11264 ≤ x.toInt ∧ x.toInt ≤ 12271) ∨ (12289 ≤ x.toInt ∧ x.toInt ≤ 55295) ∨ (63744 ≤ x.toInt ∧ x.toInt ≤ 64975) ∨ (65008 ≤ x.toInt ∧ x.toInt ≤ 65533) ∨ 65536 ≤ x.toInt) → f2_85 x = 0) := by
  have hi : (x = (894 : Int32)) ↔ x.toInt = 894 := own_eqi (by decide)
  have r1 := Int32.le_toInt x
  have r2 := Int32.toInt_lt x
  by_cases hB : x = (894 : Int32)
  · have hb : x.toInt = 894 := hi.mp hB
    exact ⟨fun d => ((if_pos hB) : f2_85 x = _).trans ((own_c2_184 x).1 (by first | exact trivial | exact not_false | omega)), fun d => ((if_pos hB) : f2_85 x = _).trans ((own_c2_184 x).2 (by first | exact trivial | exact not_false | omega))⟩
  · have hb : ¬ (x.toInt = 894) := fun y => hB (hi.mpr y)
    exact ⟨fun d => ((if_neg hB) : f2_85 x = _).trans ((own_c2_92 x).1 (by first | exact trivial | exact not_false | omega)), fun d => ((if_neg hB) : f2_85 x = _).trans ((own_c2_92 x).2 (by first | exact trivial | exact not_false | omega))⟩
theorem own_c2_78 (x : Int32) : ((880 ≤ x.toInt ∧ x.toInt ≤ 893) ∨ (895 ≤ x.toInt ∧ x.toInt ≤ 8191) ∨ (8204 ≤ x.toInt ∧ x.toInt ≤ 8205) ∨ (8304 ≤ x.toInt ∧ x.toInt ≤ 8591) ∨ (11264 ≤ x.toInt ∧ x.toInt ≤ 12271) ∨ (12289 ≤ x.toInt ∧ x.toInt ≤ 55295) ∨ (63744 ≤ x.toInt ∧ x.toInt ≤ 64975) ∨ (65008 ≤ x.toInt ∧ x.toInt ≤ 65533) ∨ 65536 ≤ x.toInt → f2_78 x = 1) ∧ (¬ ((880 ≤ x.toInt ∧ x.toInt ≤ 893) ∨ (895 ≤ x.toInt ∧ x.toInt ≤ 8191) ∨ (8204 ≤ x.toInt ∧ x.toInt ≤ 8205) ∨ (8304 ≤ x.toInt ∧ x.toInt ≤ 8591) ∨ (11264 ≤ x.toInt ∧ x.toInt ≤ 12271) ∨ (12289 ≤ x.toInt ∧ x.toInt ≤ 55295) ∨ (63744 ≤ x.toInt ∧ x.toInt ≤ 64975) ∨ (65008 ≤ x.toInt ∧ x.toInt ≤ 65533) ∨ 65536 ≤ x.toInt) → f2_78 x = 0) := by
  have hi : ((879 : Int32) < x) ↔ 879 < x.toInt := Int32.lt_iff_toInt_lt
  have r1 := Int32.le_toInt x
  have r2 := Int32.toInt_lt x
  by_cases hB : (879 : Int32) < x
  · have hb : 879 < x.toInt := hi.mp hB
    exact ⟨fun d => ((if_pos hB) : f2_78 x = _).trans ((own_c2_85 x).1 (by first | exact trivial | exact not_false | omega)), fun d => ((if_pos hB) : f2_78 x = _).trans ((own_c2_85 x).2 (by first | exact trivial | exact not_false | omega))⟩
  · have hb : ¬ (879 < x.toInt) := fun y => hB (hi.mpr y)
    exact ⟨fun d => ((if_neg hB) : f2_78 x = _).trans ((own_c2_184 x).1 (by first | exact trivial | exact not_false | omega)), fun d => ((if_neg hB) : f2_78 x = _).trans ((own_c2_184 x).2 (by first | exact trivial | exact not_false | omega))⟩
theorem own_c2_71 (x : Int32) : (x.toInt ≤ 767 ∨ (880 ≤ x.toInt ∧ x.toInt ≤ 893) ∨ (895 ≤ x.toInt ∧ x.toInt ≤ 8191) ∨ (8204 ≤ x.toInt ∧ x.toInt ≤ 8205) ∨ (8304 ≤ x.toInt ∧ x.toInt ≤ 8591) ∨ (11264 ≤ x.toInt ∧ x.toInt ≤ 12271) ∨ (12289 ≤ x.toInt ∧ x.toInt ≤ 55295) ∨ (63744 ≤ x.toInt ∧ x.toInt ≤ 64975) ∨ (65008 ≤ x.toInt ∧ x.toInt ≤ 65533) ∨ 65536 ≤ x.toInt → f2_71 x = 1) ∧ (¬ (x.toInt ≤ 767 ∨ (880 ≤ x.toInt ∧ x.toInt ≤ 893) ∨ (895 ≤ x.toInt ∧ x.toInt ≤ 8191) ∨ (8204 ≤ x.toInt ∧ x.toInt ≤ 8205) ∨ (8304 ≤ x.toInt ∧ x.toInt ≤ 8591) ∨ (11264 ≤ x.toInt ∧ x.toInt ≤ 12271) ∨ (12289 ≤ x.toInt ∧ x.toInt ≤ 55295) ∨ (63744 ≤ x.toInt ∧ x.toInt ≤ 64975) ∨ (65008 ≤ x.toInt ∧ x.toInt ≤ 65533) ∨ 65536 ≤ x.toInt) → f2_71 x = 0) := by
  have hi : (x < (768 : Int32)) ↔ x.toInt < 768 := Int32.lt_iff_toInt_lt
  have r1 := Int32.le_toInt x
  have r2 := Int32.toInt_lt x
  by_cases hB : x < (768 : Int32)
  · have hb : x.toInt < 768 := hi.mp hB
    exact ⟨fun d => ((if_pos hB) : f2_71 x = _).trans ((own_c2_85 x).1 (by first | exact trivial | exact not_false | omega)), fun d => ((if_pos hB) : f2_71 x = _).trans ((own_c2_85 x).2 (by first | exact trivial | exact not_false | omega))⟩
  · have hb : ¬ (x.toInt < 768) := fun y => hB (hi.mpr y)
    exact ⟨fun d => ((if_neg hB) : f2_71 x = _).trans ((own_c2_78 x).1 (by first | exact trivial | exact not_false | omega)), fun d => ((if_neg hB) : f2_71 x = _).trans ((own_c2_78 x).2 (by first | exact trivial | exact not_false | omega))⟩
theorem own_c2_64 (x : Int32) : (x.toInt ≤ 246 ∨ (248 ≤ x.toInt ∧ x.toInt ≤ 767) ∨ (880 ≤ x.toInt ∧ x.toInt ≤ 893) ∨ (895 ≤ x.toInt ∧ x.toInt ≤ 8191) ∨ (8204 ≤ x.toInt ∧ x.toInt ≤ 8205) ∨ (8304 ≤ x.toInt ∧ x.toInt ≤ 8591) ∨ (11264 ≤ x.toInt ∧ x.toInt ≤ 12271) ∨ (12289 ≤ x.toInt ∧ x.toInt ≤ 55295) ∨ (63744 ≤ x.toInt ∧ x.toInt ≤ 64975) ∨ (65008 ≤ x.toInt ∧ x.toInt ≤ 65533) ∨ 65536 ≤ x.toInt → f2_64 x = 1) ∧ (¬ (x.toInt ≤ 246 ∨ (248 ≤ x.toInt ∧ x.toInt ≤ 767) ∨ (880 ≤ x.toInt ∧ x.toInt ≤ 893) ∨ (895 ≤ x.toInt ∧ x.toInt ≤ 8191) ∨ (8204 ≤ x.toInt ∧ x.toInt ≤ 8205) ∨ (8304 ≤ x.toInt ∧ x.toInt ≤ 8591) ∨ (11264 ≤ x.toInt ∧ x.toInt ≤ 12271) ∨ (12289 ≤ x.toInt ∧ x.toInt ≤ 55295) ∨ (63744 ≤ x.toInt ∧ x.toInt ≤ 64975) ∨ (65008 ≤ x.toInt ∧ x.toInt ≤ 65533) ∨ 65536 ≤ x.toInt) → f2_64 x = 0) := by
  have hi : (x = (247 : Int32)) ↔ x.toInt = 247 := own_eqi (by decide)
  have r1 := Int32.le_toInt x
  have r2 := Int32.toInt_lt x
  by_cases hB : x = (247 : Int32)
  · have hb : x.toInt = 247 := hi.mp hB
    exact ⟨fun d => ((if_pos hB) : f2_64 x = _).trans ((own_c2_184 x).1 (by first | exact trivial | exact not_false | omega)), fun d => ((if_pos hB) : f2_64 x = _).trans ((own_c2_184 x).2 (by first | exact trivial | exact not_false | omega))⟩
  · have hb : ¬ (x.toInt = 247) := fun y => hB (hi.mpr y)
    exact ⟨fun d => ((if_neg hB) : f2_64 x = _).trans ((own_c2_71 x).1 (by first | exact trivial | exact not_false | omega)), fun d => ((if_neg hB) : f2_64 x = _).trans ((own_c2_71 x).2 (by first | exact trivial | exact not_false | omega))⟩
theorem own_c2_57 (x : Int32) : (x.toInt ≤ 214 ∨ (216 ≤ x.toInt ∧ x.toInt ≤ 246) ∨ (248 ≤ x.toInt ∧ x.toInt ≤ 767) ∨ (880 ≤ x.toInt ∧ x.toInt ≤ 893) ∨ (895 ≤ x.toInt ∧ x.toInt ≤ 8191) ∨ (8204 ≤ x.toInt ∧ x.toInt ≤ 8205) ∨ (8304 ≤ x.toInt ∧ x.toInt ≤ 8591) ∨ (11264 ≤ x.toInt ∧ x.toInt ≤ 12271) ∨ (12289 ≤ x.toInt ∧ x.toInt ≤ 55295) ∨ (63744 ≤ x.toInt ∧ x.toInt ≤ 64975) ∨ (65008 ≤ x.toInt ∧ x.toInt ≤ 65533) ∨ 65536 ≤ x.toInt → f2_57 x = 1) ∧ (¬ (x.toInt ≤ 214 ∨ (216 ≤ x.toInt ∧ x.toInt ≤ 246) ∨ (248 ≤ x.toInt ∧ x.toInt ≤ 767) ∨ (880 ≤ x.toInt ∧ x.toInt ≤ 893) ∨ (895 ≤ x.toInt ∧ x.toInt ≤ 8191) ∨ (8204 ≤ x.toInt ∧ x.toInt ≤ 8205) ∨ (8304 ≤ x.toInt ∧ x.toInt ≤ 8591) ∨ (11264 ≤ x.toInt ∧ x.toInt ≤ 12271) ∨ (12289 ≤ x.toInt ∧ x.toInt ≤ 55295) ∨ (63744 ≤ x.toInt ∧ x.toInt ≤ 64975) ∨ (65008 ≤ x.toInt ∧ x.toInt ≤ 65533) ∨ 65536 ≤ x.toInt) → f2_57 x = 0) := by
  have hi : (x = (215 : Int32)) ↔ x.toInt = 215 := own_eqi (by decide)
  have r1 := Int32.le_toInt x
  have r2 := Int32.toInt_lt x
  by_cases hB : x = (215 : Int32)
  · have hb : x.toInt = 215 := hi.mp hB
    exact ⟨fun d => ((if_pos hB) : f2_57 x = _).trans ((own_c2_184 x).1 (by first | exact trivial | exact not_false | omega)), fun d => ((if_pos hB) : f2_57 x = _).trans ((own_c2_184 x).2 (by first | exact trivial | exact not_false | omega))⟩
  · have hb : ¬ (x.toInt = 215) := fun y => hB (hi.mpr y)
    exact ⟨fun d => ((if_neg hB) : f2_57 x = _).trans ((own_c2_64 x).1 (by first | exact trivial | exact not_false | omega)), fun d => ((if_neg hB) : f2_57 x = _).trans ((own_c2_64 x).2 (by first | exact trivial | exact not_false | omega))⟩
theorem own_c2_50 (x : Int32) : ((192 ≤ x.toInt ∧ x.toInt ≤ 214) ∨ (216 ≤ x.toInt ∧ x.toInt ≤ 246) ∨ (248 ≤ x.toInt ∧ x.toInt ≤ 767) ∨ (880 ≤ x.toInt ∧ x.toInt ≤ 893) ∨ (895 ≤ x.toInt ∧ x.toInt ≤ 8191) ∨ (8204 ≤ x.toInt ∧ x.toInt ≤ 8205) ∨ (8304 ≤ x.toInt ∧ x.toInt ≤ 8591) ∨ (11264 ≤ x.toInt ∧ x.toInt ≤ 12271) ∨ (12289 ≤ x.toInt ∧ x.toInt ≤ 55295) ∨ (63744 ≤ x.toInt ∧ x.toInt ≤ 64975) ∨ (65008 ≤ x.toInt ∧ x.toInt ≤ 65533) ∨ 65536 ≤ x.toInt → f2_50 x = 1) ∧ (¬ ((192 ≤ x.toInt ∧ x.toInt ≤ 214) ∨ (216 ≤ x.toInt ∧ x.toInt ≤ 246) ∨ (248 ≤ x.toInt ∧ x.toInt ≤ 767) ∨ (880 ≤ x.toInt ∧ x.toInt ≤ 893) ∨ (895 ≤ x.toInt ∧ x.toInt ≤ 8191) ∨ (8204 ≤ x.toInt ∧ x.toInt ≤ 8205) ∨ (8304 ≤ x.toInt ∧ x.toInt ≤ 8591) ∨ (11264 ≤ x.toInt ∧ x.toInt ≤ 12271) ∨ (12289 ≤ x.toInt ∧ x.toInt ≤ 55295) ∨ (63744 ≤ x.toInt ∧ x.toInt ≤ 64975) ∨ (65008 ≤ x.toInt ∧ x.toInt ≤ 65533) ∨ 65536 ≤ x.toInt) → f2_50 x = 0) := by
  have hi : ((191 : Int32) < x) ↔ 191 < x.toInt := Int32.lt_iff_toInt_lt
  have r1 := Int32.le_toInt x
  have r2 := Int32.toInt_lt x
  by_cases hB : (191 : Int32) < x
  · have hb : 191 < x.toInt := hi.mp hB
    exact ⟨fun d => ((if_pos hB) : f2_50 x = _).trans ((own_c2_57 x).1 (by first | exact trivial | exact not_false | omega)), fun d => ((if_pos hB) : f2_50 x = _).trans ((own_c2_57 x).2 (by first | exact trivial | exact not_false | omega))⟩
  · have hb : ¬ (191 < x.toInt) := fun y => hB (hi.mpr y)
    exact ⟨fun d => ((if_neg hB) : f2_50 x = _).trans ((own_c2_184 x).1 (by first | exact trivial | exact not_false | omega)), fun d => ((if_neg hB) : f2_50 x = _).trans ((own_c2_184 x).2 (by first | exact trivial | exact not_false | omega))⟩
theorem own_c2_44 (x : Int32) : (x.toInt ≤ 122 ∨ (192 ≤ x.toInt ∧ x.toInt ≤ 214) ∨ (216 ≤ x.toInt ∧ x.toInt ≤ 246) ∨ (248 ≤ x.toInt ∧ x.toInt ≤ 767) ∨ (880 ≤ x.toInt ∧ x.toInt ≤ 893) ∨ (895 ≤ x.toInt ∧ x.toInt ≤ 8191) ∨ (8204 ≤ x.toInt ∧ x.toInt ≤ 8205) ∨ (8304 ≤ x.toInt ∧ x.toInt ≤ 8591) ∨ (11264 ≤ x.toInt ∧ x.toInt ≤ 12271) ∨ (12289 ≤ x.toInt ∧ x.toInt ≤ 55295) ∨ (63744 ≤ x.toInt ∧ x.toInt ≤ 64975) ∨ (65008 ≤ x.toInt ∧ x.toInt ≤ 65533) ∨ 65536 ≤ x.toInt → f2_44 x = 1) ∧ (¬ (x.toInt ≤ 122 ∨ (192 ≤ x.toInt ∧ x.toInt ≤ 214) ∨ (216 ≤ x.toInt ∧ x.toInt ≤ 246) ∨ (248 ≤ x.toInt ∧ x.toInt ≤ 767) ∨ (880 ≤ x.toInt ∧ x.toInt ≤ 893) ∨ (895 ≤ x.toInt ∧ x.toInt ≤ 8191) ∨ (8204 ≤ x.toInt ∧ x.toInt ≤ 8205) ∨ (8304 ≤ x.toInt ∧ x.toInt ≤ 8591) ∨ (11264 ≤ x.toInt ∧ x.toInt ≤ 12271) ∨ (12289 ≤ x.toInt ∧ x.toInt ≤ 55295) ∨ (63744 ≤ x.toInt ∧ x.toInt ≤ 64975) ∨ (65008 ≤ x.toInt ∧ x.toInt ≤ 65533) ∨ 65536 ≤ x.toInt) → f2_44 x = 0) := by
  have hi : (x < (123 : Int32)) ↔ x.toInt < 123 := Int32.lt_iff_toInt_lt
  have r1 := Int32.le_toInt x
  have r2 := Int32.toInt_lt x
  by_cases hB : x < (123 : Int32)
  · have hb : x.toInt < 123 := hi.mp hB
    exact ⟨fun d => ((if_pos hB) : f2_44 x = _).trans ((own_c2_57 x).1 (by first | exact trivial | exact not_false | omega)), fun d => ((if_pos hB) : f2_44 x = _).trans ((own_c2_57 x).2 (by first | exact trivial | exact not_false | omega))⟩
  · have hb : ¬ (x.toInt < 123) := fun y => hB (hi.mpr y)
    exact ⟨fun d => ((if_neg hB) : f2_44 x = _).trans ((own_c2_50 x).1 (by first | exact trivial | exact not_false | omega)), fun d => ((if_neg hB) : f2_44 x = _).trans ((own_c2_50 x).2 (by first | exact trivial | exact not_false | omega))⟩
theorem own_c2_38 (x : Int32) : (x.toInt ≤ 95 ∨ (97 ≤ x.toInt ∧ x.toInt ≤ 122) ∨ (192 ≤ x.toInt ∧ x.toInt ≤ 214) ∨ (216 ≤ x.toInt ∧ x.toInt ≤ 246) ∨ (248 ≤ x.toInt ∧ x.toInt ≤ 767) ∨ (880 ≤ x.toInt ∧ x.toInt ≤ 893) ∨ (895 ≤ x.toInt ∧ x.toInt ≤ 8191) ∨ (8204 ≤ x.toInt ∧ x.toInt ≤ 8205) ∨ (8304 ≤ x.toInt ∧ x.toInt ≤ 8591) ∨ (11264 ≤ x.toInt ∧ x.toInt ≤ 12271) ∨ (12289 ≤ x.toInt ∧ x.toInt ≤ 55295) ∨ (63744 ≤ x.toInt ∧ x.toInt ≤ 64975) ∨ (65008 ≤ x.toInt ∧ x.toInt ≤ 65533) ∨ 65536 ≤ x.toInt → f2_38 x = 1) ∧ (¬ (x.toInt ≤ 95 ∨ (97 ≤ x.toInt ∧ x.toInt ≤ 122) ∨ (192 ≤ x.toInt ∧ x.toInt ≤ 214) ∨ (216 ≤ x.toInt ∧ x.toInt ≤ 246) ∨ (248 ≤ x.toInt ∧ x.toInt ≤ 767) ∨ (880 ≤ x.toInt ∧ x.toInt ≤ 893) ∨ (895 ≤ x.toInt ∧ x.toInt ≤ 8191) ∨ (8204 ≤ x.toInt ∧ x.toInt ≤ 8205) ∨ (8304 ≤ x.toInt ∧ x.toInt ≤ 8591) ∨ (11264 ≤ x.toInt ∧ x.toInt ≤ 12271) ∨ (12289 ≤ x.toInt ∧ x.toInt ≤ 55295) ∨ (63744 ≤ x.toInt ∧ x.toInt ≤ 64975) ∨ (65008 ≤ x.toInt ∧ x.toInt ≤ 65533) ∨ 65536 ≤ x.toInt) → f2_38 x = 0) := by
  have hi : (x = (96 : Int32)) ↔ x.toInt = 96 := own_eqi (by decide)
  have r1 := Int32.le_toInt x
  have r2 := Int32.toInt_lt x
  by_cases hB : x = (96 : Int32)
  · have hb : x.toInt = 96 := hi.mp hB
    exact ⟨fun d => ((if_pos hB) : f2_38 x = _).trans ((own_c2_184 x).1 (by first | exact trivial | exact not_false | omega)), fun d => ((if_pos hB) : f2_38 x = _).trans ((own_c2_184 x).2 (by first | exact trivial | exact not_false | omega))⟩
  · have hb : ¬ (x.toInt = 96) := fun y => hB (hi.mpr y)
    exact ⟨fun d => ((if_neg hB) : f2_38 x = _).trans ((own_c2_44 x).1 (by first | exact trivial | exact not_false | omega)), fun d => ((if_neg hB) : f2_38 x = _).trans ((own_c2_44 x).2 (by first | exact trivial | exact not_false | omega))⟩
theorem own_c2_32 (x : Int32) : (x.toInt = 95 ∨ (97 ≤ x.toInt ∧ x.toInt ≤ 122) ∨ (192 ≤ x.toInt ∧ x.toInt ≤ 214) ∨ (216 ≤ x.toInt ∧ x.toInt ≤ 246) ∨ (248 ≤ x.toInt ∧ x.toInt ≤ 767) ∨ (880 ≤ x.toInt ∧ x.toInt ≤ 893) ∨ (895 ≤ x.toInt ∧ x.toInt ≤ 8191) ∨ (8204 ≤ x.toInt ∧ x.toInt ≤ 8205) ∨ (8304 ≤ x.toInt ∧ x.toInt ≤ 8591) ∨ (11264 ≤ x.toInt ∧ x.toInt ≤ 12271) ∨ (12289 ≤ x.toInt ∧ x.toInt ≤ 55295) ∨ (63744 ≤ x.toInt ∧ x.toInt ≤ 64975) ∨ (65008 ≤ x.toInt ∧ x.toInt ≤ 65533) ∨ 65536 ≤ x.toInt → f2_32 x = 1) ∧ (¬ (x.toInt = 95 ∨ (97 ≤ x.toInt ∧ x.toInt ≤ 122) ∨ (192 ≤ x.toInt ∧ x.toInt ≤ 214) ∨ (216 ≤ x.toInt ∧ x.toInt ≤ 246) ∨ (248 ≤ x.toInt ∧ x.toInt ≤ 767) ∨ (880 ≤ x.toInt ∧ x.toInt ≤ 893) ∨ (895 ≤ x.toInt ∧ x.toInt ≤ 8191) ∨ (8204 ≤ x.toInt ∧ x.toInt ≤ 8205) ∨ (8304 ≤ x.toInt ∧ x.toInt ≤ 8591) ∨ (11264 ≤ x.toInt ∧ x.toInt ≤ 12271) ∨ (12289 ≤ x.toInt ∧ x.toInt ≤ 55295) ∨ (63744 ≤ x.toInt ∧ x.toInt ≤ 64975) ∨ (65008 ≤ x.toInt ∧ x.toInt ≤ 65533) ∨ 65536 ≤ x.toInt) → f2_32 x = 0) := by
  have hi : ((94 : Int32) < x) ↔ 94 < x.toInt := Int32.lt_iff_toInt_lt
  have r1 := Int32.le_toInt x
  have r2 := Int32.toInt_lt x
  by_cases hB : (94 : Int32) < x
  · have hb : 94 < x.toInt := hi.mp hB
    exact ⟨fun d => ((if_pos hB) : f2_32 x = _).trans ((own_c2_38 x).1 (by first | exact trivial | exact not_false | omega)), fun d => ((if_pos hB) : f2_32 x = _).trans ((own_c2_38 x).2 (by first | exact trivial | exact not_false | omega))⟩
  · have hb : ¬ (94 < x.toInt) := fun y => hB (hi.mpr y)
    exact ⟨fun d => ((if_neg hB) : f2_32 x = _).trans ((own_c2_184 x).1 (by first | exact trivial | exact not_false | omega)), fun d => ((if_neg hB) : f2_32 x = _).trans ((own_c2_184 x).2 (by first | exact trivial | exact not_false | omega))⟩
theorem own_c2_26 (x : Int32) : (x.toInt ≤ 90 ∨ x.toInt = 95 ∨ (97 ≤ x.toInt ∧ x.toInt ≤ 122) ∨ (192 ≤ x.toInt ∧ x.toInt ≤ 214) ∨ (216 ≤ x.toInt ∧ x.toInt ≤ 246) ∨ (248 ≤ x.toInt ∧ x.toInt ≤ 767) ∨ (880 ≤ x.toInt ∧ x.toInt ≤ 893) ∨ (895 ≤ x.toInt ∧ x.toInt ≤ 8191) ∨ (8204 ≤ x.toInt ∧ x.toInt ≤ 8205) ∨ (8304 ≤ x.toInt ∧ x.toInt ≤ 8591) ∨ (11264 ≤ x.toInt ∧ x.toInt ≤ 12271) ∨ (12289 ≤ x.toInt ∧ x.toInt ≤ 55295) ∨ (63744 ≤ x.toInt ∧ x.toInt ≤ 64975) ∨ (65008 ≤ x.toInt ∧ x.toInt ≤ 65533) ∨ 65536 ≤ x.toInt → f2_26 x = 1) ∧ (¬ (x.toInt ≤ 90 ∨ x.toInt = 95 ∨ (97 ≤ x.toInt ∧ x.toInt ≤ 122) ∨ (192 ≤ x.toInt ∧ x.toInt ≤ 214) ∨ (216 ≤ x.toInt ∧ x.toInt ≤ 246) ∨ (248 ≤ x.toInt ∧ x.toInt ≤ 767) ∨ (880 ≤ x.toInt ∧ x.toInt ≤ 893) ∨ (895 ≤ x.toInt ∧ x.toInt ≤ 8191) ∨ (8204 ≤ x.toInt ∧ x.toInt ≤ 8205) ∨ (8304 ≤ x.toInt ∧ x.toInt ≤ 8591) ∨ (11264 ≤ x.toInt ∧ x.toInt ≤ 12271) ∨ (12289 ≤ x.toInt ∧ x.toInt ≤ 55295) ∨ (63744 ≤ x.toInt ∧ x.toInt ≤ 64975) ∨ (65008 ≤ x.toInt ∧ x.toInt ≤ 65533) ∨ 65536 ≤ x.toInt) → f2_26 x = 0) := by
  have hi : (x < (91 : Int32)) ↔ x.toInt < 91 := Int32.lt_iff_toInt_lt
  have r1 := Int32.le_toInt x
  have r2 := Int32.toInt_lt x
  by_cases hB : x < (91 : Int32)
  · have hb : x.toInt < 91 := hi.mp hB
    exact ⟨fun d => ((if_pos hB) : f2_26 x = _).trans ((own_c2_38 x).1 (by first | exact trivial | exact not_false | omega)), fun d => ((if_pos hB) : f2_26 x = _).trans ((own_c2_38 x).2 (by first | exact trivial | exact not_false | omega))⟩
  · have hb : ¬ (x.toInt < 91) := fun y => hB (hi.mpr y)
    exact ⟨fun d => ((if_neg hB) : f2_26 x = _).trans ((own_c2_32 x).1 (by first | exact trivial | exact not_false | omega)), fun d => ((if_neg hB) : f2_26 x = _).trans ((own_c2_32 x).2 (by first | exact trivial | exact not_false | omega))⟩
theorem own_c2_20 (x : Int32) : ((65 ≤ x.toInt ∧ x.toInt ≤ 90) ∨ x.toInt = 95 ∨ (97 ≤ x.toInt ∧ x.toInt ≤ 122) ∨ (192 ≤ x.toInt ∧ x.toInt ≤ 214) ∨ (216 ≤ x.toInt ∧ x.toInt ≤ 246) ∨ (248 ≤ x.toInt ∧ x.toInt ≤ 767) ∨ (880 ≤ x.toInt ∧ x.toInt ≤ 893) ∨ (895 ≤ x.toInt ∧ x.toInt ≤ 8191) ∨ (8204 ≤ x.toInt ∧ x.toInt ≤ 8205) ∨ (8304 ≤ x.toInt ∧ x.toInt ≤ 8591) ∨ (11264 ≤ x.toInt ∧ x.toInt ≤ 12271) ∨ (12289 ≤ x.toInt ∧ x.toInt ≤ 55295) ∨ (63744 ≤ x.toInt ∧ x.toInt ≤ 64975) ∨ (65008 ≤ x.toInt ∧ x.toInt ≤ 65533) ∨ 65536 ≤ x.toInt → f2_20 x = 1) ∧ (¬ ((65 ≤ x.toInt ∧ x.toInt ≤ 90) ∨ x.toInt = 95 ∨ (97 ≤ x.toInt ∧ x.toInt ≤ 122) ∨ (192 ≤ x.toInt ∧ x.toInt ≤ 214) ∨ (216 ≤ x.toInt ∧ x.toInt ≤ 246) ∨ (248 ≤ x.toInt ∧ x.toInt ≤ 767) ∨ (880 ≤ x.toInt ∧ x.toInt ≤ 893) ∨ (895 ≤ x.toInt ∧ x.toInt ≤ 8191) ∨ (8204 ≤ x.toInt ∧ x.toInt ≤ 8205) ∨ (8304 ≤ x.toInt ∧ x.toInt ≤ 8591) ∨ (11264 ≤ x.toInt ∧ x.toInt ≤ 12271) ∨ (12289 ≤ x.toInt ∧ x.toInt ≤ 55295) ∨ (63744 ≤ x.toInt ∧ x.toInt ≤ 64975) ∨ (65008 ≤ x.toInt ∧ x.toInt ≤ 65533) ∨ 65536 ≤ x.toInt) → f2_20 x = 0) := by
  have hi : ((64 : Int32) < x) ↔ 64 < x.toInt := Int32.lt_iff_toInt_lt
  have r1 := Int32.le_toInt x
  have r2 := Int32.toInt_lt x
  by_cases hB : (64 : Int32) < x
  · have hb : 64 < x.toInt := hi.mp hB
    exact ⟨fun d => ((if_pos hB) : f2_20 x = _).trans ((own_c2_26 x).1 (by first | exact trivial | exact not_false | omega)), fun d => ((if_pos hB) : f2_20 x = _).trans ((own_c2_26 x).2 (by first | exact trivial | exact not_false | omega))⟩
  · have hb : ¬ (64 < x.toInt) := fun y => hB (hi.mpr y)
    exact ⟨fun d => ((if_neg hB) : f2_20 x = _).trans ((own_c2_184 x).1 (by first | exact trivial | exact not_false | omega)), fun d => ((if_neg hB) : f2_20 x = _).trans ((own_c2_184 x).2 (by first | exact trivial | exact not_false | omega))⟩
theorem own_c2_14 (x : Int32) : (x.toInt ≤ 58 ∨ (65 ≤ x.toInt ∧ x.toInt ≤ 90) ∨ x.toInt = 95 ∨ (97 ≤ x.toInt ∧ x.toInt ≤ 122) ∨ (192 ≤ x.toInt ∧ x.toInt ≤ 214) ∨ (216 ≤ x.toInt ∧ x.toInt ≤ 246) ∨ (248 ≤ x.toInt ∧ x.toInt ≤ 767) ∨ (880 ≤ x.toInt ∧ x.toInt ≤ 893) ∨ (895 ≤ x.toInt ∧ x.toInt ≤ 8191) ∨ (8204 ≤ x.toInt ∧ x.toInt ≤ 8205) ∨ (8304 ≤ x.toInt ∧ x.toInt ≤ 8591) ∨ (11264 ≤ x.toInt ∧ x.toInt ≤ 12271) ∨ (12289 ≤ x.toInt ∧ x.toInt ≤ 55295) ∨ (63744 ≤ x.toInt ∧ x.toInt ≤ 64975) ∨ (65008 ≤ x.toInt ∧ x.toInt ≤ 65533) ∨ 65536 ≤ x.toInt → f2_14 x = 1) ∧ (¬ (x.toInt ≤ 58 ∨ (65 ≤ x.toInt ∧ x.toInt ≤ 90) ∨ x.toInt = 95 ∨ (97 ≤ x.toInt ∧ x.toInt ≤ 122) ∨ (192 ≤ x.toInt ∧ x.toInt ≤ 214) ∨ (216 ≤ x.toInt ∧ x.toInt ≤ 246) ∨ (248 ≤ x.toInt ∧ x.toInt ≤ 767) ∨ (880 ≤ x.toInt ∧ x.toInt ≤ 893) ∨ (895 ≤ x.toInt ∧ x.toInt ≤ 8191) ∨ (8204 ≤ x.toInt ∧ x.toInt ≤ 8205) ∨ (8304 ≤ x.toInt ∧ x.toInt ≤ 8591) ∨ (11264 ≤ x.toInt ∧ x.toInt ≤ 12271) ∨ (12289 ≤ x.toInt ∧ x.toInt ≤ 55295) ∨ (63744 ≤ x.toInt ∧ x.toInt ≤ 64975) ∨ (65008 ≤ x.toInt ∧ x.toInt ≤ 65533) ∨ 65536 ≤ x.toInt) → f2_14 x = 0) := by
  have hi : (x < (59 : Int32)) ↔ x.toInt < 59 := Int32.lt_iff_toInt_lt
  have r1 := Int32.le_toInt x
  have r2 := Int32.toInt_lt x
  by_cases hB : x < (59 : Int32)
  · have hb : x.toInt < 59 := hi.mp hB
    exact ⟨fun d => ((if_pos hB) : f2_14 x = _).trans ((own_c2_26 x).1 (by first | exact trivial | exact not_false | omega)), fun d => ((if_pos hB) : f2_14 x = _).trans ((own_c2_26 x).2 (by first | exact trivial | exact not_false | omega))⟩
  · have hb : ¬ (x.toInt < 59) := fun y => hB (hi.mpr y)
    exact ⟨fun d => ((if_neg hB) : f2_14 x = _).trans ((own_c2_20 x).1 (by first | exact trivial | exact not_false | omega)), fun d => ((if_neg hB) : f2_14 x = _).trans ((own_c2_20 x).2 (by first | exact trivial | exact not_false | omega))⟩
theorem own_c2_6 (x : Int32) : (x.toInt ≤ 58 ∨ (65 ≤ x.toInt ∧ x.toInt ≤ 90) ∨ x.toInt = 95 ∨ (97 ≤ x.toInt ∧ x.toInt ≤ 122) ∨ (192 ≤ x.toInt ∧ x.toInt ≤ 214) ∨ (216 ≤ x.toInt ∧ x.toInt ≤ 246) ∨ (248 ≤ x.toInt ∧ x.toInt ≤ 767) ∨ (880 ≤ x.toInt ∧ x.toInt ≤ 893) ∨ (895 ≤ x.toInt ∧ x.toInt ≤ 8191) ∨ (8204 ≤ x.toInt ∧ x.toInt ≤ 8205) ∨ (8304 ≤ x.toInt ∧ x.toInt ≤ 8591) ∨ (11264 ≤ x.toInt ∧ x.toInt ≤ 12271) ∨ (12289 ≤ x.toInt ∧ x.toInt ≤ 55295) ∨ (63744 ≤ x.toInt ∧ x.toInt ≤ 64975) ∨ (65008 ≤ x.toInt ∧ x.toInt ≤ 65533) ∨ (65536 ≤ x.toInt ∧ x.toInt ≤ 983039) → f2_6 x = 1) ∧ (¬ (x.toInt ≤ 58 ∨ (65 ≤ x.toInt ∧ x.toInt ≤ 90) ∨ x.toInt = 95 ∨ (97 ≤ x.toInt ∧ x.toInt ≤ 122) ∨ (192 ≤ x.toInt ∧ x.toInt ≤ 214) ∨ (216 ≤ x.toInt ∧ x.toInt ≤ 246) ∨ (248 ≤ x.toInt ∧ x.toInt ≤ 767) ∨ (880 ≤ x.toInt ∧ x.toInt ≤ 893) ∨ (895 ≤ x.toInt ∧ x.toInt ≤ 8191) ∨ (8204 ≤ x.toInt ∧ x.toInt ≤ 8205) ∨ (8304 ≤ x.toInt ∧ x.toInt ≤ 8591) ∨ (11264 ≤ x.toInt ∧ x.toInt ≤ 12271) ∨ (12289 ≤ x.toInt ∧ x.toInt ≤ 55295) ∨ (63744 ≤ x.toInt ∧ x.toInt ≤ 64975) ∨ (65008 ≤ x.toInt ∧ x.toInt ≤ 65533) ∨ (65536 ≤ x.toInt ∧ x.toInt ≤ 983039)) → f2_6 x = 0) := by
  have hi : ((983039 : Int32) < x) ↔ 983039 < x.toInt := Int32.lt_iff_toInt_lt
  have r1 := Int32.le_toInt x
  have r2 := Int32.toInt_lt x
  by_cases hB : (983039 : Int32) < x
  · have hb : 983039 < x.toInt := hi.mp hB
    exact ⟨fun d => ((if_pos hB) : f2_6 x = _).trans ((own_c2_12 x).1 (by first | exact trivial | exact not_false | omega)), fun d => ((if_pos hB) : f2_6 x = _).trans ((own_c2_12 x).2 (by first | exact trivial | exact not_false | omega))⟩
  · have hb : ¬ (983039 < x.toInt) := fun y => hB (hi.mpr y)
    exact ⟨fun d => ((if_neg hB) : f2_6 x = _).trans ((own_c2_14 x).1 (by first | exact trivial | exact not_false | omega)), fun d => ((if_neg hB) : f2_6 x = _).trans ((own_c2_14 x).2 (by first | exact trivial | exact not_false | omega))⟩
theorem own_c2_0 (x : Int32) : (x.toInt = 58 ∨ (65 ≤ x.toInt ∧ x.toInt ≤ 90) ∨ x.toInt = 95 ∨ (97 ≤ x.toInt ∧ x.toInt ≤ 122) ∨ (192 ≤ x.toInt ∧ x.toInt ≤ 214) ∨ (216 ≤ x.toInt ∧ x.toInt ≤ 246) ∨ (248 ≤ x.toInt ∧ x.toInt ≤ 767) ∨ (880 ≤ x.toInt ∧ x.toInt ≤ 893) ∨ (895 ≤ x.toInt ∧ x.toInt ≤ 8191) ∨ (8204 ≤ x.toInt ∧ x.toInt ≤ 8205) ∨ (8304 ≤ x.toInt ∧ x.toInt ≤ 8591) ∨ (11264 ≤ x.toInt ∧ x.toInt ≤ 12271) ∨ (12289 ≤ x.toInt ∧ x.toInt ≤ 55295) ∨ (63744 ≤ x.toInt ∧ x.toInt ≤ 64975) ∨ (65008 ≤ x.toInt ∧ x.toInt ≤ 65533) ∨ (65536 ≤ x.toInt ∧ x.toInt ≤ 983039) → f2_0 x = 1) ∧ (¬ (x.toInt = 58 ∨ (65 ≤ x.toInt ∧ x.toInt ≤ 90) ∨ x.toInt = 95 ∨ (97 ≤ x.toInt ∧ x.toInt ≤ 122) ∨ (192 ≤ x.toInt ∧ x.toInt ≤ 214) ∨ (216 ≤ x.toInt ∧ x.toInt ≤ 246) ∨ (248 ≤ x.toInt ∧ x.toInt ≤ 767) ∨ (880 ≤ x.toInt ∧ x.toInt ≤ 893) ∨ (895 ≤ x.toInt ∧ x.toInt ≤ 8191) ∨ (8204 ≤ x.toInt ∧ x.toInt ≤ 8205) ∨ (8304 ≤ x.toInt ∧ x.toInt ≤ 8591) ∨ (11264 ≤ x.toInt ∧ x.toInt ≤ 12271) ∨ (12289 ≤ x.toInt ∧ x.toInt ≤ 55295) ∨ (63744 ≤ x.toInt ∧ x.toInt ≤ 64975) ∨ (65008 ≤ x.toInt ∧ x.toInt ≤ 65533) ∨ (65536 ≤ x.toInt ∧ x.toInt ≤ 983039)) → f2_0 x = 0) := by
  have hi : (x < (58 : Int32)) ↔ x.toInt < 58 := Int32.lt_iff_toInt_lt
  have r1 := Int32.le_toInt x
  have r2 := Int32.toInt_lt x
  by_cases hB : x < (58 : Int32)
  · have hb : x.toInt < 58 := hi.mp hB
    exact ⟨fun d => ((if_pos hB) : f2_0 x = _).trans ((own_c2_12 x).1 (by first | exact trivial | exact not_false | omega)), fun d => ((if_pos hB) : f2_0 x = _).trans ((own_c2_12 x).2 (by first | exact trivial | exact not_false | omega))⟩
  · have hb : ¬ (x.toInt < 58) := fun y => hB (hi.mpr y)
    exact ⟨fun d => ((if_neg hB) : f2_0 x = _).trans ((own_c2_6 x).1 (by first | exact trivial | exact not_false | omega)), fun d => ((if_neg hB) : f2_0 x = _).trans ((own_c2_6 x).2 (by first | exact trivial | exact not_false | omega))⟩
theorem own_c1_202_1 (x : Int32) : (True → f1_202 x (1 : Int32) = 1) ∧ (¬ (True) → f1_202 x (1 : Int32) = 0) := by
  exact ⟨fun d => rfl, fun d => absurd trivial d⟩
theorem own_c1_197 (x : Int32) : (True → f1_197 x = 1) ∧ (¬ (True) → f1_197 x = 0) := by
  exact own_c1_202_1 x
theorem own_c1_202_0 (x : Int32) : (False → f1_202 x (0 : Int32) = 1) ∧ (¬ (False) → f1_202 x (0 : Int32) = 0) := by
  exact ⟨fun d => False.elim d, fun d => rfl⟩
theorem own_c1_201 (x : Int32) : (False → f1_201 x = 1) ∧ (¬ (False) → f1_201 x = 0) := by
  exact own_c1_202_0 x
theorem own_c1_191 (x : Int32) : (x.toInt ≤ 983039 → f1_191 x = 1) ∧ (¬ (x.toInt ≤ 983039) → f1_191 x = 0) := by
  have hi : ((983039 : Int32) < x) ↔ 983039 < x.toInt := Int32.lt_iff_toInt_lt
  have r1 := Int32.le_toInt x
  have r2 := Int32.toInt_lt x
  by_cases hB : (983039 : Int32) < x
  · have hb : 983039 < x.toInt := hi.mp hB
    exact ⟨fun d => ((if_pos hB) : f1_191 x = _).trans ((own_c1_201 x).1 (by first | exact trivial | exact not_false | omega)), fun d => ((if_pos hB) : f1_191 x = _).trans ((own_c1_201 x).2 (by first | exact trivial | exact not_false | omega))⟩
  · have hb : ¬ (983039 < x.toInt) := fun y => hB (hi.mpr y)
    exact ⟨fun d => ((if_neg hB) : f1_191 x = _).trans ((own_c1_197 x).1 (by first | exact trivial | exact not_false | omega)), fun d => ((if_neg hB) : f1_191 x = _).trans ((own_c1_197 x).2 (by first | exact trivial | exact not_false | omega))⟩
theorem own_c1_185 (x : Int32) : ((65536 ≤ x.toInt ∧ x.toInt ≤ 983039) → f1_185 x = 1) ∧ (¬ ((65536 ≤ x.toInt ∧ x.toInt ≤ 983039)) → f1_185 x = 0) := by
  have hi : (x < (65536 : Int32)) ↔ x.toInt < 65536 := Int32.lt_iff_toInt_lt
  have r1 := Int32.le_toInt x
  have r2 := Int32.toInt_lt x
  by_cases hB : x < (65536 : Int32)
  · have hb : x.toInt < 65536 := hi.mp hB
    exact ⟨fun d => ((if_pos hB) : f1_185 x = _).trans ((own_c1_201 x).1 (by first | exact trivial | exact not_false | omega)), fun d => ((if_pos hB) : f1_185 x = _).trans ((own_c1_201 x).2 (by first | exact trivial | exact not_false | omega))⟩
  · have hb : ¬ (x.toInt < 65536) := fun y => hB (hi.mpr y)
    exact ⟨fun d => ((if_neg hB) : f1_185 x = _).trans ((own_c1_191 x).1 (by first | exact trivial | exact not_false | omega)), fun d => ((if_neg hB) : f1_185 x = _).trans ((own_c1_191 x).2 (by first | exact trivial | exact not_false | omega))⟩
theorem own_c1_179 (x : Int32) : (x.toInt ≤ 65533 ∨ (65536 ≤ x.toInt ∧ x.toInt ≤ 983039) → f1_179 x = 1) ∧ (¬ (x.toInt ≤ 65533 ∨ (65536 ≤ x.toInt ∧ x.toInt ≤ 983039)) → f1_179 x = 0) := by
  have hi : ((65533 : Int32) < x) ↔ 65533 < x.toInt := Int32.lt_iff_toInt_lt
  have r1 := Int32.le_toInt x
  have r2 := Int32.toInt_lt x
  by_cases hB : (65533 : Int32) < x
  · have hb : 65533 < x.toInt := hi.mp hB
    exact ⟨fun d => ((if_pos hB) : f1_179 x = _).trans ((own_c1_185 x).1 (by first | exact trivial | exact not_false | omega)), fun d => ((if_pos hB) : f1_179 x = _).trans ((own_c1_185 x).2 (by first | exact trivial | exact not_false | omega))⟩
  · have hb : ¬ (65533 < x.toInt) := fun y => hB (hi.mpr y)
    exact ⟨fun d => ((if_neg hB) : f1_179 x = _).trans ((own_c1_197 x).1 (by first | exact trivial | exact not_false | omega)), fun d => ((if_neg hB) : f1_179 x = _).trans ((own_c1_197 x).2 (by first | exact trivial | exact not_false | omega))⟩
theorem own_c1_173 (x : Int32) : ((65008 ≤ x.toInt ∧ x.toInt ≤ 65533) ∨ (65536 ≤ x.toInt ∧ x.toInt ≤ 983039) → f1_173 x = 1) ∧ (¬ ((65008 ≤ x.toInt ∧ x.toInt ≤ 65533) ∨ (65536 ≤ x.toInt ∧ x.toInt ≤ 983039)) → f1_173 x = 0) := by
  have hi : (x < (65008 : Int32)) ↔ x.toInt < 65008 := Int32.lt_iff_toInt_lt
  have r1 := Int32.le_toInt x
  have r2 := Int32.toInt_lt x
  by_cases hB : x < (65008 : Int32)
  · have hb : x.toInt < 65008 := hi.mp hB
    exact ⟨fun d => ((if_pos hB) : f1_173 x = _).trans ((own_c1_185 x).1 (by first | exact trivial | exact not_false | omega)), fun d => ((if_pos hB) : f1_173 x = _).trans ((own_c1_185 x).2 (by first | exact trivial | exact not_false | omega))⟩
  · have hb : ¬ (x.toInt < 65008) := fun y => hB (hi.mpr y)
    exact ⟨fun d => ((if_neg hB) : f1_173 x = _).trans ((own_c1_179 x).1 (by first | exact trivial | exact not_false | omega)), fun d => ((if_neg hB) : f1_173 x = _).trans ((own_c1_179 x).2 (by first | exact trivial | exact not_false | omega))⟩
theorem own_c1_167 (x : Int32) : (x.toInt ≤ 64975 ∨ (65008 ≤ x.toInt ∧ x.toInt ≤ 65533) ∨ (65536 ≤ x.toInt ∧ x.toInt ≤ 983039) → f1_167 x = 1) ∧ (¬ (x.toInt ≤ 64975 ∨ (65008 ≤ x.toInt ∧ x.toInt ≤ 65533) ∨ (65536 ≤ x.toInt ∧ x.toInt ≤ 983039)) → f1_167 x = 0) := by
  have hi : ((64975 : Int32) < x) ↔ 64975 < x.toInt := Int32.lt_iff_toInt_lt
  have r1 := Int32.le_toInt x
  have r2 := Int32.toInt_lt x
  by_cases hB : (64975 : Int32) < x
  · have hb : 64975 < x.toInt := hi.mp hB
    exact ⟨fun d => ((if_pos hB) : f1_167 x = _).trans ((own_c1_173 x).1 (by first | exact trivial | exact not_false | omega)), fun d => ((if_pos hB) : f1_167 x = _).trans ((own_c1_173 x).2 (by first | exact trivial | exact not_false | omega))⟩
  · have hb : ¬ (64975 < x.toInt) := fun y => hB (hi.mpr y)
    exact ⟨fun d => ((if_neg hB) : f1_167 x = _).trans ((own_c1_197 x).1 (by first | exact trivial | exact not_false | omega)), fun d => ((if_neg hB) : f1_167 x = _).trans ((own_c1_197 x).2 (by first | exact trivial | exact not_false | omega))⟩
theorem own_c1_161 (x : Int32) : ((63744 ≤ x.toInt ∧ x.toInt ≤ 64975) ∨ (65008 ≤ x.toInt ∧ x.toInt ≤ 65533) ∨ (65536 ≤ x.toInt ∧ x.toInt ≤ 983039) → f1_161 x = 1) ∧ (¬ ((63744 ≤ x.toInt ∧ x.toInt ≤ 64975) ∨ (65008 ≤ x.toInt ∧ x.toInt ≤ 65533) ∨ (65536 ≤ x.toInt ∧ x.toInt ≤ 983039)) → f1_161 x = 0) := by
  have hi : (x < (63744 : Int32)) ↔ x.toInt < 63744 := Int32.lt_iff_toInt_lt
  have r1 := Int32.le_toInt x
  have r2 := Int32.toInt_lt x
  by_cases hB : x < (63744 : Int32)
  · have hb : x.toInt < 63744 := hi.mp hB
    exact ⟨fun d => ((if_pos hB) : f1_161 x = _).trans ((own_c1_173 x).1 (by first | exact trivial | exact not_false | omega)), fun d => ((if_pos hB) : f1_161 x = _).trans ((own_c1_173 x).2 (by first | exact trivial | exact not_false | omega))⟩
  · have hb : ¬ (x.toInt < 63744) := fun y => hB (hi.mpr y)
    exact ⟨fun d => ((if_neg hB) : f1_161 x = _).trans ((own_c1_167 x).1 (by first | exact trivial | exact not_false | omega)), fun d => ((if_neg hB) : f1_161 x = _).trans ((own_c1_167 x).2 (by first | exact trivial | exact not_false | omega))⟩
theorem own_c1_155 (x : Int32) : (x.toInt ≤ 55295 ∨ (63744 ≤ x.toInt ∧ x.toInt ≤ 64975) ∨ (65008 ≤ x.toInt ∧ x.toInt ≤ 65533) ∨ (65536 ≤ x.toInt ∧ x.toInt ≤ 983039) → f1_155 x = 1) ∧ (¬ (x.toInt ≤ 55295 ∨ (63744 ≤ x.toInt ∧ x.toInt ≤ 64975) ∨ (65008 ≤ x.toInt ∧ x.toInt ≤ 65533) ∨ (65536 ≤ x.toInt ∧ x.toInt ≤ 983039)) → f1_155 x = 0) := by
  have hi : ((55295 : Int32) < x) ↔ 55295 < x.toInt := Int32.lt_iff_toInt_lt
  have r1 := Int32.le_toInt x
  have r2 := Int32.toInt_lt x
  by_cases hB : (55295 : Int32) < x
  · have hb : 55295 < x.toInt := hi.mp hB
    exact ⟨fun d => ((if_pos hB) : f1_155 x = _).trans ((own_c1_161 x).1 (by first | exact trivial | exact not_false | omega)), fun d => ((if_pos hB) : f1_155 x = _).trans ((own_c1_161 x).2 (by first | exact trivial | exact not_false | omega))⟩
  · have hb : ¬ (55295 < x.toInt) := fun y => hB (hi.mpr y)
    exact ⟨fun d => ((if_neg hB) : f1_155 x = _).trans ((own_c1_197 x).1 (by first | exact trivial | exact not_false | omega)), fun d => ((if_neg hB) : f1_155 x = _).trans ((own_c1_197 x).2 (by first | exact trivial | exact not_false | omega))⟩
theorem own_c1_148 (x : Int32) : ((12289 ≤ x.toInt ∧ x.toInt ≤ 55295) ∨ (63744 ≤ x.toInt ∧ x.toInt ≤ 64975) ∨ (65008 ≤ x.toInt ∧ x.toInt ≤ 65533) ∨ (65536 ≤ x.toInt ∧ x.toInt ≤ 983039) → f1_148 x = 1) ∧ (¬ ((12289 ≤ x.toInt ∧ x.toInt ≤ 55295) ∨ (63744 ≤ x.toInt ∧ x.toInt ≤ 64975) ∨ (65008 ≤ x.toInt ∧ x.toInt ≤ 65533) ∨ (65536 ≤ x.toInt ∧ x.toInt ≤ 983039)) → f1_148 x = 0) := by
  have hi : (x < (12289 : Int32)) ↔ x.toInt < 12289 := Int32.lt_iff_toInt_lt
  have r1 := Int32.le_toInt x
  have r2 := Int32.toInt_lt x
  by_cases hB : x < (12289 : Int32)
  · have hb : x.toInt < 12289 := hi.mp hB
    exact ⟨fun d => ((if_pos hB) : f1_148 x = _).trans ((own_c1_161 x).1 (by first | exact trivial | exact not_false | omega)), fun d => ((if_pos hB) : f1_148 x = _).trans ((own_c1_161 x).2 (by first | exact trivial | exact not_false | omega))⟩
  · have hb : ¬ (x.toInt < 12289) := fun y => hB (hi.mpr y)
    exact ⟨fun d => ((if_neg hB) : f1_148 x = _).trans ((own_c1_155 x).1 (by first | exact trivial | exact not_false | omega)), fun d => ((if_neg hB) : f1_148 x = _).trans ((own_c1_155 x).2 (by first | exact trivial | exact not_false | omega))⟩
theorem own_c1_141 (x : Int32) : (x.toInt ≤ 12271 ∨ (12289 ≤ x.toInt ∧ x.toInt ≤ 55295) ∨ (63744 ≤ x.toInt ∧ x.toInt ≤ 64975) ∨ (65008 ≤ x.toInt ∧ x.toInt ≤ 65533) ∨ (65536 ≤ x.toInt ∧ x.toInt ≤ 983039) → f1_141 x = 1) ∧ (¬ (x.toInt ≤ 12271 ∨ (12289 ≤ x.toInt ∧ x.toInt ≤ 55295) ∨ (63744 ≤ x.toInt ∧ x.toInt ≤ 64975) ∨ (65008 ≤ x.toInt ∧ x.toInt ≤ 65533) ∨ (65536 ≤ x.toInt ∧ x.toInt ≤ 983039)) → f1_141 x = 0) := by
  have hi : ((12271 : Int32) < x) ↔ 12271 < x.toInt := Int32.lt_iff_toInt_lt
  have r1 := Int32.le_toInt x
  have r2 := Int32.toInt_lt x
  by_cases hB : (12271 : Int32) < x
  · have hb : 12271 < x.toInt := hi.mp hB
    exact ⟨fun d => ((if_pos hB) : f1_141 x = _).trans ((own_c1_148 x).1 (by first | exact trivial | exact not_false | omega)), fun d => ((if_pos hB) : f1_141 x = _).trans ((own_c1_148 x).2 (by first | exact trivial | exact not_false | omega))⟩
  · have hb : ¬ (12271 < x.toInt) := fun y => hB (hi.mpr y)
    exact ⟨fun d => ((if_neg hB) : f1_141 x = _).trans ((own_c1_197 x).1 (by first | exact trivial | exact not_false | omega)), fun d => ((if_neg hB) : f1_141 x = _).trans ((own_c1_197 x).2 (by first | exact trivial | exact not_false | omega))⟩
theorem own_c1_134 (x : Int32) : ((11264 ≤ x.toInt ∧ x.toInt ≤ 12271) ∨ (12289 ≤ x.toInt ∧ x.toInt ≤ 55295) ∨ (63744 ≤ x.toInt ∧ x.toInt ≤ 64975) ∨ (65008 ≤ x.toInt ∧ x.toInt ≤ 65533) ∨ (65536 ≤ x.toInt ∧ x.toInt ≤ 983039) → f1_134 x = 1) ∧ (¬ ((11264 ≤ x.toInt ∧ x.toInt ≤ 12271) ∨ (12289 ≤ x.toInt ∧ x.toInt ≤ 55295) ∨ (63744 ≤ x.toInt ∧ x.toInt ≤ 64975) ∨ (65008 ≤ x.toInt ∧ x.toInt ≤ 65533) ∨ (65536 ≤ x.toInt ∧ x.toInt ≤ 983039)) → f1_134 x = 0) := by
  have hi : (x < (11264 : Int32)) ↔ x.toInt < 11264 := Int32.lt_iff_toInt_lt
  have r1 := Int32.le_toInt x
  have r2 := Int32.toInt_lt x
  by_cases hB : x < (11264 : Int32)
  · have hb : x.toInt < 11264 := hi.mp hB
    exact ⟨fun d => ((if_pos hB) : f1_134 x = _).trans ((own_c1_148 x).1 (by first | exact trivial | exact not_false | omega)), fun d => ((if_pos hB) : f1_134 x = _).trans ((own_c1_148 x).2 (by first | exact trivial | exact not_false | omega))⟩
  · have hb : ¬ (x.toInt < 11264) := fun y => hB (hi.mpr y)
    exact ⟨fun d => ((if_neg hB) : f1_134 x = _).trans ((own_c1_141 x).1 (by first | exact trivial | exact not_false | omega)), fun d => ((if_neg hB) : f1_134 x = _).trans ((own_c1_141 x).2 (by first | exact trivial | exact not_false | omega))⟩
theorem own_c1_127 (x : Int32) : (x.toInt ≤ 8591 ∨ (11264 ≤ x.toInt ∧ x.toInt ≤ 12271) ∨ (12289 ≤ x.toInt ∧ x.toInt ≤ 55295) ∨ (63744 ≤ x.toInt ∧ x.toInt ≤ 64975) ∨ (65008 ≤ x.toInt ∧ x.toInt ≤ 65533) ∨ (65536 ≤ x.toInt ∧ x.toInt ≤ 983039) → f1_127 x = 1) ∧ (¬ (x.toInt ≤ 8591 ∨ (11264 ≤ x.toInt ∧ x.toInt ≤ 12271) ∨ (12289 ≤ x.toInt ∧ x.toInt ≤ 55295) ∨ (63744 ≤ x.toInt ∧ x.toInt ≤ 64975) ∨ (65008 ≤ x.toInt ∧ x.toInt ≤ 65533) ∨ (65536 ≤ x.toInt ∧ x.toInt ≤ 983039)) → f1_127 x = 0) := by
  have hi : ((8591 : Int32) < x) ↔ 8591 < x.toInt := Int32.lt_iff_toInt_lt
  have r1 := Int32.le_toInt x
  have r2 := Int32.toInt_lt x
  by_cases hB : (8591 : Int32) < x
  · have hb : 8591 < x.toInt := hi.mp hB
    exact ⟨fun d => ((if_pos hB) : f1_127 x = _).trans ((own_c1_134 x).1 (by first | exact trivial | exact not_false | omega)), fun d => ((if_pos hB) : f1_127 x = _).trans ((own_c1_134 x).2 (by first | exact trivial | exact not_false | omega))⟩
  · have hb : ¬ (8591 < x.toInt) := fun y => hB (hi.mpr y)
    exact ⟨fun d => ((if_neg hB) : f1_127 x = _).trans ((own_c1_197 x).1 (by first | exact trivial | exact not_false | omega)), fun d => ((if_neg hB) : f1_127 x = _).trans ((own_c1_197 x).2 (by first | exact trivial | exact not_false | omega))⟩
theorem own_c1_120 (x : Int32) : ((8304 ≤ x.toInt ∧ x.toInt ≤ 8591) ∨ (11264 ≤ x.toInt ∧ x.toInt ≤ 12271) ∨ (12289 ≤ x.toInt ∧ x.toInt ≤ 55295) ∨ (63744 ≤ x.toInt ∧ x.toInt ≤ 64975) ∨ (65008 ≤ x.toInt ∧ x.toInt ≤ 65533) ∨ (65536 ≤ x.toInt ∧ x.toInt ≤ 983039) → f1_120 x = 1) ∧ (¬ ((8304 ≤ x.toInt ∧ x.toInt ≤ 8591) ∨ (11264 ≤ x.toInt ∧ x.toInt ≤ 12271) ∨ (12289 ≤ x.toInt ∧ x.toInt ≤ 55295) ∨ (63744 ≤ x.toInt ∧ x.toInt ≤ 64975) ∨ (65008 ≤ x.toInt ∧ x.toInt ≤ 65533) ∨ (65536 ≤ x.toInt ∧ x.toInt ≤ 983039)) → f1_120 x = 0) := by
  have hi : (x < (8304 : Int32)) ↔ x.toInt < 8304 := Int32.lt_iff_toInt_lt
  have r1 := Int32.le_toInt x
  have r2 := Int32.toInt_lt x
  by_cases hB : x < (8304 : Int32)
  · have hb : x.toInt < 8304 := hi.mp hB
    exact ⟨fun d => ((if_pos hB) : f1_120 x = _).trans ((own_c1_134 x).1 (by first | exact trivial | exact not_false | omega)), fun d => ((if_pos hB) : f1_120 x = _).trans ((own_c1_134 x).2 (by first | exact trivial | exact not_false | omega))⟩
  · have hb : ¬ (x.toInt < 8304) := fun y => hB (hi.mpr y)
    exact ⟨fun d => ((if_neg hB) : f1_120 x = _).trans ((own_c1_127 x).1 (by first | exact trivial | exact not_false | omega)), fun d => ((if_neg hB) : f1_120 x = _).trans ((own_c1_127 x).2 (by first | exact trivial | exact not_false | omega))⟩
theorem own_c1_113 (x : Int32) : (x.toInt ≤ 8205 ∨ (8304 ≤ x.toInt ∧ x.toInt ≤ 8591) ∨ (11264 ≤ x.toInt ∧ x.toInt ≤ 12271) ∨ (12289 ≤ x.toInt ∧ x.toInt ≤ 55295) ∨ (63744 ≤ x.toInt ∧ x.toInt ≤ 64975) ∨ (65008 ≤ x.toInt ∧ x.toInt ≤ 65533) ∨ (65536 ≤ x.toInt ∧ x.toInt ≤ 983039) → f1_113 x = 1) ∧ (¬ (x.toInt ≤ 8205 ∨ (8304 ≤ x.toInt ∧ x.toInt ≤ 8591) ∨ (11264 ≤ x.toInt ∧ x.toInt ≤ 12271) ∨ (12289 ≤ x.toInt ∧ x.toInt ≤ 55295) ∨ (63744 ≤ x.toInt ∧ x.toInt ≤ 64975) ∨ (65008 ≤ x.toInt ∧ x.toInt ≤ 65533) ∨ (65536 ≤ x.toInt ∧ x.toInt ≤ 983039)) → f1_113 x = 0) := by
  have hi : ((8205 : Int32) < x) ↔ 8205 < x.toInt := Int32.lt_iff_toInt_lt
  have r1 := Int32.le_toInt x
  have r2 := Int32.toInt_lt x
  by_cases hB : (8205 : Int32) < x
  · have hb : 8205 < x.toInt := hi.mp hB
    exact ⟨fun d => ((if_pos hB) : f1_113 x = _).trans ((own_c1_120 x).1 (by first | exact trivial | exact not_false | omega)), fun d => ((if_pos hB) : f1_113 x = _).trans ((own_c1_120 x).2 (by first | exact trivial | exact not_false | omega))⟩
  · have hb : ¬ (8205 < x.toInt) := fun y => hB (hi.mpr y)
    exact ⟨fun d => ((if_neg hB) : f1_113 x = _).trans ((own_c1_197 x).1 (by first | exact trivial | exact not_false | omega)), fun d => ((if_neg hB) : f1_113 x = _).trans ((own_c1_197 x).2 (by first | exact trivial | exact not_false | omega))⟩
theorem own_c1_106 (x : Int32) : ((8204 ≤ x.toInt ∧ x.toInt ≤ 8205) ∨ (8304 ≤ x.toInt ∧ x.toInt ≤ 8591) ∨ (11264 ≤ x.toInt ∧ x.toInt ≤ 12271) ∨ (12289 ≤ x.toInt ∧ x.toInt ≤ 55295) ∨ (63744 ≤ x.toInt ∧ x.toInt ≤ 64975) ∨ (65008 ≤ x.toInt ∧ x.toInt ≤ 65533) ∨ (65536 ≤ x.toInt ∧ x.toInt ≤ 983039) → f1_106 x = 1) ∧ (¬ ((8204 ≤ x.toInt ∧ x.toInt ≤ 8205) ∨ (8304 ≤ x.toInt ∧ x.toInt ≤ 8591) ∨ (11264 ≤ x.toInt ∧ x.toInt ≤ 12271) ∨ (12289 ≤ x.toInt ∧ x.toInt ≤ 55295) ∨ (63744 ≤ x.toInt ∧ x.toInt ≤ 64975) ∨ (65008 ≤ x.toInt ∧ x.toInt ≤ 65533) ∨ (65536 ≤ x.toInt ∧ x.toInt ≤ 983039)) → f1_106 x = 0) := by
  have hi : (x < (8204 : Int32)) ↔ x.toInt < 8204 := Int32.lt_iff_toInt_lt
  have r1 := Int32.le_toInt x
  have r2 := Int32.toInt_lt x
  by_cases hB : x < (8204 : Int32)
  · have hb : x.toInt < 8204 := hi.mp hB
    exact ⟨fun d => ((if_pos hB) : f1_106 x = _).trans ((own_c1_120 x).1 (by first | exact trivial | exact not_false | omega)), fun d => ((if_pos hB) : f1_106 x = _).trans ((own_c1_120 x).2 (by first | exact trivial | exact not_false | omega))⟩
  · have hb : ¬ (x.toInt < 8204) := fun y => hB (hi.mpr y)
    exact ⟨fun d => ((if_neg hB) : f1_106 x = _).trans ((own_c1_113 x).1 (by first | exact trivial | exact not_false | omega)), fun d => ((if_neg hB) : f1_106 x = _).trans ((own_c1_113 x).2 (by first | exact trivial | exact not_false | omega))⟩
theorem own_c1_99 (x : Int32) : (x.toInt ≤ 8191 ∨ (8204 ≤ x.toInt ∧ x.toInt ≤ 8205) ∨ (8304 ≤ x.toInt ∧ x.toInt ≤ 8591) ∨ (11264 ≤ x.toInt ∧ x.toInt ≤ 12271) ∨ (12289 ≤ x.toInt ∧ x.toInt ≤ 55295) ∨ (63744 ≤ x.toInt ∧ x.toInt ≤ 64975) ∨ (65008 ≤ x.toInt ∧ x.toInt ≤ 65533) ∨ (65536 ≤ x.toInt ∧ x.toInt ≤ 983039) → f1_99 x = 1) ∧ (¬ (x.toInt ≤ 8191 ∨ (8204 ≤ x.toInt ∧ x.toInt ≤ 8205) ∨ (8304 ≤ x.toInt ∧ x.toInt ≤ 8591) ∨ (11264 ≤ x.toInt ∧ x.toInt ≤ 12271) ∨ (12289 ≤ x.toInt ∧ x.toInt ≤ 55295) ∨ (63744 ≤ x.toInt ∧ x.toInt ≤ 64975) ∨ (65008 ≤ x.toInt ∧ x.toInt ≤ 65533) ∨ (65536 ≤ x.toInt ∧ x.toInt ≤ 983039)) → f1_99 x = 0) := by
  have hi : ((8191 : Int32) < x) ↔ 8191 < x.toInt := Int32.lt_iff_toInt_lt
  have r1 := Int32.le_toInt x
  have r2 := Int32.toInt_lt x
  by_cases hB : (8191 : Int32) < x
  · have hb : 8191 < x.toInt := hi.mp hB
    exact ⟨fun d => ((if_pos hB) : f1_99 x = _).trans ((own_c1_106 x).1 (by first | exact trivial | exact not_false | omega)), fun d => ((if_pos hB) : f1_99 x = _).trans ((own_c1_106 x).2 (by first | exact trivial | exact not_false | omega))⟩
  · have hb : ¬ (8191 < x.toInt) := fun y => hB (hi.mpr y)
    exact ⟨fun d => ((if_neg hB) : f1_99 x = _).trans ((own_c1_197 x).1 (by first | exact trivial | exact not_false | omega)), fun d => ((if_neg hB) : f1_99 x = _).trans ((own_c1_197 x).2 (by first | exact trivial | exact not_false | omega))⟩
theorem own_c1_92 (x : Int32) : ((895 ≤ x.toInt ∧ x.toInt ≤ 8191) ∨ (8204 ≤ x.toInt ∧ x.toInt ≤ 8205) ∨ (8304 ≤ x.toInt ∧ x.toInt ≤ 8591) ∨ (11264 ≤ x.toInt ∧ x.toInt ≤ 12271) ∨ (12289 ≤ x.toInt ∧ x.toInt ≤ 55295) ∨ (63744 ≤ x.toInt ∧ x.toInt ≤ 64975) ∨ (65008 ≤ x.toInt ∧ x.toInt ≤ 65533) ∨ (65536 ≤ x.toInt ∧ x.toInt ≤ 983039) → f1_92 x = 1) ∧ (¬ ((895 ≤ x.toInt ∧ x.toInt ≤ 8191) ∨ (8204 ≤ x.toInt ∧ x.toInt ≤ 8205) ∨ (8304 ≤ x.toInt ∧ x.toInt ≤ 8591) ∨ (11264 ≤ x.toInt ∧ x.toInt ≤ 12271) ∨ (12289 ≤ x.toInt ∧ x.toInt ≤ 55295) ∨ (63744 ≤ x.toInt ∧ x.toInt ≤ 64975) ∨ (65008 ≤ x.toInt ∧ x.toInt ≤ 65533) ∨ (65536 ≤ x.toInt ∧ x.toInt ≤ 983039)) → f1_92 x = 0) := by
  have hi : (x < (895 : Int32)) ↔ x.toInt < 895 := Int32.lt_iff_toInt_lt
  have r1 := Int32.le_toInt x
  have r2 := Int32.toInt_lt x
  by_cases hB : x < (895 : Int32)
  · have hb : x.toInt < 895 := hi.mp hB
    exact ⟨fun d => ((if_pos hB) : f1_92 x = _).trans ((own_c1_106 x).1 (by first | exact trivial | exact not_false | omega)), fun d => ((if_pos hB) : f1_92 x = _).trans ((own_c1_106 x).2 (by first | exact trivial | exact not_false | omega))⟩
  · have hb : ¬ (x.toInt < 895) := fun y => hB (hi.mpr y)
    exact ⟨fun d => ((if_neg hB) : f1_92 x = _).trans ((own_c1_99 x).1 (by first | exact trivial | exact not_false | omega)), fun d => ((if_neg hB) : f1_92 x = _).trans ((own_c1_99 x).2 (by first | exact trivial | exact not_false | omega))⟩
theorem own_c1_85 (x : Int32) : (x.toInt ≤ 893 ∨ (895 ≤ x.toInt ∧ x.toInt ≤ 8191) ∨ (8204 ≤ x.toInt ∧ x.toInt ≤ 8205) ∨ (8304 ≤ x.toInt ∧ x.toInt ≤ 8591) ∨ (11264 ≤ x.toInt ∧ x.toInt ≤ 12271) ∨ (12289 ≤ x.toInt ∧ x.toInt ≤ 55295) ∨ (63744 ≤ x.toInt ∧ x.toInt ≤ 64975) ∨ (65008 ≤ x.toInt ∧ x.toInt ≤ 65533) ∨ (65536 ≤ x.toInt ∧ x.toInt ≤ 983039) → f1_85 x = 1) ∧ (¬ (x.toInt ≤ 893 ∨ (895 ≤ x.toInt ∧ x.toInt ≤ 8191) ∨ (8204 ≤ x.toInt ∧ x.toInt ≤ 8205) ∨ (8304 ≤ x.toInt ∧ x.toInt ≤ 8591) ∨ (11264 ≤ x.toInt ∧ x.toInt ≤ 12271) ∨ (12289 ≤ x.toInt ∧ x.toInt ≤ 55295) ∨ (63744 ≤ x.toInt ∧ x.toInt ≤ 64975) ∨ (65008 ≤ x.toInt ∧ x.toInt ≤ 65533) ∨ (65536 ≤ x.toInt ∧ x.toInt ≤ 983039)) → f1_85 x = 0) := by
  have hi : ((893 : Int32) < x) ↔ 893 < x.toInt := Int32.lt_iff_toInt_lt
  have r1 := Int32.le_toInt x
  have r2 := Int32.toInt_lt x
  by_cases hB : (893 : Int32) < x
  · have hb : 893 < x.toInt := hi.mp hB
    exact ⟨fun d => ((if_pos hB) : f1_85 x = _).trans ((own_c1_92 x).1 (by first | exact trivial | exact not_false | omega)), fun d => ((if_pos hB) : f1_85 x = _).trans ((own_c1_92 x).2 (by first | exact trivial | exact not_false | omega))⟩
  · have hb : ¬ (893 < x.toInt) := fun y => hB (hi.mpr y)
    exact ⟨fun d => ((if_neg hB) : f1_85 x = _).trans ((own_c1_197 x).1 (by first | exact trivial | exact not_false | omega)), fun d => ((if_neg hB) : f1_85 x = _).trans ((own_c1_197 x).2 (by first | exact trivial | exact not_false | omega))⟩
theorem own_c1_78 (x : Int32) : ((880 ≤ x.toInt ∧ x.toInt ≤ 893) ∨ (895 ≤ x.toInt ∧ x.toInt ≤ 8191) ∨ (8204 ≤ x.toInt ∧ x.toInt ≤ 8205) ∨ (8304 ≤ x.toInt ∧ x.toInt ≤ 8591) ∨ (11264 ≤ x.toInt ∧ x.toInt ≤ 12271) ∨ (12289 ≤ x.toInt ∧ x.toInt ≤ 55295) ∨ (63744 ≤ x.toInt ∧ x.toInt ≤ 64975) ∨ (65008 ≤ x.toInt ∧ x.toInt ≤ 65533) ∨ (65536 ≤ x.toInt ∧ x.toInt ≤ 983039) → f1_78 x = 1) ∧ (¬ ((880 ≤ x.toInt ∧ x.toInt ≤ 893) ∨ (895 ≤ x.toInt ∧ x.toInt ≤ 8191) ∨ (8204 ≤ x.toInt ∧ x.toInt ≤ 8205) ∨ (8304 ≤ x.toInt ∧ x.toInt ≤ 8591) ∨ (11264 ≤ x.toInt ∧ x.toInt ≤ 12271) ∨ (12289 ≤ x.toInt ∧ x.toInt ≤ 55295) ∨ (63744 ≤ x.toInt ∧ x.toInt ≤ 64975) ∨ (65008 ≤ x.toInt ∧ x.toInt ≤ 65533) ∨ (65536 ≤ x.toInt ∧ x.toInt ≤ 983039)) → f1_78 x = 0) := by
  have hi : (x < (880 : Int32)) ↔ x.toInt < 880 := Int32.lt_iff_toInt_lt
  have r1 := Int32.le_toInt x
  have r2 := Int32.toInt_lt x
  by_cases hB : x < (880 : Int32)
  · have hb : x.toInt < 880 := hi.mp hB
    exact ⟨fun d => ((if_pos hB) : f1_78 x = _).trans ((own_c1_92 x).1 (by first | exact trivial | exact not_false | omega)), fun d => ((if_pos hB) : f1_78 x = _).trans ((own_c1_92 x).2 (by first | exact trivial | exact not_false | omega))⟩
  · have hb : ¬ (x.toInt < 880) := fun y => hB (hi.mpr y)
    exact ⟨fun d => ((if_neg hB) : f1_78 x = _).trans ((own_c1_85 x).1 (by first | exact trivial | exact not_false | omega)), fun d => ((if_neg hB) : f1_78 x = _).trans ((own_c1_85 x).2 (by first | exact trivial | exact not_false | omega))⟩
theorem own_c1_71 (x : Int32) : (x.toInt ≤ 767 ∨ (880 ≤ x.toInt ∧ x.toInt ≤ 893) ∨ (895 ≤ x.toInt ∧ x.toInt ≤ 8191) ∨ (8204 ≤ x.toInt ∧ x.toInt ≤ 8205) ∨ (8304 ≤ x.toInt ∧ x.toInt ≤ 8591) ∨ (11264 ≤ x.toInt ∧ x.toInt ≤ 12271) ∨ (12289 ≤ x.toInt ∧ x.toInt ≤ 55295) ∨ (63744 ≤ x.toInt ∧ x.toInt ≤ 64975) ∨ (65008 ≤ x.toInt ∧ x.toInt ≤ 65533) ∨ (65536 ≤ x.toInt ∧ x.toInt ≤ 983039) → f1_71 x = 1) ∧ (¬ (x.toInt ≤ 767 ∨ (880 ≤ x.toInt ∧ x.toInt ≤ 893) ∨ (895 ≤ x.toInt ∧ x.toInt ≤ 8191) ∨ (8204 ≤ x.toInt ∧ x.toInt ≤ 8205) ∨ (8304 ≤ x.toInt ∧ x.toInt ≤ 8591) ∨ (11264 ≤ x.toInt ∧ x.toInt ≤ 12271) ∨ (12289 ≤ x.toInt ∧ x.toInt ≤ 55295) ∨ (63744 ≤ x.toInt ∧ x.toInt ≤ 64975) ∨ (65008 ≤ x.toInt ∧ x.toInt ≤ 65533) ∨ (65536 ≤ x.toInt ∧ x.toInt ≤ 983039)) → f1_71 x = 0) := by
  have hi : ((767 : Int32) < x) ↔ 767 < x.toInt := Int32.lt_iff_toInt_lt
  have r1 := Int32.le_toInt x
  have r2 := Int32.toInt_lt x
  by_cases hB : (767 : Int32) < x
  · have hb : 767 < x.toInt := hi.mp hB
    exact ⟨fun d => ((if_pos hB) : f1_71 x = _).trans ((own_c1_78 x).1 (by first | exact trivial | exact not_false | omega)), fun d => ((if_pos hB) : f1_71 x = _).trans ((own_c1_78 x).2 (by first | exact trivial | exact not_false | omega))⟩
  · have hb : ¬ (767 < x.toInt) := fun y => hB (hi.mpr y)
    exact ⟨fun d => ((if_neg hB) : f1_71 x = _).trans ((own_c1_197 x).1 (by first | exact trivial | exact not_false | omega)), fun d => ((if_neg hB) : f1_71 x = _).trans ((own_c1_197 x).2 (by first | exact trivial | exact not_false | omega))⟩
theorem own_c1_64 (x : Int32) : ((248 ≤ x.toInt ∧ x.toInt ≤ 767) ∨ (880 ≤ x.toInt ∧ x.toInt ≤ 893) ∨ (895 ≤ x.toInt ∧ x.toInt ≤ 8191) ∨ (8204 ≤ x.toInt ∧ x.toInt ≤ 8205) ∨ (8304 ≤ x.toInt ∧ x.toInt ≤ 8591) ∨ (11264 ≤ x.toInt ∧ x.toInt ≤ 12271) ∨ (12289 ≤ x.toInt ∧ x.toInt ≤ 55295) ∨ (63744 ≤ x.toInt ∧ x.toInt ≤ 64975) ∨ (65008 ≤ x.toInt ∧ x.toInt ≤ 65533) ∨ (65536 ≤ x.toInt ∧ x.toInt ≤ 983039) → f1_64 x = 1) ∧ (¬ ((248 ≤ x.toInt ∧ x.toInt ≤ 767) ∨ (880 ≤ x.toInt ∧ x.toInt ≤ 893) ∨ (895 ≤ x.toInt ∧ x.toInt ≤ 8191) ∨ (8204 ≤ x.toInt ∧ x.toInt ≤ 8205) ∨ (8304 ≤ x.toInt ∧ x.toInt ≤ 8591) ∨ (11264 ≤ x.toInt ∧ x.toInt ≤ 12271) ∨ (12289 ≤ x.toInt ∧ x.toInt ≤ 55295) ∨ (63744 ≤ x.toInt ∧ x.toInt ≤ 64975) ∨ (65008 ≤ x.toInt ∧ x.toInt ≤ 65533) ∨ (65536 ≤ x.toInt ∧ x.toInt ≤ 983039)) → f1_64 x = 0) := by
  have hi : (x < (248 : Int32)) ↔ x.toInt < 248 := Int32.lt_iff_toInt_lt
  have r1 := Int32.le_toInt x
  have r2 := Int32.toInt_lt x
  by_cases hB : x < (248 : Int32)
  · have hb : x.toInt < 248 := hi.mp hB
    exact ⟨fun d => ((if_pos hB) : f1_64 x = _).trans ((own_c1_78 x).1 (by first | exact trivial | exact not_false | omega)), fun d => ((if_pos hB) : f1_64 x = _).trans ((own_c1_78 x).2 (by first | exact trivial | exact not_false | omega))⟩
  · have hb : ¬ (x.toInt < 248) := fun y => hB (hi.mpr y)
    exact ⟨fun d => ((if_neg hB) : f1_64 x = _).trans ((own_c1_71 x).1 (by first | exact trivial | exact not_false | omega)), fun d => ((if_neg hB) : f1_64 x = _).trans ((own_c1_71 x).2 (by first | exact trivial | exact not_false | omega))⟩
theorem own_c1_57 (x : Int32) : (x.toInt ≤ 246 ∨ (248 ≤ x.toInt ∧ x.toInt ≤ 767) ∨ (880 ≤ x.toInt ∧ x.toInt ≤ 893) ∨ (895 ≤ x.toInt ∧ x.toInt ≤ 8191) ∨ (8204 ≤ x.toInt ∧ x.toInt ≤ 8205) ∨ (8304 ≤ x.toInt ∧ x.toInt ≤ 8591) ∨ (11264 ≤ x.toInt ∧ x.toInt ≤ 12271) ∨ (12289 ≤ x.toInt ∧ x.toInt ≤ 55295) ∨ (63744 ≤ x.toInt ∧ x.toInt ≤ 64975) ∨ (65008 ≤ x.toInt ∧ x.toInt ≤ 65533) ∨ (65536 ≤ x.toInt ∧ x.toInt ≤ 983039) → f1_57 x = 1) ∧ (¬ (x.toInt ≤ 246 ∨ (248 ≤ x.toInt ∧ x.toInt ≤ 767) ∨ (880 ≤ x.toInt ∧ x.toInt ≤ 893) ∨ (895 ≤ x.toInt ∧ x.toInt ≤ 8191) ∨ (8204 ≤ x.toInt ∧ x.toInt ≤ 8205) ∨ (8304 ≤ x.toInt ∧ x.toInt ≤ 8591) ∨ (11264 ≤ x.toInt ∧ x.toInt ≤ 12271) ∨ (12289 ≤ x.toInt ∧ x.toInt ≤ 55295) ∨ (63744 ≤ x.toInt ∧ x.toInt ≤ 64975) ∨ (65008 ≤ x.toInt ∧ x.toInt ≤ 65533) ∨ (65536 ≤ x.toInt ∧ x.toInt ≤ 983039)) → f1_57 x = 0) := by
  have hi : ((246 : Int32) < x) ↔ 246 < x.toInt := Int32.lt_iff_toInt_lt
  have r1 := Int32.le_toInt x
  have r2 := Int32.toInt_lt x
  by_cases hB : (246 : Int32) < x
  · have hb : 246 < x.toInt := hi.mp hB
    exact ⟨fun d => ((if_pos hB) : f1_57 x = _).trans ((own_c1_64 x).1 (by first | exact trivial | exact not_false | omega)), fun d => ((if_pos hB) : f1_57 x = _).trans ((own_c1_64 x).2 (by first | exact trivial | exact not_false | omega))⟩
  · have hb : ¬ (246 < x.toInt) := fun y => hB (hi.mpr y)
    exact ⟨fun d => ((if_neg hB) : f1_57 x = _).trans ((own_c1_197 x).1 (by first | exact trivial | exact not_false | omega)), fun d => ((if_neg hB) : f1_57 x = _).trans ((own_c1_197 x).2 (by first | exact trivial | exact not_false | omega))⟩
theorem own_c1_50 (x : Int32) : ((216 ≤ x.toInt ∧ x.toInt ≤ 246) ∨ (248 ≤ x.toInt ∧ x.toInt ≤ 767) ∨ (880 ≤ x.toInt ∧ x.toInt ≤ 893) ∨ (895 ≤ x.toInt ∧ x.toInt ≤ 8191) ∨ (8204 ≤ x.toInt ∧ x.toInt ≤ 8205) ∨ (8304 ≤ x.toInt ∧ x.toInt ≤ 8591) ∨ (11264 ≤ x.toInt ∧ x.toInt ≤ 12271) ∨ (12289 ≤ x.toInt ∧ x.toInt ≤ 55295) ∨ (63744 ≤ x.toInt ∧ x.toInt ≤ 64975) ∨ (65008 ≤ x.toInt ∧ x.toInt ≤ 65533) ∨ (65536 ≤ x.toInt ∧ x.toInt ≤ 983039) → f1_50 x = 1) ∧ (¬ ((216 ≤ x.toInt ∧ x.toInt ≤ 246) ∨ (248 ≤ x.toInt ∧ x.toInt ≤ 767) ∨ (880 ≤ x.toInt ∧ x.toInt ≤ 893) ∨ (895 ≤ x.toInt ∧ x.toInt ≤ 8191) ∨ (8204 ≤ x.toInt ∧ x.toInt ≤ 8205) ∨ (8304 ≤ x.toInt ∧ x.toInt ≤ 8591) ∨ (11264 ≤ x.toInt ∧ x.toInt ≤ 12271) ∨ (12289 ≤ x.toInt ∧ x.toInt ≤ 55295) ∨ (63744 ≤ x.toInt ∧ x.toInt ≤ 64975) ∨ (65008 ≤ x.toInt ∧ x.toInt ≤ 65533) ∨ (65536 ≤ x.toInt ∧ x.toInt ≤ 983039)) → f1_50 x = 0) := by
  have hi : (x < (216 : Int32)) ↔ x.toInt < 216 := Int32.lt_iff_toInt_lt
  have r1 := Int32.le_toInt x
  have r2 := Int32.toInt_lt x
  by_cases hB : x < (216 : Int32)
  · have hb : x.toInt < 216 := hi.mp hB
    exact ⟨fun d => ((if_pos hB) : f1_50 x = _).trans ((own_c1_64 x).1 (by first | exact trivial | exact not_false | omega)), fun d => ((if_pos hB) : f1_50 x = _).trans ((own_c1_64 x).2 (by first | exact trivial | exact not_false | omega))⟩
  · have hb : ¬ (x.toInt < 216) := fun y => hB (hi.mpr y)
    exact ⟨fun d => ((if_neg hB) : f1_50 x = _).trans ((own_c1_57 x).1 (by first | exact trivial | exact not_false | omega)), fun d => ((if_neg hB) : f1_50 x = _).trans ((own_c1_57 x).2 (by first | exact trivial | exact not_false | omega))⟩
theorem own_c1_43 (x : Int32) : (x.toInt ≤ 214 ∨ (216 ≤ x.toInt ∧ x.toInt ≤ 246) ∨ (248 ≤ x.toInt ∧ x.toInt ≤ 767) ∨ (880 ≤ x.toInt ∧ x.toInt ≤ 893) ∨ (895 ≤ x.toInt ∧ x.toInt ≤ 8191) ∨ (8204 ≤ x.toInt ∧ x.toInt ≤ 8205) ∨ (8304 ≤ x.toInt ∧ x.toInt ≤ 8591) ∨ (11264 ≤ x.toInt ∧ x.toInt ≤ 12271) ∨ (12289 ≤ x.toInt ∧ x.toInt ≤ 55295) ∨ (63744 ≤ x.toInt ∧ x.toInt ≤ 64975) ∨ (65008 ≤ x.toInt ∧ x.toInt ≤ 65533) ∨ (65536 ≤ x.toInt ∧ x.toInt ≤ 983039) → f1_43 x = 1) ∧ (¬ (x.toInt ≤ 214 ∨ (216 ≤ x.toInt ∧ x.toInt ≤ 246) ∨ (248 ≤ x.toInt ∧ x.toInt ≤ 767) ∨ (880 ≤ x.toInt ∧ x.toInt ≤ 893) ∨ (895 ≤ x.toInt ∧ x.toInt ≤ 8191) ∨ (8204 ≤ x.toInt ∧ x.toInt ≤ 8205) ∨ (8304 ≤ x.toInt ∧ x.toInt ≤ 8591) ∨ (11264 ≤ x.toInt ∧ x.toInt ≤ 12271) ∨ (12289 ≤ x.toInt ∧ x.toInt ≤ 55295) ∨ (63744 ≤ x.toInt ∧ x.toInt ≤ 64975) ∨ (65008 ≤ x.toInt ∧ x.toInt ≤ 65533) ∨ (65536 ≤ x.toInt ∧ x.toInt ≤ 983039)) → f1_43 x = 0) := by
  have hi : ((214 : Int32) < x) ↔ 214 < x.toInt := Int32.lt_iff_toInt_lt
  have r1 := Int32.le_toInt x
  have r2 := Int32.toInt_lt x
  by_cases hB : (214 : Int32) < x
  · have hb : 214 < x.toInt := hi.mp hB
    exact ⟨fun d => ((if_pos hB) : f1_43 x = _).trans ((own_c1_50 x).1 (by first | exact trivial | exact not_false | omega)), fun d => ((if_pos hB) : f1_43 x = _).trans ((own_c1_50 x).2 (by first | exact trivial | exact not_false | omega))⟩
  · have hb : ¬ (214 < x.toInt) := fun y => hB (hi.mpr y)
    exact ⟨fun d => ((if_neg hB) : f1_43 x = _).trans ((own_c1_197 x).1 (by first | exact trivial | exact not_false | omega)), fun d => ((if_neg hB) : f1_43 x = _).trans ((own_c1_197 x).2 (by first | exact trivial | exact not_false | omega))⟩
theorem own_c1_36 (x : Int32) : ((192 ≤ x.toInt ∧ x.toInt ≤ 214) ∨ (216 ≤ x.toInt ∧ x.toInt ≤ 246) ∨ (248 ≤ x.toInt ∧ x.toInt ≤ 767) ∨ (880 ≤ x.toInt ∧ x.toInt ≤ 893) ∨ (895 ≤ x.toInt ∧ x.toInt ≤ 8191) ∨ (8204 ≤ x.toInt ∧ x.toInt ≤ 8205) ∨ (8304 ≤ x.toInt ∧ x.toInt ≤ 8591) ∨ (11264 ≤ x.toInt ∧ x.toInt ≤ 12271) ∨ (12289 ≤ x.toInt ∧ x.toInt ≤ 55295) ∨ (63744 ≤ x.toInt ∧ x.toInt ≤ 64975) ∨ (65008 ≤ x.toInt ∧ x.toInt ≤ 65533) ∨ (65536 ≤ x.toInt ∧ x.toInt ≤ 983039) → f1_36 x = 1) ∧ (¬ ((192 ≤ x.toInt ∧ x.toInt ≤ 214) ∨ (216 ≤ x.toInt ∧ x.toInt ≤ 246) ∨ (248 ≤ x.toInt ∧ x.toInt ≤ 767) ∨ (880 ≤ x.toInt ∧ x.toInt ≤ 893) ∨ (895 ≤ x.toInt ∧ x.toInt ≤ 8191) ∨ (8204 ≤ x.toInt ∧ x.toInt ≤ 8205) ∨ (8304 ≤ x.toInt ∧ x.toInt ≤ 8591) ∨ (11264 ≤ x.toInt ∧ x.toInt ≤ 12271) ∨ (12289 ≤ x.toInt ∧ x.toInt ≤ 55295) ∨ (63744 ≤ x.toInt ∧ x.toInt ≤ 64975) ∨ (65008 ≤ x.toInt ∧ x.toInt ≤ 65533) ∨ (65536 ≤ x.toInt ∧ x.toInt ≤ 983039)) → f1_36 x = 0) := by
  have hi : (x < (192 : Int32)) ↔ x.toInt < 192 := Int32.lt_iff_toInt_lt
  have r1 := Int32.le_toInt x
  have r2 := Int32.toInt_lt x
  by_cases hB : x < (192 : Int32)
  · have hb : x.toInt < 192 := hi.mp hB
    exact ⟨fun d => ((if_pos hB) : f1_36 x = _).trans ((own_c1_50 x).1 (by first | exact trivial | exact not_false | omega)), fun d => ((if_pos hB) : f1_36 x = _).trans ((own_c1_50 x).2 (by first | exact trivial | exact not_false | omega))⟩
  · have hb : ¬ (x.toInt < 192) := fun y => hB (hi.mpr y)
    exact ⟨fun d => ((if_neg hB) : f1_36 x = _).trans ((own_c1_43 x).1 (by first | exact trivial | exact not_false | omega)), fun d => ((if_neg hB) : f1_36 x = _).trans ((own_c1_43 x).2 (by first | exact trivial | exact not_false | omega))⟩
theorem own_c1_30 (x : Int32) : (x.toInt ≤ 122 ∨ (192 ≤ x.toInt ∧ x.toInt ≤ 214) ∨ (216 ≤ x.toInt ∧ x.toInt ≤ 246) ∨ (248 ≤ x.toInt ∧ x.toInt ≤ 767) ∨ (880 ≤ x.toInt ∧ x.toInt ≤ 893) ∨ (895 ≤ x.toInt ∧ x.toInt ≤ 8191) ∨ (8204 ≤ x.toInt ∧ x.toInt ≤ 8205) ∨ (8304 ≤ x.toInt ∧ x.toInt ≤ 8591) ∨ (11264 ≤ x.toInt ∧ x.toInt ≤ 12271) ∨ (12289 ≤ x.toInt ∧ x.toInt ≤ 55295) ∨ (63744 ≤ x.toInt ∧ x.toInt ≤ 64975) ∨ (65008 ≤ x.toInt ∧ x.toInt ≤ 65533) ∨ (65536 ≤ x.toInt ∧ x.toInt ≤ 983039) → f1_30 x = 1) ∧ (¬ (x.toInt ≤ 122 ∨ (192 ≤ x.toInt ∧ x.toInt ≤ 214) ∨ (216 ≤ x.toInt ∧ x.toInt ≤ 246) ∨ (248 ≤ x.toInt ∧ x.toInt ≤ 767) ∨ (880 ≤ x.toInt ∧ x.toInt ≤ 893) ∨ (895 ≤ x.toInt ∧ x.toInt ≤ 8191) ∨ (8204 ≤ x.toInt ∧ x.toInt ≤ 8205) ∨ (8304 ≤ x.toInt ∧ x.toInt ≤ 8591) ∨ (11264 ≤ x.toInt ∧ x.toInt ≤ 12271) ∨ (12289 ≤ x.toInt ∧ x.toInt ≤ 55295) ∨ (63744 ≤ x.toInt ∧ x.toInt ≤ 64975) ∨ (65008 ≤ x.toInt ∧ x.toInt ≤ 65533) ∨ (65536 ≤ x.toInt ∧ x.toInt ≤ 983039)) → f1_30 x = 0) := by
  have hi : ((122 : Int32) < x) ↔ 122 < x.toInt := Int32.lt_iff_toInt_lt
  have r1 := Int32.le_toInt x
  have r2 := Int32.toInt_lt x
  by_cases hB : (122 : Int32) < x
  · have hb : 122 < x.toInt := hi.mp hB
    exact ⟨fun d => ((if_pos hB) : f1_30 x = _).trans ((own_c1_36 x).1 (by first | exact trivial | exact not_false | omega)), fun d => ((if_pos hB) : f1_30 x = _).trans ((own_c1_36 x).2 (by first | exact trivial | exact not_false | omega))⟩
  · have hb : ¬ (122 < x.toInt) := fun y => hB (hi.mpr y)
    exact ⟨fun d => ((if_neg hB) : f1_30 x = _).trans ((own_c1_197 x).1 (by first | exact trivial | exact not_false | omega)), fun d => ((if_neg hB) : f1_30 x = _).trans ((own_c1_197 x).2 (by first | exact trivial | exact not_false | omega))⟩
theorem own_c1_24 (x : Int32) : ((97 ≤ x.toInt ∧ x.toInt ≤ 122) ∨ (192 ≤ x.toInt ∧ x.toInt ≤ 214) ∨ (216 ≤ x.toInt ∧ x.toInt ≤ 246) ∨ (248 ≤ x.toInt ∧ x.toInt ≤ 767) ∨ (880 ≤ x.toInt ∧ x.toInt ≤ 893) ∨ (895 ≤ x.toInt ∧ x.toInt ≤ 8191) ∨ (8204 ≤ x.toInt ∧ x.toInt ≤ 8205) ∨ (8304 ≤ x.toInt ∧ x.toInt ≤ 8591) ∨ (11264 ≤ x.toInt ∧ x.toInt ≤ 12271) ∨ (12289 ≤ x.toInt ∧ x.toInt ≤ 55295) ∨ (63744 ≤ x.toInt ∧ x.toInt ≤ 64975) ∨ (65008 ≤ x.toInt ∧ x.toInt ≤ 65533) ∨ (65536 ≤ x.toInt ∧ x.toInt ≤ 983039) → f1_24 x = 1) ∧ (¬ ((97 ≤ x.toInt ∧ x.toInt ≤ 122) ∨ (192 ≤ x.toInt ∧ x.toInt ≤ 214) ∨ (216 ≤ x.toInt ∧ x.toInt ≤ 246) ∨ (248 ≤ x.toInt ∧ x.toInt ≤ 767) ∨ (880 ≤ x.toInt ∧ x.toInt ≤ 893) ∨ (895 ≤ x.toInt ∧ x.toInt ≤ 8191) ∨ (8204 ≤ x.toInt ∧ x.toInt ≤ 8205) ∨ (8304 ≤ x.toInt ∧ x.toInt ≤ 8591) ∨ (11264 ≤ x.toInt ∧ x.toInt ≤ 12271) ∨ (12289 ≤ x.toInt ∧ x.toInt ≤ 55295) ∨ (63744 ≤ x.toInt ∧ x.toInt ≤ 64975) ∨ (65008 ≤ x.toInt ∧ x.toInt ≤ 65533) ∨ (65536 ≤ x.toInt ∧ x.toInt ≤ 983039)) → f1_24 x = 0) := by
  have hi : (x < (97 : Int32)) ↔ x.toInt < 97 := Int32.lt_iff_toInt_lt
  have r1 := Int32.le_toInt x
  have r2 := Int32.toInt_lt x
  by_cases hB : x < (97 : Int32)
  · have hb : x.toInt < 97 := hi.mp hB
    exact ⟨fun d => ((if_pos hB) : f1_24 x = _).trans ((own_c1_36 x).1 (by first | exact trivial | exact not_false | omega)), fun d => ((if_pos hB) : f1_24 x = _).trans ((own_c1_36 x).2 (by first | exact trivial | exact not_false | omega))⟩
  · have hb : ¬ (x.toInt < 97) := fun y => hB (hi.mpr y)
    exact ⟨fun d => ((if_neg hB) : f1_24 x = _).trans ((own_c1_30 x).1 (by first | exact trivial | exact not_false | omega)), fun d => ((if_neg hB) : f1_24 x = _).trans ((own_c1_30 x).2 (by first | exact trivial | exact not_false | omega))⟩
theorem own_c1_18 (x : Int32) : (x.toInt ≤ 90 ∨ (97 ≤ x.toInt ∧ x.toInt ≤ 122) ∨ (192 ≤ x.toInt ∧ x.toInt ≤ 214) ∨ (216 ≤ x.toInt ∧ x.toInt ≤ 246) ∨ (248 ≤ x.toInt ∧ x.toInt ≤ 767) ∨ (880 ≤ x.toInt ∧ x.toInt ≤ 893) ∨ (895 ≤ x.toInt ∧ x.toInt ≤ 8191) ∨ (8204 ≤ x.toInt ∧ x.toInt ≤ 8205) ∨ (8304 ≤ x.toInt ∧ x.toInt ≤ 8591) ∨ (11264 ≤ x.toInt ∧ x.toInt ≤ 12271) ∨ (12289 ≤ x.toInt ∧ x.toInt ≤ 55295) ∨ (63744 ≤ x.toInt ∧ x.toInt ≤ 64975) ∨ (65008 ≤ x.toInt ∧ x.toInt ≤ 65533) ∨ (65536 ≤ x.toInt ∧ x.toInt ≤ 983039) → f1_18 x = 1) ∧ (¬ (x.toInt ≤ 90 ∨ (97 ≤ x.toInt ∧ x.toInt ≤ 122) ∨ (192 ≤ x.toInt ∧ x.toInt ≤ 214) ∨ (216 ≤ x.toInt ∧ x.toInt ≤ 246) ∨ (248 ≤ x.toInt ∧ x.toInt ≤ 767) ∨ (880 ≤ x.toInt ∧ x.toInt ≤ 893) ∨ (895 ≤ x.toInt ∧ x.toInt ≤ 8191) ∨ (8204 ≤ x.toInt ∧ x.toInt ≤ 8205) ∨ (8304 ≤ x.toInt ∧ x.toInt ≤ 8591) ∨ (11264 ≤ x.toInt ∧ x.toInt ≤ 12271) ∨ (12289 ≤ x.toInt ∧ x.toInt ≤ 55295) ∨ (63744 ≤ x.toInt ∧ x.toInt ≤ 64975) ∨ (65008 ≤ x.toInt ∧ x.toInt ≤ 65533) ∨ (65536 ≤ x.toInt ∧ x.toInt ≤ 983039)) → f1_18 x = 0) := by
  have hi : ((90 : Int32) < x) ↔ 90 < x.toInt := Int32.lt_iff_toInt_lt
  have r1 := Int32.le_toInt x
  have r2 := Int32.toInt_lt x
  by_cases hB : (90 : Int32) < x
  · have hb : 90 < x.toInt := hi.mp hB
    exact ⟨fun d => ((if_pos hB) : f1_18 x = _).trans ((own_c1_24 x).1 (by first | exact trivial | exact not_false | omega)), fun d => ((if_pos hB) : f1_18 x = _).trans ((own_c1_24 x).2 (by first | exact trivial | exact not_false | omega))⟩
  · have hb : ¬ (90 < x.toInt) := fun y => hB (hi.mpr y)
    exact ⟨fun d => ((if_neg hB) : f1_18 x = _).trans ((own_c1_197 x).1 (by first | exact trivial | exact not_false | omega)), fun d => ((if_neg hB) : f1_18 x = _).trans ((own_c1_197 x).2 (by first | exact trivial | exact not_false | omega))⟩
theorem own_c1_12 (x : Int32) : ((65 ≤ x.toInt ∧ x.toInt ≤ 90) ∨ (97 ≤ x.toInt ∧ x.toInt ≤ 122) ∨ (192 ≤ x.toInt ∧ x.toInt ≤ 214) ∨ (216 ≤ x.toInt ∧ x.toInt ≤ 246) ∨ (248 ≤ x.toInt ∧ x.toInt ≤ 767) ∨ (880 ≤ x.toInt ∧ x.toInt ≤ 893) ∨ (895 ≤ x.toInt ∧ x.toInt ≤ 8191) ∨ (8204 ≤ x.toInt ∧ x.toInt ≤ 8205) ∨ (8304 ≤ x.toInt ∧ x.toInt ≤ 8591) ∨ (11264 ≤ x.toInt ∧ x.toInt ≤ 12271) ∨ (12289 ≤ x.toInt ∧ x.toInt ≤ 55295) ∨ (63744 ≤ x.toInt ∧ x.toInt ≤ 64975) ∨ (65008 ≤ x.toInt ∧ x.toInt ≤ 65533) ∨ (65536 ≤ x.toInt ∧ x.toInt ≤ 983039) → f1_12 x = 1) ∧ (¬ ((65 ≤ x.toInt ∧ x.toInt ≤ 90) ∨ (97 ≤ x.toInt ∧ x.toInt ≤ 122) ∨ (192 ≤ x.toInt ∧ x.toInt ≤ 214) ∨ (216 ≤ x.toInt ∧ x.toInt ≤ 246) ∨ (248 ≤ x.toInt ∧ x.toInt ≤ 767) ∨ (880 ≤ x.toInt ∧ x.toInt ≤ 893) ∨ (895 ≤ x.toInt ∧ x.toInt ≤ 8191) ∨ (8204 ≤ x.toInt ∧ x.toInt ≤ 8205) ∨ (8304 ≤ x.toInt ∧ x.toInt ≤ 8591) ∨ (11264 ≤ x.toInt ∧ x.toInt ≤ 12271) ∨ (12289 ≤ x.toInt ∧ x.toInt ≤ 55295) ∨ (63744 ≤ x.toInt ∧ x.toInt ≤ 64975) ∨ (65008 ≤ x.toInt ∧ x.toInt ≤ 65533) ∨ (65536 ≤ x.toInt ∧ x.toInt ≤ 983039)) → f1_12 x = 0) := by
  have hi : (x < (65 : Int32)) ↔ x.toInt < 65 := Int32.lt_iff_toInt_lt
  have r1 := Int32.le_toInt x
  have r2 := Int32.toInt_lt x
  by_cases hB : x < (65 : Int32)
  · have hb : x.toInt < 65 := hi.mp hB
    exact ⟨fun d => ((if_pos hB) : f1_12 x = _).trans ((own_c1_24 x).1 (by first | exact trivial | exact not_false | omega)), fun d => ((if_pos hB) : f1_12 x = _).trans ((own_c1_24 x).2 (by first | exact trivial | exact not_false | omega))⟩
  · have hb : ¬ (x.toInt < 65) := fun y => hB (hi.mpr y)
    exact ⟨fun d => ((if_neg hB) : f1_12 x = _).trans ((own_c1_18 x).1 (by first | exact trivial | exact not_false | omega)), fun d => ((if_neg hB) : f1_12 x = _).trans ((own_c1_18 x).2 (by first | exact trivial | exact not_false | omega))⟩
theorem own_c1_6 (x : Int32) : ((65 ≤ x.toInt ∧ x.toInt ≤ 90) ∨ x.toInt = 95 ∨ (97 ≤ x.toInt ∧ x.toInt ≤ 122) ∨ (192 ≤ x.toInt ∧ x.toInt ≤ 214) ∨ (216 ≤ x.toInt ∧ x.toInt ≤ 246) ∨ (248 ≤ x.toInt ∧ x.toInt ≤ 767) ∨ (880 ≤ x.toInt ∧ x.toInt ≤ 893) ∨ (895 ≤ x.toInt ∧ x.toInt ≤ 8191) ∨ (8204 ≤ x.toInt ∧ x.toInt ≤ 8205) ∨ (8304 ≤ x.toInt ∧ x.toInt ≤ 8591) ∨ (11264 ≤ x.toInt ∧ x.toInt ≤ 12271) ∨ (12289 ≤ x.toInt ∧ x.toInt ≤ 55295) ∨ (63744 ≤ x.toInt ∧ x.toInt ≤ 64975) ∨ (65008 ≤ x.toInt ∧ x.toInt ≤ 65533) ∨ (65536 ≤ x.toInt ∧ x.toInt ≤ 983039) → f1_6 x = 1) ∧ (¬ ((65 ≤ x.toInt ∧ x.toInt ≤ 90) ∨ x.toInt = 95 ∨ (97 ≤ x.toInt ∧ x.toInt ≤ 122) ∨ (192 ≤ x.toInt ∧ x.toInt ≤ 214) ∨ (216 ≤ x.toInt ∧ x.toInt ≤ 246) ∨ (248 ≤ x.toInt ∧ x.toInt ≤ 767) ∨ (880 ≤ x.toInt ∧ x.toInt ≤ 893) ∨ (895 ≤ x.toInt ∧ x.toInt ≤ 8191) ∨ (8204 ≤ x.toInt ∧ x.toInt ≤ 8205) ∨ (8304 ≤ x.toInt ∧ x.toInt ≤ 8591) ∨ (11264 ≤ x.toInt ∧ x.toInt ≤ 12271) ∨ (12289 ≤ x.toInt ∧ x.toInt ≤ 55295) ∨ (63744 ≤ x.toInt ∧ x.toInt ≤ 64975) ∨ (65008 ≤ x.toInt ∧ x.toInt ≤ 65533) ∨ (65536 ≤ x.toInt ∧ x.toInt ≤ 983039)) → f1_6 x = 0) := by
  have hi : (x = (95 : Int32)) ↔ x.toInt = 95 := own_eqi (by decide)
  have r1 := Int32.le_toInt x
  have r2 := Int32.toInt_lt x
  by_cases hB : x = (95 : Int32)
  · have hb : x.toInt = 95 := hi.mp hB
    exact ⟨fun d => ((if_pos hB) : f1_6 x = _).trans ((own_c1_197 x).1 (by first | exact trivial | exact not_false | omega)), fun d => ((if_pos hB) : f1_6 x = _).trans ((own_c1_197 x).2 (by first | exact trivial | exact not_false | omega))⟩
  · have hb : ¬ (x.toInt = 95) := fun y => hB (hi.mpr y)
    exact ⟨fun d => ((if_neg hB) : f1_6 x = _).trans ((own_c1_12 x).1 (by first | exact trivial | exact not_false | omega)), fun d => ((if_neg hB) : f1_6 x = _).trans ((own_c1_12 x).2 (by first | exact trivial | exact not_false | omega))⟩
theorem own_c1_0 (x : Int32) : (x.toInt = 58 ∨ (65 ≤ x.toInt ∧ x.toInt ≤ 90) ∨ x.toInt = 95 ∨ (97 ≤ x.toInt ∧ x.toInt ≤ 122) ∨ (192 ≤ x.toInt ∧ x.toInt ≤ 214) ∨ (216 ≤ x.toInt ∧ x.toInt ≤ 246) ∨ (248 ≤ x.toInt ∧ x.toInt ≤ 767) ∨ (880 ≤ x.toInt ∧ x.toInt ≤ 893) ∨ (895 ≤ x.toInt ∧ x.toInt ≤ 8191) ∨ (8204 ≤ x.toInt ∧ x.toInt ≤ 8205) ∨ (8304 ≤ x.toInt ∧ x.toInt ≤ 8591) ∨ (11264 ≤ x.toInt ∧ x.toInt ≤ 12271) ∨ (12289 ≤ x.toInt ∧ x.toInt ≤ 55295) ∨ (63744 ≤ x.toInt ∧ x.toInt ≤ 64975) ∨ (65008 ≤ x.toInt ∧ x.toInt ≤ 65533) ∨ (65536 ≤ x.toInt ∧ x.toInt ≤ 983039) → f1_0 x = 1) ∧ (¬ (x.toInt = 58 ∨ (65 ≤ x.toInt ∧ x.toInt ≤ 90) ∨ x.toInt = 95 ∨ (97 ≤ x.toInt ∧ x.toInt ≤ 122) ∨ (192 ≤ x.toInt ∧ x.toInt ≤ 214) ∨ (216 ≤ x.toInt ∧ x.toInt ≤ 246) ∨ (248 ≤ x.toInt ∧ x.toInt ≤ 767) ∨ (880 ≤ x.toInt ∧ x.toInt ≤ 893) ∨ (895 ≤ x.toInt ∧ x.toInt ≤ 8191) ∨ (8204 ≤ x.toInt ∧ x.toInt ≤ 8205) ∨ (8304 ≤ x.toInt ∧ x.toInt ≤ 8591) ∨ (11264 ≤ x.toInt ∧ x.toInt ≤ 12271) ∨ (12289 ≤ x.toInt ∧ x.toInt ≤ 55295) ∨ (63744 ≤ x.toInt ∧ x.toInt ≤ 64975) ∨ (65008 ≤ x.toInt ∧ x.toInt ≤ 65533) ∨ (65536 ≤ x.toInt ∧ x.toInt ≤ 983039)) → f1_0 x = 0) := by
  have hi : (x = (58 : Int32)) ↔ x.toInt = 58 := own_eqi (by decide)
  have r1 := Int32.le_toInt x
  have r2 := Int32.toInt_lt x
  by_cases hB : x = (58 : Int32)
  · have hb : x.toInt = 58 := hi.mp hB
    exact ⟨fun d => ((if_pos hB) : f1_0 x = _).trans ((own_c1_197 x).1 (by first | exact trivial | exact not_false | omega)), fun d => ((if_pos hB) : f1_0 x = _).trans ((own_c1_197 x).2 (by first | exact trivial | exact not_false | omega))⟩
  · have hb : ¬ (x.toInt = 58) := fun y => hB (hi.mpr y)
    exact ⟨fun d => ((if_neg hB) : f1_0 x = _).trans ((own_c1_6 x).1 (by first | exact trivial | exact not_false | omega)), fun d => ((if_neg hB) : f1_0 x = _).trans ((own_c1_6 x).2 (by first | exact trivial | exact not_false | omega))⟩
theorem own_eq (x : Int32) : f1_0 x = f2_0 x := by
  have h1 := own_c1_0 x
  have h2 := own_c2_0 x
  by_cases d : x.toInt = 58 ∨ (65 ≤ x.toInt ∧ x.toInt ≤ 90) ∨ x.toInt = 95 ∨ (97 ≤ x.toInt ∧ x.toInt ≤ 122) ∨ (192 ≤ x.toInt ∧ x.toInt ≤ 214) ∨ (216 ≤ x.toInt ∧ x.toInt ≤ 246) ∨ (248 ≤ x.toInt ∧ x.toInt ≤ 767) ∨ (880 ≤ x.toInt ∧ x.toInt ≤ 893) ∨ (895 ≤ x.toInt ∧ x.toInt ≤ 8191) ∨ (8204 ≤ x.toInt ∧ x.toInt ≤ 8205) ∨ (8304 ≤ x.toInt ∧ x.toInt ≤ 8591) ∨ (11264 ≤ x.toInt ∧ x.toInt ≤ 12271) ∨ (12289 ≤ x.toInt ∧ x.toInt ≤ 55295) ∨ (63744 ≤ x.toInt ∧ x.toInt ≤ 64975) ∨ (65008 ≤ x.toInt ∧ x.toInt ≤ 65533) ∨ (65536 ≤ x.toInt ∧ x.toInt ≤ 983039)
  · rw [h1.1 d, h2.1 (by omega)]
  · rw [h1.2 d, h2.2 (by omega)]
theorem own_law (i0 : Int32) : f0_0 i0 = 1 := by
  unfold f0_0
  rw [if_pos (own_eq i0)]
  rfl
set_option maxRecDepth 65536 in
set_option maxHeartbeats 40000000 in
theorem comes_1 {Post : Tables → Env → Array Value → State → Outcome → State → Prop} (hpost : ∀ tb e args s v u, (limb_1_1.after args s (.returned v) u = true ∧ limb_1_2.after args s (.returned v) u = true ∧ True) → FrameEnd s (.returned v) u (Jvm.fieldLocs frame_1_writes args s ++ Jvm.arrayLocs frame_1_arrays args s ++ Jvm.staticLocs frame_1_statics s) 0 0 → Post tb e args s (.returned v) u) :
    ArmFor flags0 classFile x code maxLocals ret World_1 tables_1 room_1 Calls_1 rest_1 Pre_1 Post := by
  intro l hfl _ _ p e ha hc hk s m args below hf hA hF happ hP
  obtain ⟨hcalls, hrest, hpre⟩ := hP
  obtain ⟨-, -, -, hnamed, -, -, -, hat⟩ := (Spec.applies_iff hf).mp happ
  obtain ⟨hg, hn⟩ := and_e (Cond.before_iff.mp (show (Jvm.Cond.and given_1 narrow_1).before args s = true from hpre))
  obtain ⟨g1, g2⟩ := and_e hg
  obtain ⟨w0, rfl⟩ : ∃ w0 : Value, args = #[w0] := by
    have hs : args.size = 1 := by simpa [Cond.value, given_1] using g1
    obtain ⟨L⟩ := args
    match L, hs with
    | [w0], _ => exact ⟨w0, rfl⟩
  have hw := fun d (hd : d ∈ tables_1) => atoms_spec (ws := Jvm.Cond.code x code maxLocals ret :: tables_1) hat d (List.mem_cons_of_mem _ hd)
  obtain ⟨i0, ei0⟩ := is_v g2
  obtain rfl : w0 = (.int i0) := Option.some.inj ei0
  obtain ⟨n, o, h1, h2, h3, _, L, rfl, ⟨hval, N, -⟩, hq⟩ := rm0 l s _ hw tables_1 i0 s.heap s.heap.size p e ha hc hk s m _ below hf ((Spec.applies_iff_loose hf).mp happ).1 ⟨rfl, State.Warmed39.refl s, rfl⟩ trivial
  rw [own_law i0] at hval
  subst hval
  refine ⟨n, _, h1, h2, h3, hpost _ _ _ _ _ _ ⟨Cond.after_iff.mpr rfl, Cond.after_iff.mpr (eq_i res_at (Term.int_eval (1)) rfl), trivial⟩ ⟨hq.1, hq.2.1, (hq.2.2.sift fun y hy => Or.inr (N y hy)).mono (by decide) (by decide)⟩⟩
theorem main_1_1 : Claimed_1_1 := comes_1 fun _ _ _ _ _ _ h hF => ⟨h.1, hF⟩
theorem main_1_2 : Claimed_1_2 := comes_1 fun _ _ _ _ _ _ h hF => ⟨h.2.1, hF⟩
end Jvm.Pilot.@@N@@
namespace Jvm.Pilot.@@N@@
open Jvm Jvm.ClassFile Sem Op Lib Jvm.Free Jvm.Stand Jvm.Pilot.@@N@@.Jvm.D
/-! MADE BY PROGRAM (witnessworld.py) out of the Statement's table words and the real class files: 10 classes; the members and pool entries that the words name. The judged class is class 1, her method 1. -/
namespace start1
open Jvm.ClassFile
def u (s : String) : CpInfo := .utf8 (stringToUtf16 s)
/-- a pool by its gaps: so many unusable entries, then the entry; so many at the end -/
def gap : Nat → List CpInfo → List CpInfo
  | 0, r => r
  | n + 1, r => .unusable :: gap n r
def poolList (es : List (Nat × CpInfo)) (last : Nat) : List CpInfo := es.foldr (fun e r => gap e.1 (e.2 :: r)) (gap last [])
def pool (es : List (Nat × CpInfo)) (last : Nat) : Array CpInfo := ⟨poolList es last⟩
def fileOf (pool : Array CpInfo) (this : Nat) (attrs : Array Attribute := #[]) (ms : Array MethodInfo := #[]) (fl : Nat := 33) (sup : Nat := 0) (ifs : Array Nat := #[]) (fds : Array FieldInfo := #[]) : ClassFile where
  minorVersion := 0
  majorVersion := 65
  constantPool := pool
  accessFlags := fl
  thisClass := this
  superClass := sup
  interfaces := ifs
  fields := fds
  methods := ms
  attributes := attrs
def plain (name : String) (sup : Option ClassId) : Class where
  name := name
  kind := .ordinary
  loader := none
  accessFlags := 33
  super := sup
  interfaces := #[]
  cf := none
  fields := #[]
  methods := #[]
  instanceTypes := #[]
  staticTypes := #[]
  resolved := #[]
  callSites := []
  init := .initialized
  statics := none
  mirror := none

def pool0 : Array CpInfo := pool [(5, u "<init>"), (0, u "()V"), (1, .class_ 10), (1, u "java/lang/Object")] 113

def k0m0 : Method := { name := "<init>", desc := "()V", sig := { parameters := [], returnType := none }, accessFlags := 1, code := none }
/-- java/lang/Object -/
def k0 : Class := { plain "java/lang/Object" none with
  accessFlags := 33
  interfaces := #[]
  cf := some (fileOf pool0 8 #[] #[{ accessFlags := 1, nameIndex := 5, descriptorIndex := 6, attributes := #[] }] 33 0 #[] #[])
  fields := #[]
  methods := #[k0m0]
  instanceTypes := #[]
  staticTypes := #[]
  resolved := Array.replicate 124 none
  statics := none }

def pool1 : Array CpInfo := pool [(2, .class_ 4), (1, u "java/lang/Object"), (0, u "<init>"), (0, u "()V"), (0, .methodref 8 9), (0, .class_ 10), (0, .nameAndType 11 12), (0, u "com/example/caddisfly/caddisfly/template/Text"), (0, u "isNameStartChar"), (0, u "(I)Z"), (0, .methodref 14 15), (0, .class_ 16), (0, .nameAndType 17 12), (0, u "com/example/caddisfly/caddisfly/template/TextIsNameStartCharPinLaw"), (0, u "reference"), (0, .integer 983039), (0, .integer 55296), (0, .integer 63743), (0, .integer 64976), (0, .integer 65007), (0, .integer 65534), (0, .integer 65535), (2, u "law")] 3

def k1m0 : Method := { name := "<init>", desc := "()V", sig := { parameters := [], returnType := none }, accessFlags := 2, code := none }
def k1c1 : Code := { maxStack := 2, maxLocals := 1, code := code, exceptionTable := #[], attributes := #[] }
def k1m1 : Method := { name := "law", desc := "(I)Z", sig := { parameters := [.int], returnType := some .boolean }, accessFlags := 9, code := some k1c1 }
def k1c2 : Code := { maxStack := 2, maxLocals := 2, code := method_3_code, exceptionTable := #[], attributes := #[] }
def k1m2 : Method := { name := "reference", desc := "(I)Z", sig := { parameters := [.int], returnType := some .boolean }, accessFlags := 10, code := some k1c2 }
/-- com/example/caddisfly/caddisfly/template/TextIsNameStartCharPinLaw -/
def k1 : Class := { plain "com/example/caddisfly/caddisfly/template/TextIsNameStartCharPinLaw" (some 0) with
  accessFlags := 49
  interfaces := #[]
  cf := some (fileOf pool1 14 #[] #[{ accessFlags := 2, nameIndex := 5, descriptorIndex := 6, attributes := #[] }, { accessFlags := 9, nameIndex := 27, descriptorIndex := 12, attributes := #[] }, { accessFlags := 10, nameIndex := 17, descriptorIndex := 12, attributes := #[] }] 49 2 #[] #[])
  fields := #[]
  methods := #[k1m0, k1m1, k1m2]
  instanceTypes := #[]
  staticTypes := #[]
  resolved := Array.replicate 31 none
  statics := none }

def pool2 : Array CpInfo := pool [(2, .class_ 4), (1, u "java/lang/Object"), (0, u "<init>"), (0, u "()V"), (0, .class_ 8), (0, u "com/example/caddisfly/caddisfly/template/Node")] 13

def k2m0 : Method := { name := "<init>", desc := "()V", sig := { parameters := [], returnType := none }, accessFlags := 1, code := none }
/-- com/example/caddisfly/caddisfly/template/Node -/
def k2 : Class := { plain "com/example/caddisfly/caddisfly/template/Node" (some 0) with
  accessFlags := 1057
  interfaces := #[]
  cf := some (fileOf pool2 7 #[] #[{ accessFlags := 1, nameIndex := 5, descriptorIndex := 6, attributes := #[] }] 1057 2 #[] #[])
  fields := #[]
  methods := #[k2m0]
  instanceTypes := #[]
  staticTypes := #[]
  resolved := Array.replicate 22 none
  statics := none }

def pool3 : Array CpInfo := pool [(2, .class_ 4), (1, u "com/example/caddisfly/caddisfly/template/Node"), (3, .class_ 10), (1, u "com/example/caddisfly/caddisfly/template/Text"), (0, u "_text"), (0, u "Ljava/lang/String;"), (25, u "(I)Z"), (5, .integer 55295), (1, .integer 65533), (0, .integer 65536), (1, .integer 63744), (0, .integer 64975), (0, .integer 65008), (0, .integer 983039), (2, u "isNameStartChar")] 12

def k3c0 : Code := { maxStack := 2, maxLocals := 1, code := prog_189_method_8_code, exceptionTable := #[], attributes := #[] }
def k3m0 : Method := { name := "isNameStartChar", desc := "(I)Z", sig := { parameters := [.int], returnType := some .boolean }, accessFlags := 9, code := some k3c0 }
/-- com/example/caddisfly/caddisfly/template/Text -/
def k3 : Class := { plain "com/example/caddisfly/caddisfly/template/Text" (some 2) with
  accessFlags := 49
  interfaces := #[]
  cf := some (fileOf pool3 8 #[] #[{ accessFlags := 9, nameIndex := 55, descriptorIndex := 38, attributes := #[] }] 49 2 #[] #[{ accessFlags := 18, nameIndex := 11, descriptorIndex := 12, attributes := #[] }])
  fields := #[{ name := "_text", type := (.object "java/lang/String"), accessFlags := 18, slot := 0, constantValue := 0 }]
  methods := #[k3m0]
  instanceTypes := #[(.object "java/lang/String")]
  staticTypes := #[]
  resolved := Array.replicate 68 none
  statics := none }

def pool4 : Array CpInfo := pool [(1, u "java/lang/Cloneable"), (0, .class_ 1), (0, u "java/lang/Object"), (0, .class_ 3)] 3

/-- java/lang/Cloneable -/
def k4 : Class := { plain "java/lang/Cloneable" (some 0) with
  accessFlags := 1537
  interfaces := #[]
  cf := some (fileOf pool4 2 #[] #[] 1537 4 #[] #[])
  fields := #[]
  methods := #[]
  instanceTypes := #[]
  staticTypes := #[]
  resolved := Array.replicate 8 none
  statics := none }

def pool5 : Array CpInfo := pool [(1, u "java/io/Serializable"), (0, .class_ 1), (0, u "java/lang/Object"), (0, .class_ 3)] 3

/-- java/io/Serializable -/
def k5 : Class := { plain "java/io/Serializable" (some 0) with
  accessFlags := 1537
  interfaces := #[]
  cf := some (fileOf pool5 2 #[] #[] 1537 4 #[] #[])
  fields := #[]
  methods := #[]
  instanceTypes := #[]
  staticTypes := #[]
  resolved := Array.replicate 8 none
  statics := none }

/-- the primitive byte -/
def k6 : Class := { plain "byte" none with kind := .primitive 'B', accessFlags := 0x411 }
/-- [B -/
def k7 : Class := { plain "[B" (some 0) with kind := .array 6 .byte, interfaces := #[4, 5], accessFlags := 1041 }

/-- the primitive int -/
def k8 : Class := { plain "int" none with kind := .primitive 'I', accessFlags := 0x411 }
/-- [I -/
def k9 : Class := { plain "[I" (some 0) with kind := .array 8 .int, interfaces := #[4, 5], accessFlags := 1041 }

def heap : Heap := #[]
def classes : Array Class := #[k0, k1, k2, k3, k4, k5, k6, k7, k8, k9]
def interned : List (Array UInt16 × Addr) := []
def slotsUsed : Nat := 0
def theMethod : MethodId := ⟨1, 1⟩
def args0 : Array Value := #[.int 5]
def aboutOver (below : List Frame) : State where
  vm := { classes := classes, interned := interned.toArray }
  heap := heap
  slotsUsed := slotsUsed
  threads := #[{ frames := .invoking theMethod args0 :: below }]
def below0 : List Frame := [.native { method := ⟨0, 0⟩, args := #[] }]
def about1 : State := aboutOver below0
def p0 : Program := .bare "" "" ""
def e0 : Env := launch0.env 0 0 0
theorem w_frames : about1.frames = Frame.invoking theMethod args0 :: below0 := rfl
set_option maxRecDepth 65536 in
theorem w_args : argsFit about1.vm theMethod args0 = true := by decide +kernel
set_option maxRecDepth 65536 in
theorem w_heap : heapFits about1 = true := by decide +kernel
set_option maxRecDepth 65536 in
theorem w_runnable : about1.curStatus? = some .runnable := by decide +kernel
set_option maxRecDepth 65536 in
theorem w_alone : about1.alone = true := by decide +kernel
set_option maxRecDepth 65536 in
theorem w_named : about1.methodNamed? x = some theMethod := by decide +kernel
set_option maxRecDepth 65536 in
theorem w_hears : about1.hears theMethod below0 = true := by decide +kernel
set_option maxRecDepth 65536 in
theorem w_ripe : about1.ripe theMethod args0 below0 = true := by decide +kernel
theorem w_running : about1.status = .running := rfl
set_option maxRecDepth 65536 in
theorem w_room : about1.hasRoom e0.platform room_1 = true :=
  launch0.hasRoom_least _ room_1 (by decide +kernel) (by decide +kernel) (by decide +kernel) (by decide +kernel) (by decide +kernel) (by decide +kernel)
theorem allAtoms_all (ts : List Jvm.Cond) (a : Array Jvm.Value) (st : Jvm.State) : (allAtoms ts).before a st = ts.all (fun c => c.before a st) := by
  induction ts with
  | nil => rfl
  | cons c t ih =>
    show (Jvm.Cond.and c (allAtoms t)).before a st = _
    rw [Jvm.Cond.before_and, ih, List.all_cons]
def words1 : List Jvm.Cond := Jvm.Cond.code x code maxLocals ret :: tables_1
/-- a 'code' word, met by the world's own term for the bytes: nothing is compared byte by byte -/
theorem code_word {y : MethodName} {bytes : ByteArray} {mx : Nat} {rt : Option FieldType} {a : Array Value} {s : State} {m : MethodId} {meth : Method} {c : Code} (h1 : s.methodNamed? y = some m) (h2 : s.vm.method? m = some meth) (h3 : meth.code = some c) (h4 : c.code = bytes)
    (h5 : (c.maxLocals == mx && c.exceptionTable.isEmpty && decide (c.maxStack ≤ mostOperands) && decide (meth.sig.returnType = rt) && !meth.locks && decide (parseMethodDescriptor y.desc = some meth.sig)) = true) : (Jvm.Cond.code y bytes mx rt).before a s = true := by
  simp only [Bool.and_eq_true, beq_iff_eq, Bool.not_eq_true', decide_eq_true_eq] at h5
  obtain ⟨⟨⟨⟨⟨g1, g2⟩, g3⟩, g4⟩, g5⟩, g6⟩ := h5
  simp [Cond.before, Cond.holds, Cond.value, h1, h2, h3, h4, g1, g2, g3, g4, g5, g6]
def isCode : Jvm.Cond → Bool
  | .code _ _ _ _ => true
  | _ => false
theorem all_split {L : List Jvm.Cond} {P : Jvm.Cond → Bool} (h1 : L.all (fun c => isCode c || P c) = true) (h2 : ∀ c ∈ L.filter isCode, P c = true) : L.all P = true := by
  refine List.all_eq_true.mpr fun c hc => ?_
  have h := List.all_eq_true.mp h1 c hc
  rcases Bool.eq_false_or_eq_true (isCode c) with hi | hi
  · exact h2 c (List.mem_filter.mpr ⟨hc, hi⟩)
  · simpa [hi] using h
set_option maxRecDepth 65536 in
theorem w_c0 : (Jvm.Cond.code x code maxLocals ret).before args0 about1 = true := code_word (m := ⟨1, 1⟩) (meth := k1m1) (c := k1c1) (by decide +kernel) rfl rfl rfl (by decide +kernel)
set_option maxRecDepth 65536 in
theorem w_c1 : (Jvm.Cond.code ({ cls := "com/example/caddisfly/caddisfly/template/Text", name := "isNameStartChar", desc := "(I)Z" } : Jvm.MethodName) prog_189_method_8_code (1 : Nat) (Option.some Jvm.ClassFile.FieldType.boolean)).before args0 about1 = true := code_word (m := ⟨3, 0⟩) (meth := k3m0) (c := k3c0) (by decide +kernel) rfl rfl rfl (by decide +kernel)
set_option maxRecDepth 65536 in
theorem w_c2 : (Jvm.Cond.code ({ cls := "com/example/caddisfly/caddisfly/template/TextIsNameStartCharPinLaw", name := "reference", desc := "(I)Z" } : Jvm.MethodName) method_3_code (2 : Nat) (Option.some Jvm.ClassFile.FieldType.boolean)).before args0 about1 = true := code_word (m := ⟨1, 2⟩) (meth := k1m2) (c := k1c2) (by decide +kernel) rfl rfl rfl (by decide +kernel)
def codes1 : List Jvm.Cond := [Jvm.Cond.code x code maxLocals ret, Jvm.Cond.code ({ cls := "com/example/caddisfly/caddisfly/template/Text", name := "isNameStartChar", desc := "(I)Z" } : Jvm.MethodName) prog_189_method_8_code (1 : Nat) (Option.some Jvm.ClassFile.FieldType.boolean), Jvm.Cond.code ({ cls := "com/example/caddisfly/caddisfly/template/TextIsNameStartCharPinLaw", name := "reference", desc := "(I)Z" } : Jvm.MethodName) method_3_code (2 : Nat) (Option.some Jvm.ClassFile.FieldType.boolean)]
set_option maxRecDepth 65536 in
theorem codes_eq : words1.filter isCode = codes1 := rfl
theorem w_codes : ∀ c ∈ words1.filter isCode, c.before args0 about1 = true := by
  rw [codes_eq]
  intro c hc
  simp only [codes1, List.mem_cons, List.not_mem_nil, or_false] at hc
  rcases hc with rfl | rfl | rfl
  · exact w_c0
  · exact w_c1
  · exact w_c2
set_option maxRecDepth 65536 in
theorem w_t1 : words1.all (fun c => isCode c || c.before args0 about1) = true := by decide +kernel
theorem w_tables : (allAtoms (Jvm.Cond.code x code maxLocals ret :: tables_1)).before args0 about1 = true := by
  rw [allAtoms_all]
  show words1.all (fun c => c.before args0 about1) = true
  refine all_split ?_ w_codes
  rw [w_t1]
set_option maxRecDepth 65536 in
theorem w_case : (Jvm.Cond.and given_1 narrow_1).before args0 about1 = true := by decide +kernel
theorem w_applies : (headSpec (Jvm.Cond.code x code maxLocals ret :: tables_1) room_1).applies x e0.platform about1 = true :=
  (Spec.applies_iff w_frames).mpr ⟨w_running, w_runnable, w_alone, w_named, w_hears, w_ripe, w_room, w_tables⟩
theorem atStart : AtStart classFile x code maxLocals ret World_1 tables_1 room_1 Calls_1 rest_1 Pre_1 launch0 p0 e0 about1 theMethod args0 below0 :=
  ⟨lists_1, trivial, launch0.admits_env _ _ _, launch0.least_env, fairChoices_fair.cas, fairChoices_fair.clock, w_frames, w_args, w_heap, w_applies, trivial, trivial, w_case⟩
end start1
theorem witness_1 : WitnessClaimed_1 := ⟨start1.p0, start1.e0, start1.about1, start1.theMethod, start1.args0, start1.below0, start1.atStart⟩
end Jvm.Pilot.@@N@@

import JvmDerived
import JvmDerived.Pilot.@@N@@Statement
import JvmDerived.Pilot.@@N@@Code
set_option linter.unusedVariables false
set_option linter.unusedSimpArgs false
namespace Jvm.RoadKit
open Sem ClassFile Op Lib Jvm.Stand Jvm.Free Jvm.LawKit
section New
variable {p : Program} {l : Launch} {e : Env} {R : Room} {s : State} {m : MethodId} {args : Array Value} {below : List Frame} {meth : Method} {c : Code} {T : State} {locs : List Loc} {cells slots : Nat}
theorem retI (X : Stand p l e R s m args below meth c T locs cells slots) (hx : p.tables.exec = Jvm.exec) {pc : Nat} {Ls : Array Slot} {z : Int32} {rest : List Value} (hret : meth.sig.returnType = some .int) (hd : decode c.code pc = .ok (.ireturn, 1)) {fs : List Frame}
    (hl : ∀ (f : JFrame) (acts : List Action), f.method = m → f.locked = none → f.entered = [] → (doReturn e (T.setTop f) acts (some (.int z))).1 = T.setFrames fs) : Steps p.tables e below (T.setTop (mkF m pc Ls (.int z :: rest))) (T.setFrames fs) := by
  have hm' : T.vm.method? m = some meth := X.method'
  have hn : narrow .int (.int z) = .int z := rfl
  show Steps p.tables e below (T.setTop { method := m, pc := pc, locals := Ls, stack := _ :: rest, locked := none }) _
  jvm_step X.here [X.here.top, hx, hd, hm', hret, hn]
  first | (intro acts; rw [hl _ acts rfl rfl rfl]) | rw [hl _ _ rfl rfl rfl]
  exact Steps.refl _
end New
end Jvm.RoadKit
namespace Jvm.Pilot.@@N@@
open Jvm Jvm.ClassFile Sem Op Lib Jvm.Free Jvm.Stand Jvm.LawKit Jvm.RoadKit Bundle Jvm.Pilot.@@N@@.Jvm.D
section OwnKit
variable {p : Program} {l : Launch} {e : Env} {R : Room} {s : State} {m : MethodId} {args : Array Value} {below : List Frame} {meth : Method} {c : Code} {T : State} {locs : List Loc} {cells slots : Nat}
/-- what a body owes from the state A on: it comes to its return, and what it returned, the heap and the written places satisfy Q -/
def own_Fin (p : Program) (e : Env) (below : List Frame) (s : State) (Q : Option Value → Heap → List Loc → Prop) (rc rs : Nat) (A : State) : Prop :=
  ∃ s₂ o, Steps p.tables e below A s₂ ∧ s₂.status = .running ∧ Ended s₂ below o ∧ ∃ v L, o = .returned v ∧ Q v s₂.heap L ∧ FrameEnd s o s₂ L rc rs
theorem own_step {Q : Option Value → Heap → List Loc → Prop} {rc rs : Nat} {A B : State} (k : ∀ t, Steps p.tables e below B t → Steps p.tables e below A t) (h : own_Fin p e below s Q rc rs B) : own_Fin p e below s Q rc rs A := by
  obtain ⟨s₂, o, h1, h2⟩ := h
  exact ⟨s₂, o, k _ h1, h2⟩
theorem own_retN (X : Stand p l e R s m args below meth c T locs cells slots) (hx : p.tables.exec = Jvm.exec) (hlk : meth.locks = false) {Q : Option Value → Heap → List Loc → Prop} {rc rs n0 : Nat} {h : Heap} {pc : Nat} {Ls : Array Slot} {z v : Int32} {t : FieldType} {rest : List Value} (hret : meth.sig.returnType = some t) (ht : t = .boolean ∨ t = .byte ∨ t = .char ∨ t = .short)
    (hd : decode c.code pc = .ok (.ireturn, 1)) (hc : cells ≤ rc) (hs : slots ≤ rs) (eT : T.heap = h) (N : Fr n0 locs) (hQ : ∀ L', Fr n0 L' → Q (some (.int v)) h L') (hv : v = nar t z) :
    own_Fin p e below s Q rc rs (T.setTop (mkF m pc Ls (.int z :: rest))) := by
  subst hv
  obtain ⟨fs, hr, hrun, hended, hW, hsame⟩ := X.leave (v := some (.int (nar t z))) (fun h => by rw [hret] at h; cases h) hlk
  refine ⟨_, _, retN X hx hret ht hd hr, hrun, hended, _, _, rfl, ?_, ⟨_, rfl⟩, hW, hsame.mono hc hs⟩
  show Q _ T.heap _
  rw [eT]
  exact hQ _ N
theorem own_retI (X : Stand p l e R s m args below meth c T locs cells slots) (hx : p.tables.exec = Jvm.exec) (hlk : meth.locks = false) {Q : Option Value → Heap → List Loc → Prop} {rc rs n0 : Nat} {h : Heap} {pc : Nat} {Ls : Array Slot} {z v : Int32} {rest : List Value} (hret : meth.sig.returnType = some .int)
    (hd : decode c.code pc = .ok (.ireturn, 1)) (hc : cells ≤ rc) (hs : slots ≤ rs) (eT : T.heap = h) (N : Fr n0 locs) (hQ : ∀ L', Fr n0 L' → Q (some (.int v)) h L') (hv : v = z) :
    own_Fin p e below s Q rc rs (T.setTop (mkF m pc Ls (.int z :: rest))) := by
  subst hv
  obtain ⟨fs, hr, hrun, hended, hW, hsame⟩ := X.leave (v := some (.int v)) (fun h => by rw [hret] at h; cases h) hlk
  refine ⟨_, _, retI X hx hret hd hr, hrun, hended, _, _, rfl, ?_, ⟨_, rfl⟩, hW, hsame.mono hc hs⟩
  show Q _ T.heap _
  rw [eT]
  exact hQ _ N
theorem own_ret0 (X : Stand p l e R s m args below meth c T locs cells slots) (hx : p.tables.exec = Jvm.exec) (hlk : meth.locks = false) {Q : Option Value → Heap → List Loc → Prop} {rc rs : Nat} {h : Heap} {pc : Nat} {Ls : Array Slot} (hret : meth.sig.returnType = none)
    (hd : decode c.code pc = .ok (.return_, 1)) (hc : cells ≤ rc) (hs : slots ≤ rs) (eT : T.heap = h) (hQ : Q none h locs) :
    own_Fin p e below s Q rc rs (T.setTop (mkF m pc Ls [])) := by
  obtain ⟨fs, hr, hrun, hended, hW, hsame⟩ := X.leave (v := none) (fun _ => rfl) hlk
  refine ⟨_, _, X.returnOut hx hret hd hr, hrun, hended, _, _, rfl, ?_, ⟨_, rfl⟩, hW, hsame.mono hc hs⟩
  show Q _ T.heap _
  rw [eT]
  exact hQ
end OwnKit
/-- an array of n ints (bytes, ..) at a: its i-th is g i -/
def own_AF (Z : State) (h : Heap) (a : Addr) (ty : FieldType) (n : Nat) (g : Nat → Int32) : Prop := ∃ c : Cell, Arr Z h a c ty ∧ c.slots.size = n ∧ ∀ i, i < n → c.slots[i]? = some (.int (g i))
def own_In (n : Nat) (j : Int32) : Prop := ¬ (j < 0 ∨ n ≤ j.toNatClampNeg)
theorem own_AF.lt {Z : State} {h : Heap} {a : Addr} {ty : FieldType} {n : Nat} {g : Nat → Int32} (F : own_AF Z h a ty n g) : a < h.size := by obtain ⟨c, A, -⟩ := F; exact A.lt
theorem own_AFext {Z : State} {h h' : Heap} {a : Addr} {ty : FieldType} {n : Nat} {g : Nat → Int32} (F : own_AF Z h a ty n g) (E : Ext h h') : own_AF Z h' a ty n g := by obtain ⟨c, A, r⟩ := F; exact ⟨c, A.ext E, r⟩
theorem own_AFoth {Z : State} {h h' : Heap} {a b : Addr} {sl : Nat} {v : Value} {ty : FieldType} {n : Nat} {g : Nat → Int32} (F : own_AF Z h b ty n g) (W : Wr h h' a sl v) (q : b ≠ a) : own_AF Z h' b ty n g := by obtain ⟨c, A, r⟩ := F; exact ⟨c, A.other W q, r⟩
theorem own_AFkeep {Z : State} {h h' : Heap} {a : Addr} {ws : List Addr} {ty : FieldType} {n : Nat} {g : Nat → Int32} (F : own_AF Z h a ty n g) (K : Keep h h' ws) (q : a ∉ ws) : own_AF Z h' a ty n g := by obtain ⟨c, A, r⟩ := F; exact ⟨c, ⟨K.2.1 a c A.1 q, A.2⟩, r⟩
theorem own_AFset {Z : State} {h h' : Heap} {a : Addr} {ty : FieldType} {n k : Nat} {g : Nat → Int32} {c : Cell} {x : Int32} (A : Arr Z h a c ty) (S : c.slots.size = n) (H : ∀ i, i < n → c.slots[i]? = some (.int (g i))) (W : Wr h h' a k (.int x)) : own_AF Z h' a ty n (fun i => if i = k then x else g i) := by
  obtain ⟨c', e1, e2, e3, e4, e5, e6, e7⟩ := wr_at W A.1
  refine ⟨c', ⟨e1, ?_⟩, e4.trans S, fun i hi => ?_⟩
  · rw [(e7 rfl).1]; exact A.2
  · by_cases q : i = k
    · subst q
      show c'.slots[i]? = some (.int (if i = i then x else g i))
      rw [if_pos rfl]
      exact (e7 rfl).2.1
    · show c'.slots[i]? = some (.int (if i = k then x else g i))
      rw [e6 i q, if_neg q]
      exact H i hi
theorem own_AFnew {Z : State} {h : Heap} {a : Addr} {k : ClassId} {ty : FieldType} {z : Int32} {n : Nat} (A : Arr Z h a (newA k ty z) ty) (hn : z.toNatClampNeg = n) (hd : defaultValue ty = .int 0 := by rfl) : own_AF Z h a ty n (fun _ => 0) :=
  ⟨_, A, (sz_new _ _ _).trans hn, fun i hi => by
    have hs : (newA k ty z).slots = Array.replicate z.toNatClampNeg (defaultValue ty) := rfl
    rw [hs, hn, hd]
    simp [hi]⟩
theorem own_eqi {x y : Int32} {b : Int} (h : y.toInt = b) : x = y ↔ x.toInt = b := by rw [← h]; exact Int32.toInt_inj.symm

theorem d2_0 : decode prog_131_method_7_code 0 = .ok (.aload_n 0, 1) := by decide +kernel
theorem d2_1 : decode prog_131_method_7_code 1 = .ok (.iload_n 1, 1) := by decide +kernel
theorem d2_2 : decode prog_131_method_7_code 2 = .ok (.baload, 1) := by decide +kernel
theorem d2_3 : decode prog_131_method_7_code 3 = .ok (.istore_n 3, 1) := by decide +kernel
theorem d2_4 : decode prog_131_method_7_code 4 = .ok (.iconst (-1), 1) := by decide +kernel
theorem d2_5 : decode prog_131_method_7_code 5 = .ok (.istore 4, 2) := by decide +kernel
theorem d2_7 : decode prog_131_method_7_code 7 = .ok (.iload_n 3, 1) := by decide +kernel
theorem d2_8 : decode prog_131_method_7_code 8 = .ok (.bipush (-62), 2) := by decide +kernel
theorem d2_10 : decode prog_131_method_7_code 10 = .ok (.if_icmp .lt 60, 3) := by decide +kernel
theorem d2_13 : decode prog_131_method_7_code 13 = .ok (.iload_n 3, 1) := by decide +kernel
theorem d2_14 : decode prog_131_method_7_code 14 = .ok (.bipush (-33), 2) := by decide +kernel
theorem d2_16 : decode prog_131_method_7_code 16 = .ok (.if_icmp .gt 54, 3) := by decide +kernel
theorem d2_19 : decode prog_131_method_7_code 19 = .ok (.aload_n 0, 1) := by decide +kernel
theorem d2_20 : decode prog_131_method_7_code 20 = .ok (.iload_n 1, 1) := by decide +kernel
theorem d2_21 : decode prog_131_method_7_code 21 = .ok (.iconst 1, 1) := by decide +kernel
theorem d2_22 : decode prog_131_method_7_code 22 = .ok (.iadd, 1) := by decide +kernel
theorem d2_23 : decode prog_131_method_7_code 23 = .ok (.baload, 1) := by decide +kernel
theorem d2_24 : decode prog_131_method_7_code 24 = .ok (.sipush 192, 3) := by decide +kernel
theorem d2_27 : decode prog_131_method_7_code 27 = .ok (.iand, 1) := by decide +kernel
theorem d2_28 : decode prog_131_method_7_code 28 = .ok (.sipush 128, 3) := by decide +kernel
theorem d2_31 : decode prog_131_method_7_code 31 = .ok (.if_icmp .ne 39, 3) := by decide +kernel
theorem d2_34 : decode prog_131_method_7_code 34 = .ok (.iload_n 3, 1) := by decide +kernel
theorem d2_35 : decode prog_131_method_7_code 35 = .ok (.bipush 31, 2) := by decide +kernel
theorem d2_37 : decode prog_131_method_7_code 37 = .ok (.iand, 1) := by decide +kernel
theorem d2_38 : decode prog_131_method_7_code 38 = .ok (.bipush 6, 2) := by decide +kernel
theorem d2_40 : decode prog_131_method_7_code 40 = .ok (.ishl, 1) := by decide +kernel
theorem d2_41 : decode prog_131_method_7_code 41 = .ok (.aload_n 0, 1) := by decide +kernel
theorem d2_42 : decode prog_131_method_7_code 42 = .ok (.iload_n 1, 1) := by decide +kernel
theorem d2_43 : decode prog_131_method_7_code 43 = .ok (.iconst 1, 1) := by decide +kernel
theorem d2_44 : decode prog_131_method_7_code 44 = .ok (.iadd, 1) := by decide +kernel
theorem d2_45 : decode prog_131_method_7_code 45 = .ok (.baload, 1) := by decide +kernel
theorem d2_46 : decode prog_131_method_7_code 46 = .ok (.bipush 63, 2) := by decide +kernel
theorem d2_48 : decode prog_131_method_7_code 48 = .ok (.iand, 1) := by decide +kernel
theorem d2_49 : decode prog_131_method_7_code 49 = .ok (.ior, 1) := by decide +kernel
theorem d2_50 : decode prog_131_method_7_code 50 = .ok (.istore 4, 2) := by decide +kernel
theorem d2_52 : decode prog_131_method_7_code 52 = .ok (.iload_n 2, 1) := by decide +kernel
theorem d2_53 : decode prog_131_method_7_code 53 = .ok (.ifCond .eq 252, 3) := by decide +kernel
theorem d2_56 : decode prog_131_method_7_code 56 = .ok (.iload 4, 2) := by decide +kernel
theorem d2_58 : decode prog_131_method_7_code 58 = .ok (.sipush 160, 3) := by decide +kernel
theorem d2_61 : decode prog_131_method_7_code 61 = .ok (.if_icmp .ge 244, 3) := by decide +kernel
theorem d2_64 : decode prog_131_method_7_code 64 = .ok (.iconst (-1), 1) := by decide +kernel
theorem d2_65 : decode prog_131_method_7_code 65 = .ok (.istore 4, 2) := by decide +kernel
theorem d2_67 : decode prog_131_method_7_code 67 = .ok (.goto 238, 3) := by decide +kernel
theorem d2_70 : decode prog_131_method_7_code 70 = .ok (.iload_n 3, 1) := by decide +kernel
theorem d2_71 : decode prog_131_method_7_code 71 = .ok (.bipush (-32), 2) := by decide +kernel
theorem d2_73 : decode prog_131_method_7_code 73 = .ok (.if_icmp .lt 116, 3) := by decide +kernel
theorem d2_76 : decode prog_131_method_7_code 76 = .ok (.iload_n 3, 1) := by decide +kernel
theorem d2_77 : decode prog_131_method_7_code 77 = .ok (.bipush (-17), 2) := by decide +kernel
theorem d2_79 : decode prog_131_method_7_code 79 = .ok (.if_icmp .gt 110, 3) := by decide +kernel
theorem d2_82 : decode prog_131_method_7_code 82 = .ok (.aload_n 0, 1) := by decide +kernel
theorem d2_83 : decode prog_131_method_7_code 83 = .ok (.iload_n 1, 1) := by decide +kernel
theorem d2_84 : decode prog_131_method_7_code 84 = .ok (.iconst 1, 1) := by decide +kernel
theorem d2_85 : decode prog_131_method_7_code 85 = .ok (.iadd, 1) := by decide +kernel
theorem d2_86 : decode prog_131_method_7_code 86 = .ok (.baload, 1) := by decide +kernel
theorem d2_87 : decode prog_131_method_7_code 87 = .ok (.sipush 192, 3) := by decide +kernel
theorem d2_90 : decode prog_131_method_7_code 90 = .ok (.iand, 1) := by decide +kernel
theorem d2_91 : decode prog_131_method_7_code 91 = .ok (.sipush 128, 3) := by decide +kernel
theorem d2_94 : decode prog_131_method_7_code 94 = .ok (.if_icmp .ne 95, 3) := by decide +kernel
theorem d2_97 : decode prog_131_method_7_code 97 = .ok (.aload_n 0, 1) := by decide +kernel
theorem d2_98 : decode prog_131_method_7_code 98 = .ok (.iload_n 1, 1) := by decide +kernel
theorem d2_99 : decode prog_131_method_7_code 99 = .ok (.iconst 2, 1) := by decide +kernel
theorem d2_100 : decode prog_131_method_7_code 100 = .ok (.iadd, 1) := by decide +kernel
theorem d2_101 : decode prog_131_method_7_code 101 = .ok (.baload, 1) := by decide +kernel
theorem d2_102 : decode prog_131_method_7_code 102 = .ok (.sipush 192, 3) := by decide +kernel
theorem d2_105 : decode prog_131_method_7_code 105 = .ok (.iand, 1) := by decide +kernel
theorem d2_106 : decode prog_131_method_7_code 106 = .ok (.sipush 128, 3) := by decide +kernel
theorem d2_109 : decode prog_131_method_7_code 109 = .ok (.if_icmp .ne 80, 3) := by decide +kernel
theorem d2_112 : decode prog_131_method_7_code 112 = .ok (.iload_n 3, 1) := by decide +kernel
theorem d2_113 : decode prog_131_method_7_code 113 = .ok (.bipush 15, 2) := by decide +kernel
theorem d2_115 : decode prog_131_method_7_code 115 = .ok (.iand, 1) := by decide +kernel
theorem d2_116 : decode prog_131_method_7_code 116 = .ok (.bipush 12, 2) := by decide +kernel
theorem d2_118 : decode prog_131_method_7_code 118 = .ok (.ishl, 1) := by decide +kernel
theorem d2_119 : decode prog_131_method_7_code 119 = .ok (.aload_n 0, 1) := by decide +kernel
theorem d2_120 : decode prog_131_method_7_code 120 = .ok (.iload_n 1, 1) := by decide +kernel
theorem d2_121 : decode prog_131_method_7_code 121 = .ok (.iconst 1, 1) := by decide +kernel
theorem d2_122 : decode prog_131_method_7_code 122 = .ok (.iadd, 1) := by decide +kernel
theorem d2_123 : decode prog_131_method_7_code 123 = .ok (.baload, 1) := by decide +kernel
theorem d2_124 : decode prog_131_method_7_code 124 = .ok (.bipush 63, 2) := by decide +kernel
theorem d2_126 : decode prog_131_method_7_code 126 = .ok (.iand, 1) := by decide +kernel
theorem d2_127 : decode prog_131_method_7_code 127 = .ok (.bipush 6, 2) := by decide +kernel
theorem d2_129 : decode prog_131_method_7_code 129 = .ok (.ishl, 1) := by decide +kernel
theorem d2_130 : decode prog_131_method_7_code 130 = .ok (.ior, 1) := by decide +kernel
theorem d2_131 : decode prog_131_method_7_code 131 = .ok (.aload_n 0, 1) := by decide +kernel
theorem d2_132 : decode prog_131_method_7_code 132 = .ok (.iload_n 1, 1) := by decide +kernel
theorem d2_133 : decode prog_131_method_7_code 133 = .ok (.iconst 2, 1) := by decide +kernel
theorem d2_134 : decode prog_131_method_7_code 134 = .ok (.iadd, 1) := by decide +kernel
theorem d2_135 : decode prog_131_method_7_code 135 = .ok (.baload, 1) := by decide +kernel
theorem d2_136 : decode prog_131_method_7_code 136 = .ok (.bipush 63, 2) := by decide +kernel
theorem d2_138 : decode prog_131_method_7_code 138 = .ok (.iand, 1) := by decide +kernel
theorem d2_139 : decode prog_131_method_7_code 139 = .ok (.ior, 1) := by decide +kernel
theorem d2_140 : decode prog_131_method_7_code 140 = .ok (.istore 4, 2) := by decide +kernel
theorem d2_142 : decode prog_131_method_7_code 142 = .ok (.iload 4, 2) := by decide +kernel
theorem d2_144 : decode prog_131_method_7_code 144 = .ok (.sipush 2048, 3) := by decide +kernel
theorem d2_147 : decode prog_131_method_7_code 147 = .ok (.if_icmp .lt 36, 3) := by decide +kernel
theorem d2_150 : decode prog_131_method_7_code 150 = .ok (.iload 4, 2) := by decide +kernel
theorem d2_152 : decode prog_131_method_7_code 152 = .ok (.ldc 71, 2) := by decide +kernel
theorem d2_154 : decode prog_131_method_7_code 154 = .ok (.if_icmp .lt 10, 3) := by decide +kernel
theorem d2_157 : decode prog_131_method_7_code 157 = .ok (.iload 4, 2) := by decide +kernel
theorem d2_159 : decode prog_131_method_7_code 159 = .ok (.ldc 72, 2) := by decide +kernel
theorem d2_161 : decode prog_131_method_7_code 161 = .ok (.if_icmp .le 22, 3) := by decide +kernel
theorem d2_164 : decode prog_131_method_7_code 164 = .ok (.iload 4, 2) := by decide +kernel
theorem d2_166 : decode prog_131_method_7_code 166 = .ok (.ldc 73, 2) := by decide +kernel
theorem d2_168 : decode prog_131_method_7_code 168 = .ok (.if_icmp .ge 15, 3) := by decide +kernel
theorem d2_171 : decode prog_131_method_7_code 171 = .ok (.iload_n 2, 1) := by decide +kernel
theorem d2_172 : decode prog_131_method_7_code 172 = .ok (.ifCond .eq 133, 3) := by decide +kernel
theorem d2_175 : decode prog_131_method_7_code 175 = .ok (.iload 4, 2) := by decide +kernel
theorem d2_177 : decode prog_131_method_7_code 177 = .ok (.sipush 8232, 3) := by decide +kernel
theorem d2_180 : decode prog_131_method_7_code 180 = .ok (.if_icmp .ne 125, 3) := by decide +kernel
theorem d2_183 : decode prog_131_method_7_code 183 = .ok (.iconst (-1), 1) := by decide +kernel
theorem d2_184 : decode prog_131_method_7_code 184 = .ok (.istore 4, 2) := by decide +kernel
theorem d2_186 : decode prog_131_method_7_code 186 = .ok (.goto 119, 3) := by decide +kernel
theorem d2_189 : decode prog_131_method_7_code 189 = .ok (.iload_n 3, 1) := by decide +kernel
theorem d2_190 : decode prog_131_method_7_code 190 = .ok (.bipush (-16), 2) := by decide +kernel
theorem d2_192 : decode prog_131_method_7_code 192 = .ok (.if_icmp .lt 113, 3) := by decide +kernel
theorem d2_195 : decode prog_131_method_7_code 195 = .ok (.iload_n 3, 1) := by decide +kernel
theorem d2_196 : decode prog_131_method_7_code 196 = .ok (.bipush (-12), 2) := by decide +kernel
theorem d2_198 : decode prog_131_method_7_code 198 = .ok (.if_icmp .gt 107, 3) := by decide +kernel
theorem d2_201 : decode prog_131_method_7_code 201 = .ok (.aload_n 0, 1) := by decide +kernel
theorem d2_202 : decode prog_131_method_7_code 202 = .ok (.iload_n 1, 1) := by decide +kernel
theorem d2_203 : decode prog_131_method_7_code 203 = .ok (.iconst 1, 1) := by decide +kernel
theorem d2_204 : decode prog_131_method_7_code 204 = .ok (.iadd, 1) := by decide +kernel
theorem d2_205 : decode prog_131_method_7_code 205 = .ok (.baload, 1) := by decide +kernel
theorem d2_206 : decode prog_131_method_7_code 206 = .ok (.sipush 192, 3) := by decide +kernel
theorem d2_209 : decode prog_131_method_7_code 209 = .ok (.iand, 1) := by decide +kernel
theorem d2_210 : decode prog_131_method_7_code 210 = .ok (.sipush 128, 3) := by decide +kernel
theorem d2_213 : decode prog_131_method_7_code 213 = .ok (.if_icmp .ne 92, 3) := by decide +kernel
theorem d2_216 : decode prog_131_method_7_code 216 = .ok (.aload_n 0, 1) := by decide +kernel
theorem d2_217 : decode prog_131_method_7_code 217 = .ok (.iload_n 1, 1) := by decide +kernel
theorem d2_218 : decode prog_131_method_7_code 218 = .ok (.iconst 2, 1) := by decide +kernel
theorem d2_219 : decode prog_131_method_7_code 219 = .ok (.iadd, 1) := by decide +kernel
theorem d2_220 : decode prog_131_method_7_code 220 = .ok (.baload, 1) := by decide +kernel
theorem d2_221 : decode prog_131_method_7_code 221 = .ok (.sipush 192, 3) := by decide +kernel
theorem d2_224 : decode prog_131_method_7_code 224 = .ok (.iand, 1) := by decide +kernel
theorem d2_225 : decode prog_131_method_7_code 225 = .ok (.sipush 128, 3) := by decide +kernel
theorem d2_228 : decode prog_131_method_7_code 228 = .ok (.if_icmp .ne 77, 3) := by decide +kernel
theorem d2_231 : decode prog_131_method_7_code 231 = .ok (.aload_n 0, 1) := by decide +kernel
theorem d2_232 : decode prog_131_method_7_code 232 = .ok (.iload_n 1, 1) := by decide +kernel
theorem d2_233 : decode prog_131_method_7_code 233 = .ok (.iconst 3, 1) := by decide +kernel
theorem d2_234 : decode prog_131_method_7_code 234 = .ok (.iadd, 1) := by decide +kernel
theorem d2_235 : decode prog_131_method_7_code 235 = .ok (.baload, 1) := by decide +kernel
theorem d2_236 : decode prog_131_method_7_code 236 = .ok (.sipush 192, 3) := by decide +kernel
theorem d2_239 : decode prog_131_method_7_code 239 = .ok (.iand, 1) := by decide +kernel
theorem d2_240 : decode prog_131_method_7_code 240 = .ok (.sipush 128, 3) := by decide +kernel
theorem d2_243 : decode prog_131_method_7_code 243 = .ok (.if_icmp .ne 62, 3) := by decide +kernel
theorem d2_246 : decode prog_131_method_7_code 246 = .ok (.iload_n 3, 1) := by decide +kernel
theorem d2_247 : decode prog_131_method_7_code 247 = .ok (.bipush 7, 2) := by decide +kernel
theorem d2_249 : decode prog_131_method_7_code 249 = .ok (.iand, 1) := by decide +kernel
theorem d2_250 : decode prog_131_method_7_code 250 = .ok (.bipush 18, 2) := by decide +kernel
theorem d2_252 : decode prog_131_method_7_code 252 = .ok (.ishl, 1) := by decide +kernel
theorem d2_253 : decode prog_131_method_7_code 253 = .ok (.aload_n 0, 1) := by decide +kernel
theorem d2_254 : decode prog_131_method_7_code 254 = .ok (.iload_n 1, 1) := by decide +kernel
theorem d2_255 : decode prog_131_method_7_code 255 = .ok (.iconst 1, 1) := by decide +kernel
theorem d2_256 : decode prog_131_method_7_code 256 = .ok (.iadd, 1) := by decide +kernel
theorem d2_257 : decode prog_131_method_7_code 257 = .ok (.baload, 1) := by decide +kernel
theorem d2_258 : decode prog_131_method_7_code 258 = .ok (.bipush 63, 2) := by decide +kernel
theorem d2_260 : decode prog_131_method_7_code 260 = .ok (.iand, 1) := by decide +kernel
theorem d2_261 : decode prog_131_method_7_code 261 = .ok (.bipush 12, 2) := by decide +kernel
theorem d2_263 : decode prog_131_method_7_code 263 = .ok (.ishl, 1) := by decide +kernel
theorem d2_264 : decode prog_131_method_7_code 264 = .ok (.ior, 1) := by decide +kernel
theorem d2_265 : decode prog_131_method_7_code 265 = .ok (.aload_n 0, 1) := by decide +kernel
theorem d2_266 : decode prog_131_method_7_code 266 = .ok (.iload_n 1, 1) := by decide +kernel
theorem d2_267 : decode prog_131_method_7_code 267 = .ok (.iconst 2, 1) := by decide +kernel
theorem d2_268 : decode prog_131_method_7_code 268 = .ok (.iadd, 1) := by decide +kernel
theorem d2_269 : decode prog_131_method_7_code 269 = .ok (.baload, 1) := by decide +kernel
theorem d2_270 : decode prog_131_method_7_code 270 = .ok (.bipush 63, 2) := by decide +kernel
theorem d2_272 : decode prog_131_method_7_code 272 = .ok (.iand, 1) := by decide +kernel
theorem d2_273 : decode prog_131_method_7_code 273 = .ok (.bipush 6, 2) := by decide +kernel
theorem d2_275 : decode prog_131_method_7_code 275 = .ok (.ishl, 1) := by decide +kernel
theorem d2_276 : decode prog_131_method_7_code 276 = .ok (.ior, 1) := by decide +kernel
theorem d2_277 : decode prog_131_method_7_code 277 = .ok (.aload_n 0, 1) := by decide +kernel
theorem d2_278 : decode prog_131_method_7_code 278 = .ok (.iload_n 1, 1) := by decide +kernel
theorem d2_279 : decode prog_131_method_7_code 279 = .ok (.iconst 3, 1) := by decide +kernel
theorem d2_280 : decode prog_131_method_7_code 280 = .ok (.iadd, 1) := by decide +kernel
theorem d2_281 : decode prog_131_method_7_code 281 = .ok (.baload, 1) := by decide +kernel
theorem d2_282 : decode prog_131_method_7_code 282 = .ok (.bipush 63, 2) := by decide +kernel
theorem d2_284 : decode prog_131_method_7_code 284 = .ok (.iand, 1) := by decide +kernel
theorem d2_285 : decode prog_131_method_7_code 285 = .ok (.ior, 1) := by decide +kernel
theorem d2_286 : decode prog_131_method_7_code 286 = .ok (.istore 4, 2) := by decide +kernel
theorem d2_288 : decode prog_131_method_7_code 288 = .ok (.iload 4, 2) := by decide +kernel
theorem d2_290 : decode prog_131_method_7_code 290 = .ok (.ldc 76, 2) := by decide +kernel
theorem d2_292 : decode prog_131_method_7_code 292 = .ok (.if_icmp .lt 10, 3) := by decide +kernel
theorem d2_295 : decode prog_131_method_7_code 295 = .ok (.iload 4, 2) := by decide +kernel
theorem d2_297 : decode prog_131_method_7_code 297 = .ok (.ldc 77, 2) := by decide +kernel
theorem d2_299 : decode prog_131_method_7_code 299 = .ok (.if_icmp .le 6, 3) := by decide +kernel
theorem d2_302 : decode prog_131_method_7_code 302 = .ok (.iconst (-1), 1) := by decide +kernel
theorem d2_303 : decode prog_131_method_7_code 303 = .ok (.istore 4, 2) := by decide +kernel
theorem d2_305 : decode prog_131_method_7_code 305 = .ok (.iload 4, 2) := by decide +kernel
theorem d2_307 : decode prog_131_method_7_code 307 = .ok (.ireturn, 1) := by decide +kernel
def f2_305 (g0 : Nat → Int32) (i1 : Int32) (i2 : Int32) (i3 : Int32) (i4 : Int32) : Int32 := i4
set_option maxRecDepth 65536 in
set_option maxHeartbeats 40000000 in
theorem b2_305 {p : Program} {l : Launch} {e : Env} {s : State} {m : MethodId} {args : Array Value} {below : List Frame} {meth : Method} {c : Code} {T : State} {locs : List Loc} {cells slots : Nat} {Z : State} {a0 : Array Value} {h : Heap} {n0 : Nat} {Q : Option Value → Heap → List Loc → Prop} (o0 : Addr) (g0 : Nat → Int32) (z0 : Nat) (i1 : Int32) (i2 : Int32) (i3 : Int32) (i4 : Int32) (hw : ∀ d ∈ tables_1, d.before a0 Z = true) (X : Stand p l e ({ frames := 0, cells := 0, slots := 0, locals := 0 } : Room) s m args below meth c T locs cells slots) (hx : p.tables.exec = Jvm.exec) (hZ : Z.Warmed39 s.vm) (hby : c.code = prog_131_method_7_code) (hml : c.maxLocals = 5) (hown : s.vm.findClass "com/example/zoria/zoria/xml/XmlInput" = some m.cls) (hret : meth.sig.returnType = some .int) (hlk : meth.locks = false) (eT : T.heap = h) (N : Fr n0 locs) (hc : cells ≤ 0) (hs : slots ≤ 0) (A0 : own_AF Z h o0 .byte z0 g0) (hb0 : own_In z0 i1) (hb1 : own_In z0 (i1 + (1 : Int32))) (hb2 : own_In z0 (i1 + (2 : Int32))) (hb3 : own_In z0 (i1 + (3 : Int32))) (v : Int32) (hv : v = f2_305 g0 i1 i2 i3 i4) (hQ : ∀ L', Fr n0 L' → Q (some (.int v)) h L') :
    own_Fin p e below s Q 0 0 (T.setTop (mkF m 305 #[.val (.ref o0), .val (.int i1), .val (.int i2), .val (.int i3), .val (.int i4)] [])) := by
  refine own_step (fun t k => XS.iload X.here hx rfl (hb hby d2_305) rfl  k) ?_
  show own_Fin p e below s Q 0 0 (T.setTop (mkF m 307 #[.val (.ref o0), .val (.int i1), .val (.int i2), .val (.int i3), .val (.int i4)] [(.int i4)]))
  exact own_retI X hx hlk hret (hb hby d2_307) (Nat.le_trans (Nat.add_le_add_right hc 0) (by decide)) (Nat.le_trans (Nat.add_le_add_right hs 0) (by decide)) eT N hQ (hv)
def f2_302 (g0 : Nat → Int32) (i1 : Int32) (i2 : Int32) (i3 : Int32) (i4 : Int32) : Int32 := f2_305 g0 i1 i2 i3 (-1 : Int32)
set_option maxRecDepth 65536 in
set_option maxHeartbeats 40000000 in
theorem b2_302 {p : Program} {l : Launch} {e : Env} {s : State} {m : MethodId} {args : Array Value} {below : List Frame} {meth : Method} {c : Code} {T : State} {locs : List Loc} {cells slots : Nat} {Z : State} {a0 : Array Value} {h : Heap} {n0 : Nat} {Q : Option Value → Heap → List Loc → Prop} (o0 : Addr) (g0 : Nat → Int32) (z0 : Nat) (i1 : Int32) (i2 : Int32) (i3 : Int32) (i4 : Int32) (hw : ∀ d ∈ tables_1, d.before a0 Z = true) (X : Stand p l e ({ frames := 0, cells := 0, slots := 0, locals := 0 } : Room) s m args below meth c T locs cells slots) (hx : p.tables.exec = Jvm.exec) (hZ : Z.Warmed39 s.vm) (hby : c.code = prog_131_method_7_code) (hml : c.maxLocals = 5) (hown : s.vm.findClass "com/example/zoria/zoria/xml/XmlInput" = some m.cls) (hret : meth.sig.returnType = some .int) (hlk : meth.locks = false) (eT : T.heap = h) (N : Fr n0 locs) (hc : cells ≤ 0) (hs : slots ≤ 0) (A0 : own_AF Z h o0 .byte z0 g0) (hb0 : own_In z0 i1) (hb1 : own_In z0 (i1 + (1 : Int32))) (hb2 : own_In z0 (i1 + (2 : Int32))) (hb3 : own_In z0 (i1 + (3 : Int32))) (v : Int32) (hv : v = f2_302 g0 i1 i2 i3 i4) (hQ : ∀ L', Fr n0 L' → Q (some (.int v)) h L') :
    own_Fin p e below s Q 0 0 (T.setTop (mkF m 302 #[.val (.ref o0), .val (.int i1), .val (.int i2), .val (.int i3), .val (.int i4)] [])) := by
  refine own_step (fun t k => XS.iconst X.here hx rfl (hb hby d2_302) k) ?_
  show own_Fin p e below s Q 0 0 (T.setTop (mkF m 303 #[.val (.ref o0), .val (.int i1), .val (.int i2), .val (.int i3), .val (.int i4)] [(.int (-1 : Int32))]))
  refine own_step (fun t k => XS.istore X.here hx rfl (hb hby d2_303) rfl (l' := #[.val (.ref o0), .val (.int i1), .val (.int i2), .val (.int i3), .val (.int (-1 : Int32))]) rfl k) ?_
  exact b2_305 o0 g0 z0 i1 i2 i3 (-1 : Int32) hw X hx hZ hby hml hown hret hlk eT N (Nat.le_trans (Nat.add_le_add_right hc 0) (by decide)) (Nat.le_trans (Nat.add_le_add_right hs 0) (by decide)) A0 hb0 hb1 hb2 hb3 v (hv) hQ
def f2_295 (g0 : Nat → Int32) (i1 : Int32) (i2 : Int32) (i3 : Int32) (i4 : Int32) : Int32 := if (1114111 : Int32) < i4 then f2_302 g0 i1 i2 i3 i4 else f2_305 g0 i1 i2 i3 i4
set_option maxRecDepth 65536 in
set_option maxHeartbeats 40000000 in
theorem b2_295 {p : Program} {l : Launch} {e : Env} {s : State} {m : MethodId} {args : Array Value} {below : List Frame} {meth : Method} {c : Code} {T : State} {locs : List Loc} {cells slots : Nat} {Z : State} {a0 : Array Value} {h : Heap} {n0 : Nat} {Q : Option Value → Heap → List Loc → Prop} (o0 : Addr) (g0 : Nat → Int32) (z0 : Nat) (i1 : Int32) (i2 : Int32) (i3 : Int32) (i4 : Int32) (hw : ∀ d ∈ tables_1, d.before a0 Z = true) (X : Stand p l e ({ frames := 0, cells := 0, slots := 0, locals := 0 } : Room) s m args below meth c T locs cells slots) (hx : p.tables.exec = Jvm.exec) (hZ : Z.Warmed39 s.vm) (hby : c.code = prog_131_method_7_code) (hml : c.maxLocals = 5) (hown : s.vm.findClass "com/example/zoria/zoria/xml/XmlInput" = some m.cls) (hret : meth.sig.returnType = some .int) (hlk : meth.locks = false) (eT : T.heap = h) (N : Fr n0 locs) (hc : cells ≤ 0) (hs : slots ≤ 0) (A0 : own_AF Z h o0 .byte z0 g0) (hb0 : own_In z0 i1) (hb1 : own_In z0 (i1 + (1 : Int32))) (hb2 : own_In z0 (i1 + (2 : Int32))) (hb3 : own_In z0 (i1 + (3 : Int32))) (v : Int32) (hv : v = f2_295 g0 i1 i2 i3 i4) (hQ : ∀ L', Fr n0 L' → Q (some (.int v)) h L') :
    own_Fin p e below s Q 0 0 (T.setTop (mkF m 295 #[.val (.ref o0), .val (.int i1), .val (.int i2), .val (.int i3), .val (.int i4)] [])) := by
  refine own_step (fun t k => XS.iload X.here hx rfl (hb hby d2_295) rfl  k) ?_
  show own_Fin p e below s Q 0 0 (T.setTop (mkF m 297 #[.val (.ref o0), .val (.int i1), .val (.int i2), .val (.int i3), .val (.int i4)] [(.int i4)]))
  refine own_step (X.ldcInt hx hown (mvT hZ (hw _ (List.mem_of_getElem? (i := 20) rfl))) (g := (mkF m 297 #[.val (.ref o0), .val (.int i1), .val (.int i2), .val (.int i3), .val (.int i4)] [(.int i4)])) rfl (hb hby d2_297)) ?_
  show own_Fin p e below s Q 0 0 (T.setTop (mkF m 299 #[.val (.ref o0), .val (.int i1), .val (.int i2), .val (.int i3), .val (.int i4)] [(.int (1114111 : Int32)), (.int i4)]))
  by_cases hB299_20 : (1114111 : Int32) < i4
  · refine own_step (fun t k => XS.icmpNo X.here hx rfl (hb hby d2_299) rfl (tlt hB299_20).2.2.2 k) ?_
    exact b2_302 o0 g0 z0 i1 i2 i3 i4 hw X hx hZ hby hml hown hret hlk eT N (Nat.le_trans (Nat.add_le_add_right hc 0) (by decide)) (Nat.le_trans (Nat.add_le_add_right hs 0) (by decide)) A0 hb0 hb1 hb2 hb3 v (hv.trans (if_pos hB299_20)) hQ
  · refine own_step (fun t k => XS.icmpYes X.here hx rfl (pc0 := 299) (pc' := 305) rfl (hb hby d2_299) rfl (flt hB299_20).2.2.2 (by decide) (by decide) k) ?_
    exact b2_305 o0 g0 z0 i1 i2 i3 i4 hw X hx hZ hby hml hown hret hlk eT N (Nat.le_trans (Nat.add_le_add_right hc 0) (by decide)) (Nat.le_trans (Nat.add_le_add_right hs 0) (by decide)) A0 hb0 hb1 hb2 hb3 v (hv.trans (if_neg hB299_20)) hQ
def f2_246 (g0 : Nat → Int32) (i1 : Int32) (i2 : Int32) (i3 : Int32) (i4 : Int32) : Int32 := if (((((i3 &&& (7 : Int32)) <<< ((18 : Int32) &&& 31)) ||| (((g0 ((i1 + (1 : Int32))).toNatClampNeg) &&& (63 : Int32)) <<< ((12 : Int32) &&& 31))) ||| (((g0 ((i1 + (2 : Int32))).toNatClampNeg) &&& (63 : Int32)) <<< ((6 : Int32) &&& 31))) ||| ((g0 ((i1 + (3 : Int32))).toNatClampNeg) &&& (63 : Int32))) < (65536 : Int32) then f2_302 g0 i1 i2 i3 (((((i3 &&& (7 : Int32)) <<< ((18 : Int32) &&& 31)) ||| (((g0 ((i1 + (1 : Int32))).toNatClampNeg) &&& (63 : Int32)) <<< ((12 : Int32) &&& 31))) ||| (((g0 ((i1 + (2 : Int32))).toNatClampNeg) &&& (63 : Int32)) <<< ((6 : Int32) &&& 31))) ||| ((g0 ((i1 + (3 : Int32))).toNatClampNeg) &&& (63 : Int32))) else f2_295 g0 i1 i2 i3 (((((i3 &&& (7 : Int32)) <<< ((18 : Int32) &&& 31)) ||| (((g0 ((i1 + (1 : Int32))).toNatClampNeg) &&& (63 : Int32)) <<< ((12 : Int32) &&& 31))) ||| (((g0 ((i1 + (2 : Int32))).toNatClampNeg) &&& (63 : Int32)) <<< ((6 : Int32) &&& 31))) ||| ((g0 ((i1 + (3 : Int32))).toNatClampNeg) &&& (63 : Int32)))
set_option maxRecDepth 65536 in
set_option maxHeartbeats 40000000 in
theorem b2_246 {p : Program} {l : Launch} {e : Env} {s : State} {m : MethodId} {args : Array Value} {below : List Frame} {meth : Method} {c : Code} {T : State} {locs : List Loc} {cells slots : Nat} {Z : State} {a0 : Array Value} {h : Heap} {n0 : Nat} {Q : Option Value → Heap → List Loc → Prop} (o0 : Addr) (g0 : Nat → Int32) (z0 : Nat) (i1 : Int32) (i2 : Int32) (i3 : Int32) (i4 : Int32) (hw : ∀ d ∈ tables_1, d.before a0 Z = true) (X : Stand p l e ({ frames := 0, cells := 0, slots := 0, locals := 0 } : Room) s m args below meth c T locs cells slots) (hx : p.tables.exec = Jvm.exec) (hZ : Z.Warmed39 s.vm) (hby : c.code = prog_131_method_7_code) (hml : c.maxLocals = 5) (hown : s.vm.findClass "com/example/zoria/zoria/xml/XmlInput" = some m.cls) (hret : meth.sig.returnType = some .int) (hlk : meth.locks = false) (eT : T.heap = h) (N : Fr n0 locs) (hc : cells ≤ 0) (hs : slots ≤ 0) (A0 : own_AF Z h o0 .byte z0 g0) (hb0 : own_In z0 i1) (hb1 : own_In z0 (i1 + (1 : Int32))) (hb2 : own_In z0 (i1 + (2 : Int32))) (hb3 : own_In z0 (i1 + (3 : Int32))) (v : Int32) (hv : v = f2_246 g0 i1 i2 i3 i4) (hQ : ∀ L', Fr n0 L' → Q (some (.int v)) h L') :
    own_Fin p e below s Q 0 0 (T.setTop (mkF m 246 #[.val (.ref o0), .val (.int i1), .val (.int i2), .val (.int i3), .val (.int i4)] [])) := by
  refine own_step (fun t k => XS.iloadN X.here hx rfl (hb hby d2_246) rfl  k) ?_
  show own_Fin p e below s Q 0 0 (T.setTop (mkF m 247 #[.val (.ref o0), .val (.int i1), .val (.int i2), .val (.int i3), .val (.int i4)] [(.int i3)]))
  refine own_step (fun t k => XS.bipush X.here hx rfl (hb hby d2_247) k) ?_
  show own_Fin p e below s Q 0 0 (T.setTop (mkF m 249 #[.val (.ref o0), .val (.int i1), .val (.int i2), .val (.int i3), .val (.int i4)] [(.int (7 : Int32)), (.int i3)]))
  refine own_step (fun t k => XS.iand X.here hx rfl (hb hby d2_249) rfl k) ?_
  show own_Fin p e below s Q 0 0 (T.setTop (mkF m 250 #[.val (.ref o0), .val (.int i1), .val (.int i2), .val (.int i3), .val (.int i4)] [(.int (i3 &&& (7 : Int32)))]))
  refine own_step (fun t k => XS.bipush X.here hx rfl (hb hby d2_250) k) ?_
  show own_Fin p e below s Q 0 0 (T.setTop (mkF m 252 #[.val (.ref o0), .val (.int i1), .val (.int i2), .val (.int i3), .val (.int i4)] [(.int (18 : Int32)), (.int (i3 &&& (7 : Int32)))]))
  refine own_step (fun t k => XS.ishl X.here hx rfl (hb hby d2_252) rfl k) ?_
  show own_Fin p e below s Q 0 0 (T.setTop (mkF m 253 #[.val (.ref o0), .val (.int i1), .val (.int i2), .val (.int i3), .val (.int i4)] [(.int ((i3 &&& (7 : Int32)) <<< ((18 : Int32) &&& 31)))]))
  refine own_step (fun t k => XS.aloadN X.here hx rfl (hb hby d2_253) rfl rfl k) ?_
  show own_Fin p e below s Q 0 0 (T.setTop (mkF m 254 #[.val (.ref o0), .val (.int i1), .val (.int i2), .val (.int i3), .val (.int i4)] [(.ref o0), (.int ((i3 &&& (7 : Int32)) <<< ((18 : Int32) &&& 31)))]))
  refine own_step (fun t k => XS.iloadN X.here hx rfl (hb hby d2_254) rfl  k) ?_
  show own_Fin p e below s Q 0 0 (T.setTop (mkF m 255 #[.val (.ref o0), .val (.int i1), .val (.int i2), .val (.int i3), .val (.int i4)] [(.int i1), (.ref o0), (.int ((i3 &&& (7 : Int32)) <<< ((18 : Int32) &&& 31)))]))
  refine own_step (fun t k => XS.iconst X.here hx rfl (hb hby d2_255) k) ?_
  show own_Fin p e below s Q 0 0 (T.setTop (mkF m 256 #[.val (.ref o0), .val (.int i1), .val (.int i2), .val (.int i3), .val (.int i4)] [(.int (1 : Int32)), (.int i1), (.ref o0), (.int ((i3 &&& (7 : Int32)) <<< ((18 : Int32) &&& 31)))]))
  refine own_step (fun t k => XS.iadd X.here hx rfl (hb hby d2_256) rfl k) ?_
  show own_Fin p e below s Q 0 0 (T.setTop (mkF m 257 #[.val (.ref o0), .val (.int i1), .val (.int i2), .val (.int i3), .val (.int i4)] [(.int (i1 + (1 : Int32))), (.ref o0), (.int ((i3 &&& (7 : Int32)) <<< ((18 : Int32) &&& 31)))]))
  obtain ⟨ca257, Ar257, Sz257, Ht257⟩ := id A0
  have hin257 : ¬ ((i1 + (1 : Int32)) < 0 ∨ ca257.slots.size ≤ ((i1 + (1 : Int32))).toNatClampNeg) := by rw [Sz257]; exact hb1
  refine own_step (X.baloadBytes hx (j := (i1 + (1 : Int32))) (v := (.int (g0 ((i1 + (1 : Int32))).toNatClampNeg))) (by rw [eT]; exact Ar257.1) (State.isArrayOf_alike hZ.alike Ar257.2.1) Ar257.2.2 hin257 (Ht257 _ (by have hq := Nat.lt_of_not_le (fun y => hin257 (Or.inr y)); rw [Sz257] at hq; exact hq)) (g := (mkF m 257 #[.val (.ref o0), .val (.int i1), .val (.int i2), .val (.int i3), .val (.int i4)] [(.int (i1 + (1 : Int32))), (.ref o0), (.int ((i3 &&& (7 : Int32)) <<< ((18 : Int32) &&& 31)))])) rfl rfl (hb hby d2_257)) ?_
  show own_Fin p e below s Q 0 0 (T.setTop (mkF m 258 #[.val (.ref o0), .val (.int i1), .val (.int i2), .val (.int i3), .val (.int i4)] [(.int (g0 ((i1 + (1 : Int32))).toNatClampNeg)), (.int ((i3 &&& (7 : Int32)) <<< ((18 : Int32) &&& 31)))]))
  refine own_step (fun t k => XS.bipush X.here hx rfl (hb hby d2_258) k) ?_
  show own_Fin p e below s Q 0 0 (T.setTop (mkF m 260 #[.val (.ref o0), .val (.int i1), .val (.int i2), .val (.int i3), .val (.int i4)] [(.int (63 : Int32)), (.int (g0 ((i1 + (1 : Int32))).toNatClampNeg)), (.int ((i3 &&& (7 : Int32)) <<< ((18 : Int32) &&& 31)))]))
  refine own_step (fun t k => XS.iand X.here hx rfl (hb hby d2_260) rfl k) ?_
  show own_Fin p e below s Q 0 0 (T.setTop (mkF m 261 #[.val (.ref o0), .val (.int i1), .val (.int i2), .val (.int i3), .val (.int i4)] [(.int ((g0 ((i1 + (1 : Int32))).toNatClampNeg) &&& (63 : Int32))), (.int ((i3 &&& (7 : Int32)) <<< ((18 : Int32) &&& 31)))]))
  refine own_step (fun t k => XS.bipush X.here hx rfl (hb hby d2_261) k) ?_
  show own_Fin p e below s Q 0 0 (T.setTop (mkF m 263 #[.val (.ref o0), .val (.int i1), .val (.int i2), .val (.int i3), .val (.int i4)] [(.int (12 : Int32)), (.int ((g0 ((i1 + (1 : Int32))).toNatClampNeg) &&& (63 : Int32))), (.int ((i3 &&& (7 : Int32)) <<< ((18 : Int32) &&& 31)))]))
  refine own_step (fun t k => XS.ishl X.here hx rfl (hb hby d2_263) rfl k) ?_
  show own_Fin p e below s Q 0 0 (T.setTop (mkF m 264 #[.val (.ref o0), .val (.int i1), .val (.int i2), .val (.int i3), .val (.int i4)] [(.int (((g0 ((i1 + (1 : Int32))).toNatClampNeg) &&& (63 : Int32)) <<< ((12 : Int32) &&& 31))), (.int ((i3 &&& (7 : Int32)) <<< ((18 : Int32) &&& 31)))]))
  refine own_step (fun t k => XS.ior X.here hx rfl (hb hby d2_264) rfl k) ?_
  show own_Fin p e below s Q 0 0 (T.setTop (mkF m 265 #[.val (.ref o0), .val (.int i1), .val (.int i2), .val (.int i3), .val (.int i4)] [(.int (((i3 &&& (7 : Int32)) <<< ((18 : Int32) &&& 31)) ||| (((g0 ((i1 + (1 : Int32))).toNatClampNeg) &&& (63 : Int32)) <<< ((12 : Int32) &&& 31))))]))
  refine own_step (fun t k => XS.aloadN X.here hx rfl (hb hby d2_265) rfl rfl k) ?_
  show own_Fin p e below s Q 0 0 (T.setTop (mkF m 266 #[.val (.ref o0), .val (.int i1), .val (.int i2), .val (.int i3), .val (.int i4)] [(.ref o0), (.int (((i3 &&& (7 : Int32)) <<< ((18 : Int32) &&& 31)) ||| (((g0 ((i1 + (1 : Int32))).toNatClampNeg) &&& (63 : Int32)) <<< ((12 : Int32) &&& 31))))]))
  refine own_step (fun t k => XS.iloadN X.here hx rfl (hb hby d2_266) rfl  k) ?_
  show own_Fin p e below s Q 0 0 (T.setTop (mkF m 267 #[.val (.ref o0), .val (.int i1), .val (.int i2), .val (.int i3), .val (.int i4)] [(.int i1), (.ref o0), (.int (((i3 &&& (7 : Int32)) <<< ((18 : Int32) &&& 31)) ||| (((g0 ((i1 + (1 : Int32))).toNatClampNeg) &&& (63 : Int32)) <<< ((12 : Int32) &&& 31))))]))
  refine own_step (fun t k => XS.iconst X.here hx rfl (hb hby d2_267) k) ?_
  show own_Fin p e below s Q 0 0 (T.setTop (mkF m 268 #[.val (.ref o0), .val (.int i1), .val (.int i2), .val (.int i3), .val (.int i4)] [(.int (2 : Int32)), (.int i1), (.ref o0), (.int (((i3 &&& (7 : Int32)) <<< ((18 : Int32) &&& 31)) ||| (((g0 ((i1 + (1 : Int32))).toNatClampNeg) &&& (63 : Int32)) <<< ((12 : Int32) &&& 31))))]))
  refine own_step (fun t k => XS.iadd X.here hx rfl (hb hby d2_268) rfl k) ?_
  show own_Fin p e below s Q 0 0 (T.setTop (mkF m 269 #[.val (.ref o0), .val (.int i1), .val (.int i2), .val (.int i3), .val (.int i4)] [(.int (i1 + (2 : Int32))), (.ref o0), (.int (((i3 &&& (7 : Int32)) <<< ((18 : Int32) &&& 31)) ||| (((g0 ((i1 + (1 : Int32))).toNatClampNeg) &&& (63 : Int32)) <<< ((12 : Int32) &&& 31))))]))
  obtain ⟨ca269, Ar269, Sz269, Ht269⟩ := id A0
  have hin269 : ¬ ((i1 + (2 : Int32)) < 0 ∨ ca269.slots.size ≤ ((i1 + (2 : Int32))).toNatClampNeg) := by rw [Sz269]; exact hb2
  refine own_step (X.baloadBytes hx (j := (i1 + (2 : Int32))) (v := (.int (g0 ((i1 + (2 : Int32))).toNatClampNeg))) (by rw [eT]; exact Ar269.1) (State.isArrayOf_alike hZ.alike Ar269.2.1) Ar269.2.2 hin269 (Ht269 _ (by have hq := Nat.lt_of_not_le (fun y => hin269 (Or.inr y)); rw [Sz269] at hq; exact hq)) (g := (mkF m 269 #[.val (.ref o0), .val (.int i1), .val (.int i2), .val (.int i3), .val (.int i4)] [(.int (i1 + (2 : Int32))), (.ref o0), (.int (((i3 &&& (7 : Int32)) <<< ((18 : Int32) &&& 31)) ||| (((g0 ((i1 + (1 : Int32))).toNatClampNeg) &&& (63 : Int32)) <<< ((12 : Int32) &&& 31))))])) rfl rfl (hb hby d2_269)) ?_
  show own_Fin p e below s Q 0 0 (T.setTop (mkF m 270 #[.val (.ref o0), .val (.int i1), .val (.int i2), .val (.int i3), .val (.int i4)] [(.int (g0 ((i1 + (2 : Int32))).toNatClampNeg)), (.int (((i3 &&& (7 : Int32)) <<< ((18 : Int32) &&& 31)) ||| (((g0 ((i1 + (1 : Int32))).toNatClampNeg) &&& (63 : Int32)) <<< ((12 : Int32) &&& 31))))]))
  refine own_step (fun t k => XS.bipush X.here hx rfl (hb hby d2_270) k) ?_
  show own_Fin p e below s Q 0 0 (T.setTop (mkF m 272 #[.val (.ref o0), .val (.int i1), .val (.int i2), .val (.int i3), .val (.int i4)] [(.int (63 : Int32)), (.int (g0 ((i1 + (2 : Int32))).toNatClampNeg)), (.int (((i3 &&& (7 : Int32)) <<< ((18 : Int32) &&& 31)) ||| (((g0 ((i1 + (1 : Int32))).toNatClampNeg) &&& (63 : Int32)) <<< ((12 : Int32) &&& 31))))]))
  refine own_step (fun t k => XS.iand X.here hx rfl (hb hby d2_272) rfl k) ?_
  show own_Fin p e below s Q 0 0 (T.setTop (mkF m 273 #[.val (.ref o0), .val (.int i1), .val (.int i2), .val (.int i3), .val (.int i4)] [(.int ((g0 ((i1 + (2 : Int32))).toNatClampNeg) &&& (63 : Int32))), (.int (((i3 &&& (7 : Int32)) <<< ((18 : Int32) &&& 31)) ||| (((g0 ((i1 + (1 : Int32))).toNatClampNeg) &&& (63 : Int32)) <<< ((12 : Int32) &&& 31))))]))
  refine own_step (fun t k => XS.bipush X.here hx rfl (hb hby d2_273) k) ?_
  show own_Fin p e below s Q 0 0 (T.setTop (mkF m 275 #[.val (.ref o0), .val (.int i1), .val (.int i2), .val (.int i3), .val (.int i4)] [(.int (6 : Int32)), (.int ((g0 ((i1 + (2 : Int32))).toNatClampNeg) &&& (63 : Int32))), (.int (((i3 &&& (7 : Int32)) <<< ((18 : Int32) &&& 31)) ||| (((g0 ((i1 + (1 : Int32))).toNatClampNeg) &&& (63 : Int32)) <<< ((12 : Int32) &&& 31))))]))
  refine own_step (fun t k => XS.ishl X.here hx rfl (hb hby d2_275) rfl k) ?_
  show own_Fin p e below s Q 0 0 (T.setTop (mkF m 276 #[.val (.ref o0), .val (.int i1), .val (.int i2), .val (.int i3), .val (.int i4)] [(.int (((g0 ((i1 + (2 : Int32))).toNatClampNeg) &&& (63 : Int32)) <<< ((6 : Int32) &&& 31))), (.int (((i3 &&& (7 : Int32)) <<< ((18 : Int32) &&& 31)) ||| (((g0 ((i1 + (1 : Int32))).toNatClampNeg) &&& (63 : Int32)) <<< ((12 : Int32) &&& 31))))]))
  refine own_step (fun t k => XS.ior X.here hx rfl (hb hby d2_276) rfl k) ?_
  show own_Fin p e below s Q 0 0 (T.setTop (mkF m 277 #[.val (.ref o0), .val (.int i1), .val (.int i2), .val (.int i3), .val (.int i4)] [(.int ((((i3 &&& (7 : Int32)) <<< ((18 : Int32) &&& 31)) ||| (((g0 ((i1 + (1 : Int32))).toNatClampNeg) &&& (63 : Int32)) <<< ((12 : Int32) &&& 31))) ||| (((g0 ((i1 + (2 : Int32))).toNatClampNeg) &&& (63 : Int32)) <<< ((6 : Int32) &&& 31))))]))
  refine own_step (fun t k => XS.aloadN X.here hx rfl (hb hby d2_277) rfl rfl k) ?_
  show own_Fin p e below s Q 0 0 (T.setTop (mkF m 278 #[.val (.ref o0), .val (.int i1), .val (.int i2), .val (.int i3), .val (.int i4)] [(.ref o0), (.int ((((i3 &&& (7 : Int32)) <<< ((18 : Int32) &&& 31)) ||| (((g0 ((i1 + (1 : Int32))).toNatClampNeg) &&& (63 : Int32)) <<< ((12 : Int32) &&& 31))) ||| (((g0 ((i1 + (2 : Int32))).toNatClampNeg) &&& (63 : Int32)) <<< ((6 : Int32) &&& 31))))]))
  refine own_step (fun t k => XS.iloadN X.here hx rfl (hb hby d2_278) rfl  k) ?_
  show own_Fin p e below s Q 0 0 (T.setTop (mkF m 279 #[.val (.ref o0), .val (.int i1), .val (.int i2), .val (.int i3), .val (.int i4)] [(.int i1), (.ref o0), (.int ((((i3 &&& (7 : Int32)) <<< ((18 : Int32) &&& 31)) ||| (((g0 ((i1 + (1 : Int32))).toNatClampNeg) &&& (63 : Int32)) <<< ((12 : Int32) &&& 31))) ||| (((g0 ((i1 + (2 : Int32))).toNatClampNeg) &&& (63 : Int32)) <<< ((6 : Int32) &&& 31))))]))
  refine own_step (fun t k => XS.iconst X.here hx rfl (hb hby d2_279) k) ?_
  show own_Fin p e below s Q 0 0 (T.setTop (mkF m 280 #[.val (.ref o0), .val (.int i1), .val (.int i2), .val (.int i3), .val (.int i4)] [(.int (3 : Int32)), (.int i1), (.ref o0), (.int ((((i3 &&& (7 : Int32)) <<< ((18 : Int32) &&& 31)) ||| (((g0 ((i1 + (1 : Int32))).toNatClampNeg) &&& (63 : Int32)) <<< ((12 : Int32) &&& 31))) ||| (((g0 ((i1 + (2 : Int32))).toNatClampNeg) &&& (63 : Int32)) <<< ((6 : Int32) &&& 31))))]))
  refine own_step (fun t k => XS.iadd X.here hx rfl (hb hby d2_280) rfl k) ?_
  show own_Fin p e below s Q 0 0 (T.setTop (mkF m 281 #[.val (.ref o0), .val (.int i1), .val (.int i2), .val (.int i3), .val (.int i4)] [(.int (i1 + (3 : Int32))), (.ref o0), (.int ((((i3 &&& (7 : Int32)) <<< ((18 : Int32) &&& 31)) ||| (((g0 ((i1 + (1 : Int32))).toNatClampNeg) &&& (63 : Int32)) <<< ((12 : Int32) &&& 31))) ||| (((g0 ((i1 + (2 : Int32))).toNatClampNeg) &&& (63 : Int32)) <<< ((6 : Int32) &&& 31))))]))
  obtain ⟨ca281, Ar281, Sz281, Ht281⟩ := id A0
  have hin281 : ¬ ((i1 + (3 : Int32)) < 0 ∨ ca281.slots.size ≤ ((i1 + (3 : Int32))).toNatClampNeg) := by rw [Sz281]; exact hb3
  refine own_step (X.baloadBytes hx (j := (i1 + (3 : Int32))) (v := (.int (g0 ((i1 + (3 : Int32))).toNatClampNeg))) (by rw [eT]; exact Ar281.1) (State.isArrayOf_alike hZ.alike Ar281.2.1) Ar281.2.2 hin281 (Ht281 _ (by have hq := Nat.lt_of_not_le (fun y => hin281 (Or.inr y)); rw [Sz281] at hq; exact hq)) (g := (mkF m 281 #[.val (.ref o0), .val (.int i1), .val (.int i2), .val (.int i3), .val (.int i4)] [(.int (i1 + (3 : Int32))), (.ref o0), (.int ((((i3 &&& (7 : Int32)) <<< ((18 : Int32) &&& 31)) ||| (((g0 ((i1 + (1 : Int32))).toNatClampNeg) &&& (63 : Int32)) <<< ((12 : Int32) &&& 31))) ||| (((g0 ((i1 + (2 : Int32))).toNatClampNeg) &&& (63 : Int32)) <<< ((6 : Int32) &&& 31))))])) rfl rfl (hb hby d2_281)) ?_
  show own_Fin p e below s Q 0 0 (T.setTop (mkF m 282 #[.val (.ref o0), .val (.int i1), .val (.int i2), .val (.int i3), .val (.int i4)] [(.int (g0 ((i1 + (3 : Int32))).toNatClampNeg)), (.int ((((i3 &&& (7 : Int32)) <<< ((18 : Int32) &&& 31)) ||| (((g0 ((i1 + (1 : Int32))).toNatClampNeg) &&& (63 : Int32)) <<< ((12 : Int32) &&& 31))) ||| (((g0 ((i1 + (2 : Int32))).toNatClampNeg) &&& (63 : Int32)) <<< ((6 : Int32) &&& 31))))]))
  refine own_step (fun t k => XS.bipush X.here hx rfl (hb hby d2_282) k) ?_
  show own_Fin p e below s Q 0 0 (T.setTop (mkF m 284 #[.val (.ref o0), .val (.int i1), .val (.int i2), .val (.int i3), .val (.int i4)] [(.int (63 : Int32)), (.int (g0 ((i1 + (3 : Int32))).toNatClampNeg)), (.int ((((i3 &&& (7 : Int32)) <<< ((18 : Int32) &&& 31)) ||| (((g0 ((i1 + (1 : Int32))).toNatClampNeg) &&& (63 : Int32)) <<< ((12 : Int32) &&& 31))) ||| (((g0 ((i1 + (2 : Int32))).toNatClampNeg) &&& (63 : Int32)) <<< ((6 : Int32) &&& 31))))]))
  refine own_step (fun t k => XS.iand X.here hx rfl (hb hby d2_284) rfl k) ?_
  show own_Fin p e below s Q 0 0 (T.setTop (mkF m 285 #[.val (.ref o0), .val (.int i1), .val (.int i2), .val (.int i3), .val (.int i4)] [(.int ((g0 ((i1 + (3 : Int32))).toNatClampNeg) &&& (63 : Int32))), (.int ((((i3 &&& (7 : Int32)) <<< ((18 : Int32) &&& 31)) ||| (((g0 ((i1 + (1 : Int32))).toNatClampNeg) &&& (63 : Int32)) <<< ((12 : Int32) &&& 31))) ||| (((g0 ((i1 + (2 : Int32))).toNatClampNeg) &&& (63 : Int32)) <<< ((6 : Int32) &&& 31))))]))
  refine own_step (fun t k => XS.ior X.here hx rfl (hb hby d2_285) rfl k) ?_
  show own_Fin p e below s Q 0 0 (T.setTop (mkF m 286 #[.val (.ref o0), .val (.int i1), .val (.int i2), .val (.int i3), .val (.int i4)] [(.int (((((i3 &&& (7 : Int32)) <<< ((18 : Int32) &&& 31)) ||| (((g0 ((i1 + (1 : Int32))).toNatClampNeg) &&& (63 : Int32)) <<< ((12 : Int32) &&& 31))) ||| (((g0 ((i1 + (2 : Int32))).toNatClampNeg) &&& (63 : Int32)) <<< ((6 : Int32) &&& 31))) ||| ((g0 ((i1 + (3 : Int32))).toNatClampNeg) &&& (63 : Int32))))]))
  refine own_step (fun t k => XS.istore X.here hx rfl (hb hby d2_286) rfl (l' := #[.val (.ref o0), .val (.int i1), .val (.int i2), .val (.int i3), .val (.int (((((i3 &&& (7 : Int32)) <<< ((18 : Int32) &&& 31)) ||| (((g0 ((i1 + (1 : Int32))).toNatClampNeg) &&& (63 : Int32)) <<< ((12 : Int32) &&& 31))) ||| (((g0 ((i1 + (2 : Int32))).toNatClampNeg) &&& (63 : Int32)) <<< ((6 : Int32) &&& 31))) ||| ((g0 ((i1 + (3 : Int32))).toNatClampNeg) &&& (63 : Int32))))]) rfl k) ?_
  show own_Fin p e below s Q 0 0 (T.setTop (mkF m 288 #[.val (.ref o0), .val (.int i1), .val (.int i2), .val (.int i3), .val (.int (((((i3 &&& (7 : Int32)) <<< ((18 : Int32) &&& 31)) ||| (((g0 ((i1 + (1 : Int32))).toNatClampNeg) &&& (63 : Int32)) <<< ((12 : Int32) &&& 31))) ||| (((g0 ((i1 + (2 : Int32))).toNatClampNeg) &&& (63 : Int32)) <<< ((6 : Int32) &&& 31))) ||| ((g0 ((i1 + (3 : Int32))).toNatClampNeg) &&& (63 : Int32))))] []))
  refine own_step (fun t k => XS.iload X.here hx rfl (hb hby d2_288) rfl  k) ?_
  show own_Fin p e below s Q 0 0 (T.setTop (mkF m 290 #[.val (.ref o0), .val (.int i1), .val (.int i2), .val (.int i3), .val (.int (((((i3 &&& (7 : Int32)) <<< ((18 : Int32) &&& 31)) ||| (((g0 ((i1 + (1 : Int32))).toNatClampNeg) &&& (63 : Int32)) <<< ((12 : Int32) &&& 31))) ||| (((g0 ((i1 + (2 : Int32))).toNatClampNeg) &&& (63 : Int32)) <<< ((6 : Int32) &&& 31))) ||| ((g0 ((i1 + (3 : Int32))).toNatClampNeg) &&& (63 : Int32))))] [(.int (((((i3 &&& (7 : Int32)) <<< ((18 : Int32) &&& 31)) ||| (((g0 ((i1 + (1 : Int32))).toNatClampNeg) &&& (63 : Int32)) <<< ((12 : Int32) &&& 31))) ||| (((g0 ((i1 + (2 : Int32))).toNatClampNeg) &&& (63 : Int32)) <<< ((6 : Int32) &&& 31))) ||| ((g0 ((i1 + (3 : Int32))).toNatClampNeg) &&& (63 : Int32))))]))
  refine own_step (X.ldcInt hx hown (mvT hZ (hw _ (List.mem_of_getElem? (i := 19) rfl))) (g := (mkF m 290 #[.val (.ref o0), .val (.int i1), .val (.int i2), .val (.int i3), .val (.int (((((i3 &&& (7 : Int32)) <<< ((18 : Int32) &&& 31)) ||| (((g0 ((i1 + (1 : Int32))).toNatClampNeg) &&& (63 : Int32)) <<< ((12 : Int32) &&& 31))) ||| (((g0 ((i1 + (2 : Int32))).toNatClampNeg) &&& (63 : Int32)) <<< ((6 : Int32) &&& 31))) ||| ((g0 ((i1 + (3 : Int32))).toNatClampNeg) &&& (63 : Int32))))] [(.int (((((i3 &&& (7 : Int32)) <<< ((18 : Int32) &&& 31)) ||| (((g0 ((i1 + (1 : Int32))).toNatClampNeg) &&& (63 : Int32)) <<< ((12 : Int32) &&& 31))) ||| (((g0 ((i1 + (2 : Int32))).toNatClampNeg) &&& (63 : Int32)) <<< ((6 : Int32) &&& 31))) ||| ((g0 ((i1 + (3 : Int32))).toNatClampNeg) &&& (63 : Int32))))])) rfl (hb hby d2_290)) ?_
  show own_Fin p e below s Q 0 0 (T.setTop (mkF m 292 #[.val (.ref o0), .val (.int i1), .val (.int i2), .val (.int i3), .val (.int (((((i3 &&& (7 : Int32)) <<< ((18 : Int32) &&& 31)) ||| (((g0 ((i1 + (1 : Int32))).toNatClampNeg) &&& (63 : Int32)) <<< ((12 : Int32) &&& 31))) ||| (((g0 ((i1 + (2 : Int32))).toNatClampNeg) &&& (63 : Int32)) <<< ((6 : Int32) &&& 31))) ||| ((g0 ((i1 + (3 : Int32))).toNatClampNeg) &&& (63 : Int32))))] [(.int (65536 : Int32)), (.int (((((i3 &&& (7 : Int32)) <<< ((18 : Int32) &&& 31)) ||| (((g0 ((i1 + (1 : Int32))).toNatClampNeg) &&& (63 : Int32)) <<< ((12 : Int32) &&& 31))) ||| (((g0 ((i1 + (2 : Int32))).toNatClampNeg) &&& (63 : Int32)) <<< ((6 : Int32) &&& 31))) ||| ((g0 ((i1 + (3 : Int32))).toNatClampNeg) &&& (63 : Int32))))]))
  by_cases hB292_17 : (((((i3 &&& (7 : Int32)) <<< ((18 : Int32) &&& 31)) ||| (((g0 ((i1 + (1 : Int32))).toNatClampNeg) &&& (63 : Int32)) <<< ((12 : Int32) &&& 31))) ||| (((g0 ((i1 + (2 : Int32))).toNatClampNeg) &&& (63 : Int32)) <<< ((6 : Int32) &&& 31))) ||| ((g0 ((i1 + (3 : Int32))).toNatClampNeg) &&& (63 : Int32))) < (65536 : Int32)
  · refine own_step (fun t k => XS.icmpYes X.here hx rfl (pc0 := 292) (pc' := 302) rfl (hb hby d2_292) rfl (tlt hB292_17).1 (by decide) (by decide) k) ?_
    exact b2_302 o0 g0 z0 i1 i2 i3 (((((i3 &&& (7 : Int32)) <<< ((18 : Int32) &&& 31)) ||| (((g0 ((i1 + (1 : Int32))).toNatClampNeg) &&& (63 : Int32)) <<< ((12 : Int32) &&& 31))) ||| (((g0 ((i1 + (2 : Int32))).toNatClampNeg) &&& (63 : Int32)) <<< ((6 : Int32) &&& 31))) ||| ((g0 ((i1 + (3 : Int32))).toNatClampNeg) &&& (63 : Int32))) hw X hx hZ hby hml hown hret hlk eT N (Nat.le_trans (Nat.add_le_add_right hc 0) (by decide)) (Nat.le_trans (Nat.add_le_add_right hs 0) (by decide)) A0 hb0 hb1 hb2 hb3 v (hv.trans (if_pos hB292_17)) hQ
  · refine own_step (fun t k => XS.icmpNo X.here hx rfl (hb hby d2_292) rfl (flt hB292_17).1 k) ?_
    exact b2_295 o0 g0 z0 i1 i2 i3 (((((i3 &&& (7 : Int32)) <<< ((18 : Int32) &&& 31)) ||| (((g0 ((i1 + (1 : Int32))).toNatClampNeg) &&& (63 : Int32)) <<< ((12 : Int32) &&& 31))) ||| (((g0 ((i1 + (2 : Int32))).toNatClampNeg) &&& (63 : Int32)) <<< ((6 : Int32) &&& 31))) ||| ((g0 ((i1 + (3 : Int32))).toNatClampNeg) &&& (63 : Int32))) hw X hx hZ hby hml hown hret hlk eT N (Nat.le_trans (Nat.add_le_add_right hc 0) (by decide)) (Nat.le_trans (Nat.add_le_add_right hs 0) (by decide)) A0 hb0 hb1 hb2 hb3 v (hv.trans (if_neg hB292_17)) hQ
def f2_231 (g0 : Nat → Int32) (i1 : Int32) (i2 : Int32) (i3 : Int32) (i4 : Int32) : Int32 := if ((g0 ((i1 + (3 : Int32))).toNatClampNeg) &&& (192 : Int32)) = (128 : Int32) then f2_246 g0 i1 i2 i3 i4 else f2_305 g0 i1 i2 i3 i4
set_option maxRecDepth 65536 in
set_option maxHeartbeats 40000000 in
theorem b2_231 {p : Program} {l : Launch} {e : Env} {s : State} {m : MethodId} {args : Array Value} {below : List Frame} {meth : Method} {c : Code} {T : State} {locs : List Loc} {cells slots : Nat} {Z : State} {a0 : Array Value} {h : Heap} {n0 : Nat} {Q : Option Value → Heap → List Loc → Prop} (o0 : Addr) (g0 : Nat → Int32) (z0 : Nat) (i1 : Int32) (i2 : Int32) (i3 : Int32) (i4 : Int32) (hw : ∀ d ∈ tables_1, d.before a0 Z = true) (X : Stand p l e ({ frames := 0, cells := 0, slots := 0, locals := 0 } : Room) s m args below meth c T locs cells slots) (hx : p.tables.exec = Jvm.exec) (hZ : Z.Warmed39 s.vm) (hby : c.code = prog_131_method_7_code) (hml : c.maxLocals = 5) (hown : s.vm.findClass "com/example/zoria/zoria/xml/XmlInput" = some m.cls) (hret : meth.sig.returnType = some .int) (hlk : meth.locks = false) (eT : T.heap = h) (N : Fr n0 locs) (hc : cells ≤ 0) (hs : slots ≤ 0) (A0 : own_AF Z h o0 .byte z0 g0) (hb0 : own_In z0 i1) (hb1 : own_In z0 (i1 + (1 : Int32))) (hb2 : own_In z0 (i1 + (2 : Int32))) (hb3 : own_In z0 (i1 + (3 : Int32))) (v : Int32) (hv : v = f2_231 g0 i1 i2 i3 i4) (hQ : ∀ L', Fr n0 L' → Q (some (.int v)) h L') :
    own_Fin p e below s Q 0 0 (T.setTop (mkF m 231 #[.val (.ref o0), .val (.int i1), .val (.int i2), .val (.int i3), .val (.int i4)] [])) := by
  refine own_step (fun t k => XS.aloadN X.here hx rfl (hb hby d2_231) rfl rfl k) ?_
  show own_Fin p e below s Q 0 0 (T.setTop (mkF m 232 #[.val (.ref o0), .val (.int i1), .val (.int i2), .val (.int i3), .val (.int i4)] [(.ref o0)]))
  refine own_step (fun t k => XS.iloadN X.here hx rfl (hb hby d2_232) rfl  k) ?_
  show own_Fin p e below s Q 0 0 (T.setTop (mkF m 233 #[.val (.ref o0), .val (.int i1), .val (.int i2), .val (.int i3), .val (.int i4)] [(.int i1), (.ref o0)]))
  refine own_step (fun t k => XS.iconst X.here hx rfl (hb hby d2_233) k) ?_
  show own_Fin p e below s Q 0 0 (T.setTop (mkF m 234 #[.val (.ref o0), .val (.int i1), .val (.int i2), .val (.int i3), .val (.int i4)] [(.int (3 : Int32)), (.int i1), (.ref o0)]))
  refine own_step (fun t k => XS.iadd X.here hx rfl (hb hby d2_234) rfl k) ?_
  show own_Fin p e below s Q 0 0 (T.setTop (mkF m 235 #[.val (.ref o0), .val (.int i1), .val (.int i2), .val (.int i3), .val (.int i4)] [(.int (i1 + (3 : Int32))), (.ref o0)]))
  obtain ⟨ca235, Ar235, Sz235, Ht235⟩ := id A0
  have hin235 : ¬ ((i1 + (3 : Int32)) < 0 ∨ ca235.slots.size ≤ ((i1 + (3 : Int32))).toNatClampNeg) := by rw [Sz235]; exact hb3
  refine own_step (X.baloadBytes hx (j := (i1 + (3 : Int32))) (v := (.int (g0 ((i1 + (3 : Int32))).toNatClampNeg))) (by rw [eT]; exact Ar235.1) (State.isArrayOf_alike hZ.alike Ar235.2.1) Ar235.2.2 hin235 (Ht235 _ (by have hq := Nat.lt_of_not_le (fun y => hin235 (Or.inr y)); rw [Sz235] at hq; exact hq)) (g := (mkF m 235 #[.val (.ref o0), .val (.int i1), .val (.int i2), .val (.int i3), .val (.int i4)] [(.int (i1 + (3 : Int32))), (.ref o0)])) rfl rfl (hb hby d2_235)) ?_
  show own_Fin p e below s Q 0 0 (T.setTop (mkF m 236 #[.val (.ref o0), .val (.int i1), .val (.int i2), .val (.int i3), .val (.int i4)] [(.int (g0 ((i1 + (3 : Int32))).toNatClampNeg))]))
  refine own_step (fun t k => XS.sipush X.here hx rfl (hb hby d2_236) k) ?_
  show own_Fin p e below s Q 0 0 (T.setTop (mkF m 239 #[.val (.ref o0), .val (.int i1), .val (.int i2), .val (.int i3), .val (.int i4)] [(.int (192 : Int32)), (.int (g0 ((i1 + (3 : Int32))).toNatClampNeg))]))
  refine own_step (fun t k => XS.iand X.here hx rfl (hb hby d2_239) rfl k) ?_
  show own_Fin p e below s Q 0 0 (T.setTop (mkF m 240 #[.val (.ref o0), .val (.int i1), .val (.int i2), .val (.int i3), .val (.int i4)] [(.int ((g0 ((i1 + (3 : Int32))).toNatClampNeg) &&& (192 : Int32)))]))
  refine own_step (fun t k => XS.sipush X.here hx rfl (hb hby d2_240) k) ?_
  show own_Fin p e below s Q 0 0 (T.setTop (mkF m 243 #[.val (.ref o0), .val (.int i1), .val (.int i2), .val (.int i3), .val (.int i4)] [(.int (128 : Int32)), (.int ((g0 ((i1 + (3 : Int32))).toNatClampNeg) &&& (192 : Int32)))]))
  by_cases hB243_15 : ((g0 ((i1 + (3 : Int32))).toNatClampNeg) &&& (192 : Int32)) = (128 : Int32)
  · refine own_step (fun t k => XS.icmpNo X.here hx rfl (hb hby d2_243) rfl (teq hB243_15).2 k) ?_
    exact b2_246 o0 g0 z0 i1 i2 i3 i4 hw X hx hZ hby hml hown hret hlk eT N (Nat.le_trans (Nat.add_le_add_right hc 0) (by decide)) (Nat.le_trans (Nat.add_le_add_right hs 0) (by decide)) A0 hb0 hb1 hb2 hb3 v (hv.trans (if_pos hB243_15)) hQ
  · refine own_step (fun t k => XS.icmpYes X.here hx rfl (pc0 := 243) (pc' := 305) rfl (hb hby d2_243) rfl (feq hB243_15).2 (by decide) (by decide) k) ?_
    exact b2_305 o0 g0 z0 i1 i2 i3 i4 hw X hx hZ hby hml hown hret hlk eT N (Nat.le_trans (Nat.add_le_add_right hc 0) (by decide)) (Nat.le_trans (Nat.add_le_add_right hs 0) (by decide)) A0 hb0 hb1 hb2 hb3 v (hv.trans (if_neg hB243_15)) hQ
def f2_216 (g0 : Nat → Int32) (i1 : Int32) (i2 : Int32) (i3 : Int32) (i4 : Int32) : Int32 := if ((g0 ((i1 + (2 : Int32))).toNatClampNeg) &&& (192 : Int32)) = (128 : Int32) then f2_231 g0 i1 i2 i3 i4 else f2_305 g0 i1 i2 i3 i4
set_option maxRecDepth 65536 in
set_option maxHeartbeats 40000000 in
theorem b2_216 {p : Program} {l : Launch} {e : Env} {s : State} {m : MethodId} {args : Array Value} {below : List Frame} {meth : Method} {c : Code} {T : State} {locs : List Loc} {cells slots : Nat} {Z : State} {a0 : Array Value} {h : Heap} {n0 : Nat} {Q : Option Value → Heap → List Loc → Prop} (o0 : Addr) (g0 : Nat → Int32) (z0 : Nat) (i1 : Int32) (i2 : Int32) (i3 : Int32) (i4 : Int32) (hw : ∀ d ∈ tables_1, d.before a0 Z = true) (X : Stand p l e ({ frames := 0, cells := 0, slots := 0, locals := 0 } : Room) s m args below meth c T locs cells slots) (hx : p.tables.exec = Jvm.exec) (hZ : Z.Warmed39 s.vm) (hby : c.code = prog_131_method_7_code) (hml : c.maxLocals = 5) (hown : s.vm.findClass "com/example/zoria/zoria/xml/XmlInput" = some m.cls) (hret : meth.sig.returnType = some .int) (hlk : meth.locks = false) (eT : T.heap = h) (N : Fr n0 locs) (hc : cells ≤ 0) (hs : slots ≤ 0) (A0 : own_AF Z h o0 .byte z0 g0) (hb0 : own_In z0 i1) (hb1 : own_In z0 (i1 + (1 : Int32))) (hb2 : own_In z0 (i1 + (2 : Int32))) (hb3 : own_In z0 (i1 + (3 : Int32))) (v : Int32) (hv : v = f2_216 g0 i1 i2 i3 i4) (hQ : ∀ L', Fr n0 L' → Q (some (.int v)) h L') :
    own_Fin p e below s Q 0 0 (T.setTop (mkF m 216 #[.val (.ref o0), .val (.int i1), .val (.int i2), .val (.int i3), .val (.int i4)] [])) := by
  refine own_step (fun t k => XS.aloadN X.here hx rfl (hb hby d2_216) rfl rfl k) ?_
  show own_Fin p e below s Q 0 0 (T.setTop (mkF m 217 #[.val (.ref o0), .val (.int i1), .val (.int i2), .val (.int i3), .val (.int i4)] [(.ref o0)]))
  refine own_step (fun t k => XS.iloadN X.here hx rfl (hb hby d2_217) rfl  k) ?_
  show own_Fin p e below s Q 0 0 (T.setTop (mkF m 218 #[.val (.ref o0), .val (.int i1), .val (.int i2), .val (.int i3), .val (.int i4)] [(.int i1), (.ref o0)]))
  refine own_step (fun t k => XS.iconst X.here hx rfl (hb hby d2_218) k) ?_
  show own_Fin p e below s Q 0 0 (T.setTop (mkF m 219 #[.val (.ref o0), .val (.int i1), .val (.int i2), .val (.int i3), .val (.int i4)] [(.int (2 : Int32)), (.int i1), (.ref o0)]))
  refine own_step (fun t k => XS.iadd X.here hx rfl (hb hby d2_219) rfl k) ?_
  show own_Fin p e below s Q 0 0 (T.setTop (mkF m 220 #[.val (.ref o0), .val (.int i1), .val (.int i2), .val (.int i3), .val (.int i4)] [(.int (i1 + (2 : Int32))), (.ref o0)]))
  obtain ⟨ca220, Ar220, Sz220, Ht220⟩ := id A0
  have hin220 : ¬ ((i1 + (2 : Int32)) < 0 ∨ ca220.slots.size ≤ ((i1 + (2 : Int32))).toNatClampNeg) := by rw [Sz220]; exact hb2
  refine own_step (X.baloadBytes hx (j := (i1 + (2 : Int32))) (v := (.int (g0 ((i1 + (2 : Int32))).toNatClampNeg))) (by rw [eT]; exact Ar220.1) (State.isArrayOf_alike hZ.alike Ar220.2.1) Ar220.2.2 hin220 (Ht220 _ (by have hq := Nat.lt_of_not_le (fun y => hin220 (Or.inr y)); rw [Sz220] at hq; exact hq)) (g := (mkF m 220 #[.val (.ref o0), .val (.int i1), .val (.int i2), .val (.int i3), .val (.int i4)] [(.int (i1 + (2 : Int32))), (.ref o0)])) rfl rfl (hb hby d2_220)) ?_
  show own_Fin p e below s Q 0 0 (T.setTop (mkF m 221 #[.val (.ref o0), .val (.int i1), .val (.int i2), .val (.int i3), .val (.int i4)] [(.int (g0 ((i1 + (2 : Int32))).toNatClampNeg))]))
  refine own_step (fun t k => XS.sipush X.here hx rfl (hb hby d2_221) k) ?_
  show own_Fin p e below s Q 0 0 (T.setTop (mkF m 224 #[.val (.ref o0), .val (.int i1), .val (.int i2), .val (.int i3), .val (.int i4)] [(.int (192 : Int32)), (.int (g0 ((i1 + (2 : Int32))).toNatClampNeg))]))
  refine own_step (fun t k => XS.iand X.here hx rfl (hb hby d2_224) rfl k) ?_
  show own_Fin p e below s Q 0 0 (T.setTop (mkF m 225 #[.val (.ref o0), .val (.int i1), .val (.int i2), .val (.int i3), .val (.int i4)] [(.int ((g0 ((i1 + (2 : Int32))).toNatClampNeg) &&& (192 : Int32)))]))
  refine own_step (fun t k => XS.sipush X.here hx rfl (hb hby d2_225) k) ?_
  show own_Fin p e below s Q 0 0 (T.setTop (mkF m 228 #[.val (.ref o0), .val (.int i1), .val (.int i2), .val (.int i3), .val (.int i4)] [(.int (128 : Int32)), (.int ((g0 ((i1 + (2 : Int32))).toNatClampNeg) &&& (192 : Int32)))]))
  by_cases hB228_13 : ((g0 ((i1 + (2 : Int32))).toNatClampNeg) &&& (192 : Int32)) = (128 : Int32)
  · refine own_step (fun t k => XS.icmpNo X.here hx rfl (hb hby d2_228) rfl (teq hB228_13).2 k) ?_
    exact b2_231 o0 g0 z0 i1 i2 i3 i4 hw X hx hZ hby hml hown hret hlk eT N (Nat.le_trans (Nat.add_le_add_right hc 0) (by decide)) (Nat.le_trans (Nat.add_le_add_right hs 0) (by decide)) A0 hb0 hb1 hb2 hb3 v (hv.trans (if_pos hB228_13)) hQ
  · refine own_step (fun t k => XS.icmpYes X.here hx rfl (pc0 := 228) (pc' := 305) rfl (hb hby d2_228) rfl (feq hB228_13).2 (by decide) (by decide) k) ?_
    exact b2_305 o0 g0 z0 i1 i2 i3 i4 hw X hx hZ hby hml hown hret hlk eT N (Nat.le_trans (Nat.add_le_add_right hc 0) (by decide)) (Nat.le_trans (Nat.add_le_add_right hs 0) (by decide)) A0 hb0 hb1 hb2 hb3 v (hv.trans (if_neg hB228_13)) hQ
def f2_201 (g0 : Nat → Int32) (i1 : Int32) (i2 : Int32) (i3 : Int32) (i4 : Int32) : Int32 := if ((g0 ((i1 + (1 : Int32))).toNatClampNeg) &&& (192 : Int32)) = (128 : Int32) then f2_216 g0 i1 i2 i3 i4 else f2_305 g0 i1 i2 i3 i4
set_option maxRecDepth 65536 in
set_option maxHeartbeats 40000000 in
theorem b2_201 {p : Program} {l : Launch} {e : Env} {s : State} {m : MethodId} {args : Array Value} {below : List Frame} {meth : Method} {c : Code} {T : State} {locs : List Loc} {cells slots : Nat} {Z : State} {a0 : Array Value} {h : Heap} {n0 : Nat} {Q : Option Value → Heap → List Loc → Prop} (o0 : Addr) (g0 : Nat → Int32) (z0 : Nat) (i1 : Int32) (i2 : Int32) (i3 : Int32) (i4 : Int32) (hw : ∀ d ∈ tables_1, d.before a0 Z = true) (X : Stand p l e ({ frames := 0, cells := 0, slots := 0, locals := 0 } : Room) s m args below meth c T locs cells slots) (hx : p.tables.exec = Jvm.exec) (hZ : Z.Warmed39 s.vm) (hby : c.code = prog_131_method_7_code) (hml : c.maxLocals = 5) (hown : s.vm.findClass "com/example/zoria/zoria/xml/XmlInput" = some m.cls) (hret : meth.sig.returnType = some .int) (hlk : meth.locks = false) (eT : T.heap = h) (N : Fr n0 locs) (hc : cells ≤ 0) (hs : slots ≤ 0) (A0 : own_AF Z h o0 .byte z0 g0) (hb0 : own_In z0 i1) (hb1 : own_In z0 (i1 + (1 : Int32))) (hb2 : own_In z0 (i1 + (2 : Int32))) (hb3 : own_In z0 (i1 + (3 : Int32))) (v : Int32) (hv : v = f2_201 g0 i1 i2 i3 i4) (hQ : ∀ L', Fr n0 L' → Q (some (.int v)) h L') :
    own_Fin p e below s Q 0 0 (T.setTop (mkF m 201 #[.val (.ref o0), .val (.int i1), .val (.int i2), .val (.int i3), .val (.int i4)] [])) := by
  refine own_step (fun t k => XS.aloadN X.here hx rfl (hb hby d2_201) rfl rfl k) ?_
  show own_Fin p e below s Q 0 0 (T.setTop (mkF m 202 #[.val (.ref o0), .val (.int i1), .val (.int i2), .val (.int i3), .val (.int i4)] [(.ref o0)]))
  refine own_step (fun t k => XS.iloadN X.here hx rfl (hb hby d2_202) rfl  k) ?_
  show own_Fin p e below s Q 0 0 (T.setTop (mkF m 203 #[.val (.ref o0), .val (.int i1), .val (.int i2), .val (.int i3), .val (.int i4)] [(.int i1), (.ref o0)]))
  refine own_step (fun t k => XS.iconst X.here hx rfl (hb hby d2_203) k) ?_
  show own_Fin p e below s Q 0 0 (T.setTop (mkF m 204 #[.val (.ref o0), .val (.int i1), .val (.int i2), .val (.int i3), .val (.int i4)] [(.int (1 : Int32)), (.int i1), (.ref o0)]))
  refine own_step (fun t k => XS.iadd X.here hx rfl (hb hby d2_204) rfl k) ?_
  show own_Fin p e below s Q 0 0 (T.setTop (mkF m 205 #[.val (.ref o0), .val (.int i1), .val (.int i2), .val (.int i3), .val (.int i4)] [(.int (i1 + (1 : Int32))), (.ref o0)]))
  obtain ⟨ca205, Ar205, Sz205, Ht205⟩ := id A0
  have hin205 : ¬ ((i1 + (1 : Int32)) < 0 ∨ ca205.slots.size ≤ ((i1 + (1 : Int32))).toNatClampNeg) := by rw [Sz205]; exact hb1
  refine own_step (X.baloadBytes hx (j := (i1 + (1 : Int32))) (v := (.int (g0 ((i1 + (1 : Int32))).toNatClampNeg))) (by rw [eT]; exact Ar205.1) (State.isArrayOf_alike hZ.alike Ar205.2.1) Ar205.2.2 hin205 (Ht205 _ (by have hq := Nat.lt_of_not_le (fun y => hin205 (Or.inr y)); rw [Sz205] at hq; exact hq)) (g := (mkF m 205 #[.val (.ref o0), .val (.int i1), .val (.int i2), .val (.int i3), .val (.int i4)] [(.int (i1 + (1 : Int32))), (.ref o0)])) rfl rfl (hb hby d2_205)) ?_
  show own_Fin p e below s Q 0 0 (T.setTop (mkF m 206 #[.val (.ref o0), .val (.int i1), .val (.int i2), .val (.int i3), .val (.int i4)] [(.int (g0 ((i1 + (1 : Int32))).toNatClampNeg))]))
  refine own_step (fun t k => XS.sipush X.here hx rfl (hb hby d2_206) k) ?_
  show own_Fin p e below s Q 0 0 (T.setTop (mkF m 209 #[.val (.ref o0), .val (.int i1), .val (.int i2), .val (.int i3), .val (.int i4)] [(.int (192 : Int32)), (.int (g0 ((i1 + (1 : Int32))).toNatClampNeg))]))
  refine own_step (fun t k => XS.iand X.here hx rfl (hb hby d2_209) rfl k) ?_
  show own_Fin p e below s Q 0 0 (T.setTop (mkF m 210 #[.val (.ref o0), .val (.int i1), .val (.int i2), .val (.int i3), .val (.int i4)] [(.int ((g0 ((i1 + (1 : Int32))).toNatClampNeg) &&& (192 : Int32)))]))
  refine own_step (fun t k => XS.sipush X.here hx rfl (hb hby d2_210) k) ?_
  show own_Fin p e below s Q 0 0 (T.setTop (mkF m 213 #[.val (.ref o0), .val (.int i1), .val (.int i2), .val (.int i3), .val (.int i4)] [(.int (128 : Int32)), (.int ((g0 ((i1 + (1 : Int32))).toNatClampNeg) &&& (192 : Int32)))]))
  by_cases hB213_11 : ((g0 ((i1 + (1 : Int32))).toNatClampNeg) &&& (192 : Int32)) = (128 : Int32)
  · refine own_step (fun t k => XS.icmpNo X.here hx rfl (hb hby d2_213) rfl (teq hB213_11).2 k) ?_
    exact b2_216 o0 g0 z0 i1 i2 i3 i4 hw X hx hZ hby hml hown hret hlk eT N (Nat.le_trans (Nat.add_le_add_right hc 0) (by decide)) (Nat.le_trans (Nat.add_le_add_right hs 0) (by decide)) A0 hb0 hb1 hb2 hb3 v (hv.trans (if_pos hB213_11)) hQ
  · refine own_step (fun t k => XS.icmpYes X.here hx rfl (pc0 := 213) (pc' := 305) rfl (hb hby d2_213) rfl (feq hB213_11).2 (by decide) (by decide) k) ?_
    exact b2_305 o0 g0 z0 i1 i2 i3 i4 hw X hx hZ hby hml hown hret hlk eT N (Nat.le_trans (Nat.add_le_add_right hc 0) (by decide)) (Nat.le_trans (Nat.add_le_add_right hs 0) (by decide)) A0 hb0 hb1 hb2 hb3 v (hv.trans (if_neg hB213_11)) hQ
def f2_195 (g0 : Nat → Int32) (i1 : Int32) (i2 : Int32) (i3 : Int32) (i4 : Int32) : Int32 := if (-12 : Int32) < i3 then f2_305 g0 i1 i2 i3 i4 else f2_201 g0 i1 i2 i3 i4
set_option maxRecDepth 65536 in
set_option maxHeartbeats 40000000 in
theorem b2_195 {p : Program} {l : Launch} {e : Env} {s : State} {m : MethodId} {args : Array Value} {below : List Frame} {meth : Method} {c : Code} {T : State} {locs : List Loc} {cells slots : Nat} {Z : State} {a0 : Array Value} {h : Heap} {n0 : Nat} {Q : Option Value → Heap → List Loc → Prop} (o0 : Addr) (g0 : Nat → Int32) (z0 : Nat) (i1 : Int32) (i2 : Int32) (i3 : Int32) (i4 : Int32) (hw : ∀ d ∈ tables_1, d.before a0 Z = true) (X : Stand p l e ({ frames := 0, cells := 0, slots := 0, locals := 0 } : Room) s m args below meth c T locs cells slots) (hx : p.tables.exec = Jvm.exec) (hZ : Z.Warmed39 s.vm) (hby : c.code = prog_131_method_7_code) (hml : c.maxLocals = 5) (hown : s.vm.findClass "com/example/zoria/zoria/xml/XmlInput" = some m.cls) (hret : meth.sig.returnType = some .int) (hlk : meth.locks = false) (eT : T.heap = h) (N : Fr n0 locs) (hc : cells ≤ 0) (hs : slots ≤ 0) (A0 : own_AF Z h o0 .byte z0 g0) (hb0 : own_In z0 i1) (hb1 : own_In z0 (i1 + (1 : Int32))) (hb2 : own_In z0 (i1 + (2 : Int32))) (hb3 : own_In z0 (i1 + (3 : Int32))) (v : Int32) (hv : v = f2_195 g0 i1 i2 i3 i4) (hQ : ∀ L', Fr n0 L' → Q (some (.int v)) h L') :
    own_Fin p e below s Q 0 0 (T.setTop (mkF m 195 #[.val (.ref o0), .val (.int i1), .val (.int i2), .val (.int i3), .val (.int i4)] [])) := by
  refine own_step (fun t k => XS.iloadN X.here hx rfl (hb hby d2_195) rfl  k) ?_
  show own_Fin p e below s Q 0 0 (T.setTop (mkF m 196 #[.val (.ref o0), .val (.int i1), .val (.int i2), .val (.int i3), .val (.int i4)] [(.int i3)]))
  refine own_step (fun t k => XS.bipush X.here hx rfl (hb hby d2_196) k) ?_
  show own_Fin p e below s Q 0 0 (T.setTop (mkF m 198 #[.val (.ref o0), .val (.int i1), .val (.int i2), .val (.int i3), .val (.int i4)] [(.int (-12 : Int32)), (.int i3)]))
  by_cases hB198_8 : (-12 : Int32) < i3
  · refine own_step (fun t k => XS.icmpYes X.here hx rfl (pc0 := 198) (pc' := 305) rfl (hb hby d2_198) rfl (tlt hB198_8).2.2.1 (by decide) (by decide) k) ?_
    exact b2_305 o0 g0 z0 i1 i2 i3 i4 hw X hx hZ hby hml hown hret hlk eT N (Nat.le_trans (Nat.add_le_add_right hc 0) (by decide)) (Nat.le_trans (Nat.add_le_add_right hs 0) (by decide)) A0 hb0 hb1 hb2 hb3 v (hv.trans (if_pos hB198_8)) hQ
  · refine own_step (fun t k => XS.icmpNo X.here hx rfl (hb hby d2_198) rfl (flt hB198_8).2.2.1 k) ?_
    exact b2_201 o0 g0 z0 i1 i2 i3 i4 hw X hx hZ hby hml hown hret hlk eT N (Nat.le_trans (Nat.add_le_add_right hc 0) (by decide)) (Nat.le_trans (Nat.add_le_add_right hs 0) (by decide)) A0 hb0 hb1 hb2 hb3 v (hv.trans (if_neg hB198_8)) hQ
def f2_189 (g0 : Nat → Int32) (i1 : Int32) (i2 : Int32) (i3 : Int32) (i4 : Int32) : Int32 := if i3 < (-16 : Int32) then f2_305 g0 i1 i2 i3 i4 else f2_195 g0 i1 i2 i3 i4
set_option maxRecDepth 65536 in
set_option maxHeartbeats 40000000 in
theorem b2_189 {p : Program} {l : Launch} {e : Env} {s : State} {m : MethodId} {args : Array Value} {below : List Frame} {meth : Method} {c : Code} {T : State} {locs : List Loc} {cells slots : Nat} {Z : State} {a0 : Array Value} {h : Heap} {n0 : Nat} {Q : Option Value → Heap → List Loc → Prop} (o0 : Addr) (g0 : Nat → Int32) (z0 : Nat) (i1 : Int32) (i2 : Int32) (i3 : Int32) (i4 : Int32) (hw : ∀ d ∈ tables_1, d.before a0 Z = true) (X : Stand p l e ({ frames := 0, cells := 0, slots := 0, locals := 0 } : Room) s m args below meth c T locs cells slots) (hx : p.tables.exec = Jvm.exec) (hZ : Z.Warmed39 s.vm) (hby : c.code = prog_131_method_7_code) (hml : c.maxLocals = 5) (hown : s.vm.findClass "com/example/zoria/zoria/xml/XmlInput" = some m.cls) (hret : meth.sig.returnType = some .int) (hlk : meth.locks = false) (eT : T.heap = h) (N : Fr n0 locs) (hc : cells ≤ 0) (hs : slots ≤ 0) (A0 : own_AF Z h o0 .byte z0 g0) (hb0 : own_In z0 i1) (hb1 : own_In z0 (i1 + (1 : Int32))) (hb2 : own_In z0 (i1 + (2 : Int32))) (hb3 : own_In z0 (i1 + (3 : Int32))) (v : Int32) (hv : v = f2_189 g0 i1 i2 i3 i4) (hQ : ∀ L', Fr n0 L' → Q (some (.int v)) h L') :
    own_Fin p e below s Q 0 0 (T.setTop (mkF m 189 #[.val (.ref o0), .val (.int i1), .val (.int i2), .val (.int i3), .val (.int i4)] [])) := by
  refine own_step (fun t k => XS.iloadN X.here hx rfl (hb hby d2_189) rfl  k) ?_
  show own_Fin p e below s Q 0 0 (T.setTop (mkF m 190 #[.val (.ref o0), .val (.int i1), .val (.int i2), .val (.int i3), .val (.int i4)] [(.int i3)]))
  refine own_step (fun t k => XS.bipush X.here hx rfl (hb hby d2_190) k) ?_
  show own_Fin p e below s Q 0 0 (T.setTop (mkF m 192 #[.val (.ref o0), .val (.int i1), .val (.int i2), .val (.int i3), .val (.int i4)] [(.int (-16 : Int32)), (.int i3)]))
  by_cases hB192_5 : i3 < (-16 : Int32)
  · refine own_step (fun t k => XS.icmpYes X.here hx rfl (pc0 := 192) (pc' := 305) rfl (hb hby d2_192) rfl (tlt hB192_5).1 (by decide) (by decide) k) ?_
    exact b2_305 o0 g0 z0 i1 i2 i3 i4 hw X hx hZ hby hml hown hret hlk eT N (Nat.le_trans (Nat.add_le_add_right hc 0) (by decide)) (Nat.le_trans (Nat.add_le_add_right hs 0) (by decide)) A0 hb0 hb1 hb2 hb3 v (hv.trans (if_pos hB192_5)) hQ
  · refine own_step (fun t k => XS.icmpNo X.here hx rfl (hb hby d2_192) rfl (flt hB192_5).1 k) ?_
    exact b2_195 o0 g0 z0 i1 i2 i3 i4 hw X hx hZ hby hml hown hret hlk eT N (Nat.le_trans (Nat.add_le_add_right hc 0) (by decide)) (Nat.le_trans (Nat.add_le_add_right hs 0) (by decide)) A0 hb0 hb1 hb2 hb3 v (hv.trans (if_neg hB192_5)) hQ
def f2_183 (g0 : Nat → Int32) (i1 : Int32) (i2 : Int32) (i3 : Int32) (i4 : Int32) : Int32 := f2_305 g0 i1 i2 i3 (-1 : Int32)
set_option maxRecDepth 65536 in
set_option maxHeartbeats 40000000 in
theorem b2_183 {p : Program} {l : Launch} {e : Env} {s : State} {m : MethodId} {args : Array Value} {below : List Frame} {meth : Method} {c : Code} {T : State} {locs : List Loc} {cells slots : Nat} {Z : State} {a0 : Array Value} {h : Heap} {n0 : Nat} {Q : Option Value → Heap → List Loc → Prop} (o0 : Addr) (g0 : Nat → Int32) (z0 : Nat) (i1 : Int32) (i2 : Int32) (i3 : Int32) (i4 : Int32) (hw : ∀ d ∈ tables_1, d.before a0 Z = true) (X : Stand p l e ({ frames := 0, cells := 0, slots := 0, locals := 0 } : Room) s m args below meth c T locs cells slots) (hx : p.tables.exec = Jvm.exec) (hZ : Z.Warmed39 s.vm) (hby : c.code = prog_131_method_7_code) (hml : c.maxLocals = 5) (hown : s.vm.findClass "com/example/zoria/zoria/xml/XmlInput" = some m.cls) (hret : meth.sig.returnType = some .int) (hlk : meth.locks = false) (eT : T.heap = h) (N : Fr n0 locs) (hc : cells ≤ 0) (hs : slots ≤ 0) (A0 : own_AF Z h o0 .byte z0 g0) (hb0 : own_In z0 i1) (hb1 : own_In z0 (i1 + (1 : Int32))) (hb2 : own_In z0 (i1 + (2 : Int32))) (hb3 : own_In z0 (i1 + (3 : Int32))) (v : Int32) (hv : v = f2_183 g0 i1 i2 i3 i4) (hQ : ∀ L', Fr n0 L' → Q (some (.int v)) h L') :
    own_Fin p e below s Q 0 0 (T.setTop (mkF m 183 #[.val (.ref o0), .val (.int i1), .val (.int i2), .val (.int i3), .val (.int i4)] [])) := by
  refine own_step (fun t k => XS.iconst X.here hx rfl (hb hby d2_183) k) ?_
  show own_Fin p e below s Q 0 0 (T.setTop (mkF m 184 #[.val (.ref o0), .val (.int i1), .val (.int i2), .val (.int i3), .val (.int i4)] [(.int (-1 : Int32))]))
  refine own_step (fun t k => XS.istore X.here hx rfl (hb hby d2_184) rfl (l' := #[.val (.ref o0), .val (.int i1), .val (.int i2), .val (.int i3), .val (.int (-1 : Int32))]) rfl k) ?_
  show own_Fin p e below s Q 0 0 (T.setTop (mkF m 186 #[.val (.ref o0), .val (.int i1), .val (.int i2), .val (.int i3), .val (.int (-1 : Int32))] []))
  refine own_step (fun t k => XS.goto X.here hx rfl (pc0 := 186) (pc' := 305) rfl (hb hby d2_186) (by decide) (by decide) k) ?_
  exact b2_305 o0 g0 z0 i1 i2 i3 (-1 : Int32) hw X hx hZ hby hml hown hret hlk eT N (Nat.le_trans (Nat.add_le_add_right hc 0) (by decide)) (Nat.le_trans (Nat.add_le_add_right hs 0) (by decide)) A0 hb0 hb1 hb2 hb3 v (hv) hQ
def f2_175 (g0 : Nat → Int32) (i1 : Int32) (i2 : Int32) (i3 : Int32) (i4 : Int32) : Int32 := if i4 = (8232 : Int32) then f2_183 g0 i1 i2 i3 i4 else f2_305 g0 i1 i2 i3 i4
set_option maxRecDepth 65536 in
set_option maxHeartbeats 40000000 in
theorem b2_175 {p : Program} {l : Launch} {e : Env} {s : State} {m : MethodId} {args : Array Value} {below : List Frame} {meth : Method} {c : Code} {T : State} {locs : List Loc} {cells slots : Nat} {Z : State} {a0 : Array Value} {h : Heap} {n0 : Nat} {Q : Option Value → Heap → List Loc → Prop} (o0 : Addr) (g0 : Nat → Int32) (z0 : Nat) (i1 : Int32) (i2 : Int32) (i3 : Int32) (i4 : Int32) (hw : ∀ d ∈ tables_1, d.before a0 Z = true) (X : Stand p l e ({ frames := 0, cells := 0, slots := 0, locals := 0 } : Room) s m args below meth c T locs cells slots) (hx : p.tables.exec = Jvm.exec) (hZ : Z.Warmed39 s.vm) (hby : c.code = prog_131_method_7_code) (hml : c.maxLocals = 5) (hown : s.vm.findClass "com/example/zoria/zoria/xml/XmlInput" = some m.cls) (hret : meth.sig.returnType = some .int) (hlk : meth.locks = false) (eT : T.heap = h) (N : Fr n0 locs) (hc : cells ≤ 0) (hs : slots ≤ 0) (A0 : own_AF Z h o0 .byte z0 g0) (hb0 : own_In z0 i1) (hb1 : own_In z0 (i1 + (1 : Int32))) (hb2 : own_In z0 (i1 + (2 : Int32))) (hb3 : own_In z0 (i1 + (3 : Int32))) (v : Int32) (hv : v = f2_175 g0 i1 i2 i3 i4) (hQ : ∀ L', Fr n0 L' → Q (some (.int v)) h L') :
    own_Fin p e below s Q 0 0 (T.setTop (mkF m 175 #[.val (.ref o0), .val (.int i1), .val (.int i2), .val (.int i3), .val (.int i4)] [])) := by
  refine own_step (fun t k => XS.iload X.here hx rfl (hb hby d2_175) rfl  k) ?_
  show own_Fin p e below s Q 0 0 (T.setTop (mkF m 177 #[.val (.ref o0), .val (.int i1), .val (.int i2), .val (.int i3), .val (.int i4)] [(.int i4)]))
  refine own_step (fun t k => XS.sipush X.here hx rfl (hb hby d2_177) k) ?_
  show own_Fin p e below s Q 0 0 (T.setTop (mkF m 180 #[.val (.ref o0), .val (.int i1), .val (.int i2), .val (.int i3), .val (.int i4)] [(.int (8232 : Int32)), (.int i4)]))
  by_cases hB180_44 : i4 = (8232 : Int32)
  · refine own_step (fun t k => XS.icmpNo X.here hx rfl (hb hby d2_180) rfl (teq hB180_44).2 k) ?_
    exact b2_183 o0 g0 z0 i1 i2 i3 i4 hw X hx hZ hby hml hown hret hlk eT N (Nat.le_trans (Nat.add_le_add_right hc 0) (by decide)) (Nat.le_trans (Nat.add_le_add_right hs 0) (by decide)) A0 hb0 hb1 hb2 hb3 v (hv.trans (if_pos hB180_44)) hQ
  · refine own_step (fun t k => XS.icmpYes X.here hx rfl (pc0 := 180) (pc' := 305) rfl (hb hby d2_180) rfl (feq hB180_44).2 (by decide) (by decide) k) ?_
    exact b2_305 o0 g0 z0 i1 i2 i3 i4 hw X hx hZ hby hml hown hret hlk eT N (Nat.le_trans (Nat.add_le_add_right hc 0) (by decide)) (Nat.le_trans (Nat.add_le_add_right hs 0) (by decide)) A0 hb0 hb1 hb2 hb3 v (hv.trans (if_neg hB180_44)) hQ
def f2_171 (g0 : Nat → Int32) (i1 : Int32) (i2 : Int32) (i3 : Int32) (i4 : Int32) : Int32 := if i2 = (0 : Int32) then f2_305 g0 i1 i2 i3 i4 else f2_175 g0 i1 i2 i3 i4
set_option maxRecDepth 65536 in
set_option maxHeartbeats 40000000 in
theorem b2_171 {p : Program} {l : Launch} {e : Env} {s : State} {m : MethodId} {args : Array Value} {below : List Frame} {meth : Method} {c : Code} {T : State} {locs : List Loc} {cells slots : Nat} {Z : State} {a0 : Array Value} {h : Heap} {n0 : Nat} {Q : Option Value → Heap → List Loc → Prop} (o0 : Addr) (g0 : Nat → Int32) (z0 : Nat) (i1 : Int32) (i2 : Int32) (i3 : Int32) (i4 : Int32) (hw : ∀ d ∈ tables_1, d.before a0 Z = true) (X : Stand p l e ({ frames := 0, cells := 0, slots := 0, locals := 0 } : Room) s m args below meth c T locs cells slots) (hx : p.tables.exec = Jvm.exec) (hZ : Z.Warmed39 s.vm) (hby : c.code = prog_131_method_7_code) (hml : c.maxLocals = 5) (hown : s.vm.findClass "com/example/zoria/zoria/xml/XmlInput" = some m.cls) (hret : meth.sig.returnType = some .int) (hlk : meth.locks = false) (eT : T.heap = h) (N : Fr n0 locs) (hc : cells ≤ 0) (hs : slots ≤ 0) (A0 : own_AF Z h o0 .byte z0 g0) (hb0 : own_In z0 i1) (hb1 : own_In z0 (i1 + (1 : Int32))) (hb2 : own_In z0 (i1 + (2 : Int32))) (hb3 : own_In z0 (i1 + (3 : Int32))) (v : Int32) (hv : v = f2_171 g0 i1 i2 i3 i4) (hQ : ∀ L', Fr n0 L' → Q (some (.int v)) h L') :
    own_Fin p e below s Q 0 0 (T.setTop (mkF m 171 #[.val (.ref o0), .val (.int i1), .val (.int i2), .val (.int i3), .val (.int i4)] [])) := by
  refine own_step (fun t k => XS.iloadN X.here hx rfl (hb hby d2_171) rfl  k) ?_
  show own_Fin p e below s Q 0 0 (T.setTop (mkF m 172 #[.val (.ref o0), .val (.int i1), .val (.int i2), .val (.int i3), .val (.int i4)] [(.int i2)]))
  by_cases hB172_41 : i2 = (0 : Int32)
  · refine own_step (fun t k => XS.ifYes X.here hx rfl (pc0 := 172) (pc' := 305) rfl (hb hby d2_172) rfl ((if0 _ _).trans (teq hB172_41).1) (by decide) (by decide) k) ?_
    exact b2_305 o0 g0 z0 i1 i2 i3 i4 hw X hx hZ hby hml hown hret hlk eT N (Nat.le_trans (Nat.add_le_add_right hc 0) (by decide)) (Nat.le_trans (Nat.add_le_add_right hs 0) (by decide)) A0 hb0 hb1 hb2 hb3 v (hv.trans (if_pos hB172_41)) hQ
  · refine own_step (fun t k => XS.ifNo X.here hx rfl (hb hby d2_172) rfl ((if0 _ _).trans (feq hB172_41).1) k) ?_
    exact b2_175 o0 g0 z0 i1 i2 i3 i4 hw X hx hZ hby hml hown hret hlk eT N (Nat.le_trans (Nat.add_le_add_right hc 0) (by decide)) (Nat.le_trans (Nat.add_le_add_right hs 0) (by decide)) A0 hb0 hb1 hb2 hb3 v (hv.trans (if_neg hB172_41)) hQ
def f2_164 (g0 : Nat → Int32) (i1 : Int32) (i2 : Int32) (i3 : Int32) (i4 : Int32) : Int32 := if i4 < (65534 : Int32) then f2_171 g0 i1 i2 i3 i4 else f2_183 g0 i1 i2 i3 i4
set_option maxRecDepth 65536 in
set_option maxHeartbeats 40000000 in
theorem b2_164 {p : Program} {l : Launch} {e : Env} {s : State} {m : MethodId} {args : Array Value} {below : List Frame} {meth : Method} {c : Code} {T : State} {locs : List Loc} {cells slots : Nat} {Z : State} {a0 : Array Value} {h : Heap} {n0 : Nat} {Q : Option Value → Heap → List Loc → Prop} (o0 : Addr) (g0 : Nat → Int32) (z0 : Nat) (i1 : Int32) (i2 : Int32) (i3 : Int32) (i4 : Int32) (hw : ∀ d ∈ tables_1, d.before a0 Z = true) (X : Stand p l e ({ frames := 0, cells := 0, slots := 0, locals := 0 } : Room) s m args below meth c T locs cells slots) (hx : p.tables.exec = Jvm.exec) (hZ : Z.Warmed39 s.vm) (hby : c.code = prog_131_method_7_code) (hml : c.maxLocals = 5) (hown : s.vm.findClass "com/example/zoria/zoria/xml/XmlInput" = some m.cls) (hret : meth.sig.returnType = some .int) (hlk : meth.locks = false) (eT : T.heap = h) (N : Fr n0 locs) (hc : cells ≤ 0) (hs : slots ≤ 0) (A0 : own_AF Z h o0 .byte z0 g0) (hb0 : own_In z0 i1) (hb1 : own_In z0 (i1 + (1 : Int32))) (hb2 : own_In z0 (i1 + (2 : Int32))) (hb3 : own_In z0 (i1 + (3 : Int32))) (v : Int32) (hv : v = f2_164 g0 i1 i2 i3 i4) (hQ : ∀ L', Fr n0 L' → Q (some (.int v)) h L') :
    own_Fin p e below s Q 0 0 (T.setTop (mkF m 164 #[.val (.ref o0), .val (.int i1), .val (.int i2), .val (.int i3), .val (.int i4)] [])) := by
  refine own_step (fun t k => XS.iload X.here hx rfl (hb hby d2_164) rfl  k) ?_
  show own_Fin p e below s Q 0 0 (T.setTop (mkF m 166 #[.val (.ref o0), .val (.int i1), .val (.int i2), .val (.int i3), .val (.int i4)] [(.int i4)]))
  refine own_step (X.ldcInt hx hown (mvT hZ (hw _ (List.mem_of_getElem? (i := 26) rfl))) (g := (mkF m 166 #[.val (.ref o0), .val (.int i1), .val (.int i2), .val (.int i3), .val (.int i4)] [(.int i4)])) rfl (hb hby d2_166)) ?_
  show own_Fin p e below s Q 0 0 (T.setTop (mkF m 168 #[.val (.ref o0), .val (.int i1), .val (.int i2), .val (.int i3), .val (.int i4)] [(.int (65534 : Int32)), (.int i4)]))
  by_cases hB168_39 : i4 < (65534 : Int32)
  · refine own_step (fun t k => XS.icmpNo X.here hx rfl (hb hby d2_168) rfl (tlt hB168_39).2.1 k) ?_
    exact b2_171 o0 g0 z0 i1 i2 i3 i4 hw X hx hZ hby hml hown hret hlk eT N (Nat.le_trans (Nat.add_le_add_right hc 0) (by decide)) (Nat.le_trans (Nat.add_le_add_right hs 0) (by decide)) A0 hb0 hb1 hb2 hb3 v (hv.trans (if_pos hB168_39)) hQ
  · refine own_step (fun t k => XS.icmpYes X.here hx rfl (pc0 := 168) (pc' := 183) rfl (hb hby d2_168) rfl (flt hB168_39).2.1 (by decide) (by decide) k) ?_
    exact b2_183 o0 g0 z0 i1 i2 i3 i4 hw X hx hZ hby hml hown hret hlk eT N (Nat.le_trans (Nat.add_le_add_right hc 0) (by decide)) (Nat.le_trans (Nat.add_le_add_right hs 0) (by decide)) A0 hb0 hb1 hb2 hb3 v (hv.trans (if_neg hB168_39)) hQ
def f2_157 (g0 : Nat → Int32) (i1 : Int32) (i2 : Int32) (i3 : Int32) (i4 : Int32) : Int32 := if (57343 : Int32) < i4 then f2_164 g0 i1 i2 i3 i4 else f2_183 g0 i1 i2 i3 i4
set_option maxRecDepth 65536 in
set_option maxHeartbeats 40000000 in
theorem b2_157 {p : Program} {l : Launch} {e : Env} {s : State} {m : MethodId} {args : Array Value} {below : List Frame} {meth : Method} {c : Code} {T : State} {locs : List Loc} {cells slots : Nat} {Z : State} {a0 : Array Value} {h : Heap} {n0 : Nat} {Q : Option Value → Heap → List Loc → Prop} (o0 : Addr) (g0 : Nat → Int32) (z0 : Nat) (i1 : Int32) (i2 : Int32) (i3 : Int32) (i4 : Int32) (hw : ∀ d ∈ tables_1, d.before a0 Z = true) (X : Stand p l e ({ frames := 0, cells := 0, slots := 0, locals := 0 } : Room) s m args below meth c T locs cells slots) (hx : p.tables.exec = Jvm.exec) (hZ : Z.Warmed39 s.vm) (hby : c.code = prog_131_method_7_code) (hml : c.maxLocals = 5) (hown : s.vm.findClass "com/example/zoria/zoria/xml/XmlInput" = some m.cls) (hret : meth.sig.returnType = some .int) (hlk : meth.locks = false) (eT : T.heap = h) (N : Fr n0 locs) (hc : cells ≤ 0) (hs : slots ≤ 0) (A0 : own_AF Z h o0 .byte z0 g0) (hb0 : own_In z0 i1) (hb1 : own_In z0 (i1 + (1 : Int32))) (hb2 : own_In z0 (i1 + (2 : Int32))) (hb3 : own_In z0 (i1 + (3 : Int32))) (v : Int32) (hv : v = f2_157 g0 i1 i2 i3 i4) (hQ : ∀ L', Fr n0 L' → Q (some (.int v)) h L') :
    own_Fin p e below s Q 0 0 (T.setTop (mkF m 157 #[.val (.ref o0), .val (.int i1), .val (.int i2), .val (.int i3), .val (.int i4)] [])) := by
  refine own_step (fun t k => XS.iload X.here hx rfl (hb hby d2_157) rfl  k) ?_
  show own_Fin p e below s Q 0 0 (T.setTop (mkF m 159 #[.val (.ref o0), .val (.int i1), .val (.int i2), .val (.int i3), .val (.int i4)] [(.int i4)]))
  refine own_step (X.ldcInt hx hown (mvT hZ (hw _ (List.mem_of_getElem? (i := 27) rfl))) (g := (mkF m 159 #[.val (.ref o0), .val (.int i1), .val (.int i2), .val (.int i3), .val (.int i4)] [(.int i4)])) rfl (hb hby d2_159)) ?_
  show own_Fin p e below s Q 0 0 (T.setTop (mkF m 161 #[.val (.ref o0), .val (.int i1), .val (.int i2), .val (.int i3), .val (.int i4)] [(.int (57343 : Int32)), (.int i4)]))
  by_cases hB161_49 : (57343 : Int32) < i4
  · refine own_step (fun t k => XS.icmpNo X.here hx rfl (hb hby d2_161) rfl (tlt hB161_49).2.2.2 k) ?_
    exact b2_164 o0 g0 z0 i1 i2 i3 i4 hw X hx hZ hby hml hown hret hlk eT N (Nat.le_trans (Nat.add_le_add_right hc 0) (by decide)) (Nat.le_trans (Nat.add_le_add_right hs 0) (by decide)) A0 hb0 hb1 hb2 hb3 v (hv.trans (if_pos hB161_49)) hQ
  · refine own_step (fun t k => XS.icmpYes X.here hx rfl (pc0 := 161) (pc' := 183) rfl (hb hby d2_161) rfl (flt hB161_49).2.2.2 (by decide) (by decide) k) ?_
    exact b2_183 o0 g0 z0 i1 i2 i3 i4 hw X hx hZ hby hml hown hret hlk eT N (Nat.le_trans (Nat.add_le_add_right hc 0) (by decide)) (Nat.le_trans (Nat.add_le_add_right hs 0) (by decide)) A0 hb0 hb1 hb2 hb3 v (hv.trans (if_neg hB161_49)) hQ
def f2_150 (g0 : Nat → Int32) (i1 : Int32) (i2 : Int32) (i3 : Int32) (i4 : Int32) : Int32 := if i4 < (55296 : Int32) then f2_164 g0 i1 i2 i3 i4 else f2_157 g0 i1 i2 i3 i4
set_option maxRecDepth 65536 in
set_option maxHeartbeats 40000000 in
theorem b2_150 {p : Program} {l : Launch} {e : Env} {s : State} {m : MethodId} {args : Array Value} {below : List Frame} {meth : Method} {c : Code} {T : State} {locs : List Loc} {cells slots : Nat} {Z : State} {a0 : Array Value} {h : Heap} {n0 : Nat} {Q : Option Value → Heap → List Loc → Prop} (o0 : Addr) (g0 : Nat → Int32) (z0 : Nat) (i1 : Int32) (i2 : Int32) (i3 : Int32) (i4 : Int32) (hw : ∀ d ∈ tables_1, d.before a0 Z = true) (X : Stand p l e ({ frames := 0, cells := 0, slots := 0, locals := 0 } : Room) s m args below meth c T locs cells slots) (hx : p.tables.exec = Jvm.exec) (hZ : Z.Warmed39 s.vm) (hby : c.code = prog_131_method_7_code) (hml : c.maxLocals = 5) (hown : s.vm.findClass "com/example/zoria/zoria/xml/XmlInput" = some m.cls) (hret : meth.sig.returnType = some .int) (hlk : meth.locks = false) (eT : T.heap = h) (N : Fr n0 locs) (hc : cells ≤ 0) (hs : slots ≤ 0) (A0 : own_AF Z h o0 .byte z0 g0) (hb0 : own_In z0 i1) (hb1 : own_In z0 (i1 + (1 : Int32))) (hb2 : own_In z0 (i1 + (2 : Int32))) (hb3 : own_In z0 (i1 + (3 : Int32))) (v : Int32) (hv : v = f2_150 g0 i1 i2 i3 i4) (hQ : ∀ L', Fr n0 L' → Q (some (.int v)) h L') :
    own_Fin p e below s Q 0 0 (T.setTop (mkF m 150 #[.val (.ref o0), .val (.int i1), .val (.int i2), .val (.int i3), .val (.int i4)] [])) := by
  refine own_step (fun t k => XS.iload X.here hx rfl (hb hby d2_150) rfl  k) ?_
  show own_Fin p e below s Q 0 0 (T.setTop (mkF m 152 #[.val (.ref o0), .val (.int i1), .val (.int i2), .val (.int i3), .val (.int i4)] [(.int i4)]))
  refine own_step (X.ldcInt hx hown (mvT hZ (hw _ (List.mem_of_getElem? (i := 25) rfl))) (g := (mkF m 152 #[.val (.ref o0), .val (.int i1), .val (.int i2), .val (.int i3), .val (.int i4)] [(.int i4)])) rfl (hb hby d2_152)) ?_
  show own_Fin p e below s Q 0 0 (T.setTop (mkF m 154 #[.val (.ref o0), .val (.int i1), .val (.int i2), .val (.int i3), .val (.int i4)] [(.int (55296 : Int32)), (.int i4)]))
  by_cases hB154_37 : i4 < (55296 : Int32)
  · refine own_step (fun t k => XS.icmpYes X.here hx rfl (pc0 := 154) (pc' := 164) rfl (hb hby d2_154) rfl (tlt hB154_37).1 (by decide) (by decide) k) ?_
    exact b2_164 o0 g0 z0 i1 i2 i3 i4 hw X hx hZ hby hml hown hret hlk eT N (Nat.le_trans (Nat.add_le_add_right hc 0) (by decide)) (Nat.le_trans (Nat.add_le_add_right hs 0) (by decide)) A0 hb0 hb1 hb2 hb3 v (hv.trans (if_pos hB154_37)) hQ
  · refine own_step (fun t k => XS.icmpNo X.here hx rfl (hb hby d2_154) rfl (flt hB154_37).1 k) ?_
    exact b2_157 o0 g0 z0 i1 i2 i3 i4 hw X hx hZ hby hml hown hret hlk eT N (Nat.le_trans (Nat.add_le_add_right hc 0) (by decide)) (Nat.le_trans (Nat.add_le_add_right hs 0) (by decide)) A0 hb0 hb1 hb2 hb3 v (hv.trans (if_neg hB154_37)) hQ
def f2_112 (g0 : Nat → Int32) (i1 : Int32) (i2 : Int32) (i3 : Int32) (i4 : Int32) : Int32 := if ((((i3 &&& (15 : Int32)) <<< ((12 : Int32) &&& 31)) ||| (((g0 ((i1 + (1 : Int32))).toNatClampNeg) &&& (63 : Int32)) <<< ((6 : Int32) &&& 31))) ||| ((g0 ((i1 + (2 : Int32))).toNatClampNeg) &&& (63 : Int32))) < (2048 : Int32) then f2_183 g0 i1 i2 i3 ((((i3 &&& (15 : Int32)) <<< ((12 : Int32) &&& 31)) ||| (((g0 ((i1 + (1 : Int32))).toNatClampNeg) &&& (63 : Int32)) <<< ((6 : Int32) &&& 31))) ||| ((g0 ((i1 + (2 : Int32))).toNatClampNeg) &&& (63 : Int32))) else f2_150 g0 i1 i2 i3 ((((i3 &&& (15 : Int32)) <<< ((12 : Int32) &&& 31)) ||| (((g0 ((i1 + (1 : Int32))).toNatClampNeg) &&& (63 : Int32)) <<< ((6 : Int32) &&& 31))) ||| ((g0 ((i1 + (2 : Int32))).toNatClampNeg) &&& (63 : Int32)))
set_option maxRecDepth 65536 in
set_option maxHeartbeats 40000000 in
theorem b2_112 {p : Program} {l : Launch} {e : Env} {s : State} {m : MethodId} {args : Array Value} {below : List Frame} {meth : Method} {c : Code} {T : State} {locs : List Loc} {cells slots : Nat} {Z : State} {a0 : Array Value} {h : Heap} {n0 : Nat} {Q : Option Value → Heap → List Loc → Prop} (o0 : Addr) (g0 : Nat → Int32) (z0 : Nat) (i1 : Int32) (i2 : Int32) (i3 : Int32) (i4 : Int32) (hw : ∀ d ∈ tables_1, d.before a0 Z = true) (X : Stand p l e ({ frames := 0, cells := 0, slots := 0, locals := 0 } : Room) s m args below meth c T locs cells slots) (hx : p.tables.exec = Jvm.exec) (hZ : Z.Warmed39 s.vm) (hby : c.code = prog_131_method_7_code) (hml : c.maxLocals = 5) (hown : s.vm.findClass "com/example/zoria/zoria/xml/XmlInput" = some m.cls) (hret : meth.sig.returnType = some .int) (hlk : meth.locks = false) (eT : T.heap = h) (N : Fr n0 locs) (hc : cells ≤ 0) (hs : slots ≤ 0) (A0 : own_AF Z h o0 .byte z0 g0) (hb0 : own_In z0 i1) (hb1 : own_In z0 (i1 + (1 : Int32))) (hb2 : own_In z0 (i1 + (2 : Int32))) (hb3 : own_In z0 (i1 + (3 : Int32))) (v : Int32) (hv : v = f2_112 g0 i1 i2 i3 i4) (hQ : ∀ L', Fr n0 L' → Q (some (.int v)) h L') :
    own_Fin p e below s Q 0 0 (T.setTop (mkF m 112 #[.val (.ref o0), .val (.int i1), .val (.int i2), .val (.int i3), .val (.int i4)] [])) := by
  refine own_step (fun t k => XS.iloadN X.here hx rfl (hb hby d2_112) rfl  k) ?_
  show own_Fin p e below s Q 0 0 (T.setTop (mkF m 113 #[.val (.ref o0), .val (.int i1), .val (.int i2), .val (.int i3), .val (.int i4)] [(.int i3)]))
  refine own_step (fun t k => XS.bipush X.here hx rfl (hb hby d2_113) k) ?_
  show own_Fin p e below s Q 0 0 (T.setTop (mkF m 115 #[.val (.ref o0), .val (.int i1), .val (.int i2), .val (.int i3), .val (.int i4)] [(.int (15 : Int32)), (.int i3)]))
  refine own_step (fun t k => XS.iand X.here hx rfl (hb hby d2_115) rfl k) ?_
  show own_Fin p e below s Q 0 0 (T.setTop (mkF m 116 #[.val (.ref o0), .val (.int i1), .val (.int i2), .val (.int i3), .val (.int i4)] [(.int (i3 &&& (15 : Int32)))]))
  refine own_step (fun t k => XS.bipush X.here hx rfl (hb hby d2_116) k) ?_
  show own_Fin p e below s Q 0 0 (T.setTop (mkF m 118 #[.val (.ref o0), .val (.int i1), .val (.int i2), .val (.int i3), .val (.int i4)] [(.int (12 : Int32)), (.int (i3 &&& (15 : Int32)))]))
  refine own_step (fun t k => XS.ishl X.here hx rfl (hb hby d2_118) rfl k) ?_
  show own_Fin p e below s Q 0 0 (T.setTop (mkF m 119 #[.val (.ref o0), .val (.int i1), .val (.int i2), .val (.int i3), .val (.int i4)] [(.int ((i3 &&& (15 : Int32)) <<< ((12 : Int32) &&& 31)))]))
  refine own_step (fun t k => XS.aloadN X.here hx rfl (hb hby d2_119) rfl rfl k) ?_
  show own_Fin p e below s Q 0 0 (T.setTop (mkF m 120 #[.val (.ref o0), .val (.int i1), .val (.int i2), .val (.int i3), .val (.int i4)] [(.ref o0), (.int ((i3 &&& (15 : Int32)) <<< ((12 : Int32) &&& 31)))]))
  refine own_step (fun t k => XS.iloadN X.here hx rfl (hb hby d2_120) rfl  k) ?_
  show own_Fin p e below s Q 0 0 (T.setTop (mkF m 121 #[.val (.ref o0), .val (.int i1), .val (.int i2), .val (.int i3), .val (.int i4)] [(.int i1), (.ref o0), (.int ((i3 &&& (15 : Int32)) <<< ((12 : Int32) &&& 31)))]))
  refine own_step (fun t k => XS.iconst X.here hx rfl (hb hby d2_121) k) ?_
  show own_Fin p e below s Q 0 0 (T.setTop (mkF m 122 #[.val (.ref o0), .val (.int i1), .val (.int i2), .val (.int i3), .val (.int i4)] [(.int (1 : Int32)), (.int i1), (.ref o0), (.int ((i3 &&& (15 : Int32)) <<< ((12 : Int32) &&& 31)))]))
  refine own_step (fun t k => XS.iadd X.here hx rfl (hb hby d2_122) rfl k) ?_
  show own_Fin p e below s Q 0 0 (T.setTop (mkF m 123 #[.val (.ref o0), .val (.int i1), .val (.int i2), .val (.int i3), .val (.int i4)] [(.int (i1 + (1 : Int32))), (.ref o0), (.int ((i3 &&& (15 : Int32)) <<< ((12 : Int32) &&& 31)))]))
  obtain ⟨ca123, Ar123, Sz123, Ht123⟩ := id A0
  have hin123 : ¬ ((i1 + (1 : Int32)) < 0 ∨ ca123.slots.size ≤ ((i1 + (1 : Int32))).toNatClampNeg) := by rw [Sz123]; exact hb1
  refine own_step (X.baloadBytes hx (j := (i1 + (1 : Int32))) (v := (.int (g0 ((i1 + (1 : Int32))).toNatClampNeg))) (by rw [eT]; exact Ar123.1) (State.isArrayOf_alike hZ.alike Ar123.2.1) Ar123.2.2 hin123 (Ht123 _ (by have hq := Nat.lt_of_not_le (fun y => hin123 (Or.inr y)); rw [Sz123] at hq; exact hq)) (g := (mkF m 123 #[.val (.ref o0), .val (.int i1), .val (.int i2), .val (.int i3), .val (.int i4)] [(.int (i1 + (1 : Int32))), (.ref o0), (.int ((i3 &&& (15 : Int32)) <<< ((12 : Int32) &&& 31)))])) rfl rfl (hb hby d2_123)) ?_
  show own_Fin p e below s Q 0 0 (T.setTop (mkF m 124 #[.val (.ref o0), .val (.int i1), .val (.int i2), .val (.int i3), .val (.int i4)] [(.int (g0 ((i1 + (1 : Int32))).toNatClampNeg)), (.int ((i3 &&& (15 : Int32)) <<< ((12 : Int32) &&& 31)))]))
  refine own_step (fun t k => XS.bipush X.here hx rfl (hb hby d2_124) k) ?_
  show own_Fin p e below s Q 0 0 (T.setTop (mkF m 126 #[.val (.ref o0), .val (.int i1), .val (.int i2), .val (.int i3), .val (.int i4)] [(.int (63 : Int32)), (.int (g0 ((i1 + (1 : Int32))).toNatClampNeg)), (.int ((i3 &&& (15 : Int32)) <<< ((12 : Int32) &&& 31)))]))
  refine own_step (fun t k => XS.iand X.here hx rfl (hb hby d2_126) rfl k) ?_
  show own_Fin p e below s Q 0 0 (T.setTop (mkF m 127 #[.val (.ref o0), .val (.int i1), .val (.int i2), .val (.int i3), .val (.int i4)] [(.int ((g0 ((i1 + (1 : Int32))).toNatClampNeg) &&& (63 : Int32))), (.int ((i3 &&& (15 : Int32)) <<< ((12 : Int32) &&& 31)))]))
  refine own_step (fun t k => XS.bipush X.here hx rfl (hb hby d2_127) k) ?_
  show own_Fin p e below s Q 0 0 (T.setTop (mkF m 129 #[.val (.ref o0), .val (.int i1), .val (.int i2), .val (.int i3), .val (.int i4)] [(.int (6 : Int32)), (.int ((g0 ((i1 + (1 : Int32))).toNatClampNeg) &&& (63 : Int32))), (.int ((i3 &&& (15 : Int32)) <<< ((12 : Int32) &&& 31)))]))
  refine own_step (fun t k => XS.ishl X.here hx rfl (hb hby d2_129) rfl k) ?_
  show own_Fin p e below s Q 0 0 (T.setTop (mkF m 130 #[.val (.ref o0), .val (.int i1), .val (.int i2), .val (.int i3), .val (.int i4)] [(.int (((g0 ((i1 + (1 : Int32))).toNatClampNeg) &&& (63 : Int32)) <<< ((6 : Int32) &&& 31))), (.int ((i3 &&& (15 : Int32)) <<< ((12 : Int32) &&& 31)))]))
  refine own_step (fun t k => XS.ior X.here hx rfl (hb hby d2_130) rfl k) ?_
  show own_Fin p e below s Q 0 0 (T.setTop (mkF m 131 #[.val (.ref o0), .val (.int i1), .val (.int i2), .val (.int i3), .val (.int i4)] [(.int (((i3 &&& (15 : Int32)) <<< ((12 : Int32) &&& 31)) ||| (((g0 ((i1 + (1 : Int32))).toNatClampNeg) &&& (63 : Int32)) <<< ((6 : Int32) &&& 31))))]))
  refine own_step (fun t k => XS.aloadN X.here hx rfl (hb hby d2_131) rfl rfl k) ?_
  show own_Fin p e below s Q 0 0 (T.setTop (mkF m 132 #[.val (.ref o0), .val (.int i1), .val (.int i2), .val (.int i3), .val (.int i4)] [(.ref o0), (.int (((i3 &&& (15 : Int32)) <<< ((12 : Int32) &&& 31)) ||| (((g0 ((i1 + (1 : Int32))).toNatClampNeg) &&& (63 : Int32)) <<< ((6 : Int32) &&& 31))))]))
  refine own_step (fun t k => XS.iloadN X.here hx rfl (hb hby d2_132) rfl  k) ?_
  show own_Fin p e below s Q 0 0 (T.setTop (mkF m 133 #[.val (.ref o0), .val (.int i1), .val (.int i2), .val (.int i3), .val (.int i4)] [(.int i1), (.ref o0), (.int (((i3 &&& (15 : Int32)) <<< ((12 : Int32) &&& 31)) ||| (((g0 ((i1 + (1 : Int32))).toNatClampNeg) &&& (63 : Int32)) <<< ((6 : Int32) &&& 31))))]))
  refine own_step (fun t k => XS.iconst X.here hx rfl (hb hby d2_133) k) ?_
  show own_Fin p e below s Q 0 0 (T.setTop (mkF m 134 #[.val (.ref o0), .val (.int i1), .val (.int i2), .val (.int i3), .val (.int i4)] [(.int (2 : Int32)), (.int i1), (.ref o0), (.int (((i3 &&& (15 : Int32)) <<< ((12 : Int32) &&& 31)) ||| (((g0 ((i1 + (1 : Int32))).toNatClampNeg) &&& (63 : Int32)) <<< ((6 : Int32) &&& 31))))]))
  refine own_step (fun t k => XS.iadd X.here hx rfl (hb hby d2_134) rfl k) ?_
  show own_Fin p e below s Q 0 0 (T.setTop (mkF m 135 #[.val (.ref o0), .val (.int i1), .val (.int i2), .val (.int i3), .val (.int i4)] [(.int (i1 + (2 : Int32))), (.ref o0), (.int (((i3 &&& (15 : Int32)) <<< ((12 : Int32) &&& 31)) ||| (((g0 ((i1 + (1 : Int32))).toNatClampNeg) &&& (63 : Int32)) <<< ((6 : Int32) &&& 31))))]))
  obtain ⟨ca135, Ar135, Sz135, Ht135⟩ := id A0
  have hin135 : ¬ ((i1 + (2 : Int32)) < 0 ∨ ca135.slots.size ≤ ((i1 + (2 : Int32))).toNatClampNeg) := by rw [Sz135]; exact hb2
  refine own_step (X.baloadBytes hx (j := (i1 + (2 : Int32))) (v := (.int (g0 ((i1 + (2 : Int32))).toNatClampNeg))) (by rw [eT]; exact Ar135.1) (State.isArrayOf_alike hZ.alike Ar135.2.1) Ar135.2.2 hin135 (Ht135 _ (by have hq := Nat.lt_of_not_le (fun y => hin135 (Or.inr y)); rw [Sz135] at hq; exact hq)) (g := (mkF m 135 #[.val (.ref o0), .val (.int i1), .val (.int i2), .val (.int i3), .val (.int i4)] [(.int (i1 + (2 : Int32))), (.ref o0), (.int (((i3 &&& (15 : Int32)) <<< ((12 : Int32) &&& 31)) ||| (((g0 ((i1 + (1 : Int32))).toNatClampNeg) &&& (63 : Int32)) <<< ((6 : Int32) &&& 31))))])) rfl rfl (hb hby d2_135)) ?_
  show own_Fin p e below s Q 0 0 (T.setTop (mkF m 136 #[.val (.ref o0), .val (.int i1), .val (.int i2), .val (.int i3), .val (.int i4)] [(.int (g0 ((i1 + (2 : Int32))).toNatClampNeg)), (.int (((i3 &&& (15 : Int32)) <<< ((12 : Int32) &&& 31)) ||| (((g0 ((i1 + (1 : Int32))).toNatClampNeg) &&& (63 : Int32)) <<< ((6 : Int32) &&& 31))))]))
  refine own_step (fun t k => XS.bipush X.here hx rfl (hb hby d2_136) k) ?_
  show own_Fin p e below s Q 0 0 (T.setTop (mkF m 138 #[.val (.ref o0), .val (.int i1), .val (.int i2), .val (.int i3), .val (.int i4)] [(.int (63 : Int32)), (.int (g0 ((i1 + (2 : Int32))).toNatClampNeg)), (.int (((i3 &&& (15 : Int32)) <<< ((12 : Int32) &&& 31)) ||| (((g0 ((i1 + (1 : Int32))).toNatClampNeg) &&& (63 : Int32)) <<< ((6 : Int32) &&& 31))))]))
  refine own_step (fun t k => XS.iand X.here hx rfl (hb hby d2_138) rfl k) ?_
  show own_Fin p e below s Q 0 0 (T.setTop (mkF m 139 #[.val (.ref o0), .val (.int i1), .val (.int i2), .val (.int i3), .val (.int i4)] [(.int ((g0 ((i1 + (2 : Int32))).toNatClampNeg) &&& (63 : Int32))), (.int (((i3 &&& (15 : Int32)) <<< ((12 : Int32) &&& 31)) ||| (((g0 ((i1 + (1 : Int32))).toNatClampNeg) &&& (63 : Int32)) <<< ((6 : Int32) &&& 31))))]))
  refine own_step (fun t k => XS.ior X.here hx rfl (hb hby d2_139) rfl k) ?_
  show own_Fin p e below s Q 0 0 (T.setTop (mkF m 140 #[.val (.ref o0), .val (.int i1), .val (.int i2), .val (.int i3), .val (.int i4)] [(.int ((((i3 &&& (15 : Int32)) <<< ((12 : Int32) &&& 31)) ||| (((g0 ((i1 + (1 : Int32))).toNatClampNeg) &&& (63 : Int32)) <<< ((6 : Int32) &&& 31))) ||| ((g0 ((i1 + (2 : Int32))).toNatClampNeg) &&& (63 : Int32))))]))
  refine own_step (fun t k => XS.istore X.here hx rfl (hb hby d2_140) rfl (l' := #[.val (.ref o0), .val (.int i1), .val (.int i2), .val (.int i3), .val (.int ((((i3 &&& (15 : Int32)) <<< ((12 : Int32) &&& 31)) ||| (((g0 ((i1 + (1 : Int32))).toNatClampNeg) &&& (63 : Int32)) <<< ((6 : Int32) &&& 31))) ||| ((g0 ((i1 + (2 : Int32))).toNatClampNeg) &&& (63 : Int32))))]) rfl k) ?_
  show own_Fin p e below s Q 0 0 (T.setTop (mkF m 142 #[.val (.ref o0), .val (.int i1), .val (.int i2), .val (.int i3), .val (.int ((((i3 &&& (15 : Int32)) <<< ((12 : Int32) &&& 31)) ||| (((g0 ((i1 + (1 : Int32))).toNatClampNeg) &&& (63 : Int32)) <<< ((6 : Int32) &&& 31))) ||| ((g0 ((i1 + (2 : Int32))).toNatClampNeg) &&& (63 : Int32))))] []))
  refine own_step (fun t k => XS.iload X.here hx rfl (hb hby d2_142) rfl  k) ?_
  show own_Fin p e below s Q 0 0 (T.setTop (mkF m 144 #[.val (.ref o0), .val (.int i1), .val (.int i2), .val (.int i3), .val (.int ((((i3 &&& (15 : Int32)) <<< ((12 : Int32) &&& 31)) ||| (((g0 ((i1 + (1 : Int32))).toNatClampNeg) &&& (63 : Int32)) <<< ((6 : Int32) &&& 31))) ||| ((g0 ((i1 + (2 : Int32))).toNatClampNeg) &&& (63 : Int32))))] [(.int ((((i3 &&& (15 : Int32)) <<< ((12 : Int32) &&& 31)) ||| (((g0 ((i1 + (1 : Int32))).toNatClampNeg) &&& (63 : Int32)) <<< ((6 : Int32) &&& 31))) ||| ((g0 ((i1 + (2 : Int32))).toNatClampNeg) &&& (63 : Int32))))]))
  refine own_step (fun t k => XS.sipush X.here hx rfl (hb hby d2_144) k) ?_
  show own_Fin p e below s Q 0 0 (T.setTop (mkF m 147 #[.val (.ref o0), .val (.int i1), .val (.int i2), .val (.int i3), .val (.int ((((i3 &&& (15 : Int32)) <<< ((12 : Int32) &&& 31)) ||| (((g0 ((i1 + (1 : Int32))).toNatClampNeg) &&& (63 : Int32)) <<< ((6 : Int32) &&& 31))) ||| ((g0 ((i1 + (2 : Int32))).toNatClampNeg) &&& (63 : Int32))))] [(.int (2048 : Int32)), (.int ((((i3 &&& (15 : Int32)) <<< ((12 : Int32) &&& 31)) ||| (((g0 ((i1 + (1 : Int32))).toNatClampNeg) &&& (63 : Int32)) <<< ((6 : Int32) &&& 31))) ||| ((g0 ((i1 + (2 : Int32))).toNatClampNeg) &&& (63 : Int32))))]))
  by_cases hB147_34 : ((((i3 &&& (15 : Int32)) <<< ((12 : Int32) &&& 31)) ||| (((g0 ((i1 + (1 : Int32))).toNatClampNeg) &&& (63 : Int32)) <<< ((6 : Int32) &&& 31))) ||| ((g0 ((i1 + (2 : Int32))).toNatClampNeg) &&& (63 : Int32))) < (2048 : Int32)
  · refine own_step (fun t k => XS.icmpYes X.here hx rfl (pc0 := 147) (pc' := 183) rfl (hb hby d2_147) rfl (tlt hB147_34).1 (by decide) (by decide) k) ?_
    exact b2_183 o0 g0 z0 i1 i2 i3 ((((i3 &&& (15 : Int32)) <<< ((12 : Int32) &&& 31)) ||| (((g0 ((i1 + (1 : Int32))).toNatClampNeg) &&& (63 : Int32)) <<< ((6 : Int32) &&& 31))) ||| ((g0 ((i1 + (2 : Int32))).toNatClampNeg) &&& (63 : Int32))) hw X hx hZ hby hml hown hret hlk eT N (Nat.le_trans (Nat.add_le_add_right hc 0) (by decide)) (Nat.le_trans (Nat.add_le_add_right hs 0) (by decide)) A0 hb0 hb1 hb2 hb3 v (hv.trans (if_pos hB147_34)) hQ
  · refine own_step (fun t k => XS.icmpNo X.here hx rfl (hb hby d2_147) rfl (flt hB147_34).1 k) ?_
    exact b2_150 o0 g0 z0 i1 i2 i3 ((((i3 &&& (15 : Int32)) <<< ((12 : Int32) &&& 31)) ||| (((g0 ((i1 + (1 : Int32))).toNatClampNeg) &&& (63 : Int32)) <<< ((6 : Int32) &&& 31))) ||| ((g0 ((i1 + (2 : Int32))).toNatClampNeg) &&& (63 : Int32))) hw X hx hZ hby hml hown hret hlk eT N (Nat.le_trans (Nat.add_le_add_right hc 0) (by decide)) (Nat.le_trans (Nat.add_le_add_right hs 0) (by decide)) A0 hb0 hb1 hb2 hb3 v (hv.trans (if_neg hB147_34)) hQ
def f2_97 (g0 : Nat → Int32) (i1 : Int32) (i2 : Int32) (i3 : Int32) (i4 : Int32) : Int32 := if ((g0 ((i1 + (2 : Int32))).toNatClampNeg) &&& (192 : Int32)) = (128 : Int32) then f2_112 g0 i1 i2 i3 i4 else f2_189 g0 i1 i2 i3 i4
set_option maxRecDepth 65536 in
set_option maxHeartbeats 40000000 in
theorem b2_97 {p : Program} {l : Launch} {e : Env} {s : State} {m : MethodId} {args : Array Value} {below : List Frame} {meth : Method} {c : Code} {T : State} {locs : List Loc} {cells slots : Nat} {Z : State} {a0 : Array Value} {h : Heap} {n0 : Nat} {Q : Option Value → Heap → List Loc → Prop} (o0 : Addr) (g0 : Nat → Int32) (z0 : Nat) (i1 : Int32) (i2 : Int32) (i3 : Int32) (i4 : Int32) (hw : ∀ d ∈ tables_1, d.before a0 Z = true) (X : Stand p l e ({ frames := 0, cells := 0, slots := 0, locals := 0 } : Room) s m args below meth c T locs cells slots) (hx : p.tables.exec = Jvm.exec) (hZ : Z.Warmed39 s.vm) (hby : c.code = prog_131_method_7_code) (hml : c.maxLocals = 5) (hown : s.vm.findClass "com/example/zoria/zoria/xml/XmlInput" = some m.cls) (hret : meth.sig.returnType = some .int) (hlk : meth.locks = false) (eT : T.heap = h) (N : Fr n0 locs) (hc : cells ≤ 0) (hs : slots ≤ 0) (A0 : own_AF Z h o0 .byte z0 g0) (hb0 : own_In z0 i1) (hb1 : own_In z0 (i1 + (1 : Int32))) (hb2 : own_In z0 (i1 + (2 : Int32))) (hb3 : own_In z0 (i1 + (3 : Int32))) (v : Int32) (hv : v = f2_97 g0 i1 i2 i3 i4) (hQ : ∀ L', Fr n0 L' → Q (some (.int v)) h L') :
    own_Fin p e below s Q 0 0 (T.setTop (mkF m 97 #[.val (.ref o0), .val (.int i1), .val (.int i2), .val (.int i3), .val (.int i4)] [])) := by
  refine own_step (fun t k => XS.aloadN X.here hx rfl (hb hby d2_97) rfl rfl k) ?_
  show own_Fin p e below s Q 0 0 (T.setTop (mkF m 98 #[.val (.ref o0), .val (.int i1), .val (.int i2), .val (.int i3), .val (.int i4)] [(.ref o0)]))
  refine own_step (fun t k => XS.iloadN X.here hx rfl (hb hby d2_98) rfl  k) ?_
  show own_Fin p e below s Q 0 0 (T.setTop (mkF m 99 #[.val (.ref o0), .val (.int i1), .val (.int i2), .val (.int i3), .val (.int i4)] [(.int i1), (.ref o0)]))
  refine own_step (fun t k => XS.iconst X.here hx rfl (hb hby d2_99) k) ?_
  show own_Fin p e below s Q 0 0 (T.setTop (mkF m 100 #[.val (.ref o0), .val (.int i1), .val (.int i2), .val (.int i3), .val (.int i4)] [(.int (2 : Int32)), (.int i1), (.ref o0)]))
  refine own_step (fun t k => XS.iadd X.here hx rfl (hb hby d2_100) rfl k) ?_
  show own_Fin p e below s Q 0 0 (T.setTop (mkF m 101 #[.val (.ref o0), .val (.int i1), .val (.int i2), .val (.int i3), .val (.int i4)] [(.int (i1 + (2 : Int32))), (.ref o0)]))
  obtain ⟨ca101, Ar101, Sz101, Ht101⟩ := id A0
  have hin101 : ¬ ((i1 + (2 : Int32)) < 0 ∨ ca101.slots.size ≤ ((i1 + (2 : Int32))).toNatClampNeg) := by rw [Sz101]; exact hb2
  refine own_step (X.baloadBytes hx (j := (i1 + (2 : Int32))) (v := (.int (g0 ((i1 + (2 : Int32))).toNatClampNeg))) (by rw [eT]; exact Ar101.1) (State.isArrayOf_alike hZ.alike Ar101.2.1) Ar101.2.2 hin101 (Ht101 _ (by have hq := Nat.lt_of_not_le (fun y => hin101 (Or.inr y)); rw [Sz101] at hq; exact hq)) (g := (mkF m 101 #[.val (.ref o0), .val (.int i1), .val (.int i2), .val (.int i3), .val (.int i4)] [(.int (i1 + (2 : Int32))), (.ref o0)])) rfl rfl (hb hby d2_101)) ?_
  show own_Fin p e below s Q 0 0 (T.setTop (mkF m 102 #[.val (.ref o0), .val (.int i1), .val (.int i2), .val (.int i3), .val (.int i4)] [(.int (g0 ((i1 + (2 : Int32))).toNatClampNeg))]))
  refine own_step (fun t k => XS.sipush X.here hx rfl (hb hby d2_102) k) ?_
  show own_Fin p e below s Q 0 0 (T.setTop (mkF m 105 #[.val (.ref o0), .val (.int i1), .val (.int i2), .val (.int i3), .val (.int i4)] [(.int (192 : Int32)), (.int (g0 ((i1 + (2 : Int32))).toNatClampNeg))]))
  refine own_step (fun t k => XS.iand X.here hx rfl (hb hby d2_105) rfl k) ?_
  show own_Fin p e below s Q 0 0 (T.setTop (mkF m 106 #[.val (.ref o0), .val (.int i1), .val (.int i2), .val (.int i3), .val (.int i4)] [(.int ((g0 ((i1 + (2 : Int32))).toNatClampNeg) &&& (192 : Int32)))]))
  refine own_step (fun t k => XS.sipush X.here hx rfl (hb hby d2_106) k) ?_
  show own_Fin p e below s Q 0 0 (T.setTop (mkF m 109 #[.val (.ref o0), .val (.int i1), .val (.int i2), .val (.int i3), .val (.int i4)] [(.int (128 : Int32)), (.int ((g0 ((i1 + (2 : Int32))).toNatClampNeg) &&& (192 : Int32)))]))
  by_cases hB109_32 : ((g0 ((i1 + (2 : Int32))).toNatClampNeg) &&& (192 : Int32)) = (128 : Int32)
  · refine own_step (fun t k => XS.icmpNo X.here hx rfl (hb hby d2_109) rfl (teq hB109_32).2 k) ?_
    exact b2_112 o0 g0 z0 i1 i2 i3 i4 hw X hx hZ hby hml hown hret hlk eT N (Nat.le_trans (Nat.add_le_add_right hc 0) (by decide)) (Nat.le_trans (Nat.add_le_add_right hs 0) (by decide)) A0 hb0 hb1 hb2 hb3 v (hv.trans (if_pos hB109_32)) hQ
  · refine own_step (fun t k => XS.icmpYes X.here hx rfl (pc0 := 109) (pc' := 189) rfl (hb hby d2_109) rfl (feq hB109_32).2 (by decide) (by decide) k) ?_
    exact b2_189 o0 g0 z0 i1 i2 i3 i4 hw X hx hZ hby hml hown hret hlk eT N (Nat.le_trans (Nat.add_le_add_right hc 0) (by decide)) (Nat.le_trans (Nat.add_le_add_right hs 0) (by decide)) A0 hb0 hb1 hb2 hb3 v (hv.trans (if_neg hB109_32)) hQ
def f2_82 (g0 : Nat → Int32) (i1 : Int32) (i2 : Int32) (i3 : Int32) (i4 : Int32) : Int32 := if ((g0 ((i1 + (1 : Int32))).toNatClampNeg) &&& (192 : Int32)) = (128 : Int32) then f2_97 g0 i1 i2 i3 i4 else f2_189 g0 i1 i2 i3 i4
set_option maxRecDepth 65536 in
set_option maxHeartbeats 40000000 in
theorem b2_82 {p : Program} {l : Launch} {e : Env} {s : State} {m : MethodId} {args : Array Value} {below : List Frame} {meth : Method} {c : Code} {T : State} {locs : List Loc} {cells slots : Nat} {Z : State} {a0 : Array Value} {h : Heap} {n0 : Nat} {Q : Option Value → Heap → List Loc → Prop} (o0 : Addr) (g0 : Nat → Int32) (z0 : Nat) (i1 : Int32) (i2 : Int32) (i3 : Int32) (i4 : Int32) (hw : ∀ d ∈ tables_1, d.before a0 Z = true) (X : Stand p l e ({ frames := 0, cells := 0, slots := 0, locals := 0 } : Room) s m args below meth c T locs cells slots) (hx : p.tables.exec = Jvm.exec) (hZ : Z.Warmed39 s.vm) (hby : c.code = prog_131_method_7_code) (hml : c.maxLocals = 5) (hown : s.vm.findClass "com/example/zoria/zoria/xml/XmlInput" = some m.cls) (hret : meth.sig.returnType = some .int) (hlk : meth.locks = false) (eT : T.heap = h) (N : Fr n0 locs) (hc : cells ≤ 0) (hs : slots ≤ 0) (A0 : own_AF Z h o0 .byte z0 g0) (hb0 : own_In z0 i1) (hb1 : own_In z0 (i1 + (1 : Int32))) (hb2 : own_In z0 (i1 + (2 : Int32))) (hb3 : own_In z0 (i1 + (3 : Int32))) (v : Int32) (hv : v = f2_82 g0 i1 i2 i3 i4) (hQ : ∀ L', Fr n0 L' → Q (some (.int v)) h L') :
    own_Fin p e below s Q 0 0 (T.setTop (mkF m 82 #[.val (.ref o0), .val (.int i1), .val (.int i2), .val (.int i3), .val (.int i4)] [])) := by
  refine own_step (fun t k => XS.aloadN X.here hx rfl (hb hby d2_82) rfl rfl k) ?_
  show own_Fin p e below s Q 0 0 (T.setTop (mkF m 83 #[.val (.ref o0), .val (.int i1), .val (.int i2), .val (.int i3), .val (.int i4)] [(.ref o0)]))
  refine own_step (fun t k => XS.iloadN X.here hx rfl (hb hby d2_83) rfl  k) ?_
  show own_Fin p e below s Q 0 0 (T.setTop (mkF m 84 #[.val (.ref o0), .val (.int i1), .val (.int i2), .val (.int i3), .val (.int i4)] [(.int i1), (.ref o0)]))
  refine own_step (fun t k => XS.iconst X.here hx rfl (hb hby d2_84) k) ?_
  show own_Fin p e below s Q 0 0 (T.setTop (mkF m 85 #[.val (.ref o0), .val (.int i1), .val (.int i2), .val (.int i3), .val (.int i4)] [(.int (1 : Int32)), (.int i1), (.ref o0)]))
  refine own_step (fun t k => XS.iadd X.here hx rfl (hb hby d2_85) rfl k) ?_
  show own_Fin p e below s Q 0 0 (T.setTop (mkF m 86 #[.val (.ref o0), .val (.int i1), .val (.int i2), .val (.int i3), .val (.int i4)] [(.int (i1 + (1 : Int32))), (.ref o0)]))
  obtain ⟨ca86, Ar86, Sz86, Ht86⟩ := id A0
  have hin86 : ¬ ((i1 + (1 : Int32)) < 0 ∨ ca86.slots.size ≤ ((i1 + (1 : Int32))).toNatClampNeg) := by rw [Sz86]; exact hb1
  refine own_step (X.baloadBytes hx (j := (i1 + (1 : Int32))) (v := (.int (g0 ((i1 + (1 : Int32))).toNatClampNeg))) (by rw [eT]; exact Ar86.1) (State.isArrayOf_alike hZ.alike Ar86.2.1) Ar86.2.2 hin86 (Ht86 _ (by have hq := Nat.lt_of_not_le (fun y => hin86 (Or.inr y)); rw [Sz86] at hq; exact hq)) (g := (mkF m 86 #[.val (.ref o0), .val (.int i1), .val (.int i2), .val (.int i3), .val (.int i4)] [(.int (i1 + (1 : Int32))), (.ref o0)])) rfl rfl (hb hby d2_86)) ?_
  show own_Fin p e below s Q 0 0 (T.setTop (mkF m 87 #[.val (.ref o0), .val (.int i1), .val (.int i2), .val (.int i3), .val (.int i4)] [(.int (g0 ((i1 + (1 : Int32))).toNatClampNeg))]))
  refine own_step (fun t k => XS.sipush X.here hx rfl (hb hby d2_87) k) ?_
  show own_Fin p e below s Q 0 0 (T.setTop (mkF m 90 #[.val (.ref o0), .val (.int i1), .val (.int i2), .val (.int i3), .val (.int i4)] [(.int (192 : Int32)), (.int (g0 ((i1 + (1 : Int32))).toNatClampNeg))]))
  refine own_step (fun t k => XS.iand X.here hx rfl (hb hby d2_90) rfl k) ?_
  show own_Fin p e below s Q 0 0 (T.setTop (mkF m 91 #[.val (.ref o0), .val (.int i1), .val (.int i2), .val (.int i3), .val (.int i4)] [(.int ((g0 ((i1 + (1 : Int32))).toNatClampNeg) &&& (192 : Int32)))]))
  refine own_step (fun t k => XS.sipush X.here hx rfl (hb hby d2_91) k) ?_
  show own_Fin p e below s Q 0 0 (T.setTop (mkF m 94 #[.val (.ref o0), .val (.int i1), .val (.int i2), .val (.int i3), .val (.int i4)] [(.int (128 : Int32)), (.int ((g0 ((i1 + (1 : Int32))).toNatClampNeg) &&& (192 : Int32)))]))
  by_cases hB94_30 : ((g0 ((i1 + (1 : Int32))).toNatClampNeg) &&& (192 : Int32)) = (128 : Int32)
  · refine own_step (fun t k => XS.icmpNo X.here hx rfl (hb hby d2_94) rfl (teq hB94_30).2 k) ?_
    exact b2_97 o0 g0 z0 i1 i2 i3 i4 hw X hx hZ hby hml hown hret hlk eT N (Nat.le_trans (Nat.add_le_add_right hc 0) (by decide)) (Nat.le_trans (Nat.add_le_add_right hs 0) (by decide)) A0 hb0 hb1 hb2 hb3 v (hv.trans (if_pos hB94_30)) hQ
  · refine own_step (fun t k => XS.icmpYes X.here hx rfl (pc0 := 94) (pc' := 189) rfl (hb hby d2_94) rfl (feq hB94_30).2 (by decide) (by decide) k) ?_
    exact b2_189 o0 g0 z0 i1 i2 i3 i4 hw X hx hZ hby hml hown hret hlk eT N (Nat.le_trans (Nat.add_le_add_right hc 0) (by decide)) (Nat.le_trans (Nat.add_le_add_right hs 0) (by decide)) A0 hb0 hb1 hb2 hb3 v (hv.trans (if_neg hB94_30)) hQ
def f2_76 (g0 : Nat → Int32) (i1 : Int32) (i2 : Int32) (i3 : Int32) (i4 : Int32) : Int32 := if (-17 : Int32) < i3 then f2_189 g0 i1 i2 i3 i4 else f2_82 g0 i1 i2 i3 i4
set_option maxRecDepth 65536 in
set_option maxHeartbeats 40000000 in
theorem b2_76 {p : Program} {l : Launch} {e : Env} {s : State} {m : MethodId} {args : Array Value} {below : List Frame} {meth : Method} {c : Code} {T : State} {locs : List Loc} {cells slots : Nat} {Z : State} {a0 : Array Value} {h : Heap} {n0 : Nat} {Q : Option Value → Heap → List Loc → Prop} (o0 : Addr) (g0 : Nat → Int32) (z0 : Nat) (i1 : Int32) (i2 : Int32) (i3 : Int32) (i4 : Int32) (hw : ∀ d ∈ tables_1, d.before a0 Z = true) (X : Stand p l e ({ frames := 0, cells := 0, slots := 0, locals := 0 } : Room) s m args below meth c T locs cells slots) (hx : p.tables.exec = Jvm.exec) (hZ : Z.Warmed39 s.vm) (hby : c.code = prog_131_method_7_code) (hml : c.maxLocals = 5) (hown : s.vm.findClass "com/example/zoria/zoria/xml/XmlInput" = some m.cls) (hret : meth.sig.returnType = some .int) (hlk : meth.locks = false) (eT : T.heap = h) (N : Fr n0 locs) (hc : cells ≤ 0) (hs : slots ≤ 0) (A0 : own_AF Z h o0 .byte z0 g0) (hb0 : own_In z0 i1) (hb1 : own_In z0 (i1 + (1 : Int32))) (hb2 : own_In z0 (i1 + (2 : Int32))) (hb3 : own_In z0 (i1 + (3 : Int32))) (v : Int32) (hv : v = f2_76 g0 i1 i2 i3 i4) (hQ : ∀ L', Fr n0 L' → Q (some (.int v)) h L') :
    own_Fin p e below s Q 0 0 (T.setTop (mkF m 76 #[.val (.ref o0), .val (.int i1), .val (.int i2), .val (.int i3), .val (.int i4)] [])) := by
  refine own_step (fun t k => XS.iloadN X.here hx rfl (hb hby d2_76) rfl  k) ?_
  show own_Fin p e below s Q 0 0 (T.setTop (mkF m 77 #[.val (.ref o0), .val (.int i1), .val (.int i2), .val (.int i3), .val (.int i4)] [(.int i3)]))
  refine own_step (fun t k => XS.bipush X.here hx rfl (hb hby d2_77) k) ?_
  show own_Fin p e below s Q 0 0 (T.setTop (mkF m 79 #[.val (.ref o0), .val (.int i1), .val (.int i2), .val (.int i3), .val (.int i4)] [(.int (-17 : Int32)), (.int i3)]))
  by_cases hB79_27 : (-17 : Int32) < i3
  · refine own_step (fun t k => XS.icmpYes X.here hx rfl (pc0 := 79) (pc' := 189) rfl (hb hby d2_79) rfl (tlt hB79_27).2.2.1 (by decide) (by decide) k) ?_
    exact b2_189 o0 g0 z0 i1 i2 i3 i4 hw X hx hZ hby hml hown hret hlk eT N (Nat.le_trans (Nat.add_le_add_right hc 0) (by decide)) (Nat.le_trans (Nat.add_le_add_right hs 0) (by decide)) A0 hb0 hb1 hb2 hb3 v (hv.trans (if_pos hB79_27)) hQ
  · refine own_step (fun t k => XS.icmpNo X.here hx rfl (hb hby d2_79) rfl (flt hB79_27).2.2.1 k) ?_
    exact b2_82 o0 g0 z0 i1 i2 i3 i4 hw X hx hZ hby hml hown hret hlk eT N (Nat.le_trans (Nat.add_le_add_right hc 0) (by decide)) (Nat.le_trans (Nat.add_le_add_right hs 0) (by decide)) A0 hb0 hb1 hb2 hb3 v (hv.trans (if_neg hB79_27)) hQ
def f2_70 (g0 : Nat → Int32) (i1 : Int32) (i2 : Int32) (i3 : Int32) (i4 : Int32) : Int32 := if i3 < (-32 : Int32) then f2_189 g0 i1 i2 i3 i4 else f2_76 g0 i1 i2 i3 i4
set_option maxRecDepth 65536 in
set_option maxHeartbeats 40000000 in
theorem b2_70 {p : Program} {l : Launch} {e : Env} {s : State} {m : MethodId} {args : Array Value} {below : List Frame} {meth : Method} {c : Code} {T : State} {locs : List Loc} {cells slots : Nat} {Z : State} {a0 : Array Value} {h : Heap} {n0 : Nat} {Q : Option Value → Heap → List Loc → Prop} (o0 : Addr) (g0 : Nat → Int32) (z0 : Nat) (i1 : Int32) (i2 : Int32) (i3 : Int32) (i4 : Int32) (hw : ∀ d ∈ tables_1, d.before a0 Z = true) (X : Stand p l e ({ frames := 0, cells := 0, slots := 0, locals := 0 } : Room) s m args below meth c T locs cells slots) (hx : p.tables.exec = Jvm.exec) (hZ : Z.Warmed39 s.vm) (hby : c.code = prog_131_method_7_code) (hml : c.maxLocals = 5) (hown : s.vm.findClass "com/example/zoria/zoria/xml/XmlInput" = some m.cls) (hret : meth.sig.returnType = some .int) (hlk : meth.locks = false) (eT : T.heap = h) (N : Fr n0 locs) (hc : cells ≤ 0) (hs : slots ≤ 0) (A0 : own_AF Z h o0 .byte z0 g0) (hb0 : own_In z0 i1) (hb1 : own_In z0 (i1 + (1 : Int32))) (hb2 : own_In z0 (i1 + (2 : Int32))) (hb3 : own_In z0 (i1 + (3 : Int32))) (v : Int32) (hv : v = f2_70 g0 i1 i2 i3 i4) (hQ : ∀ L', Fr n0 L' → Q (some (.int v)) h L') :
    own_Fin p e below s Q 0 0 (T.setTop (mkF m 70 #[.val (.ref o0), .val (.int i1), .val (.int i2), .val (.int i3), .val (.int i4)] [])) := by
  refine own_step (fun t k => XS.iloadN X.here hx rfl (hb hby d2_70) rfl  k) ?_
  show own_Fin p e below s Q 0 0 (T.setTop (mkF m 71 #[.val (.ref o0), .val (.int i1), .val (.int i2), .val (.int i3), .val (.int i4)] [(.int i3)]))
  refine own_step (fun t k => XS.bipush X.here hx rfl (hb hby d2_71) k) ?_
  show own_Fin p e below s Q 0 0 (T.setTop (mkF m 73 #[.val (.ref o0), .val (.int i1), .val (.int i2), .val (.int i3), .val (.int i4)] [(.int (-32 : Int32)), (.int i3)]))
  by_cases hB73_3 : i3 < (-32 : Int32)
  · refine own_step (fun t k => XS.icmpYes X.here hx rfl (pc0 := 73) (pc' := 189) rfl (hb hby d2_73) rfl (tlt hB73_3).1 (by decide) (by decide) k) ?_
    exact b2_189 o0 g0 z0 i1 i2 i3 i4 hw X hx hZ hby hml hown hret hlk eT N (Nat.le_trans (Nat.add_le_add_right hc 0) (by decide)) (Nat.le_trans (Nat.add_le_add_right hs 0) (by decide)) A0 hb0 hb1 hb2 hb3 v (hv.trans (if_pos hB73_3)) hQ
  · refine own_step (fun t k => XS.icmpNo X.here hx rfl (hb hby d2_73) rfl (flt hB73_3).1 k) ?_
    exact b2_76 o0 g0 z0 i1 i2 i3 i4 hw X hx hZ hby hml hown hret hlk eT N (Nat.le_trans (Nat.add_le_add_right hc 0) (by decide)) (Nat.le_trans (Nat.add_le_add_right hs 0) (by decide)) A0 hb0 hb1 hb2 hb3 v (hv.trans (if_neg hB73_3)) hQ
def f2_64 (g0 : Nat → Int32) (i1 : Int32) (i2 : Int32) (i3 : Int32) (i4 : Int32) : Int32 := f2_305 g0 i1 i2 i3 (-1 : Int32)
set_option maxRecDepth 65536 in
set_option maxHeartbeats 40000000 in
theorem b2_64 {p : Program} {l : Launch} {e : Env} {s : State} {m : MethodId} {args : Array Value} {below : List Frame} {meth : Method} {c : Code} {T : State} {locs : List Loc} {cells slots : Nat} {Z : State} {a0 : Array Value} {h : Heap} {n0 : Nat} {Q : Option Value → Heap → List Loc → Prop} (o0 : Addr) (g0 : Nat → Int32) (z0 : Nat) (i1 : Int32) (i2 : Int32) (i3 : Int32) (i4 : Int32) (hw : ∀ d ∈ tables_1, d.before a0 Z = true) (X : Stand p l e ({ frames := 0, cells := 0, slots := 0, locals := 0 } : Room) s m args below meth c T locs cells slots) (hx : p.tables.exec = Jvm.exec) (hZ : Z.Warmed39 s.vm) (hby : c.code = prog_131_method_7_code) (hml : c.maxLocals = 5) (hown : s.vm.findClass "com/example/zoria/zoria/xml/XmlInput" = some m.cls) (hret : meth.sig.returnType = some .int) (hlk : meth.locks = false) (eT : T.heap = h) (N : Fr n0 locs) (hc : cells ≤ 0) (hs : slots ≤ 0) (A0 : own_AF Z h o0 .byte z0 g0) (hb0 : own_In z0 i1) (hb1 : own_In z0 (i1 + (1 : Int32))) (hb2 : own_In z0 (i1 + (2 : Int32))) (hb3 : own_In z0 (i1 + (3 : Int32))) (v : Int32) (hv : v = f2_64 g0 i1 i2 i3 i4) (hQ : ∀ L', Fr n0 L' → Q (some (.int v)) h L') :
    own_Fin p e below s Q 0 0 (T.setTop (mkF m 64 #[.val (.ref o0), .val (.int i1), .val (.int i2), .val (.int i3), .val (.int i4)] [])) := by
  refine own_step (fun t k => XS.iconst X.here hx rfl (hb hby d2_64) k) ?_
  show own_Fin p e below s Q 0 0 (T.setTop (mkF m 65 #[.val (.ref o0), .val (.int i1), .val (.int i2), .val (.int i3), .val (.int i4)] [(.int (-1 : Int32))]))
  refine own_step (fun t k => XS.istore X.here hx rfl (hb hby d2_65) rfl (l' := #[.val (.ref o0), .val (.int i1), .val (.int i2), .val (.int i3), .val (.int (-1 : Int32))]) rfl k) ?_
  show own_Fin p e below s Q 0 0 (T.setTop (mkF m 67 #[.val (.ref o0), .val (.int i1), .val (.int i2), .val (.int i3), .val (.int (-1 : Int32))] []))
  refine own_step (fun t k => XS.goto X.here hx rfl (pc0 := 67) (pc' := 305) rfl (hb hby d2_67) (by decide) (by decide) k) ?_
  exact b2_305 o0 g0 z0 i1 i2 i3 (-1 : Int32) hw X hx hZ hby hml hown hret hlk eT N (Nat.le_trans (Nat.add_le_add_right hc 0) (by decide)) (Nat.le_trans (Nat.add_le_add_right hs 0) (by decide)) A0 hb0 hb1 hb2 hb3 v (hv) hQ
def f2_56 (g0 : Nat → Int32) (i1 : Int32) (i2 : Int32) (i3 : Int32) (i4 : Int32) : Int32 := if i4 < (160 : Int32) then f2_64 g0 i1 i2 i3 i4 else f2_305 g0 i1 i2 i3 i4
set_option maxRecDepth 65536 in
set_option maxHeartbeats 40000000 in
theorem b2_56 {p : Program} {l : Launch} {e : Env} {s : State} {m : MethodId} {args : Array Value} {below : List Frame} {meth : Method} {c : Code} {T : State} {locs : List Loc} {cells slots : Nat} {Z : State} {a0 : Array Value} {h : Heap} {n0 : Nat} {Q : Option Value → Heap → List Loc → Prop} (o0 : Addr) (g0 : Nat → Int32) (z0 : Nat) (i1 : Int32) (i2 : Int32) (i3 : Int32) (i4 : Int32) (hw : ∀ d ∈ tables_1, d.before a0 Z = true) (X : Stand p l e ({ frames := 0, cells := 0, slots := 0, locals := 0 } : Room) s m args below meth c T locs cells slots) (hx : p.tables.exec = Jvm.exec) (hZ : Z.Warmed39 s.vm) (hby : c.code = prog_131_method_7_code) (hml : c.maxLocals = 5) (hown : s.vm.findClass "com/example/zoria/zoria/xml/XmlInput" = some m.cls) (hret : meth.sig.returnType = some .int) (hlk : meth.locks = false) (eT : T.heap = h) (N : Fr n0 locs) (hc : cells ≤ 0) (hs : slots ≤ 0) (A0 : own_AF Z h o0 .byte z0 g0) (hb0 : own_In z0 i1) (hb1 : own_In z0 (i1 + (1 : Int32))) (hb2 : own_In z0 (i1 + (2 : Int32))) (hb3 : own_In z0 (i1 + (3 : Int32))) (v : Int32) (hv : v = f2_56 g0 i1 i2 i3 i4) (hQ : ∀ L', Fr n0 L' → Q (some (.int v)) h L') :
    own_Fin p e below s Q 0 0 (T.setTop (mkF m 56 #[.val (.ref o0), .val (.int i1), .val (.int i2), .val (.int i3), .val (.int i4)] [])) := by
  refine own_step (fun t k => XS.iload X.here hx rfl (hb hby d2_56) rfl  k) ?_
  show own_Fin p e below s Q 0 0 (T.setTop (mkF m 58 #[.val (.ref o0), .val (.int i1), .val (.int i2), .val (.int i3), .val (.int i4)] [(.int i4)]))
  refine own_step (fun t k => XS.sipush X.here hx rfl (hb hby d2_58) k) ?_
  show own_Fin p e below s Q 0 0 (T.setTop (mkF m 61 #[.val (.ref o0), .val (.int i1), .val (.int i2), .val (.int i3), .val (.int i4)] [(.int (160 : Int32)), (.int i4)]))
  by_cases hB61_63 : i4 < (160 : Int32)
  · refine own_step (fun t k => XS.icmpNo X.here hx rfl (hb hby d2_61) rfl (tlt hB61_63).2.1 k) ?_
    exact b2_64 o0 g0 z0 i1 i2 i3 i4 hw X hx hZ hby hml hown hret hlk eT N (Nat.le_trans (Nat.add_le_add_right hc 0) (by decide)) (Nat.le_trans (Nat.add_le_add_right hs 0) (by decide)) A0 hb0 hb1 hb2 hb3 v (hv.trans (if_pos hB61_63)) hQ
  · refine own_step (fun t k => XS.icmpYes X.here hx rfl (pc0 := 61) (pc' := 305) rfl (hb hby d2_61) rfl (flt hB61_63).2.1 (by decide) (by decide) k) ?_
    exact b2_305 o0 g0 z0 i1 i2 i3 i4 hw X hx hZ hby hml hown hret hlk eT N (Nat.le_trans (Nat.add_le_add_right hc 0) (by decide)) (Nat.le_trans (Nat.add_le_add_right hs 0) (by decide)) A0 hb0 hb1 hb2 hb3 v (hv.trans (if_neg hB61_63)) hQ
def f2_34 (g0 : Nat → Int32) (i1 : Int32) (i2 : Int32) (i3 : Int32) (i4 : Int32) : Int32 := if i2 = (0 : Int32) then f2_305 g0 i1 i2 i3 (((i3 &&& (31 : Int32)) <<< ((6 : Int32) &&& 31)) ||| ((g0 ((i1 + (1 : Int32))).toNatClampNeg) &&& (63 : Int32))) else f2_56 g0 i1 i2 i3 (((i3 &&& (31 : Int32)) <<< ((6 : Int32) &&& 31)) ||| ((g0 ((i1 + (1 : Int32))).toNatClampNeg) &&& (63 : Int32)))
set_option maxRecDepth 65536 in
set_option maxHeartbeats 40000000 in
theorem b2_34 {p : Program} {l : Launch} {e : Env} {s : State} {m : MethodId} {args : Array Value} {below : List Frame} {meth : Method} {c : Code} {T : State} {locs : List Loc} {cells slots : Nat} {Z : State} {a0 : Array Value} {h : Heap} {n0 : Nat} {Q : Option Value → Heap → List Loc → Prop} (o0 : Addr) (g0 : Nat → Int32) (z0 : Nat) (i1 : Int32) (i2 : Int32) (i3 : Int32) (i4 : Int32) (hw : ∀ d ∈ tables_1, d.before a0 Z = true) (X : Stand p l e ({ frames := 0, cells := 0, slots := 0, locals := 0 } : Room) s m args below meth c T locs cells slots) (hx : p.tables.exec = Jvm.exec) (hZ : Z.Warmed39 s.vm) (hby : c.code = prog_131_method_7_code) (hml : c.maxLocals = 5) (hown : s.vm.findClass "com/example/zoria/zoria/xml/XmlInput" = some m.cls) (hret : meth.sig.returnType = some .int) (hlk : meth.locks = false) (eT : T.heap = h) (N : Fr n0 locs) (hc : cells ≤ 0) (hs : slots ≤ 0) (A0 : own_AF Z h o0 .byte z0 g0) (hb0 : own_In z0 i1) (hb1 : own_In z0 (i1 + (1 : Int32))) (hb2 : own_In z0 (i1 + (2 : Int32))) (hb3 : own_In z0 (i1 + (3 : Int32))) (v : Int32) (hv : v = f2_34 g0 i1 i2 i3 i4) (hQ : ∀ L', Fr n0 L' → Q (some (.int v)) h L') :
    own_Fin p e below s Q 0 0 (T.setTop (mkF m 34 #[.val (.ref o0), .val (.int i1), .val (.int i2), .val (.int i3), .val (.int i4)] [])) := by
  refine own_step (fun t k => XS.iloadN X.here hx rfl (hb hby d2_34) rfl  k) ?_
  show own_Fin p e below s Q 0 0 (T.setTop (mkF m 35 #[.val (.ref o0), .val (.int i1), .val (.int i2), .val (.int i3), .val (.int i4)] [(.int i3)]))
  refine own_step (fun t k => XS.bipush X.here hx rfl (hb hby d2_35) k) ?_
  show own_Fin p e below s Q 0 0 (T.setTop (mkF m 37 #[.val (.ref o0), .val (.int i1), .val (.int i2), .val (.int i3), .val (.int i4)] [(.int (31 : Int32)), (.int i3)]))
  refine own_step (fun t k => XS.iand X.here hx rfl (hb hby d2_37) rfl k) ?_
  show own_Fin p e below s Q 0 0 (T.setTop (mkF m 38 #[.val (.ref o0), .val (.int i1), .val (.int i2), .val (.int i3), .val (.int i4)] [(.int (i3 &&& (31 : Int32)))]))
  refine own_step (fun t k => XS.bipush X.here hx rfl (hb hby d2_38) k) ?_
  show own_Fin p e below s Q 0 0 (T.setTop (mkF m 40 #[.val (.ref o0), .val (.int i1), .val (.int i2), .val (.int i3), .val (.int i4)] [(.int (6 : Int32)), (.int (i3 &&& (31 : Int32)))]))
  refine own_step (fun t k => XS.ishl X.here hx rfl (hb hby d2_40) rfl k) ?_
  show own_Fin p e below s Q 0 0 (T.setTop (mkF m 41 #[.val (.ref o0), .val (.int i1), .val (.int i2), .val (.int i3), .val (.int i4)] [(.int ((i3 &&& (31 : Int32)) <<< ((6 : Int32) &&& 31)))]))
  refine own_step (fun t k => XS.aloadN X.here hx rfl (hb hby d2_41) rfl rfl k) ?_
  show own_Fin p e below s Q 0 0 (T.setTop (mkF m 42 #[.val (.ref o0), .val (.int i1), .val (.int i2), .val (.int i3), .val (.int i4)] [(.ref o0), (.int ((i3 &&& (31 : Int32)) <<< ((6 : Int32) &&& 31)))]))
  refine own_step (fun t k => XS.iloadN X.here hx rfl (hb hby d2_42) rfl  k) ?_
  show own_Fin p e below s Q 0 0 (T.setTop (mkF m 43 #[.val (.ref o0), .val (.int i1), .val (.int i2), .val (.int i3), .val (.int i4)] [(.int i1), (.ref o0), (.int ((i3 &&& (31 : Int32)) <<< ((6 : Int32) &&& 31)))]))
  refine own_step (fun t k => XS.iconst X.here hx rfl (hb hby d2_43) k) ?_
  show own_Fin p e below s Q 0 0 (T.setTop (mkF m 44 #[.val (.ref o0), .val (.int i1), .val (.int i2), .val (.int i3), .val (.int i4)] [(.int (1 : Int32)), (.int i1), (.ref o0), (.int ((i3 &&& (31 : Int32)) <<< ((6 : Int32) &&& 31)))]))
  refine own_step (fun t k => XS.iadd X.here hx rfl (hb hby d2_44) rfl k) ?_
  show own_Fin p e below s Q 0 0 (T.setTop (mkF m 45 #[.val (.ref o0), .val (.int i1), .val (.int i2), .val (.int i3), .val (.int i4)] [(.int (i1 + (1 : Int32))), (.ref o0), (.int ((i3 &&& (31 : Int32)) <<< ((6 : Int32) &&& 31)))]))
  obtain ⟨ca45, Ar45, Sz45, Ht45⟩ := id A0
  have hin45 : ¬ ((i1 + (1 : Int32)) < 0 ∨ ca45.slots.size ≤ ((i1 + (1 : Int32))).toNatClampNeg) := by rw [Sz45]; exact hb1
  refine own_step (X.baloadBytes hx (j := (i1 + (1 : Int32))) (v := (.int (g0 ((i1 + (1 : Int32))).toNatClampNeg))) (by rw [eT]; exact Ar45.1) (State.isArrayOf_alike hZ.alike Ar45.2.1) Ar45.2.2 hin45 (Ht45 _ (by have hq := Nat.lt_of_not_le (fun y => hin45 (Or.inr y)); rw [Sz45] at hq; exact hq)) (g := (mkF m 45 #[.val (.ref o0), .val (.int i1), .val (.int i2), .val (.int i3), .val (.int i4)] [(.int (i1 + (1 : Int32))), (.ref o0), (.int ((i3 &&& (31 : Int32)) <<< ((6 : Int32) &&& 31)))])) rfl rfl (hb hby d2_45)) ?_
  show own_Fin p e below s Q 0 0 (T.setTop (mkF m 46 #[.val (.ref o0), .val (.int i1), .val (.int i2), .val (.int i3), .val (.int i4)] [(.int (g0 ((i1 + (1 : Int32))).toNatClampNeg)), (.int ((i3 &&& (31 : Int32)) <<< ((6 : Int32) &&& 31)))]))
  refine own_step (fun t k => XS.bipush X.here hx rfl (hb hby d2_46) k) ?_
  show own_Fin p e below s Q 0 0 (T.setTop (mkF m 48 #[.val (.ref o0), .val (.int i1), .val (.int i2), .val (.int i3), .val (.int i4)] [(.int (63 : Int32)), (.int (g0 ((i1 + (1 : Int32))).toNatClampNeg)), (.int ((i3 &&& (31 : Int32)) <<< ((6 : Int32) &&& 31)))]))
  refine own_step (fun t k => XS.iand X.here hx rfl (hb hby d2_48) rfl k) ?_
  show own_Fin p e below s Q 0 0 (T.setTop (mkF m 49 #[.val (.ref o0), .val (.int i1), .val (.int i2), .val (.int i3), .val (.int i4)] [(.int ((g0 ((i1 + (1 : Int32))).toNatClampNeg) &&& (63 : Int32))), (.int ((i3 &&& (31 : Int32)) <<< ((6 : Int32) &&& 31)))]))
  refine own_step (fun t k => XS.ior X.here hx rfl (hb hby d2_49) rfl k) ?_
  show own_Fin p e below s Q 0 0 (T.setTop (mkF m 50 #[.val (.ref o0), .val (.int i1), .val (.int i2), .val (.int i3), .val (.int i4)] [(.int (((i3 &&& (31 : Int32)) <<< ((6 : Int32) &&& 31)) ||| ((g0 ((i1 + (1 : Int32))).toNatClampNeg) &&& (63 : Int32))))]))
  refine own_step (fun t k => XS.istore X.here hx rfl (hb hby d2_50) rfl (l' := #[.val (.ref o0), .val (.int i1), .val (.int i2), .val (.int i3), .val (.int (((i3 &&& (31 : Int32)) <<< ((6 : Int32) &&& 31)) ||| ((g0 ((i1 + (1 : Int32))).toNatClampNeg) &&& (63 : Int32))))]) rfl k) ?_
  show own_Fin p e below s Q 0 0 (T.setTop (mkF m 52 #[.val (.ref o0), .val (.int i1), .val (.int i2), .val (.int i3), .val (.int (((i3 &&& (31 : Int32)) <<< ((6 : Int32) &&& 31)) ||| ((g0 ((i1 + (1 : Int32))).toNatClampNeg) &&& (63 : Int32))))] []))
  refine own_step (fun t k => XS.iloadN X.here hx rfl (hb hby d2_52) rfl  k) ?_
  show own_Fin p e below s Q 0 0 (T.setTop (mkF m 53 #[.val (.ref o0), .val (.int i1), .val (.int i2), .val (.int i3), .val (.int (((i3 &&& (31 : Int32)) <<< ((6 : Int32) &&& 31)) ||| ((g0 ((i1 + (1 : Int32))).toNatClampNeg) &&& (63 : Int32))))] [(.int i2)]))
  by_cases hB53_60 : i2 = (0 : Int32)
  · refine own_step (fun t k => XS.ifYes X.here hx rfl (pc0 := 53) (pc' := 305) rfl (hb hby d2_53) rfl ((if0 _ _).trans (teq hB53_60).1) (by decide) (by decide) k) ?_
    exact b2_305 o0 g0 z0 i1 i2 i3 (((i3 &&& (31 : Int32)) <<< ((6 : Int32) &&& 31)) ||| ((g0 ((i1 + (1 : Int32))).toNatClampNeg) &&& (63 : Int32))) hw X hx hZ hby hml hown hret hlk eT N (Nat.le_trans (Nat.add_le_add_right hc 0) (by decide)) (Nat.le_trans (Nat.add_le_add_right hs 0) (by decide)) A0 hb0 hb1 hb2 hb3 v (hv.trans (if_pos hB53_60)) hQ
  · refine own_step (fun t k => XS.ifNo X.here hx rfl (hb hby d2_53) rfl ((if0 _ _).trans (feq hB53_60).1) k) ?_
    exact b2_56 o0 g0 z0 i1 i2 i3 (((i3 &&& (31 : Int32)) <<< ((6 : Int32) &&& 31)) ||| ((g0 ((i1 + (1 : Int32))).toNatClampNeg) &&& (63 : Int32))) hw X hx hZ hby hml hown hret hlk eT N (Nat.le_trans (Nat.add_le_add_right hc 0) (by decide)) (Nat.le_trans (Nat.add_le_add_right hs 0) (by decide)) A0 hb0 hb1 hb2 hb3 v (hv.trans (if_neg hB53_60)) hQ
def f2_19 (g0 : Nat → Int32) (i1 : Int32) (i2 : Int32) (i3 : Int32) (i4 : Int32) : Int32 := if ((g0 ((i1 + (1 : Int32))).toNatClampNeg) &&& (192 : Int32)) = (128 : Int32) then f2_34 g0 i1 i2 i3 i4 else f2_70 g0 i1 i2 i3 i4
set_option maxRecDepth 65536 in
set_option maxHeartbeats 40000000 in
theorem b2_19 {p : Program} {l : Launch} {e : Env} {s : State} {m : MethodId} {args : Array Value} {below : List Frame} {meth : Method} {c : Code} {T : State} {locs : List Loc} {cells slots : Nat} {Z : State} {a0 : Array Value} {h : Heap} {n0 : Nat} {Q : Option Value → Heap → List Loc → Prop} (o0 : Addr) (g0 : Nat → Int32) (z0 : Nat) (i1 : Int32) (i2 : Int32) (i3 : Int32) (i4 : Int32) (hw : ∀ d ∈ tables_1, d.before a0 Z = true) (X : Stand p l e ({ frames := 0, cells := 0, slots := 0, locals := 0 } : Room) s m args below meth c T locs cells slots) (hx : p.tables.exec = Jvm.exec) (hZ : Z.Warmed39 s.vm) (hby : c.code = prog_131_method_7_code) (hml : c.maxLocals = 5) (hown : s.vm.findClass "com/example/zoria/zoria/xml/XmlInput" = some m.cls) (hret : meth.sig.returnType = some .int) (hlk : meth.locks = false) (eT : T.heap = h) (N : Fr n0 locs) (hc : cells ≤ 0) (hs : slots ≤ 0) (A0 : own_AF Z h o0 .byte z0 g0) (hb0 : own_In z0 i1) (hb1 : own_In z0 (i1 + (1 : Int32))) (hb2 : own_In z0 (i1 + (2 : Int32))) (hb3 : own_In z0 (i1 + (3 : Int32))) (v : Int32) (hv : v = f2_19 g0 i1 i2 i3 i4) (hQ : ∀ L', Fr n0 L' → Q (some (.int v)) h L') :
    own_Fin p e below s Q 0 0 (T.setTop (mkF m 19 #[.val (.ref o0), .val (.int i1), .val (.int i2), .val (.int i3), .val (.int i4)] [])) := by
  refine own_step (fun t k => XS.aloadN X.here hx rfl (hb hby d2_19) rfl rfl k) ?_
  show own_Fin p e below s Q 0 0 (T.setTop (mkF m 20 #[.val (.ref o0), .val (.int i1), .val (.int i2), .val (.int i3), .val (.int i4)] [(.ref o0)]))
  refine own_step (fun t k => XS.iloadN X.here hx rfl (hb hby d2_20) rfl  k) ?_
  show own_Fin p e below s Q 0 0 (T.setTop (mkF m 21 #[.val (.ref o0), .val (.int i1), .val (.int i2), .val (.int i3), .val (.int i4)] [(.int i1), (.ref o0)]))
  refine own_step (fun t k => XS.iconst X.here hx rfl (hb hby d2_21) k) ?_
  show own_Fin p e below s Q 0 0 (T.setTop (mkF m 22 #[.val (.ref o0), .val (.int i1), .val (.int i2), .val (.int i3), .val (.int i4)] [(.int (1 : Int32)), (.int i1), (.ref o0)]))
  refine own_step (fun t k => XS.iadd X.here hx rfl (hb hby d2_22) rfl k) ?_
  show own_Fin p e below s Q 0 0 (T.setTop (mkF m 23 #[.val (.ref o0), .val (.int i1), .val (.int i2), .val (.int i3), .val (.int i4)] [(.int (i1 + (1 : Int32))), (.ref o0)]))
  obtain ⟨ca23, Ar23, Sz23, Ht23⟩ := id A0
  have hin23 : ¬ ((i1 + (1 : Int32)) < 0 ∨ ca23.slots.size ≤ ((i1 + (1 : Int32))).toNatClampNeg) := by rw [Sz23]; exact hb1
  refine own_step (X.baloadBytes hx (j := (i1 + (1 : Int32))) (v := (.int (g0 ((i1 + (1 : Int32))).toNatClampNeg))) (by rw [eT]; exact Ar23.1) (State.isArrayOf_alike hZ.alike Ar23.2.1) Ar23.2.2 hin23 (Ht23 _ (by have hq := Nat.lt_of_not_le (fun y => hin23 (Or.inr y)); rw [Sz23] at hq; exact hq)) (g := (mkF m 23 #[.val (.ref o0), .val (.int i1), .val (.int i2), .val (.int i3), .val (.int i4)] [(.int (i1 + (1 : Int32))), (.ref o0)])) rfl rfl (hb hby d2_23)) ?_
  show own_Fin p e below s Q 0 0 (T.setTop (mkF m 24 #[.val (.ref o0), .val (.int i1), .val (.int i2), .val (.int i3), .val (.int i4)] [(.int (g0 ((i1 + (1 : Int32))).toNatClampNeg))]))
  refine own_step (fun t k => XS.sipush X.here hx rfl (hb hby d2_24) k) ?_
  show own_Fin p e below s Q 0 0 (T.setTop (mkF m 27 #[.val (.ref o0), .val (.int i1), .val (.int i2), .val (.int i3), .val (.int i4)] [(.int (192 : Int32)), (.int (g0 ((i1 + (1 : Int32))).toNatClampNeg))]))
  refine own_step (fun t k => XS.iand X.here hx rfl (hb hby d2_27) rfl k) ?_
  show own_Fin p e below s Q 0 0 (T.setTop (mkF m 28 #[.val (.ref o0), .val (.int i1), .val (.int i2), .val (.int i3), .val (.int i4)] [(.int ((g0 ((i1 + (1 : Int32))).toNatClampNeg) &&& (192 : Int32)))]))
  refine own_step (fun t k => XS.sipush X.here hx rfl (hb hby d2_28) k) ?_
  show own_Fin p e below s Q 0 0 (T.setTop (mkF m 31 #[.val (.ref o0), .val (.int i1), .val (.int i2), .val (.int i3), .val (.int i4)] [(.int (128 : Int32)), (.int ((g0 ((i1 + (1 : Int32))).toNatClampNeg) &&& (192 : Int32)))]))
  by_cases hB31_58 : ((g0 ((i1 + (1 : Int32))).toNatClampNeg) &&& (192 : Int32)) = (128 : Int32)
  · refine own_step (fun t k => XS.icmpNo X.here hx rfl (hb hby d2_31) rfl (teq hB31_58).2 k) ?_
    exact b2_34 o0 g0 z0 i1 i2 i3 i4 hw X hx hZ hby hml hown hret hlk eT N (Nat.le_trans (Nat.add_le_add_right hc 0) (by decide)) (Nat.le_trans (Nat.add_le_add_right hs 0) (by decide)) A0 hb0 hb1 hb2 hb3 v (hv.trans (if_pos hB31_58)) hQ
  · refine own_step (fun t k => XS.icmpYes X.here hx rfl (pc0 := 31) (pc' := 70) rfl (hb hby d2_31) rfl (feq hB31_58).2 (by decide) (by decide) k) ?_
    exact b2_70 o0 g0 z0 i1 i2 i3 i4 hw X hx hZ hby hml hown hret hlk eT N (Nat.le_trans (Nat.add_le_add_right hc 0) (by decide)) (Nat.le_trans (Nat.add_le_add_right hs 0) (by decide)) A0 hb0 hb1 hb2 hb3 v (hv.trans (if_neg hB31_58)) hQ
def f2_13 (g0 : Nat → Int32) (i1 : Int32) (i2 : Int32) (i3 : Int32) (i4 : Int32) : Int32 := if (-33 : Int32) < i3 then f2_70 g0 i1 i2 i3 i4 else f2_19 g0 i1 i2 i3 i4
set_option maxRecDepth 65536 in
set_option maxHeartbeats 40000000 in
theorem b2_13 {p : Program} {l : Launch} {e : Env} {s : State} {m : MethodId} {args : Array Value} {below : List Frame} {meth : Method} {c : Code} {T : State} {locs : List Loc} {cells slots : Nat} {Z : State} {a0 : Array Value} {h : Heap} {n0 : Nat} {Q : Option Value → Heap → List Loc → Prop} (o0 : Addr) (g0 : Nat → Int32) (z0 : Nat) (i1 : Int32) (i2 : Int32) (i3 : Int32) (i4 : Int32) (hw : ∀ d ∈ tables_1, d.before a0 Z = true) (X : Stand p l e ({ frames := 0, cells := 0, slots := 0, locals := 0 } : Room) s m args below meth c T locs cells slots) (hx : p.tables.exec = Jvm.exec) (hZ : Z.Warmed39 s.vm) (hby : c.code = prog_131_method_7_code) (hml : c.maxLocals = 5) (hown : s.vm.findClass "com/example/zoria/zoria/xml/XmlInput" = some m.cls) (hret : meth.sig.returnType = some .int) (hlk : meth.locks = false) (eT : T.heap = h) (N : Fr n0 locs) (hc : cells ≤ 0) (hs : slots ≤ 0) (A0 : own_AF Z h o0 .byte z0 g0) (hb0 : own_In z0 i1) (hb1 : own_In z0 (i1 + (1 : Int32))) (hb2 : own_In z0 (i1 + (2 : Int32))) (hb3 : own_In z0 (i1 + (3 : Int32))) (v : Int32) (hv : v = f2_13 g0 i1 i2 i3 i4) (hQ : ∀ L', Fr n0 L' → Q (some (.int v)) h L') :
    own_Fin p e below s Q 0 0 (T.setTop (mkF m 13 #[.val (.ref o0), .val (.int i1), .val (.int i2), .val (.int i3), .val (.int i4)] [])) := by
  refine own_step (fun t k => XS.iloadN X.here hx rfl (hb hby d2_13) rfl  k) ?_
  show own_Fin p e below s Q 0 0 (T.setTop (mkF m 14 #[.val (.ref o0), .val (.int i1), .val (.int i2), .val (.int i3), .val (.int i4)] [(.int i3)]))
  refine own_step (fun t k => XS.bipush X.here hx rfl (hb hby d2_14) k) ?_
  show own_Fin p e below s Q 0 0 (T.setTop (mkF m 16 #[.val (.ref o0), .val (.int i1), .val (.int i2), .val (.int i3), .val (.int i4)] [(.int (-33 : Int32)), (.int i3)]))
  by_cases hB16_55 : (-33 : Int32) < i3
  · refine own_step (fun t k => XS.icmpYes X.here hx rfl (pc0 := 16) (pc' := 70) rfl (hb hby d2_16) rfl (tlt hB16_55).2.2.1 (by decide) (by decide) k) ?_
    exact b2_70 o0 g0 z0 i1 i2 i3 i4 hw X hx hZ hby hml hown hret hlk eT N (Nat.le_trans (Nat.add_le_add_right hc 0) (by decide)) (Nat.le_trans (Nat.add_le_add_right hs 0) (by decide)) A0 hb0 hb1 hb2 hb3 v (hv.trans (if_pos hB16_55)) hQ
  · refine own_step (fun t k => XS.icmpNo X.here hx rfl (hb hby d2_16) rfl (flt hB16_55).2.2.1 k) ?_
    exact b2_19 o0 g0 z0 i1 i2 i3 i4 hw X hx hZ hby hml hown hret hlk eT N (Nat.le_trans (Nat.add_le_add_right hc 0) (by decide)) (Nat.le_trans (Nat.add_le_add_right hs 0) (by decide)) A0 hb0 hb1 hb2 hb3 v (hv.trans (if_neg hB16_55)) hQ
def f2_0 (g0 : Nat → Int32) (i1 : Int32) (i2 : Int32) : Int32 := if (g0 (i1).toNatClampNeg) < (-62 : Int32) then f2_70 g0 i1 i2 (g0 (i1).toNatClampNeg) (-1 : Int32) else f2_13 g0 i1 i2 (g0 (i1).toNatClampNeg) (-1 : Int32)
set_option maxRecDepth 65536 in
set_option maxHeartbeats 40000000 in
theorem b2_0 {p : Program} {l : Launch} {e : Env} {s : State} {m : MethodId} {args : Array Value} {below : List Frame} {meth : Method} {c : Code} {T : State} {locs : List Loc} {cells slots : Nat} {Z : State} {a0 : Array Value} {h : Heap} {n0 : Nat} {Q : Option Value → Heap → List Loc → Prop} (o0 : Addr) (g0 : Nat → Int32) (z0 : Nat) (i1 : Int32) (i2 : Int32) (hw : ∀ d ∈ tables_1, d.before a0 Z = true) (X : Stand p l e ({ frames := 0, cells := 0, slots := 0, locals := 0 } : Room) s m args below meth c T locs cells slots) (hx : p.tables.exec = Jvm.exec) (hZ : Z.Warmed39 s.vm) (hby : c.code = prog_131_method_7_code) (hml : c.maxLocals = 5) (hown : s.vm.findClass "com/example/zoria/zoria/xml/XmlInput" = some m.cls) (hret : meth.sig.returnType = some .int) (hlk : meth.locks = false) (eT : T.heap = h) (N : Fr n0 locs) (hc : cells ≤ 0) (hs : slots ≤ 0) (A0 : own_AF Z h o0 .byte z0 g0) (hb0 : own_In z0 i1) (hb1 : own_In z0 (i1 + (1 : Int32))) (hb2 : own_In z0 (i1 + (2 : Int32))) (hb3 : own_In z0 (i1 + (3 : Int32))) (v : Int32) (hv : v = f2_0 g0 i1 i2) (hQ : ∀ L', Fr n0 L' → Q (some (.int v)) h L') :
    own_Fin p e below s Q 0 0 (T.setTop (mkF m 0 #[.val (.ref o0), .val (.int i1), .val (.int i2), .unset, .unset] [])) := by
  refine own_step (fun t k => XS.aloadN X.here hx rfl (hb hby d2_0) rfl rfl k) ?_
  show own_Fin p e below s Q 0 0 (T.setTop (mkF m 1 #[.val (.ref o0), .val (.int i1), .val (.int i2), .unset, .unset] [(.ref o0)]))
  refine own_step (fun t k => XS.iloadN X.here hx rfl (hb hby d2_1) rfl  k) ?_
  show own_Fin p e below s Q 0 0 (T.setTop (mkF m 2 #[.val (.ref o0), .val (.int i1), .val (.int i2), .unset, .unset] [(.int i1), (.ref o0)]))
  obtain ⟨ca2, Ar2, Sz2, Ht2⟩ := id A0
  have hin2 : ¬ (i1 < 0 ∨ ca2.slots.size ≤ (i1).toNatClampNeg) := by rw [Sz2]; exact hb0
  refine own_step (X.baloadBytes hx (j := i1) (v := (.int (g0 (i1).toNatClampNeg))) (by rw [eT]; exact Ar2.1) (State.isArrayOf_alike hZ.alike Ar2.2.1) Ar2.2.2 hin2 (Ht2 _ (by have hq := Nat.lt_of_not_le (fun y => hin2 (Or.inr y)); rw [Sz2] at hq; exact hq)) (g := (mkF m 2 #[.val (.ref o0), .val (.int i1), .val (.int i2), .unset, .unset] [(.int i1), (.ref o0)])) rfl rfl (hb hby d2_2)) ?_
  show own_Fin p e below s Q 0 0 (T.setTop (mkF m 3 #[.val (.ref o0), .val (.int i1), .val (.int i2), .unset, .unset] [(.int (g0 (i1).toNatClampNeg))]))
  refine own_step (fun t k => XS.istoreN X.here hx rfl (hb hby d2_3) rfl (l' := #[.val (.ref o0), .val (.int i1), .val (.int i2), .val (.int (g0 (i1).toNatClampNeg)), .unset]) rfl k) ?_
  show own_Fin p e below s Q 0 0 (T.setTop (mkF m 4 #[.val (.ref o0), .val (.int i1), .val (.int i2), .val (.int (g0 (i1).toNatClampNeg)), .unset] []))
  refine own_step (fun t k => XS.iconst X.here hx rfl (hb hby d2_4) k) ?_
  show own_Fin p e below s Q 0 0 (T.setTop (mkF m 5 #[.val (.ref o0), .val (.int i1), .val (.int i2), .val (.int (g0 (i1).toNatClampNeg)), .unset] [(.int (-1 : Int32))]))
  refine own_step (fun t k => XS.istore X.here hx rfl (hb hby d2_5) rfl (l' := #[.val (.ref o0), .val (.int i1), .val (.int i2), .val (.int (g0 (i1).toNatClampNeg)), .val (.int (-1 : Int32))]) rfl k) ?_
  show own_Fin p e below s Q 0 0 (T.setTop (mkF m 7 #[.val (.ref o0), .val (.int i1), .val (.int i2), .val (.int (g0 (i1).toNatClampNeg)), .val (.int (-1 : Int32))] []))
  refine own_step (fun t k => XS.iloadN X.here hx rfl (hb hby d2_7) rfl  k) ?_
  show own_Fin p e below s Q 0 0 (T.setTop (mkF m 8 #[.val (.ref o0), .val (.int i1), .val (.int i2), .val (.int (g0 (i1).toNatClampNeg)), .val (.int (-1 : Int32))] [(.int (g0 (i1).toNatClampNeg))]))
  refine own_step (fun t k => XS.bipush X.here hx rfl (hb hby d2_8) k) ?_
  show own_Fin p e below s Q 0 0 (T.setTop (mkF m 10 #[.val (.ref o0), .val (.int i1), .val (.int i2), .val (.int (g0 (i1).toNatClampNeg)), .val (.int (-1 : Int32))] [(.int (-62 : Int32)), (.int (g0 (i1).toNatClampNeg))]))
  by_cases hB10_1 : (g0 (i1).toNatClampNeg) < (-62 : Int32)
  · refine own_step (fun t k => XS.icmpYes X.here hx rfl (pc0 := 10) (pc' := 70) rfl (hb hby d2_10) rfl (tlt hB10_1).1 (by decide) (by decide) k) ?_
    exact b2_70 o0 g0 z0 i1 i2 (g0 (i1).toNatClampNeg) (-1 : Int32) hw X hx hZ hby hml hown hret hlk eT N (Nat.le_trans (Nat.add_le_add_right hc 0) (by decide)) (Nat.le_trans (Nat.add_le_add_right hs 0) (by decide)) A0 hb0 hb1 hb2 hb3 v (hv.trans (if_pos hB10_1)) hQ
  · refine own_step (fun t k => XS.icmpNo X.here hx rfl (hb hby d2_10) rfl (flt hB10_1).1 k) ?_
    exact b2_13 o0 g0 z0 i1 i2 (g0 (i1).toNatClampNeg) (-1 : Int32) hw X hx hZ hby hml hown hret hlk eT N (Nat.le_trans (Nat.add_le_add_right hc 0) (by decide)) (Nat.le_trans (Nat.add_le_add_right hs 0) (by decide)) A0 hb0 hb1 hb2 hb3 v (hv.trans (if_neg hB10_1)) hQ
theorem pnm_0 : plainName "com/example/zoria/zoria/xml/XmlInput" = true := by first | (simp [plainName, overriddenIn]; done) | decide +kernel
theorem pdm_0 : parseMethodDescriptor "([BIZ)I" = some ⟨[(.array .byte), .int, .boolean], some .int⟩ := by decide +kernel
theorem ef_2 (m : MethodId) (o0 : Addr) (i1 : Int32) (i2 : Int32) : entryFrame m #[(.ref o0), (.int i1), (.int i2)] 5 = (mkF m 0 #[.val (.ref o0), .val (.int i1), .val (.int i2), .unset, .unset] []) := by first | (simp [entryFrame, mkF, argsToLocals, Value.category]; done) | rfl
def Q2 (o0 : Addr) (g0 : Nat → Int32) (z0 : Nat) (i1 : Int32) (i2 : Int32) (h0 : Heap) (n0 : Nat) (v : Option Value) (h : Heap) (L : List Loc) : Prop := v = some (.int (f2_0 g0 i1 i2)) ∧ Fr n0 L ∧ h = h0
set_option maxRecDepth 65536 in
set_option maxHeartbeats 4000000 in
theorem rm2 (l : Launch) (Z : State) (a0 : Array Value) (hw : ∀ d ∈ tables_1, d.before a0 Z = true) (ws : List Jvm.Cond) (o0 : Addr) (g0 : Nat → Int32) (z0 : Nat) (i1 : Int32) (i2 : Int32) (h0 : Heap) (n0 : Nat) (A0 : own_AF Z h0 o0 .byte z0 g0) (hb0 : own_In z0 i1) (hb1 : own_In z0 (i1 + (1 : Int32))) (hb2 : own_In z0 (i1 + (2 : Int32))) (hb3 : own_In z0 (i1 + (3 : Int32))) :
    MetFree l (⟨"com/example/zoria/zoria/xml/XmlInput", "standingCharacter", "([BIZ)I"⟩ : MethodName) (head1 (Jvm.Cond.code (⟨"com/example/zoria/zoria/xml/XmlInput", "standingCharacter", "([BIZ)I"⟩ : MethodName) prog_131_method_7_code 5 (some .int) :: ws) ({ frames := 0, cells := 0, slots := 0, locals := 0 } : Room)) (fun a U => a = #[(.ref o0), (.int i1), (.int i2)] ∧ Z.Warmed39 U.vm ∧ U.heap = h0) (fun _ _ _ _ _ => True) (fun _ U o U' => ∃ v L, o = .returned v ∧ Q2 o0 g0 z0 i1 i2 h0 n0 v U'.heap L ∧ FrameEnd U o U' L ({ frames := 0, cells := 0, slots := 0, locals := 0 } : Room).cells ({ frames := 0, cells := 0, slots := 0, locals := 0 } : Room).slots) := by
  refine MetFree.of_bodySF (plainFor_of_name pnm_0) hisR ?_
  intro p e s m args below meth c s₁ Bd hml0 hP hK
  obtain ⟨rfl, hZ, hh⟩ := hP
  have hx := Bd.exec
  have hby := Bd.bytes
  have hml : c.maxLocals = 5 := hml0
  have hown : s.vm.findClass "com/example/zoria/zoria/xml/XmlInput" = some m.cls := findClass_of_methodNamed Bd.named
  have X0 : Stand p l e ({ frames := 0, cells := 0, slots := 0, locals := 0 } : Room) s m #[(.ref o0), (.int i1), (.int i2)] below meth c s₁ [] 0 0 := Stand.of_body Bd
  have e0 : s₁.heap = h0 := by rw [← hh, Bd.state]; rfl
  have fin := b2_0 o0 g0 z0 i1 i2 (Q := Q2 o0 g0 z0 i1 i2 h0 n0) hw X0 hx hZ hby hml hown Bd.returns (BodyLoose.notSynchronized Bd) e0 (Fr.nil n0) (Nat.zero_le _) (Nat.zero_le _) A0 hb0 hb1 hb2 hb3 _ rfl (fun L' n' => ⟨rfl, n', rfl⟩)
  exact own_step (fun t k => castTop (ef_2 m o0 i1 i2) k) fin
theorem d3_0 : decode method_2_code 0 = .ok (.iload_n 0, 1) := by decide +kernel
theorem d3_1 : decode method_2_code 1 = .ok (.sipush 128, 3) := by decide +kernel
theorem d3_4 : decode method_2_code 4 = .ok (.if_icmp .lt 9, 3) := by decide +kernel
theorem d3_7 : decode method_2_code 7 = .ok (.iload_n 0, 1) := by decide +kernel
theorem d3_8 : decode method_2_code 8 = .ok (.ldc 7, 2) := by decide +kernel
theorem d3_10 : decode method_2_code 10 = .ok (.if_icmp .le 5, 3) := by decide +kernel
theorem d3_13 : decode method_2_code 13 = .ok (.iconst 0, 1) := by decide +kernel
theorem d3_14 : decode method_2_code 14 = .ok (.ireturn, 1) := by decide +kernel
theorem d3_15 : decode method_2_code 15 = .ok (.iload_n 0, 1) := by decide +kernel
theorem d3_16 : decode method_2_code 16 = .ok (.ldc 8, 2) := by decide +kernel
theorem d3_18 : decode method_2_code 18 = .ok (.if_icmp .lt 11, 3) := by decide +kernel
theorem d3_21 : decode method_2_code 21 = .ok (.iload_n 0, 1) := by decide +kernel
theorem d3_22 : decode method_2_code 22 = .ok (.ldc 9, 2) := by decide +kernel
theorem d3_24 : decode method_2_code 24 = .ok (.if_icmp .gt 5, 3) := by decide +kernel
theorem d3_27 : decode method_2_code 27 = .ok (.iconst 0, 1) := by decide +kernel
theorem d3_28 : decode method_2_code 28 = .ok (.ireturn, 1) := by decide +kernel
theorem d3_29 : decode method_2_code 29 = .ok (.iload_n 0, 1) := by decide +kernel
theorem d3_30 : decode method_2_code 30 = .ok (.ldc 10, 2) := by decide +kernel
theorem d3_32 : decode method_2_code 32 = .ok (.if_icmp .eq 9, 3) := by decide +kernel
theorem d3_35 : decode method_2_code 35 = .ok (.iload_n 0, 1) := by decide +kernel
theorem d3_36 : decode method_2_code 36 = .ok (.ldc 11, 2) := by decide +kernel
theorem d3_38 : decode method_2_code 38 = .ok (.if_icmp .ne 5, 3) := by decide +kernel
theorem d3_41 : decode method_2_code 41 = .ok (.iconst 0, 1) := by decide +kernel
theorem d3_42 : decode method_2_code 42 = .ok (.ireturn, 1) := by decide +kernel
theorem d3_43 : decode method_2_code 43 = .ok (.iload_n 1, 1) := by decide +kernel
theorem d3_44 : decode method_2_code 44 = .ok (.ifCond .eq 19, 3) := by decide +kernel
theorem d3_47 : decode method_2_code 47 = .ok (.iload_n 0, 1) := by decide +kernel
theorem d3_48 : decode method_2_code 48 = .ok (.sipush 159, 3) := by decide +kernel
theorem d3_51 : decode method_2_code 51 = .ok (.if_icmp .le 10, 3) := by decide +kernel
theorem d3_54 : decode method_2_code 54 = .ok (.iload_n 0, 1) := by decide +kernel
theorem d3_55 : decode method_2_code 55 = .ok (.sipush 8232, 3) := by decide +kernel
theorem d3_58 : decode method_2_code 58 = .ok (.if_icmp .ne 5, 3) := by decide +kernel
theorem d3_61 : decode method_2_code 61 = .ok (.iconst 0, 1) := by decide +kernel
theorem d3_62 : decode method_2_code 62 = .ok (.ireturn, 1) := by decide +kernel
theorem d3_63 : decode method_2_code 63 = .ok (.iconst 1, 1) := by decide +kernel
theorem d3_64 : decode method_2_code 64 = .ok (.ireturn, 1) := by decide +kernel
def f3_13 (i0 : Int32) (i1 : Int32) : Int32 := (0 : Int32)
set_option maxRecDepth 65536 in
set_option maxHeartbeats 40000000 in
theorem b3_13 {p : Program} {l : Launch} {e : Env} {s : State} {m : MethodId} {args : Array Value} {below : List Frame} {meth : Method} {c : Code} {T : State} {locs : List Loc} {cells slots : Nat} {Z : State} {a0 : Array Value} {h : Heap} {n0 : Nat} {Q : Option Value → Heap → List Loc → Prop} (i0 : Int32) (i1 : Int32) (hw : ∀ d ∈ tables_1, d.before a0 Z = true) (X : Stand p l e ({ frames := 0, cells := 0, slots := 0, locals := 0 } : Room) s m args below meth c T locs cells slots) (hx : p.tables.exec = Jvm.exec) (hZ : Z.Warmed39 s.vm) (hby : c.code = method_2_code) (hml : c.maxLocals = 2) (hown : s.vm.findClass "com/example/zoria/zoria/xml/XmlInputStandingCharacterPinLaw" = some m.cls) (hret : meth.sig.returnType = some .boolean) (hlk : meth.locks = false) (eT : T.heap = h) (N : Fr n0 locs) (hc : cells ≤ 0) (hs : slots ≤ 0) (v : Int32) (hv : v = f3_13 i0 i1) (hQ : ∀ L', Fr n0 L' → Q (some (.int v)) h L') :
    own_Fin p e below s Q 0 0 (T.setTop (mkF m 13 #[.val (.int i0), .val (.int i1)] [])) := by
  refine own_step (fun t k => XS.iconst X.here hx rfl (hb hby d3_13) k) ?_
  show own_Fin p e below s Q 0 0 (T.setTop (mkF m 14 #[.val (.int i0), .val (.int i1)] [(.int (0 : Int32))]))
  exact own_retN X hx hlk hret (by simp) (hb hby d3_14) (Nat.le_trans (Nat.add_le_add_right hc 0) (by decide)) (Nat.le_trans (Nat.add_le_add_right hs 0) (by decide)) eT N hQ (hv)
def f3_41 (i0 : Int32) (i1 : Int32) : Int32 := (0 : Int32)
set_option maxRecDepth 65536 in
set_option maxHeartbeats 40000000 in
theorem b3_41 {p : Program} {l : Launch} {e : Env} {s : State} {m : MethodId} {args : Array Value} {below : List Frame} {meth : Method} {c : Code} {T : State} {locs : List Loc} {cells slots : Nat} {Z : State} {a0 : Array Value} {h : Heap} {n0 : Nat} {Q : Option Value → Heap → List Loc → Prop} (i0 : Int32) (i1 : Int32) (hw : ∀ d ∈ tables_1, d.before a0 Z = true) (X : Stand p l e ({ frames := 0, cells := 0, slots := 0, locals := 0 } : Room) s m args below meth c T locs cells slots) (hx : p.tables.exec = Jvm.exec) (hZ : Z.Warmed39 s.vm) (hby : c.code = method_2_code) (hml : c.maxLocals = 2) (hown : s.vm.findClass "com/example/zoria/zoria/xml/XmlInputStandingCharacterPinLaw" = some m.cls) (hret : meth.sig.returnType = some .boolean) (hlk : meth.locks = false) (eT : T.heap = h) (N : Fr n0 locs) (hc : cells ≤ 0) (hs : slots ≤ 0) (v : Int32) (hv : v = f3_41 i0 i1) (hQ : ∀ L', Fr n0 L' → Q (some (.int v)) h L') :
    own_Fin p e below s Q 0 0 (T.setTop (mkF m 41 #[.val (.int i0), .val (.int i1)] [])) := by
  refine own_step (fun t k => XS.iconst X.here hx rfl (hb hby d3_41) k) ?_
  show own_Fin p e below s Q 0 0 (T.setTop (mkF m 42 #[.val (.int i0), .val (.int i1)] [(.int (0 : Int32))]))
  exact own_retN X hx hlk hret (by simp) (hb hby d3_42) (Nat.le_trans (Nat.add_le_add_right hc 0) (by decide)) (Nat.le_trans (Nat.add_le_add_right hs 0) (by decide)) eT N hQ (hv)
def f3_63 (i0 : Int32) (i1 : Int32) : Int32 := (1 : Int32)
set_option maxRecDepth 65536 in
set_option maxHeartbeats 40000000 in
theorem b3_63 {p : Program} {l : Launch} {e : Env} {s : State} {m : MethodId} {args : Array Value} {below : List Frame} {meth : Method} {c : Code} {T : State} {locs : List Loc} {cells slots : Nat} {Z : State} {a0 : Array Value} {h : Heap} {n0 : Nat} {Q : Option Value → Heap → List Loc → Prop} (i0 : Int32) (i1 : Int32) (hw : ∀ d ∈ tables_1, d.before a0 Z = true) (X : Stand p l e ({ frames := 0, cells := 0, slots := 0, locals := 0 } : Room) s m args below meth c T locs cells slots) (hx : p.tables.exec = Jvm.exec) (hZ : Z.Warmed39 s.vm) (hby : c.code = method_2_code) (hml : c.maxLocals = 2) (hown : s.vm.findClass "com/example/zoria/zoria/xml/XmlInputStandingCharacterPinLaw" = some m.cls) (hret : meth.sig.returnType = some .boolean) (hlk : meth.locks = false) (eT : T.heap = h) (N : Fr n0 locs) (hc : cells ≤ 0) (hs : slots ≤ 0) (v : Int32) (hv : v = f3_63 i0 i1) (hQ : ∀ L', Fr n0 L' → Q (some (.int v)) h L') :
    own_Fin p e below s Q 0 0 (T.setTop (mkF m 63 #[.val (.int i0), .val (.int i1)] [])) := by
  refine own_step (fun t k => XS.iconst X.here hx rfl (hb hby d3_63) k) ?_
  show own_Fin p e below s Q 0 0 (T.setTop (mkF m 64 #[.val (.int i0), .val (.int i1)] [(.int (1 : Int32))]))
  exact own_retN X hx hlk hret (by simp) (hb hby d3_64) (Nat.le_trans (Nat.add_le_add_right hc 0) (by decide)) (Nat.le_trans (Nat.add_le_add_right hs 0) (by decide)) eT N hQ (hv)
def f3_61 (i0 : Int32) (i1 : Int32) : Int32 := (0 : Int32)
set_option maxRecDepth 65536 in
set_option maxHeartbeats 40000000 in
theorem b3_61 {p : Program} {l : Launch} {e : Env} {s : State} {m : MethodId} {args : Array Value} {below : List Frame} {meth : Method} {c : Code} {T : State} {locs : List Loc} {cells slots : Nat} {Z : State} {a0 : Array Value} {h : Heap} {n0 : Nat} {Q : Option Value → Heap → List Loc → Prop} (i0 : Int32) (i1 : Int32) (hw : ∀ d ∈ tables_1, d.before a0 Z = true) (X : Stand p l e ({ frames := 0, cells := 0, slots := 0, locals := 0 } : Room) s m args below meth c T locs cells slots) (hx : p.tables.exec = Jvm.exec) (hZ : Z.Warmed39 s.vm) (hby : c.code = method_2_code) (hml : c.maxLocals = 2) (hown : s.vm.findClass "com/example/zoria/zoria/xml/XmlInputStandingCharacterPinLaw" = some m.cls) (hret : meth.sig.returnType = some .boolean) (hlk : meth.locks = false) (eT : T.heap = h) (N : Fr n0 locs) (hc : cells ≤ 0) (hs : slots ≤ 0) (v : Int32) (hv : v = f3_61 i0 i1) (hQ : ∀ L', Fr n0 L' → Q (some (.int v)) h L') :
    own_Fin p e below s Q 0 0 (T.setTop (mkF m 61 #[.val (.int i0), .val (.int i1)] [])) := by
  refine own_step (fun t k => XS.iconst X.here hx rfl (hb hby d3_61) k) ?_
  show own_Fin p e below s Q 0 0 (T.setTop (mkF m 62 #[.val (.int i0), .val (.int i1)] [(.int (0 : Int32))]))
  exact own_retN X hx hlk hret (by simp) (hb hby d3_62) (Nat.le_trans (Nat.add_le_add_right hc 0) (by decide)) (Nat.le_trans (Nat.add_le_add_right hs 0) (by decide)) eT N hQ (hv)
def f3_54 (i0 : Int32) (i1 : Int32) : Int32 := if i0 = (8232 : Int32) then f3_61 i0 i1 else f3_63 i0 i1
set_option maxRecDepth 65536 in
set_option maxHeartbeats 40000000 in
theorem b3_54 {p : Program} {l : Launch} {e : Env} {s : State} {m : MethodId} {args : Array Value} {below : List Frame} {meth : Method} {c : Code} {T : State} {locs : List Loc} {cells slots : Nat} {Z : State} {a0 : Array Value} {h : Heap} {n0 : Nat} {Q : Option Value → Heap → List Loc → Prop} (i0 : Int32) (i1 : Int32) (hw : ∀ d ∈ tables_1, d.before a0 Z = true) (X : Stand p l e ({ frames := 0, cells := 0, slots := 0, locals := 0 } : Room) s m args below meth c T locs cells slots) (hx : p.tables.exec = Jvm.exec) (hZ : Z.Warmed39 s.vm) (hby : c.code = method_2_code) (hml : c.maxLocals = 2) (hown : s.vm.findClass "com/example/zoria/zoria/xml/XmlInputStandingCharacterPinLaw" = some m.cls) (hret : meth.sig.returnType = some .boolean) (hlk : meth.locks = false) (eT : T.heap = h) (N : Fr n0 locs) (hc : cells ≤ 0) (hs : slots ≤ 0) (v : Int32) (hv : v = f3_54 i0 i1) (hQ : ∀ L', Fr n0 L' → Q (some (.int v)) h L') :
    own_Fin p e below s Q 0 0 (T.setTop (mkF m 54 #[.val (.int i0), .val (.int i1)] [])) := by
  refine own_step (fun t k => XS.iloadN X.here hx rfl (hb hby d3_54) rfl  k) ?_
  show own_Fin p e below s Q 0 0 (T.setTop (mkF m 55 #[.val (.int i0), .val (.int i1)] [(.int i0)]))
  refine own_step (fun t k => XS.sipush X.here hx rfl (hb hby d3_55) k) ?_
  show own_Fin p e below s Q 0 0 (T.setTop (mkF m 58 #[.val (.int i0), .val (.int i1)] [(.int (8232 : Int32)), (.int i0)]))
  by_cases hB58_86 : i0 = (8232 : Int32)
  · refine own_step (fun t k => XS.icmpNo X.here hx rfl (hb hby d3_58) rfl (teq hB58_86).2 k) ?_
    exact b3_61 i0 i1 hw X hx hZ hby hml hown hret hlk eT N (Nat.le_trans (Nat.add_le_add_right hc 0) (by decide)) (Nat.le_trans (Nat.add_le_add_right hs 0) (by decide)) v (hv.trans (if_pos hB58_86)) hQ
  · refine own_step (fun t k => XS.icmpYes X.here hx rfl (pc0 := 58) (pc' := 63) rfl (hb hby d3_58) rfl (feq hB58_86).2 (by decide) (by decide) k) ?_
    exact b3_63 i0 i1 hw X hx hZ hby hml hown hret hlk eT N (Nat.le_trans (Nat.add_le_add_right hc 0) (by decide)) (Nat.le_trans (Nat.add_le_add_right hs 0) (by decide)) v (hv.trans (if_neg hB58_86)) hQ
def f3_47 (i0 : Int32) (i1 : Int32) : Int32 := if (159 : Int32) < i0 then f3_54 i0 i1 else f3_61 i0 i1
set_option maxRecDepth 65536 in
set_option maxHeartbeats 40000000 in
theorem b3_47 {p : Program} {l : Launch} {e : Env} {s : State} {m : MethodId} {args : Array Value} {below : List Frame} {meth : Method} {c : Code} {T : State} {locs : List Loc} {cells slots : Nat} {Z : State} {a0 : Array Value} {h : Heap} {n0 : Nat} {Q : Option Value → Heap → List Loc → Prop} (i0 : Int32) (i1 : Int32) (hw : ∀ d ∈ tables_1, d.before a0 Z = true) (X : Stand p l e ({ frames := 0, cells := 0, slots := 0, locals := 0 } : Room) s m args below meth c T locs cells slots) (hx : p.tables.exec = Jvm.exec) (hZ : Z.Warmed39 s.vm) (hby : c.code = method_2_code) (hml : c.maxLocals = 2) (hown : s.vm.findClass "com/example/zoria/zoria/xml/XmlInputStandingCharacterPinLaw" = some m.cls) (hret : meth.sig.returnType = some .boolean) (hlk : meth.locks = false) (eT : T.heap = h) (N : Fr n0 locs) (hc : cells ≤ 0) (hs : slots ≤ 0) (v : Int32) (hv : v = f3_47 i0 i1) (hQ : ∀ L', Fr n0 L' → Q (some (.int v)) h L') :
    own_Fin p e below s Q 0 0 (T.setTop (mkF m 47 #[.val (.int i0), .val (.int i1)] [])) := by
  refine own_step (fun t k => XS.iloadN X.here hx rfl (hb hby d3_47) rfl  k) ?_
  show own_Fin p e below s Q 0 0 (T.setTop (mkF m 48 #[.val (.int i0), .val (.int i1)] [(.int i0)]))
  refine own_step (fun t k => XS.sipush X.here hx rfl (hb hby d3_48) k) ?_
  show own_Fin p e below s Q 0 0 (T.setTop (mkF m 51 #[.val (.int i0), .val (.int i1)] [(.int (159 : Int32)), (.int i0)]))
  by_cases hB51_84 : (159 : Int32) < i0
  · refine own_step (fun t k => XS.icmpNo X.here hx rfl (hb hby d3_51) rfl (tlt hB51_84).2.2.2 k) ?_
    exact b3_54 i0 i1 hw X hx hZ hby hml hown hret hlk eT N (Nat.le_trans (Nat.add_le_add_right hc 0) (by decide)) (Nat.le_trans (Nat.add_le_add_right hs 0) (by decide)) v (hv.trans (if_pos hB51_84)) hQ
  · refine own_step (fun t k => XS.icmpYes X.here hx rfl (pc0 := 51) (pc' := 61) rfl (hb hby d3_51) rfl (flt hB51_84).2.2.2 (by decide) (by decide) k) ?_
    exact b3_61 i0 i1 hw X hx hZ hby hml hown hret hlk eT N (Nat.le_trans (Nat.add_le_add_right hc 0) (by decide)) (Nat.le_trans (Nat.add_le_add_right hs 0) (by decide)) v (hv.trans (if_neg hB51_84)) hQ
def f3_43 (i0 : Int32) (i1 : Int32) : Int32 := if i1 = (0 : Int32) then f3_63 i0 i1 else f3_47 i0 i1
set_option maxRecDepth 65536 in
set_option maxHeartbeats 40000000 in
theorem b3_43 {p : Program} {l : Launch} {e : Env} {s : State} {m : MethodId} {args : Array Value} {below : List Frame} {meth : Method} {c : Code} {T : State} {locs : List Loc} {cells slots : Nat} {Z : State} {a0 : Array Value} {h : Heap} {n0 : Nat} {Q : Option Value → Heap → List Loc → Prop} (i0 : Int32) (i1 : Int32) (hw : ∀ d ∈ tables_1, d.before a0 Z = true) (X : Stand p l e ({ frames := 0, cells := 0, slots := 0, locals := 0 } : Room) s m args below meth c T locs cells slots) (hx : p.tables.exec = Jvm.exec) (hZ : Z.Warmed39 s.vm) (hby : c.code = method_2_code) (hml : c.maxLocals = 2) (hown : s.vm.findClass "com/example/zoria/zoria/xml/XmlInputStandingCharacterPinLaw" = some m.cls) (hret : meth.sig.returnType = some .boolean) (hlk : meth.locks = false) (eT : T.heap = h) (N : Fr n0 locs) (hc : cells ≤ 0) (hs : slots ≤ 0) (v : Int32) (hv : v = f3_43 i0 i1) (hQ : ∀ L', Fr n0 L' → Q (some (.int v)) h L') :
    own_Fin p e below s Q 0 0 (T.setTop (mkF m 43 #[.val (.int i0), .val (.int i1)] [])) := by
  refine own_step (fun t k => XS.iloadN X.here hx rfl (hb hby d3_43) rfl  k) ?_
  show own_Fin p e below s Q 0 0 (T.setTop (mkF m 44 #[.val (.int i0), .val (.int i1)] [(.int i1)]))
  by_cases hB44_81 : i1 = (0 : Int32)
  · refine own_step (fun t k => XS.ifYes X.here hx rfl (pc0 := 44) (pc' := 63) rfl (hb hby d3_44) rfl ((if0 _ _).trans (teq hB44_81).1) (by decide) (by decide) k) ?_
    exact b3_63 i0 i1 hw X hx hZ hby hml hown hret hlk eT N (Nat.le_trans (Nat.add_le_add_right hc 0) (by decide)) (Nat.le_trans (Nat.add_le_add_right hs 0) (by decide)) v (hv.trans (if_pos hB44_81)) hQ
  · refine own_step (fun t k => XS.ifNo X.here hx rfl (hb hby d3_44) rfl ((if0 _ _).trans (feq hB44_81).1) k) ?_
    exact b3_47 i0 i1 hw X hx hZ hby hml hown hret hlk eT N (Nat.le_trans (Nat.add_le_add_right hc 0) (by decide)) (Nat.le_trans (Nat.add_le_add_right hs 0) (by decide)) v (hv.trans (if_neg hB44_81)) hQ
def f3_35 (i0 : Int32) (i1 : Int32) : Int32 := if i0 = (65535 : Int32) then f3_41 i0 i1 else f3_43 i0 i1
set_option maxRecDepth 65536 in
set_option maxHeartbeats 40000000 in
theorem b3_35 {p : Program} {l : Launch} {e : Env} {s : State} {m : MethodId} {args : Array Value} {below : List Frame} {meth : Method} {c : Code} {T : State} {locs : List Loc} {cells slots : Nat} {Z : State} {a0 : Array Value} {h : Heap} {n0 : Nat} {Q : Option Value → Heap → List Loc → Prop} (i0 : Int32) (i1 : Int32) (hw : ∀ d ∈ tables_1, d.before a0 Z = true) (X : Stand p l e ({ frames := 0, cells := 0, slots := 0, locals := 0 } : Room) s m args below meth c T locs cells slots) (hx : p.tables.exec = Jvm.exec) (hZ : Z.Warmed39 s.vm) (hby : c.code = method_2_code) (hml : c.maxLocals = 2) (hown : s.vm.findClass "com/example/zoria/zoria/xml/XmlInputStandingCharacterPinLaw" = some m.cls) (hret : meth.sig.returnType = some .boolean) (hlk : meth.locks = false) (eT : T.heap = h) (N : Fr n0 locs) (hc : cells ≤ 0) (hs : slots ≤ 0) (v : Int32) (hv : v = f3_35 i0 i1) (hQ : ∀ L', Fr n0 L' → Q (some (.int v)) h L') :
    own_Fin p e below s Q 0 0 (T.setTop (mkF m 35 #[.val (.int i0), .val (.int i1)] [])) := by
  refine own_step (fun t k => XS.iloadN X.here hx rfl (hb hby d3_35) rfl  k) ?_
  show own_Fin p e below s Q 0 0 (T.setTop (mkF m 36 #[.val (.int i0), .val (.int i1)] [(.int i0)]))
  refine own_step (X.ldcInt hx hown (mvT hZ (hw _ (List.mem_of_getElem? (i := 17) rfl))) (g := (mkF m 36 #[.val (.int i0), .val (.int i1)] [(.int i0)])) rfl (hb hby d3_36)) ?_
  show own_Fin p e below s Q 0 0 (T.setTop (mkF m 38 #[.val (.int i0), .val (.int i1)] [(.int (65535 : Int32)), (.int i0)]))
  by_cases hB38_78 : i0 = (65535 : Int32)
  · refine own_step (fun t k => XS.icmpNo X.here hx rfl (hb hby d3_38) rfl (teq hB38_78).2 k) ?_
    exact b3_41 i0 i1 hw X hx hZ hby hml hown hret hlk eT N (Nat.le_trans (Nat.add_le_add_right hc 0) (by decide)) (Nat.le_trans (Nat.add_le_add_right hs 0) (by decide)) v (hv.trans (if_pos hB38_78)) hQ
  · refine own_step (fun t k => XS.icmpYes X.here hx rfl (pc0 := 38) (pc' := 43) rfl (hb hby d3_38) rfl (feq hB38_78).2 (by decide) (by decide) k) ?_
    exact b3_43 i0 i1 hw X hx hZ hby hml hown hret hlk eT N (Nat.le_trans (Nat.add_le_add_right hc 0) (by decide)) (Nat.le_trans (Nat.add_le_add_right hs 0) (by decide)) v (hv.trans (if_neg hB38_78)) hQ
def f3_29 (i0 : Int32) (i1 : Int32) : Int32 := if i0 = (65534 : Int32) then f3_41 i0 i1 else f3_35 i0 i1
set_option maxRecDepth 65536 in
set_option maxHeartbeats 40000000 in
theorem b3_29 {p : Program} {l : Launch} {e : Env} {s : State} {m : MethodId} {args : Array Value} {below : List Frame} {meth : Method} {c : Code} {T : State} {locs : List Loc} {cells slots : Nat} {Z : State} {a0 : Array Value} {h : Heap} {n0 : Nat} {Q : Option Value → Heap → List Loc → Prop} (i0 : Int32) (i1 : Int32) (hw : ∀ d ∈ tables_1, d.before a0 Z = true) (X : Stand p l e ({ frames := 0, cells := 0, slots := 0, locals := 0 } : Room) s m args below meth c T locs cells slots) (hx : p.tables.exec = Jvm.exec) (hZ : Z.Warmed39 s.vm) (hby : c.code = method_2_code) (hml : c.maxLocals = 2) (hown : s.vm.findClass "com/example/zoria/zoria/xml/XmlInputStandingCharacterPinLaw" = some m.cls) (hret : meth.sig.returnType = some .boolean) (hlk : meth.locks = false) (eT : T.heap = h) (N : Fr n0 locs) (hc : cells ≤ 0) (hs : slots ≤ 0) (v : Int32) (hv : v = f3_29 i0 i1) (hQ : ∀ L', Fr n0 L' → Q (some (.int v)) h L') :
    own_Fin p e below s Q 0 0 (T.setTop (mkF m 29 #[.val (.int i0), .val (.int i1)] [])) := by
  refine own_step (fun t k => XS.iloadN X.here hx rfl (hb hby d3_29) rfl  k) ?_
  show own_Fin p e below s Q 0 0 (T.setTop (mkF m 30 #[.val (.int i0), .val (.int i1)] [(.int i0)]))
  refine own_step (X.ldcInt hx hown (mvT hZ (hw _ (List.mem_of_getElem? (i := 16) rfl))) (g := (mkF m 30 #[.val (.int i0), .val (.int i1)] [(.int i0)])) rfl (hb hby d3_30)) ?_
  show own_Fin p e below s Q 0 0 (T.setTop (mkF m 32 #[.val (.int i0), .val (.int i1)] [(.int (65534 : Int32)), (.int i0)]))
  by_cases hB32_75 : i0 = (65534 : Int32)
  · refine own_step (fun t k => XS.icmpYes X.here hx rfl (pc0 := 32) (pc' := 41) rfl (hb hby d3_32) rfl (teq hB32_75).1 (by decide) (by decide) k) ?_
    exact b3_41 i0 i1 hw X hx hZ hby hml hown hret hlk eT N (Nat.le_trans (Nat.add_le_add_right hc 0) (by decide)) (Nat.le_trans (Nat.add_le_add_right hs 0) (by decide)) v (hv.trans (if_pos hB32_75)) hQ
  · refine own_step (fun t k => XS.icmpNo X.here hx rfl (hb hby d3_32) rfl (feq hB32_75).1 k) ?_
    exact b3_35 i0 i1 hw X hx hZ hby hml hown hret hlk eT N (Nat.le_trans (Nat.add_le_add_right hc 0) (by decide)) (Nat.le_trans (Nat.add_le_add_right hs 0) (by decide)) v (hv.trans (if_neg hB32_75)) hQ
def f3_27 (i0 : Int32) (i1 : Int32) : Int32 := (0 : Int32)
set_option maxRecDepth 65536 in
set_option maxHeartbeats 40000000 in
theorem b3_27 {p : Program} {l : Launch} {e : Env} {s : State} {m : MethodId} {args : Array Value} {below : List Frame} {meth : Method} {c : Code} {T : State} {locs : List Loc} {cells slots : Nat} {Z : State} {a0 : Array Value} {h : Heap} {n0 : Nat} {Q : Option Value → Heap → List Loc → Prop} (i0 : Int32) (i1 : Int32) (hw : ∀ d ∈ tables_1, d.before a0 Z = true) (X : Stand p l e ({ frames := 0, cells := 0, slots := 0, locals := 0 } : Room) s m args below meth c T locs cells slots) (hx : p.tables.exec = Jvm.exec) (hZ : Z.Warmed39 s.vm) (hby : c.code = method_2_code) (hml : c.maxLocals = 2) (hown : s.vm.findClass "com/example/zoria/zoria/xml/XmlInputStandingCharacterPinLaw" = some m.cls) (hret : meth.sig.returnType = some .boolean) (hlk : meth.locks = false) (eT : T.heap = h) (N : Fr n0 locs) (hc : cells ≤ 0) (hs : slots ≤ 0) (v : Int32) (hv : v = f3_27 i0 i1) (hQ : ∀ L', Fr n0 L' → Q (some (.int v)) h L') :
    own_Fin p e below s Q 0 0 (T.setTop (mkF m 27 #[.val (.int i0), .val (.int i1)] [])) := by
  refine own_step (fun t k => XS.iconst X.here hx rfl (hb hby d3_27) k) ?_
  show own_Fin p e below s Q 0 0 (T.setTop (mkF m 28 #[.val (.int i0), .val (.int i1)] [(.int (0 : Int32))]))
  exact own_retN X hx hlk hret (by simp) (hb hby d3_28) (Nat.le_trans (Nat.add_le_add_right hc 0) (by decide)) (Nat.le_trans (Nat.add_le_add_right hs 0) (by decide)) eT N hQ (hv)
def f3_21 (i0 : Int32) (i1 : Int32) : Int32 := if (57343 : Int32) < i0 then f3_29 i0 i1 else f3_27 i0 i1
set_option maxRecDepth 65536 in
set_option maxHeartbeats 40000000 in
theorem b3_21 {p : Program} {l : Launch} {e : Env} {s : State} {m : MethodId} {args : Array Value} {below : List Frame} {meth : Method} {c : Code} {T : State} {locs : List Loc} {cells slots : Nat} {Z : State} {a0 : Array Value} {h : Heap} {n0 : Nat} {Q : Option Value → Heap → List Loc → Prop} (i0 : Int32) (i1 : Int32) (hw : ∀ d ∈ tables_1, d.before a0 Z = true) (X : Stand p l e ({ frames := 0, cells := 0, slots := 0, locals := 0 } : Room) s m args below meth c T locs cells slots) (hx : p.tables.exec = Jvm.exec) (hZ : Z.Warmed39 s.vm) (hby : c.code = method_2_code) (hml : c.maxLocals = 2) (hown : s.vm.findClass "com/example/zoria/zoria/xml/XmlInputStandingCharacterPinLaw" = some m.cls) (hret : meth.sig.returnType = some .boolean) (hlk : meth.locks = false) (eT : T.heap = h) (N : Fr n0 locs) (hc : cells ≤ 0) (hs : slots ≤ 0) (v : Int32) (hv : v = f3_21 i0 i1) (hQ : ∀ L', Fr n0 L' → Q (some (.int v)) h L') :
    own_Fin p e below s Q 0 0 (T.setTop (mkF m 21 #[.val (.int i0), .val (.int i1)] [])) := by
  refine own_step (fun t k => XS.iloadN X.here hx rfl (hb hby d3_21) rfl  k) ?_
  show own_Fin p e below s Q 0 0 (T.setTop (mkF m 22 #[.val (.int i0), .val (.int i1)] [(.int i0)]))
  refine own_step (X.ldcInt hx hown (mvT hZ (hw _ (List.mem_of_getElem? (i := 21) rfl))) (g := (mkF m 22 #[.val (.int i0), .val (.int i1)] [(.int i0)])) rfl (hb hby d3_22)) ?_
  show own_Fin p e below s Q 0 0 (T.setTop (mkF m 24 #[.val (.int i0), .val (.int i1)] [(.int (57343 : Int32)), (.int i0)]))
  by_cases hB24_91 : (57343 : Int32) < i0
  · refine own_step (fun t k => XS.icmpYes X.here hx rfl (pc0 := 24) (pc' := 29) rfl (hb hby d3_24) rfl (tlt hB24_91).2.2.1 (by decide) (by decide) k) ?_
    exact b3_29 i0 i1 hw X hx hZ hby hml hown hret hlk eT N (Nat.le_trans (Nat.add_le_add_right hc 0) (by decide)) (Nat.le_trans (Nat.add_le_add_right hs 0) (by decide)) v (hv.trans (if_pos hB24_91)) hQ
  · refine own_step (fun t k => XS.icmpNo X.here hx rfl (hb hby d3_24) rfl (flt hB24_91).2.2.1 k) ?_
    exact b3_27 i0 i1 hw X hx hZ hby hml hown hret hlk eT N (Nat.le_trans (Nat.add_le_add_right hc 0) (by decide)) (Nat.le_trans (Nat.add_le_add_right hs 0) (by decide)) v (hv.trans (if_neg hB24_91)) hQ
def f3_15 (i0 : Int32) (i1 : Int32) : Int32 := if i0 < (55296 : Int32) then f3_29 i0 i1 else f3_21 i0 i1
set_option maxRecDepth 65536 in
set_option maxHeartbeats 40000000 in
theorem b3_15 {p : Program} {l : Launch} {e : Env} {s : State} {m : MethodId} {args : Array Value} {below : List Frame} {meth : Method} {c : Code} {T : State} {locs : List Loc} {cells slots : Nat} {Z : State} {a0 : Array Value} {h : Heap} {n0 : Nat} {Q : Option Value → Heap → List Loc → Prop} (i0 : Int32) (i1 : Int32) (hw : ∀ d ∈ tables_1, d.before a0 Z = true) (X : Stand p l e ({ frames := 0, cells := 0, slots := 0, locals := 0 } : Room) s m args below meth c T locs cells slots) (hx : p.tables.exec = Jvm.exec) (hZ : Z.Warmed39 s.vm) (hby : c.code = method_2_code) (hml : c.maxLocals = 2) (hown : s.vm.findClass "com/example/zoria/zoria/xml/XmlInputStandingCharacterPinLaw" = some m.cls) (hret : meth.sig.returnType = some .boolean) (hlk : meth.locks = false) (eT : T.heap = h) (N : Fr n0 locs) (hc : cells ≤ 0) (hs : slots ≤ 0) (v : Int32) (hv : v = f3_15 i0 i1) (hQ : ∀ L', Fr n0 L' → Q (some (.int v)) h L') :
    own_Fin p e below s Q 0 0 (T.setTop (mkF m 15 #[.val (.int i0), .val (.int i1)] [])) := by
  refine own_step (fun t k => XS.iloadN X.here hx rfl (hb hby d3_15) rfl  k) ?_
  show own_Fin p e below s Q 0 0 (T.setTop (mkF m 16 #[.val (.int i0), .val (.int i1)] [(.int i0)]))
  refine own_step (X.ldcInt hx hown (mvT hZ (hw _ (List.mem_of_getElem? (i := 15) rfl))) (g := (mkF m 16 #[.val (.int i0), .val (.int i1)] [(.int i0)])) rfl (hb hby d3_16)) ?_
  show own_Fin p e below s Q 0 0 (T.setTop (mkF m 18 #[.val (.int i0), .val (.int i1)] [(.int (55296 : Int32)), (.int i0)]))
  by_cases hB18_73 : i0 < (55296 : Int32)
  · refine own_step (fun t k => XS.icmpYes X.here hx rfl (pc0 := 18) (pc' := 29) rfl (hb hby d3_18) rfl (tlt hB18_73).1 (by decide) (by decide) k) ?_
    exact b3_29 i0 i1 hw X hx hZ hby hml hown hret hlk eT N (Nat.le_trans (Nat.add_le_add_right hc 0) (by decide)) (Nat.le_trans (Nat.add_le_add_right hs 0) (by decide)) v (hv.trans (if_pos hB18_73)) hQ
  · refine own_step (fun t k => XS.icmpNo X.here hx rfl (hb hby d3_18) rfl (flt hB18_73).1 k) ?_
    exact b3_21 i0 i1 hw X hx hZ hby hml hown hret hlk eT N (Nat.le_trans (Nat.add_le_add_right hc 0) (by decide)) (Nat.le_trans (Nat.add_le_add_right hs 0) (by decide)) v (hv.trans (if_neg hB18_73)) hQ
def f3_7 (i0 : Int32) (i1 : Int32) : Int32 := if (1114111 : Int32) < i0 then f3_13 i0 i1 else f3_15 i0 i1
set_option maxRecDepth 65536 in
set_option maxHeartbeats 40000000 in
theorem b3_7 {p : Program} {l : Launch} {e : Env} {s : State} {m : MethodId} {args : Array Value} {below : List Frame} {meth : Method} {c : Code} {T : State} {locs : List Loc} {cells slots : Nat} {Z : State} {a0 : Array Value} {h : Heap} {n0 : Nat} {Q : Option Value → Heap → List Loc → Prop} (i0 : Int32) (i1 : Int32) (hw : ∀ d ∈ tables_1, d.before a0 Z = true) (X : Stand p l e ({ frames := 0, cells := 0, slots := 0, locals := 0 } : Room) s m args below meth c T locs cells slots) (hx : p.tables.exec = Jvm.exec) (hZ : Z.Warmed39 s.vm) (hby : c.code = method_2_code) (hml : c.maxLocals = 2) (hown : s.vm.findClass "com/example/zoria/zoria/xml/XmlInputStandingCharacterPinLaw" = some m.cls) (hret : meth.sig.returnType = some .boolean) (hlk : meth.locks = false) (eT : T.heap = h) (N : Fr n0 locs) (hc : cells ≤ 0) (hs : slots ≤ 0) (v : Int32) (hv : v = f3_7 i0 i1) (hQ : ∀ L', Fr n0 L' → Q (some (.int v)) h L') :
    own_Fin p e below s Q 0 0 (T.setTop (mkF m 7 #[.val (.int i0), .val (.int i1)] [])) := by
  refine own_step (fun t k => XS.iloadN X.here hx rfl (hb hby d3_7) rfl  k) ?_
  show own_Fin p e below s Q 0 0 (T.setTop (mkF m 8 #[.val (.int i0), .val (.int i1)] [(.int i0)]))
  refine own_step (X.ldcInt hx hown (mvT hZ (hw _ (List.mem_of_getElem? (i := 14) rfl))) (g := (mkF m 8 #[.val (.int i0), .val (.int i1)] [(.int i0)])) rfl (hb hby d3_8)) ?_
  show own_Fin p e below s Q 0 0 (T.setTop (mkF m 10 #[.val (.int i0), .val (.int i1)] [(.int (1114111 : Int32)), (.int i0)]))
  by_cases hB10_70 : (1114111 : Int32) < i0
  · refine own_step (fun t k => XS.icmpNo X.here hx rfl (hb hby d3_10) rfl (tlt hB10_70).2.2.2 k) ?_
    exact b3_13 i0 i1 hw X hx hZ hby hml hown hret hlk eT N (Nat.le_trans (Nat.add_le_add_right hc 0) (by decide)) (Nat.le_trans (Nat.add_le_add_right hs 0) (by decide)) v (hv.trans (if_pos hB10_70)) hQ
  · refine own_step (fun t k => XS.icmpYes X.here hx rfl (pc0 := 10) (pc' := 15) rfl (hb hby d3_10) rfl (flt hB10_70).2.2.2 (by decide) (by decide) k) ?_
    exact b3_15 i0 i1 hw X hx hZ hby hml hown hret hlk eT N (Nat.le_trans (Nat.add_le_add_right hc 0) (by decide)) (Nat.le_trans (Nat.add_le_add_right hs 0) (by decide)) v (hv.trans (if_neg hB10_70)) hQ
def f3_0 (i0 : Int32) (i1 : Int32) : Int32 := if i0 < (128 : Int32) then f3_13 i0 i1 else f3_7 i0 i1
set_option maxRecDepth 65536 in
set_option maxHeartbeats 40000000 in
theorem b3_0 {p : Program} {l : Launch} {e : Env} {s : State} {m : MethodId} {args : Array Value} {below : List Frame} {meth : Method} {c : Code} {T : State} {locs : List Loc} {cells slots : Nat} {Z : State} {a0 : Array Value} {h : Heap} {n0 : Nat} {Q : Option Value → Heap → List Loc → Prop} (i0 : Int32) (i1 : Int32) (hw : ∀ d ∈ tables_1, d.before a0 Z = true) (X : Stand p l e ({ frames := 0, cells := 0, slots := 0, locals := 0 } : Room) s m args below meth c T locs cells slots) (hx : p.tables.exec = Jvm.exec) (hZ : Z.Warmed39 s.vm) (hby : c.code = method_2_code) (hml : c.maxLocals = 2) (hown : s.vm.findClass "com/example/zoria/zoria/xml/XmlInputStandingCharacterPinLaw" = some m.cls) (hret : meth.sig.returnType = some .boolean) (hlk : meth.locks = false) (eT : T.heap = h) (N : Fr n0 locs) (hc : cells ≤ 0) (hs : slots ≤ 0) (v : Int32) (hv : v = f3_0 i0 i1) (hQ : ∀ L', Fr n0 L' → Q (some (.int v)) h L') :
    own_Fin p e below s Q 0 0 (T.setTop (mkF m 0 #[.val (.int i0), .val (.int i1)] [])) := by
  refine own_step (fun t k => XS.iloadN X.here hx rfl (hb hby d3_0) rfl  k) ?_
  show own_Fin p e below s Q 0 0 (T.setTop (mkF m 1 #[.val (.int i0), .val (.int i1)] [(.int i0)]))
  refine own_step (fun t k => XS.sipush X.here hx rfl (hb hby d3_1) k) ?_
  show own_Fin p e below s Q 0 0 (T.setTop (mkF m 4 #[.val (.int i0), .val (.int i1)] [(.int (128 : Int32)), (.int i0)]))
  by_cases hB4_67 : i0 < (128 : Int32)
  · refine own_step (fun t k => XS.icmpYes X.here hx rfl (pc0 := 4) (pc' := 13) rfl (hb hby d3_4) rfl (tlt hB4_67).1 (by decide) (by decide) k) ?_
    exact b3_13 i0 i1 hw X hx hZ hby hml hown hret hlk eT N (Nat.le_trans (Nat.add_le_add_right hc 0) (by decide)) (Nat.le_trans (Nat.add_le_add_right hs 0) (by decide)) v (hv.trans (if_pos hB4_67)) hQ
  · refine own_step (fun t k => XS.icmpNo X.here hx rfl (hb hby d3_4) rfl (flt hB4_67).1 k) ?_
    exact b3_7 i0 i1 hw X hx hZ hby hml hown hret hlk eT N (Nat.le_trans (Nat.add_le_add_right hc 0) (by decide)) (Nat.le_trans (Nat.add_le_add_right hs 0) (by decide)) v (hv.trans (if_neg hB4_67)) hQ
theorem pnm_1 : plainName "com/example/zoria/zoria/xml/XmlInputStandingCharacterPinLaw" = true := by first | (simp [plainName, overriddenIn]; done) | decide +kernel
theorem pdm_1 : parseMethodDescriptor "(IZ)Z" = some ⟨[.int, .boolean], some .boolean⟩ := by decide +kernel
theorem ef_3 (m : MethodId) (i0 : Int32) (i1 : Int32) : entryFrame m #[(.int i0), (.int i1)] 2 = (mkF m 0 #[.val (.int i0), .val (.int i1)] []) := by first | (simp [entryFrame, mkF, argsToLocals, Value.category]; done) | rfl
def Q3 (i0 : Int32) (i1 : Int32) (h0 : Heap) (n0 : Nat) (v : Option Value) (h : Heap) (L : List Loc) : Prop := v = some (.int (f3_0 i0 i1)) ∧ Fr n0 L ∧ h = h0
set_option maxRecDepth 65536 in
set_option maxHeartbeats 4000000 in
theorem rm3 (l : Launch) (Z : State) (a0 : Array Value) (hw : ∀ d ∈ tables_1, d.before a0 Z = true) (ws : List Jvm.Cond) (i0 : Int32) (i1 : Int32) (h0 : Heap) (n0 : Nat) :
    MetFree l (⟨"com/example/zoria/zoria/xml/XmlInputStandingCharacterPinLaw", "allowed", "(IZ)Z"⟩ : MethodName) (head1 (Jvm.Cond.code (⟨"com/example/zoria/zoria/xml/XmlInputStandingCharacterPinLaw", "allowed", "(IZ)Z"⟩ : MethodName) method_2_code 2 (some .boolean) :: ws) ({ frames := 0, cells := 0, slots := 0, locals := 0 } : Room)) (fun a U => a = #[(.int i0), (.int i1)] ∧ Z.Warmed39 U.vm ∧ U.heap = h0) (fun _ _ _ _ _ => True) (fun _ U o U' => ∃ v L, o = .returned v ∧ Q3 i0 i1 h0 n0 v U'.heap L ∧ FrameEnd U o U' L ({ frames := 0, cells := 0, slots := 0, locals := 0 } : Room).cells ({ frames := 0, cells := 0, slots := 0, locals := 0 } : Room).slots) := by
  refine MetFree.of_bodySF (plainFor_of_name pnm_1) hisR ?_
  intro p e s m args below meth c s₁ Bd hml0 hP hK
  obtain ⟨rfl, hZ, hh⟩ := hP
  have hx := Bd.exec
  have hby := Bd.bytes
  have hml : c.maxLocals = 2 := hml0
  have hown : s.vm.findClass "com/example/zoria/zoria/xml/XmlInputStandingCharacterPinLaw" = some m.cls := findClass_of_methodNamed Bd.named
  have X0 : Stand p l e ({ frames := 0, cells := 0, slots := 0, locals := 0 } : Room) s m #[(.int i0), (.int i1)] below meth c s₁ [] 0 0 := Stand.of_body Bd
  have e0 : s₁.heap = h0 := by rw [← hh, Bd.state]; rfl
  have fin := b3_0 i0 i1 (Q := Q3 i0 i1 h0 n0) hw X0 hx hZ hby hml hown Bd.returns (BodyLoose.notSynchronized Bd) e0 (Fr.nil n0) (Nat.zero_le _) (Nat.zero_le _) _ rfl (fun L' n' => ⟨rfl, n', rfl⟩)
  exact own_step (fun t k => castTop (ef_3 m i0 i1) k) fin
theorem d4_0 : decode method_3_code 0 = .ok (.iload_n 2, 1) := by decide +kernel
theorem d4_1 : decode method_3_code 1 = .ok (.sipush 128, 3) := by decide +kernel
theorem d4_4 : decode method_3_code 4 = .ok (.if_icmp .ge 5, 3) := by decide +kernel
theorem d4_7 : decode method_3_code 7 = .ok (.iconst 0, 1) := by decide +kernel
theorem d4_8 : decode method_3_code 8 = .ok (.ireturn, 1) := by decide +kernel
theorem d4_9 : decode method_3_code 9 = .ok (.iload_n 2, 1) := by decide +kernel
theorem d4_10 : decode method_3_code 10 = .ok (.sipush 2048, 3) := by decide +kernel
theorem d4_13 : decode method_3_code 13 = .ok (.if_icmp .ge 41, 3) := by decide +kernel
theorem d4_16 : decode method_3_code 16 = .ok (.aload_n 0, 1) := by decide +kernel
theorem d4_17 : decode method_3_code 17 = .ok (.iload_n 1, 1) := by decide +kernel
theorem d4_18 : decode method_3_code 18 = .ok (.baload, 1) := by decide +kernel
theorem d4_19 : decode method_3_code 19 = .ok (.sipush 192, 3) := by decide +kernel
theorem d4_22 : decode method_3_code 22 = .ok (.iload_n 2, 1) := by decide +kernel
theorem d4_23 : decode method_3_code 23 = .ok (.bipush 6, 2) := by decide +kernel
theorem d4_25 : decode method_3_code 25 = .ok (.ishr, 1) := by decide +kernel
theorem d4_26 : decode method_3_code 26 = .ok (.ior, 1) := by decide +kernel
theorem d4_27 : decode method_3_code 27 = .ok (.i2b, 1) := by decide +kernel
theorem d4_28 : decode method_3_code 28 = .ok (.if_icmp .ne 24, 3) := by decide +kernel
theorem d4_31 : decode method_3_code 31 = .ok (.aload_n 0, 1) := by decide +kernel
theorem d4_32 : decode method_3_code 32 = .ok (.iload_n 1, 1) := by decide +kernel
theorem d4_33 : decode method_3_code 33 = .ok (.iconst 1, 1) := by decide +kernel
theorem d4_34 : decode method_3_code 34 = .ok (.iadd, 1) := by decide +kernel
theorem d4_35 : decode method_3_code 35 = .ok (.baload, 1) := by decide +kernel
theorem d4_36 : decode method_3_code 36 = .ok (.sipush 128, 3) := by decide +kernel
theorem d4_39 : decode method_3_code 39 = .ok (.iload_n 2, 1) := by decide +kernel
theorem d4_40 : decode method_3_code 40 = .ok (.bipush 63, 2) := by decide +kernel
theorem d4_42 : decode method_3_code 42 = .ok (.iand, 1) := by decide +kernel
theorem d4_43 : decode method_3_code 43 = .ok (.ior, 1) := by decide +kernel
theorem d4_44 : decode method_3_code 44 = .ok (.i2b, 1) := by decide +kernel
theorem d4_45 : decode method_3_code 45 = .ok (.if_icmp .ne 7, 3) := by decide +kernel
theorem d4_48 : decode method_3_code 48 = .ok (.iconst 1, 1) := by decide +kernel
theorem d4_49 : decode method_3_code 49 = .ok (.goto 4, 3) := by decide +kernel
theorem d4_52 : decode method_3_code 52 = .ok (.iconst 0, 1) := by decide +kernel
theorem d4_53 : decode method_3_code 53 = .ok (.ireturn, 1) := by decide +kernel
theorem d4_54 : decode method_3_code 54 = .ok (.iload_n 2, 1) := by decide +kernel
theorem d4_55 : decode method_3_code 55 = .ok (.ldc 12, 2) := by decide +kernel
theorem d4_57 : decode method_3_code 57 = .ok (.if_icmp .ge 61, 3) := by decide +kernel
theorem d4_60 : decode method_3_code 60 = .ok (.aload_n 0, 1) := by decide +kernel
theorem d4_61 : decode method_3_code 61 = .ok (.iload_n 1, 1) := by decide +kernel
theorem d4_62 : decode method_3_code 62 = .ok (.baload, 1) := by decide +kernel
theorem d4_63 : decode method_3_code 63 = .ok (.sipush 224, 3) := by decide +kernel
theorem d4_66 : decode method_3_code 66 = .ok (.iload_n 2, 1) := by decide +kernel
theorem d4_67 : decode method_3_code 67 = .ok (.bipush 12, 2) := by decide +kernel
theorem d4_69 : decode method_3_code 69 = .ok (.ishr, 1) := by decide +kernel
theorem d4_70 : decode method_3_code 70 = .ok (.ior, 1) := by decide +kernel
theorem d4_71 : decode method_3_code 71 = .ok (.i2b, 1) := by decide +kernel
theorem d4_72 : decode method_3_code 72 = .ok (.if_icmp .ne 44, 3) := by decide +kernel
theorem d4_75 : decode method_3_code 75 = .ok (.aload_n 0, 1) := by decide +kernel
theorem d4_76 : decode method_3_code 76 = .ok (.iload_n 1, 1) := by decide +kernel
theorem d4_77 : decode method_3_code 77 = .ok (.iconst 1, 1) := by decide +kernel
theorem d4_78 : decode method_3_code 78 = .ok (.iadd, 1) := by decide +kernel
theorem d4_79 : decode method_3_code 79 = .ok (.baload, 1) := by decide +kernel
theorem d4_80 : decode method_3_code 80 = .ok (.sipush 128, 3) := by decide +kernel
theorem d4_83 : decode method_3_code 83 = .ok (.iload_n 2, 1) := by decide +kernel
theorem d4_84 : decode method_3_code 84 = .ok (.bipush 6, 2) := by decide +kernel
theorem d4_86 : decode method_3_code 86 = .ok (.ishr, 1) := by decide +kernel
theorem d4_87 : decode method_3_code 87 = .ok (.bipush 63, 2) := by decide +kernel
theorem d4_89 : decode method_3_code 89 = .ok (.iand, 1) := by decide +kernel
theorem d4_90 : decode method_3_code 90 = .ok (.ior, 1) := by decide +kernel
theorem d4_91 : decode method_3_code 91 = .ok (.i2b, 1) := by decide +kernel
theorem d4_92 : decode method_3_code 92 = .ok (.if_icmp .ne 24, 3) := by decide +kernel
theorem d4_95 : decode method_3_code 95 = .ok (.aload_n 0, 1) := by decide +kernel
theorem d4_96 : decode method_3_code 96 = .ok (.iload_n 1, 1) := by decide +kernel
theorem d4_97 : decode method_3_code 97 = .ok (.iconst 2, 1) := by decide +kernel
theorem d4_98 : decode method_3_code 98 = .ok (.iadd, 1) := by decide +kernel
theorem d4_99 : decode method_3_code 99 = .ok (.baload, 1) := by decide +kernel
theorem d4_100 : decode method_3_code 100 = .ok (.sipush 128, 3) := by decide +kernel
theorem d4_103 : decode method_3_code 103 = .ok (.iload_n 2, 1) := by decide +kernel
theorem d4_104 : decode method_3_code 104 = .ok (.bipush 63, 2) := by decide +kernel
theorem d4_106 : decode method_3_code 106 = .ok (.iand, 1) := by decide +kernel
theorem d4_107 : decode method_3_code 107 = .ok (.ior, 1) := by decide +kernel
theorem d4_108 : decode method_3_code 108 = .ok (.i2b, 1) := by decide +kernel
theorem d4_109 : decode method_3_code 109 = .ok (.if_icmp .ne 7, 3) := by decide +kernel
theorem d4_112 : decode method_3_code 112 = .ok (.iconst 1, 1) := by decide +kernel
theorem d4_113 : decode method_3_code 113 = .ok (.goto 4, 3) := by decide +kernel
theorem d4_116 : decode method_3_code 116 = .ok (.iconst 0, 1) := by decide +kernel
theorem d4_117 : decode method_3_code 117 = .ok (.ireturn, 1) := by decide +kernel
theorem d4_118 : decode method_3_code 118 = .ok (.iload_n 2, 1) := by decide +kernel
theorem d4_119 : decode method_3_code 119 = .ok (.ldc 13, 2) := by decide +kernel
theorem d4_121 : decode method_3_code 121 = .ok (.if_icmp .le 5, 3) := by decide +kernel
theorem d4_124 : decode method_3_code 124 = .ok (.iconst 0, 1) := by decide +kernel
theorem d4_125 : decode method_3_code 125 = .ok (.ireturn, 1) := by decide +kernel
theorem d4_126 : decode method_3_code 126 = .ok (.aload_n 0, 1) := by decide +kernel
theorem d4_127 : decode method_3_code 127 = .ok (.iload_n 1, 1) := by decide +kernel
theorem d4_128 : decode method_3_code 128 = .ok (.baload, 1) := by decide +kernel
theorem d4_129 : decode method_3_code 129 = .ok (.sipush 240, 3) := by decide +kernel
theorem d4_132 : decode method_3_code 132 = .ok (.iload_n 2, 1) := by decide +kernel
theorem d4_133 : decode method_3_code 133 = .ok (.bipush 18, 2) := by decide +kernel
theorem d4_135 : decode method_3_code 135 = .ok (.ishr, 1) := by decide +kernel
theorem d4_136 : decode method_3_code 136 = .ok (.ior, 1) := by decide +kernel
theorem d4_137 : decode method_3_code 137 = .ok (.i2b, 1) := by decide +kernel
theorem d4_138 : decode method_3_code 138 = .ok (.if_icmp .ne 64, 3) := by decide +kernel
theorem d4_141 : decode method_3_code 141 = .ok (.aload_n 0, 1) := by decide +kernel
theorem d4_142 : decode method_3_code 142 = .ok (.iload_n 1, 1) := by decide +kernel
theorem d4_143 : decode method_3_code 143 = .ok (.iconst 1, 1) := by decide +kernel
theorem d4_144 : decode method_3_code 144 = .ok (.iadd, 1) := by decide +kernel
theorem d4_145 : decode method_3_code 145 = .ok (.baload, 1) := by decide +kernel
theorem d4_146 : decode method_3_code 146 = .ok (.sipush 128, 3) := by decide +kernel
theorem d4_149 : decode method_3_code 149 = .ok (.iload_n 2, 1) := by decide +kernel
theorem d4_150 : decode method_3_code 150 = .ok (.bipush 12, 2) := by decide +kernel
theorem d4_152 : decode method_3_code 152 = .ok (.ishr, 1) := by decide +kernel
theorem d4_153 : decode method_3_code 153 = .ok (.bipush 63, 2) := by decide +kernel
theorem d4_155 : decode method_3_code 155 = .ok (.iand, 1) := by decide +kernel
theorem d4_156 : decode method_3_code 156 = .ok (.ior, 1) := by decide +kernel
theorem d4_157 : decode method_3_code 157 = .ok (.i2b, 1) := by decide +kernel
theorem d4_158 : decode method_3_code 158 = .ok (.if_icmp .ne 44, 3) := by decide +kernel
theorem d4_161 : decode method_3_code 161 = .ok (.aload_n 0, 1) := by decide +kernel
theorem d4_162 : decode method_3_code 162 = .ok (.iload_n 1, 1) := by decide +kernel
theorem d4_163 : decode method_3_code 163 = .ok (.iconst 2, 1) := by decide +kernel
theorem d4_164 : decode method_3_code 164 = .ok (.iadd, 1) := by decide +kernel
theorem d4_165 : decode method_3_code 165 = .ok (.baload, 1) := by decide +kernel
theorem d4_166 : decode method_3_code 166 = .ok (.sipush 128, 3) := by decide +kernel
theorem d4_169 : decode method_3_code 169 = .ok (.iload_n 2, 1) := by decide +kernel
theorem d4_170 : decode method_3_code 170 = .ok (.bipush 6, 2) := by decide +kernel
theorem d4_172 : decode method_3_code 172 = .ok (.ishr, 1) := by decide +kernel
theorem d4_173 : decode method_3_code 173 = .ok (.bipush 63, 2) := by decide +kernel
theorem d4_175 : decode method_3_code 175 = .ok (.iand, 1) := by decide +kernel
theorem d4_176 : decode method_3_code 176 = .ok (.ior, 1) := by decide +kernel
theorem d4_177 : decode method_3_code 177 = .ok (.i2b, 1) := by decide +kernel
theorem d4_178 : decode method_3_code 178 = .ok (.if_icmp .ne 24, 3) := by decide +kernel
theorem d4_181 : decode method_3_code 181 = .ok (.aload_n 0, 1) := by decide +kernel
theorem d4_182 : decode method_3_code 182 = .ok (.iload_n 1, 1) := by decide +kernel
theorem d4_183 : decode method_3_code 183 = .ok (.iconst 3, 1) := by decide +kernel
theorem d4_184 : decode method_3_code 184 = .ok (.iadd, 1) := by decide +kernel
theorem d4_185 : decode method_3_code 185 = .ok (.baload, 1) := by decide +kernel
theorem d4_186 : decode method_3_code 186 = .ok (.sipush 128, 3) := by decide +kernel
theorem d4_189 : decode method_3_code 189 = .ok (.iload_n 2, 1) := by decide +kernel
theorem d4_190 : decode method_3_code 190 = .ok (.bipush 63, 2) := by decide +kernel
theorem d4_192 : decode method_3_code 192 = .ok (.iand, 1) := by decide +kernel
theorem d4_193 : decode method_3_code 193 = .ok (.ior, 1) := by decide +kernel
theorem d4_194 : decode method_3_code 194 = .ok (.i2b, 1) := by decide +kernel
theorem d4_195 : decode method_3_code 195 = .ok (.if_icmp .ne 7, 3) := by decide +kernel
theorem d4_198 : decode method_3_code 198 = .ok (.iconst 1, 1) := by decide +kernel
theorem d4_199 : decode method_3_code 199 = .ok (.goto 4, 3) := by decide +kernel
theorem d4_202 : decode method_3_code 202 = .ok (.iconst 0, 1) := by decide +kernel
theorem d4_203 : decode method_3_code 203 = .ok (.ireturn, 1) := by decide +kernel
def f4_7 (g0 : Nat → Int32) (i1 : Int32) (i2 : Int32) : Int32 := (0 : Int32)
set_option maxRecDepth 65536 in
set_option maxHeartbeats 40000000 in
theorem b4_7 {p : Program} {l : Launch} {e : Env} {s : State} {m : MethodId} {args : Array Value} {below : List Frame} {meth : Method} {c : Code} {T : State} {locs : List Loc} {cells slots : Nat} {Z : State} {a0 : Array Value} {h : Heap} {n0 : Nat} {Q : Option Value → Heap → List Loc → Prop} (o0 : Addr) (g0 : Nat → Int32) (z0 : Nat) (i1 : Int32) (i2 : Int32) (hw : ∀ d ∈ tables_1, d.before a0 Z = true) (X : Stand p l e ({ frames := 0, cells := 0, slots := 0, locals := 0 } : Room) s m args below meth c T locs cells slots) (hx : p.tables.exec = Jvm.exec) (hZ : Z.Warmed39 s.vm) (hby : c.code = method_3_code) (hml : c.maxLocals = 3) (hown : s.vm.findClass "com/example/zoria/zoria/xml/XmlInputStandingCharacterPinLaw" = some m.cls) (hret : meth.sig.returnType = some .boolean) (hlk : meth.locks = false) (eT : T.heap = h) (N : Fr n0 locs) (hc : cells ≤ 0) (hs : slots ≤ 0) (A0 : own_AF Z h o0 .byte z0 g0) (hb0 : own_In z0 i1) (hb1 : own_In z0 (i1 + (1 : Int32))) (hb2 : own_In z0 (i1 + (2 : Int32))) (hb3 : own_In z0 (i1 + (3 : Int32))) (v : Int32) (hv : v = f4_7 g0 i1 i2) (hQ : ∀ L', Fr n0 L' → Q (some (.int v)) h L') :
    own_Fin p e below s Q 0 0 (T.setTop (mkF m 7 #[.val (.ref o0), .val (.int i1), .val (.int i2)] [])) := by
  refine own_step (fun t k => XS.iconst X.here hx rfl (hb hby d4_7) k) ?_
  show own_Fin p e below s Q 0 0 (T.setTop (mkF m 8 #[.val (.ref o0), .val (.int i1), .val (.int i2)] [(.int (0 : Int32))]))
  exact own_retN X hx hlk hret (by simp) (hb hby d4_8) (Nat.le_trans (Nat.add_le_add_right hc 0) (by decide)) (Nat.le_trans (Nat.add_le_add_right hs 0) (by decide)) eT N hQ (hv)
def f4_53 (g0 : Nat → Int32) (i1 : Int32) (i2 : Int32) (is0 : Int32) : Int32 := (nar .boolean is0)
set_option maxRecDepth 65536 in
set_option maxHeartbeats 40000000 in
theorem b4_53 {p : Program} {l : Launch} {e : Env} {s : State} {m : MethodId} {args : Array Value} {below : List Frame} {meth : Method} {c : Code} {T : State} {locs : List Loc} {cells slots : Nat} {Z : State} {a0 : Array Value} {h : Heap} {n0 : Nat} {Q : Option Value → Heap → List Loc → Prop} (o0 : Addr) (g0 : Nat → Int32) (z0 : Nat) (i1 : Int32) (i2 : Int32) (is0 : Int32) (hw : ∀ d ∈ tables_1, d.before a0 Z = true) (X : Stand p l e ({ frames := 0, cells := 0, slots := 0, locals := 0 } : Room) s m args below meth c T locs cells slots) (hx : p.tables.exec = Jvm.exec) (hZ : Z.Warmed39 s.vm) (hby : c.code = method_3_code) (hml : c.maxLocals = 3) (hown : s.vm.findClass "com/example/zoria/zoria/xml/XmlInputStandingCharacterPinLaw" = some m.cls) (hret : meth.sig.returnType = some .boolean) (hlk : meth.locks = false) (eT : T.heap = h) (N : Fr n0 locs) (hc : cells ≤ 0) (hs : slots ≤ 0) (A0 : own_AF Z h o0 .byte z0 g0) (hb0 : own_In z0 i1) (hb1 : own_In z0 (i1 + (1 : Int32))) (hb2 : own_In z0 (i1 + (2 : Int32))) (hb3 : own_In z0 (i1 + (3 : Int32))) (v : Int32) (hv : v = f4_53 g0 i1 i2 is0) (hQ : ∀ L', Fr n0 L' → Q (some (.int v)) h L') :
    own_Fin p e below s Q 0 0 (T.setTop (mkF m 53 #[.val (.ref o0), .val (.int i1), .val (.int i2)] [(.int is0)])) := by
  exact own_retN X hx hlk hret (by simp) (hb hby d4_53) (Nat.le_trans (Nat.add_le_add_right hc 0) (by decide)) (Nat.le_trans (Nat.add_le_add_right hs 0) (by decide)) eT N hQ (hv)
def f4_48 (g0 : Nat → Int32) (i1 : Int32) (i2 : Int32) : Int32 := f4_53 g0 i1 i2 (1 : Int32)
set_option maxRecDepth 65536 in
set_option maxHeartbeats 40000000 in
theorem b4_48 {p : Program} {l : Launch} {e : Env} {s : State} {m : MethodId} {args : Array Value} {below : List Frame} {meth : Method} {c : Code} {T : State} {locs : List Loc} {cells slots : Nat} {Z : State} {a0 : Array Value} {h : Heap} {n0 : Nat} {Q : Option Value → Heap → List Loc → Prop} (o0 : Addr) (g0 : Nat → Int32) (z0 : Nat) (i1 : Int32) (i2 : Int32) (hw : ∀ d ∈ tables_1, d.before a0 Z = true) (X : Stand p l e ({ frames := 0, cells := 0, slots := 0, locals := 0 } : Room) s m args below meth c T locs cells slots) (hx : p.tables.exec = Jvm.exec) (hZ : Z.Warmed39 s.vm) (hby : c.code = method_3_code) (hml : c.maxLocals = 3) (hown : s.vm.findClass "com/example/zoria/zoria/xml/XmlInputStandingCharacterPinLaw" = some m.cls) (hret : meth.sig.returnType = some .boolean) (hlk : meth.locks = false) (eT : T.heap = h) (N : Fr n0 locs) (hc : cells ≤ 0) (hs : slots ≤ 0) (A0 : own_AF Z h o0 .byte z0 g0) (hb0 : own_In z0 i1) (hb1 : own_In z0 (i1 + (1 : Int32))) (hb2 : own_In z0 (i1 + (2 : Int32))) (hb3 : own_In z0 (i1 + (3 : Int32))) (v : Int32) (hv : v = f4_48 g0 i1 i2) (hQ : ∀ L', Fr n0 L' → Q (some (.int v)) h L') :
    own_Fin p e below s Q 0 0 (T.setTop (mkF m 48 #[.val (.ref o0), .val (.int i1), .val (.int i2)] [])) := by
  refine own_step (fun t k => XS.iconst X.here hx rfl (hb hby d4_48) k) ?_
  show own_Fin p e below s Q 0 0 (T.setTop (mkF m 49 #[.val (.ref o0), .val (.int i1), .val (.int i2)] [(.int (1 : Int32))]))
  refine own_step (fun t k => XS.goto X.here hx rfl (pc0 := 49) (pc' := 53) rfl (hb hby d4_49) (by decide) (by decide) k) ?_
  exact b4_53 o0 g0 z0 i1 i2 (1 : Int32) hw X hx hZ hby hml hown hret hlk eT N (Nat.le_trans (Nat.add_le_add_right hc 0) (by decide)) (Nat.le_trans (Nat.add_le_add_right hs 0) (by decide)) A0 hb0 hb1 hb2 hb3 v (hv) hQ
def f4_52 (g0 : Nat → Int32) (i1 : Int32) (i2 : Int32) : Int32 := f4_53 g0 i1 i2 (0 : Int32)
set_option maxRecDepth 65536 in
set_option maxHeartbeats 40000000 in
theorem b4_52 {p : Program} {l : Launch} {e : Env} {s : State} {m : MethodId} {args : Array Value} {below : List Frame} {meth : Method} {c : Code} {T : State} {locs : List Loc} {cells slots : Nat} {Z : State} {a0 : Array Value} {h : Heap} {n0 : Nat} {Q : Option Value → Heap → List Loc → Prop} (o0 : Addr) (g0 : Nat → Int32) (z0 : Nat) (i1 : Int32) (i2 : Int32) (hw : ∀ d ∈ tables_1, d.before a0 Z = true) (X : Stand p l e ({ frames := 0, cells := 0, slots := 0, locals := 0 } : Room) s m args below meth c T locs cells slots) (hx : p.tables.exec = Jvm.exec) (hZ : Z.Warmed39 s.vm) (hby : c.code = method_3_code) (hml : c.maxLocals = 3) (hown : s.vm.findClass "com/example/zoria/zoria/xml/XmlInputStandingCharacterPinLaw" = some m.cls) (hret : meth.sig.returnType = some .boolean) (hlk : meth.locks = false) (eT : T.heap = h) (N : Fr n0 locs) (hc : cells ≤ 0) (hs : slots ≤ 0) (A0 : own_AF Z h o0 .byte z0 g0) (hb0 : own_In z0 i1) (hb1 : own_In z0 (i1 + (1 : Int32))) (hb2 : own_In z0 (i1 + (2 : Int32))) (hb3 : own_In z0 (i1 + (3 : Int32))) (v : Int32) (hv : v = f4_52 g0 i1 i2) (hQ : ∀ L', Fr n0 L' → Q (some (.int v)) h L') :
    own_Fin p e below s Q 0 0 (T.setTop (mkF m 52 #[.val (.ref o0), .val (.int i1), .val (.int i2)] [])) := by
  refine own_step (fun t k => XS.iconst X.here hx rfl (hb hby d4_52) k) ?_
  exact b4_53 o0 g0 z0 i1 i2 (0 : Int32) hw X hx hZ hby hml hown hret hlk eT N (Nat.le_trans (Nat.add_le_add_right hc 0) (by decide)) (Nat.le_trans (Nat.add_le_add_right hs 0) (by decide)) A0 hb0 hb1 hb2 hb3 v (hv) hQ
def f4_31 (g0 : Nat → Int32) (i1 : Int32) (i2 : Int32) : Int32 := if (g0 ((i1 + (1 : Int32))).toNatClampNeg) = (((128 : Int32) ||| (i2 &&& (63 : Int32))).toInt8.toInt32) then f4_48 g0 i1 i2 else f4_52 g0 i1 i2
set_option maxRecDepth 65536 in
set_option maxHeartbeats 40000000 in
theorem b4_31 {p : Program} {l : Launch} {e : Env} {s : State} {m : MethodId} {args : Array Value} {below : List Frame} {meth : Method} {c : Code} {T : State} {locs : List Loc} {cells slots : Nat} {Z : State} {a0 : Array Value} {h : Heap} {n0 : Nat} {Q : Option Value → Heap → List Loc → Prop} (o0 : Addr) (g0 : Nat → Int32) (z0 : Nat) (i1 : Int32) (i2 : Int32) (hw : ∀ d ∈ tables_1, d.before a0 Z = true) (X : Stand p l e ({ frames := 0, cells := 0, slots := 0, locals := 0 } : Room) s m args below meth c T locs cells slots) (hx : p.tables.exec = Jvm.exec) (hZ : Z.Warmed39 s.vm) (hby : c.code = method_3_code) (hml : c.maxLocals = 3) (hown : s.vm.findClass "com/example/zoria/zoria/xml/XmlInputStandingCharacterPinLaw" = some m.cls) (hret : meth.sig.returnType = some .boolean) (hlk : meth.locks = false) (eT : T.heap = h) (N : Fr n0 locs) (hc : cells ≤ 0) (hs : slots ≤ 0) (A0 : own_AF Z h o0 .byte z0 g0) (hb0 : own_In z0 i1) (hb1 : own_In z0 (i1 + (1 : Int32))) (hb2 : own_In z0 (i1 + (2 : Int32))) (hb3 : own_In z0 (i1 + (3 : Int32))) (v : Int32) (hv : v = f4_31 g0 i1 i2) (hQ : ∀ L', Fr n0 L' → Q (some (.int v)) h L') :
    own_Fin p e below s Q 0 0 (T.setTop (mkF m 31 #[.val (.ref o0), .val (.int i1), .val (.int i2)] [])) := by
  refine own_step (fun t k => XS.aloadN X.here hx rfl (hb hby d4_31) rfl rfl k) ?_
  show own_Fin p e below s Q 0 0 (T.setTop (mkF m 32 #[.val (.ref o0), .val (.int i1), .val (.int i2)] [(.ref o0)]))
  refine own_step (fun t k => XS.iloadN X.here hx rfl (hb hby d4_32) rfl  k) ?_
  show own_Fin p e below s Q 0 0 (T.setTop (mkF m 33 #[.val (.ref o0), .val (.int i1), .val (.int i2)] [(.int i1), (.ref o0)]))
  refine own_step (fun t k => XS.iconst X.here hx rfl (hb hby d4_33) k) ?_
  show own_Fin p e below s Q 0 0 (T.setTop (mkF m 34 #[.val (.ref o0), .val (.int i1), .val (.int i2)] [(.int (1 : Int32)), (.int i1), (.ref o0)]))
  refine own_step (fun t k => XS.iadd X.here hx rfl (hb hby d4_34) rfl k) ?_
  show own_Fin p e below s Q 0 0 (T.setTop (mkF m 35 #[.val (.ref o0), .val (.int i1), .val (.int i2)] [(.int (i1 + (1 : Int32))), (.ref o0)]))
  obtain ⟨ca35, Ar35, Sz35, Ht35⟩ := id A0
  have hin35 : ¬ ((i1 + (1 : Int32)) < 0 ∨ ca35.slots.size ≤ ((i1 + (1 : Int32))).toNatClampNeg) := by rw [Sz35]; exact hb1
  refine own_step (X.baloadBytes hx (j := (i1 + (1 : Int32))) (v := (.int (g0 ((i1 + (1 : Int32))).toNatClampNeg))) (by rw [eT]; exact Ar35.1) (State.isArrayOf_alike hZ.alike Ar35.2.1) Ar35.2.2 hin35 (Ht35 _ (by have hq := Nat.lt_of_not_le (fun y => hin35 (Or.inr y)); rw [Sz35] at hq; exact hq)) (g := (mkF m 35 #[.val (.ref o0), .val (.int i1), .val (.int i2)] [(.int (i1 + (1 : Int32))), (.ref o0)])) rfl rfl (hb hby d4_35)) ?_
  show own_Fin p e below s Q 0 0 (T.setTop (mkF m 36 #[.val (.ref o0), .val (.int i1), .val (.int i2)] [(.int (g0 ((i1 + (1 : Int32))).toNatClampNeg))]))
  refine own_step (fun t k => XS.sipush X.here hx rfl (hb hby d4_36) k) ?_
  show own_Fin p e below s Q 0 0 (T.setTop (mkF m 39 #[.val (.ref o0), .val (.int i1), .val (.int i2)] [(.int (128 : Int32)), (.int (g0 ((i1 + (1 : Int32))).toNatClampNeg))]))
  refine own_step (fun t k => XS.iloadN X.here hx rfl (hb hby d4_39) rfl  k) ?_
  show own_Fin p e below s Q 0 0 (T.setTop (mkF m 40 #[.val (.ref o0), .val (.int i1), .val (.int i2)] [(.int i2), (.int (128 : Int32)), (.int (g0 ((i1 + (1 : Int32))).toNatClampNeg))]))
  refine own_step (fun t k => XS.bipush X.here hx rfl (hb hby d4_40) k) ?_
  show own_Fin p e below s Q 0 0 (T.setTop (mkF m 42 #[.val (.ref o0), .val (.int i1), .val (.int i2)] [(.int (63 : Int32)), (.int i2), (.int (128 : Int32)), (.int (g0 ((i1 + (1 : Int32))).toNatClampNeg))]))
  refine own_step (fun t k => XS.iand X.here hx rfl (hb hby d4_42) rfl k) ?_
  show own_Fin p e below s Q 0 0 (T.setTop (mkF m 43 #[.val (.ref o0), .val (.int i1), .val (.int i2)] [(.int (i2 &&& (63 : Int32))), (.int (128 : Int32)), (.int (g0 ((i1 + (1 : Int32))).toNatClampNeg))]))
  refine own_step (fun t k => XS.ior X.here hx rfl (hb hby d4_43) rfl k) ?_
  show own_Fin p e below s Q 0 0 (T.setTop (mkF m 44 #[.val (.ref o0), .val (.int i1), .val (.int i2)] [(.int ((128 : Int32) ||| (i2 &&& (63 : Int32)))), (.int (g0 ((i1 + (1 : Int32))).toNatClampNeg))]))
  refine own_step (fun t k => XS.i2b X.here hx rfl (hb hby d4_44) rfl k) ?_
  show own_Fin p e below s Q 0 0 (T.setTop (mkF m 45 #[.val (.ref o0), .val (.int i1), .val (.int i2)] [(.int (((128 : Int32) ||| (i2 &&& (63 : Int32))).toInt8.toInt32)), (.int (g0 ((i1 + (1 : Int32))).toNatClampNeg))]))
  by_cases hB45_101 : (g0 ((i1 + (1 : Int32))).toNatClampNeg) = (((128 : Int32) ||| (i2 &&& (63 : Int32))).toInt8.toInt32)
  · refine own_step (fun t k => XS.icmpNo X.here hx rfl (hb hby d4_45) rfl (teq hB45_101).2 k) ?_
    exact b4_48 o0 g0 z0 i1 i2 hw X hx hZ hby hml hown hret hlk eT N (Nat.le_trans (Nat.add_le_add_right hc 0) (by decide)) (Nat.le_trans (Nat.add_le_add_right hs 0) (by decide)) A0 hb0 hb1 hb2 hb3 v (hv.trans (if_pos hB45_101)) hQ
  · refine own_step (fun t k => XS.icmpYes X.here hx rfl (pc0 := 45) (pc' := 52) rfl (hb hby d4_45) rfl (feq hB45_101).2 (by decide) (by decide) k) ?_
    exact b4_52 o0 g0 z0 i1 i2 hw X hx hZ hby hml hown hret hlk eT N (Nat.le_trans (Nat.add_le_add_right hc 0) (by decide)) (Nat.le_trans (Nat.add_le_add_right hs 0) (by decide)) A0 hb0 hb1 hb2 hb3 v (hv.trans (if_neg hB45_101)) hQ
def f4_16 (g0 : Nat → Int32) (i1 : Int32) (i2 : Int32) : Int32 := if (g0 (i1).toNatClampNeg) = (((192 : Int32) ||| (i2 >>> ((6 : Int32) &&& 31))).toInt8.toInt32) then f4_31 g0 i1 i2 else f4_52 g0 i1 i2
set_option maxRecDepth 65536 in
set_option maxHeartbeats 40000000 in
theorem b4_16 {p : Program} {l : Launch} {e : Env} {s : State} {m : MethodId} {args : Array Value} {below : List Frame} {meth : Method} {c : Code} {T : State} {locs : List Loc} {cells slots : Nat} {Z : State} {a0 : Array Value} {h : Heap} {n0 : Nat} {Q : Option Value → Heap → List Loc → Prop} (o0 : Addr) (g0 : Nat → Int32) (z0 : Nat) (i1 : Int32) (i2 : Int32) (hw : ∀ d ∈ tables_1, d.before a0 Z = true) (X : Stand p l e ({ frames := 0, cells := 0, slots := 0, locals := 0 } : Room) s m args below meth c T locs cells slots) (hx : p.tables.exec = Jvm.exec) (hZ : Z.Warmed39 s.vm) (hby : c.code = method_3_code) (hml : c.maxLocals = 3) (hown : s.vm.findClass "com/example/zoria/zoria/xml/XmlInputStandingCharacterPinLaw" = some m.cls) (hret : meth.sig.returnType = some .boolean) (hlk : meth.locks = false) (eT : T.heap = h) (N : Fr n0 locs) (hc : cells ≤ 0) (hs : slots ≤ 0) (A0 : own_AF Z h o0 .byte z0 g0) (hb0 : own_In z0 i1) (hb1 : own_In z0 (i1 + (1 : Int32))) (hb2 : own_In z0 (i1 + (2 : Int32))) (hb3 : own_In z0 (i1 + (3 : Int32))) (v : Int32) (hv : v = f4_16 g0 i1 i2) (hQ : ∀ L', Fr n0 L' → Q (some (.int v)) h L') :
    own_Fin p e below s Q 0 0 (T.setTop (mkF m 16 #[.val (.ref o0), .val (.int i1), .val (.int i2)] [])) := by
  refine own_step (fun t k => XS.aloadN X.here hx rfl (hb hby d4_16) rfl rfl k) ?_
  show own_Fin p e below s Q 0 0 (T.setTop (mkF m 17 #[.val (.ref o0), .val (.int i1), .val (.int i2)] [(.ref o0)]))
  refine own_step (fun t k => XS.iloadN X.here hx rfl (hb hby d4_17) rfl  k) ?_
  show own_Fin p e below s Q 0 0 (T.setTop (mkF m 18 #[.val (.ref o0), .val (.int i1), .val (.int i2)] [(.int i1), (.ref o0)]))
  obtain ⟨ca18, Ar18, Sz18, Ht18⟩ := id A0
  have hin18 : ¬ (i1 < 0 ∨ ca18.slots.size ≤ (i1).toNatClampNeg) := by rw [Sz18]; exact hb0
  refine own_step (X.baloadBytes hx (j := i1) (v := (.int (g0 (i1).toNatClampNeg))) (by rw [eT]; exact Ar18.1) (State.isArrayOf_alike hZ.alike Ar18.2.1) Ar18.2.2 hin18 (Ht18 _ (by have hq := Nat.lt_of_not_le (fun y => hin18 (Or.inr y)); rw [Sz18] at hq; exact hq)) (g := (mkF m 18 #[.val (.ref o0), .val (.int i1), .val (.int i2)] [(.int i1), (.ref o0)])) rfl rfl (hb hby d4_18)) ?_
  show own_Fin p e below s Q 0 0 (T.setTop (mkF m 19 #[.val (.ref o0), .val (.int i1), .val (.int i2)] [(.int (g0 (i1).toNatClampNeg))]))
  refine own_step (fun t k => XS.sipush X.here hx rfl (hb hby d4_19) k) ?_
  show own_Fin p e below s Q 0 0 (T.setTop (mkF m 22 #[.val (.ref o0), .val (.int i1), .val (.int i2)] [(.int (192 : Int32)), (.int (g0 (i1).toNatClampNeg))]))
  refine own_step (fun t k => XS.iloadN X.here hx rfl (hb hby d4_22) rfl  k) ?_
  show own_Fin p e below s Q 0 0 (T.setTop (mkF m 23 #[.val (.ref o0), .val (.int i1), .val (.int i2)] [(.int i2), (.int (192 : Int32)), (.int (g0 (i1).toNatClampNeg))]))
  refine own_step (fun t k => XS.bipush X.here hx rfl (hb hby d4_23) k) ?_
  show own_Fin p e below s Q 0 0 (T.setTop (mkF m 25 #[.val (.ref o0), .val (.int i1), .val (.int i2)] [(.int (6 : Int32)), (.int i2), (.int (192 : Int32)), (.int (g0 (i1).toNatClampNeg))]))
  refine own_step (fun t k => XS.ishr X.here hx rfl (hb hby d4_25) rfl k) ?_
  show own_Fin p e below s Q 0 0 (T.setTop (mkF m 26 #[.val (.ref o0), .val (.int i1), .val (.int i2)] [(.int (i2 >>> ((6 : Int32) &&& 31))), (.int (192 : Int32)), (.int (g0 (i1).toNatClampNeg))]))
  refine own_step (fun t k => XS.ior X.here hx rfl (hb hby d4_26) rfl k) ?_
  show own_Fin p e below s Q 0 0 (T.setTop (mkF m 27 #[.val (.ref o0), .val (.int i1), .val (.int i2)] [(.int ((192 : Int32) ||| (i2 >>> ((6 : Int32) &&& 31)))), (.int (g0 (i1).toNatClampNeg))]))
  refine own_step (fun t k => XS.i2b X.here hx rfl (hb hby d4_27) rfl k) ?_
  show own_Fin p e below s Q 0 0 (T.setTop (mkF m 28 #[.val (.ref o0), .val (.int i1), .val (.int i2)] [(.int (((192 : Int32) ||| (i2 >>> ((6 : Int32) &&& 31))).toInt8.toInt32)), (.int (g0 (i1).toNatClampNeg))]))
  by_cases hB28_99 : (g0 (i1).toNatClampNeg) = (((192 : Int32) ||| (i2 >>> ((6 : Int32) &&& 31))).toInt8.toInt32)
  · refine own_step (fun t k => XS.icmpNo X.here hx rfl (hb hby d4_28) rfl (teq hB28_99).2 k) ?_
    exact b4_31 o0 g0 z0 i1 i2 hw X hx hZ hby hml hown hret hlk eT N (Nat.le_trans (Nat.add_le_add_right hc 0) (by decide)) (Nat.le_trans (Nat.add_le_add_right hs 0) (by decide)) A0 hb0 hb1 hb2 hb3 v (hv.trans (if_pos hB28_99)) hQ
  · refine own_step (fun t k => XS.icmpYes X.here hx rfl (pc0 := 28) (pc' := 52) rfl (hb hby d4_28) rfl (feq hB28_99).2 (by decide) (by decide) k) ?_
    exact b4_52 o0 g0 z0 i1 i2 hw X hx hZ hby hml hown hret hlk eT N (Nat.le_trans (Nat.add_le_add_right hc 0) (by decide)) (Nat.le_trans (Nat.add_le_add_right hs 0) (by decide)) A0 hb0 hb1 hb2 hb3 v (hv.trans (if_neg hB28_99)) hQ
def f4_117 (g0 : Nat → Int32) (i1 : Int32) (i2 : Int32) (is0 : Int32) : Int32 := (nar .boolean is0)
set_option maxRecDepth 65536 in
set_option maxHeartbeats 40000000 in
theorem b4_117 {p : Program} {l : Launch} {e : Env} {s : State} {m : MethodId} {args : Array Value} {below : List Frame} {meth : Method} {c : Code} {T : State} {locs : List Loc} {cells slots : Nat} {Z : State} {a0 : Array Value} {h : Heap} {n0 : Nat} {Q : Option Value → Heap → List Loc → Prop} (o0 : Addr) (g0 : Nat → Int32) (z0 : Nat) (i1 : Int32) (i2 : Int32) (is0 : Int32) (hw : ∀ d ∈ tables_1, d.before a0 Z = true) (X : Stand p l e ({ frames := 0, cells := 0, slots := 0, locals := 0 } : Room) s m args below meth c T locs cells slots) (hx : p.tables.exec = Jvm.exec) (hZ : Z.Warmed39 s.vm) (hby : c.code = method_3_code) (hml : c.maxLocals = 3) (hown : s.vm.findClass "com/example/zoria/zoria/xml/XmlInputStandingCharacterPinLaw" = some m.cls) (hret : meth.sig.returnType = some .boolean) (hlk : meth.locks = false) (eT : T.heap = h) (N : Fr n0 locs) (hc : cells ≤ 0) (hs : slots ≤ 0) (A0 : own_AF Z h o0 .byte z0 g0) (hb0 : own_In z0 i1) (hb1 : own_In z0 (i1 + (1 : Int32))) (hb2 : own_In z0 (i1 + (2 : Int32))) (hb3 : own_In z0 (i1 + (3 : Int32))) (v : Int32) (hv : v = f4_117 g0 i1 i2 is0) (hQ : ∀ L', Fr n0 L' → Q (some (.int v)) h L') :
    own_Fin p e below s Q 0 0 (T.setTop (mkF m 117 #[.val (.ref o0), .val (.int i1), .val (.int i2)] [(.int is0)])) := by
  exact own_retN X hx hlk hret (by simp) (hb hby d4_117) (Nat.le_trans (Nat.add_le_add_right hc 0) (by decide)) (Nat.le_trans (Nat.add_le_add_right hs 0) (by decide)) eT N hQ (hv)
def f4_112 (g0 : Nat → Int32) (i1 : Int32) (i2 : Int32) : Int32 := f4_117 g0 i1 i2 (1 : Int32)
set_option maxRecDepth 65536 in
set_option maxHeartbeats 40000000 in
theorem b4_112 {p : Program} {l : Launch} {e : Env} {s : State} {m : MethodId} {args : Array Value} {below : List Frame} {meth : Method} {c : Code} {T : State} {locs : List Loc} {cells slots : Nat} {Z : State} {a0 : Array Value} {h : Heap} {n0 : Nat} {Q : Option Value → Heap → List Loc → Prop} (o0 : Addr) (g0 : Nat → Int32) (z0 : Nat) (i1 : Int32) (i2 : Int32) (hw : ∀ d ∈ tables_1, d.before a0 Z = true) (X : Stand p l e ({ frames := 0, cells := 0, slots := 0, locals := 0 } : Room) s m args below meth c T locs cells slots) (hx : p.tables.exec = Jvm.exec) (hZ : Z.Warmed39 s.vm) (hby : c.code = method_3_code) (hml : c.maxLocals = 3) (hown : s.vm.findClass "com/example/zoria/zoria/xml/XmlInputStandingCharacterPinLaw" = some m.cls) (hret : meth.sig.returnType = some .boolean) (hlk : meth.locks = false) (eT : T.heap = h) (N : Fr n0 locs) (hc : cells ≤ 0) (hs : slots ≤ 0) (A0 : own_AF Z h o0 .byte z0 g0) (hb0 : own_In z0 i1) (hb1 : own_In z0 (i1 + (1 : Int32))) (hb2 : own_In z0 (i1 + (2 : Int32))) (hb3 : own_In z0 (i1 + (3 : Int32))) (v : Int32) (hv : v = f4_112 g0 i1 i2) (hQ : ∀ L', Fr n0 L' → Q (some (.int v)) h L') :
    own_Fin p e below s Q 0 0 (T.setTop (mkF m 112 #[.val (.ref o0), .val (.int i1), .val (.int i2)] [])) := by
  refine own_step (fun t k => XS.iconst X.here hx rfl (hb hby d4_112) k) ?_
  show own_Fin p e below s Q 0 0 (T.setTop (mkF m 113 #[.val (.ref o0), .val (.int i1), .val (.int i2)] [(.int (1 : Int32))]))
  refine own_step (fun t k => XS.goto X.here hx rfl (pc0 := 113) (pc' := 117) rfl (hb hby d4_113) (by decide) (by decide) k) ?_
  exact b4_117 o0 g0 z0 i1 i2 (1 : Int32) hw X hx hZ hby hml hown hret hlk eT N (Nat.le_trans (Nat.add_le_add_right hc 0) (by decide)) (Nat.le_trans (Nat.add_le_add_right hs 0) (by decide)) A0 hb0 hb1 hb2 hb3 v (hv) hQ
def f4_116 (g0 : Nat → Int32) (i1 : Int32) (i2 : Int32) : Int32 := f4_117 g0 i1 i2 (0 : Int32)
set_option maxRecDepth 65536 in
set_option maxHeartbeats 40000000 in
theorem b4_116 {p : Program} {l : Launch} {e : Env} {s : State} {m : MethodId} {args : Array Value} {below : List Frame} {meth : Method} {c : Code} {T : State} {locs : List Loc} {cells slots : Nat} {Z : State} {a0 : Array Value} {h : Heap} {n0 : Nat} {Q : Option Value → Heap → List Loc → Prop} (o0 : Addr) (g0 : Nat → Int32) (z0 : Nat) (i1 : Int32) (i2 : Int32) (hw : ∀ d ∈ tables_1, d.before a0 Z = true) (X : Stand p l e ({ frames := 0, cells := 0, slots := 0, locals := 0 } : Room) s m args below meth c T locs cells slots) (hx : p.tables.exec = Jvm.exec) (hZ : Z.Warmed39 s.vm) (hby : c.code = method_3_code) (hml : c.maxLocals = 3) (hown : s.vm.findClass "com/example/zoria/zoria/xml/XmlInputStandingCharacterPinLaw" = some m.cls) (hret : meth.sig.returnType = some .boolean) (hlk : meth.locks = false) (eT : T.heap = h) (N : Fr n0 locs) (hc : cells ≤ 0) (hs : slots ≤ 0) (A0 : own_AF Z h o0 .byte z0 g0) (hb0 : own_In z0 i1) (hb1 : own_In z0 (i1 + (1 : Int32))) (hb2 : own_In z0 (i1 + (2 : Int32))) (hb3 : own_In z0 (i1 + (3 : Int32))) (v : Int32) (hv : v = f4_116 g0 i1 i2) (hQ : ∀ L', Fr n0 L' → Q (some (.int v)) h L') :
    own_Fin p e below s Q 0 0 (T.setTop (mkF m 116 #[.val (.ref o0), .val (.int i1), .val (.int i2)] [])) := by
  refine own_step (fun t k => XS.iconst X.here hx rfl (hb hby d4_116) k) ?_
  exact b4_117 o0 g0 z0 i1 i2 (0 : Int32) hw X hx hZ hby hml hown hret hlk eT N (Nat.le_trans (Nat.add_le_add_right hc 0) (by decide)) (Nat.le_trans (Nat.add_le_add_right hs 0) (by decide)) A0 hb0 hb1 hb2 hb3 v (hv) hQ
def f4_95 (g0 : Nat → Int32) (i1 : Int32) (i2 : Int32) : Int32 := if (g0 ((i1 + (2 : Int32))).toNatClampNeg) = (((128 : Int32) ||| (i2 &&& (63 : Int32))).toInt8.toInt32) then f4_112 g0 i1 i2 else f4_116 g0 i1 i2
set_option maxRecDepth 65536 in
set_option maxHeartbeats 40000000 in
theorem b4_95 {p : Program} {l : Launch} {e : Env} {s : State} {m : MethodId} {args : Array Value} {below : List Frame} {meth : Method} {c : Code} {T : State} {locs : List Loc} {cells slots : Nat} {Z : State} {a0 : Array Value} {h : Heap} {n0 : Nat} {Q : Option Value → Heap → List Loc → Prop} (o0 : Addr) (g0 : Nat → Int32) (z0 : Nat) (i1 : Int32) (i2 : Int32) (hw : ∀ d ∈ tables_1, d.before a0 Z = true) (X : Stand p l e ({ frames := 0, cells := 0, slots := 0, locals := 0 } : Room) s m args below meth c T locs cells slots) (hx : p.tables.exec = Jvm.exec) (hZ : Z.Warmed39 s.vm) (hby : c.code = method_3_code) (hml : c.maxLocals = 3) (hown : s.vm.findClass "com/example/zoria/zoria/xml/XmlInputStandingCharacterPinLaw" = some m.cls) (hret : meth.sig.returnType = some .boolean) (hlk : meth.locks = false) (eT : T.heap = h) (N : Fr n0 locs) (hc : cells ≤ 0) (hs : slots ≤ 0) (A0 : own_AF Z h o0 .byte z0 g0) (hb0 : own_In z0 i1) (hb1 : own_In z0 (i1 + (1 : Int32))) (hb2 : own_In z0 (i1 + (2 : Int32))) (hb3 : own_In z0 (i1 + (3 : Int32))) (v : Int32) (hv : v = f4_95 g0 i1 i2) (hQ : ∀ L', Fr n0 L' → Q (some (.int v)) h L') :
    own_Fin p e below s Q 0 0 (T.setTop (mkF m 95 #[.val (.ref o0), .val (.int i1), .val (.int i2)] [])) := by
  refine own_step (fun t k => XS.aloadN X.here hx rfl (hb hby d4_95) rfl rfl k) ?_
  show own_Fin p e below s Q 0 0 (T.setTop (mkF m 96 #[.val (.ref o0), .val (.int i1), .val (.int i2)] [(.ref o0)]))
  refine own_step (fun t k => XS.iloadN X.here hx rfl (hb hby d4_96) rfl  k) ?_
  show own_Fin p e below s Q 0 0 (T.setTop (mkF m 97 #[.val (.ref o0), .val (.int i1), .val (.int i2)] [(.int i1), (.ref o0)]))
  refine own_step (fun t k => XS.iconst X.here hx rfl (hb hby d4_97) k) ?_
  show own_Fin p e below s Q 0 0 (T.setTop (mkF m 98 #[.val (.ref o0), .val (.int i1), .val (.int i2)] [(.int (2 : Int32)), (.int i1), (.ref o0)]))
  refine own_step (fun t k => XS.iadd X.here hx rfl (hb hby d4_98) rfl k) ?_
  show own_Fin p e below s Q 0 0 (T.setTop (mkF m 99 #[.val (.ref o0), .val (.int i1), .val (.int i2)] [(.int (i1 + (2 : Int32))), (.ref o0)]))
  obtain ⟨ca99, Ar99, Sz99, Ht99⟩ := id A0
  have hin99 : ¬ ((i1 + (2 : Int32)) < 0 ∨ ca99.slots.size ≤ ((i1 + (2 : Int32))).toNatClampNeg) := by rw [Sz99]; exact hb2
  refine own_step (X.baloadBytes hx (j := (i1 + (2 : Int32))) (v := (.int (g0 ((i1 + (2 : Int32))).toNatClampNeg))) (by rw [eT]; exact Ar99.1) (State.isArrayOf_alike hZ.alike Ar99.2.1) Ar99.2.2 hin99 (Ht99 _ (by have hq := Nat.lt_of_not_le (fun y => hin99 (Or.inr y)); rw [Sz99] at hq; exact hq)) (g := (mkF m 99 #[.val (.ref o0), .val (.int i1), .val (.int i2)] [(.int (i1 + (2 : Int32))), (.ref o0)])) rfl rfl (hb hby d4_99)) ?_
  show own_Fin p e below s Q 0 0 (T.setTop (mkF m 100 #[.val (.ref o0), .val (.int i1), .val (.int i2)] [(.int (g0 ((i1 + (2 : Int32))).toNatClampNeg))]))
  refine own_step (fun t k => XS.sipush X.here hx rfl (hb hby d4_100) k) ?_
  show own_Fin p e below s Q 0 0 (T.setTop (mkF m 103 #[.val (.ref o0), .val (.int i1), .val (.int i2)] [(.int (128 : Int32)), (.int (g0 ((i1 + (2 : Int32))).toNatClampNeg))]))
  refine own_step (fun t k => XS.iloadN X.here hx rfl (hb hby d4_103) rfl  k) ?_
  show own_Fin p e below s Q 0 0 (T.setTop (mkF m 104 #[.val (.ref o0), .val (.int i1), .val (.int i2)] [(.int i2), (.int (128 : Int32)), (.int (g0 ((i1 + (2 : Int32))).toNatClampNeg))]))
  refine own_step (fun t k => XS.bipush X.here hx rfl (hb hby d4_104) k) ?_
  show own_Fin p e below s Q 0 0 (T.setTop (mkF m 106 #[.val (.ref o0), .val (.int i1), .val (.int i2)] [(.int (63 : Int32)), (.int i2), (.int (128 : Int32)), (.int (g0 ((i1 + (2 : Int32))).toNatClampNeg))]))
  refine own_step (fun t k => XS.iand X.here hx rfl (hb hby d4_106) rfl k) ?_
  show own_Fin p e below s Q 0 0 (T.setTop (mkF m 107 #[.val (.ref o0), .val (.int i1), .val (.int i2)] [(.int (i2 &&& (63 : Int32))), (.int (128 : Int32)), (.int (g0 ((i1 + (2 : Int32))).toNatClampNeg))]))
  refine own_step (fun t k => XS.ior X.here hx rfl (hb hby d4_107) rfl k) ?_
  show own_Fin p e below s Q 0 0 (T.setTop (mkF m 108 #[.val (.ref o0), .val (.int i1), .val (.int i2)] [(.int ((128 : Int32) ||| (i2 &&& (63 : Int32)))), (.int (g0 ((i1 + (2 : Int32))).toNatClampNeg))]))
  refine own_step (fun t k => XS.i2b X.here hx rfl (hb hby d4_108) rfl k) ?_
  show own_Fin p e below s Q 0 0 (T.setTop (mkF m 109 #[.val (.ref o0), .val (.int i1), .val (.int i2)] [(.int (((128 : Int32) ||| (i2 &&& (63 : Int32))).toInt8.toInt32)), (.int (g0 ((i1 + (2 : Int32))).toNatClampNeg))]))
  by_cases hB109_112 : (g0 ((i1 + (2 : Int32))).toNatClampNeg) = (((128 : Int32) ||| (i2 &&& (63 : Int32))).toInt8.toInt32)
  · refine own_step (fun t k => XS.icmpNo X.here hx rfl (hb hby d4_109) rfl (teq hB109_112).2 k) ?_
    exact b4_112 o0 g0 z0 i1 i2 hw X hx hZ hby hml hown hret hlk eT N (Nat.le_trans (Nat.add_le_add_right hc 0) (by decide)) (Nat.le_trans (Nat.add_le_add_right hs 0) (by decide)) A0 hb0 hb1 hb2 hb3 v (hv.trans (if_pos hB109_112)) hQ
  · refine own_step (fun t k => XS.icmpYes X.here hx rfl (pc0 := 109) (pc' := 116) rfl (hb hby d4_109) rfl (feq hB109_112).2 (by decide) (by decide) k) ?_
    exact b4_116 o0 g0 z0 i1 i2 hw X hx hZ hby hml hown hret hlk eT N (Nat.le_trans (Nat.add_le_add_right hc 0) (by decide)) (Nat.le_trans (Nat.add_le_add_right hs 0) (by decide)) A0 hb0 hb1 hb2 hb3 v (hv.trans (if_neg hB109_112)) hQ
def f4_75 (g0 : Nat → Int32) (i1 : Int32) (i2 : Int32) : Int32 := if (g0 ((i1 + (1 : Int32))).toNatClampNeg) = (((128 : Int32) ||| ((i2 >>> ((6 : Int32) &&& 31)) &&& (63 : Int32))).toInt8.toInt32) then f4_95 g0 i1 i2 else f4_116 g0 i1 i2
set_option maxRecDepth 65536 in
set_option maxHeartbeats 40000000 in
theorem b4_75 {p : Program} {l : Launch} {e : Env} {s : State} {m : MethodId} {args : Array Value} {below : List Frame} {meth : Method} {c : Code} {T : State} {locs : List Loc} {cells slots : Nat} {Z : State} {a0 : Array Value} {h : Heap} {n0 : Nat} {Q : Option Value → Heap → List Loc → Prop} (o0 : Addr) (g0 : Nat → Int32) (z0 : Nat) (i1 : Int32) (i2 : Int32) (hw : ∀ d ∈ tables_1, d.before a0 Z = true) (X : Stand p l e ({ frames := 0, cells := 0, slots := 0, locals := 0 } : Room) s m args below meth c T locs cells slots) (hx : p.tables.exec = Jvm.exec) (hZ : Z.Warmed39 s.vm) (hby : c.code = method_3_code) (hml : c.maxLocals = 3) (hown : s.vm.findClass "com/example/zoria/zoria/xml/XmlInputStandingCharacterPinLaw" = some m.cls) (hret : meth.sig.returnType = some .boolean) (hlk : meth.locks = false) (eT : T.heap = h) (N : Fr n0 locs) (hc : cells ≤ 0) (hs : slots ≤ 0) (A0 : own_AF Z h o0 .byte z0 g0) (hb0 : own_In z0 i1) (hb1 : own_In z0 (i1 + (1 : Int32))) (hb2 : own_In z0 (i1 + (2 : Int32))) (hb3 : own_In z0 (i1 + (3 : Int32))) (v : Int32) (hv : v = f4_75 g0 i1 i2) (hQ : ∀ L', Fr n0 L' → Q (some (.int v)) h L') :
    own_Fin p e below s Q 0 0 (T.setTop (mkF m 75 #[.val (.ref o0), .val (.int i1), .val (.int i2)] [])) := by
  refine own_step (fun t k => XS.aloadN X.here hx rfl (hb hby d4_75) rfl rfl k) ?_
  show own_Fin p e below s Q 0 0 (T.setTop (mkF m 76 #[.val (.ref o0), .val (.int i1), .val (.int i2)] [(.ref o0)]))
  refine own_step (fun t k => XS.iloadN X.here hx rfl (hb hby d4_76) rfl  k) ?_
  show own_Fin p e below s Q 0 0 (T.setTop (mkF m 77 #[.val (.ref o0), .val (.int i1), .val (.int i2)] [(.int i1), (.ref o0)]))
  refine own_step (fun t k => XS.iconst X.here hx rfl (hb hby d4_77) k) ?_
  show own_Fin p e below s Q 0 0 (T.setTop (mkF m 78 #[.val (.ref o0), .val (.int i1), .val (.int i2)] [(.int (1 : Int32)), (.int i1), (.ref o0)]))
  refine own_step (fun t k => XS.iadd X.here hx rfl (hb hby d4_78) rfl k) ?_
  show own_Fin p e below s Q 0 0 (T.setTop (mkF m 79 #[.val (.ref o0), .val (.int i1), .val (.int i2)] [(.int (i1 + (1 : Int32))), (.ref o0)]))
  obtain ⟨ca79, Ar79, Sz79, Ht79⟩ := id A0
  have hin79 : ¬ ((i1 + (1 : Int32)) < 0 ∨ ca79.slots.size ≤ ((i1 + (1 : Int32))).toNatClampNeg) := by rw [Sz79]; exact hb1
  refine own_step (X.baloadBytes hx (j := (i1 + (1 : Int32))) (v := (.int (g0 ((i1 + (1 : Int32))).toNatClampNeg))) (by rw [eT]; exact Ar79.1) (State.isArrayOf_alike hZ.alike Ar79.2.1) Ar79.2.2 hin79 (Ht79 _ (by have hq := Nat.lt_of_not_le (fun y => hin79 (Or.inr y)); rw [Sz79] at hq; exact hq)) (g := (mkF m 79 #[.val (.ref o0), .val (.int i1), .val (.int i2)] [(.int (i1 + (1 : Int32))), (.ref o0)])) rfl rfl (hb hby d4_79)) ?_
  show own_Fin p e below s Q 0 0 (T.setTop (mkF m 80 #[.val (.ref o0), .val (.int i1), .val (.int i2)] [(.int (g0 ((i1 + (1 : Int32))).toNatClampNeg))]))
  refine own_step (fun t k => XS.sipush X.here hx rfl (hb hby d4_80) k) ?_
  show own_Fin p e below s Q 0 0 (T.setTop (mkF m 83 #[.val (.ref o0), .val (.int i1), .val (.int i2)] [(.int (128 : Int32)), (.int (g0 ((i1 + (1 : Int32))).toNatClampNeg))]))
  refine own_step (fun t k => XS.iloadN X.here hx rfl (hb hby d4_83) rfl  k) ?_
  show own_Fin p e below s Q 0 0 (T.setTop (mkF m 84 #[.val (.ref o0), .val (.int i1), .val (.int i2)] [(.int i2), (.int (128 : Int32)), (.int (g0 ((i1 + (1 : Int32))).toNatClampNeg))]))
  refine own_step (fun t k => XS.bipush X.here hx rfl (hb hby d4_84) k) ?_
  show own_Fin p e below s Q 0 0 (T.setTop (mkF m 86 #[.val (.ref o0), .val (.int i1), .val (.int i2)] [(.int (6 : Int32)), (.int i2), (.int (128 : Int32)), (.int (g0 ((i1 + (1 : Int32))).toNatClampNeg))]))
  refine own_step (fun t k => XS.ishr X.here hx rfl (hb hby d4_86) rfl k) ?_
  show own_Fin p e below s Q 0 0 (T.setTop (mkF m 87 #[.val (.ref o0), .val (.int i1), .val (.int i2)] [(.int (i2 >>> ((6 : Int32) &&& 31))), (.int (128 : Int32)), (.int (g0 ((i1 + (1 : Int32))).toNatClampNeg))]))
  refine own_step (fun t k => XS.bipush X.here hx rfl (hb hby d4_87) k) ?_
  show own_Fin p e below s Q 0 0 (T.setTop (mkF m 89 #[.val (.ref o0), .val (.int i1), .val (.int i2)] [(.int (63 : Int32)), (.int (i2 >>> ((6 : Int32) &&& 31))), (.int (128 : Int32)), (.int (g0 ((i1 + (1 : Int32))).toNatClampNeg))]))
  refine own_step (fun t k => XS.iand X.here hx rfl (hb hby d4_89) rfl k) ?_
  show own_Fin p e below s Q 0 0 (T.setTop (mkF m 90 #[.val (.ref o0), .val (.int i1), .val (.int i2)] [(.int ((i2 >>> ((6 : Int32) &&& 31)) &&& (63 : Int32))), (.int (128 : Int32)), (.int (g0 ((i1 + (1 : Int32))).toNatClampNeg))]))
  refine own_step (fun t k => XS.ior X.here hx rfl (hb hby d4_90) rfl k) ?_
  show own_Fin p e below s Q 0 0 (T.setTop (mkF m 91 #[.val (.ref o0), .val (.int i1), .val (.int i2)] [(.int ((128 : Int32) ||| ((i2 >>> ((6 : Int32) &&& 31)) &&& (63 : Int32)))), (.int (g0 ((i1 + (1 : Int32))).toNatClampNeg))]))
  refine own_step (fun t k => XS.i2b X.here hx rfl (hb hby d4_91) rfl k) ?_
  show own_Fin p e below s Q 0 0 (T.setTop (mkF m 92 #[.val (.ref o0), .val (.int i1), .val (.int i2)] [(.int (((128 : Int32) ||| ((i2 >>> ((6 : Int32) &&& 31)) &&& (63 : Int32))).toInt8.toInt32)), (.int (g0 ((i1 + (1 : Int32))).toNatClampNeg))]))
  by_cases hB92_110 : (g0 ((i1 + (1 : Int32))).toNatClampNeg) = (((128 : Int32) ||| ((i2 >>> ((6 : Int32) &&& 31)) &&& (63 : Int32))).toInt8.toInt32)
  · refine own_step (fun t k => XS.icmpNo X.here hx rfl (hb hby d4_92) rfl (teq hB92_110).2 k) ?_
    exact b4_95 o0 g0 z0 i1 i2 hw X hx hZ hby hml hown hret hlk eT N (Nat.le_trans (Nat.add_le_add_right hc 0) (by decide)) (Nat.le_trans (Nat.add_le_add_right hs 0) (by decide)) A0 hb0 hb1 hb2 hb3 v (hv.trans (if_pos hB92_110)) hQ
  · refine own_step (fun t k => XS.icmpYes X.here hx rfl (pc0 := 92) (pc' := 116) rfl (hb hby d4_92) rfl (feq hB92_110).2 (by decide) (by decide) k) ?_
    exact b4_116 o0 g0 z0 i1 i2 hw X hx hZ hby hml hown hret hlk eT N (Nat.le_trans (Nat.add_le_add_right hc 0) (by decide)) (Nat.le_trans (Nat.add_le_add_right hs 0) (by decide)) A0 hb0 hb1 hb2 hb3 v (hv.trans (if_neg hB92_110)) hQ
def f4_60 (g0 : Nat → Int32) (i1 : Int32) (i2 : Int32) : Int32 := if (g0 (i1).toNatClampNeg) = (((224 : Int32) ||| (i2 >>> ((12 : Int32) &&& 31))).toInt8.toInt32) then f4_75 g0 i1 i2 else f4_116 g0 i1 i2
set_option maxRecDepth 65536 in
set_option maxHeartbeats 40000000 in
theorem b4_60 {p : Program} {l : Launch} {e : Env} {s : State} {m : MethodId} {args : Array Value} {below : List Frame} {meth : Method} {c : Code} {T : State} {locs : List Loc} {cells slots : Nat} {Z : State} {a0 : Array Value} {h : Heap} {n0 : Nat} {Q : Option Value → Heap → List Loc → Prop} (o0 : Addr) (g0 : Nat → Int32) (z0 : Nat) (i1 : Int32) (i2 : Int32) (hw : ∀ d ∈ tables_1, d.before a0 Z = true) (X : Stand p l e ({ frames := 0, cells := 0, slots := 0, locals := 0 } : Room) s m args below meth c T locs cells slots) (hx : p.tables.exec = Jvm.exec) (hZ : Z.Warmed39 s.vm) (hby : c.code = method_3_code) (hml : c.maxLocals = 3) (hown : s.vm.findClass "com/example/zoria/zoria/xml/XmlInputStandingCharacterPinLaw" = some m.cls) (hret : meth.sig.returnType = some .boolean) (hlk : meth.locks = false) (eT : T.heap = h) (N : Fr n0 locs) (hc : cells ≤ 0) (hs : slots ≤ 0) (A0 : own_AF Z h o0 .byte z0 g0) (hb0 : own_In z0 i1) (hb1 : own_In z0 (i1 + (1 : Int32))) (hb2 : own_In z0 (i1 + (2 : Int32))) (hb3 : own_In z0 (i1 + (3 : Int32))) (v : Int32) (hv : v = f4_60 g0 i1 i2) (hQ : ∀ L', Fr n0 L' → Q (some (.int v)) h L') :
    own_Fin p e below s Q 0 0 (T.setTop (mkF m 60 #[.val (.ref o0), .val (.int i1), .val (.int i2)] [])) := by
  refine own_step (fun t k => XS.aloadN X.here hx rfl (hb hby d4_60) rfl rfl k) ?_
  show own_Fin p e below s Q 0 0 (T.setTop (mkF m 61 #[.val (.ref o0), .val (.int i1), .val (.int i2)] [(.ref o0)]))
  refine own_step (fun t k => XS.iloadN X.here hx rfl (hb hby d4_61) rfl  k) ?_
  show own_Fin p e below s Q 0 0 (T.setTop (mkF m 62 #[.val (.ref o0), .val (.int i1), .val (.int i2)] [(.int i1), (.ref o0)]))
  obtain ⟨ca62, Ar62, Sz62, Ht62⟩ := id A0
  have hin62 : ¬ (i1 < 0 ∨ ca62.slots.size ≤ (i1).toNatClampNeg) := by rw [Sz62]; exact hb0
  refine own_step (X.baloadBytes hx (j := i1) (v := (.int (g0 (i1).toNatClampNeg))) (by rw [eT]; exact Ar62.1) (State.isArrayOf_alike hZ.alike Ar62.2.1) Ar62.2.2 hin62 (Ht62 _ (by have hq := Nat.lt_of_not_le (fun y => hin62 (Or.inr y)); rw [Sz62] at hq; exact hq)) (g := (mkF m 62 #[.val (.ref o0), .val (.int i1), .val (.int i2)] [(.int i1), (.ref o0)])) rfl rfl (hb hby d4_62)) ?_
  show own_Fin p e below s Q 0 0 (T.setTop (mkF m 63 #[.val (.ref o0), .val (.int i1), .val (.int i2)] [(.int (g0 (i1).toNatClampNeg))]))
  refine own_step (fun t k => XS.sipush X.here hx rfl (hb hby d4_63) k) ?_
  show own_Fin p e below s Q 0 0 (T.setTop (mkF m 66 #[.val (.ref o0), .val (.int i1), .val (.int i2)] [(.int (224 : Int32)), (.int (g0 (i1).toNatClampNeg))]))
  refine own_step (fun t k => XS.iloadN X.here hx rfl (hb hby d4_66) rfl  k) ?_
  show own_Fin p e below s Q 0 0 (T.setTop (mkF m 67 #[.val (.ref o0), .val (.int i1), .val (.int i2)] [(.int i2), (.int (224 : Int32)), (.int (g0 (i1).toNatClampNeg))]))
  refine own_step (fun t k => XS.bipush X.here hx rfl (hb hby d4_67) k) ?_
  show own_Fin p e below s Q 0 0 (T.setTop (mkF m 69 #[.val (.ref o0), .val (.int i1), .val (.int i2)] [(.int (12 : Int32)), (.int i2), (.int (224 : Int32)), (.int (g0 (i1).toNatClampNeg))]))
  refine own_step (fun t k => XS.ishr X.here hx rfl (hb hby d4_69) rfl k) ?_
  show own_Fin p e below s Q 0 0 (T.setTop (mkF m 70 #[.val (.ref o0), .val (.int i1), .val (.int i2)] [(.int (i2 >>> ((12 : Int32) &&& 31))), (.int (224 : Int32)), (.int (g0 (i1).toNatClampNeg))]))
  refine own_step (fun t k => XS.ior X.here hx rfl (hb hby d4_70) rfl k) ?_
  show own_Fin p e below s Q 0 0 (T.setTop (mkF m 71 #[.val (.ref o0), .val (.int i1), .val (.int i2)] [(.int ((224 : Int32) ||| (i2 >>> ((12 : Int32) &&& 31)))), (.int (g0 (i1).toNatClampNeg))]))
  refine own_step (fun t k => XS.i2b X.here hx rfl (hb hby d4_71) rfl k) ?_
  show own_Fin p e below s Q 0 0 (T.setTop (mkF m 72 #[.val (.ref o0), .val (.int i1), .val (.int i2)] [(.int (((224 : Int32) ||| (i2 >>> ((12 : Int32) &&& 31))).toInt8.toInt32)), (.int (g0 (i1).toNatClampNeg))]))
  by_cases hB72_108 : (g0 (i1).toNatClampNeg) = (((224 : Int32) ||| (i2 >>> ((12 : Int32) &&& 31))).toInt8.toInt32)
  · refine own_step (fun t k => XS.icmpNo X.here hx rfl (hb hby d4_72) rfl (teq hB72_108).2 k) ?_
    exact b4_75 o0 g0 z0 i1 i2 hw X hx hZ hby hml hown hret hlk eT N (Nat.le_trans (Nat.add_le_add_right hc 0) (by decide)) (Nat.le_trans (Nat.add_le_add_right hs 0) (by decide)) A0 hb0 hb1 hb2 hb3 v (hv.trans (if_pos hB72_108)) hQ
  · refine own_step (fun t k => XS.icmpYes X.here hx rfl (pc0 := 72) (pc' := 116) rfl (hb hby d4_72) rfl (feq hB72_108).2 (by decide) (by decide) k) ?_
    exact b4_116 o0 g0 z0 i1 i2 hw X hx hZ hby hml hown hret hlk eT N (Nat.le_trans (Nat.add_le_add_right hc 0) (by decide)) (Nat.le_trans (Nat.add_le_add_right hs 0) (by decide)) A0 hb0 hb1 hb2 hb3 v (hv.trans (if_neg hB72_108)) hQ
def f4_124 (g0 : Nat → Int32) (i1 : Int32) (i2 : Int32) : Int32 := (0 : Int32)
set_option maxRecDepth 65536 in
set_option maxHeartbeats 40000000 in
theorem b4_124 {p : Program} {l : Launch} {e : Env} {s : State} {m : MethodId} {args : Array Value} {below : List Frame} {meth : Method} {c : Code} {T : State} {locs : List Loc} {cells slots : Nat} {Z : State} {a0 : Array Value} {h : Heap} {n0 : Nat} {Q : Option Value → Heap → List Loc → Prop} (o0 : Addr) (g0 : Nat → Int32) (z0 : Nat) (i1 : Int32) (i2 : Int32) (hw : ∀ d ∈ tables_1, d.before a0 Z = true) (X : Stand p l e ({ frames := 0, cells := 0, slots := 0, locals := 0 } : Room) s m args below meth c T locs cells slots) (hx : p.tables.exec = Jvm.exec) (hZ : Z.Warmed39 s.vm) (hby : c.code = method_3_code) (hml : c.maxLocals = 3) (hown : s.vm.findClass "com/example/zoria/zoria/xml/XmlInputStandingCharacterPinLaw" = some m.cls) (hret : meth.sig.returnType = some .boolean) (hlk : meth.locks = false) (eT : T.heap = h) (N : Fr n0 locs) (hc : cells ≤ 0) (hs : slots ≤ 0) (A0 : own_AF Z h o0 .byte z0 g0) (hb0 : own_In z0 i1) (hb1 : own_In z0 (i1 + (1 : Int32))) (hb2 : own_In z0 (i1 + (2 : Int32))) (hb3 : own_In z0 (i1 + (3 : Int32))) (v : Int32) (hv : v = f4_124 g0 i1 i2) (hQ : ∀ L', Fr n0 L' → Q (some (.int v)) h L') :
    own_Fin p e below s Q 0 0 (T.setTop (mkF m 124 #[.val (.ref o0), .val (.int i1), .val (.int i2)] [])) := by
  refine own_step (fun t k => XS.iconst X.here hx rfl (hb hby d4_124) k) ?_
  show own_Fin p e below s Q 0 0 (T.setTop (mkF m 125 #[.val (.ref o0), .val (.int i1), .val (.int i2)] [(.int (0 : Int32))]))
  exact own_retN X hx hlk hret (by simp) (hb hby d4_125) (Nat.le_trans (Nat.add_le_add_right hc 0) (by decide)) (Nat.le_trans (Nat.add_le_add_right hs 0) (by decide)) eT N hQ (hv)
def f4_203 (g0 : Nat → Int32) (i1 : Int32) (i2 : Int32) (is0 : Int32) : Int32 := (nar .boolean is0)
set_option maxRecDepth 65536 in
set_option maxHeartbeats 40000000 in
theorem b4_203 {p : Program} {l : Launch} {e : Env} {s : State} {m : MethodId} {args : Array Value} {below : List Frame} {meth : Method} {c : Code} {T : State} {locs : List Loc} {cells slots : Nat} {Z : State} {a0 : Array Value} {h : Heap} {n0 : Nat} {Q : Option Value → Heap → List Loc → Prop} (o0 : Addr) (g0 : Nat → Int32) (z0 : Nat) (i1 : Int32) (i2 : Int32) (is0 : Int32) (hw : ∀ d ∈ tables_1, d.before a0 Z = true) (X : Stand p l e ({ frames := 0, cells := 0, slots := 0, locals := 0 } : Room) s m args below meth c T locs cells slots) (hx : p.tables.exec = Jvm.exec) (hZ : Z.Warmed39 s.vm) (hby : c.code = method_3_code) (hml : c.maxLocals = 3) (hown : s.vm.findClass "com/example/zoria/zoria/xml/XmlInputStandingCharacterPinLaw" = some m.cls) (hret : meth.sig.returnType = some .boolean) (hlk : meth.locks = false) (eT : T.heap = h) (N : Fr n0 locs) (hc : cells ≤ 0) (hs : slots ≤ 0) (A0 : own_AF Z h o0 .byte z0 g0) (hb0 : own_In z0 i1) (hb1 : own_In z0 (i1 + (1 : Int32))) (hb2 : own_In z0 (i1 + (2 : Int32))) (hb3 : own_In z0 (i1 + (3 : Int32))) (v : Int32) (hv : v = f4_203 g0 i1 i2 is0) (hQ : ∀ L', Fr n0 L' → Q (some (.int v)) h L') :
    own_Fin p e below s Q 0 0 (T.setTop (mkF m 203 #[.val (.ref o0), .val (.int i1), .val (.int i2)] [(.int is0)])) := by
  exact own_retN X hx hlk hret (by simp) (hb hby d4_203) (Nat.le_trans (Nat.add_le_add_right hc 0) (by decide)) (Nat.le_trans (Nat.add_le_add_right hs 0) (by decide)) eT N hQ (hv)
def f4_198 (g0 : Nat → Int32) (i1 : Int32) (i2 : Int32) : Int32 := f4_203 g0 i1 i2 (1 : Int32)
set_option maxRecDepth 65536 in
set_option maxHeartbeats 40000000 in
theorem b4_198 {p : Program} {l : Launch} {e : Env} {s : State} {m : MethodId} {args : Array Value} {below : List Frame} {meth : Method} {c : Code} {T : State} {locs : List Loc} {cells slots : Nat} {Z : State} {a0 : Array Value} {h : Heap} {n0 : Nat} {Q : Option Value → Heap → List Loc → Prop} (o0 : Addr) (g0 : Nat → Int32) (z0 : Nat) (i1 : Int32) (i2 : Int32) (hw : ∀ d ∈ tables_1, d.before a0 Z = true) (X : Stand p l e ({ frames := 0, cells := 0, slots := 0, locals := 0 } : Room) s m args below meth c T locs cells slots) (hx : p.tables.exec = Jvm.exec) (hZ : Z.Warmed39 s.vm) (hby : c.code = method_3_code) (hml : c.maxLocals = 3) (hown : s.vm.findClass "com/example/zoria/zoria/xml/XmlInputStandingCharacterPinLaw" = some m.cls) (hret : meth.sig.returnType = some .boolean) (hlk : meth.locks = false) (eT : T.heap = h) (N : Fr n0 locs) (hc : cells ≤ 0) (hs : slots ≤ 0) (A0 : own_AF Z h o0 .byte z0 g0) (hb0 : own_In z0 i1) (hb1 : own_In z0 (i1 + (1 : Int32))) (hb2 : own_In z0 (i1 + (2 : Int32))) (hb3 : own_In z0 (i1 + (3 : Int32))) (v : Int32) (hv : v = f4_198 g0 i1 i2) (hQ : ∀ L', Fr n0 L' → Q (some (.int v)) h L') :
    own_Fin p e below s Q 0 0 (T.setTop (mkF m 198 #[.val (.ref o0), .val (.int i1), .val (.int i2)] [])) := by
  refine own_step (fun t k => XS.iconst X.here hx rfl (hb hby d4_198) k) ?_
  show own_Fin p e below s Q 0 0 (T.setTop (mkF m 199 #[.val (.ref o0), .val (.int i1), .val (.int i2)] [(.int (1 : Int32))]))
  refine own_step (fun t k => XS.goto X.here hx rfl (pc0 := 199) (pc' := 203) rfl (hb hby d4_199) (by decide) (by decide) k) ?_
  exact b4_203 o0 g0 z0 i1 i2 (1 : Int32) hw X hx hZ hby hml hown hret hlk eT N (Nat.le_trans (Nat.add_le_add_right hc 0) (by decide)) (Nat.le_trans (Nat.add_le_add_right hs 0) (by decide)) A0 hb0 hb1 hb2 hb3 v (hv) hQ
def f4_202 (g0 : Nat → Int32) (i1 : Int32) (i2 : Int32) : Int32 := f4_203 g0 i1 i2 (0 : Int32)
set_option maxRecDepth 65536 in
set_option maxHeartbeats 40000000 in
theorem b4_202 {p : Program} {l : Launch} {e : Env} {s : State} {m : MethodId} {args : Array Value} {below : List Frame} {meth : Method} {c : Code} {T : State} {locs : List Loc} {cells slots : Nat} {Z : State} {a0 : Array Value} {h : Heap} {n0 : Nat} {Q : Option Value → Heap → List Loc → Prop} (o0 : Addr) (g0 : Nat → Int32) (z0 : Nat) (i1 : Int32) (i2 : Int32) (hw : ∀ d ∈ tables_1, d.before a0 Z = true) (X : Stand p l e ({ frames := 0, cells := 0, slots := 0, locals := 0 } : Room) s m args below meth c T locs cells slots) (hx : p.tables.exec = Jvm.exec) (hZ : Z.Warmed39 s.vm) (hby : c.code = method_3_code) (hml : c.maxLocals = 3) (hown : s.vm.findClass "com/example/zoria/zoria/xml/XmlInputStandingCharacterPinLaw" = some m.cls) (hret : meth.sig.returnType = some .boolean) (hlk : meth.locks = false) (eT : T.heap = h) (N : Fr n0 locs) (hc : cells ≤ 0) (hs : slots ≤ 0) (A0 : own_AF Z h o0 .byte z0 g0) (hb0 : own_In z0 i1) (hb1 : own_In z0 (i1 + (1 : Int32))) (hb2 : own_In z0 (i1 + (2 : Int32))) (hb3 : own_In z0 (i1 + (3 : Int32))) (v : Int32) (hv : v = f4_202 g0 i1 i2) (hQ : ∀ L', Fr n0 L' → Q (some (.int v)) h L') :
    own_Fin p e below s Q 0 0 (T.setTop (mkF m 202 #[.val (.ref o0), .val (.int i1), .val (.int i2)] [])) := by
  refine own_step (fun t k => XS.iconst X.here hx rfl (hb hby d4_202) k) ?_
  exact b4_203 o0 g0 z0 i1 i2 (0 : Int32) hw X hx hZ hby hml hown hret hlk eT N (Nat.le_trans (Nat.add_le_add_right hc 0) (by decide)) (Nat.le_trans (Nat.add_le_add_right hs 0) (by decide)) A0 hb0 hb1 hb2 hb3 v (hv) hQ
def f4_181 (g0 : Nat → Int32) (i1 : Int32) (i2 : Int32) : Int32 := if (g0 ((i1 + (3 : Int32))).toNatClampNeg) = (((128 : Int32) ||| (i2 &&& (63 : Int32))).toInt8.toInt32) then f4_198 g0 i1 i2 else f4_202 g0 i1 i2
set_option maxRecDepth 65536 in
set_option maxHeartbeats 40000000 in
theorem b4_181 {p : Program} {l : Launch} {e : Env} {s : State} {m : MethodId} {args : Array Value} {below : List Frame} {meth : Method} {c : Code} {T : State} {locs : List Loc} {cells slots : Nat} {Z : State} {a0 : Array Value} {h : Heap} {n0 : Nat} {Q : Option Value → Heap → List Loc → Prop} (o0 : Addr) (g0 : Nat → Int32) (z0 : Nat) (i1 : Int32) (i2 : Int32) (hw : ∀ d ∈ tables_1, d.before a0 Z = true) (X : Stand p l e ({ frames := 0, cells := 0, slots := 0, locals := 0 } : Room) s m args below meth c T locs cells slots) (hx : p.tables.exec = Jvm.exec) (hZ : Z.Warmed39 s.vm) (hby : c.code = method_3_code) (hml : c.maxLocals = 3) (hown : s.vm.findClass "com/example/zoria/zoria/xml/XmlInputStandingCharacterPinLaw" = some m.cls) (hret : meth.sig.returnType = some .boolean) (hlk : meth.locks = false) (eT : T.heap = h) (N : Fr n0 locs) (hc : cells ≤ 0) (hs : slots ≤ 0) (A0 : own_AF Z h o0 .byte z0 g0) (hb0 : own_In z0 i1) (hb1 : own_In z0 (i1 + (1 : Int32))) (hb2 : own_In z0 (i1 + (2 : Int32))) (hb3 : own_In z0 (i1 + (3 : Int32))) (v : Int32) (hv : v = f4_181 g0 i1 i2) (hQ : ∀ L', Fr n0 L' → Q (some (.int v)) h L') :
    own_Fin p e below s Q 0 0 (T.setTop (mkF m 181 #[.val (.ref o0), .val (.int i1), .val (.int i2)] [])) := by
  refine own_step (fun t k => XS.aloadN X.here hx rfl (hb hby d4_181) rfl rfl k) ?_
  show own_Fin p e below s Q 0 0 (T.setTop (mkF m 182 #[.val (.ref o0), .val (.int i1), .val (.int i2)] [(.ref o0)]))
  refine own_step (fun t k => XS.iloadN X.here hx rfl (hb hby d4_182) rfl  k) ?_
  show own_Fin p e below s Q 0 0 (T.setTop (mkF m 183 #[.val (.ref o0), .val (.int i1), .val (.int i2)] [(.int i1), (.ref o0)]))
  refine own_step (fun t k => XS.iconst X.here hx rfl (hb hby d4_183) k) ?_
  show own_Fin p e below s Q 0 0 (T.setTop (mkF m 184 #[.val (.ref o0), .val (.int i1), .val (.int i2)] [(.int (3 : Int32)), (.int i1), (.ref o0)]))
  refine own_step (fun t k => XS.iadd X.here hx rfl (hb hby d4_184) rfl k) ?_
  show own_Fin p e below s Q 0 0 (T.setTop (mkF m 185 #[.val (.ref o0), .val (.int i1), .val (.int i2)] [(.int (i1 + (3 : Int32))), (.ref o0)]))
  obtain ⟨ca185, Ar185, Sz185, Ht185⟩ := id A0
  have hin185 : ¬ ((i1 + (3 : Int32)) < 0 ∨ ca185.slots.size ≤ ((i1 + (3 : Int32))).toNatClampNeg) := by rw [Sz185]; exact hb3
  refine own_step (X.baloadBytes hx (j := (i1 + (3 : Int32))) (v := (.int (g0 ((i1 + (3 : Int32))).toNatClampNeg))) (by rw [eT]; exact Ar185.1) (State.isArrayOf_alike hZ.alike Ar185.2.1) Ar185.2.2 hin185 (Ht185 _ (by have hq := Nat.lt_of_not_le (fun y => hin185 (Or.inr y)); rw [Sz185] at hq; exact hq)) (g := (mkF m 185 #[.val (.ref o0), .val (.int i1), .val (.int i2)] [(.int (i1 + (3 : Int32))), (.ref o0)])) rfl rfl (hb hby d4_185)) ?_
  show own_Fin p e below s Q 0 0 (T.setTop (mkF m 186 #[.val (.ref o0), .val (.int i1), .val (.int i2)] [(.int (g0 ((i1 + (3 : Int32))).toNatClampNeg))]))
  refine own_step (fun t k => XS.sipush X.here hx rfl (hb hby d4_186) k) ?_
  show own_Fin p e below s Q 0 0 (T.setTop (mkF m 189 #[.val (.ref o0), .val (.int i1), .val (.int i2)] [(.int (128 : Int32)), (.int (g0 ((i1 + (3 : Int32))).toNatClampNeg))]))
  refine own_step (fun t k => XS.iloadN X.here hx rfl (hb hby d4_189) rfl  k) ?_
  show own_Fin p e below s Q 0 0 (T.setTop (mkF m 190 #[.val (.ref o0), .val (.int i1), .val (.int i2)] [(.int i2), (.int (128 : Int32)), (.int (g0 ((i1 + (3 : Int32))).toNatClampNeg))]))
  refine own_step (fun t k => XS.bipush X.here hx rfl (hb hby d4_190) k) ?_
  show own_Fin p e below s Q 0 0 (T.setTop (mkF m 192 #[.val (.ref o0), .val (.int i1), .val (.int i2)] [(.int (63 : Int32)), (.int i2), (.int (128 : Int32)), (.int (g0 ((i1 + (3 : Int32))).toNatClampNeg))]))
  refine own_step (fun t k => XS.iand X.here hx rfl (hb hby d4_192) rfl k) ?_
  show own_Fin p e below s Q 0 0 (T.setTop (mkF m 193 #[.val (.ref o0), .val (.int i1), .val (.int i2)] [(.int (i2 &&& (63 : Int32))), (.int (128 : Int32)), (.int (g0 ((i1 + (3 : Int32))).toNatClampNeg))]))
  refine own_step (fun t k => XS.ior X.here hx rfl (hb hby d4_193) rfl k) ?_
  show own_Fin p e below s Q 0 0 (T.setTop (mkF m 194 #[.val (.ref o0), .val (.int i1), .val (.int i2)] [(.int ((128 : Int32) ||| (i2 &&& (63 : Int32)))), (.int (g0 ((i1 + (3 : Int32))).toNatClampNeg))]))
  refine own_step (fun t k => XS.i2b X.here hx rfl (hb hby d4_194) rfl k) ?_
  show own_Fin p e below s Q 0 0 (T.setTop (mkF m 195 #[.val (.ref o0), .val (.int i1), .val (.int i2)] [(.int (((128 : Int32) ||| (i2 &&& (63 : Int32))).toInt8.toInt32)), (.int (g0 ((i1 + (3 : Int32))).toNatClampNeg))]))
  by_cases hB195_127 : (g0 ((i1 + (3 : Int32))).toNatClampNeg) = (((128 : Int32) ||| (i2 &&& (63 : Int32))).toInt8.toInt32)
  · refine own_step (fun t k => XS.icmpNo X.here hx rfl (hb hby d4_195) rfl (teq hB195_127).2 k) ?_
    exact b4_198 o0 g0 z0 i1 i2 hw X hx hZ hby hml hown hret hlk eT N (Nat.le_trans (Nat.add_le_add_right hc 0) (by decide)) (Nat.le_trans (Nat.add_le_add_right hs 0) (by decide)) A0 hb0 hb1 hb2 hb3 v (hv.trans (if_pos hB195_127)) hQ
  · refine own_step (fun t k => XS.icmpYes X.here hx rfl (pc0 := 195) (pc' := 202) rfl (hb hby d4_195) rfl (feq hB195_127).2 (by decide) (by decide) k) ?_
    exact b4_202 o0 g0 z0 i1 i2 hw X hx hZ hby hml hown hret hlk eT N (Nat.le_trans (Nat.add_le_add_right hc 0) (by decide)) (Nat.le_trans (Nat.add_le_add_right hs 0) (by decide)) A0 hb0 hb1 hb2 hb3 v (hv.trans (if_neg hB195_127)) hQ
def f4_161 (g0 : Nat → Int32) (i1 : Int32) (i2 : Int32) : Int32 := if (g0 ((i1 + (2 : Int32))).toNatClampNeg) = (((128 : Int32) ||| ((i2 >>> ((6 : Int32) &&& 31)) &&& (63 : Int32))).toInt8.toInt32) then f4_181 g0 i1 i2 else f4_202 g0 i1 i2
set_option maxRecDepth 65536 in
set_option maxHeartbeats 40000000 in
theorem b4_161 {p : Program} {l : Launch} {e : Env} {s : State} {m : MethodId} {args : Array Value} {below : List Frame} {meth : Method} {c : Code} {T : State} {locs : List Loc} {cells slots : Nat} {Z : State} {a0 : Array Value} {h : Heap} {n0 : Nat} {Q : Option Value → Heap → List Loc → Prop} (o0 : Addr) (g0 : Nat → Int32) (z0 : Nat) (i1 : Int32) (i2 : Int32) (hw : ∀ d ∈ tables_1, d.before a0 Z = true) (X : Stand p l e ({ frames := 0, cells := 0, slots := 0, locals := 0 } : Room) s m args below meth c T locs cells slots) (hx : p.tables.exec = Jvm.exec) (hZ : Z.Warmed39 s.vm) (hby : c.code = method_3_code) (hml : c.maxLocals = 3) (hown : s.vm.findClass "com/example/zoria/zoria/xml/XmlInputStandingCharacterPinLaw" = some m.cls) (hret : meth.sig.returnType = some .boolean) (hlk : meth.locks = false) (eT : T.heap = h) (N : Fr n0 locs) (hc : cells ≤ 0) (hs : slots ≤ 0) (A0 : own_AF Z h o0 .byte z0 g0) (hb0 : own_In z0 i1) (hb1 : own_In z0 (i1 + (1 : Int32))) (hb2 : own_In z0 (i1 + (2 : Int32))) (hb3 : own_In z0 (i1 + (3 : Int32))) (v : Int32) (hv : v = f4_161 g0 i1 i2) (hQ : ∀ L', Fr n0 L' → Q (some (.int v)) h L') :
    own_Fin p e below s Q 0 0 (T.setTop (mkF m 161 #[.val (.ref o0), .val (.int i1), .val (.int i2)] [])) := by
  refine own_step (fun t k => XS.aloadN X.here hx rfl (hb hby d4_161) rfl rfl k) ?_
  show own_Fin p e below s Q 0 0 (T.setTop (mkF m 162 #[.val (.ref o0), .val (.int i1), .val (.int i2)] [(.ref o0)]))
  refine own_step (fun t k => XS.iloadN X.here hx rfl (hb hby d4_162) rfl  k) ?_
  show own_Fin p e below s Q 0 0 (T.setTop (mkF m 163 #[.val (.ref o0), .val (.int i1), .val (.int i2)] [(.int i1), (.ref o0)]))
  refine own_step (fun t k => XS.iconst X.here hx rfl (hb hby d4_163) k) ?_
  show own_Fin p e below s Q 0 0 (T.setTop (mkF m 164 #[.val (.ref o0), .val (.int i1), .val (.int i2)] [(.int (2 : Int32)), (.int i1), (.ref o0)]))
  refine own_step (fun t k => XS.iadd X.here hx rfl (hb hby d4_164) rfl k) ?_
  show own_Fin p e below s Q 0 0 (T.setTop (mkF m 165 #[.val (.ref o0), .val (.int i1), .val (.int i2)] [(.int (i1 + (2 : Int32))), (.ref o0)]))
  obtain ⟨ca165, Ar165, Sz165, Ht165⟩ := id A0
  have hin165 : ¬ ((i1 + (2 : Int32)) < 0 ∨ ca165.slots.size ≤ ((i1 + (2 : Int32))).toNatClampNeg) := by rw [Sz165]; exact hb2
  refine own_step (X.baloadBytes hx (j := (i1 + (2 : Int32))) (v := (.int (g0 ((i1 + (2 : Int32))).toNatClampNeg))) (by rw [eT]; exact Ar165.1) (State.isArrayOf_alike hZ.alike Ar165.2.1) Ar165.2.2 hin165 (Ht165 _ (by have hq := Nat.lt_of_not_le (fun y => hin165 (Or.inr y)); rw [Sz165] at hq; exact hq)) (g := (mkF m 165 #[.val (.ref o0), .val (.int i1), .val (.int i2)] [(.int (i1 + (2 : Int32))), (.ref o0)])) rfl rfl (hb hby d4_165)) ?_
  show own_Fin p e below s Q 0 0 (T.setTop (mkF m 166 #[.val (.ref o0), .val (.int i1), .val (.int i2)] [(.int (g0 ((i1 + (2 : Int32))).toNatClampNeg))]))
  refine own_step (fun t k => XS.sipush X.here hx rfl (hb hby d4_166) k) ?_
  show own_Fin p e below s Q 0 0 (T.setTop (mkF m 169 #[.val (.ref o0), .val (.int i1), .val (.int i2)] [(.int (128 : Int32)), (.int (g0 ((i1 + (2 : Int32))).toNatClampNeg))]))
  refine own_step (fun t k => XS.iloadN X.here hx rfl (hb hby d4_169) rfl  k) ?_
  show own_Fin p e below s Q 0 0 (T.setTop (mkF m 170 #[.val (.ref o0), .val (.int i1), .val (.int i2)] [(.int i2), (.int (128 : Int32)), (.int (g0 ((i1 + (2 : Int32))).toNatClampNeg))]))
  refine own_step (fun t k => XS.bipush X.here hx rfl (hb hby d4_170) k) ?_
  show own_Fin p e below s Q 0 0 (T.setTop (mkF m 172 #[.val (.ref o0), .val (.int i1), .val (.int i2)] [(.int (6 : Int32)), (.int i2), (.int (128 : Int32)), (.int (g0 ((i1 + (2 : Int32))).toNatClampNeg))]))
  refine own_step (fun t k => XS.ishr X.here hx rfl (hb hby d4_172) rfl k) ?_
  show own_Fin p e below s Q 0 0 (T.setTop (mkF m 173 #[.val (.ref o0), .val (.int i1), .val (.int i2)] [(.int (i2 >>> ((6 : Int32) &&& 31))), (.int (128 : Int32)), (.int (g0 ((i1 + (2 : Int32))).toNatClampNeg))]))
  refine own_step (fun t k => XS.bipush X.here hx rfl (hb hby d4_173) k) ?_
  show own_Fin p e below s Q 0 0 (T.setTop (mkF m 175 #[.val (.ref o0), .val (.int i1), .val (.int i2)] [(.int (63 : Int32)), (.int (i2 >>> ((6 : Int32) &&& 31))), (.int (128 : Int32)), (.int (g0 ((i1 + (2 : Int32))).toNatClampNeg))]))
  refine own_step (fun t k => XS.iand X.here hx rfl (hb hby d4_175) rfl k) ?_
  show own_Fin p e below s Q 0 0 (T.setTop (mkF m 176 #[.val (.ref o0), .val (.int i1), .val (.int i2)] [(.int ((i2 >>> ((6 : Int32) &&& 31)) &&& (63 : Int32))), (.int (128 : Int32)), (.int (g0 ((i1 + (2 : Int32))).toNatClampNeg))]))
  refine own_step (fun t k => XS.ior X.here hx rfl (hb hby d4_176) rfl k) ?_
  show own_Fin p e below s Q 0 0 (T.setTop (mkF m 177 #[.val (.ref o0), .val (.int i1), .val (.int i2)] [(.int ((128 : Int32) ||| ((i2 >>> ((6 : Int32) &&& 31)) &&& (63 : Int32)))), (.int (g0 ((i1 + (2 : Int32))).toNatClampNeg))]))
  refine own_step (fun t k => XS.i2b X.here hx rfl (hb hby d4_177) rfl k) ?_
  show own_Fin p e below s Q 0 0 (T.setTop (mkF m 178 #[.val (.ref o0), .val (.int i1), .val (.int i2)] [(.int (((128 : Int32) ||| ((i2 >>> ((6 : Int32) &&& 31)) &&& (63 : Int32))).toInt8.toInt32)), (.int (g0 ((i1 + (2 : Int32))).toNatClampNeg))]))
  by_cases hB178_125 : (g0 ((i1 + (2 : Int32))).toNatClampNeg) = (((128 : Int32) ||| ((i2 >>> ((6 : Int32) &&& 31)) &&& (63 : Int32))).toInt8.toInt32)
  · refine own_step (fun t k => XS.icmpNo X.here hx rfl (hb hby d4_178) rfl (teq hB178_125).2 k) ?_
    exact b4_181 o0 g0 z0 i1 i2 hw X hx hZ hby hml hown hret hlk eT N (Nat.le_trans (Nat.add_le_add_right hc 0) (by decide)) (Nat.le_trans (Nat.add_le_add_right hs 0) (by decide)) A0 hb0 hb1 hb2 hb3 v (hv.trans (if_pos hB178_125)) hQ
  · refine own_step (fun t k => XS.icmpYes X.here hx rfl (pc0 := 178) (pc' := 202) rfl (hb hby d4_178) rfl (feq hB178_125).2 (by decide) (by decide) k) ?_
    exact b4_202 o0 g0 z0 i1 i2 hw X hx hZ hby hml hown hret hlk eT N (Nat.le_trans (Nat.add_le_add_right hc 0) (by decide)) (Nat.le_trans (Nat.add_le_add_right hs 0) (by decide)) A0 hb0 hb1 hb2 hb3 v (hv.trans (if_neg hB178_125)) hQ
def f4_141 (g0 : Nat → Int32) (i1 : Int32) (i2 : Int32) : Int32 := if (g0 ((i1 + (1 : Int32))).toNatClampNeg) = (((128 : Int32) ||| ((i2 >>> ((12 : Int32) &&& 31)) &&& (63 : Int32))).toInt8.toInt32) then f4_161 g0 i1 i2 else f4_202 g0 i1 i2
set_option maxRecDepth 65536 in
set_option maxHeartbeats 40000000 in
theorem b4_141 {p : Program} {l : Launch} {e : Env} {s : State} {m : MethodId} {args : Array Value} {below : List Frame} {meth : Method} {c : Code} {T : State} {locs : List Loc} {cells slots : Nat} {Z : State} {a0 : Array Value} {h : Heap} {n0 : Nat} {Q : Option Value → Heap → List Loc → Prop} (o0 : Addr) (g0 : Nat → Int32) (z0 : Nat) (i1 : Int32) (i2 : Int32) (hw : ∀ d ∈ tables_1, d.before a0 Z = true) (X : Stand p l e ({ frames := 0, cells := 0, slots := 0, locals := 0 } : Room) s m args below meth c T locs cells slots) (hx : p.tables.exec = Jvm.exec) (hZ : Z.Warmed39 s.vm) (hby : c.code = method_3_code) (hml : c.maxLocals = 3) (hown : s.vm.findClass "com/example/zoria/zoria/xml/XmlInputStandingCharacterPinLaw" = some m.cls) (hret : meth.sig.returnType = some .boolean) (hlk : meth.locks = false) (eT : T.heap = h) (N : Fr n0 locs) (hc : cells ≤ 0) (hs : slots ≤ 0) (A0 : own_AF Z h o0 .byte z0 g0) (hb0 : own_In z0 i1) (hb1 : own_In z0 (i1 + (1 : Int32))) (hb2 : own_In z0 (i1 + (2 : Int32))) (hb3 : own_In z0 (i1 + (3 : Int32))) (v : Int32) (hv : v = f4_141 g0 i1 i2) (hQ : ∀ L', Fr n0 L' → Q (some (.int v)) h L') :
    own_Fin p e below s Q 0 0 (T.setTop (mkF m 141 #[.val (.ref o0), .val (.int i1), .val (.int i2)] [])) := by
  refine own_step (fun t k => XS.aloadN X.here hx rfl (hb hby d4_141) rfl rfl k) ?_
  show own_Fin p e below s Q 0 0 (T.setTop (mkF m 142 #[.val (.ref o0), .val (.int i1), .val (.int i2)] [(.ref o0)]))
  refine own_step (fun t k => XS.iloadN X.here hx rfl (hb hby d4_142) rfl  k) ?_
  show own_Fin p e below s Q 0 0 (T.setTop (mkF m 143 #[.val (.ref o0), .val (.int i1), .val (.int i2)] [(.int i1), (.ref o0)]))
  refine own_step (fun t k => XS.iconst X.here hx rfl (hb hby d4_143) k) ?_
  show own_Fin p e below s Q 0 0 (T.setTop (mkF m 144 #[.val (.ref o0), .val (.int i1), .val (.int i2)] [(.int (1 : Int32)), (.int i1), (.ref o0)]))
  refine own_step (fun t k => XS.iadd X.here hx rfl (hb hby d4_144) rfl k) ?_
  show own_Fin p e below s Q 0 0 (T.setTop (mkF m 145 #[.val (.ref o0), .val (.int i1), .val (.int i2)] [(.int (i1 + (1 : Int32))), (.ref o0)]))
  obtain ⟨ca145, Ar145, Sz145, Ht145⟩ := id A0
  have hin145 : ¬ ((i1 + (1 : Int32)) < 0 ∨ ca145.slots.size ≤ ((i1 + (1 : Int32))).toNatClampNeg) := by rw [Sz145]; exact hb1
  refine own_step (X.baloadBytes hx (j := (i1 + (1 : Int32))) (v := (.int (g0 ((i1 + (1 : Int32))).toNatClampNeg))) (by rw [eT]; exact Ar145.1) (State.isArrayOf_alike hZ.alike Ar145.2.1) Ar145.2.2 hin145 (Ht145 _ (by have hq := Nat.lt_of_not_le (fun y => hin145 (Or.inr y)); rw [Sz145] at hq; exact hq)) (g := (mkF m 145 #[.val (.ref o0), .val (.int i1), .val (.int i2)] [(.int (i1 + (1 : Int32))), (.ref o0)])) rfl rfl (hb hby d4_145)) ?_
  show own_Fin p e below s Q 0 0 (T.setTop (mkF m 146 #[.val (.ref o0), .val (.int i1), .val (.int i2)] [(.int (g0 ((i1 + (1 : Int32))).toNatClampNeg))]))
  refine own_step (fun t k => XS.sipush X.here hx rfl (hb hby d4_146) k) ?_
  show own_Fin p e below s Q 0 0 (T.setTop (mkF m 149 #[.val (.ref o0), .val (.int i1), .val (.int i2)] [(.int (128 : Int32)), (.int (g0 ((i1 + (1 : Int32))).toNatClampNeg))]))
  refine own_step (fun t k => XS.iloadN X.here hx rfl (hb hby d4_149) rfl  k) ?_
  show own_Fin p e below s Q 0 0 (T.setTop (mkF m 150 #[.val (.ref o0), .val (.int i1), .val (.int i2)] [(.int i2), (.int (128 : Int32)), (.int (g0 ((i1 + (1 : Int32))).toNatClampNeg))]))
  refine own_step (fun t k => XS.bipush X.here hx rfl (hb hby d4_150) k) ?_
  show own_Fin p e below s Q 0 0 (T.setTop (mkF m 152 #[.val (.ref o0), .val (.int i1), .val (.int i2)] [(.int (12 : Int32)), (.int i2), (.int (128 : Int32)), (.int (g0 ((i1 + (1 : Int32))).toNatClampNeg))]))
  refine own_step (fun t k => XS.ishr X.here hx rfl (hb hby d4_152) rfl k) ?_
  show own_Fin p e below s Q 0 0 (T.setTop (mkF m 153 #[.val (.ref o0), .val (.int i1), .val (.int i2)] [(.int (i2 >>> ((12 : Int32) &&& 31))), (.int (128 : Int32)), (.int (g0 ((i1 + (1 : Int32))).toNatClampNeg))]))
  refine own_step (fun t k => XS.bipush X.here hx rfl (hb hby d4_153) k) ?_
  show own_Fin p e below s Q 0 0 (T.setTop (mkF m 155 #[.val (.ref o0), .val (.int i1), .val (.int i2)] [(.int (63 : Int32)), (.int (i2 >>> ((12 : Int32) &&& 31))), (.int (128 : Int32)), (.int (g0 ((i1 + (1 : Int32))).toNatClampNeg))]))
  refine own_step (fun t k => XS.iand X.here hx rfl (hb hby d4_155) rfl k) ?_
  show own_Fin p e below s Q 0 0 (T.setTop (mkF m 156 #[.val (.ref o0), .val (.int i1), .val (.int i2)] [(.int ((i2 >>> ((12 : Int32) &&& 31)) &&& (63 : Int32))), (.int (128 : Int32)), (.int (g0 ((i1 + (1 : Int32))).toNatClampNeg))]))
  refine own_step (fun t k => XS.ior X.here hx rfl (hb hby d4_156) rfl k) ?_
  show own_Fin p e below s Q 0 0 (T.setTop (mkF m 157 #[.val (.ref o0), .val (.int i1), .val (.int i2)] [(.int ((128 : Int32) ||| ((i2 >>> ((12 : Int32) &&& 31)) &&& (63 : Int32)))), (.int (g0 ((i1 + (1 : Int32))).toNatClampNeg))]))
  refine own_step (fun t k => XS.i2b X.here hx rfl (hb hby d4_157) rfl k) ?_
  show own_Fin p e below s Q 0 0 (T.setTop (mkF m 158 #[.val (.ref o0), .val (.int i1), .val (.int i2)] [(.int (((128 : Int32) ||| ((i2 >>> ((12 : Int32) &&& 31)) &&& (63 : Int32))).toInt8.toInt32)), (.int (g0 ((i1 + (1 : Int32))).toNatClampNeg))]))
  by_cases hB158_123 : (g0 ((i1 + (1 : Int32))).toNatClampNeg) = (((128 : Int32) ||| ((i2 >>> ((12 : Int32) &&& 31)) &&& (63 : Int32))).toInt8.toInt32)
  · refine own_step (fun t k => XS.icmpNo X.here hx rfl (hb hby d4_158) rfl (teq hB158_123).2 k) ?_
    exact b4_161 o0 g0 z0 i1 i2 hw X hx hZ hby hml hown hret hlk eT N (Nat.le_trans (Nat.add_le_add_right hc 0) (by decide)) (Nat.le_trans (Nat.add_le_add_right hs 0) (by decide)) A0 hb0 hb1 hb2 hb3 v (hv.trans (if_pos hB158_123)) hQ
  · refine own_step (fun t k => XS.icmpYes X.here hx rfl (pc0 := 158) (pc' := 202) rfl (hb hby d4_158) rfl (feq hB158_123).2 (by decide) (by decide) k) ?_
    exact b4_202 o0 g0 z0 i1 i2 hw X hx hZ hby hml hown hret hlk eT N (Nat.le_trans (Nat.add_le_add_right hc 0) (by decide)) (Nat.le_trans (Nat.add_le_add_right hs 0) (by decide)) A0 hb0 hb1 hb2 hb3 v (hv.trans (if_neg hB158_123)) hQ
def f4_126 (g0 : Nat → Int32) (i1 : Int32) (i2 : Int32) : Int32 := if (g0 (i1).toNatClampNeg) = (((240 : Int32) ||| (i2 >>> ((18 : Int32) &&& 31))).toInt8.toInt32) then f4_141 g0 i1 i2 else f4_202 g0 i1 i2
set_option maxRecDepth 65536 in
set_option maxHeartbeats 40000000 in
theorem b4_126 {p : Program} {l : Launch} {e : Env} {s : State} {m : MethodId} {args : Array Value} {below : List Frame} {meth : Method} {c : Code} {T : State} {locs : List Loc} {cells slots : Nat} {Z : State} {a0 : Array Value} {h : Heap} {n0 : Nat} {Q : Option Value → Heap → List Loc → Prop} (o0 : Addr) (g0 : Nat → Int32) (z0 : Nat) (i1 : Int32) (i2 : Int32) (hw : ∀ d ∈ tables_1, d.before a0 Z = true) (X : Stand p l e ({ frames := 0, cells := 0, slots := 0, locals := 0 } : Room) s m args below meth c T locs cells slots) (hx : p.tables.exec = Jvm.exec) (hZ : Z.Warmed39 s.vm) (hby : c.code = method_3_code) (hml : c.maxLocals = 3) (hown : s.vm.findClass "com/example/zoria/zoria/xml/XmlInputStandingCharacterPinLaw" = some m.cls) (hret : meth.sig.returnType = some .boolean) (hlk : meth.locks = false) (eT : T.heap = h) (N : Fr n0 locs) (hc : cells ≤ 0) (hs : slots ≤ 0) (A0 : own_AF Z h o0 .byte z0 g0) (hb0 : own_In z0 i1) (hb1 : own_In z0 (i1 + (1 : Int32))) (hb2 : own_In z0 (i1 + (2 : Int32))) (hb3 : own_In z0 (i1 + (3 : Int32))) (v : Int32) (hv : v = f4_126 g0 i1 i2) (hQ : ∀ L', Fr n0 L' → Q (some (.int v)) h L') :
    own_Fin p e below s Q 0 0 (T.setTop (mkF m 126 #[.val (.ref o0), .val (.int i1), .val (.int i2)] [])) := by
  refine own_step (fun t k => XS.aloadN X.here hx rfl (hb hby d4_126) rfl rfl k) ?_
  show own_Fin p e below s Q 0 0 (T.setTop (mkF m 127 #[.val (.ref o0), .val (.int i1), .val (.int i2)] [(.ref o0)]))
  refine own_step (fun t k => XS.iloadN X.here hx rfl (hb hby d4_127) rfl  k) ?_
  show own_Fin p e below s Q 0 0 (T.setTop (mkF m 128 #[.val (.ref o0), .val (.int i1), .val (.int i2)] [(.int i1), (.ref o0)]))
  obtain ⟨ca128, Ar128, Sz128, Ht128⟩ := id A0
  have hin128 : ¬ (i1 < 0 ∨ ca128.slots.size ≤ (i1).toNatClampNeg) := by rw [Sz128]; exact hb0
  refine own_step (X.baloadBytes hx (j := i1) (v := (.int (g0 (i1).toNatClampNeg))) (by rw [eT]; exact Ar128.1) (State.isArrayOf_alike hZ.alike Ar128.2.1) Ar128.2.2 hin128 (Ht128 _ (by have hq := Nat.lt_of_not_le (fun y => hin128 (Or.inr y)); rw [Sz128] at hq; exact hq)) (g := (mkF m 128 #[.val (.ref o0), .val (.int i1), .val (.int i2)] [(.int i1), (.ref o0)])) rfl rfl (hb hby d4_128)) ?_
  show own_Fin p e below s Q 0 0 (T.setTop (mkF m 129 #[.val (.ref o0), .val (.int i1), .val (.int i2)] [(.int (g0 (i1).toNatClampNeg))]))
  refine own_step (fun t k => XS.sipush X.here hx rfl (hb hby d4_129) k) ?_
  show own_Fin p e below s Q 0 0 (T.setTop (mkF m 132 #[.val (.ref o0), .val (.int i1), .val (.int i2)] [(.int (240 : Int32)), (.int (g0 (i1).toNatClampNeg))]))
  refine own_step (fun t k => XS.iloadN X.here hx rfl (hb hby d4_132) rfl  k) ?_
  show own_Fin p e below s Q 0 0 (T.setTop (mkF m 133 #[.val (.ref o0), .val (.int i1), .val (.int i2)] [(.int i2), (.int (240 : Int32)), (.int (g0 (i1).toNatClampNeg))]))
  refine own_step (fun t k => XS.bipush X.here hx rfl (hb hby d4_133) k) ?_
  show own_Fin p e below s Q 0 0 (T.setTop (mkF m 135 #[.val (.ref o0), .val (.int i1), .val (.int i2)] [(.int (18 : Int32)), (.int i2), (.int (240 : Int32)), (.int (g0 (i1).toNatClampNeg))]))
  refine own_step (fun t k => XS.ishr X.here hx rfl (hb hby d4_135) rfl k) ?_
  show own_Fin p e below s Q 0 0 (T.setTop (mkF m 136 #[.val (.ref o0), .val (.int i1), .val (.int i2)] [(.int (i2 >>> ((18 : Int32) &&& 31))), (.int (240 : Int32)), (.int (g0 (i1).toNatClampNeg))]))
  refine own_step (fun t k => XS.ior X.here hx rfl (hb hby d4_136) rfl k) ?_
  show own_Fin p e below s Q 0 0 (T.setTop (mkF m 137 #[.val (.ref o0), .val (.int i1), .val (.int i2)] [(.int ((240 : Int32) ||| (i2 >>> ((18 : Int32) &&& 31)))), (.int (g0 (i1).toNatClampNeg))]))
  refine own_step (fun t k => XS.i2b X.here hx rfl (hb hby d4_137) rfl k) ?_
  show own_Fin p e below s Q 0 0 (T.setTop (mkF m 138 #[.val (.ref o0), .val (.int i1), .val (.int i2)] [(.int (((240 : Int32) ||| (i2 >>> ((18 : Int32) &&& 31))).toInt8.toInt32)), (.int (g0 (i1).toNatClampNeg))]))
  by_cases hB138_121 : (g0 (i1).toNatClampNeg) = (((240 : Int32) ||| (i2 >>> ((18 : Int32) &&& 31))).toInt8.toInt32)
  · refine own_step (fun t k => XS.icmpNo X.here hx rfl (hb hby d4_138) rfl (teq hB138_121).2 k) ?_
    exact b4_141 o0 g0 z0 i1 i2 hw X hx hZ hby hml hown hret hlk eT N (Nat.le_trans (Nat.add_le_add_right hc 0) (by decide)) (Nat.le_trans (Nat.add_le_add_right hs 0) (by decide)) A0 hb0 hb1 hb2 hb3 v (hv.trans (if_pos hB138_121)) hQ
  · refine own_step (fun t k => XS.icmpYes X.here hx rfl (pc0 := 138) (pc' := 202) rfl (hb hby d4_138) rfl (feq hB138_121).2 (by decide) (by decide) k) ?_
    exact b4_202 o0 g0 z0 i1 i2 hw X hx hZ hby hml hown hret hlk eT N (Nat.le_trans (Nat.add_le_add_right hc 0) (by decide)) (Nat.le_trans (Nat.add_le_add_right hs 0) (by decide)) A0 hb0 hb1 hb2 hb3 v (hv.trans (if_neg hB138_121)) hQ
def f4_118 (g0 : Nat → Int32) (i1 : Int32) (i2 : Int32) : Int32 := if (2097151 : Int32) < i2 then f4_124 g0 i1 i2 else f4_126 g0 i1 i2
set_option maxRecDepth 65536 in
set_option maxHeartbeats 40000000 in
theorem b4_118 {p : Program} {l : Launch} {e : Env} {s : State} {m : MethodId} {args : Array Value} {below : List Frame} {meth : Method} {c : Code} {T : State} {locs : List Loc} {cells slots : Nat} {Z : State} {a0 : Array Value} {h : Heap} {n0 : Nat} {Q : Option Value → Heap → List Loc → Prop} (o0 : Addr) (g0 : Nat → Int32) (z0 : Nat) (i1 : Int32) (i2 : Int32) (hw : ∀ d ∈ tables_1, d.before a0 Z = true) (X : Stand p l e ({ frames := 0, cells := 0, slots := 0, locals := 0 } : Room) s m args below meth c T locs cells slots) (hx : p.tables.exec = Jvm.exec) (hZ : Z.Warmed39 s.vm) (hby : c.code = method_3_code) (hml : c.maxLocals = 3) (hown : s.vm.findClass "com/example/zoria/zoria/xml/XmlInputStandingCharacterPinLaw" = some m.cls) (hret : meth.sig.returnType = some .boolean) (hlk : meth.locks = false) (eT : T.heap = h) (N : Fr n0 locs) (hc : cells ≤ 0) (hs : slots ≤ 0) (A0 : own_AF Z h o0 .byte z0 g0) (hb0 : own_In z0 i1) (hb1 : own_In z0 (i1 + (1 : Int32))) (hb2 : own_In z0 (i1 + (2 : Int32))) (hb3 : own_In z0 (i1 + (3 : Int32))) (v : Int32) (hv : v = f4_118 g0 i1 i2) (hQ : ∀ L', Fr n0 L' → Q (some (.int v)) h L') :
    own_Fin p e below s Q 0 0 (T.setTop (mkF m 118 #[.val (.ref o0), .val (.int i1), .val (.int i2)] [])) := by
  refine own_step (fun t k => XS.iloadN X.here hx rfl (hb hby d4_118) rfl  k) ?_
  show own_Fin p e below s Q 0 0 (T.setTop (mkF m 119 #[.val (.ref o0), .val (.int i1), .val (.int i2)] [(.int i2)]))
  refine own_step (X.ldcInt hx hown (mvT hZ (hw _ (List.mem_of_getElem? (i := 28) rfl))) (g := (mkF m 119 #[.val (.ref o0), .val (.int i1), .val (.int i2)] [(.int i2)])) rfl (hb hby d4_119)) ?_
  show own_Fin p e below s Q 0 0 (T.setTop (mkF m 121 #[.val (.ref o0), .val (.int i1), .val (.int i2)] [(.int (2097151 : Int32)), (.int i2)]))
  by_cases hB121_118 : (2097151 : Int32) < i2
  · refine own_step (fun t k => XS.icmpNo X.here hx rfl (hb hby d4_121) rfl (tlt hB121_118).2.2.2 k) ?_
    exact b4_124 o0 g0 z0 i1 i2 hw X hx hZ hby hml hown hret hlk eT N (Nat.le_trans (Nat.add_le_add_right hc 0) (by decide)) (Nat.le_trans (Nat.add_le_add_right hs 0) (by decide)) A0 hb0 hb1 hb2 hb3 v (hv.trans (if_pos hB121_118)) hQ
  · refine own_step (fun t k => XS.icmpYes X.here hx rfl (pc0 := 121) (pc' := 126) rfl (hb hby d4_121) rfl (flt hB121_118).2.2.2 (by decide) (by decide) k) ?_
    exact b4_126 o0 g0 z0 i1 i2 hw X hx hZ hby hml hown hret hlk eT N (Nat.le_trans (Nat.add_le_add_right hc 0) (by decide)) (Nat.le_trans (Nat.add_le_add_right hs 0) (by decide)) A0 hb0 hb1 hb2 hb3 v (hv.trans (if_neg hB121_118)) hQ
def f4_54 (g0 : Nat → Int32) (i1 : Int32) (i2 : Int32) : Int32 := if i2 < (65536 : Int32) then f4_60 g0 i1 i2 else f4_118 g0 i1 i2
set_option maxRecDepth 65536 in
set_option maxHeartbeats 40000000 in
theorem b4_54 {p : Program} {l : Launch} {e : Env} {s : State} {m : MethodId} {args : Array Value} {below : List Frame} {meth : Method} {c : Code} {T : State} {locs : List Loc} {cells slots : Nat} {Z : State} {a0 : Array Value} {h : Heap} {n0 : Nat} {Q : Option Value → Heap → List Loc → Prop} (o0 : Addr) (g0 : Nat → Int32) (z0 : Nat) (i1 : Int32) (i2 : Int32) (hw : ∀ d ∈ tables_1, d.before a0 Z = true) (X : Stand p l e ({ frames := 0, cells := 0, slots := 0, locals := 0 } : Room) s m args below meth c T locs cells slots) (hx : p.tables.exec = Jvm.exec) (hZ : Z.Warmed39 s.vm) (hby : c.code = method_3_code) (hml : c.maxLocals = 3) (hown : s.vm.findClass "com/example/zoria/zoria/xml/XmlInputStandingCharacterPinLaw" = some m.cls) (hret : meth.sig.returnType = some .boolean) (hlk : meth.locks = false) (eT : T.heap = h) (N : Fr n0 locs) (hc : cells ≤ 0) (hs : slots ≤ 0) (A0 : own_AF Z h o0 .byte z0 g0) (hb0 : own_In z0 i1) (hb1 : own_In z0 (i1 + (1 : Int32))) (hb2 : own_In z0 (i1 + (2 : Int32))) (hb3 : own_In z0 (i1 + (3 : Int32))) (v : Int32) (hv : v = f4_54 g0 i1 i2) (hQ : ∀ L', Fr n0 L' → Q (some (.int v)) h L') :
    own_Fin p e below s Q 0 0 (T.setTop (mkF m 54 #[.val (.ref o0), .val (.int i1), .val (.int i2)] [])) := by
  refine own_step (fun t k => XS.iloadN X.here hx rfl (hb hby d4_54) rfl  k) ?_
  show own_Fin p e below s Q 0 0 (T.setTop (mkF m 55 #[.val (.ref o0), .val (.int i1), .val (.int i2)] [(.int i2)]))
  refine own_step (X.ldcInt hx hown (mvT hZ (hw _ (List.mem_of_getElem? (i := 18) rfl))) (g := (mkF m 55 #[.val (.ref o0), .val (.int i1), .val (.int i2)] [(.int i2)])) rfl (hb hby d4_55)) ?_
  show own_Fin p e below s Q 0 0 (T.setTop (mkF m 57 #[.val (.ref o0), .val (.int i1), .val (.int i2)] [(.int (65536 : Int32)), (.int i2)]))
  by_cases hB57_106 : i2 < (65536 : Int32)
  · refine own_step (fun t k => XS.icmpNo X.here hx rfl (hb hby d4_57) rfl (tlt hB57_106).2.1 k) ?_
    exact b4_60 o0 g0 z0 i1 i2 hw X hx hZ hby hml hown hret hlk eT N (Nat.le_trans (Nat.add_le_add_right hc 0) (by decide)) (Nat.le_trans (Nat.add_le_add_right hs 0) (by decide)) A0 hb0 hb1 hb2 hb3 v (hv.trans (if_pos hB57_106)) hQ
  · refine own_step (fun t k => XS.icmpYes X.here hx rfl (pc0 := 57) (pc' := 118) rfl (hb hby d4_57) rfl (flt hB57_106).2.1 (by decide) (by decide) k) ?_
    exact b4_118 o0 g0 z0 i1 i2 hw X hx hZ hby hml hown hret hlk eT N (Nat.le_trans (Nat.add_le_add_right hc 0) (by decide)) (Nat.le_trans (Nat.add_le_add_right hs 0) (by decide)) A0 hb0 hb1 hb2 hb3 v (hv.trans (if_neg hB57_106)) hQ
def f4_9 (g0 : Nat → Int32) (i1 : Int32) (i2 : Int32) : Int32 := if i2 < (2048 : Int32) then f4_16 g0 i1 i2 else f4_54 g0 i1 i2
set_option maxRecDepth 65536 in
set_option maxHeartbeats 40000000 in
theorem b4_9 {p : Program} {l : Launch} {e : Env} {s : State} {m : MethodId} {args : Array Value} {below : List Frame} {meth : Method} {c : Code} {T : State} {locs : List Loc} {cells slots : Nat} {Z : State} {a0 : Array Value} {h : Heap} {n0 : Nat} {Q : Option Value → Heap → List Loc → Prop} (o0 : Addr) (g0 : Nat → Int32) (z0 : Nat) (i1 : Int32) (i2 : Int32) (hw : ∀ d ∈ tables_1, d.before a0 Z = true) (X : Stand p l e ({ frames := 0, cells := 0, slots := 0, locals := 0 } : Room) s m args below meth c T locs cells slots) (hx : p.tables.exec = Jvm.exec) (hZ : Z.Warmed39 s.vm) (hby : c.code = method_3_code) (hml : c.maxLocals = 3) (hown : s.vm.findClass "com/example/zoria/zoria/xml/XmlInputStandingCharacterPinLaw" = some m.cls) (hret : meth.sig.returnType = some .boolean) (hlk : meth.locks = false) (eT : T.heap = h) (N : Fr n0 locs) (hc : cells ≤ 0) (hs : slots ≤ 0) (A0 : own_AF Z h o0 .byte z0 g0) (hb0 : own_In z0 i1) (hb1 : own_In z0 (i1 + (1 : Int32))) (hb2 : own_In z0 (i1 + (2 : Int32))) (hb3 : own_In z0 (i1 + (3 : Int32))) (v : Int32) (hv : v = f4_9 g0 i1 i2) (hQ : ∀ L', Fr n0 L' → Q (some (.int v)) h L') :
    own_Fin p e below s Q 0 0 (T.setTop (mkF m 9 #[.val (.ref o0), .val (.int i1), .val (.int i2)] [])) := by
  refine own_step (fun t k => XS.iloadN X.here hx rfl (hb hby d4_9) rfl  k) ?_
  show own_Fin p e below s Q 0 0 (T.setTop (mkF m 10 #[.val (.ref o0), .val (.int i1), .val (.int i2)] [(.int i2)]))
  refine own_step (fun t k => XS.sipush X.here hx rfl (hb hby d4_10) k) ?_
  show own_Fin p e below s Q 0 0 (T.setTop (mkF m 13 #[.val (.ref o0), .val (.int i1), .val (.int i2)] [(.int (2048 : Int32)), (.int i2)]))
  by_cases hB13_97 : i2 < (2048 : Int32)
  · refine own_step (fun t k => XS.icmpNo X.here hx rfl (hb hby d4_13) rfl (tlt hB13_97).2.1 k) ?_
    exact b4_16 o0 g0 z0 i1 i2 hw X hx hZ hby hml hown hret hlk eT N (Nat.le_trans (Nat.add_le_add_right hc 0) (by decide)) (Nat.le_trans (Nat.add_le_add_right hs 0) (by decide)) A0 hb0 hb1 hb2 hb3 v (hv.trans (if_pos hB13_97)) hQ
  · refine own_step (fun t k => XS.icmpYes X.here hx rfl (pc0 := 13) (pc' := 54) rfl (hb hby d4_13) rfl (flt hB13_97).2.1 (by decide) (by decide) k) ?_
    exact b4_54 o0 g0 z0 i1 i2 hw X hx hZ hby hml hown hret hlk eT N (Nat.le_trans (Nat.add_le_add_right hc 0) (by decide)) (Nat.le_trans (Nat.add_le_add_right hs 0) (by decide)) A0 hb0 hb1 hb2 hb3 v (hv.trans (if_neg hB13_97)) hQ
def f4_0 (g0 : Nat → Int32) (i1 : Int32) (i2 : Int32) : Int32 := if i2 < (128 : Int32) then f4_7 g0 i1 i2 else f4_9 g0 i1 i2
set_option maxRecDepth 65536 in
set_option maxHeartbeats 40000000 in
theorem b4_0 {p : Program} {l : Launch} {e : Env} {s : State} {m : MethodId} {args : Array Value} {below : List Frame} {meth : Method} {c : Code} {T : State} {locs : List Loc} {cells slots : Nat} {Z : State} {a0 : Array Value} {h : Heap} {n0 : Nat} {Q : Option Value → Heap → List Loc → Prop} (o0 : Addr) (g0 : Nat → Int32) (z0 : Nat) (i1 : Int32) (i2 : Int32) (hw : ∀ d ∈ tables_1, d.before a0 Z = true) (X : Stand p l e ({ frames := 0, cells := 0, slots := 0, locals := 0 } : Room) s m args below meth c T locs cells slots) (hx : p.tables.exec = Jvm.exec) (hZ : Z.Warmed39 s.vm) (hby : c.code = method_3_code) (hml : c.maxLocals = 3) (hown : s.vm.findClass "com/example/zoria/zoria/xml/XmlInputStandingCharacterPinLaw" = some m.cls) (hret : meth.sig.returnType = some .boolean) (hlk : meth.locks = false) (eT : T.heap = h) (N : Fr n0 locs) (hc : cells ≤ 0) (hs : slots ≤ 0) (A0 : own_AF Z h o0 .byte z0 g0) (hb0 : own_In z0 i1) (hb1 : own_In z0 (i1 + (1 : Int32))) (hb2 : own_In z0 (i1 + (2 : Int32))) (hb3 : own_In z0 (i1 + (3 : Int32))) (v : Int32) (hv : v = f4_0 g0 i1 i2) (hQ : ∀ L', Fr n0 L' → Q (some (.int v)) h L') :
    own_Fin p e below s Q 0 0 (T.setTop (mkF m 0 #[.val (.ref o0), .val (.int i1), .val (.int i2)] [])) := by
  refine own_step (fun t k => XS.iloadN X.here hx rfl (hb hby d4_0) rfl  k) ?_
  show own_Fin p e below s Q 0 0 (T.setTop (mkF m 1 #[.val (.ref o0), .val (.int i1), .val (.int i2)] [(.int i2)]))
  refine own_step (fun t k => XS.sipush X.here hx rfl (hb hby d4_1) k) ?_
  show own_Fin p e below s Q 0 0 (T.setTop (mkF m 4 #[.val (.ref o0), .val (.int i1), .val (.int i2)] [(.int (128 : Int32)), (.int i2)]))
  by_cases hB4_94 : i2 < (128 : Int32)
  · refine own_step (fun t k => XS.icmpNo X.here hx rfl (hb hby d4_4) rfl (tlt hB4_94).2.1 k) ?_
    exact b4_7 o0 g0 z0 i1 i2 hw X hx hZ hby hml hown hret hlk eT N (Nat.le_trans (Nat.add_le_add_right hc 0) (by decide)) (Nat.le_trans (Nat.add_le_add_right hs 0) (by decide)) A0 hb0 hb1 hb2 hb3 v (hv.trans (if_pos hB4_94)) hQ
  · refine own_step (fun t k => XS.icmpYes X.here hx rfl (pc0 := 4) (pc' := 9) rfl (hb hby d4_4) rfl (flt hB4_94).2.1 (by decide) (by decide) k) ?_
    exact b4_9 o0 g0 z0 i1 i2 hw X hx hZ hby hml hown hret hlk eT N (Nat.le_trans (Nat.add_le_add_right hc 0) (by decide)) (Nat.le_trans (Nat.add_le_add_right hs 0) (by decide)) A0 hb0 hb1 hb2 hb3 v (hv.trans (if_neg hB4_94)) hQ
theorem pdm_2 : parseMethodDescriptor "([BII)Z" = some ⟨[(.array .byte), .int, .int], some .boolean⟩ := by decide +kernel
theorem ef_4 (m : MethodId) (o0 : Addr) (i1 : Int32) (i2 : Int32) : entryFrame m #[(.ref o0), (.int i1), (.int i2)] 3 = (mkF m 0 #[.val (.ref o0), .val (.int i1), .val (.int i2)] []) := by first | (simp [entryFrame, mkF, argsToLocals, Value.category]; done) | rfl
def Q4 (o0 : Addr) (g0 : Nat → Int32) (z0 : Nat) (i1 : Int32) (i2 : Int32) (h0 : Heap) (n0 : Nat) (v : Option Value) (h : Heap) (L : List Loc) : Prop := v = some (.int (f4_0 g0 i1 i2)) ∧ Fr n0 L ∧ h = h0
set_option maxRecDepth 65536 in
set_option maxHeartbeats 4000000 in
theorem rm4 (l : Launch) (Z : State) (a0 : Array Value) (hw : ∀ d ∈ tables_1, d.before a0 Z = true) (ws : List Jvm.Cond) (o0 : Addr) (g0 : Nat → Int32) (z0 : Nat) (i1 : Int32) (i2 : Int32) (h0 : Heap) (n0 : Nat) (A0 : own_AF Z h0 o0 .byte z0 g0) (hb0 : own_In z0 i1) (hb1 : own_In z0 (i1 + (1 : Int32))) (hb2 : own_In z0 (i1 + (2 : Int32))) (hb3 : own_In z0 (i1 + (3 : Int32))) :
    MetFree l (⟨"com/example/zoria/zoria/xml/XmlInputStandingCharacterPinLaw", "matches", "([BII)Z"⟩ : MethodName) (head1 (Jvm.Cond.code (⟨"com/example/zoria/zoria/xml/XmlInputStandingCharacterPinLaw", "matches", "([BII)Z"⟩ : MethodName) method_3_code 3 (some .boolean) :: ws) ({ frames := 0, cells := 0, slots := 0, locals := 0 } : Room)) (fun a U => a = #[(.ref o0), (.int i1), (.int i2)] ∧ Z.Warmed39 U.vm ∧ U.heap = h0) (fun _ _ _ _ _ => True) (fun _ U o U' => ∃ v L, o = .returned v ∧ Q4 o0 g0 z0 i1 i2 h0 n0 v U'.heap L ∧ FrameEnd U o U' L ({ frames := 0, cells := 0, slots := 0, locals := 0 } : Room).cells ({ frames := 0, cells := 0, slots := 0, locals := 0 } : Room).slots) := by
  refine MetFree.of_bodySF (plainFor_of_name pnm_1) hisR ?_
  intro p e s m args below meth c s₁ Bd hml0 hP hK
  obtain ⟨rfl, hZ, hh⟩ := hP
  have hx := Bd.exec
  have hby := Bd.bytes
  have hml : c.maxLocals = 3 := hml0
  have hown : s.vm.findClass "com/example/zoria/zoria/xml/XmlInputStandingCharacterPinLaw" = some m.cls := findClass_of_methodNamed Bd.named
  have X0 : Stand p l e ({ frames := 0, cells := 0, slots := 0, locals := 0 } : Room) s m #[(.ref o0), (.int i1), (.int i2)] below meth c s₁ [] 0 0 := Stand.of_body Bd
  have e0 : s₁.heap = h0 := by rw [← hh, Bd.state]; rfl
  have fin := b4_0 o0 g0 z0 i1 i2 (Q := Q4 o0 g0 z0 i1 i2 h0 n0) hw X0 hx hZ hby hml hown Bd.returns (BodyLoose.notSynchronized Bd) e0 (Fr.nil n0) (Nat.zero_le _) (Nat.zero_le _) A0 hb0 hb1 hb2 hb3 _ rfl (fun L' n' => ⟨rfl, n', rfl⟩)
  exact own_step (fun t k => castTop (ef_4 m o0 i1 i2) k) fin
theorem own_z0 : (0 : Int32).toInt = 0 := by decide
theorem own_nlt {x : Int32} (h : 0 ≤ x.toInt) : ¬ x < (0 : Int32) := fun q => by
  have q' := Int32.lt_iff_toInt_lt.mp q
  rw [own_z0] at q'
  omega
theorem own_ov (o : Int32) (d : Int32) (D : Nat) (hd : d.toInt = D) (hD : D ≤ 4) (h : 0 ≤ o.toInt ∧ o.toInt ≤ 3) : (o + d).toInt = o.toInt + D := by
  have e := c_iadd o d
  have r := rng32 (o + d)
  omega
theorem own_on (o : Int32) (h : 0 ≤ o.toInt) : o.toNatClampNeg = o.toInt.toNat := by
  have e := nat_of (own_nlt h)
  omega
theorem own_idx (o : Int32) (h : 0 ≤ o.toInt ∧ o.toInt ≤ 3) : ∃ n : Nat, n ≤ 3 ∧ (o).toNatClampNeg = n ∧ ((o + (1 : Int32))).toNatClampNeg = n + 1 ∧ ((o + (2 : Int32))).toNatClampNeg = n + 2 ∧ ((o + (3 : Int32))).toNatClampNeg = n + 3 := by
  have e1 := own_ov o 1 1 (by decide) (by decide) h
  have e2 := own_ov o 2 2 (by decide) (by decide) h
  have e3 := own_ov o 3 3 (by decide) (by decide) h
  refine ⟨o.toInt.toNat, by omega, own_on o h.1, ?_, ?_, ?_⟩
  · rw [own_on _ (by omega)]; omega
  · rw [own_on _ (by omega)]; omega
  · rw [own_on _ (by omega)]; omega
theorem own_inE (j : Int32) (h : 0 ≤ j.toInt ∧ j.toInt < 8) : own_In 8 j := by
  intro q
  have e := own_on j h.1
  rcases q with q | q
  · exact own_nlt h.1 q
  · omega
theorem own_m3 (k : Int32) : 0 ≤ (k &&& (3 : Int32)).toInt ∧ (k &&& (3 : Int32)).toInt ≤ 3 := c_and k 3 (by decide)
theorem own_o0 (k : Int32) : own_In 8 (k &&& (3 : Int32)) := own_inE _ (by have := own_m3 k; omega)
theorem own_o1 (k : Int32) : own_In 8 ((k &&& (3 : Int32)) + (1 : Int32)) := own_inE _ (by have h := own_m3 k; have := own_ov _ 1 1 (by decide) (by decide) h; omega)
theorem own_o2 (k : Int32) : own_In 8 ((k &&& (3 : Int32)) + (2 : Int32)) := own_inE _ (by have h := own_m3 k; have := own_ov _ 2 2 (by decide) (by decide) h; omega)
theorem own_o3 (k : Int32) : own_In 8 ((k &&& (3 : Int32)) + (3 : Int32)) := own_inE _ (by have h := own_m3 k; have := own_ov _ 3 3 (by decide) (by decide) h; omega)
theorem own_nb (x : Int32) : ((nar .byte (x.toInt8.toInt32)).toInt - x.toInt) % 256 = 0 ∧ -128 ≤ (nar .byte (x.toInt8.toInt32)).toInt ∧ (nar .byte (x.toInt8.toInt32)).toInt < 128 := by
  have a := c_i2b x
  have b := c_i2b x.toInt8.toInt32
  show (x.toInt8.toInt32.toInt8.toInt32.toInt - x.toInt) % 256 = 0 ∧ -128 ≤ x.toInt8.toInt32.toInt8.toInt32.toInt ∧ x.toInt8.toInt32.toInt8.toInt32.toInt < 128
  omega
theorem own_two (b0 b1 : Int32) : (((b0 &&& (31 : Int32)) <<< ((6 : Int32) &&& 31)) ||| (b1 &&& (63 : Int32))).toInt = (b0.toInt % 32) * 64 + b1.toInt % 64 := by
  have m0 := c_mask b0 31 5 (by decide) (by decide)
  have m1 := c_mask b1 63 6 (by decide) (by decide)
  have p5 : ((2 ^ 5 : Nat) : Int) = 32 := rfl
  have p6 : ((2 ^ 6 : Nat) : Int) = 64 := rfl
  rw [p5] at m0
  rw [p6] at m1
  have s0 := c_ishl (b0 &&& (31 : Int32)) 6 6 (by decide)
  rw [p6] at s0
  generalize (b0 &&& (31 : Int32)) <<< ((6 : Int32) &&& 31) = x at s0 ⊢
  generalize b1 &&& (63 : Int32) = y at m1 ⊢
  have rx := rng32 x
  have e := c_or x y 6 (by decide) 64 rfl (by omega) (by omega) (by omega)
  have r := rng32 (x ||| y)
  omega
theorem own_three (b0 b1 b2 : Int32) : ((((b0 &&& (15 : Int32)) <<< ((12 : Int32) &&& 31)) ||| ((b1 &&& (63 : Int32)) <<< ((6 : Int32) &&& 31))) ||| (b2 &&& (63 : Int32))).toInt = (b0.toInt % 16) * 4096 + (b1.toInt % 64) * 64 + b2.toInt % 64 := by
  have m0 := c_mask b0 15 4 (by decide) (by decide)
  have m1 := c_mask b1 63 6 (by decide) (by decide)
  have m2 := c_mask b2 63 6 (by decide) (by decide)
  have p4 : ((2 ^ 4 : Nat) : Int) = 16 := rfl
  have p6 : ((2 ^ 6 : Nat) : Int) = 64 := rfl
  have p12 : ((2 ^ 12 : Nat) : Int) = 4096 := rfl
  rw [p4] at m0
  rw [p6] at m1 m2
  have s0 := c_ishl (b0 &&& (15 : Int32)) 12 12 (by decide)
  have s1 := c_ishl (b1 &&& (63 : Int32)) 6 6 (by decide)
  rw [p12] at s0
  rw [p6] at s1
  generalize (b0 &&& (15 : Int32)) <<< ((12 : Int32) &&& 31) = x at s0 ⊢
  generalize (b1 &&& (63 : Int32)) <<< ((6 : Int32) &&& 31) = y at s1 ⊢
  generalize b2 &&& (63 : Int32) = z at m2 ⊢
  have rx := rng32 x
  have ry := rng32 y
  have e := c_or x y 12 (by decide) 4096 rfl (by omega) (by omega) (by omega)
  have r := rng32 (x ||| y)
  generalize x ||| y = w at e r ⊢
  have e2 := c_or w z 6 (by decide) 64 rfl (by omega) (by omega) (by omega)
  have r2 := rng32 (w ||| z)
  omega
theorem own_four (b0 b1 b2 b3 : Int32) : (((((b0 &&& (7 : Int32)) <<< ((18 : Int32) &&& 31)) ||| ((b1 &&& (63 : Int32)) <<< ((12 : Int32) &&& 31))) ||| ((b2 &&& (63 : Int32)) <<< ((6 : Int32) &&& 31))) ||| (b3 &&& (63 : Int32))).toInt = (b0.toInt % 8) * 262144 + (b1.toInt % 64) * 4096 + (b2.toInt % 64) * 64 + b3.toInt % 64 := by
  have m0 := c_mask b0 7 3 (by decide) (by decide)
  have m1 := c_mask b1 63 6 (by decide) (by decide)
  have m2 := c_mask b2 63 6 (by decide) (by decide)
  have m3 := c_mask b3 63 6 (by decide) (by decide)
  have p3 : ((2 ^ 3 : Nat) : Int) = 8 := rfl
  have p6 : ((2 ^ 6 : Nat) : Int) = 64 := rfl
  have p12 : ((2 ^ 12 : Nat) : Int) = 4096 := rfl
  have p18 : ((2 ^ 18 : Nat) : Int) = 262144 := rfl
  rw [p3] at m0
  rw [p6] at m1 m2 m3
  have s0 := c_ishl (b0 &&& (7 : Int32)) 18 18 (by decide)
  have s1 := c_ishl (b1 &&& (63 : Int32)) 12 12 (by decide)
  have s2 := c_ishl (b2 &&& (63 : Int32)) 6 6 (by decide)
  rw [p18] at s0
  rw [p12] at s1
  rw [p6] at s2
  generalize (b0 &&& (7 : Int32)) <<< ((18 : Int32) &&& 31) = x at s0 ⊢
  generalize (b1 &&& (63 : Int32)) <<< ((12 : Int32) &&& 31) = y at s1 ⊢
  generalize (b2 &&& (63 : Int32)) <<< ((6 : Int32) &&& 31) = z at s2 ⊢
  generalize b3 &&& (63 : Int32) = t at m3 ⊢
  have rx := rng32 x
  have ry := rng32 y
  have rz := rng32 z
  have e := c_or x y 18 (by decide) 262144 rfl (by omega) (by omega) (by omega)
  have r := rng32 (x ||| y)
  generalize x ||| y = w at e r ⊢
  have e2 := c_or w z 12 (by decide) 4096 rfl (by omega) (by omega) (by omega)
  have r2 := rng32 (w ||| z)
  generalize w ||| z = w2 at e2 r2 ⊢
  have e3 := c_or w2 t 6 (by decide) 64 rfl (by omega) (by omega) (by omega)
  have r3 := rng32 (w2 ||| t)
  omega
theorem own_c3_13_0 (x : Int32) : (False → f3_13 x (0 : Int32) = 1) ∧ (¬ (False) → f3_13 x (0 : Int32) = 0) := by
  exact ⟨fun d => False.elim d, fun d => rfl⟩
theorem own_c3_41_0 (x : Int32) : (False → f3_41 x (0 : Int32) = 1) ∧ (¬ (False) → f3_41 x (0 : Int32) = 0) := by
  exact ⟨fun d => False.elim d, fun d => rfl⟩
theorem own_c3_63_0 (x : Int32) : (True → f3_63 x (0 : Int32) = 1) ∧ (¬ (True) → f3_63 x (0 : Int32) = 0) := by
  exact ⟨fun d => rfl, fun d => absurd trivial d⟩
theorem own_c3_43_0 (x : Int32) : (True → f3_43 x (0 : Int32) = 1) ∧ (¬ (True) → f3_43 x (0 : Int32) = 0) := by
  exact ⟨fun d => (if_pos (by decide) : f3_43 x (0 : Int32) = _).trans ((own_c3_63_0 x).1 d), fun d => (if_pos (by decide) : f3_43 x (0 : Int32) = _).trans ((own_c3_63_0 x).2 d)⟩
theorem own_c3_35_0 (x : Int32) : (x.toInt ≤ 65534 ∨ 65536 ≤ x.toInt → f3_35 x (0 : Int32) = 1) ∧ (¬ (x.toInt ≤ 65534 ∨ 65536 ≤ x.toInt) → f3_35 x (0 : Int32) = 0) := by
  have hi : (x = (65535 : Int32)) ↔ x.toInt = 65535 := own_eqi (by decide)
  have r1 := Int32.le_toInt x
  have r2 := Int32.toInt_lt x
  by_cases hB : x = (65535 : Int32)
  · have hb : x.toInt = 65535 := hi.mp hB
    exact ⟨fun d => ((if_pos hB) : f3_35 x (0 : Int32) = _).trans ((own_c3_41_0 x).1 (by first | exact trivial | exact not_false | omega)), fun d => ((if_pos hB) : f3_35 x (0 : Int32) = _).trans ((own_c3_41_0 x).2 (by first | exact trivial | exact not_false | omega))⟩
  · have hb : ¬ (x.toInt = 65535) := fun y => hB (hi.mpr y)
    exact ⟨fun d => ((if_neg hB) : f3_35 x (0 : Int32) = _).trans ((own_c3_43_0 x).1 (by first | exact trivial | exact not_false | omega)), fun d => ((if_neg hB) : f3_35 x (0 : Int32) = _).trans ((own_c3_43_0 x).2 (by first | exact trivial | exact not_false | omega))⟩
theorem own_c3_29_0 (x : Int32) : (x.toInt ≤ 65533 ∨ 65536 ≤ x.toInt → f3_29 x (0 : Int32) = 1) ∧ (¬ (x.toInt ≤ 65533 ∨ 65536 ≤ x.toInt) → f3_29 x (0 : Int32) = 0) := by
  have hi : (x = (65534 : Int32)) ↔ x.toInt = 65534 := own_eqi (by decide)
  have r1 := Int32.le_toInt x
  have r2 := Int32.toInt_lt x
  by_cases hB : x = (65534 : Int32)
  · have hb : x.toInt = 65534 := hi.mp hB
    exact ⟨fun d => ((if_pos hB) : f3_29 x (0 : Int32) = _).trans ((own_c3_41_0 x).1 (by first | exact trivial | exact not_false | omega)), fun d => ((if_pos hB) : f3_29 x (0 : Int32) = _).trans ((own_c3_41_0 x).2 (by first | exact trivial | exact not_false | omega))⟩
  · have hb : ¬ (x.toInt = 65534) := fun y => hB (hi.mpr y)
    exact ⟨fun d => ((if_neg hB) : f3_29 x (0 : Int32) = _).trans ((own_c3_35_0 x).1 (by first | exact trivial | exact not_false | omega)), fun d => ((if_neg hB) : f3_29 x (0 : Int32) = _).trans ((own_c3_35_0 x).2 (by first | exact trivial | exact not_false | omega))⟩
theorem own_c3_27_0 (x : Int32) : (False → f3_27 x (0 : Int32) = 1) ∧ (¬ (False) → f3_27 x (0 : Int32) = 0) := by
  exact ⟨fun d => False.elim d, fun d => rfl⟩
theorem own_c3_21_0 (x : Int32) : ((57344 ≤ x.toInt ∧ x.toInt ≤ 65533) ∨ 65536 ≤ x.toInt → f3_21 x (0 : Int32) = 1) ∧ (¬ ((57344 ≤ x.toInt ∧ x.toInt ≤ 65533) ∨ 65536 ≤ x.toInt) → f3_21 x (0 : Int32) = 0) := by
  have hi : ((57343 : Int32) < x) ↔ 57343 < x.toInt := Int32.lt_iff_toInt_lt
  have r1 := Int32.le_toInt x
  have r2 := Int32.toInt_lt x
  by_cases hB : (57343 : Int32) < x
  · have hb : 57343 < x.toInt := hi.mp hB
    exact ⟨fun d => ((if_pos hB) : f3_21 x (0 : Int32) = _).trans ((own_c3_29_0 x).1 (by first | exact trivial | exact not_false | omega)), fun d => ((if_pos hB) : f3_21 x (0 : Int32) = _).trans ((own_c3_29_0 x).2 (by first | exact trivial | exact not_false | omega))⟩
  · have hb : ¬ (57343 < x.toInt) := fun y => hB (hi.mpr y)
    exact ⟨fun d => ((if_neg hB) : f3_21 x (0 : Int32) = _).trans ((own_c3_27_0 x).1 (by first | exact trivial | exact not_false | omega)), fun d => ((if_neg hB) : f3_21 x (0 : Int32) = _).trans ((own_c3_27_0 x).2 (by first | exact trivial | exact not_false | omega))⟩
theorem own_c3_15_0 (x : Int32) : (x.toInt ≤ 55295 ∨ (57344 ≤ x.toInt ∧ x.toInt ≤ 65533) ∨ 65536 ≤ x.toInt → f3_15 x (0 : Int32) = 1) ∧ (¬ (x.toInt ≤ 55295 ∨ (57344 ≤ x.toInt ∧ x.toInt ≤ 65533) ∨ 65536 ≤ x.toInt) → f3_15 x (0 : Int32) = 0) := by
  have hi : (x < (55296 : Int32)) ↔ x.toInt < 55296 := Int32.lt_iff_toInt_lt
  have r1 := Int32.le_toInt x
  have r2 := Int32.toInt_lt x
  by_cases hB : x < (55296 : Int32)
  · have hb : x.toInt < 55296 := hi.mp hB
    exact ⟨fun d => ((if_pos hB) : f3_15 x (0 : Int32) = _).trans ((own_c3_29_0 x).1 (by first | exact trivial | exact not_false | omega)), fun d => ((if_pos hB) : f3_15 x (0 : Int32) = _).trans ((own_c3_29_0 x).2 (by first | exact trivial | exact not_false | omega))⟩
  · have hb : ¬ (x.toInt < 55296) := fun y => hB (hi.mpr y)
    exact ⟨fun d => ((if_neg hB) : f3_15 x (0 : Int32) = _).trans ((own_c3_21_0 x).1 (by first | exact trivial | exact not_false | omega)), fun d => ((if_neg hB) : f3_15 x (0 : Int32) = _).trans ((own_c3_21_0 x).2 (by first | exact trivial | exact not_false | omega))⟩
theorem own_c3_7_0 (x : Int32) : (x.toInt ≤ 55295 ∨ (57344 ≤ x.toInt ∧ x.toInt ≤ 65533) ∨ (65536 ≤ x.toInt ∧ x.toInt ≤ 1114111) → f3_7 x (0 : Int32) = 1) ∧ (¬ (x.toInt ≤ 55295 ∨ (57344 ≤ x.toInt ∧ x.toInt ≤ 65533) ∨ (65536 ≤ x.toInt ∧ x.toInt ≤ 1114111)) → f3_7 x (0 : Int32) = 0) := by
  have hi : ((1114111 : Int32) < x) ↔ 1114111 < x.toInt := Int32.lt_iff_toInt_lt
  have r1 := Int32.le_toInt x
  have r2 := Int32.toInt_lt x
  by_cases hB : (1114111 : Int32) < x
  · have hb : 1114111 < x.toInt := hi.mp hB
    exact ⟨fun d => ((if_pos hB) : f3_7 x (0 : Int32) = _).trans ((own_c3_13_0 x).1 (by first | exact trivial | exact not_false | omega)), fun d => ((if_pos hB) : f3_7 x (0 : Int32) = _).trans ((own_c3_13_0 x).2 (by first | exact trivial | exact not_false | omega))⟩
  · have hb : ¬ (1114111 < x.toInt) := fun y => hB (hi.mpr y)
    exact ⟨fun d => ((if_neg hB) : f3_7 x (0 : Int32) = _).trans ((own_c3_15_0 x).1 (by first | exact trivial | exact not_false | omega)), fun d => ((if_neg hB) : f3_7 x (0 : Int32) = _).trans ((own_c3_15_0 x).2 (by first | exact trivial | exact not_false | omega))⟩
theorem own_c3_0_0 (x : Int32) : ((128 ≤ x.toInt ∧ x.toInt ≤ 55295) ∨ (57344 ≤ x.toInt ∧ x.toInt ≤ 65533) ∨ (65536 ≤ x.toInt ∧ x.toInt ≤ 1114111) → f3_0 x (0 : Int32) = 1) ∧ (¬ ((128 ≤ x.toInt ∧ x.toInt ≤ 55295) ∨ (57344 ≤ x.toInt ∧ x.toInt ≤ 65533) ∨ (65536 ≤ x.toInt ∧ x.toInt ≤ 1114111)) → f3_0 x (0 : Int32) = 0) := by
  have hi : (x < (128 : Int32)) ↔ x.toInt < 128 := Int32.lt_iff_toInt_lt
  have r1 := Int32.le_toInt x
  have r2 := Int32.toInt_lt x
  by_cases hB : x < (128 : Int32)
  · have hb : x.toInt < 128 := hi.mp hB
    exact ⟨fun d => ((if_pos hB) : f3_0 x (0 : Int32) = _).trans ((own_c3_13_0 x).1 (by first | exact trivial | exact not_false | omega)), fun d => ((if_pos hB) : f3_0 x (0 : Int32) = _).trans ((own_c3_13_0 x).2 (by first | exact trivial | exact not_false | omega))⟩
  · have hb : ¬ (x.toInt < 128) := fun y => hB (hi.mpr y)
    exact ⟨fun d => ((if_neg hB) : f3_0 x (0 : Int32) = _).trans ((own_c3_7_0 x).1 (by first | exact trivial | exact not_false | omega)), fun d => ((if_neg hB) : f3_0 x (0 : Int32) = _).trans ((own_c3_7_0 x).2 (by first | exact trivial | exact not_false | omega))⟩
theorem own_c3_13_1 (x : Int32) : (False → f3_13 x (1 : Int32) = 1) ∧ (¬ (False) → f3_13 x (1 : Int32) = 0) := by
  exact ⟨fun d => False.elim d, fun d => rfl⟩
theorem own_c3_41_1 (x : Int32) : (False → f3_41 x (1 : Int32) = 1) ∧ (¬ (False) → f3_41 x (1 : Int32) = 0) := by
  exact ⟨fun d => False.elim d, fun d => rfl⟩
theorem own_c3_61_1 (x : Int32) : (False → f3_61 x (1 : Int32) = 1) ∧ (¬ (False) → f3_61 x (1 : Int32) = 0) := by
  exact ⟨fun d => False.elim d, fun d => rfl⟩
theorem own_c3_63_1 (x : Int32) : (True → f3_63 x (1 : Int32) = 1) ∧ (¬ (True) → f3_63 x (1 : Int32) = 0) := by
  exact ⟨fun d => rfl, fun d => absurd trivial d⟩
theorem own_c3_54_1 (x : Int32) : (x.toInt ≤ 8231 ∨ 8233 ≤ x.toInt → f3_54 x (1 : Int32) = 1) ∧ (¬ (x.toInt ≤ 8231 ∨ 8233 ≤ x.toInt) → f3_54 x (1 : Int32) = 0) := by
  have hi : (x = (8232 : Int32)) ↔ x.toInt = 8232 := own_eqi (by decide)
  have r1 := Int32.le_toInt x
  have r2 := Int32.toInt_lt x
  by_cases hB : x = (8232 : Int32)
  · have hb : x.toInt = 8232 := hi.mp hB
    exact ⟨fun d => ((if_pos hB) : f3_54 x (1 : Int32) = _).trans ((own_c3_61_1 x).1 (by first | exact trivial | exact not_false | omega)), fun d => ((if_pos hB) : f3_54 x (1 : Int32) = _).trans ((own_c3_61_1 x).2 (by first | exact trivial | exact not_false | omega))⟩
  · have hb : ¬ (x.toInt = 8232) := fun y => hB (hi.mpr y)
    exact ⟨fun d => ((if_neg hB) : f3_54 x (1 : Int32) = _).trans ((own_c3_63_1 x).1 (by first | exact trivial | exact not_false | omega)), fun d => ((if_neg hB) : f3_54 x (1 : Int32) = _).trans ((own_c3_63_1 x).2 (by first | exact trivial | exact not_false | omega))⟩
theorem own_c3_47_1 (x : Int32) : ((160 ≤ x.toInt ∧ x.toInt ≤ 8231) ∨ 8233 ≤ x.toInt → f3_47 x (1 : Int32) = 1) ∧ (¬ ((160 ≤ x.toInt ∧ x.toInt ≤ 8231) ∨ 8233 ≤ x.toInt) → f3_47 x (1 : Int32) = 0) := by
  have hi : ((159 : Int32) < x) ↔ 159 < x.toInt := Int32.lt_iff_toInt_lt
  have r1 := Int32.le_toInt x
  have r2 := Int32.toInt_lt x
  by_cases hB : (159 : Int32) < x
  · have hb : 159 < x.toInt := hi.mp hB
    exact ⟨fun d => ((if_pos hB) : f3_47 x (1 : Int32) = _).trans ((own_c3_54_1 x).1 (by first | exact trivial | exact not_false | omega)), fun d => ((if_pos hB) : f3_47 x (1 : Int32) = _).trans ((own_c3_54_1 x).2 (by first | exact trivial | exact not_false | omega))⟩
  · have hb : ¬ (159 < x.toInt) := fun y => hB (hi.mpr y)
    exact ⟨fun d => ((if_neg hB) : f3_47 x (1 : Int32) = _).trans ((own_c3_61_1 x).1 (by first | exact trivial | exact not_false | omega)), fun d => ((if_neg hB) : f3_47 x (1 : Int32) = _).trans ((own_c3_61_1 x).2 (by first | exact trivial | exact not_false | omega))⟩
theorem own_c3_43_1 (x : Int32) : ((160 ≤ x.toInt ∧ x.toInt ≤ 8231) ∨ 8233 ≤ x.toInt → f3_43 x (1 : Int32) = 1) ∧ (¬ ((160 ≤ x.toInt ∧ x.toInt ≤ 8231) ∨ 8233 ≤ x.toInt) → f3_43 x (1 : Int32) = 0) := by
  exact ⟨fun d => (if_neg (by decide) : f3_43 x (1 : Int32) = _).trans ((own_c3_47_1 x).1 d), fun d => (if_neg (by decide) : f3_43 x (1 : Int32) = _).trans ((own_c3_47_1 x).2 d)⟩
theorem own_c3_35_1 (x : Int32) : ((160 ≤ x.toInt ∧ x.toInt ≤ 8231) ∨ (8233 ≤ x.toInt ∧ x.toInt ≤ 65534) ∨ 65536 ≤ x.toInt → f3_35 x (1 : Int32) = 1) ∧ (¬ ((160 ≤ x.toInt ∧ x.toInt ≤ 8231) ∨ (8233 ≤ x.toInt ∧ x.toInt ≤ 65534) ∨ 65536 ≤ x.toInt) → f3_35 x (1 : Int32) = 0) := by
  have hi : (x = (65535 : Int32)) ↔ x.toInt = 65535 := own_eqi (by decide)
  have r1 := Int32.le_toInt x
  have r2 := Int32.toInt_lt x
  by_cases hB : x = (65535 : Int32)
  · have hb : x.toInt = 65535 := hi.mp hB
    exact ⟨fun d => ((if_pos hB) : f3_35 x (1 : Int32) = _).trans ((own_c3_41_1 x).1 (by first | exact trivial | exact not_false | omega)), fun d => ((if_pos hB) : f3_35 x (1 : Int32) = _).trans ((own_c3_41_1 x).2 (by first | exact trivial | exact not_false | omega))⟩
  · have hb : ¬ (x.toInt = 65535) := fun y => hB (hi.mpr y)
    exact ⟨fun d => ((if_neg hB) : f3_35 x (1 : Int32) = _).trans ((own_c3_43_1 x).1 (by first | exact trivial | exact not_false | omega)), fun d => ((if_neg hB) : f3_35 x (1 : Int32) = _).trans ((own_c3_43_1 x).2 (by first | exact trivial | exact not_false | omega))⟩
theorem own_c3_29_1 (x : Int32) : ((160 ≤ x.toInt ∧ x.toInt ≤ 8231) ∨ (8233 ≤ x.toInt ∧ x.toInt ≤ 65533) ∨ 65536 ≤ x.toInt → f3_29 x (1 : Int32) = 1) ∧ (¬ ((160 ≤ x.toInt ∧ x.toInt ≤ 8231) ∨ (8233 ≤ x.toInt ∧ x.toInt ≤ 65533) ∨ 65536 ≤ x.toInt) → f3_29 x (1 : Int32) = 0) := by
  have hi : (x = (65534 : Int32)) ↔ x.toInt = 65534 := own_eqi (by decide)
  have r1 := Int32.le_toInt x
  have r2 := Int32.toInt_lt x
  by_cases hB : x = (65534 : Int32)
  · have hb : x.toInt = 65534 := hi.mp hB
    exact ⟨fun d => ((if_pos hB) : f3_29 x (1 : Int32) = _).trans ((own_c3_41_1 x).1 (by first | exact trivial | exact not_false | omega)), fun d => ((if_pos hB) : f3_29 x (1 : Int32) = _).trans ((own_c3_41_1 x).2 (by first | exact trivial | exact not_false | omega))⟩
  · have hb : ¬ (x.toInt = 65534) := fun y => hB (hi.mpr y)
    exact ⟨fun d => ((if_neg hB) : f3_29 x (1 : Int32) = _).trans ((own_c3_35_1 x).1 (by first | exact trivial | exact not_false | omega)), fun d => ((if_neg hB) : f3_29 x (1 : Int32) = _).trans ((own_c3_35_1 x).2 (by first | exact trivial | exact not_false | omega))⟩
theorem own_c3_27_1 (x : Int32) : (False → f3_27 x (1 : Int32) = 1) ∧ (¬ (False) → f3_27 x (1 : Int32) = 0) := by
  exact ⟨fun d => False.elim d, fun d => rfl⟩
theorem own_c3_21_1 (x : Int32) : ((57344 ≤ x.toInt ∧ x.toInt ≤ 65533) ∨ 65536 ≤ x.toInt → f3_21 x (1 : Int32) = 1) ∧ (¬ ((57344 ≤ x.toInt ∧ x.toInt ≤ 65533) ∨ 65536 ≤ x.toInt) → f3_21 x (1 : Int32) = 0) := by
  have hi : ((57343 : Int32) < x) ↔ 57343 < x.toInt := Int32.lt_iff_toInt_lt
  have r1 := Int32.le_toInt x
  have r2 := Int32.toInt_lt x
  by_cases hB : (57343 : Int32) < x
  · have hb : 57343 < x.toInt := hi.mp hB
    exact ⟨fun d => ((if_pos hB) : f3_21 x (1 : Int32) = _).trans ((own_c3_29_1 x).1 (by first | exact trivial | exact not_false | omega)), fun d => ((if_pos hB) : f3_21 x (1 : Int32) = _).trans ((own_c3_29_1 x).2 (by first | exact trivial | exact not_false | omega))⟩
  · have hb : ¬ (57343 < x.toInt) := fun y => hB (hi.mpr y)
    exact ⟨fun d => ((if_neg hB) : f3_21 x (1 : Int32) = _).trans ((own_c3_27_1 x).1 (by first | exact trivial | exact not_false | omega)), fun d => ((if_neg hB) : f3_21 x (1 : Int32) = _).trans ((own_c3_27_1 x).2 (by first | exact trivial | exact not_false | omega))⟩
theorem own_c3_15_1 (x : Int32) : ((160 ≤ x.toInt ∧ x.toInt ≤ 8231) ∨ (8233 ≤ x.toInt ∧ x.toInt ≤ 55295) ∨ (57344 ≤ x.toInt ∧ x.toInt ≤ 65533) ∨ 65536 ≤ x.toInt → f3_15 x (1 : Int32) = 1) ∧ (¬ ((160 ≤ x.toInt ∧ x.toInt ≤ 8231) ∨ (8233 ≤ x.toInt ∧ x.toInt ≤ 55295) ∨ (57344 ≤ x.toInt ∧ x.toInt ≤ 65533) ∨ 65536 ≤ x.toInt) → f3_15 x (1 : Int32) = 0) := by
  have hi : (x < (55296 : Int32)) ↔ x.toInt < 55296 := Int32.lt_iff_toInt_lt
  have r1 := Int32.le_toInt x
  have r2 := Int32.toInt_lt x
  by_cases hB : x < (55296 : Int32)
  · have hb : x.toInt < 55296 := hi.mp hB
    exact ⟨fun d => ((if_pos hB) : f3_15 x (1 : Int32) = _).trans ((own_c3_29_1 x).1 (by first | exact trivial | exact not_false | omega)), fun d => ((if_pos hB) : f3_15 x (1 : Int32) = _).trans ((own_c3_29_1 x).2 (by first | exact trivial | exact not_false | omega))⟩
  · have hb : ¬ (x.toInt < 55296) := fun y => hB (hi.mpr y)
    exact ⟨fun d => ((if_neg hB) : f3_15 x (1 : Int32) = _).trans ((own_c3_21_1 x).1 (by first | exact trivial | exact not_false | omega)), fun d => ((if_neg hB) : f3_15 x (1 : Int32) = _).trans ((own_c3_21_1 x).2 (by first | exact trivial | exact not_false | omega))⟩
theorem own_c3_7_1 (x : Int32) : ((160 ≤ x.toInt ∧ x.toInt ≤ 8231) ∨ (8233 ≤ x.toInt ∧ x.toInt ≤ 55295) ∨ (57344 ≤ x.toInt ∧ x.toInt ≤ 65533) ∨ (65536 ≤ x.toInt ∧ x.toInt ≤ 1114111) → f3_7 x (1 : Int32) = 1) ∧ (¬ ((160 ≤ x.toInt ∧ x.toInt ≤ 8231) ∨ (8233 ≤ x.toInt ∧ x.toInt ≤ 55295) ∨ (57344 ≤ x.toInt ∧ x.toInt ≤ 65533) ∨ (65536 ≤ x.toInt ∧ x.toInt ≤ 1114111)) → f3_7 x (1 : Int32) = 0) := by
  have hi : ((1114111 : Int32) < x) ↔ 1114111 < x.toInt := Int32.lt_iff_toInt_lt
  have r1 := Int32.le_toInt x
  have r2 := Int32.toInt_lt x
  by_cases hB : (1114111 : Int32) < x
  · have hb : 1114111 < x.toInt := hi.mp hB
    exact ⟨fun d => ((if_pos hB) : f3_7 x (1 : Int32) = _).trans ((own_c3_13_1 x).1 (by first | exact trivial | exact not_false | omega)), fun d => ((if_pos hB) : f3_7 x (1 : Int32) = _).trans ((own_c3_13_1 x).2 (by first | exact trivial | exact not_false | omega))⟩
  · have hb : ¬ (1114111 < x.toInt) := fun y => hB (hi.mpr y)
    exact ⟨fun d => ((if_neg hB) : f3_7 x (1 : Int32) = _).trans ((own_c3_15_1 x).1 (by first | exact trivial | exact not_false | omega)), fun d => ((if_neg hB) : f3_7 x (1 : Int32) = _).trans ((own_c3_15_1 x).2 (by first | exact trivial | exact not_false | omega))⟩
theorem own_c3_0_1 (x : Int32) : ((160 ≤ x.toInt ∧ x.toInt ≤ 8231) ∨ (8233 ≤ x.toInt ∧ x.toInt ≤ 55295) ∨ (57344 ≤ x.toInt ∧ x.toInt ≤ 65533) ∨ (65536 ≤ x.toInt ∧ x.toInt ≤ 1114111) → f3_0 x (1 : Int32) = 1) ∧ (¬ ((160 ≤ x.toInt ∧ x.toInt ≤ 8231) ∨ (8233 ≤ x.toInt ∧ x.toInt ≤ 55295) ∨ (57344 ≤ x.toInt ∧ x.toInt ≤ 65533) ∨ (65536 ≤ x.toInt ∧ x.toInt ≤ 1114111)) → f3_0 x (1 : Int32) = 0) := by
  have hi : (x < (128 : Int32)) ↔ x.toInt < 128 := Int32.lt_iff_toInt_lt
  have r1 := Int32.le_toInt x
  have r2 := Int32.toInt_lt x
  by_cases hB : x < (128 : Int32)
  · have hb : x.toInt < 128 := hi.mp hB
    exact ⟨fun d => ((if_pos hB) : f3_0 x (1 : Int32) = _).trans ((own_c3_13_1 x).1 (by first | exact trivial | exact not_false | omega)), fun d => ((if_pos hB) : f3_0 x (1 : Int32) = _).trans ((own_c3_13_1 x).2 (by first | exact trivial | exact not_false | omega))⟩
  · have hb : ¬ (x.toInt < 128) := fun y => hB (hi.mpr y)
    exact ⟨fun d => ((if_neg hB) : f3_0 x (1 : Int32) = _).trans ((own_c3_7_1 x).1 (by first | exact trivial | exact not_false | omega)), fun d => ((if_neg hB) : f3_0 x (1 : Int32) = _).trans ((own_c3_7_1 x).2 (by first | exact trivial | exact not_false | omega))⟩
theorem own_neg {x : Int32} (c : Int32) (C : Int) (hc : c.toInt = C) : (x < c) ↔ x.toInt < C := by rw [← hc]; exact Int32.lt_iff_toInt_lt
theorem own_pos {x : Int32} (c : Int32) (C : Int) (hc : c.toInt = C) : (c < x) ↔ C < x.toInt := by rw [← hc]; exact Int32.lt_iff_toInt_lt
theorem own_cont0 : ∀ k : Fin 256, (((Int32.ofInt ((k.1 : Int) - 128)) &&& (192 : Int32)) = (128 : Int32)) ↔ (k.1 : Int) - 128 < -64 := by decide +kernel
theorem own_cont (b : Int32) (h : -128 ≤ b.toInt ∧ b.toInt < 128) : ((b &&& (192 : Int32)) = (128 : Int32)) ↔ b.toInt < -64 := by
  have k := own_cont0 ⟨(b.toInt + 128).toNat, by omega⟩
  have e : (((b.toInt + 128).toNat : Nat) : Int) - 128 = b.toInt := by omega
  dsimp only at k
  rw [e, Int32.ofInt_toInt] at k
  exact k
def own_S4 (B0 B1 B2 B3 : Int) : Int := if -16 ≤ B0 ∧ B0 ≤ -12 ∧ B1 < -64 ∧ B2 < -64 ∧ B3 < -64 ∧ 65536 ≤ (B0 % 8) * 262144 + (B1 % 64) * 4096 + (B2 % 64) * 64 + B3 % 64 ∧ (B0 % 8) * 262144 + (B1 % 64) * 4096 + (B2 % 64) * 64 + B3 % 64 ≤ 1114111 then (B0 % 8) * 262144 + (B1 % 64) * 4096 + (B2 % 64) * 64 + B3 % 64 else -1
def own_C3 (B0 B1 B2 : Int) : Int := (B0 % 16) * 4096 + (B1 % 64) * 64 + B2 % 64
def own_S3 (x : Int32) (B0 B1 B2 B3 : Int) : Int := if -32 ≤ B0 ∧ B0 ≤ -17 ∧ B1 < -64 ∧ B2 < -64 then (if own_C3 B0 B1 B2 < 2048 ∨ (55296 ≤ own_C3 B0 B1 B2 ∧ own_C3 B0 B1 B2 ≤ 57343) ∨ 65534 ≤ own_C3 B0 B1 B2 ∨ (¬ x = 0 ∧ own_C3 B0 B1 B2 = 8232) then -1 else own_C3 B0 B1 B2) else own_S4 B0 B1 B2 B3
def own_S (x : Int32) (B0 B1 B2 B3 : Int) : Int := if -62 ≤ B0 ∧ B0 ≤ -33 ∧ B1 < -64 then (if ¬ x = 0 ∧ (B0 % 32) * 64 + B1 % 64 < 160 then -1 else (B0 % 32) * 64 + B1 % 64) else own_S3 x B0 B1 B2 B3
theorem own_m1 : (-1 : Int32).toInt = -1 := by decide
section Stand4
variable (g : Nat → Int32) (o x : Int32)
  (h1 : -128 ≤ (g ((o + (1 : Int32))).toNatClampNeg).toInt ∧ (g ((o + (1 : Int32))).toNatClampNeg).toInt < 128) (h2 : -128 ≤ (g ((o + (2 : Int32))).toNatClampNeg).toInt ∧ (g ((o + (2 : Int32))).toNatClampNeg).toInt < 128) (h3 : -128 ≤ (g ((o + (3 : Int32))).toNatClampNeg).toInt ∧ (g ((o + (3 : Int32))).toNatClampNeg).toInt < 128)
theorem own_q189 (b0 : Int32) (h1 : -128 ≤ (g ((o + (1 : Int32))).toNatClampNeg).toInt ∧ (g ((o + (1 : Int32))).toNatClampNeg).toInt < 128) (h2 : -128 ≤ (g ((o + (2 : Int32))).toNatClampNeg).toInt ∧ (g ((o + (2 : Int32))).toNatClampNeg).toInt < 128) (h3 : -128 ≤ (g ((o + (3 : Int32))).toNatClampNeg).toInt ∧ (g ((o + (3 : Int32))).toNatClampNeg).toInt < 128) :
    (f2_189 g o x b0 (-1 : Int32)).toInt = own_S4 b0.toInt (g ((o + (1 : Int32))).toNatClampNeg).toInt (g ((o + (2 : Int32))).toNatClampNeg).toInt (g ((o + (3 : Int32))).toNatClampNeg).toInt := by
  have k1 := own_cont _ h1
  have k2 := own_cont _ h2
  have k3 := own_cont _ h3
  have c4 := own_four b0 (g ((o + (1 : Int32))).toNatClampNeg) (g ((o + (2 : Int32))).toNatClampNeg) (g ((o + (3 : Int32))).toNatClampNeg)
  have n : (f2_305 g o x b0 (-1 : Int32)).toInt = -1 := own_m1
  unfold own_S4
  unfold f2_189
  by_cases d1 : b0 < (-16 : Int32)
  · rw [if_pos d1, n, if_neg (by have := (own_neg (-16) (-16) (by decide)).mp d1; omega)]
  rw [if_neg d1]
  have d1' : ¬ b0.toInt < -16 := fun y => d1 ((own_neg (-16) (-16) (by decide)).mpr y)
  unfold f2_195
  by_cases d2 : (-12 : Int32) < b0
  · rw [if_pos d2, n, if_neg (by have := (own_pos (-12) (-12) (by decide)).mp d2; omega)]
  rw [if_neg d2]
  have d2' : ¬ -12 < b0.toInt := fun y => d2 ((own_pos (-12) (-12) (by decide)).mpr y)
  unfold f2_201
  by_cases d3 : ((g ((o + (1 : Int32))).toNatClampNeg) &&& (192 : Int32)) = (128 : Int32)
  · rw [if_pos d3]
    have d3' := k1.mp d3
    unfold f2_216
    by_cases d4 : ((g ((o + (2 : Int32))).toNatClampNeg) &&& (192 : Int32)) = (128 : Int32)
    · rw [if_pos d4]
      have d4' := k2.mp d4
      unfold f2_231
      by_cases d5 : ((g ((o + (3 : Int32))).toNatClampNeg) &&& (192 : Int32)) = (128 : Int32)
      · rw [if_pos d5]
        have d5' := k3.mp d5
        unfold f2_246
        generalize hw : (((((b0 &&& (7 : Int32)) <<< ((18 : Int32) &&& 31)) ||| (((g ((o + (1 : Int32))).toNatClampNeg) &&& (63 : Int32)) <<< ((12 : Int32) &&& 31))) ||| (((g ((o + (2 : Int32))).toNatClampNeg) &&& (63 : Int32)) <<< ((6 : Int32) &&& 31))) ||| ((g ((o + (3 : Int32))).toNatClampNeg) &&& (63 : Int32))) = w at c4 ⊢
        rw [← c4]
        by_cases d6 : w < (65536 : Int32)
        · rw [if_pos d6, if_neg (by have := (own_neg 65536 65536 (by decide)).mp d6; omega)]
          exact own_m1
        · rw [if_neg d6]
          have d6' : ¬ w.toInt < 65536 := fun y => d6 ((own_neg 65536 65536 (by decide)).mpr y)
          unfold f2_295
          by_cases d7 : (1114111 : Int32) < w
          · rw [if_pos d7, if_neg (by have := (own_pos 1114111 1114111 (by decide)).mp d7; omega)]
            exact own_m1
          · have d7' : ¬ 1114111 < w.toInt := fun y => d7 ((own_pos 1114111 1114111 (by decide)).mpr y)
            rw [if_neg d7, if_pos (by omega)]
            rfl
      · rw [if_neg d5, n, if_neg (by have : ¬ _ := fun y => d5 (k3.mpr y); omega)]
    · rw [if_neg d4, n, if_neg (by have : ¬ _ := fun y => d4 (k2.mpr y); omega)]
  · rw [if_neg d3, n, if_neg (by have : ¬ _ := fun y => d3 (k1.mpr y); omega)]
theorem own_q70 (b0 : Int32) (h1 : -128 ≤ (g ((o + (1 : Int32))).toNatClampNeg).toInt ∧ (g ((o + (1 : Int32))).toNatClampNeg).toInt < 128) (h2 : -128 ≤ (g ((o + (2 : Int32))).toNatClampNeg).toInt ∧ (g ((o + (2 : Int32))).toNatClampNeg).toInt < 128) (h3 : -128 ≤ (g ((o + (3 : Int32))).toNatClampNeg).toInt ∧ (g ((o + (3 : Int32))).toNatClampNeg).toInt < 128) :
    (f2_70 g o x b0 (-1 : Int32)).toInt = own_S3 x b0.toInt (g ((o + (1 : Int32))).toNatClampNeg).toInt (g ((o + (2 : Int32))).toNatClampNeg).toInt (g ((o + (3 : Int32))).toNatClampNeg).toInt := by
  have k1 := own_cont _ h1
  have k2 := own_cont _ h2
  have c3 : _ = own_C3 b0.toInt _ _ := own_three b0 (g ((o + (1 : Int32))).toNatClampNeg) (g ((o + (2 : Int32))).toNatClampNeg)
  have n := own_q189 g o x b0 h1 h2 h3
  unfold own_S3
  unfold f2_70
  by_cases d1 : b0 < (-32 : Int32)
  · rw [if_pos d1, n, if_neg (by have := (own_neg (-32) (-32) (by decide)).mp d1; omega)]
  rw [if_neg d1]
  have d1' : ¬ b0.toInt < -32 := fun y => d1 ((own_neg (-32) (-32) (by decide)).mpr y)
  unfold f2_76
  by_cases d2 : (-17 : Int32) < b0
  · rw [if_pos d2, n, if_neg (by have := (own_pos (-17) (-17) (by decide)).mp d2; omega)]
  rw [if_neg d2]
  have d2' : ¬ -17 < b0.toInt := fun y => d2 ((own_pos (-17) (-17) (by decide)).mpr y)
  unfold f2_82
  by_cases d3 : ((g ((o + (1 : Int32))).toNatClampNeg) &&& (192 : Int32)) = (128 : Int32)
  · rw [if_pos d3]
    have d3' := k1.mp d3
    unfold f2_97
    by_cases d4 : ((g ((o + (2 : Int32))).toNatClampNeg) &&& (192 : Int32)) = (128 : Int32)
    · rw [if_pos d4]
      have d4' := k2.mp d4
      rw [if_pos (by omega)]
      unfold f2_112
      generalize hw : ((((b0 &&& (15 : Int32)) <<< ((12 : Int32) &&& 31)) ||| (((g ((o + (1 : Int32))).toNatClampNeg) &&& (63 : Int32)) <<< ((6 : Int32) &&& 31))) ||| ((g ((o + (2 : Int32))).toNatClampNeg) &&& (63 : Int32))) = w at c3 ⊢
      rw [← c3]
      have m1 : ∀ w, (f2_183 g o x b0 w).toInt = -1 := fun _ => own_m1
      by_cases d5 : w < (2048 : Int32)
      · rw [if_pos d5, m1, if_pos (by have := (own_neg 2048 2048 (by decide)).mp d5; omega)]
      rw [if_neg d5]
      have d5' : ¬ w.toInt < 2048 := fun y => d5 ((own_neg 2048 2048 (by decide)).mpr y)
      have t164 : ¬ (55296 ≤ w.toInt ∧ w.toInt ≤ 57343) → (f2_164 g o x b0 w).toInt = (if w.toInt < 2048 ∨ (55296 ≤ w.toInt ∧ w.toInt ≤ 57343) ∨ 65534 ≤ w.toInt ∨ (¬ x = 0 ∧ w.toInt = 8232) then -1 else w.toInt) := fun hs => by
        unfold f2_164
        by_cases d6 : w < (65534 : Int32)
        · rw [if_pos d6]
          have d6' := (own_neg 65534 65534 (by decide)).mp d6
          unfold f2_171
          by_cases d7 : x = (0 : Int32)
          · rw [if_pos d7, if_neg (fun q => q.elim (fun q => d5' q) (fun q => q.elim (fun q => hs q) (fun q => q.elim (fun q => by omega) (fun q => q.1 d7))))]
            rfl
          · rw [if_neg d7]
            unfold f2_175
            by_cases d8 : w = (8232 : Int32)
            · rw [if_pos d8, m1, if_pos (Or.inr (Or.inr (Or.inr ⟨d7, by rw [d8]; decide⟩)))]
            · rw [if_neg d8, if_neg (fun q => q.elim (fun q => d5' q) (fun q => q.elim (fun q => hs q) (fun q => q.elim (fun q => by omega) (fun q => d8 ((own_eqi (by decide)).mpr q.2)))))]
              rfl
        · have d6' : ¬ w.toInt < 65534 := fun y => d6 ((own_neg 65534 65534 (by decide)).mpr y)
          rw [if_neg d6, m1, if_pos (Or.inr (Or.inr (Or.inl (by omega))))]
      unfold f2_150
      by_cases d9 : w < (55296 : Int32)
      · rw [if_pos d9]
        have d9' := (own_neg 55296 55296 (by decide)).mp d9
        exact t164 (by omega)
      · rw [if_neg d9]
        have d9' : ¬ w.toInt < 55296 := fun y => d9 ((own_neg 55296 55296 (by decide)).mpr y)
        unfold f2_157
        by_cases d10 : (57343 : Int32) < w
        · rw [if_pos d10]
          have d10' := (own_pos 57343 57343 (by decide)).mp d10
          exact t164 (by omega)
        · have d10' : ¬ 57343 < w.toInt := fun y => d10 ((own_pos 57343 57343 (by decide)).mpr y)
          rw [if_neg d10, m1, if_pos (Or.inr (Or.inl (by omega)))]
    · rw [if_neg d4, n, if_neg (by have : ¬ _ := fun y => d4 (k2.mpr y); omega)]
  · rw [if_neg d3, n, if_neg (by have : ¬ _ := fun y => d3 (k1.mpr y); omega)]
theorem own_q0 (h1 : -128 ≤ (g ((o + (1 : Int32))).toNatClampNeg).toInt ∧ (g ((o + (1 : Int32))).toNatClampNeg).toInt < 128) (h2 : -128 ≤ (g ((o + (2 : Int32))).toNatClampNeg).toInt ∧ (g ((o + (2 : Int32))).toNatClampNeg).toInt < 128) (h3 : -128 ≤ (g ((o + (3 : Int32))).toNatClampNeg).toInt ∧ (g ((o + (3 : Int32))).toNatClampNeg).toInt < 128) :
    (f2_0 g o x).toInt = own_S x (g (o).toNatClampNeg).toInt (g ((o + (1 : Int32))).toNatClampNeg).toInt (g ((o + (2 : Int32))).toNatClampNeg).toInt (g ((o + (3 : Int32))).toNatClampNeg).toInt := by
  have n := own_q70 g o x (g (o).toNatClampNeg) h1 h2 h3
  unfold f2_0
  generalize (g (o).toNatClampNeg) = b0 at n ⊢
  have k1 := own_cont _ h1
  have c2 := own_two b0 (g ((o + (1 : Int32))).toNatClampNeg)
  unfold own_S
  by_cases d1 : b0 < (-62 : Int32)
  · rw [if_pos d1, n, if_neg (by have := (own_neg (-62) (-62) (by decide)).mp d1; omega)]
  rw [if_neg d1]
  have d1' : ¬ b0.toInt < -62 := fun y => d1 ((own_neg (-62) (-62) (by decide)).mpr y)
  unfold f2_13
  by_cases d2 : (-33 : Int32) < b0
  · rw [if_pos d2, n, if_neg (by have := (own_pos (-33) (-33) (by decide)).mp d2; omega)]
  rw [if_neg d2]
  have d2' : ¬ -33 < b0.toInt := fun y => d2 ((own_pos (-33) (-33) (by decide)).mpr y)
  unfold f2_19
  by_cases d3 : ((g ((o + (1 : Int32))).toNatClampNeg) &&& (192 : Int32)) = (128 : Int32)
  · rw [if_pos d3]
    have d3' := k1.mp d3
    rw [if_pos (by omega)]
    unfold f2_34
    generalize hw : (((b0 &&& (31 : Int32)) <<< ((6 : Int32) &&& 31)) ||| ((g ((o + (1 : Int32))).toNatClampNeg) &&& (63 : Int32))) = w at c2 ⊢
    rw [← c2]
    by_cases d4 : x = (0 : Int32)
    · rw [if_pos d4, if_neg (fun q => q.1 d4)]
      rfl
    · rw [if_neg d4]
      unfold f2_56
      by_cases d5 : w < (160 : Int32)
      · rw [if_pos d5, if_pos ⟨d4, (own_neg 160 160 (by decide)).mp d5⟩]
        exact own_m1
      · rw [if_neg d5, if_neg (fun q => d5 ((own_neg 160 160 (by decide)).mpr q.2))]
        rfl
  · rw [if_neg d3, n, if_neg (by have : ¬ _ := fun y => d3 (k1.mpr y); omega)]
end Stand4
theorem own_shr (c q : Int32) (k : Nat) (P : Int) (hk : q.toBitVec.toNat % 32 = k) (hP : ((2 ^ k : Nat) : Int) = P) : (c >>> (q &&& 31)).toInt = c.toInt / P := by rw [← hP]; exact c_ishr c q k hk
theorem own_lead (c a y : Int32) (A : Int) (k : Nat) (P : Int) (hk : k ≤ 31) (hP : P = (2 ^ k : Nat)) (ha : a.toInt = A) (hA : A % P = 0) (hA2 : 128 ≤ A ∧ A < 256) (hy : 0 ≤ y.toInt ∧ y.toInt < P) (hs : A + y.toInt < 256) : ((a ||| y).toInt8.toInt32).toInt = A + y.toInt - 256 := by
  have e := c_or a y k hk P hP (by rw [ha]; exact hA) hy.1 hy.2
  have r := rng32 (a ||| y)
  have b := c_i2b (a ||| y)
  omega
theorem own_cb (y : Int32) : (((128 : Int32) ||| (y &&& (63 : Int32))).toInt8.toInt32).toInt = y.toInt % 64 - 128 := by
  have m := c_mask y 63 6 (by decide) (by decide)
  have p6 : ((2 ^ 6 : Nat) : Int) = 64 := rfl
  rw [p6] at m
  have := own_lead y 128 (y &&& 63) 128 6 64 (by decide) rfl (by decide) (by decide) (by decide) (by omega) (by omega)
  omega
theorem own_l2 (c : Int32) (h : 0 ≤ c.toInt ∧ c.toInt < 2048) : (((192 : Int32) ||| (c >>> ((6 : Int32) &&& 31))).toInt8.toInt32).toInt = c.toInt / 64 - 64 := by
  have s := own_shr c 6 6 64 (by decide) rfl
  have := own_lead c 192 (c >>> ((6 : Int32) &&& 31)) 192 6 64 (by decide) rfl (by decide) (by decide) (by decide) (by omega) (by omega)
  omega
theorem own_l3 (c : Int32) (h : 0 ≤ c.toInt ∧ c.toInt < 65536) : (((224 : Int32) ||| (c >>> ((12 : Int32) &&& 31))).toInt8.toInt32).toInt = c.toInt / 4096 - 32 := by
  have s := own_shr c 12 12 4096 (by decide) rfl
  have := own_lead c 224 (c >>> ((12 : Int32) &&& 31)) 224 5 32 (by decide) rfl (by decide) (by decide) (by decide) (by omega) (by omega)
  omega
theorem own_l4 (c : Int32) (h : 0 ≤ c.toInt ∧ c.toInt < 2097152) : (((240 : Int32) ||| (c >>> ((18 : Int32) &&& 31))).toInt8.toInt32).toInt = c.toInt / 262144 - 16 := by
  have s := own_shr c 18 18 262144 (by decide) rfl
  have := own_lead c 240 (c >>> ((18 : Int32) &&& 31)) 240 4 16 (by decide) rfl (by decide) (by decide) (by decide) (by omega) (by omega)
  omega
theorem own_s6 (c : Int32) : (c >>> ((6 : Int32) &&& 31)).toInt = c.toInt / 64 := own_shr c 6 6 64 (by decide) rfl
theorem own_s12 (c : Int32) : (c >>> ((12 : Int32) &&& 31)).toInt = c.toInt / 4096 := own_shr c 12 12 4096 (by decide) rfl
/-- what 'matches' says of the character r where the bytes are its own -/
theorem own_mt (g : Nat → Int32) (o r : Int32) (h : (128 ≤ r.toInt ∧ r.toInt < 2048 ∧ (g (o).toNatClampNeg).toInt = r.toInt / 64 - 64 ∧ (g ((o + (1 : Int32))).toNatClampNeg).toInt = r.toInt % 64 - 128)
    ∨ (2048 ≤ r.toInt ∧ r.toInt < 65536 ∧ (g (o).toNatClampNeg).toInt = r.toInt / 4096 - 32 ∧ (g ((o + (1 : Int32))).toNatClampNeg).toInt = r.toInt / 64 % 64 - 128 ∧ (g ((o + (2 : Int32))).toNatClampNeg).toInt = r.toInt % 64 - 128)
    ∨ (65536 ≤ r.toInt ∧ r.toInt < 2097152 ∧ (g (o).toNatClampNeg).toInt = r.toInt / 262144 - 16 ∧ (g ((o + (1 : Int32))).toNatClampNeg).toInt = r.toInt / 4096 % 64 - 128 ∧ (g ((o + (2 : Int32))).toNatClampNeg).toInt = r.toInt / 64 % 64 - 128 ∧ (g ((o + (3 : Int32))).toNatClampNeg).toInt = r.toInt % 64 - 128)) : f4_0 g o r = 1 := by
  have n0 : ¬ r < (128 : Int32) := fun q => by have := (own_neg 128 128 (by decide)).mp q; omega
  have b6 := own_cb r
  have b66 := own_cb (r >>> ((6 : Int32) &&& 31))
  have b612 := own_cb (r >>> ((12 : Int32) &&& 31))
  have s6 := own_s6 r
  have s12 := own_s12 r
  rw [s6] at b66
  rw [s12] at b612
  unfold f4_0 f4_9
  rw [if_neg n0]
  rcases h with ⟨a1, a2, a3, a4⟩ | ⟨a1, a2, a3, a4, a5⟩ | ⟨a1, a2, a3, a4, a5, a6⟩
  · rw [if_pos ((own_neg 2048 2048 (by decide)).mpr a2)]
    unfold f4_16 f4_31
    rw [if_pos (Int32.toInt_inj.mp (by rw [a3, own_l2 r (by omega)])), if_pos (Int32.toInt_inj.mp (by rw [a4, b6]))]
    rfl
  · rw [if_neg (fun q => by have := (own_neg 2048 2048 (by decide)).mp q; omega)]
    unfold f4_54
    rw [if_pos ((own_neg 65536 65536 (by decide)).mpr a2)]
    unfold f4_60 f4_75 f4_95
    rw [if_pos (Int32.toInt_inj.mp (by rw [a3, own_l3 r (by omega)])), if_pos (Int32.toInt_inj.mp (by rw [a4, b66])), if_pos (Int32.toInt_inj.mp (by rw [a5, b6]))]
    rfl
  · rw [if_neg (fun q => by have := (own_neg 2048 2048 (by decide)).mp q; omega)]
    unfold f4_54
    rw [if_neg (fun q => by have := (own_neg 65536 65536 (by decide)).mp q; omega)]
    unfold f4_118
    rw [if_neg (fun q => by have := (own_pos 2097151 2097151 (by decide)).mp q; omega)]
    unfold f4_126 f4_141 f4_161 f4_181
    rw [if_pos (Int32.toInt_inj.mp (by rw [a3, own_l4 r (by omega)])), if_pos (Int32.toInt_inj.mp (by rw [a4, b612])), if_pos (Int32.toInt_inj.mp (by rw [a5, b66])), if_pos (Int32.toInt_inj.mp (by rw [a6, b6]))]
    rfl
/-- where a code point may stand -/
def own_Al (x : Int32) (C : Int) : Prop := 128 ≤ C ∧ C ≤ 1114111 ∧ ¬ (55296 ≤ C ∧ C ≤ 57343) ∧ ¬ C = 65534 ∧ ¬ C = 65535 ∧ (x = 0 ∨ (159 < C ∧ ¬ C = 8232))
theorem own_al (x c : Int32) (hx : x = 0 ∨ x = 1) : (own_Al x c.toInt → f3_0 c x = 1) ∧ (¬ own_Al x c.toInt → f3_0 c x = 0) := by
  rcases hx with rfl | rfl
  · have k := own_c3_0_0 c
    exact ⟨fun ⟨a1, a2, a3, a4, a5, a6⟩ => k.1 (by omega), fun q => k.2 (fun y => q ⟨by omega, by omega, by omega, by omega, by omega, Or.inl rfl⟩)⟩
  · have k := own_c3_0_1 c
    refine ⟨fun ⟨a1, a2, a3, a4, a5, a6⟩ => ?_, fun q => k.2 (fun y => q ⟨by omega, by omega, by omega, by omega, by omega, Or.inr ⟨by omega, by omega⟩⟩)⟩
    rcases a6 with a6 | a6
    · exact absurd a6 (by decide)
    · exact k.1 (by omega)
theorem own_sound (g : Nat → Int32) (o x : Int32) (hx : x = 0 ∨ x = 1) (h0 : -128 ≤ (g (o).toNatClampNeg).toInt ∧ (g (o).toNatClampNeg).toInt < 128) (h1 : -128 ≤ (g ((o + (1 : Int32))).toNatClampNeg).toInt ∧ (g ((o + (1 : Int32))).toNatClampNeg).toInt < 128) (h2 : -128 ≤ (g ((o + (2 : Int32))).toNatClampNeg).toInt ∧ (g ((o + (2 : Int32))).toNatClampNeg).toInt < 128) (h3 : -128 ≤ (g ((o + (3 : Int32))).toNatClampNeg).toInt ∧ (g ((o + (3 : Int32))).toNatClampNeg).toInt < 128)
    (hr : ¬ f2_0 g o x = (-1 : Int32)) : f3_0 (f2_0 g o x) x = 1 ∧ f4_0 g o (f2_0 g o x) = 1 := by
  have k := own_q0 g o x h1 h2 h3
  have hr' : ¬ (f2_0 g o x).toInt = -1 := fun y => hr ((own_eqi (by decide)).mpr y)
  have al := (own_al x (f2_0 g o x) hx).1
  have mt := own_mt g o (f2_0 g o x)
  generalize f2_0 g o x = r at k hr' al mt ⊢
  generalize (g (o).toNatClampNeg).toInt = B0 at h0 k mt
  generalize (g ((o + (1 : Int32))).toNatClampNeg).toInt = B1 at h1 k mt
  generalize (g ((o + (2 : Int32))).toNatClampNeg).toInt = B2 at h2 k mt
  generalize (g ((o + (3 : Int32))).toNatClampNeg).toInt = B3 at h3 k mt
  unfold own_S at k
  by_cases c1 : -62 ≤ B0 ∧ B0 ≤ -33 ∧ B1 < -64
  · rw [if_pos c1] at k
    by_cases c2 : ¬ x = 0 ∧ (B0 % 32) * 64 + B1 % 64 < 160
    · rw [if_pos c2] at k; exact absurd k hr'
    · rw [if_neg c2] at k
      refine ⟨al ⟨by omega, by omega, by omega, by omega, by omega, ?_⟩, mt (Or.inl (by omega))⟩
      by_cases c3 : x = 0
      · exact Or.inl c3
      · have : ¬ ((B0 % 32) * 64 + B1 % 64 < 160) := fun y => c2 ⟨c3, y⟩
        exact Or.inr (by omega)
  · rw [if_neg c1] at k
    unfold own_S3 at k
    by_cases c2 : -32 ≤ B0 ∧ B0 ≤ -17 ∧ B1 < -64 ∧ B2 < -64
    · rw [if_pos c2] at k
      by_cases c3 : own_C3 B0 B1 B2 < 2048 ∨ (55296 ≤ own_C3 B0 B1 B2 ∧ own_C3 B0 B1 B2 ≤ 57343) ∨ 65534 ≤ own_C3 B0 B1 B2 ∨ (¬ x = 0 ∧ own_C3 B0 B1 B2 = 8232)
      · rw [if_pos c3] at k; exact absurd k hr'
      · rw [if_neg c3] at k
        have e1 : ¬ own_C3 B0 B1 B2 < 2048 := fun y => c3 (Or.inl y)
        have e2 : ¬ (55296 ≤ own_C3 B0 B1 B2 ∧ own_C3 B0 B1 B2 ≤ 57343) := fun y => c3 (Or.inr (Or.inl y))
        have e3 : ¬ 65534 ≤ own_C3 B0 B1 B2 := fun y => c3 (Or.inr (Or.inr (Or.inl y)))
        have e4 : x = 0 ∨ ¬ own_C3 B0 B1 B2 = 8232 := by
          by_cases z : x = 0
          · exact Or.inl z
          · exact Or.inr (fun y => c3 (Or.inr (Or.inr (Or.inr ⟨z, y⟩))))
        have e5 : own_C3 B0 B1 B2 = (B0 % 16) * 4096 + (B1 % 64) * 64 + B2 % 64 := rfl
        generalize own_C3 B0 B1 B2 = C3 at k e1 e2 e3 e4 e5
        refine ⟨al ⟨by omega, by omega, by omega, by omega, by omega, ?_⟩, mt (Or.inr (Or.inl (by omega)))⟩
        rcases e4 with e4 | e4
        · exact Or.inl e4
        · exact Or.inr (by omega)
    · rw [if_neg c2] at k
      unfold own_S4 at k
      split at k
      · rename_i c3
        exact ⟨al ⟨by omega, by omega, by omega, by omega, by omega, Or.inr (by omega)⟩, mt (Or.inr (Or.inr (by omega)))⟩
      · exact absurd k hr'
/-- the bytes that 'put' leaves -/
def own_put (o c : Int32) (g : Nat → Int32) : Nat → Int32 :=
  if c < (2048 : Int32) then (fun i => if i = ((o + (1 : Int32))).toNatClampNeg then (nar .byte ((((128 : Int32) ||| (c &&& (63 : Int32))).toInt8.toInt32))) else if i = (o).toNatClampNeg then (nar .byte ((((192 : Int32) ||| (c >>> ((6 : Int32) &&& 31))).toInt8.toInt32))) else g i)
  else if c < (65536 : Int32) then (fun i => if i = ((o + (2 : Int32))).toNatClampNeg then (nar .byte ((((128 : Int32) ||| (c &&& (63 : Int32))).toInt8.toInt32))) else if i = ((o + (1 : Int32))).toNatClampNeg then (nar .byte ((((128 : Int32) ||| ((c >>> ((6 : Int32) &&& 31)) &&& (63 : Int32))).toInt8.toInt32))) else if i = (o).toNatClampNeg then (nar .byte ((((224 : Int32) ||| (c >>> ((12 : Int32) &&& 31))).toInt8.toInt32))) else g i)
  else (fun i => if i = ((o + (3 : Int32))).toNatClampNeg then (nar .byte ((((128 : Int32) ||| (c &&& (63 : Int32))).toInt8.toInt32))) else if i = ((o + (2 : Int32))).toNatClampNeg then (nar .byte ((((128 : Int32) ||| ((c >>> ((6 : Int32) &&& 31)) &&& (63 : Int32))).toInt8.toInt32))) else if i = ((o + (1 : Int32))).toNatClampNeg then (nar .byte ((((128 : Int32) ||| ((c >>> ((12 : Int32) &&& 31)) &&& (63 : Int32))).toInt8.toInt32))) else if i = (o).toNatClampNeg then (nar .byte ((((240 : Int32) ||| (c >>> ((18 : Int32) &&& 31))).toInt8.toInt32))) else g i)
theorem own_nb2 (y : Int32) : (nar .byte (y.toInt8.toInt32)).toInt = (y.toInt8.toInt32).toInt := by
  have a := c_i2b y
  have b := c_i2b y.toInt8.toInt32
  show y.toInt8.toInt32.toInt8.toInt32.toInt = _
  omega
theorem own_putv (o c : Int32) (g : Nat → Int32) (ho : 0 ≤ o.toInt ∧ o.toInt ≤ 3) (hc : 128 ≤ c.toInt ∧ c.toInt ≤ 1114111)
    (hg : ∀ i, -128 ≤ (g i).toInt ∧ (g i).toInt < 128) (P : Int → Int → Int → Int → Prop)
    (p2 : c.toInt < 2048 → ∀ B2 B3, P (c.toInt / 64 - 64) (c.toInt % 64 - 128) B2 B3)
    (p3 : 2048 ≤ c.toInt → c.toInt < 65536 → ∀ B3, P (c.toInt / 4096 - 32) (c.toInt / 64 % 64 - 128) (c.toInt % 64 - 128) B3)
    (p4 : 65536 ≤ c.toInt → P (c.toInt / 262144 - 16) (c.toInt / 4096 % 64 - 128) (c.toInt / 64 % 64 - 128) (c.toInt % 64 - 128)) :
    (∀ i, -128 ≤ (own_put o c g i).toInt ∧ (own_put o c g i).toInt < 128) ∧
    P (own_put o c g (o).toNatClampNeg).toInt (own_put o c g ((o + (1 : Int32))).toNatClampNeg).toInt (own_put o c g ((o + (2 : Int32))).toNatClampNeg).toInt (own_put o c g ((o + (3 : Int32))).toNatClampNeg).toInt := by
  obtain ⟨n, hn, i0, i1, i2, i3⟩ := own_idx o ho
  have b6 := own_cb c
  have b66 := own_cb (c >>> ((6 : Int32) &&& 31))
  have b612 := own_cb (c >>> ((12 : Int32) &&& 31))
  rw [own_s6 c] at b66
  rw [own_s12 c] at b612
  have w : ∀ (y : Int32), -128 ≤ (nar .byte (y.toInt8.toInt32)).toInt ∧ (nar .byte (y.toInt8.toInt32)).toInt < 128 := fun y => (own_nb y).2
  have bk : ∀ (q : Prop) [Decidable q] (a b : Int32), (-128 ≤ a.toInt ∧ a.toInt < 128) → (-128 ≤ b.toInt ∧ b.toInt < 128) → (-128 ≤ (if q then a else b).toInt ∧ (if q then a else b).toInt < 128) := fun q _ a b ha hb => by
    by_cases z : q
    · rw [if_pos z]; exact ha
    · rw [if_neg z]; exact hb
  unfold own_put
  by_cases c1 : c < (2048 : Int32)
  · have c1' := (own_neg 2048 2048 (by decide)).mp c1
    simp only [if_pos c1, if_true]
    refine ⟨fun i => bk _ _ _ (w _) (bk _ _ _ (w _) (hg i)), ?_⟩
    rw [i0, i1, i2, i3]
    rw [if_neg (by omega : ¬ n = n + 1), own_nb2, own_nb2, own_l2 c (by omega), b6]
    exact p2 c1' _ _
  · have c1' : ¬ c.toInt < 2048 := fun y => c1 ((own_neg 2048 2048 (by decide)).mpr y)
    by_cases c2 : c < (65536 : Int32)
    · have c2' := (own_neg 65536 65536 (by decide)).mp c2
      simp only [if_neg c1, if_pos c2, if_true]
      refine ⟨fun i => bk _ _ _ (w _) (bk _ _ _ (w _) (bk _ _ _ (w _) (hg i))), ?_⟩
      rw [i0, i1, i2, i3]
      rw [if_neg (by omega : ¬ n = n + 2), if_neg (by omega : ¬ n = n + 1), if_neg (by omega : ¬ n + 1 = n + 2), own_nb2, own_nb2, own_nb2, own_l3 c (by omega), b6, b66]
      exact p3 (by omega) c2' _
    · have c2' : ¬ c.toInt < 65536 := fun y => c2 ((own_neg 65536 65536 (by decide)).mpr y)
      simp only [if_neg c1, if_neg c2, if_true]
      refine ⟨fun i => bk _ _ _ (w _) (bk _ _ _ (w _) (bk _ _ _ (w _) (bk _ _ _ (w _) (hg i)))), ?_⟩
      rw [i0, i1, i2, i3]
      rw [if_neg (by omega : ¬ n = n + 3), if_neg (by omega : ¬ n = n + 2), if_neg (by omega : ¬ n = n + 1), if_neg (by omega : ¬ n + 1 = n + 3), if_neg (by omega : ¬ n + 1 = n + 2), if_neg (by omega : ¬ n + 2 = n + 3), own_nb2, own_nb2, own_nb2, own_nb2, own_l4 c (by omega), b6, b66, b612]
      exact p4 (by omega)
theorem own_full (g : Nat → Int32) (o x c : Int32) (hx : x = 0 ∨ x = 1) (ho : 0 ≤ o.toInt ∧ o.toInt ≤ 3) (hc : 128 ≤ c.toInt ∧ c.toInt ≤ 1114111) (hg : ∀ i, -128 ≤ (g i).toInt ∧ (g i).toInt < 128) :
    (f3_0 c x = (0 : Int32) → f2_0 (own_put o c g) o x = (-1 : Int32)) ∧ (¬ f3_0 c x = (0 : Int32) → f2_0 (own_put o c g) o x = c) := by
  have al := own_al x c hx
  have key : ∀ B0 B1 B2 B3 : Int, ((c.toInt < 2048 ∧ B0 = c.toInt / 64 - 64 ∧ B1 = c.toInt % 64 - 128) ∨ (2048 ≤ c.toInt ∧ c.toInt < 65536 ∧ B0 = c.toInt / 4096 - 32 ∧ B1 = c.toInt / 64 % 64 - 128 ∧ B2 = c.toInt % 64 - 128) ∨ (65536 ≤ c.toInt ∧ B0 = c.toInt / 262144 - 16 ∧ B1 = c.toInt / 4096 % 64 - 128 ∧ B2 = c.toInt / 64 % 64 - 128 ∧ B3 = c.toInt % 64 - 128)) →
      (own_Al x c.toInt → own_S x B0 B1 B2 B3 = c.toInt) ∧ (¬ own_Al x c.toInt → own_S x B0 B1 B2 B3 = -1) := by
    intro B0 B1 B2 B3 h
    rcases h with ⟨a1, a2, a3⟩ | ⟨a1, a2, a3, a4, a5⟩ | ⟨a1, a2, a3, a4, a5⟩
    · have e : (B0 % 32) * 64 + B1 % 64 = c.toInt := by omega
      unfold own_S
      rw [if_pos (by omega), e]
      refine ⟨fun ⟨q1, q2, q3, q4, q5, q6⟩ => if_neg (fun y => ?_), fun q => if_pos ?_⟩
      · rcases q6 with q6 | q6
        · exact y.1 q6
        · omega
      · refine ⟨fun z => q ⟨by omega, by omega, by omega, by omega, by omega, Or.inl z⟩, ?_⟩
        by_cases z : c.toInt < 160
        · exact z
        · exact absurd ⟨by omega, by omega, by omega, by omega, by omega, Or.inr (by omega)⟩ q
    · have e : own_C3 B0 B1 B2 = c.toInt := by show (B0 % 16) * 4096 + (B1 % 64) * 64 + B2 % 64 = _; omega
      unfold own_S
      rw [if_neg (by omega)]
      unfold own_S3
      rw [if_pos (by omega), e]
      refine ⟨fun ⟨q1, q2, q3, q4, q5, q6⟩ => if_neg (fun y => ?_), fun q => if_pos ?_⟩
      · rcases y with y | y | y | y
        · omega
        · exact q3 y
        · omega
        · rcases q6 with q6 | q6
          · exact y.1 q6
          · exact q6.2 y.2
      · by_cases z1 : 55296 ≤ c.toInt ∧ c.toInt ≤ 57343
        · exact Or.inr (Or.inl z1)
        · by_cases z2 : 65534 ≤ c.toInt
          · exact Or.inr (Or.inr (Or.inl z2))
          · refine Or.inr (Or.inr (Or.inr ⟨fun z => q ⟨by omega, by omega, z1, by omega, by omega, Or.inl z⟩, ?_⟩))
            by_cases z3 : c.toInt = 8232
            · exact z3
            · exact absurd ⟨by omega, by omega, z1, by omega, by omega, Or.inr ⟨by omega, z3⟩⟩ q
    · have e : (B0 % 8) * 262144 + (B1 % 64) * 4096 + (B2 % 64) * 64 + B3 % 64 = c.toInt := by omega
      unfold own_S
      rw [if_neg (by omega)]
      unfold own_S3
      rw [if_neg (by omega)]
      unfold own_S4
      rw [e, if_pos (by omega)]
      exact ⟨fun _ => rfl, fun q => absurd ⟨by omega, by omega, by omega, by omega, by omega, Or.inr (by omega)⟩ q⟩
  obtain ⟨hb, hp⟩ := own_putv o c g ho hc hg (fun B0 B1 B2 B3 => (own_Al x c.toInt → own_S x B0 B1 B2 B3 = c.toInt) ∧ (¬ own_Al x c.toInt → own_S x B0 B1 B2 B3 = -1))
    (fun q B2 B3 => key _ _ _ _ (Or.inl ⟨q, rfl, rfl⟩)) (fun q1 q2 B3 => key _ _ _ _ (Or.inr (Or.inl ⟨q1, q2, rfl, rfl, rfl⟩))) (fun q => key _ _ _ _ (Or.inr (Or.inr ⟨q, rfl, rfl, rfl, rfl⟩)))
  have k := own_q0 (own_put o c g) o x (hb _) (hb _) (hb _)
  refine ⟨fun q => ?_, fun q => ?_⟩
  · have na : ¬ own_Al x c.toInt := fun y => by rw [al.1 y] at q; exact absurd q (by decide)
    exact (own_eqi (by decide)).mpr (k.trans (hp.2 na))
  · have ya : own_Al x c.toInt := Classical.byContradiction fun y => q (al.2 y)
    exact Int32.toInt_inj.mp (k.trans (hp.1 ya))
theorem d1_0 : decode method_4_code 0 = .ok (.iload_n 2, 1) := by decide +kernel
theorem d1_1 : decode method_4_code 1 = .ok (.sipush 2048, 3) := by decide +kernel
theorem d1_4 : decode method_4_code 4 = .ok (.if_icmp .ge 32, 3) := by decide +kernel
theorem d1_7 : decode method_4_code 7 = .ok (.aload_n 0, 1) := by decide +kernel
theorem d1_8 : decode method_4_code 8 = .ok (.iload_n 1, 1) := by decide +kernel
theorem d1_9 : decode method_4_code 9 = .ok (.sipush 192, 3) := by decide +kernel
theorem d1_12 : decode method_4_code 12 = .ok (.iload_n 2, 1) := by decide +kernel
theorem d1_13 : decode method_4_code 13 = .ok (.bipush 6, 2) := by decide +kernel
theorem d1_15 : decode method_4_code 15 = .ok (.ishr, 1) := by decide +kernel
theorem d1_16 : decode method_4_code 16 = .ok (.ior, 1) := by decide +kernel
theorem d1_17 : decode method_4_code 17 = .ok (.i2b, 1) := by decide +kernel
theorem d1_18 : decode method_4_code 18 = .ok (.bastore, 1) := by decide +kernel
theorem d1_19 : decode method_4_code 19 = .ok (.aload_n 0, 1) := by decide +kernel
theorem d1_20 : decode method_4_code 20 = .ok (.iload_n 1, 1) := by decide +kernel
theorem d1_21 : decode method_4_code 21 = .ok (.iconst 1, 1) := by decide +kernel
theorem d1_22 : decode method_4_code 22 = .ok (.iadd, 1) := by decide +kernel
theorem d1_23 : decode method_4_code 23 = .ok (.sipush 128, 3) := by decide +kernel
theorem d1_26 : decode method_4_code 26 = .ok (.iload_n 2, 1) := by decide +kernel
theorem d1_27 : decode method_4_code 27 = .ok (.bipush 63, 2) := by decide +kernel
theorem d1_29 : decode method_4_code 29 = .ok (.iand, 1) := by decide +kernel
theorem d1_30 : decode method_4_code 30 = .ok (.ior, 1) := by decide +kernel
theorem d1_31 : decode method_4_code 31 = .ok (.i2b, 1) := by decide +kernel
theorem d1_32 : decode method_4_code 32 = .ok (.bastore, 1) := by decide +kernel
theorem d1_33 : decode method_4_code 33 = .ok (.goto 115, 3) := by decide +kernel
theorem d1_36 : decode method_4_code 36 = .ok (.iload_n 2, 1) := by decide +kernel
theorem d1_37 : decode method_4_code 37 = .ok (.ldc 12, 2) := by decide +kernel
theorem d1_39 : decode method_4_code 39 = .ok (.if_icmp .ge 49, 3) := by decide +kernel
theorem d1_42 : decode method_4_code 42 = .ok (.aload_n 0, 1) := by decide +kernel
theorem d1_43 : decode method_4_code 43 = .ok (.iload_n 1, 1) := by decide +kernel
theorem d1_44 : decode method_4_code 44 = .ok (.sipush 224, 3) := by decide +kernel
theorem d1_47 : decode method_4_code 47 = .ok (.iload_n 2, 1) := by decide +kernel
theorem d1_48 : decode method_4_code 48 = .ok (.bipush 12, 2) := by decide +kernel
theorem d1_50 : decode method_4_code 50 = .ok (.ishr, 1) := by decide +kernel
theorem d1_51 : decode method_4_code 51 = .ok (.ior, 1) := by decide +kernel
theorem d1_52 : decode method_4_code 52 = .ok (.i2b, 1) := by decide +kernel
theorem d1_53 : decode method_4_code 53 = .ok (.bastore, 1) := by decide +kernel
theorem d1_54 : decode method_4_code 54 = .ok (.aload_n 0, 1) := by decide +kernel
theorem d1_55 : decode method_4_code 55 = .ok (.iload_n 1, 1) := by decide +kernel
theorem d1_56 : decode method_4_code 56 = .ok (.iconst 1, 1) := by decide +kernel
theorem d1_57 : decode method_4_code 57 = .ok (.iadd, 1) := by decide +kernel
theorem d1_58 : decode method_4_code 58 = .ok (.sipush 128, 3) := by decide +kernel
theorem d1_61 : decode method_4_code 61 = .ok (.iload_n 2, 1) := by decide +kernel
theorem d1_62 : decode method_4_code 62 = .ok (.bipush 6, 2) := by decide +kernel
theorem d1_64 : decode method_4_code 64 = .ok (.ishr, 1) := by decide +kernel
theorem d1_65 : decode method_4_code 65 = .ok (.bipush 63, 2) := by decide +kernel
theorem d1_67 : decode method_4_code 67 = .ok (.iand, 1) := by decide +kernel
theorem d1_68 : decode method_4_code 68 = .ok (.ior, 1) := by decide +kernel
theorem d1_69 : decode method_4_code 69 = .ok (.i2b, 1) := by decide +kernel
theorem d1_70 : decode method_4_code 70 = .ok (.bastore, 1) := by decide +kernel
theorem d1_71 : decode method_4_code 71 = .ok (.aload_n 0, 1) := by decide +kernel
theorem d1_72 : decode method_4_code 72 = .ok (.iload_n 1, 1) := by decide +kernel
theorem d1_73 : decode method_4_code 73 = .ok (.iconst 2, 1) := by decide +kernel
theorem d1_74 : decode method_4_code 74 = .ok (.iadd, 1) := by decide +kernel
theorem d1_75 : decode method_4_code 75 = .ok (.sipush 128, 3) := by decide +kernel
theorem d1_78 : decode method_4_code 78 = .ok (.iload_n 2, 1) := by decide +kernel
theorem d1_79 : decode method_4_code 79 = .ok (.bipush 63, 2) := by decide +kernel
theorem d1_81 : decode method_4_code 81 = .ok (.iand, 1) := by decide +kernel
theorem d1_82 : decode method_4_code 82 = .ok (.ior, 1) := by decide +kernel
theorem d1_83 : decode method_4_code 83 = .ok (.i2b, 1) := by decide +kernel
theorem d1_84 : decode method_4_code 84 = .ok (.bastore, 1) := by decide +kernel
theorem d1_85 : decode method_4_code 85 = .ok (.goto 63, 3) := by decide +kernel
theorem d1_88 : decode method_4_code 88 = .ok (.aload_n 0, 1) := by decide +kernel
theorem d1_89 : decode method_4_code 89 = .ok (.iload_n 1, 1) := by decide +kernel
theorem d1_90 : decode method_4_code 90 = .ok (.sipush 240, 3) := by decide +kernel
theorem d1_93 : decode method_4_code 93 = .ok (.iload_n 2, 1) := by decide +kernel
theorem d1_94 : decode method_4_code 94 = .ok (.bipush 18, 2) := by decide +kernel
theorem d1_96 : decode method_4_code 96 = .ok (.ishr, 1) := by decide +kernel
theorem d1_97 : decode method_4_code 97 = .ok (.ior, 1) := by decide +kernel
theorem d1_98 : decode method_4_code 98 = .ok (.i2b, 1) := by decide +kernel
theorem d1_99 : decode method_4_code 99 = .ok (.bastore, 1) := by decide +kernel
theorem d1_100 : decode method_4_code 100 = .ok (.aload_n 0, 1) := by decide +kernel
theorem d1_101 : decode method_4_code 101 = .ok (.iload_n 1, 1) := by decide +kernel
theorem d1_102 : decode method_4_code 102 = .ok (.iconst 1, 1) := by decide +kernel
theorem d1_103 : decode method_4_code 103 = .ok (.iadd, 1) := by decide +kernel
theorem d1_104 : decode method_4_code 104 = .ok (.sipush 128, 3) := by decide +kernel
theorem d1_107 : decode method_4_code 107 = .ok (.iload_n 2, 1) := by decide +kernel
theorem d1_108 : decode method_4_code 108 = .ok (.bipush 12, 2) := by decide +kernel
theorem d1_110 : decode method_4_code 110 = .ok (.ishr, 1) := by decide +kernel
theorem d1_111 : decode method_4_code 111 = .ok (.bipush 63, 2) := by decide +kernel
theorem d1_113 : decode method_4_code 113 = .ok (.iand, 1) := by decide +kernel
theorem d1_114 : decode method_4_code 114 = .ok (.ior, 1) := by decide +kernel
theorem d1_115 : decode method_4_code 115 = .ok (.i2b, 1) := by decide +kernel
theorem d1_116 : decode method_4_code 116 = .ok (.bastore, 1) := by decide +kernel
theorem d1_117 : decode method_4_code 117 = .ok (.aload_n 0, 1) := by decide +kernel
theorem d1_118 : decode method_4_code 118 = .ok (.iload_n 1, 1) := by decide +kernel
theorem d1_119 : decode method_4_code 119 = .ok (.iconst 2, 1) := by decide +kernel
theorem d1_120 : decode method_4_code 120 = .ok (.iadd, 1) := by decide +kernel
theorem d1_121 : decode method_4_code 121 = .ok (.sipush 128, 3) := by decide +kernel
theorem d1_124 : decode method_4_code 124 = .ok (.iload_n 2, 1) := by decide +kernel
theorem d1_125 : decode method_4_code 125 = .ok (.bipush 6, 2) := by decide +kernel
theorem d1_127 : decode method_4_code 127 = .ok (.ishr, 1) := by decide +kernel
theorem d1_128 : decode method_4_code 128 = .ok (.bipush 63, 2) := by decide +kernel
theorem d1_130 : decode method_4_code 130 = .ok (.iand, 1) := by decide +kernel
theorem d1_131 : decode method_4_code 131 = .ok (.ior, 1) := by decide +kernel
theorem d1_132 : decode method_4_code 132 = .ok (.i2b, 1) := by decide +kernel
theorem d1_133 : decode method_4_code 133 = .ok (.bastore, 1) := by decide +kernel
theorem d1_134 : decode method_4_code 134 = .ok (.aload_n 0, 1) := by decide +kernel
theorem d1_135 : decode method_4_code 135 = .ok (.iload_n 1, 1) := by decide +kernel
theorem d1_136 : decode method_4_code 136 = .ok (.iconst 3, 1) := by decide +kernel
theorem d1_137 : decode method_4_code 137 = .ok (.iadd, 1) := by decide +kernel
theorem d1_138 : decode method_4_code 138 = .ok (.sipush 128, 3) := by decide +kernel
theorem d1_141 : decode method_4_code 141 = .ok (.iload_n 2, 1) := by decide +kernel
theorem d1_142 : decode method_4_code 142 = .ok (.bipush 63, 2) := by decide +kernel
theorem d1_144 : decode method_4_code 144 = .ok (.iand, 1) := by decide +kernel
theorem d1_145 : decode method_4_code 145 = .ok (.ior, 1) := by decide +kernel
theorem d1_146 : decode method_4_code 146 = .ok (.i2b, 1) := by decide +kernel
theorem d1_147 : decode method_4_code 147 = .ok (.bastore, 1) := by decide +kernel
theorem d1_148 : decode method_4_code 148 = .ok (.return_, 1) := by decide +kernel
set_option maxRecDepth 65536 in
set_option maxHeartbeats 40000000 in
theorem b1_0 {p : Program} {l : Launch} {e : Env} {s : State} {m : MethodId} {args : Array Value} {below : List Frame} {meth : Method} {c : Code} {T : State} {locs : List Loc} {cells slots : Nat} {Z : State} {a0 : Array Value} {h : Heap} {n0 : Nat} {Q : Option Value → Heap → List Loc → Prop} (o0 : Addr) (g0 : Nat → Int32) (z0 : Nat) (i1 : Int32) (i2 : Int32) (hw : ∀ d ∈ tables_1, d.before a0 Z = true) (X : Stand p l e ({ frames := 0, cells := 0, slots := 0, locals := 0 } : Room) s m args below meth c T locs cells slots) (hx : p.tables.exec = Jvm.exec) (hZ : Z.Warmed39 s.vm) (hby : c.code = method_4_code) (hml : c.maxLocals = 3) (hown : s.vm.findClass "com/example/zoria/zoria/xml/XmlInputStandingCharacterPinLaw" = some m.cls) (hret : meth.sig.returnType = none) (hlk : meth.locks = false) (eT : T.heap = h) (N : Fr n0 locs) (hc : cells ≤ 0) (hs : slots ≤ 0) (A0 : own_AF Z h o0 .byte z0 g0) (Z0 : n0 ≤ h.size) (fr0 : n0 ≤ o0) (hb0 : own_In z0 i1) (hb1 : own_In z0 (i1 + (1 : Int32))) (hb2 : own_In z0 (i1 + (2 : Int32))) (hb3 : own_In z0 (i1 + (3 : Int32))) (hQ : ∀ H' L', Fr n0 L' → Keep h H' [o0] → own_AF Z H' o0 .byte z0 (own_put i1 i2 g0) → Q none H' L') :
    own_Fin p e below s Q 0 0 (T.setTop (mkF m 0 #[.val (.ref o0), .val (.int i1), .val (.int i2)] [])) := by
  refine own_step (fun t k => XS.iloadN X.here hx rfl (hb hby d1_0) rfl  k) ?_
  show own_Fin p e below s Q 0 0 (T.setTop (mkF m 1 #[.val (.ref o0), .val (.int i1), .val (.int i2)] [(.int i2)]))
  refine own_step (fun t k => XS.sipush X.here hx rfl (hb hby d1_1) k) ?_
  show own_Fin p e below s Q 0 0 (T.setTop (mkF m 4 #[.val (.ref o0), .val (.int i1), .val (.int i2)] [(.int (2048 : Int32)), (.int i2)]))
  by_cases hB4_133 : i2 < (2048 : Int32)
  · refine own_step (fun t k => XS.icmpNo X.here hx rfl (hb hby d1_4) rfl (tlt hB4_133).2.1 k) ?_
    show own_Fin p e below s Q 0 0 (T.setTop (mkF m 7 #[.val (.ref o0), .val (.int i1), .val (.int i2)] []))
    refine own_step (fun t k => XS.aloadN X.here hx rfl (hb hby d1_7) rfl rfl k) ?_
    show own_Fin p e below s Q 0 0 (T.setTop (mkF m 8 #[.val (.ref o0), .val (.int i1), .val (.int i2)] [(.ref o0)]))
    refine own_step (fun t k => XS.iloadN X.here hx rfl (hb hby d1_8) rfl  k) ?_
    show own_Fin p e below s Q 0 0 (T.setTop (mkF m 9 #[.val (.ref o0), .val (.int i1), .val (.int i2)] [(.int i1), (.ref o0)]))
    refine own_step (fun t k => XS.sipush X.here hx rfl (hb hby d1_9) k) ?_
    show own_Fin p e below s Q 0 0 (T.setTop (mkF m 12 #[.val (.ref o0), .val (.int i1), .val (.int i2)] [(.int (192 : Int32)), (.int i1), (.ref o0)]))
    refine own_step (fun t k => XS.iloadN X.here hx rfl (hb hby d1_12) rfl  k) ?_
    show own_Fin p e below s Q 0 0 (T.setTop (mkF m 13 #[.val (.ref o0), .val (.int i1), .val (.int i2)] [(.int i2), (.int (192 : Int32)), (.int i1), (.ref o0)]))
    refine own_step (fun t k => XS.bipush X.here hx rfl (hb hby d1_13) k) ?_
    show own_Fin p e below s Q 0 0 (T.setTop (mkF m 15 #[.val (.ref o0), .val (.int i1), .val (.int i2)] [(.int (6 : Int32)), (.int i2), (.int (192 : Int32)), (.int i1), (.ref o0)]))
    refine own_step (fun t k => XS.ishr X.here hx rfl (hb hby d1_15) rfl k) ?_
    show own_Fin p e below s Q 0 0 (T.setTop (mkF m 16 #[.val (.ref o0), .val (.int i1), .val (.int i2)] [(.int (i2 >>> ((6 : Int32) &&& 31))), (.int (192 : Int32)), (.int i1), (.ref o0)]))
    refine own_step (fun t k => XS.ior X.here hx rfl (hb hby d1_16) rfl k) ?_
    show own_Fin p e below s Q 0 0 (T.setTop (mkF m 17 #[.val (.ref o0), .val (.int i1), .val (.int i2)] [(.int ((192 : Int32) ||| (i2 >>> ((6 : Int32) &&& 31)))), (.int i1), (.ref o0)]))
    refine own_step (fun t k => XS.i2b X.here hx rfl (hb hby d1_17) rfl k) ?_
    show own_Fin p e below s Q 0 0 (T.setTop (mkF m 18 #[.val (.ref o0), .val (.int i1), .val (.int i2)] [(.int (((192 : Int32) ||| (i2 >>> ((6 : Int32) &&& 31))).toInt8.toInt32)), (.int i1), (.ref o0)]))
    obtain ⟨ca134, Ar134, Sz134, Ht134⟩ := id A0
    have hin134 : ¬ (i1 < 0 ∨ ca134.slots.size ≤ (i1).toNatClampNeg) := by rw [Sz134]; exact hb0
    obtain ⟨T134, h134, X134, e134, W134, st134⟩ := stB X hx hZ eT Ar134 (j := i1) hin134 (g := (mkF m 18 #[.val (.ref o0), .val (.int i1), .val (.int i2)] [(.int (((192 : Int32) ||| (i2 >>> ((6 : Int32) &&& 31))).toInt8.toInt32)), (.int i1), (.ref o0)])) rfl rfl (hb hby d1_18)
    have V134 : own_AF Z h134 o0 .byte z0 (fun i => if i = (i1).toNatClampNeg then (nar .byte (((192 : Int32) ||| (i2 >>> ((6 : Int32) &&& 31))).toInt8.toInt32)) else g0 i) := own_AFset Ar134 Sz134 Ht134 W134
    obtain ⟨gf134, hgf134⟩ : ∃ g' : Nat → Int32, g' = (fun i => if i = (i1).toNatClampNeg then (nar .byte (((192 : Int32) ||| (i2 >>> ((6 : Int32) &&& 31))).toInt8.toInt32)) else g0 i) := ⟨_, rfl⟩
    rw [← hgf134] at V134
    have N134 := Fr.snoc X134 N fr0
    have Z0134 : n0 ≤ h134.size := Nat.le_trans Z0 (Nat.le_of_eq W134.size.symm)
    refine own_step st134 ?_
    show own_Fin p e below s Q 0 0 (T134.setTop (mkF m 19 #[.val (.ref o0), .val (.int i1), .val (.int i2)] []))
    refine own_step (fun t k => XS.aloadN X134.here hx rfl (hb hby d1_19) rfl rfl k) ?_
    show own_Fin p e below s Q 0 0 (T134.setTop (mkF m 20 #[.val (.ref o0), .val (.int i1), .val (.int i2)] [(.ref o0)]))
    refine own_step (fun t k => XS.iloadN X134.here hx rfl (hb hby d1_20) rfl  k) ?_
    show own_Fin p e below s Q 0 0 (T134.setTop (mkF m 21 #[.val (.ref o0), .val (.int i1), .val (.int i2)] [(.int i1), (.ref o0)]))
    refine own_step (fun t k => XS.iconst X134.here hx rfl (hb hby d1_21) k) ?_
    show own_Fin p e below s Q 0 0 (T134.setTop (mkF m 22 #[.val (.ref o0), .val (.int i1), .val (.int i2)] [(.int (1 : Int32)), (.int i1), (.ref o0)]))
    refine own_step (fun t k => XS.iadd X134.here hx rfl (hb hby d1_22) rfl k) ?_
    show own_Fin p e below s Q 0 0 (T134.setTop (mkF m 23 #[.val (.ref o0), .val (.int i1), .val (.int i2)] [(.int (i1 + (1 : Int32))), (.ref o0)]))
    refine own_step (fun t k => XS.sipush X134.here hx rfl (hb hby d1_23) k) ?_
    show own_Fin p e below s Q 0 0 (T134.setTop (mkF m 26 #[.val (.ref o0), .val (.int i1), .val (.int i2)] [(.int (128 : Int32)), (.int (i1 + (1 : Int32))), (.ref o0)]))
    refine own_step (fun t k => XS.iloadN X134.here hx rfl (hb hby d1_26) rfl  k) ?_
    show own_Fin p e below s Q 0 0 (T134.setTop (mkF m 27 #[.val (.ref o0), .val (.int i1), .val (.int i2)] [(.int i2), (.int (128 : Int32)), (.int (i1 + (1 : Int32))), (.ref o0)]))
    refine own_step (fun t k => XS.bipush X134.here hx rfl (hb hby d1_27) k) ?_
    show own_Fin p e below s Q 0 0 (T134.setTop (mkF m 29 #[.val (.ref o0), .val (.int i1), .val (.int i2)] [(.int (63 : Int32)), (.int i2), (.int (128 : Int32)), (.int (i1 + (1 : Int32))), (.ref o0)]))
    refine own_step (fun t k => XS.iand X134.here hx rfl (hb hby d1_29) rfl k) ?_
    show own_Fin p e below s Q 0 0 (T134.setTop (mkF m 30 #[.val (.ref o0), .val (.int i1), .val (.int i2)] [(.int (i2 &&& (63 : Int32))), (.int (128 : Int32)), (.int (i1 + (1 : Int32))), (.ref o0)]))
    refine own_step (fun t k => XS.ior X134.here hx rfl (hb hby d1_30) rfl k) ?_
    show own_Fin p e below s Q 0 0 (T134.setTop (mkF m 31 #[.val (.ref o0), .val (.int i1), .val (.int i2)] [(.int ((128 : Int32) ||| (i2 &&& (63 : Int32)))), (.int (i1 + (1 : Int32))), (.ref o0)]))
    refine own_step (fun t k => XS.i2b X134.here hx rfl (hb hby d1_31) rfl k) ?_
    show own_Fin p e below s Q 0 0 (T134.setTop (mkF m 32 #[.val (.ref o0), .val (.int i1), .val (.int i2)] [(.int (((128 : Int32) ||| (i2 &&& (63 : Int32))).toInt8.toInt32)), (.int (i1 + (1 : Int32))), (.ref o0)]))
    obtain ⟨ca135, Ar135, Sz135, Ht135⟩ := id V134
    have hin135 : ¬ ((i1 + (1 : Int32)) < 0 ∨ ca135.slots.size ≤ ((i1 + (1 : Int32))).toNatClampNeg) := by rw [Sz135]; exact hb1
    obtain ⟨T135, h135, X135, e135, W135, st135⟩ := stB X134 hx hZ e134 Ar135 (j := (i1 + (1 : Int32))) hin135 (g := (mkF m 32 #[.val (.ref o0), .val (.int i1), .val (.int i2)] [(.int (((128 : Int32) ||| (i2 &&& (63 : Int32))).toInt8.toInt32)), (.int (i1 + (1 : Int32))), (.ref o0)])) rfl rfl (hb hby d1_32)
    have V135 : own_AF Z h135 o0 .byte z0 (fun i => if i = ((i1 + (1 : Int32))).toNatClampNeg then (nar .byte (((128 : Int32) ||| (i2 &&& (63 : Int32))).toInt8.toInt32)) else gf134 i) := own_AFset Ar135 Sz135 Ht135 W135
    obtain ⟨gf135, hgf135⟩ : ∃ g' : Nat → Int32, g' = (fun i => if i = ((i1 + (1 : Int32))).toNatClampNeg then (nar .byte (((128 : Int32) ||| (i2 &&& (63 : Int32))).toInt8.toInt32)) else gf134 i) := ⟨_, rfl⟩
    rw [← hgf135] at V135
    have N135 := Fr.snoc X135 N134 fr0
    have Z0135 : n0 ≤ h135.size := Nat.le_trans Z0134 (Nat.le_of_eq W135.size.symm)
    refine own_step st135 ?_
    show own_Fin p e below s Q 0 0 (T135.setTop (mkF m 33 #[.val (.ref o0), .val (.int i1), .val (.int i2)] []))
    refine own_step (fun t k => XS.goto X135.here hx rfl (pc0 := 33) (pc' := 148) rfl (hb hby d1_33) (by decide) (by decide) k) ?_
    show own_Fin p e below s Q 0 0 (T135.setTop (mkF m 148 #[.val (.ref o0), .val (.int i1), .val (.int i2)] []))
    refine own_ret0 X135 hx hlk hret (hb hby d1_148) (Nat.le_trans (Nat.add_le_add_right hc 0) (by decide)) (Nat.le_trans (Nat.add_le_add_right hs 0) (by decide)) e135 ?_
    have eg : own_put i1 i2 g0 = gf135 := by rw [hgf135, hgf134]; exact if_pos hB4_133
    exact hQ _ _ N135 (((Keep.refl h [o0]).wr W134 (Or.inl (List.mem_singleton.mpr rfl))).wr W135 (Or.inl (List.mem_singleton.mpr rfl))) (by rw [eg]; exact V135)
  · refine own_step (fun t k => XS.icmpYes X.here hx rfl (pc0 := 4) (pc' := 36) rfl (hb hby d1_4) rfl (flt hB4_133).2.1 (by decide) (by decide) k) ?_
    show own_Fin p e below s Q 0 0 (T.setTop (mkF m 36 #[.val (.ref o0), .val (.int i1), .val (.int i2)] []))
    refine own_step (fun t k => XS.iloadN X.here hx rfl (hb hby d1_36) rfl  k) ?_
    show own_Fin p e below s Q 0 0 (T.setTop (mkF m 37 #[.val (.ref o0), .val (.int i1), .val (.int i2)] [(.int i2)]))
    refine own_step (X.ldcInt hx hown (mvT hZ (hw _ (List.mem_of_getElem? (i := 18) rfl))) (g := (mkF m 37 #[.val (.ref o0), .val (.int i1), .val (.int i2)] [(.int i2)])) rfl (hb hby d1_37)) ?_
    show own_Fin p e below s Q 0 0 (T.setTop (mkF m 39 #[.val (.ref o0), .val (.int i1), .val (.int i2)] [(.int (65536 : Int32)), (.int i2)]))
    by_cases hB39_136 : i2 < (65536 : Int32)
    · refine own_step (fun t k => XS.icmpNo X.here hx rfl (hb hby d1_39) rfl (tlt hB39_136).2.1 k) ?_
      show own_Fin p e below s Q 0 0 (T.setTop (mkF m 42 #[.val (.ref o0), .val (.int i1), .val (.int i2)] []))
      refine own_step (fun t k => XS.aloadN X.here hx rfl (hb hby d1_42) rfl rfl k) ?_
      show own_Fin p e below s Q 0 0 (T.setTop (mkF m 43 #[.val (.ref o0), .val (.int i1), .val (.int i2)] [(.ref o0)]))
      refine own_step (fun t k => XS.iloadN X.here hx rfl (hb hby d1_43) rfl  k) ?_
      show own_Fin p e below s Q 0 0 (T.setTop (mkF m 44 #[.val (.ref o0), .val (.int i1), .val (.int i2)] [(.int i1), (.ref o0)]))
      refine own_step (fun t k => XS.sipush X.here hx rfl (hb hby d1_44) k) ?_
      show own_Fin p e below s Q 0 0 (T.setTop (mkF m 47 #[.val (.ref o0), .val (.int i1), .val (.int i2)] [(.int (224 : Int32)), (.int i1), (.ref o0)]))
      refine own_step (fun t k => XS.iloadN X.here hx rfl (hb hby d1_47) rfl  k) ?_
      show own_Fin p e below s Q 0 0 (T.setTop (mkF m 48 #[.val (.ref o0), .val (.int i1), .val (.int i2)] [(.int i2), (.int (224 : Int32)), (.int i1), (.ref o0)]))
      refine own_step (fun t k => XS.bipush X.here hx rfl (hb hby d1_48) k) ?_
      show own_Fin p e below s Q 0 0 (T.setTop (mkF m 50 #[.val (.ref o0), .val (.int i1), .val (.int i2)] [(.int (12 : Int32)), (.int i2), (.int (224 : Int32)), (.int i1), (.ref o0)]))
      refine own_step (fun t k => XS.ishr X.here hx rfl (hb hby d1_50) rfl k) ?_
      show own_Fin p e below s Q 0 0 (T.setTop (mkF m 51 #[.val (.ref o0), .val (.int i1), .val (.int i2)] [(.int (i2 >>> ((12 : Int32) &&& 31))), (.int (224 : Int32)), (.int i1), (.ref o0)]))
      refine own_step (fun t k => XS.ior X.here hx rfl (hb hby d1_51) rfl k) ?_
      show own_Fin p e below s Q 0 0 (T.setTop (mkF m 52 #[.val (.ref o0), .val (.int i1), .val (.int i2)] [(.int ((224 : Int32) ||| (i2 >>> ((12 : Int32) &&& 31)))), (.int i1), (.ref o0)]))
      refine own_step (fun t k => XS.i2b X.here hx rfl (hb hby d1_52) rfl k) ?_
      show own_Fin p e below s Q 0 0 (T.setTop (mkF m 53 #[.val (.ref o0), .val (.int i1), .val (.int i2)] [(.int (((224 : Int32) ||| (i2 >>> ((12 : Int32) &&& 31))).toInt8.toInt32)), (.int i1), (.ref o0)]))
      obtain ⟨ca137, Ar137, Sz137, Ht137⟩ := id A0
      have hin137 : ¬ (i1 < 0 ∨ ca137.slots.size ≤ (i1).toNatClampNeg) := by rw [Sz137]; exact hb0
      obtain ⟨T137, h137, X137, e137, W137, st137⟩ := stB X hx hZ eT Ar137 (j := i1) hin137 (g := (mkF m 53 #[.val (.ref o0), .val (.int i1), .val (.int i2)] [(.int (((224 : Int32) ||| (i2 >>> ((12 : Int32) &&& 31))).toInt8.toInt32)), (.int i1), (.ref o0)])) rfl rfl (hb hby d1_53)
      have V137 : own_AF Z h137 o0 .byte z0 (fun i => if i = (i1).toNatClampNeg then (nar .byte (((224 : Int32) ||| (i2 >>> ((12 : Int32) &&& 31))).toInt8.toInt32)) else g0 i) := own_AFset Ar137 Sz137 Ht137 W137
      obtain ⟨gf137, hgf137⟩ : ∃ g' : Nat → Int32, g' = (fun i => if i = (i1).toNatClampNeg then (nar .byte (((224 : Int32) ||| (i2 >>> ((12 : Int32) &&& 31))).toInt8.toInt32)) else g0 i) := ⟨_, rfl⟩
      rw [← hgf137] at V137
      have N137 := Fr.snoc X137 N fr0
      have Z0137 : n0 ≤ h137.size := Nat.le_trans Z0 (Nat.le_of_eq W137.size.symm)
      refine own_step st137 ?_
      show own_Fin p e below s Q 0 0 (T137.setTop (mkF m 54 #[.val (.ref o0), .val (.int i1), .val (.int i2)] []))
      refine own_step (fun t k => XS.aloadN X137.here hx rfl (hb hby d1_54) rfl rfl k) ?_
      show own_Fin p e below s Q 0 0 (T137.setTop (mkF m 55 #[.val (.ref o0), .val (.int i1), .val (.int i2)] [(.ref o0)]))
      refine own_step (fun t k => XS.iloadN X137.here hx rfl (hb hby d1_55) rfl  k) ?_
      show own_Fin p e below s Q 0 0 (T137.setTop (mkF m 56 #[.val (.ref o0), .val (.int i1), .val (.int i2)] [(.int i1), (.ref o0)]))
      refine own_step (fun t k => XS.iconst X137.here hx rfl (hb hby d1_56) k) ?_
      show own_Fin p e below s Q 0 0 (T137.setTop (mkF m 57 #[.val (.ref o0), .val (.int i1), .val (.int i2)] [(.int (1 : Int32)), (.int i1), (.ref o0)]))
      refine own_step (fun t k => XS.iadd X137.here hx rfl (hb hby d1_57) rfl k) ?_
      show own_Fin p e below s Q 0 0 (T137.setTop (mkF m 58 #[.val (.ref o0), .val (.int i1), .val (.int i2)] [(.int (i1 + (1 : Int32))), (.ref o0)]))
      refine own_step (fun t k => XS.sipush X137.here hx rfl (hb hby d1_58) k) ?_
      show own_Fin p e below s Q 0 0 (T137.setTop (mkF m 61 #[.val (.ref o0), .val (.int i1), .val (.int i2)] [(.int (128 : Int32)), (.int (i1 + (1 : Int32))), (.ref o0)]))
      refine own_step (fun t k => XS.iloadN X137.here hx rfl (hb hby d1_61) rfl  k) ?_
      show own_Fin p e below s Q 0 0 (T137.setTop (mkF m 62 #[.val (.ref o0), .val (.int i1), .val (.int i2)] [(.int i2), (.int (128 : Int32)), (.int (i1 + (1 : Int32))), (.ref o0)]))
      refine own_step (fun t k => XS.bipush X137.here hx rfl (hb hby d1_62) k) ?_
      show own_Fin p e below s Q 0 0 (T137.setTop (mkF m 64 #[.val (.ref o0), .val (.int i1), .val (.int i2)] [(.int (6 : Int32)), (.int i2), (.int (128 : Int32)), (.int (i1 + (1 : Int32))), (.ref o0)]))
      refine own_step (fun t k => XS.ishr X137.here hx rfl (hb hby d1_64) rfl k) ?_
      show own_Fin p e below s Q 0 0 (T137.setTop (mkF m 65 #[.val (.ref o0), .val (.int i1), .val (.int i2)] [(.int (i2 >>> ((6 : Int32) &&& 31))), (.int (128 : Int32)), (.int (i1 + (1 : Int32))), (.ref o0)]))
      refine own_step (fun t k => XS.bipush X137.here hx rfl (hb hby d1_65) k) ?_
      show own_Fin p e below s Q 0 0 (T137.setTop (mkF m 67 #[.val (.ref o0), .val (.int i1), .val (.int i2)] [(.int (63 : Int32)), (.int (i2 >>> ((6 : Int32) &&& 31))), (.int (128 : Int32)), (.int (i1 + (1 : Int32))), (.ref o0)]))
      refine own_step (fun t k => XS.iand X137.here hx rfl (hb hby d1_67) rfl k) ?_
      show own_Fin p e below s Q 0 0 (T137.setTop (mkF m 68 #[.val (.ref o0), .val (.int i1), .val (.int i2)] [(.int ((i2 >>> ((6 : Int32) &&& 31)) &&& (63 : Int32))), (.int (128 : Int32)), (.int (i1 + (1 : Int32))), (.ref o0)]))
      refine own_step (fun t k => XS.ior X137.here hx rfl (hb hby d1_68) rfl k) ?_
      show own_Fin p e below s Q 0 0 (T137.setTop (mkF m 69 #[.val (.ref o0), .val (.int i1), .val (.int i2)] [(.int ((128 : Int32) ||| ((i2 >>> ((6 : Int32) &&& 31)) &&& (63 : Int32)))), (.int (i1 + (1 : Int32))), (.ref o0)]))
      refine own_step (fun t k => XS.i2b X137.here hx rfl (hb hby d1_69) rfl k) ?_
      show own_Fin p e below s Q 0 0 (T137.setTop (mkF m 70 #[.val (.ref o0), .val (.int i1), .val (.int i2)] [(.int (((128 : Int32) ||| ((i2 >>> ((6 : Int32) &&& 31)) &&& (63 : Int32))).toInt8.toInt32)), (.int (i1 + (1 : Int32))), (.ref o0)]))
      obtain ⟨ca138, Ar138, Sz138, Ht138⟩ := id V137
      have hin138 : ¬ ((i1 + (1 : Int32)) < 0 ∨ ca138.slots.size ≤ ((i1 + (1 : Int32))).toNatClampNeg) := by rw [Sz138]; exact hb1
      obtain ⟨T138, h138, X138, e138, W138, st138⟩ := stB X137 hx hZ e137 Ar138 (j := (i1 + (1 : Int32))) hin138 (g := (mkF m 70 #[.val (.ref o0), .val (.int i1), .val (.int i2)] [(.int (((128 : Int32) ||| ((i2 >>> ((6 : Int32) &&& 31)) &&& (63 : Int32))).toInt8.toInt32)), (.int (i1 + (1 : Int32))), (.ref o0)])) rfl rfl (hb hby d1_70)
      have V138 : own_AF Z h138 o0 .byte z0 (fun i => if i = ((i1 + (1 : Int32))).toNatClampNeg then (nar .byte (((128 : Int32) ||| ((i2 >>> ((6 : Int32) &&& 31)) &&& (63 : Int32))).toInt8.toInt32)) else gf137 i) := own_AFset Ar138 Sz138 Ht138 W138
      obtain ⟨gf138, hgf138⟩ : ∃ g' : Nat → Int32, g' = (fun i => if i = ((i1 + (1 : Int32))).toNatClampNeg then (nar .byte (((128 : Int32) ||| ((i2 >>> ((6 : Int32) &&& 31)) &&& (63 : Int32))).toInt8.toInt32)) else gf137 i) := ⟨_, rfl⟩
      rw [← hgf138] at V138
      have N138 := Fr.snoc X138 N137 fr0
      have Z0138 : n0 ≤ h138.size := Nat.le_trans Z0137 (Nat.le_of_eq W138.size.symm)
      refine own_step st138 ?_
      show own_Fin p e below s Q 0 0 (T138.setTop (mkF m 71 #[.val (.ref o0), .val (.int i1), .val (.int i2)] []))
      refine own_step (fun t k => XS.aloadN X138.here hx rfl (hb hby d1_71) rfl rfl k) ?_
      show own_Fin p e below s Q 0 0 (T138.setTop (mkF m 72 #[.val (.ref o0), .val (.int i1), .val (.int i2)] [(.ref o0)]))
      refine own_step (fun t k => XS.iloadN X138.here hx rfl (hb hby d1_72) rfl  k) ?_
      show own_Fin p e below s Q 0 0 (T138.setTop (mkF m 73 #[.val (.ref o0), .val (.int i1), .val (.int i2)] [(.int i1), (.ref o0)]))
      refine own_step (fun t k => XS.iconst X138.here hx rfl (hb hby d1_73) k) ?_
      show own_Fin p e below s Q 0 0 (T138.setTop (mkF m 74 #[.val (.ref o0), .val (.int i1), .val (.int i2)] [(.int (2 : Int32)), (.int i1), (.ref o0)]))
      refine own_step (fun t k => XS.iadd X138.here hx rfl (hb hby d1_74) rfl k) ?_
      show own_Fin p e below s Q 0 0 (T138.setTop (mkF m 75 #[.val (.ref o0), .val (.int i1), .val (.int i2)] [(.int (i1 + (2 : Int32))), (.ref o0)]))
      refine own_step (fun t k => XS.sipush X138.here hx rfl (hb hby d1_75) k) ?_
      show own_Fin p e below s Q 0 0 (T138.setTop (mkF m 78 #[.val (.ref o0), .val (.int i1), .val (.int i2)] [(.int (128 : Int32)), (.int (i1 + (2 : Int32))), (.ref o0)]))
      refine own_step (fun t k => XS.iloadN X138.here hx rfl (hb hby d1_78) rfl  k) ?_
      show own_Fin p e below s Q 0 0 (T138.setTop (mkF m 79 #[.val (.ref o0), .val (.int i1), .val (.int i2)] [(.int i2), (.int (128 : Int32)), (.int (i1 + (2 : Int32))), (.ref o0)]))
      refine own_step (fun t k => XS.bipush X138.here hx rfl (hb hby d1_79) k) ?_
      show own_Fin p e below s Q 0 0 (T138.setTop (mkF m 81 #[.val (.ref o0), .val (.int i1), .val (.int i2)] [(.int (63 : Int32)), (.int i2), (.int (128 : Int32)), (.int (i1 + (2 : Int32))), (.ref o0)]))
      refine own_step (fun t k => XS.iand X138.here hx rfl (hb hby d1_81) rfl k) ?_
      show own_Fin p e below s Q 0 0 (T138.setTop (mkF m 82 #[.val (.ref o0), .val (.int i1), .val (.int i2)] [(.int (i2 &&& (63 : Int32))), (.int (128 : Int32)), (.int (i1 + (2 : Int32))), (.ref o0)]))
      refine own_step (fun t k => XS.ior X138.here hx rfl (hb hby d1_82) rfl k) ?_
      show own_Fin p e below s Q 0 0 (T138.setTop (mkF m 83 #[.val (.ref o0), .val (.int i1), .val (.int i2)] [(.int ((128 : Int32) ||| (i2 &&& (63 : Int32)))), (.int (i1 + (2 : Int32))), (.ref o0)]))
      refine own_step (fun t k => XS.i2b X138.here hx rfl (hb hby d1_83) rfl k) ?_
      show own_Fin p e below s Q 0 0 (T138.setTop (mkF m 84 #[.val (.ref o0), .val (.int i1), .val (.int i2)] [(.int (((128 : Int32) ||| (i2 &&& (63 : Int32))).toInt8.toInt32)), (.int (i1 + (2 : Int32))), (.ref o0)]))
      obtain ⟨ca139, Ar139, Sz139, Ht139⟩ := id V138
      have hin139 : ¬ ((i1 + (2 : Int32)) < 0 ∨ ca139.slots.size ≤ ((i1 + (2 : Int32))).toNatClampNeg) := by rw [Sz139]; exact hb2
      obtain ⟨T139, h139, X139, e139, W139, st139⟩ := stB X138 hx hZ e138 Ar139 (j := (i1 + (2 : Int32))) hin139 (g := (mkF m 84 #[.val (.ref o0), .val (.int i1), .val (.int i2)] [(.int (((128 : Int32) ||| (i2 &&& (63 : Int32))).toInt8.toInt32)), (.int (i1 + (2 : Int32))), (.ref o0)])) rfl rfl (hb hby d1_84)
      have V139 : own_AF Z h139 o0 .byte z0 (fun i => if i = ((i1 + (2 : Int32))).toNatClampNeg then (nar .byte (((128 : Int32) ||| (i2 &&& (63 : Int32))).toInt8.toInt32)) else gf138 i) := own_AFset Ar139 Sz139 Ht139 W139
      obtain ⟨gf139, hgf139⟩ : ∃ g' : Nat → Int32, g' = (fun i => if i = ((i1 + (2 : Int32))).toNatClampNeg then (nar .byte (((128 : Int32) ||| (i2 &&& (63 : Int32))).toInt8.toInt32)) else gf138 i) := ⟨_, rfl⟩
      rw [← hgf139] at V139
      have N139 := Fr.snoc X139 N138 fr0
      have Z0139 : n0 ≤ h139.size := Nat.le_trans Z0138 (Nat.le_of_eq W139.size.symm)
      refine own_step st139 ?_
      show own_Fin p e below s Q 0 0 (T139.setTop (mkF m 85 #[.val (.ref o0), .val (.int i1), .val (.int i2)] []))
      refine own_step (fun t k => XS.goto X139.here hx rfl (pc0 := 85) (pc' := 148) rfl (hb hby d1_85) (by decide) (by decide) k) ?_
      show own_Fin p e below s Q 0 0 (T139.setTop (mkF m 148 #[.val (.ref o0), .val (.int i1), .val (.int i2)] []))
      refine own_ret0 X139 hx hlk hret (hb hby d1_148) (Nat.le_trans (Nat.add_le_add_right hc 0) (by decide)) (Nat.le_trans (Nat.add_le_add_right hs 0) (by decide)) e139 ?_
      have eg : own_put i1 i2 g0 = gf139 := by rw [hgf139, hgf138, hgf137]; exact (if_neg hB4_133).trans (if_pos hB39_136)
      exact hQ _ _ N139 ((((Keep.refl h [o0]).wr W137 (Or.inl (List.mem_singleton.mpr rfl))).wr W138 (Or.inl (List.mem_singleton.mpr rfl))).wr W139 (Or.inl (List.mem_singleton.mpr rfl))) (by rw [eg]; exact V139)
    · refine own_step (fun t k => XS.icmpYes X.here hx rfl (pc0 := 39) (pc' := 88) rfl (hb hby d1_39) rfl (flt hB39_136).2.1 (by decide) (by decide) k) ?_
      show own_Fin p e below s Q 0 0 (T.setTop (mkF m 88 #[.val (.ref o0), .val (.int i1), .val (.int i2)] []))
      refine own_step (fun t k => XS.aloadN X.here hx rfl (hb hby d1_88) rfl rfl k) ?_
      show own_Fin p e below s Q 0 0 (T.setTop (mkF m 89 #[.val (.ref o0), .val (.int i1), .val (.int i2)] [(.ref o0)]))
      refine own_step (fun t k => XS.iloadN X.here hx rfl (hb hby d1_89) rfl  k) ?_
      show own_Fin p e below s Q 0 0 (T.setTop (mkF m 90 #[.val (.ref o0), .val (.int i1), .val (.int i2)] [(.int i1), (.ref o0)]))
      refine own_step (fun t k => XS.sipush X.here hx rfl (hb hby d1_90) k) ?_
      show own_Fin p e below s Q 0 0 (T.setTop (mkF m 93 #[.val (.ref o0), .val (.int i1), .val (.int i2)] [(.int (240 : Int32)), (.int i1), (.ref o0)]))
      refine own_step (fun t k => XS.iloadN X.here hx rfl (hb hby d1_93) rfl  k) ?_
      show own_Fin p e below s Q 0 0 (T.setTop (mkF m 94 #[.val (.ref o0), .val (.int i1), .val (.int i2)] [(.int i2), (.int (240 : Int32)), (.int i1), (.ref o0)]))
      refine own_step (fun t k => XS.bipush X.here hx rfl (hb hby d1_94) k) ?_
      show own_Fin p e below s Q 0 0 (T.setTop (mkF m 96 #[.val (.ref o0), .val (.int i1), .val (.int i2)] [(.int (18 : Int32)), (.int i2), (.int (240 : Int32)), (.int i1), (.ref o0)]))
      refine own_step (fun t k => XS.ishr X.here hx rfl (hb hby d1_96) rfl k) ?_
      show own_Fin p e below s Q 0 0 (T.setTop (mkF m 97 #[.val (.ref o0), .val (.int i1), .val (.int i2)] [(.int (i2 >>> ((18 : Int32) &&& 31))), (.int (240 : Int32)), (.int i1), (.ref o0)]))
      refine own_step (fun t k => XS.ior X.here hx rfl (hb hby d1_97) rfl k) ?_
      show own_Fin p e below s Q 0 0 (T.setTop (mkF m 98 #[.val (.ref o0), .val (.int i1), .val (.int i2)] [(.int ((240 : Int32) ||| (i2 >>> ((18 : Int32) &&& 31)))), (.int i1), (.ref o0)]))
      refine own_step (fun t k => XS.i2b X.here hx rfl (hb hby d1_98) rfl k) ?_
      show own_Fin p e below s Q 0 0 (T.setTop (mkF m 99 #[.val (.ref o0), .val (.int i1), .val (.int i2)] [(.int (((240 : Int32) ||| (i2 >>> ((18 : Int32) &&& 31))).toInt8.toInt32)), (.int i1), (.ref o0)]))
      obtain ⟨ca140, Ar140, Sz140, Ht140⟩ := id A0
      have hin140 : ¬ (i1 < 0 ∨ ca140.slots.size ≤ (i1).toNatClampNeg) := by rw [Sz140]; exact hb0
      obtain ⟨T140, h140, X140, e140, W140, st140⟩ := stB X hx hZ eT Ar140 (j := i1) hin140 (g := (mkF m 99 #[.val (.ref o0), .val (.int i1), .val (.int i2)] [(.int (((240 : Int32) ||| (i2 >>> ((18 : Int32) &&& 31))).toInt8.toInt32)), (.int i1), (.ref o0)])) rfl rfl (hb hby d1_99)
      have V140 : own_AF Z h140 o0 .byte z0 (fun i => if i = (i1).toNatClampNeg then (nar .byte (((240 : Int32) ||| (i2 >>> ((18 : Int32) &&& 31))).toInt8.toInt32)) else g0 i) := own_AFset Ar140 Sz140 Ht140 W140
      obtain ⟨gf140, hgf140⟩ : ∃ g' : Nat → Int32, g' = (fun i => if i = (i1).toNatClampNeg then (nar .byte (((240 : Int32) ||| (i2 >>> ((18 : Int32) &&& 31))).toInt8.toInt32)) else g0 i) := ⟨_, rfl⟩
      rw [← hgf140] at V140
      have N140 := Fr.snoc X140 N fr0
      have Z0140 : n0 ≤ h140.size := Nat.le_trans Z0 (Nat.le_of_eq W140.size.symm)
      refine own_step st140 ?_
      show own_Fin p e below s Q 0 0 (T140.setTop (mkF m 100 #[.val (.ref o0), .val (.int i1), .val (.int i2)] []))
      refine own_step (fun t k => XS.aloadN X140.here hx rfl (hb hby d1_100) rfl rfl k) ?_
      show own_Fin p e below s Q 0 0 (T140.setTop (mkF m 101 #[.val (.ref o0), .val (.int i1), .val (.int i2)] [(.ref o0)]))
      refine own_step (fun t k => XS.iloadN X140.here hx rfl (hb hby d1_101) rfl  k) ?_
      show own_Fin p e below s Q 0 0 (T140.setTop (mkF m 102 #[.val (.ref o0), .val (.int i1), .val (.int i2)] [(.int i1), (.ref o0)]))
      refine own_step (fun t k => XS.iconst X140.here hx rfl (hb hby d1_102) k) ?_
      show own_Fin p e below s Q 0 0 (T140.setTop (mkF m 103 #[.val (.ref o0), .val (.int i1), .val (.int i2)] [(.int (1 : Int32)), (.int i1), (.ref o0)]))
      refine own_step (fun t k => XS.iadd X140.here hx rfl (hb hby d1_103) rfl k) ?_
      show own_Fin p e below s Q 0 0 (T140.setTop (mkF m 104 #[.val (.ref o0), .val (.int i1), .val (.int i2)] [(.int (i1 + (1 : Int32))), (.ref o0)]))
      refine own_step (fun t k => XS.sipush X140.here hx rfl (hb hby d1_104) k) ?_
      show own_Fin p e below s Q 0 0 (T140.setTop (mkF m 107 #[.val (.ref o0), .val (.int i1), .val (.int i2)] [(.int (128 : Int32)), (.int (i1 + (1 : Int32))), (.ref o0)]))
      refine own_step (fun t k => XS.iloadN X140.here hx rfl (hb hby d1_107) rfl  k) ?_
      show own_Fin p e below s Q 0 0 (T140.setTop (mkF m 108 #[.val (.ref o0), .val (.int i1), .val (.int i2)] [(.int i2), (.int (128 : Int32)), (.int (i1 + (1 : Int32))), (.ref o0)]))
      refine own_step (fun t k => XS.bipush X140.here hx rfl (hb hby d1_108) k) ?_
      show own_Fin p e below s Q 0 0 (T140.setTop (mkF m 110 #[.val (.ref o0), .val (.int i1), .val (.int i2)] [(.int (12 : Int32)), (.int i2), (.int (128 : Int32)), (.int (i1 + (1 : Int32))), (.ref o0)]))
      refine own_step (fun t k => XS.ishr X140.here hx rfl (hb hby d1_110) rfl k) ?_
      show own_Fin p e below s Q 0 0 (T140.setTop (mkF m 111 #[.val (.ref o0), .val (.int i1), .val (.int i2)] [(.int (i2 >>> ((12 : Int32) &&& 31))), (.int (128 : Int32)), (.int (i1 + (1 : Int32))), (.ref o0)]))
      refine own_step (fun t k => XS.bipush X140.here hx rfl (hb hby d1_111) k) ?_
      show own_Fin p e below s Q 0 0 (T140.setTop (mkF m 113 #[.val (.ref o0), .val (.int i1), .val (.int i2)] [(.int (63 : Int32)), (.int (i2 >>> ((12 : Int32) &&& 31))), (.int (128 : Int32)), (.int (i1 + (1 : Int32))), (.ref o0)]))
      refine own_step (fun t k => XS.iand X140.here hx rfl (hb hby d1_113) rfl k) ?_
      show own_Fin p e below s Q 0 0 (T140.setTop (mkF m 114 #[.val (.ref o0), .val (.int i1), .val (.int i2)] [(.int ((i2 >>> ((12 : Int32) &&& 31)) &&& (63 : Int32))), (.int (128 : Int32)), (.int (i1 + (1 : Int32))), (.ref o0)]))
      refine own_step (fun t k => XS.ior X140.here hx rfl (hb hby d1_114) rfl k) ?_
      show own_Fin p e below s Q 0 0 (T140.setTop (mkF m 115 #[.val (.ref o0), .val (.int i1), .val (.int i2)] [(.int ((128 : Int32) ||| ((i2 >>> ((12 : Int32) &&& 31)) &&& (63 : Int32)))), (.int (i1 + (1 : Int32))), (.ref o0)]))
      refine own_step (fun t k => XS.i2b X140.here hx rfl (hb hby d1_115) rfl k) ?_
      show own_Fin p e below s Q 0 0 (T140.setTop (mkF m 116 #[.val (.ref o0), .val (.int i1), .val (.int i2)] [(.int (((128 : Int32) ||| ((i2 >>> ((12 : Int32) &&& 31)) &&& (63 : Int32))).toInt8.toInt32)), (.int (i1 + (1 : Int32))), (.ref o0)]))
      obtain ⟨ca141, Ar141, Sz141, Ht141⟩ := id V140
      have hin141 : ¬ ((i1 + (1 : Int32)) < 0 ∨ ca141.slots.size ≤ ((i1 + (1 : Int32))).toNatClampNeg) := by rw [Sz141]; exact hb1
      obtain ⟨T141, h141, X141, e141, W141, st141⟩ := stB X140 hx hZ e140 Ar141 (j := (i1 + (1 : Int32))) hin141 (g := (mkF m 116 #[.val (.ref o0), .val (.int i1), .val (.int i2)] [(.int (((128 : Int32) ||| ((i2 >>> ((12 : Int32) &&& 31)) &&& (63 : Int32))).toInt8.toInt32)), (.int (i1 + (1 : Int32))), (.ref o0)])) rfl rfl (hb hby d1_116)
      have V141 : own_AF Z h141 o0 .byte z0 (fun i => if i = ((i1 + (1 : Int32))).toNatClampNeg then (nar .byte (((128 : Int32) ||| ((i2 >>> ((12 : Int32) &&& 31)) &&& (63 : Int32))).toInt8.toInt32)) else gf140 i) := own_AFset Ar141 Sz141 Ht141 W141
      obtain ⟨gf141, hgf141⟩ : ∃ g' : Nat → Int32, g' = (fun i => if i = ((i1 + (1 : Int32))).toNatClampNeg then (nar .byte (((128 : Int32) ||| ((i2 >>> ((12 : Int32) &&& 31)) &&& (63 : Int32))).toInt8.toInt32)) else gf140 i) := ⟨_, rfl⟩
      rw [← hgf141] at V141
      have N141 := Fr.snoc X141 N140 fr0
      have Z0141 : n0 ≤ h141.size := Nat.le_trans Z0140 (Nat.le_of_eq W141.size.symm)
      refine own_step st141 ?_
      show own_Fin p e below s Q 0 0 (T141.setTop (mkF m 117 #[.val (.ref o0), .val (.int i1), .val (.int i2)] []))
      refine own_step (fun t k => XS.aloadN X141.here hx rfl (hb hby d1_117) rfl rfl k) ?_
      show own_Fin p e below s Q 0 0 (T141.setTop (mkF m 118 #[.val (.ref o0), .val (.int i1), .val (.int i2)] [(.ref o0)]))
      refine own_step (fun t k => XS.iloadN X141.here hx rfl (hb hby d1_118) rfl  k) ?_
      show own_Fin p e below s Q 0 0 (T141.setTop (mkF m 119 #[.val (.ref o0), .val (.int i1), .val (.int i2)] [(.int i1), (.ref o0)]))
      refine own_step (fun t k => XS.iconst X141.here hx rfl (hb hby d1_119) k) ?_
      show own_Fin p e below s Q 0 0 (T141.setTop (mkF m 120 #[.val (.ref o0), .val (.int i1), .val (.int i2)] [(.int (2 : Int32)), (.int i1), (.ref o0)]))
      refine own_step (fun t k => XS.iadd X141.here hx rfl (hb hby d1_120) rfl k) ?_
      show own_Fin p e below s Q 0 0 (T141.setTop (mkF m 121 #[.val (.ref o0), .val (.int i1), .val (.int i2)] [(.int (i1 + (2 : Int32))), (.ref o0)]))
      refine own_step (fun t k => XS.sipush X141.here hx rfl (hb hby d1_121) k) ?_
      show own_Fin p e below s Q 0 0 (T141.setTop (mkF m 124 #[.val (.ref o0), .val (.int i1), .val (.int i2)] [(.int (128 : Int32)), (.int (i1 + (2 : Int32))), (.ref o0)]))
      refine own_step (fun t k => XS.iloadN X141.here hx rfl (hb hby d1_124) rfl  k) ?_
      show own_Fin p e below s Q 0 0 (T141.setTop (mkF m 125 #[.val (.ref o0), .val (.int i1), .val (.int i2)] [(.int i2), (.int (128 : Int32)), (.int (i1 + (2 : Int32))), (.ref o0)]))
      refine own_step (fun t k => XS.bipush X141.here hx rfl (hb hby d1_125) k) ?_
      show own_Fin p e below s Q 0 0 (T141.setTop (mkF m 127 #[.val (.ref o0), .val (.int i1), .val (.int i2)] [(.int (6 : Int32)), (.int i2), (.int (128 : Int32)), (.int (i1 + (2 : Int32))), (.ref o0)]))
      refine own_step (fun t k => XS.ishr X141.here hx rfl (hb hby d1_127) rfl k) ?_
      show own_Fin p e below s Q 0 0 (T141.setTop (mkF m 128 #[.val (.ref o0), .val (.int i1), .val (.int i2)] [(.int (i2 >>> ((6 : Int32) &&& 31))), (.int (128 : Int32)), (.int (i1 + (2 : Int32))), (.ref o0)]))
      refine own_step (fun t k => XS.bipush X141.here hx rfl (hb hby d1_128) k) ?_
      show own_Fin p e below s Q 0 0 (T141.setTop (mkF m 130 #[.val (.ref o0), .val (.int i1), .val (.int i2)] [(.int (63 : Int32)), (.int (i2 >>> ((6 : Int32) &&& 31))), (.int (128 : Int32)), (.int (i1 + (2 : Int32))), (.ref o0)]))
      refine own_step (fun t k => XS.iand X141.here hx rfl (hb hby d1_130) rfl k) ?_
      show own_Fin p e below s Q 0 0 (T141.setTop (mkF m 131 #[.val (.ref o0), .val (.int i1), .val (.int i2)] [(.int ((i2 >>> ((6 : Int32) &&& 31)) &&& (63 : Int32))), (.int (128 : Int32)), (.int (i1 + (2 : Int32))), (.ref o0)]))
      refine own_step (fun t k => XS.ior X141.here hx rfl (hb hby d1_131) rfl k) ?_
      show own_Fin p e below s Q 0 0 (T141.setTop (mkF m 132 #[.val (.ref o0), .val (.int i1), .val (.int i2)] [(.int ((128 : Int32) ||| ((i2 >>> ((6 : Int32) &&& 31)) &&& (63 : Int32)))), (.int (i1 + (2 : Int32))), (.ref o0)]))
      refine own_step (fun t k => XS.i2b X141.here hx rfl (hb hby d1_132) rfl k) ?_
      show own_Fin p e below s Q 0 0 (T141.setTop (mkF m 133 #[.val (.ref o0), .val (.int i1), .val (.int i2)] [(.int (((128 : Int32) ||| ((i2 >>> ((6 : Int32) &&& 31)) &&& (63 : Int32))).toInt8.toInt32)), (.int (i1 + (2 : Int32))), (.ref o0)]))
      obtain ⟨ca142, Ar142, Sz142, Ht142⟩ := id V141
      have hin142 : ¬ ((i1 + (2 : Int32)) < 0 ∨ ca142.slots.size ≤ ((i1 + (2 : Int32))).toNatClampNeg) := by rw [Sz142]; exact hb2
      obtain ⟨T142, h142, X142, e142, W142, st142⟩ := stB X141 hx hZ e141 Ar142 (j := (i1 + (2 : Int32))) hin142 (g := (mkF m 133 #[.val (.ref o0), .val (.int i1), .val (.int i2)] [(.int (((128 : Int32) ||| ((i2 >>> ((6 : Int32) &&& 31)) &&& (63 : Int32))).toInt8.toInt32)), (.int (i1 + (2 : Int32))), (.ref o0)])) rfl rfl (hb hby d1_133)
      have V142 : own_AF Z h142 o0 .byte z0 (fun i => if i = ((i1 + (2 : Int32))).toNatClampNeg then (nar .byte (((128 : Int32) ||| ((i2 >>> ((6 : Int32) &&& 31)) &&& (63 : Int32))).toInt8.toInt32)) else gf141 i) := own_AFset Ar142 Sz142 Ht142 W142
      obtain ⟨gf142, hgf142⟩ : ∃ g' : Nat → Int32, g' = (fun i => if i = ((i1 + (2 : Int32))).toNatClampNeg then (nar .byte (((128 : Int32) ||| ((i2 >>> ((6 : Int32) &&& 31)) &&& (63 : Int32))).toInt8.toInt32)) else gf141 i) := ⟨_, rfl⟩
      rw [← hgf142] at V142
      have N142 := Fr.snoc X142 N141 fr0
      have Z0142 : n0 ≤ h142.size := Nat.le_trans Z0141 (Nat.le_of_eq W142.size.symm)
      refine own_step st142 ?_
      show own_Fin p e below s Q 0 0 (T142.setTop (mkF m 134 #[.val (.ref o0), .val (.int i1), .val (.int i2)] []))
      refine own_step (fun t k => XS.aloadN X142.here hx rfl (hb hby d1_134) rfl rfl k) ?_
      show own_Fin p e below s Q 0 0 (T142.setTop (mkF m 135 #[.val (.ref o0), .val (.int i1), .val (.int i2)] [(.ref o0)]))
      refine own_step (fun t k => XS.iloadN X142.here hx rfl (hb hby d1_135) rfl  k) ?_
      show own_Fin p e below s Q 0 0 (T142.setTop (mkF m 136 #[.val (.ref o0), .val (.int i1), .val (.int i2)] [(.int i1), (.ref o0)]))
      refine own_step (fun t k => XS.iconst X142.here hx rfl (hb hby d1_136) k) ?_
      show own_Fin p e below s Q 0 0 (T142.setTop (mkF m 137 #[.val (.ref o0), .val (.int i1), .val (.int i2)] [(.int (3 : Int32)), (.int i1), (.ref o0)]))
      refine own_step (fun t k => XS.iadd X142.here hx rfl (hb hby d1_137) rfl k) ?_
      show own_Fin p e below s Q 0 0 (T142.setTop (mkF m 138 #[.val (.ref o0), .val (.int i1), .val (.int i2)] [(.int (i1 + (3 : Int32))), (.ref o0)]))
      refine own_step (fun t k => XS.sipush X142.here hx rfl (hb hby d1_138) k) ?_
      show own_Fin p e below s Q 0 0 (T142.setTop (mkF m 141 #[.val (.ref o0), .val (.int i1), .val (.int i2)] [(.int (128 : Int32)), (.int (i1 + (3 : Int32))), (.ref o0)]))
      refine own_step (fun t k => XS.iloadN X142.here hx rfl (hb hby d1_141) rfl  k) ?_
      show own_Fin p e below s Q 0 0 (T142.setTop (mkF m 142 #[.val (.ref o0), .val (.int i1), .val (.int i2)] [(.int i2), (.int (128 : Int32)), (.int (i1 + (3 : Int32))), (.ref o0)]))
      refine own_step (fun t k => XS.bipush X142.here hx rfl (hb hby d1_142) k) ?_
      show own_Fin p e below s Q 0 0 (T142.setTop (mkF m 144 #[.val (.ref o0), .val (.int i1), .val (.int i2)] [(.int (63 : Int32)), (.int i2), (.int (128 : Int32)), (.int (i1 + (3 : Int32))), (.ref o0)]))
      refine own_step (fun t k => XS.iand X142.here hx rfl (hb hby d1_144) rfl k) ?_
      show own_Fin p e below s Q 0 0 (T142.setTop (mkF m 145 #[.val (.ref o0), .val (.int i1), .val (.int i2)] [(.int (i2 &&& (63 : Int32))), (.int (128 : Int32)), (.int (i1 + (3 : Int32))), (.ref o0)]))
      refine own_step (fun t k => XS.ior X142.here hx rfl (hb hby d1_145) rfl k) ?_
      show own_Fin p e below s Q 0 0 (T142.setTop (mkF m 146 #[.val (.ref o0), .val (.int i1), .val (.int i2)] [(.int ((128 : Int32) ||| (i2 &&& (63 : Int32)))), (.int (i1 + (3 : Int32))), (.ref o0)]))
      refine own_step (fun t k => XS.i2b X142.here hx rfl (hb hby d1_146) rfl k) ?_
      show own_Fin p e below s Q 0 0 (T142.setTop (mkF m 147 #[.val (.ref o0), .val (.int i1), .val (.int i2)] [(.int (((128 : Int32) ||| (i2 &&& (63 : Int32))).toInt8.toInt32)), (.int (i1 + (3 : Int32))), (.ref o0)]))
      obtain ⟨ca143, Ar143, Sz143, Ht143⟩ := id V142
      have hin143 : ¬ ((i1 + (3 : Int32)) < 0 ∨ ca143.slots.size ≤ ((i1 + (3 : Int32))).toNatClampNeg) := by rw [Sz143]; exact hb3
      obtain ⟨T143, h143, X143, e143, W143, st143⟩ := stB X142 hx hZ e142 Ar143 (j := (i1 + (3 : Int32))) hin143 (g := (mkF m 147 #[.val (.ref o0), .val (.int i1), .val (.int i2)] [(.int (((128 : Int32) ||| (i2 &&& (63 : Int32))).toInt8.toInt32)), (.int (i1 + (3 : Int32))), (.ref o0)])) rfl rfl (hb hby d1_147)
      have V143 : own_AF Z h143 o0 .byte z0 (fun i => if i = ((i1 + (3 : Int32))).toNatClampNeg then (nar .byte (((128 : Int32) ||| (i2 &&& (63 : Int32))).toInt8.toInt32)) else gf142 i) := own_AFset Ar143 Sz143 Ht143 W143
      obtain ⟨gf143, hgf143⟩ : ∃ g' : Nat → Int32, g' = (fun i => if i = ((i1 + (3 : Int32))).toNatClampNeg then (nar .byte (((128 : Int32) ||| (i2 &&& (63 : Int32))).toInt8.toInt32)) else gf142 i) := ⟨_, rfl⟩
      rw [← hgf143] at V143
      have N143 := Fr.snoc X143 N142 fr0
      have Z0143 : n0 ≤ h143.size := Nat.le_trans Z0142 (Nat.le_of_eq W143.size.symm)
      refine own_step st143 ?_
      show own_Fin p e below s Q 0 0 (T143.setTop (mkF m 148 #[.val (.ref o0), .val (.int i1), .val (.int i2)] []))
      refine own_ret0 X143 hx hlk hret (hb hby d1_148) (Nat.le_trans (Nat.add_le_add_right hc 0) (by decide)) (Nat.le_trans (Nat.add_le_add_right hs 0) (by decide)) e143 ?_
      have eg : own_put i1 i2 g0 = gf143 := by rw [hgf143, hgf142, hgf141, hgf140]; exact (if_neg hB4_133).trans (if_neg hB39_136)
      exact hQ _ _ N143 (((((Keep.refl h [o0]).wr W140 (Or.inl (List.mem_singleton.mpr rfl))).wr W141 (Or.inl (List.mem_singleton.mpr rfl))).wr W142 (Or.inl (List.mem_singleton.mpr rfl))).wr W143 (Or.inl (List.mem_singleton.mpr rfl))) (by rw [eg]; exact V143)
theorem pdm_3 : parseMethodDescriptor "([BII)V" = some ⟨[(.array .byte), .int, .int], none⟩ := by decide +kernel
theorem ef_1 (m : MethodId) (o0 : Addr) (i1 : Int32) (i2 : Int32) : entryFrame m #[(.ref o0), (.int i1), (.int i2)] 3 = (mkF m 0 #[.val (.ref o0), .val (.int i1), .val (.int i2)] []) := by first | (simp [entryFrame, mkF, argsToLocals, Value.category]; done) | rfl
def Q1 (Z : State) (o0 : Addr) (g0 : Nat → Int32) (z0 : Nat) (i1 : Int32) (i2 : Int32) (h0 : Heap) (n0 : Nat) (v : Option Value) (h : Heap) (L : List Loc) : Prop := v = none ∧ Fr n0 L ∧ Keep h0 h [o0] ∧ own_AF Z h o0 .byte z0 (own_put i1 i2 g0)
set_option maxRecDepth 65536 in
set_option maxHeartbeats 4000000 in
theorem rm1 (l : Launch) (Z : State) (a0 : Array Value) (hw : ∀ d ∈ tables_1, d.before a0 Z = true) (ws : List Jvm.Cond) (o0 : Addr) (g0 : Nat → Int32) (z0 : Nat) (i1 : Int32) (i2 : Int32) (h0 : Heap) (n0 : Nat) (A0 : own_AF Z h0 o0 .byte z0 g0) (Z0 : n0 ≤ h0.size) (fr0 : n0 ≤ o0) (hb0 : own_In z0 i1) (hb1 : own_In z0 (i1 + (1 : Int32))) (hb2 : own_In z0 (i1 + (2 : Int32))) (hb3 : own_In z0 (i1 + (3 : Int32))) :
    MetFree l (⟨"com/example/zoria/zoria/xml/XmlInputStandingCharacterPinLaw", "put", "([BII)V"⟩ : MethodName) (head1 (Jvm.Cond.code (⟨"com/example/zoria/zoria/xml/XmlInputStandingCharacterPinLaw", "put", "([BII)V"⟩ : MethodName) method_4_code 3 none :: ws) ({ frames := 0, cells := 0, slots := 0, locals := 0 } : Room)) (fun a U => a = #[(.ref o0), (.int i1), (.int i2)] ∧ Z.Warmed39 U.vm ∧ U.heap = h0) (fun _ _ _ _ _ => True) (fun _ U o U' => ∃ v L, o = .returned v ∧ Q1 Z o0 g0 z0 i1 i2 h0 n0 v U'.heap L ∧ FrameEnd U o U' L ({ frames := 0, cells := 0, slots := 0, locals := 0 } : Room).cells ({ frames := 0, cells := 0, slots := 0, locals := 0 } : Room).slots) := by
  refine MetFree.of_bodySF (plainFor_of_name pnm_1) hisR ?_
  intro p e s m args below meth c s₁ Bd hml0 hP hK
  obtain ⟨rfl, hZ, hh⟩ := hP
  have hx := Bd.exec
  have hby := Bd.bytes
  have hml : c.maxLocals = 3 := hml0
  have hown : s.vm.findClass "com/example/zoria/zoria/xml/XmlInputStandingCharacterPinLaw" = some m.cls := findClass_of_methodNamed Bd.named
  have X0 : Stand p l e ({ frames := 0, cells := 0, slots := 0, locals := 0 } : Room) s m #[(.ref o0), (.int i1), (.int i2)] below meth c s₁ [] 0 0 := Stand.of_body Bd
  have e0 : s₁.heap = h0 := by rw [← hh, Bd.state]; rfl
  have fin := b1_0 o0 g0 z0 i1 i2 (Q := Q1 Z o0 g0 z0 i1 i2 h0 n0) hw X0 hx hZ hby hml hown Bd.returns (BodyLoose.notSynchronized Bd) e0 (Fr.nil n0) (Nat.zero_le _) (Nat.zero_le _) A0 Z0 fr0 hb0 hb1 hb2 hb3 (fun H' L' n' k' v' => ⟨rfl, n', k', v'⟩)
  exact own_step (fun t k => castTop (ef_1 m o0 i1 i2) k) fin
theorem own_gb0 : ∀ i : Nat, -128 ≤ ((fun _ => 0 : Nat → Int32) i).toInt ∧ ((fun _ => 0 : Nat → Int32) i).toInt < 128 := fun _ => by show -128 ≤ (0 : Int32).toInt ∧ (0 : Int32).toInt < 128; decide
theorem own_gbs {g g' : Nat → Int32} {k : Nat} {y : Int32} (h : g' = (fun i => if i = k then (nar .byte y) else g i)) (hb : ∀ i, -128 ≤ (g i).toInt ∧ (g i).toInt < 128) : ∀ i, -128 ≤ (g' i).toInt ∧ (g' i).toInt < 128 := fun i => by
  rw [h]
  show -128 ≤ (if i = k then (nar .byte y) else g i).toInt ∧ (if i = k then (nar .byte y) else g i).toInt < 128
  by_cases q : i = k
  · rw [if_pos q]; exact (c_i2b y).2
  · rw [if_neg q]; exact hb i
theorem own_cp (r : Int32) : 128 ≤ ((128 : Int32) + ((r &&& (2147483647 : Int32)) % (1113984 : Int32))).toInt ∧ ((128 : Int32) + ((r &&& (2147483647 : Int32)) % (1113984 : Int32))).toInt ≤ 1114111 := by
  have e0 := (c_and r 2147483647 (by decide)).1
  have e1 := (c_irem (r &&& (2147483647 : Int32)) 1113984 1113984 (by decide)).1 e0
  have e2 := c_iadd 128 ((r &&& (2147483647 : Int32)) % (1113984 : Int32))
  have z1 : (128 : Int32).toInt = 128 := by decide
  have r2 := rng32 ((128 : Int32) + ((r &&& (2147483647 : Int32)) % (1113984 : Int32)))
  omega
set_option maxRecDepth 65536 in
set_option maxHeartbeats 40000000 in
theorem b0_13 {p : Program} {l : Launch} {e : Env} {s : State} {m : MethodId} {args : Array Value} {below : List Frame} {meth : Method} {c : Code} {T : State} {locs : List Loc} {cells slots : Nat} {Z : State} {a0 : Array Value} {h : Heap} {n0 : Nat} {Q : Option Value → Heap → List Loc → Prop} (i0 : Int32) (i1 : Int32) (i2 : Int32) (i3 : Int32) (i4 : Int32) (i5 : Int32) (hw : ∀ d ∈ tables_1, d.before a0 Z = true) (X : Stand p l e room_1 s m args below meth c T locs cells slots) (hx : p.tables.exec = Jvm.exec) (hZ : Z.Warmed39 s.vm) (hby : c.code = code) (hml : c.maxLocals = 14) (hown : s.vm.findClass "com/example/zoria/zoria/xml/XmlInputStandingCharacterPinLaw" = some m.cls) (hret : meth.sig.returnType = some .boolean) (hlk : meth.locks = false) (eT : T.heap = h) (N : Fr n0 locs) (hc : cells ≤ 0) (hs : slots ≤ 0) (hx1 : i5 = 0 ∨ i5 = 1) (Z0 : n0 ≤ h.size) (hQ : ∀ H' L', Fr n0 L' → Q (some (.int 1)) H' L') :
    own_Fin p e below s Q 16 128 (T.setTop (mkF m 13 #[.val (.int i0), .val (.int i1), .val (.int i2), .val (.int i3), .val (.int i4), .val (.int i5), .unset, .unset, .unset, .unset, .unset, .unset, .unset, .unset] [])) := by
  refine own_step (fun t k => XS.iloadN X.here hx rfl (hb hby at_13) rfl  k) ?_
  show own_Fin p e below s Q 16 128 (T.setTop (mkF m 14 #[.val (.int i0), .val (.int i1), .val (.int i2), .val (.int i3), .val (.int i4), .val (.int i5), .unset, .unset, .unset, .unset, .unset, .unset, .unset, .unset] [(.int i1)]))
  refine own_step (fun t k => XS.iconst X.here hx rfl (hb hby at_14) k) ?_
  show own_Fin p e below s Q 16 128 (T.setTop (mkF m 15 #[.val (.int i0), .val (.int i1), .val (.int i2), .val (.int i3), .val (.int i4), .val (.int i5), .unset, .unset, .unset, .unset, .unset, .unset, .unset, .unset] [(.int (3 : Int32)), (.int i1)]))
  refine own_step (fun t k => XS.iand X.here hx rfl (hb hby at_15) rfl k) ?_
  show own_Fin p e below s Q 16 128 (T.setTop (mkF m 16 #[.val (.int i0), .val (.int i1), .val (.int i2), .val (.int i3), .val (.int i4), .val (.int i5), .unset, .unset, .unset, .unset, .unset, .unset, .unset, .unset] [(.int (i1 &&& (3 : Int32)))]))
  refine own_step (fun t k => XS.istore X.here hx rfl (hb hby at_16) rfl (l' := #[.val (.int i0), .val (.int i1), .val (.int i2), .val (.int i3), .val (.int i4), .val (.int i5), .val (.int (i1 &&& (3 : Int32))), .unset, .unset, .unset, .unset, .unset, .unset, .unset]) rfl k) ?_
  show own_Fin p e below s Q 16 128 (T.setTop (mkF m 18 #[.val (.int i0), .val (.int i1), .val (.int i2), .val (.int i3), .val (.int i4), .val (.int i5), .val (.int (i1 &&& (3 : Int32))), .unset, .unset, .unset, .unset, .unset, .unset, .unset] []))
  refine own_step (fun t k => XS.bipush X.here hx rfl (hb hby at_18) k) ?_
  show own_Fin p e below s Q 16 128 (T.setTop (mkF m 20 #[.val (.int i0), .val (.int i1), .val (.int i2), .val (.int i3), .val (.int i4), .val (.int i5), .val (.int (i1 &&& (3 : Int32))), .unset, .unset, .unset, .unset, .unset, .unset, .unset] [(.int (8 : Int32))]))
  obtain ⟨T145, h145, k145, X145, e145, E145, AA145, st145⟩ := newP X hx hZ (hw _ (List.mem_of_getElem? (i := 0) rfl)) eT (g := (mkF m 20 #[.val (.int i0), .val (.int i1), .val (.int i2), .val (.int i3), .val (.int i4), .val (.int i5), .val (.int (i1 &&& (3 : Int32))), .unset, .unset, .unset, .unset, .unset, .unset, .unset] [(.int (8 : Int32))])) rfl (hb hby at_20) rfl (by decide) (cap := 8) (by decide) (by decide) (show cells + 1 ≤ 16 from (Nat.le_trans (Nat.add_le_add_right hc 1) (by decide))) (show slots + 8 ≤ 128 from (Nat.le_trans (Nat.add_le_add_right hs 8) (by decide)))
  obtain ⟨b145, gg145⟩ : ∃ z, z = h.size := ⟨_, rfl⟩
  rw [← gg145] at AA145 st145
  have V145 : own_AF Z h145 b145 .byte 8 (fun _ => 0) := own_AFnew AA145 (by decide)
  have fr145 : n0 ≤ b145 := Nat.le_trans Z0 (Nat.le_of_eq gg145.symm)
  have Z0145 : n0 ≤ h145.size := Nat.le_trans Z0 E145.1
  refine own_step st145 ?_
  show own_Fin p e below s Q 16 128 (T145.setTop (mkF m 22 #[.val (.int i0), .val (.int i1), .val (.int i2), .val (.int i3), .val (.int i4), .val (.int i5), .val (.int (i1 &&& (3 : Int32))), .unset, .unset, .unset, .unset, .unset, .unset, .unset] [(.ref b145)]))
  refine own_step (fun t k => XS.astore X145.here hx rfl (hb hby at_22) rfl rfl (l' := #[.val (.int i0), .val (.int i1), .val (.int i2), .val (.int i3), .val (.int i4), .val (.int i5), .val (.int (i1 &&& (3 : Int32))), .val (.ref b145), .unset, .unset, .unset, .unset, .unset, .unset]) rfl k) ?_
  show own_Fin p e below s Q 16 128 (T145.setTop (mkF m 24 #[.val (.int i0), .val (.int i1), .val (.int i2), .val (.int i3), .val (.int i4), .val (.int i5), .val (.int (i1 &&& (3 : Int32))), .val (.ref b145), .unset, .unset, .unset, .unset, .unset, .unset] []))
  refine own_step (fun t k => XS.aload X145.here hx rfl (hb hby at_24) rfl rfl k) ?_
  show own_Fin p e below s Q 16 128 (T145.setTop (mkF m 26 #[.val (.int i0), .val (.int i1), .val (.int i2), .val (.int i3), .val (.int i4), .val (.int i5), .val (.int (i1 &&& (3 : Int32))), .val (.ref b145), .unset, .unset, .unset, .unset, .unset, .unset] [(.ref b145)]))
  refine own_step (fun t k => XS.iload X145.here hx rfl (hb hby at_26) rfl  k) ?_
  show own_Fin p e below s Q 16 128 (T145.setTop (mkF m 28 #[.val (.int i0), .val (.int i1), .val (.int i2), .val (.int i3), .val (.int i4), .val (.int i5), .val (.int (i1 &&& (3 : Int32))), .val (.ref b145), .unset, .unset, .unset, .unset, .unset, .unset] [(.int (i1 &&& (3 : Int32))), (.ref b145)]))
  refine own_step (fun t k => XS.iloadN X145.here hx rfl (hb hby at_28) rfl  k) ?_
  show own_Fin p e below s Q 16 128 (T145.setTop (mkF m 29 #[.val (.int i0), .val (.int i1), .val (.int i2), .val (.int i3), .val (.int i4), .val (.int i5), .val (.int (i1 &&& (3 : Int32))), .val (.ref b145), .unset, .unset, .unset, .unset, .unset, .unset] [(.int i2), (.int (i1 &&& (3 : Int32))), (.ref b145)]))
  refine own_step (fun t k => XS.i2b X145.here hx rfl (hb hby at_29) rfl k) ?_
  show own_Fin p e below s Q 16 128 (T145.setTop (mkF m 30 #[.val (.int i0), .val (.int i1), .val (.int i2), .val (.int i3), .val (.int i4), .val (.int i5), .val (.int (i1 &&& (3 : Int32))), .val (.ref b145), .unset, .unset, .unset, .unset, .unset, .unset] [(.int (i2.toInt8.toInt32)), (.int (i1 &&& (3 : Int32))), (.ref b145)]))
  obtain ⟨ca146, Ar146, Sz146, Ht146⟩ := id V145
  have hin146 : ¬ ((i1 &&& (3 : Int32)) < 0 ∨ ca146.slots.size ≤ ((i1 &&& (3 : Int32))).toNatClampNeg) := by rw [Sz146]; exact own_o0 i1
  obtain ⟨T146, h146, X146, e146, W146, st146⟩ := stB X145 hx hZ e145 Ar146 (j := (i1 &&& (3 : Int32))) hin146 (g := (mkF m 30 #[.val (.int i0), .val (.int i1), .val (.int i2), .val (.int i3), .val (.int i4), .val (.int i5), .val (.int (i1 &&& (3 : Int32))), .val (.ref b145), .unset, .unset, .unset, .unset, .unset, .unset] [(.int (i2.toInt8.toInt32)), (.int (i1 &&& (3 : Int32))), (.ref b145)])) rfl rfl (hb hby at_30)
  have V146 : own_AF Z h146 b145 .byte 8 (fun i => if i = ((i1 &&& (3 : Int32))).toNatClampNeg then (nar .byte (i2.toInt8.toInt32)) else (fun _ => 0) i) := own_AFset Ar146 Sz146 Ht146 W146
  obtain ⟨gf146, hgf146⟩ : ∃ g' : Nat → Int32, g' = (fun i => if i = ((i1 &&& (3 : Int32))).toNatClampNeg then (nar .byte (i2.toInt8.toInt32)) else (fun _ => 0) i) := ⟨_, rfl⟩
  rw [← hgf146] at V146
  have N146 := Fr.snoc X146 N fr145
  have Z0146 : n0 ≤ h146.size := Nat.le_trans Z0145 (Nat.le_of_eq W146.size.symm)
  refine own_step st146 ?_
  show own_Fin p e below s Q 16 128 (T146.setTop (mkF m 31 #[.val (.int i0), .val (.int i1), .val (.int i2), .val (.int i3), .val (.int i4), .val (.int i5), .val (.int (i1 &&& (3 : Int32))), .val (.ref b145), .unset, .unset, .unset, .unset, .unset, .unset] []))
  refine own_step (fun t k => XS.aload X146.here hx rfl (hb hby at_31) rfl rfl k) ?_
  show own_Fin p e below s Q 16 128 (T146.setTop (mkF m 33 #[.val (.int i0), .val (.int i1), .val (.int i2), .val (.int i3), .val (.int i4), .val (.int i5), .val (.int (i1 &&& (3 : Int32))), .val (.ref b145), .unset, .unset, .unset, .unset, .unset, .unset] [(.ref b145)]))
  refine own_step (fun t k => XS.iload X146.here hx rfl (hb hby at_33) rfl  k) ?_
  show own_Fin p e below s Q 16 128 (T146.setTop (mkF m 35 #[.val (.int i0), .val (.int i1), .val (.int i2), .val (.int i3), .val (.int i4), .val (.int i5), .val (.int (i1 &&& (3 : Int32))), .val (.ref b145), .unset, .unset, .unset, .unset, .unset, .unset] [(.int (i1 &&& (3 : Int32))), (.ref b145)]))
  refine own_step (fun t k => XS.iconst X146.here hx rfl (hb hby at_35) k) ?_
  show own_Fin p e below s Q 16 128 (T146.setTop (mkF m 36 #[.val (.int i0), .val (.int i1), .val (.int i2), .val (.int i3), .val (.int i4), .val (.int i5), .val (.int (i1 &&& (3 : Int32))), .val (.ref b145), .unset, .unset, .unset, .unset, .unset, .unset] [(.int (1 : Int32)), (.int (i1 &&& (3 : Int32))), (.ref b145)]))
  refine own_step (fun t k => XS.iadd X146.here hx rfl (hb hby at_36) rfl k) ?_
  show own_Fin p e below s Q 16 128 (T146.setTop (mkF m 37 #[.val (.int i0), .val (.int i1), .val (.int i2), .val (.int i3), .val (.int i4), .val (.int i5), .val (.int (i1 &&& (3 : Int32))), .val (.ref b145), .unset, .unset, .unset, .unset, .unset, .unset] [(.int ((i1 &&& (3 : Int32)) + (1 : Int32))), (.ref b145)]))
  refine own_step (fun t k => XS.iloadN X146.here hx rfl (hb hby at_37) rfl  k) ?_
  show own_Fin p e below s Q 16 128 (T146.setTop (mkF m 38 #[.val (.int i0), .val (.int i1), .val (.int i2), .val (.int i3), .val (.int i4), .val (.int i5), .val (.int (i1 &&& (3 : Int32))), .val (.ref b145), .unset, .unset, .unset, .unset, .unset, .unset] [(.int i2), (.int ((i1 &&& (3 : Int32)) + (1 : Int32))), (.ref b145)]))
  refine own_step (fun t k => XS.bipush X146.here hx rfl (hb hby at_38) k) ?_
  show own_Fin p e below s Q 16 128 (T146.setTop (mkF m 40 #[.val (.int i0), .val (.int i1), .val (.int i2), .val (.int i3), .val (.int i4), .val (.int i5), .val (.int (i1 &&& (3 : Int32))), .val (.ref b145), .unset, .unset, .unset, .unset, .unset, .unset] [(.int (8 : Int32)), (.int i2), (.int ((i1 &&& (3 : Int32)) + (1 : Int32))), (.ref b145)]))
  refine own_step (fun t k => XS.iushr X146.here hx rfl (hb hby at_40) rfl k) ?_
  show own_Fin p e below s Q 16 128 (T146.setTop (mkF m 41 #[.val (.int i0), .val (.int i1), .val (.int i2), .val (.int i3), .val (.int i4), .val (.int i5), .val (.int (i1 &&& (3 : Int32))), .val (.ref b145), .unset, .unset, .unset, .unset, .unset, .unset] [(.int ((i2.toUInt32 >>> ((8 : Int32) &&& 31).toUInt32).toInt32)), (.int ((i1 &&& (3 : Int32)) + (1 : Int32))), (.ref b145)]))
  refine own_step (fun t k => XS.i2b X146.here hx rfl (hb hby at_41) rfl k) ?_
  show own_Fin p e below s Q 16 128 (T146.setTop (mkF m 42 #[.val (.int i0), .val (.int i1), .val (.int i2), .val (.int i3), .val (.int i4), .val (.int i5), .val (.int (i1 &&& (3 : Int32))), .val (.ref b145), .unset, .unset, .unset, .unset, .unset, .unset] [(.int (((i2.toUInt32 >>> ((8 : Int32) &&& 31).toUInt32).toInt32).toInt8.toInt32)), (.int ((i1 &&& (3 : Int32)) + (1 : Int32))), (.ref b145)]))
  obtain ⟨ca147, Ar147, Sz147, Ht147⟩ := id V146
  have hin147 : ¬ (((i1 &&& (3 : Int32)) + (1 : Int32)) < 0 ∨ ca147.slots.size ≤ (((i1 &&& (3 : Int32)) + (1 : Int32))).toNatClampNeg) := by rw [Sz147]; exact own_o1 i1
  obtain ⟨T147, h147, X147, e147, W147, st147⟩ := stB X146 hx hZ e146 Ar147 (j := ((i1 &&& (3 : Int32)) + (1 : Int32))) hin147 (g := (mkF m 42 #[.val (.int i0), .val (.int i1), .val (.int i2), .val (.int i3), .val (.int i4), .val (.int i5), .val (.int (i1 &&& (3 : Int32))), .val (.ref b145), .unset, .unset, .unset, .unset, .unset, .unset] [(.int (((i2.toUInt32 >>> ((8 : Int32) &&& 31).toUInt32).toInt32).toInt8.toInt32)), (.int ((i1 &&& (3 : Int32)) + (1 : Int32))), (.ref b145)])) rfl rfl (hb hby at_42)
  have V147 : own_AF Z h147 b145 .byte 8 (fun i => if i = (((i1 &&& (3 : Int32)) + (1 : Int32))).toNatClampNeg then (nar .byte (((i2.toUInt32 >>> ((8 : Int32) &&& 31).toUInt32).toInt32).toInt8.toInt32)) else gf146 i) := own_AFset Ar147 Sz147 Ht147 W147
  obtain ⟨gf147, hgf147⟩ : ∃ g' : Nat → Int32, g' = (fun i => if i = (((i1 &&& (3 : Int32)) + (1 : Int32))).toNatClampNeg then (nar .byte (((i2.toUInt32 >>> ((8 : Int32) &&& 31).toUInt32).toInt32).toInt8.toInt32)) else gf146 i) := ⟨_, rfl⟩
  rw [← hgf147] at V147
  have N147 := Fr.snoc X147 N146 fr145
  have Z0147 : n0 ≤ h147.size := Nat.le_trans Z0146 (Nat.le_of_eq W147.size.symm)
  refine own_step st147 ?_
  show own_Fin p e below s Q 16 128 (T147.setTop (mkF m 43 #[.val (.int i0), .val (.int i1), .val (.int i2), .val (.int i3), .val (.int i4), .val (.int i5), .val (.int (i1 &&& (3 : Int32))), .val (.ref b145), .unset, .unset, .unset, .unset, .unset, .unset] []))
  refine own_step (fun t k => XS.aload X147.here hx rfl (hb hby at_43) rfl rfl k) ?_
  show own_Fin p e below s Q 16 128 (T147.setTop (mkF m 45 #[.val (.int i0), .val (.int i1), .val (.int i2), .val (.int i3), .val (.int i4), .val (.int i5), .val (.int (i1 &&& (3 : Int32))), .val (.ref b145), .unset, .unset, .unset, .unset, .unset, .unset] [(.ref b145)]))
  refine own_step (fun t k => XS.iload X147.here hx rfl (hb hby at_45) rfl  k) ?_
  show own_Fin p e below s Q 16 128 (T147.setTop (mkF m 47 #[.val (.int i0), .val (.int i1), .val (.int i2), .val (.int i3), .val (.int i4), .val (.int i5), .val (.int (i1 &&& (3 : Int32))), .val (.ref b145), .unset, .unset, .unset, .unset, .unset, .unset] [(.int (i1 &&& (3 : Int32))), (.ref b145)]))
  refine own_step (fun t k => XS.iconst X147.here hx rfl (hb hby at_47) k) ?_
  show own_Fin p e below s Q 16 128 (T147.setTop (mkF m 48 #[.val (.int i0), .val (.int i1), .val (.int i2), .val (.int i3), .val (.int i4), .val (.int i5), .val (.int (i1 &&& (3 : Int32))), .val (.ref b145), .unset, .unset, .unset, .unset, .unset, .unset] [(.int (2 : Int32)), (.int (i1 &&& (3 : Int32))), (.ref b145)]))
  refine own_step (fun t k => XS.iadd X147.here hx rfl (hb hby at_48) rfl k) ?_
  show own_Fin p e below s Q 16 128 (T147.setTop (mkF m 49 #[.val (.int i0), .val (.int i1), .val (.int i2), .val (.int i3), .val (.int i4), .val (.int i5), .val (.int (i1 &&& (3 : Int32))), .val (.ref b145), .unset, .unset, .unset, .unset, .unset, .unset] [(.int ((i1 &&& (3 : Int32)) + (2 : Int32))), (.ref b145)]))
  refine own_step (fun t k => XS.iloadN X147.here hx rfl (hb hby at_49) rfl  k) ?_
  show own_Fin p e below s Q 16 128 (T147.setTop (mkF m 50 #[.val (.int i0), .val (.int i1), .val (.int i2), .val (.int i3), .val (.int i4), .val (.int i5), .val (.int (i1 &&& (3 : Int32))), .val (.ref b145), .unset, .unset, .unset, .unset, .unset, .unset] [(.int i2), (.int ((i1 &&& (3 : Int32)) + (2 : Int32))), (.ref b145)]))
  refine own_step (fun t k => XS.bipush X147.here hx rfl (hb hby at_50) k) ?_
  show own_Fin p e below s Q 16 128 (T147.setTop (mkF m 52 #[.val (.int i0), .val (.int i1), .val (.int i2), .val (.int i3), .val (.int i4), .val (.int i5), .val (.int (i1 &&& (3 : Int32))), .val (.ref b145), .unset, .unset, .unset, .unset, .unset, .unset] [(.int (16 : Int32)), (.int i2), (.int ((i1 &&& (3 : Int32)) + (2 : Int32))), (.ref b145)]))
  refine own_step (fun t k => XS.iushr X147.here hx rfl (hb hby at_52) rfl k) ?_
  show own_Fin p e below s Q 16 128 (T147.setTop (mkF m 53 #[.val (.int i0), .val (.int i1), .val (.int i2), .val (.int i3), .val (.int i4), .val (.int i5), .val (.int (i1 &&& (3 : Int32))), .val (.ref b145), .unset, .unset, .unset, .unset, .unset, .unset] [(.int ((i2.toUInt32 >>> ((16 : Int32) &&& 31).toUInt32).toInt32)), (.int ((i1 &&& (3 : Int32)) + (2 : Int32))), (.ref b145)]))
  refine own_step (fun t k => XS.i2b X147.here hx rfl (hb hby at_53) rfl k) ?_
  show own_Fin p e below s Q 16 128 (T147.setTop (mkF m 54 #[.val (.int i0), .val (.int i1), .val (.int i2), .val (.int i3), .val (.int i4), .val (.int i5), .val (.int (i1 &&& (3 : Int32))), .val (.ref b145), .unset, .unset, .unset, .unset, .unset, .unset] [(.int (((i2.toUInt32 >>> ((16 : Int32) &&& 31).toUInt32).toInt32).toInt8.toInt32)), (.int ((i1 &&& (3 : Int32)) + (2 : Int32))), (.ref b145)]))
  obtain ⟨ca148, Ar148, Sz148, Ht148⟩ := id V147
  have hin148 : ¬ (((i1 &&& (3 : Int32)) + (2 : Int32)) < 0 ∨ ca148.slots.size ≤ (((i1 &&& (3 : Int32)) + (2 : Int32))).toNatClampNeg) := by rw [Sz148]; exact own_o2 i1
  obtain ⟨T148, h148, X148, e148, W148, st148⟩ := stB X147 hx hZ e147 Ar148 (j := ((i1 &&& (3 : Int32)) + (2 : Int32))) hin148 (g := (mkF m 54 #[.val (.int i0), .val (.int i1), .val (.int i2), .val (.int i3), .val (.int i4), .val (.int i5), .val (.int (i1 &&& (3 : Int32))), .val (.ref b145), .unset, .unset, .unset, .unset, .unset, .unset] [(.int (((i2.toUInt32 >>> ((16 : Int32) &&& 31).toUInt32).toInt32).toInt8.toInt32)), (.int ((i1 &&& (3 : Int32)) + (2 : Int32))), (.ref b145)])) rfl rfl (hb hby at_54)
  have V148 : own_AF Z h148 b145 .byte 8 (fun i => if i = (((i1 &&& (3 : Int32)) + (2 : Int32))).toNatClampNeg then (nar .byte (((i2.toUInt32 >>> ((16 : Int32) &&& 31).toUInt32).toInt32).toInt8.toInt32)) else gf147 i) := own_AFset Ar148 Sz148 Ht148 W148
  obtain ⟨gf148, hgf148⟩ : ∃ g' : Nat → Int32, g' = (fun i => if i = (((i1 &&& (3 : Int32)) + (2 : Int32))).toNatClampNeg then (nar .byte (((i2.toUInt32 >>> ((16 : Int32) &&& 31).toUInt32).toInt32).toInt8.toInt32)) else gf147 i) := ⟨_, rfl⟩
  rw [← hgf148] at V148
  have N148 := Fr.snoc X148 N147 fr145
  have Z0148 : n0 ≤ h148.size := Nat.le_trans Z0147 (Nat.le_of_eq W148.size.symm)
  refine own_step st148 ?_
  show own_Fin p e below s Q 16 128 (T148.setTop (mkF m 55 #[.val (.int i0), .val (.int i1), .val (.int i2), .val (.int i3), .val (.int i4), .val (.int i5), .val (.int (i1 &&& (3 : Int32))), .val (.ref b145), .unset, .unset, .unset, .unset, .unset, .unset] []))
  refine own_step (fun t k => XS.aload X148.here hx rfl (hb hby at_55) rfl rfl k) ?_
  show own_Fin p e below s Q 16 128 (T148.setTop (mkF m 57 #[.val (.int i0), .val (.int i1), .val (.int i2), .val (.int i3), .val (.int i4), .val (.int i5), .val (.int (i1 &&& (3 : Int32))), .val (.ref b145), .unset, .unset, .unset, .unset, .unset, .unset] [(.ref b145)]))
  refine own_step (fun t k => XS.iload X148.here hx rfl (hb hby at_57) rfl  k) ?_
  show own_Fin p e below s Q 16 128 (T148.setTop (mkF m 59 #[.val (.int i0), .val (.int i1), .val (.int i2), .val (.int i3), .val (.int i4), .val (.int i5), .val (.int (i1 &&& (3 : Int32))), .val (.ref b145), .unset, .unset, .unset, .unset, .unset, .unset] [(.int (i1 &&& (3 : Int32))), (.ref b145)]))
  refine own_step (fun t k => XS.iconst X148.here hx rfl (hb hby at_59) k) ?_
  show own_Fin p e below s Q 16 128 (T148.setTop (mkF m 60 #[.val (.int i0), .val (.int i1), .val (.int i2), .val (.int i3), .val (.int i4), .val (.int i5), .val (.int (i1 &&& (3 : Int32))), .val (.ref b145), .unset, .unset, .unset, .unset, .unset, .unset] [(.int (3 : Int32)), (.int (i1 &&& (3 : Int32))), (.ref b145)]))
  refine own_step (fun t k => XS.iadd X148.here hx rfl (hb hby at_60) rfl k) ?_
  show own_Fin p e below s Q 16 128 (T148.setTop (mkF m 61 #[.val (.int i0), .val (.int i1), .val (.int i2), .val (.int i3), .val (.int i4), .val (.int i5), .val (.int (i1 &&& (3 : Int32))), .val (.ref b145), .unset, .unset, .unset, .unset, .unset, .unset] [(.int ((i1 &&& (3 : Int32)) + (3 : Int32))), (.ref b145)]))
  refine own_step (fun t k => XS.iloadN X148.here hx rfl (hb hby at_61) rfl  k) ?_
  show own_Fin p e below s Q 16 128 (T148.setTop (mkF m 62 #[.val (.int i0), .val (.int i1), .val (.int i2), .val (.int i3), .val (.int i4), .val (.int i5), .val (.int (i1 &&& (3 : Int32))), .val (.ref b145), .unset, .unset, .unset, .unset, .unset, .unset] [(.int i2), (.int ((i1 &&& (3 : Int32)) + (3 : Int32))), (.ref b145)]))
  refine own_step (fun t k => XS.bipush X148.here hx rfl (hb hby at_62) k) ?_
  show own_Fin p e below s Q 16 128 (T148.setTop (mkF m 64 #[.val (.int i0), .val (.int i1), .val (.int i2), .val (.int i3), .val (.int i4), .val (.int i5), .val (.int (i1 &&& (3 : Int32))), .val (.ref b145), .unset, .unset, .unset, .unset, .unset, .unset] [(.int (24 : Int32)), (.int i2), (.int ((i1 &&& (3 : Int32)) + (3 : Int32))), (.ref b145)]))
  refine own_step (fun t k => XS.iushr X148.here hx rfl (hb hby at_64) rfl k) ?_
  show own_Fin p e below s Q 16 128 (T148.setTop (mkF m 65 #[.val (.int i0), .val (.int i1), .val (.int i2), .val (.int i3), .val (.int i4), .val (.int i5), .val (.int (i1 &&& (3 : Int32))), .val (.ref b145), .unset, .unset, .unset, .unset, .unset, .unset] [(.int ((i2.toUInt32 >>> ((24 : Int32) &&& 31).toUInt32).toInt32)), (.int ((i1 &&& (3 : Int32)) + (3 : Int32))), (.ref b145)]))
  refine own_step (fun t k => XS.i2b X148.here hx rfl (hb hby at_65) rfl k) ?_
  show own_Fin p e below s Q 16 128 (T148.setTop (mkF m 66 #[.val (.int i0), .val (.int i1), .val (.int i2), .val (.int i3), .val (.int i4), .val (.int i5), .val (.int (i1 &&& (3 : Int32))), .val (.ref b145), .unset, .unset, .unset, .unset, .unset, .unset] [(.int (((i2.toUInt32 >>> ((24 : Int32) &&& 31).toUInt32).toInt32).toInt8.toInt32)), (.int ((i1 &&& (3 : Int32)) + (3 : Int32))), (.ref b145)]))
  obtain ⟨ca149, Ar149, Sz149, Ht149⟩ := id V148
  have hin149 : ¬ (((i1 &&& (3 : Int32)) + (3 : Int32)) < 0 ∨ ca149.slots.size ≤ (((i1 &&& (3 : Int32)) + (3 : Int32))).toNatClampNeg) := by rw [Sz149]; exact own_o3 i1
  obtain ⟨T149, h149, X149, e149, W149, st149⟩ := stB X148 hx hZ e148 Ar149 (j := ((i1 &&& (3 : Int32)) + (3 : Int32))) hin149 (g := (mkF m 66 #[.val (.int i0), .val (.int i1), .val (.int i2), .val (.int i3), .val (.int i4), .val (.int i5), .val (.int (i1 &&& (3 : Int32))), .val (.ref b145), .unset, .unset, .unset, .unset, .unset, .unset] [(.int (((i2.toUInt32 >>> ((24 : Int32) &&& 31).toUInt32).toInt32).toInt8.toInt32)), (.int ((i1 &&& (3 : Int32)) + (3 : Int32))), (.ref b145)])) rfl rfl (hb hby at_66)
  have V149 : own_AF Z h149 b145 .byte 8 (fun i => if i = (((i1 &&& (3 : Int32)) + (3 : Int32))).toNatClampNeg then (nar .byte (((i2.toUInt32 >>> ((24 : Int32) &&& 31).toUInt32).toInt32).toInt8.toInt32)) else gf148 i) := own_AFset Ar149 Sz149 Ht149 W149
  obtain ⟨gf149, hgf149⟩ : ∃ g' : Nat → Int32, g' = (fun i => if i = (((i1 &&& (3 : Int32)) + (3 : Int32))).toNatClampNeg then (nar .byte (((i2.toUInt32 >>> ((24 : Int32) &&& 31).toUInt32).toInt32).toInt8.toInt32)) else gf148 i) := ⟨_, rfl⟩
  rw [← hgf149] at V149
  have N149 := Fr.snoc X149 N148 fr145
  have Z0149 : n0 ≤ h149.size := Nat.le_trans Z0148 (Nat.le_of_eq W149.size.symm)
  refine own_step st149 ?_
  show own_Fin p e below s Q 16 128 (T149.setTop (mkF m 67 #[.val (.int i0), .val (.int i1), .val (.int i2), .val (.int i3), .val (.int i4), .val (.int i5), .val (.int (i1 &&& (3 : Int32))), .val (.ref b145), .unset, .unset, .unset, .unset, .unset, .unset] []))
  refine own_step (fun t k => XS.sipush X149.here hx rfl (hb hby at_67) k) ?_
  show own_Fin p e below s Q 16 128 (T149.setTop (mkF m 70 #[.val (.int i0), .val (.int i1), .val (.int i2), .val (.int i3), .val (.int i4), .val (.int i5), .val (.int (i1 &&& (3 : Int32))), .val (.ref b145), .unset, .unset, .unset, .unset, .unset, .unset] [(.int (128 : Int32))]))
  refine own_step (fun t k => XS.iloadN X149.here hx rfl (hb hby at_70) rfl  k) ?_
  show own_Fin p e below s Q 16 128 (T149.setTop (mkF m 71 #[.val (.int i0), .val (.int i1), .val (.int i2), .val (.int i3), .val (.int i4), .val (.int i5), .val (.int (i1 &&& (3 : Int32))), .val (.ref b145), .unset, .unset, .unset, .unset, .unset, .unset] [(.int i3), (.int (128 : Int32))]))
  refine own_step (X149.ldcInt hx hown (mvT hZ (hw _ (List.mem_of_getElem? (i := 1) rfl))) (g := (mkF m 71 #[.val (.int i0), .val (.int i1), .val (.int i2), .val (.int i3), .val (.int i4), .val (.int i5), .val (.int (i1 &&& (3 : Int32))), .val (.ref b145), .unset, .unset, .unset, .unset, .unset, .unset] [(.int i3), (.int (128 : Int32))])) rfl (hb hby at_71)) ?_
  show own_Fin p e below s Q 16 128 (T149.setTop (mkF m 73 #[.val (.int i0), .val (.int i1), .val (.int i2), .val (.int i3), .val (.int i4), .val (.int i5), .val (.int (i1 &&& (3 : Int32))), .val (.ref b145), .unset, .unset, .unset, .unset, .unset, .unset] [(.int (2147483647 : Int32)), (.int i3), (.int (128 : Int32))]))
  refine own_step (fun t k => XS.iand X149.here hx rfl (hb hby at_73) rfl k) ?_
  show own_Fin p e below s Q 16 128 (T149.setTop (mkF m 74 #[.val (.int i0), .val (.int i1), .val (.int i2), .val (.int i3), .val (.int i4), .val (.int i5), .val (.int (i1 &&& (3 : Int32))), .val (.ref b145), .unset, .unset, .unset, .unset, .unset, .unset] [(.int (i3 &&& (2147483647 : Int32))), (.int (128 : Int32))]))
  refine own_step (X149.ldcInt hx hown (mvT hZ (hw _ (List.mem_of_getElem? (i := 2) rfl))) (g := (mkF m 74 #[.val (.int i0), .val (.int i1), .val (.int i2), .val (.int i3), .val (.int i4), .val (.int i5), .val (.int (i1 &&& (3 : Int32))), .val (.ref b145), .unset, .unset, .unset, .unset, .unset, .unset] [(.int (i3 &&& (2147483647 : Int32))), (.int (128 : Int32))])) rfl (hb hby at_74)) ?_
  show own_Fin p e below s Q 16 128 (T149.setTop (mkF m 76 #[.val (.int i0), .val (.int i1), .val (.int i2), .val (.int i3), .val (.int i4), .val (.int i5), .val (.int (i1 &&& (3 : Int32))), .val (.ref b145), .unset, .unset, .unset, .unset, .unset, .unset] [(.int (1113984 : Int32)), (.int (i3 &&& (2147483647 : Int32))), (.int (128 : Int32))]))
  refine own_step (fun t k => XS.irem X149.here hx rfl (hb hby at_76) rfl (by decide) k) ?_
  rw [irem_eq_mod (i3 &&& (2147483647 : Int32)) (1113984 : Int32)]
  show own_Fin p e below s Q 16 128 (T149.setTop (mkF m 77 #[.val (.int i0), .val (.int i1), .val (.int i2), .val (.int i3), .val (.int i4), .val (.int i5), .val (.int (i1 &&& (3 : Int32))), .val (.ref b145), .unset, .unset, .unset, .unset, .unset, .unset] [(.int ((i3 &&& (2147483647 : Int32)) % (1113984 : Int32))), (.int (128 : Int32))]))
  refine own_step (fun t k => XS.iadd X149.here hx rfl (hb hby at_77) rfl k) ?_
  show own_Fin p e below s Q 16 128 (T149.setTop (mkF m 78 #[.val (.int i0), .val (.int i1), .val (.int i2), .val (.int i3), .val (.int i4), .val (.int i5), .val (.int (i1 &&& (3 : Int32))), .val (.ref b145), .unset, .unset, .unset, .unset, .unset, .unset] [(.int ((128 : Int32) + ((i3 &&& (2147483647 : Int32)) % (1113984 : Int32))))]))
  refine own_step (fun t k => XS.istore X149.here hx rfl (hb hby at_78) rfl (l' := #[.val (.int i0), .val (.int i1), .val (.int i2), .val (.int i3), .val (.int i4), .val (.int i5), .val (.int (i1 &&& (3 : Int32))), .val (.ref b145), .val (.int ((128 : Int32) + ((i3 &&& (2147483647 : Int32)) % (1113984 : Int32)))), .unset, .unset, .unset, .unset, .unset]) rfl k) ?_
  show own_Fin p e below s Q 16 128 (T149.setTop (mkF m 80 #[.val (.int i0), .val (.int i1), .val (.int i2), .val (.int i3), .val (.int i4), .val (.int i5), .val (.int (i1 &&& (3 : Int32))), .val (.ref b145), .val (.int ((128 : Int32) + ((i3 &&& (2147483647 : Int32)) % (1113984 : Int32)))), .unset, .unset, .unset, .unset, .unset] []))
  refine own_step (fun t k => XS.bipush X149.here hx rfl (hb hby at_80) k) ?_
  show own_Fin p e below s Q 16 128 (T149.setTop (mkF m 82 #[.val (.int i0), .val (.int i1), .val (.int i2), .val (.int i3), .val (.int i4), .val (.int i5), .val (.int (i1 &&& (3 : Int32))), .val (.ref b145), .val (.int ((128 : Int32) + ((i3 &&& (2147483647 : Int32)) % (1113984 : Int32)))), .unset, .unset, .unset, .unset, .unset] [(.int (8 : Int32))]))
  obtain ⟨T150, h150, k150, X150, e150, E150, AA150, st150⟩ := newP X149 hx hZ (hw _ (List.mem_of_getElem? (i := 0) rfl)) e149 (g := (mkF m 82 #[.val (.int i0), .val (.int i1), .val (.int i2), .val (.int i3), .val (.int i4), .val (.int i5), .val (.int (i1 &&& (3 : Int32))), .val (.ref b145), .val (.int ((128 : Int32) + ((i3 &&& (2147483647 : Int32)) % (1113984 : Int32)))), .unset, .unset, .unset, .unset, .unset] [(.int (8 : Int32))])) rfl (hb hby at_82) rfl (by decide) (cap := 8) (by decide) (by decide) (show cells + 1 + 1 ≤ 16 from (Nat.le_trans (Nat.add_le_add_right hc 2) (by decide))) (show slots + 8 + 8 ≤ 128 from (Nat.le_trans (Nat.add_le_add_right hs 16) (by decide)))
  obtain ⟨b150, gg150⟩ : ∃ z, z = h149.size := ⟨_, rfl⟩
  rw [← gg150] at AA150 st150
  have V150 : own_AF Z h150 b150 .byte 8 (fun _ => 0) := own_AFnew AA150 (by decide)
  have fr150 : n0 ≤ b150 := Nat.le_trans Z0149 (Nat.le_of_eq gg150.symm)
  have Z0150 : n0 ≤ h150.size := Nat.le_trans Z0149 E150.1
  have neb145_150 : b145 ≠ b150 := Nat.ne_of_lt (Nat.lt_of_lt_of_le V149.lt (Nat.le_of_eq gg150.symm))
  have V150_b145 := own_AFext V149 E150
  refine own_step st150 ?_
  show own_Fin p e below s Q 16 128 (T150.setTop (mkF m 84 #[.val (.int i0), .val (.int i1), .val (.int i2), .val (.int i3), .val (.int i4), .val (.int i5), .val (.int (i1 &&& (3 : Int32))), .val (.ref b145), .val (.int ((128 : Int32) + ((i3 &&& (2147483647 : Int32)) % (1113984 : Int32)))), .unset, .unset, .unset, .unset, .unset] [(.ref b150)]))
  refine own_step (fun t k => XS.astore X150.here hx rfl (hb hby at_84) rfl rfl (l' := #[.val (.int i0), .val (.int i1), .val (.int i2), .val (.int i3), .val (.int i4), .val (.int i5), .val (.int (i1 &&& (3 : Int32))), .val (.ref b145), .val (.int ((128 : Int32) + ((i3 &&& (2147483647 : Int32)) % (1113984 : Int32)))), .val (.ref b150), .unset, .unset, .unset, .unset]) rfl k) ?_
  show own_Fin p e below s Q 16 128 (T150.setTop (mkF m 86 #[.val (.int i0), .val (.int i1), .val (.int i2), .val (.int i3), .val (.int i4), .val (.int i5), .val (.int (i1 &&& (3 : Int32))), .val (.ref b145), .val (.int ((128 : Int32) + ((i3 &&& (2147483647 : Int32)) % (1113984 : Int32)))), .val (.ref b150), .unset, .unset, .unset, .unset] []))
  refine own_step (fun t k => XS.aload X150.here hx rfl (hb hby at_86) rfl rfl k) ?_
  show own_Fin p e below s Q 16 128 (T150.setTop (mkF m 88 #[.val (.int i0), .val (.int i1), .val (.int i2), .val (.int i3), .val (.int i4), .val (.int i5), .val (.int (i1 &&& (3 : Int32))), .val (.ref b145), .val (.int ((128 : Int32) + ((i3 &&& (2147483647 : Int32)) % (1113984 : Int32)))), .val (.ref b150), .unset, .unset, .unset, .unset] [(.ref b150)]))
  refine own_step (fun t k => XS.iload X150.here hx rfl (hb hby at_88) rfl  k) ?_
  show own_Fin p e below s Q 16 128 (T150.setTop (mkF m 90 #[.val (.int i0), .val (.int i1), .val (.int i2), .val (.int i3), .val (.int i4), .val (.int i5), .val (.int (i1 &&& (3 : Int32))), .val (.ref b145), .val (.int ((128 : Int32) + ((i3 &&& (2147483647 : Int32)) % (1113984 : Int32)))), .val (.ref b150), .unset, .unset, .unset, .unset] [(.int (i1 &&& (3 : Int32))), (.ref b150)]))
  refine own_step (fun t k => XS.iload X150.here hx rfl (hb hby at_90) rfl  k) ?_
  show own_Fin p e below s Q 16 128 (T150.setTop (mkF m 92 #[.val (.int i0), .val (.int i1), .val (.int i2), .val (.int i3), .val (.int i4), .val (.int i5), .val (.int (i1 &&& (3 : Int32))), .val (.ref b145), .val (.int ((128 : Int32) + ((i3 &&& (2147483647 : Int32)) % (1113984 : Int32)))), .val (.ref b150), .unset, .unset, .unset, .unset] [(.int i4), (.int (i1 &&& (3 : Int32))), (.ref b150)]))
  refine own_step (fun t k => XS.i2b X150.here hx rfl (hb hby at_92) rfl k) ?_
  show own_Fin p e below s Q 16 128 (T150.setTop (mkF m 93 #[.val (.int i0), .val (.int i1), .val (.int i2), .val (.int i3), .val (.int i4), .val (.int i5), .val (.int (i1 &&& (3 : Int32))), .val (.ref b145), .val (.int ((128 : Int32) + ((i3 &&& (2147483647 : Int32)) % (1113984 : Int32)))), .val (.ref b150), .unset, .unset, .unset, .unset] [(.int (i4.toInt8.toInt32)), (.int (i1 &&& (3 : Int32))), (.ref b150)]))
  obtain ⟨ca151, Ar151, Sz151, Ht151⟩ := id V150
  have hin151 : ¬ ((i1 &&& (3 : Int32)) < 0 ∨ ca151.slots.size ≤ ((i1 &&& (3 : Int32))).toNatClampNeg) := by rw [Sz151]; exact own_o0 i1
  obtain ⟨T151, h151, X151, e151, W151, st151⟩ := stB X150 hx hZ e150 Ar151 (j := (i1 &&& (3 : Int32))) hin151 (g := (mkF m 93 #[.val (.int i0), .val (.int i1), .val (.int i2), .val (.int i3), .val (.int i4), .val (.int i5), .val (.int (i1 &&& (3 : Int32))), .val (.ref b145), .val (.int ((128 : Int32) + ((i3 &&& (2147483647 : Int32)) % (1113984 : Int32)))), .val (.ref b150), .unset, .unset, .unset, .unset] [(.int (i4.toInt8.toInt32)), (.int (i1 &&& (3 : Int32))), (.ref b150)])) rfl rfl (hb hby at_93)
  have V151 : own_AF Z h151 b150 .byte 8 (fun i => if i = ((i1 &&& (3 : Int32))).toNatClampNeg then (nar .byte (i4.toInt8.toInt32)) else (fun _ => 0) i) := own_AFset Ar151 Sz151 Ht151 W151
  obtain ⟨gf151, hgf151⟩ : ∃ g' : Nat → Int32, g' = (fun i => if i = ((i1 &&& (3 : Int32))).toNatClampNeg then (nar .byte (i4.toInt8.toInt32)) else (fun _ => 0) i) := ⟨_, rfl⟩
  rw [← hgf151] at V151
  have N151 := Fr.snoc X151 N149 fr150
  have Z0151 : n0 ≤ h151.size := Nat.le_trans Z0150 (Nat.le_of_eq W151.size.symm)
  have V151_b145 := own_AFoth V150_b145 W151 neb145_150
  refine own_step st151 ?_
  show own_Fin p e below s Q 16 128 (T151.setTop (mkF m 94 #[.val (.int i0), .val (.int i1), .val (.int i2), .val (.int i3), .val (.int i4), .val (.int i5), .val (.int (i1 &&& (3 : Int32))), .val (.ref b145), .val (.int ((128 : Int32) + ((i3 &&& (2147483647 : Int32)) % (1113984 : Int32)))), .val (.ref b150), .unset, .unset, .unset, .unset] []))
  refine own_step (fun t k => XS.aload X151.here hx rfl (hb hby at_94) rfl rfl k) ?_
  show own_Fin p e below s Q 16 128 (T151.setTop (mkF m 96 #[.val (.int i0), .val (.int i1), .val (.int i2), .val (.int i3), .val (.int i4), .val (.int i5), .val (.int (i1 &&& (3 : Int32))), .val (.ref b145), .val (.int ((128 : Int32) + ((i3 &&& (2147483647 : Int32)) % (1113984 : Int32)))), .val (.ref b150), .unset, .unset, .unset, .unset] [(.ref b150)]))
  refine own_step (fun t k => XS.iload X151.here hx rfl (hb hby at_96) rfl  k) ?_
  show own_Fin p e below s Q 16 128 (T151.setTop (mkF m 98 #[.val (.int i0), .val (.int i1), .val (.int i2), .val (.int i3), .val (.int i4), .val (.int i5), .val (.int (i1 &&& (3 : Int32))), .val (.ref b145), .val (.int ((128 : Int32) + ((i3 &&& (2147483647 : Int32)) % (1113984 : Int32)))), .val (.ref b150), .unset, .unset, .unset, .unset] [(.int (i1 &&& (3 : Int32))), (.ref b150)]))
  refine own_step (fun t k => XS.iconst X151.here hx rfl (hb hby at_98) k) ?_
  show own_Fin p e below s Q 16 128 (T151.setTop (mkF m 99 #[.val (.int i0), .val (.int i1), .val (.int i2), .val (.int i3), .val (.int i4), .val (.int i5), .val (.int (i1 &&& (3 : Int32))), .val (.ref b145), .val (.int ((128 : Int32) + ((i3 &&& (2147483647 : Int32)) % (1113984 : Int32)))), .val (.ref b150), .unset, .unset, .unset, .unset] [(.int (1 : Int32)), (.int (i1 &&& (3 : Int32))), (.ref b150)]))
  refine own_step (fun t k => XS.iadd X151.here hx rfl (hb hby at_99) rfl k) ?_
  show own_Fin p e below s Q 16 128 (T151.setTop (mkF m 100 #[.val (.int i0), .val (.int i1), .val (.int i2), .val (.int i3), .val (.int i4), .val (.int i5), .val (.int (i1 &&& (3 : Int32))), .val (.ref b145), .val (.int ((128 : Int32) + ((i3 &&& (2147483647 : Int32)) % (1113984 : Int32)))), .val (.ref b150), .unset, .unset, .unset, .unset] [(.int ((i1 &&& (3 : Int32)) + (1 : Int32))), (.ref b150)]))
  refine own_step (fun t k => XS.iload X151.here hx rfl (hb hby at_100) rfl  k) ?_
  show own_Fin p e below s Q 16 128 (T151.setTop (mkF m 102 #[.val (.int i0), .val (.int i1), .val (.int i2), .val (.int i3), .val (.int i4), .val (.int i5), .val (.int (i1 &&& (3 : Int32))), .val (.ref b145), .val (.int ((128 : Int32) + ((i3 &&& (2147483647 : Int32)) % (1113984 : Int32)))), .val (.ref b150), .unset, .unset, .unset, .unset] [(.int i4), (.int ((i1 &&& (3 : Int32)) + (1 : Int32))), (.ref b150)]))
  refine own_step (fun t k => XS.bipush X151.here hx rfl (hb hby at_102) k) ?_
  show own_Fin p e below s Q 16 128 (T151.setTop (mkF m 104 #[.val (.int i0), .val (.int i1), .val (.int i2), .val (.int i3), .val (.int i4), .val (.int i5), .val (.int (i1 &&& (3 : Int32))), .val (.ref b145), .val (.int ((128 : Int32) + ((i3 &&& (2147483647 : Int32)) % (1113984 : Int32)))), .val (.ref b150), .unset, .unset, .unset, .unset] [(.int (8 : Int32)), (.int i4), (.int ((i1 &&& (3 : Int32)) + (1 : Int32))), (.ref b150)]))
  refine own_step (fun t k => XS.iushr X151.here hx rfl (hb hby at_104) rfl k) ?_
  show own_Fin p e below s Q 16 128 (T151.setTop (mkF m 105 #[.val (.int i0), .val (.int i1), .val (.int i2), .val (.int i3), .val (.int i4), .val (.int i5), .val (.int (i1 &&& (3 : Int32))), .val (.ref b145), .val (.int ((128 : Int32) + ((i3 &&& (2147483647 : Int32)) % (1113984 : Int32)))), .val (.ref b150), .unset, .unset, .unset, .unset] [(.int ((i4.toUInt32 >>> ((8 : Int32) &&& 31).toUInt32).toInt32)), (.int ((i1 &&& (3 : Int32)) + (1 : Int32))), (.ref b150)]))
  refine own_step (fun t k => XS.i2b X151.here hx rfl (hb hby at_105) rfl k) ?_
  show own_Fin p e below s Q 16 128 (T151.setTop (mkF m 106 #[.val (.int i0), .val (.int i1), .val (.int i2), .val (.int i3), .val (.int i4), .val (.int i5), .val (.int (i1 &&& (3 : Int32))), .val (.ref b145), .val (.int ((128 : Int32) + ((i3 &&& (2147483647 : Int32)) % (1113984 : Int32)))), .val (.ref b150), .unset, .unset, .unset, .unset] [(.int (((i4.toUInt32 >>> ((8 : Int32) &&& 31).toUInt32).toInt32).toInt8.toInt32)), (.int ((i1 &&& (3 : Int32)) + (1 : Int32))), (.ref b150)]))
  obtain ⟨ca152, Ar152, Sz152, Ht152⟩ := id V151
  have hin152 : ¬ (((i1 &&& (3 : Int32)) + (1 : Int32)) < 0 ∨ ca152.slots.size ≤ (((i1 &&& (3 : Int32)) + (1 : Int32))).toNatClampNeg) := by rw [Sz152]; exact own_o1 i1
  obtain ⟨T152, h152, X152, e152, W152, st152⟩ := stB X151 hx hZ e151 Ar152 (j := ((i1 &&& (3 : Int32)) + (1 : Int32))) hin152 (g := (mkF m 106 #[.val (.int i0), .val (.int i1), .val (.int i2), .val (.int i3), .val (.int i4), .val (.int i5), .val (.int (i1 &&& (3 : Int32))), .val (.ref b145), .val (.int ((128 : Int32) + ((i3 &&& (2147483647 : Int32)) % (1113984 : Int32)))), .val (.ref b150), .unset, .unset, .unset, .unset] [(.int (((i4.toUInt32 >>> ((8 : Int32) &&& 31).toUInt32).toInt32).toInt8.toInt32)), (.int ((i1 &&& (3 : Int32)) + (1 : Int32))), (.ref b150)])) rfl rfl (hb hby at_106)
  have V152 : own_AF Z h152 b150 .byte 8 (fun i => if i = (((i1 &&& (3 : Int32)) + (1 : Int32))).toNatClampNeg then (nar .byte (((i4.toUInt32 >>> ((8 : Int32) &&& 31).toUInt32).toInt32).toInt8.toInt32)) else gf151 i) := own_AFset Ar152 Sz152 Ht152 W152
  obtain ⟨gf152, hgf152⟩ : ∃ g' : Nat → Int32, g' = (fun i => if i = (((i1 &&& (3 : Int32)) + (1 : Int32))).toNatClampNeg then (nar .byte (((i4.toUInt32 >>> ((8 : Int32) &&& 31).toUInt32).toInt32).toInt8.toInt32)) else gf151 i) := ⟨_, rfl⟩
  rw [← hgf152] at V152
  have N152 := Fr.snoc X152 N151 fr150
  have Z0152 : n0 ≤ h152.size := Nat.le_trans Z0151 (Nat.le_of_eq W152.size.symm)
  have V152_b145 := own_AFoth V151_b145 W152 neb145_150
  refine own_step st152 ?_
  show own_Fin p e below s Q 16 128 (T152.setTop (mkF m 107 #[.val (.int i0), .val (.int i1), .val (.int i2), .val (.int i3), .val (.int i4), .val (.int i5), .val (.int (i1 &&& (3 : Int32))), .val (.ref b145), .val (.int ((128 : Int32) + ((i3 &&& (2147483647 : Int32)) % (1113984 : Int32)))), .val (.ref b150), .unset, .unset, .unset, .unset] []))
  refine own_step (fun t k => XS.aload X152.here hx rfl (hb hby at_107) rfl rfl k) ?_
  show own_Fin p e below s Q 16 128 (T152.setTop (mkF m 109 #[.val (.int i0), .val (.int i1), .val (.int i2), .val (.int i3), .val (.int i4), .val (.int i5), .val (.int (i1 &&& (3 : Int32))), .val (.ref b145), .val (.int ((128 : Int32) + ((i3 &&& (2147483647 : Int32)) % (1113984 : Int32)))), .val (.ref b150), .unset, .unset, .unset, .unset] [(.ref b150)]))
  refine own_step (fun t k => XS.iload X152.here hx rfl (hb hby at_109) rfl  k) ?_
  show own_Fin p e below s Q 16 128 (T152.setTop (mkF m 111 #[.val (.int i0), .val (.int i1), .val (.int i2), .val (.int i3), .val (.int i4), .val (.int i5), .val (.int (i1 &&& (3 : Int32))), .val (.ref b145), .val (.int ((128 : Int32) + ((i3 &&& (2147483647 : Int32)) % (1113984 : Int32)))), .val (.ref b150), .unset, .unset, .unset, .unset] [(.int (i1 &&& (3 : Int32))), (.ref b150)]))
  refine own_step (fun t k => XS.iconst X152.here hx rfl (hb hby at_111) k) ?_
  show own_Fin p e below s Q 16 128 (T152.setTop (mkF m 112 #[.val (.int i0), .val (.int i1), .val (.int i2), .val (.int i3), .val (.int i4), .val (.int i5), .val (.int (i1 &&& (3 : Int32))), .val (.ref b145), .val (.int ((128 : Int32) + ((i3 &&& (2147483647 : Int32)) % (1113984 : Int32)))), .val (.ref b150), .unset, .unset, .unset, .unset] [(.int (2 : Int32)), (.int (i1 &&& (3 : Int32))), (.ref b150)]))
  refine own_step (fun t k => XS.iadd X152.here hx rfl (hb hby at_112) rfl k) ?_
  show own_Fin p e below s Q 16 128 (T152.setTop (mkF m 113 #[.val (.int i0), .val (.int i1), .val (.int i2), .val (.int i3), .val (.int i4), .val (.int i5), .val (.int (i1 &&& (3 : Int32))), .val (.ref b145), .val (.int ((128 : Int32) + ((i3 &&& (2147483647 : Int32)) % (1113984 : Int32)))), .val (.ref b150), .unset, .unset, .unset, .unset] [(.int ((i1 &&& (3 : Int32)) + (2 : Int32))), (.ref b150)]))
  refine own_step (fun t k => XS.iload X152.here hx rfl (hb hby at_113) rfl  k) ?_
  show own_Fin p e below s Q 16 128 (T152.setTop (mkF m 115 #[.val (.int i0), .val (.int i1), .val (.int i2), .val (.int i3), .val (.int i4), .val (.int i5), .val (.int (i1 &&& (3 : Int32))), .val (.ref b145), .val (.int ((128 : Int32) + ((i3 &&& (2147483647 : Int32)) % (1113984 : Int32)))), .val (.ref b150), .unset, .unset, .unset, .unset] [(.int i4), (.int ((i1 &&& (3 : Int32)) + (2 : Int32))), (.ref b150)]))
  refine own_step (fun t k => XS.bipush X152.here hx rfl (hb hby at_115) k) ?_
  show own_Fin p e below s Q 16 128 (T152.setTop (mkF m 117 #[.val (.int i0), .val (.int i1), .val (.int i2), .val (.int i3), .val (.int i4), .val (.int i5), .val (.int (i1 &&& (3 : Int32))), .val (.ref b145), .val (.int ((128 : Int32) + ((i3 &&& (2147483647 : Int32)) % (1113984 : Int32)))), .val (.ref b150), .unset, .unset, .unset, .unset] [(.int (16 : Int32)), (.int i4), (.int ((i1 &&& (3 : Int32)) + (2 : Int32))), (.ref b150)]))
  refine own_step (fun t k => XS.iushr X152.here hx rfl (hb hby at_117) rfl k) ?_
  show own_Fin p e below s Q 16 128 (T152.setTop (mkF m 118 #[.val (.int i0), .val (.int i1), .val (.int i2), .val (.int i3), .val (.int i4), .val (.int i5), .val (.int (i1 &&& (3 : Int32))), .val (.ref b145), .val (.int ((128 : Int32) + ((i3 &&& (2147483647 : Int32)) % (1113984 : Int32)))), .val (.ref b150), .unset, .unset, .unset, .unset] [(.int ((i4.toUInt32 >>> ((16 : Int32) &&& 31).toUInt32).toInt32)), (.int ((i1 &&& (3 : Int32)) + (2 : Int32))), (.ref b150)]))
  refine own_step (fun t k => XS.i2b X152.here hx rfl (hb hby at_118) rfl k) ?_
  show own_Fin p e below s Q 16 128 (T152.setTop (mkF m 119 #[.val (.int i0), .val (.int i1), .val (.int i2), .val (.int i3), .val (.int i4), .val (.int i5), .val (.int (i1 &&& (3 : Int32))), .val (.ref b145), .val (.int ((128 : Int32) + ((i3 &&& (2147483647 : Int32)) % (1113984 : Int32)))), .val (.ref b150), .unset, .unset, .unset, .unset] [(.int (((i4.toUInt32 >>> ((16 : Int32) &&& 31).toUInt32).toInt32).toInt8.toInt32)), (.int ((i1 &&& (3 : Int32)) + (2 : Int32))), (.ref b150)]))
  obtain ⟨ca153, Ar153, Sz153, Ht153⟩ := id V152
  have hin153 : ¬ (((i1 &&& (3 : Int32)) + (2 : Int32)) < 0 ∨ ca153.slots.size ≤ (((i1 &&& (3 : Int32)) + (2 : Int32))).toNatClampNeg) := by rw [Sz153]; exact own_o2 i1
  obtain ⟨T153, h153, X153, e153, W153, st153⟩ := stB X152 hx hZ e152 Ar153 (j := ((i1 &&& (3 : Int32)) + (2 : Int32))) hin153 (g := (mkF m 119 #[.val (.int i0), .val (.int i1), .val (.int i2), .val (.int i3), .val (.int i4), .val (.int i5), .val (.int (i1 &&& (3 : Int32))), .val (.ref b145), .val (.int ((128 : Int32) + ((i3 &&& (2147483647 : Int32)) % (1113984 : Int32)))), .val (.ref b150), .unset, .unset, .unset, .unset] [(.int (((i4.toUInt32 >>> ((16 : Int32) &&& 31).toUInt32).toInt32).toInt8.toInt32)), (.int ((i1 &&& (3 : Int32)) + (2 : Int32))), (.ref b150)])) rfl rfl (hb hby at_119)
  have V153 : own_AF Z h153 b150 .byte 8 (fun i => if i = (((i1 &&& (3 : Int32)) + (2 : Int32))).toNatClampNeg then (nar .byte (((i4.toUInt32 >>> ((16 : Int32) &&& 31).toUInt32).toInt32).toInt8.toInt32)) else gf152 i) := own_AFset Ar153 Sz153 Ht153 W153
  obtain ⟨gf153, hgf153⟩ : ∃ g' : Nat → Int32, g' = (fun i => if i = (((i1 &&& (3 : Int32)) + (2 : Int32))).toNatClampNeg then (nar .byte (((i4.toUInt32 >>> ((16 : Int32) &&& 31).toUInt32).toInt32).toInt8.toInt32)) else gf152 i) := ⟨_, rfl⟩
  rw [← hgf153] at V153
  have N153 := Fr.snoc X153 N152 fr150
  have Z0153 : n0 ≤ h153.size := Nat.le_trans Z0152 (Nat.le_of_eq W153.size.symm)
  have V153_b145 := own_AFoth V152_b145 W153 neb145_150
  refine own_step st153 ?_
  show own_Fin p e below s Q 16 128 (T153.setTop (mkF m 120 #[.val (.int i0), .val (.int i1), .val (.int i2), .val (.int i3), .val (.int i4), .val (.int i5), .val (.int (i1 &&& (3 : Int32))), .val (.ref b145), .val (.int ((128 : Int32) + ((i3 &&& (2147483647 : Int32)) % (1113984 : Int32)))), .val (.ref b150), .unset, .unset, .unset, .unset] []))
  refine own_step (fun t k => XS.aload X153.here hx rfl (hb hby at_120) rfl rfl k) ?_
  show own_Fin p e below s Q 16 128 (T153.setTop (mkF m 122 #[.val (.int i0), .val (.int i1), .val (.int i2), .val (.int i3), .val (.int i4), .val (.int i5), .val (.int (i1 &&& (3 : Int32))), .val (.ref b145), .val (.int ((128 : Int32) + ((i3 &&& (2147483647 : Int32)) % (1113984 : Int32)))), .val (.ref b150), .unset, .unset, .unset, .unset] [(.ref b150)]))
  refine own_step (fun t k => XS.iload X153.here hx rfl (hb hby at_122) rfl  k) ?_
  show own_Fin p e below s Q 16 128 (T153.setTop (mkF m 124 #[.val (.int i0), .val (.int i1), .val (.int i2), .val (.int i3), .val (.int i4), .val (.int i5), .val (.int (i1 &&& (3 : Int32))), .val (.ref b145), .val (.int ((128 : Int32) + ((i3 &&& (2147483647 : Int32)) % (1113984 : Int32)))), .val (.ref b150), .unset, .unset, .unset, .unset] [(.int (i1 &&& (3 : Int32))), (.ref b150)]))
  refine own_step (fun t k => XS.iconst X153.here hx rfl (hb hby at_124) k) ?_
  show own_Fin p e below s Q 16 128 (T153.setTop (mkF m 125 #[.val (.int i0), .val (.int i1), .val (.int i2), .val (.int i3), .val (.int i4), .val (.int i5), .val (.int (i1 &&& (3 : Int32))), .val (.ref b145), .val (.int ((128 : Int32) + ((i3 &&& (2147483647 : Int32)) % (1113984 : Int32)))), .val (.ref b150), .unset, .unset, .unset, .unset] [(.int (3 : Int32)), (.int (i1 &&& (3 : Int32))), (.ref b150)]))
  refine own_step (fun t k => XS.iadd X153.here hx rfl (hb hby at_125) rfl k) ?_
  show own_Fin p e below s Q 16 128 (T153.setTop (mkF m 126 #[.val (.int i0), .val (.int i1), .val (.int i2), .val (.int i3), .val (.int i4), .val (.int i5), .val (.int (i1 &&& (3 : Int32))), .val (.ref b145), .val (.int ((128 : Int32) + ((i3 &&& (2147483647 : Int32)) % (1113984 : Int32)))), .val (.ref b150), .unset, .unset, .unset, .unset] [(.int ((i1 &&& (3 : Int32)) + (3 : Int32))), (.ref b150)]))
  refine own_step (fun t k => XS.iload X153.here hx rfl (hb hby at_126) rfl  k) ?_
  show own_Fin p e below s Q 16 128 (T153.setTop (mkF m 128 #[.val (.int i0), .val (.int i1), .val (.int i2), .val (.int i3), .val (.int i4), .val (.int i5), .val (.int (i1 &&& (3 : Int32))), .val (.ref b145), .val (.int ((128 : Int32) + ((i3 &&& (2147483647 : Int32)) % (1113984 : Int32)))), .val (.ref b150), .unset, .unset, .unset, .unset] [(.int i4), (.int ((i1 &&& (3 : Int32)) + (3 : Int32))), (.ref b150)]))
  refine own_step (fun t k => XS.bipush X153.here hx rfl (hb hby at_128) k) ?_
  show own_Fin p e below s Q 16 128 (T153.setTop (mkF m 130 #[.val (.int i0), .val (.int i1), .val (.int i2), .val (.int i3), .val (.int i4), .val (.int i5), .val (.int (i1 &&& (3 : Int32))), .val (.ref b145), .val (.int ((128 : Int32) + ((i3 &&& (2147483647 : Int32)) % (1113984 : Int32)))), .val (.ref b150), .unset, .unset, .unset, .unset] [(.int (24 : Int32)), (.int i4), (.int ((i1 &&& (3 : Int32)) + (3 : Int32))), (.ref b150)]))
  refine own_step (fun t k => XS.iushr X153.here hx rfl (hb hby at_130) rfl k) ?_
  show own_Fin p e below s Q 16 128 (T153.setTop (mkF m 131 #[.val (.int i0), .val (.int i1), .val (.int i2), .val (.int i3), .val (.int i4), .val (.int i5), .val (.int (i1 &&& (3 : Int32))), .val (.ref b145), .val (.int ((128 : Int32) + ((i3 &&& (2147483647 : Int32)) % (1113984 : Int32)))), .val (.ref b150), .unset, .unset, .unset, .unset] [(.int ((i4.toUInt32 >>> ((24 : Int32) &&& 31).toUInt32).toInt32)), (.int ((i1 &&& (3 : Int32)) + (3 : Int32))), (.ref b150)]))
  refine own_step (fun t k => XS.i2b X153.here hx rfl (hb hby at_131) rfl k) ?_
  show own_Fin p e below s Q 16 128 (T153.setTop (mkF m 132 #[.val (.int i0), .val (.int i1), .val (.int i2), .val (.int i3), .val (.int i4), .val (.int i5), .val (.int (i1 &&& (3 : Int32))), .val (.ref b145), .val (.int ((128 : Int32) + ((i3 &&& (2147483647 : Int32)) % (1113984 : Int32)))), .val (.ref b150), .unset, .unset, .unset, .unset] [(.int (((i4.toUInt32 >>> ((24 : Int32) &&& 31).toUInt32).toInt32).toInt8.toInt32)), (.int ((i1 &&& (3 : Int32)) + (3 : Int32))), (.ref b150)]))
  obtain ⟨ca154, Ar154, Sz154, Ht154⟩ := id V153
  have hin154 : ¬ (((i1 &&& (3 : Int32)) + (3 : Int32)) < 0 ∨ ca154.slots.size ≤ (((i1 &&& (3 : Int32)) + (3 : Int32))).toNatClampNeg) := by rw [Sz154]; exact own_o3 i1
  obtain ⟨T154, h154, X154, e154, W154, st154⟩ := stB X153 hx hZ e153 Ar154 (j := ((i1 &&& (3 : Int32)) + (3 : Int32))) hin154 (g := (mkF m 132 #[.val (.int i0), .val (.int i1), .val (.int i2), .val (.int i3), .val (.int i4), .val (.int i5), .val (.int (i1 &&& (3 : Int32))), .val (.ref b145), .val (.int ((128 : Int32) + ((i3 &&& (2147483647 : Int32)) % (1113984 : Int32)))), .val (.ref b150), .unset, .unset, .unset, .unset] [(.int (((i4.toUInt32 >>> ((24 : Int32) &&& 31).toUInt32).toInt32).toInt8.toInt32)), (.int ((i1 &&& (3 : Int32)) + (3 : Int32))), (.ref b150)])) rfl rfl (hb hby at_132)
  have V154 : own_AF Z h154 b150 .byte 8 (fun i => if i = (((i1 &&& (3 : Int32)) + (3 : Int32))).toNatClampNeg then (nar .byte (((i4.toUInt32 >>> ((24 : Int32) &&& 31).toUInt32).toInt32).toInt8.toInt32)) else gf153 i) := own_AFset Ar154 Sz154 Ht154 W154
  obtain ⟨gf154, hgf154⟩ : ∃ g' : Nat → Int32, g' = (fun i => if i = (((i1 &&& (3 : Int32)) + (3 : Int32))).toNatClampNeg then (nar .byte (((i4.toUInt32 >>> ((24 : Int32) &&& 31).toUInt32).toInt32).toInt8.toInt32)) else gf153 i) := ⟨_, rfl⟩
  rw [← hgf154] at V154
  have N154 := Fr.snoc X154 N153 fr150
  have Z0154 : n0 ≤ h154.size := Nat.le_trans Z0153 (Nat.le_of_eq W154.size.symm)
  have V154_b145 := own_AFoth V153_b145 W154 neb145_150
  refine own_step st154 ?_
  show own_Fin p e below s Q 16 128 (T154.setTop (mkF m 133 #[.val (.int i0), .val (.int i1), .val (.int i2), .val (.int i3), .val (.int i4), .val (.int i5), .val (.int (i1 &&& (3 : Int32))), .val (.ref b145), .val (.int ((128 : Int32) + ((i3 &&& (2147483647 : Int32)) % (1113984 : Int32)))), .val (.ref b150), .unset, .unset, .unset, .unset] []))
  refine own_step (fun t k => XS.aload X154.here hx rfl (hb hby at_133) rfl rfl k) ?_
  show own_Fin p e below s Q 16 128 (T154.setTop (mkF m 135 #[.val (.int i0), .val (.int i1), .val (.int i2), .val (.int i3), .val (.int i4), .val (.int i5), .val (.int (i1 &&& (3 : Int32))), .val (.ref b145), .val (.int ((128 : Int32) + ((i3 &&& (2147483647 : Int32)) % (1113984 : Int32)))), .val (.ref b150), .unset, .unset, .unset, .unset] [(.ref b150)]))
  refine own_step (fun t k => XS.iload X154.here hx rfl (hb hby at_135) rfl  k) ?_
  show own_Fin p e below s Q 16 128 (T154.setTop (mkF m 137 #[.val (.int i0), .val (.int i1), .val (.int i2), .val (.int i3), .val (.int i4), .val (.int i5), .val (.int (i1 &&& (3 : Int32))), .val (.ref b145), .val (.int ((128 : Int32) + ((i3 &&& (2147483647 : Int32)) % (1113984 : Int32)))), .val (.ref b150), .unset, .unset, .unset, .unset] [(.int (i1 &&& (3 : Int32))), (.ref b150)]))
  refine own_step (fun t k => XS.iload X154.here hx rfl (hb hby at_137) rfl  k) ?_
  show own_Fin p e below s Q 16 128 (T154.setTop (mkF m 139 #[.val (.int i0), .val (.int i1), .val (.int i2), .val (.int i3), .val (.int i4), .val (.int i5), .val (.int (i1 &&& (3 : Int32))), .val (.ref b145), .val (.int ((128 : Int32) + ((i3 &&& (2147483647 : Int32)) % (1113984 : Int32)))), .val (.ref b150), .unset, .unset, .unset, .unset] [(.int ((128 : Int32) + ((i3 &&& (2147483647 : Int32)) % (1113984 : Int32)))), (.int (i1 &&& (3 : Int32))), (.ref b150)]))
  obtain ⟨_, _, ⟨T155, L155, k155, n155⟩, -, X155, ⟨Lc155, hQ155, l155, y155, z155⟩, st155⟩ := Jvm.LawKit.callS X154 hx (y := (⟨"com/example/zoria/zoria/xml/XmlInputStandingCharacterPinLaw", "put", "([BII)V"⟩ : MethodName)) hown (mvT hZ (hw _ (List.mem_of_getElem? (i := 3) rfl))) (mvT hZ (hw _ (List.mem_of_getElem? (i := 4) rfl))) (mvT hZ (hw _ (List.mem_of_getElem? (i := 5) rfl))) (mvT hZ (hw _ (List.mem_of_getElem? (i := 6) rfl))) (by decide) (backOf (W := 0) (rm1 l Z a0 hw [] b150 gf154 8 (i1 &&& (3 : Int32)) ((128 : Int32) + ((i3 &&& (2147483647 : Int32)) % (1113984 : Int32))) h154 n0 V154 Z0154 fr150 (own_o0 i1) (own_o1 i1) (own_o2 i1) (own_o3 i1)) hZ (hw _ (List.mem_of_getElem? (i := 6) rfl)) (hw _ (List.mem_of_getElem? (i := 5) rfl)) (by decide) (by decide)) (g := (mkF m 139 #[.val (.int i0), .val (.int i1), .val (.int i2), .val (.int i3), .val (.int i4), .val (.int i5), .val (.int (i1 &&& (3 : Int32))), .val (.ref b145), .val (.int ((128 : Int32) + ((i3 &&& (2147483647 : Int32)) % (1113984 : Int32)))), .val (.ref b150), .unset, .unset, .unset, .unset] [(.int ((128 : Int32) + ((i3 &&& (2147483647 : Int32)) % (1113984 : Int32)))), (.int (i1 &&& (3 : Int32))), (.ref b150)])) rfl (by rw [hml]; rfl) (argsL := [(.ref b150), (.int (i1 &&& (3 : Int32))), (.int ((128 : Int32) + ((i3 &&& (2147483647 : Int32)) % (1113984 : Int32))))]) (rest := []) (lenOf pdm_3 rfl) rfl (by show 2 * 0 + _ ≤ _; exact Nat.le_of_eq rfl) (hb hby at_139) (fun _ _ => ⟨rfl, e154, (show cells + 1 + 1 + 0 ≤ 16 from (Nat.le_trans (Nat.add_le_add_right hc 2) (by decide))), (show slots + 8 + 8 + 0 ≤ 128 from (Nat.le_trans (Nat.add_le_add_right hs 16) (by decide)))⟩)
  dsimp only [Pt.U, Pt.locs, Pt.cells, Pt.slots] at X155 l155 y155 z155 st155 hQ155
  have yy155 : k155 = cells + 1 + 1 + 0 := y155
  have zz155 : n155 = slots + 8 + 8 + 0 := z155
  rw [yy155, zz155] at X155
  subst l155
  obtain ⟨rfl, N155q, K155, V155⟩ := hQ155
  have N155 := Fr.app N154 N155q
  have Z0155 : n0 ≤ T155.heap.size := Nat.le_trans Z0154 K155.1
  have V155_b145 := own_AFkeep V154_b145 K155 (fun y => neb145_150 (List.mem_singleton.mp y))
  refine own_step st155 ?_
  show own_Fin p e below s Q 16 128 (T155.setTop (mkF m 142 #[.val (.int i0), .val (.int i1), .val (.int i2), .val (.int i3), .val (.int i4), .val (.int i5), .val (.int (i1 &&& (3 : Int32))), .val (.ref b145), .val (.int ((128 : Int32) + ((i3 &&& (2147483647 : Int32)) % (1113984 : Int32)))), .val (.ref b150), .unset, .unset, .unset, .unset] []))
  refine own_step (fun t k => XS.aload X155.here hx rfl (hb hby at_142) rfl rfl k) ?_
  show own_Fin p e below s Q 16 128 (T155.setTop (mkF m 144 #[.val (.int i0), .val (.int i1), .val (.int i2), .val (.int i3), .val (.int i4), .val (.int i5), .val (.int (i1 &&& (3 : Int32))), .val (.ref b145), .val (.int ((128 : Int32) + ((i3 &&& (2147483647 : Int32)) % (1113984 : Int32)))), .val (.ref b150), .unset, .unset, .unset, .unset] [(.ref b145)]))
  refine own_step (fun t k => XS.iload X155.here hx rfl (hb hby at_144) rfl  k) ?_
  show own_Fin p e below s Q 16 128 (T155.setTop (mkF m 146 #[.val (.int i0), .val (.int i1), .val (.int i2), .val (.int i3), .val (.int i4), .val (.int i5), .val (.int (i1 &&& (3 : Int32))), .val (.ref b145), .val (.int ((128 : Int32) + ((i3 &&& (2147483647 : Int32)) % (1113984 : Int32)))), .val (.ref b150), .unset, .unset, .unset, .unset] [(.int (i1 &&& (3 : Int32))), (.ref b145)]))
  refine own_step (fun t k => XS.iload X155.here hx rfl (hb hby at_146) rfl  k) ?_
  show own_Fin p e below s Q 16 128 (T155.setTop (mkF m 148 #[.val (.int i0), .val (.int i1), .val (.int i2), .val (.int i3), .val (.int i4), .val (.int i5), .val (.int (i1 &&& (3 : Int32))), .val (.ref b145), .val (.int ((128 : Int32) + ((i3 &&& (2147483647 : Int32)) % (1113984 : Int32)))), .val (.ref b150), .unset, .unset, .unset, .unset] [(.int i5), (.int (i1 &&& (3 : Int32))), (.ref b145)]))
  obtain ⟨_, _, ⟨T156, L156, k156, n156⟩, -, X156, ⟨Lc156, hQ156, l156, y156, z156⟩, st156⟩ := Jvm.LawKit.callS X155 hx (y := (⟨"com/example/zoria/zoria/xml/XmlInput", "standingCharacter", "([BIZ)I"⟩ : MethodName)) hown (mvT hZ (hw _ (List.mem_of_getElem? (i := 7) rfl))) (mvT hZ (hw _ (List.mem_of_getElem? (i := 8) rfl))) (mvT hZ (hw _ (List.mem_of_getElem? (i := 9) rfl))) (mvT hZ (hw _ (List.mem_of_getElem? (i := 10) rfl))) (by decide) (backOf (W := 0) (rm2 l Z a0 hw [] b145 gf149 8 (i1 &&& (3 : Int32)) i5 T155.heap n0 V155_b145 (own_o0 i1) (own_o1 i1) (own_o2 i1) (own_o3 i1)) hZ (hw _ (List.mem_of_getElem? (i := 10) rfl)) (hw _ (List.mem_of_getElem? (i := 9) rfl)) (by decide) (by decide)) (g := (mkF m 148 #[.val (.int i0), .val (.int i1), .val (.int i2), .val (.int i3), .val (.int i4), .val (.int i5), .val (.int (i1 &&& (3 : Int32))), .val (.ref b145), .val (.int ((128 : Int32) + ((i3 &&& (2147483647 : Int32)) % (1113984 : Int32)))), .val (.ref b150), .unset, .unset, .unset, .unset] [(.int i5), (.int (i1 &&& (3 : Int32))), (.ref b145)])) rfl (by rw [hml]; rfl) (argsL := [(.ref b145), (.int (i1 &&& (3 : Int32))), (.int i5)]) (rest := []) (lenOf pdm_0 rfl) rfl (by show 2 * 0 + _ ≤ _; exact Nat.le_of_eq rfl) (hb hby at_148) (fun _ _ => ⟨rfl, rfl, (show cells + 1 + 1 + 0 + 0 ≤ 16 from (Nat.le_trans (Nat.add_le_add_right hc 2) (by decide))), (show slots + 8 + 8 + 0 + 0 ≤ 128 from (Nat.le_trans (Nat.add_le_add_right hs 16) (by decide)))⟩)
  dsimp only [Pt.U, Pt.locs, Pt.cells, Pt.slots] at X156 l156 y156 z156 st156 hQ156
  have yy156 : k156 = cells + 1 + 1 + 0 + 0 := y156
  have zz156 : n156 = slots + 8 + 8 + 0 + 0 := z156
  rw [yy156, zz156] at X156
  subst l156
  obtain ⟨rfl, N156q, e156⟩ := hQ156
  have N156 := Fr.app N155 N156q
  refine own_step st156 ?_
  show own_Fin p e below s Q 16 128 (T156.setTop (mkF m 151 #[.val (.int i0), .val (.int i1), .val (.int i2), .val (.int i3), .val (.int i4), .val (.int i5), .val (.int (i1 &&& (3 : Int32))), .val (.ref b145), .val (.int ((128 : Int32) + ((i3 &&& (2147483647 : Int32)) % (1113984 : Int32)))), .val (.ref b150), .unset, .unset, .unset, .unset] [(.int (f2_0 gf149 (i1 &&& (3 : Int32)) i5))]))
  refine own_step (fun t k => XS.istore X156.here hx rfl (hb hby at_151) rfl (l' := #[.val (.int i0), .val (.int i1), .val (.int i2), .val (.int i3), .val (.int i4), .val (.int i5), .val (.int (i1 &&& (3 : Int32))), .val (.ref b145), .val (.int ((128 : Int32) + ((i3 &&& (2147483647 : Int32)) % (1113984 : Int32)))), .val (.ref b150), .val (.int (f2_0 gf149 (i1 &&& (3 : Int32)) i5)), .unset, .unset, .unset]) rfl k) ?_
  show own_Fin p e below s Q 16 128 (T156.setTop (mkF m 153 #[.val (.int i0), .val (.int i1), .val (.int i2), .val (.int i3), .val (.int i4), .val (.int i5), .val (.int (i1 &&& (3 : Int32))), .val (.ref b145), .val (.int ((128 : Int32) + ((i3 &&& (2147483647 : Int32)) % (1113984 : Int32)))), .val (.ref b150), .val (.int (f2_0 gf149 (i1 &&& (3 : Int32)) i5)), .unset, .unset, .unset] []))
  refine own_step (fun t k => XS.aload X156.here hx rfl (hb hby at_153) rfl rfl k) ?_
  show own_Fin p e below s Q 16 128 (T156.setTop (mkF m 155 #[.val (.int i0), .val (.int i1), .val (.int i2), .val (.int i3), .val (.int i4), .val (.int i5), .val (.int (i1 &&& (3 : Int32))), .val (.ref b145), .val (.int ((128 : Int32) + ((i3 &&& (2147483647 : Int32)) % (1113984 : Int32)))), .val (.ref b150), .val (.int (f2_0 gf149 (i1 &&& (3 : Int32)) i5)), .unset, .unset, .unset] [(.ref b150)]))
  refine own_step (fun t k => XS.iload X156.here hx rfl (hb hby at_155) rfl  k) ?_
  show own_Fin p e below s Q 16 128 (T156.setTop (mkF m 157 #[.val (.int i0), .val (.int i1), .val (.int i2), .val (.int i3), .val (.int i4), .val (.int i5), .val (.int (i1 &&& (3 : Int32))), .val (.ref b145), .val (.int ((128 : Int32) + ((i3 &&& (2147483647 : Int32)) % (1113984 : Int32)))), .val (.ref b150), .val (.int (f2_0 gf149 (i1 &&& (3 : Int32)) i5)), .unset, .unset, .unset] [(.int (i1 &&& (3 : Int32))), (.ref b150)]))
  refine own_step (fun t k => XS.iload X156.here hx rfl (hb hby at_157) rfl  k) ?_
  show own_Fin p e below s Q 16 128 (T156.setTop (mkF m 159 #[.val (.int i0), .val (.int i1), .val (.int i2), .val (.int i3), .val (.int i4), .val (.int i5), .val (.int (i1 &&& (3 : Int32))), .val (.ref b145), .val (.int ((128 : Int32) + ((i3 &&& (2147483647 : Int32)) % (1113984 : Int32)))), .val (.ref b150), .val (.int (f2_0 gf149 (i1 &&& (3 : Int32)) i5)), .unset, .unset, .unset] [(.int i5), (.int (i1 &&& (3 : Int32))), (.ref b150)]))
  obtain ⟨_, _, ⟨T157, L157, k157, n157⟩, -, X157, ⟨Lc157, hQ157, l157, y157, z157⟩, st157⟩ := Jvm.LawKit.callS X156 hx (y := (⟨"com/example/zoria/zoria/xml/XmlInput", "standingCharacter", "([BIZ)I"⟩ : MethodName)) hown (mvT hZ (hw _ (List.mem_of_getElem? (i := 7) rfl))) (mvT hZ (hw _ (List.mem_of_getElem? (i := 8) rfl))) (mvT hZ (hw _ (List.mem_of_getElem? (i := 9) rfl))) (mvT hZ (hw _ (List.mem_of_getElem? (i := 10) rfl))) (by decide) (backOf (W := 0) (rm2 l Z a0 hw [] b150 (own_put (i1 &&& (3 : Int32)) ((128 : Int32) + ((i3 &&& (2147483647 : Int32)) % (1113984 : Int32))) gf154) 8 (i1 &&& (3 : Int32)) i5 T155.heap n0 V155 (own_o0 i1) (own_o1 i1) (own_o2 i1) (own_o3 i1)) hZ (hw _ (List.mem_of_getElem? (i := 10) rfl)) (hw _ (List.mem_of_getElem? (i := 9) rfl)) (by decide) (by decide)) (g := (mkF m 159 #[.val (.int i0), .val (.int i1), .val (.int i2), .val (.int i3), .val (.int i4), .val (.int i5), .val (.int (i1 &&& (3 : Int32))), .val (.ref b145), .val (.int ((128 : Int32) + ((i3 &&& (2147483647 : Int32)) % (1113984 : Int32)))), .val (.ref b150), .val (.int (f2_0 gf149 (i1 &&& (3 : Int32)) i5)), .unset, .unset, .unset] [(.int i5), (.int (i1 &&& (3 : Int32))), (.ref b150)])) rfl (by rw [hml]; rfl) (argsL := [(.ref b150), (.int (i1 &&& (3 : Int32))), (.int i5)]) (rest := []) (lenOf pdm_0 rfl) rfl (by show 2 * 0 + _ ≤ _; exact Nat.le_of_eq rfl) (hb hby at_159) (fun _ _ => ⟨rfl, e156, (show cells + 1 + 1 + 0 + 0 + 0 ≤ 16 from (Nat.le_trans (Nat.add_le_add_right hc 2) (by decide))), (show slots + 8 + 8 + 0 + 0 + 0 ≤ 128 from (Nat.le_trans (Nat.add_le_add_right hs 16) (by decide)))⟩)
  dsimp only [Pt.U, Pt.locs, Pt.cells, Pt.slots] at X157 l157 y157 z157 st157 hQ157
  have yy157 : k157 = cells + 1 + 1 + 0 + 0 + 0 := y157
  have zz157 : n157 = slots + 8 + 8 + 0 + 0 + 0 := z157
  rw [yy157, zz157] at X157
  subst l157
  obtain ⟨rfl, N157q, e157⟩ := hQ157
  have N157 := Fr.app N156 N157q
  refine own_step st157 ?_
  show own_Fin p e below s Q 16 128 (T157.setTop (mkF m 162 #[.val (.int i0), .val (.int i1), .val (.int i2), .val (.int i3), .val (.int i4), .val (.int i5), .val (.int (i1 &&& (3 : Int32))), .val (.ref b145), .val (.int ((128 : Int32) + ((i3 &&& (2147483647 : Int32)) % (1113984 : Int32)))), .val (.ref b150), .val (.int (f2_0 gf149 (i1 &&& (3 : Int32)) i5)), .unset, .unset, .unset] [(.int (f2_0 (own_put (i1 &&& (3 : Int32)) ((128 : Int32) + ((i3 &&& (2147483647 : Int32)) % (1113984 : Int32))) gf154) (i1 &&& (3 : Int32)) i5))]))
  refine own_step (fun t k => XS.istore X157.here hx rfl (hb hby at_162) rfl (l' := #[.val (.int i0), .val (.int i1), .val (.int i2), .val (.int i3), .val (.int i4), .val (.int i5), .val (.int (i1 &&& (3 : Int32))), .val (.ref b145), .val (.int ((128 : Int32) + ((i3 &&& (2147483647 : Int32)) % (1113984 : Int32)))), .val (.ref b150), .val (.int (f2_0 gf149 (i1 &&& (3 : Int32)) i5)), .val (.int (f2_0 (own_put (i1 &&& (3 : Int32)) ((128 : Int32) + ((i3 &&& (2147483647 : Int32)) % (1113984 : Int32))) gf154) (i1 &&& (3 : Int32)) i5)), .unset, .unset]) rfl k) ?_
  show own_Fin p e below s Q 16 128 (T157.setTop (mkF m 164 #[.val (.int i0), .val (.int i1), .val (.int i2), .val (.int i3), .val (.int i4), .val (.int i5), .val (.int (i1 &&& (3 : Int32))), .val (.ref b145), .val (.int ((128 : Int32) + ((i3 &&& (2147483647 : Int32)) % (1113984 : Int32)))), .val (.ref b150), .val (.int (f2_0 gf149 (i1 &&& (3 : Int32)) i5)), .val (.int (f2_0 (own_put (i1 &&& (3 : Int32)) ((128 : Int32) + ((i3 &&& (2147483647 : Int32)) % (1113984 : Int32))) gf154) (i1 &&& (3 : Int32)) i5)), .unset, .unset] []))
  refine own_step (fun t k => XS.iload X157.here hx rfl (hb hby at_164) rfl  k) ?_
  show own_Fin p e below s Q 16 128 (T157.setTop (mkF m 166 #[.val (.int i0), .val (.int i1), .val (.int i2), .val (.int i3), .val (.int i4), .val (.int i5), .val (.int (i1 &&& (3 : Int32))), .val (.ref b145), .val (.int ((128 : Int32) + ((i3 &&& (2147483647 : Int32)) % (1113984 : Int32)))), .val (.ref b150), .val (.int (f2_0 gf149 (i1 &&& (3 : Int32)) i5)), .val (.int (f2_0 (own_put (i1 &&& (3 : Int32)) ((128 : Int32) + ((i3 &&& (2147483647 : Int32)) % (1113984 : Int32))) gf154) (i1 &&& (3 : Int32)) i5)), .unset, .unset] [(.int (f2_0 gf149 (i1 &&& (3 : Int32)) i5))]))
  refine own_step (fun t k => XS.iconst X157.here hx rfl (hb hby at_166) k) ?_
  show own_Fin p e below s Q 16 128 (T157.setTop (mkF m 167 #[.val (.int i0), .val (.int i1), .val (.int i2), .val (.int i3), .val (.int i4), .val (.int i5), .val (.int (i1 &&& (3 : Int32))), .val (.ref b145), .val (.int ((128 : Int32) + ((i3 &&& (2147483647 : Int32)) % (1113984 : Int32)))), .val (.ref b150), .val (.int (f2_0 gf149 (i1 &&& (3 : Int32)) i5)), .val (.int (f2_0 (own_put (i1 &&& (3 : Int32)) ((128 : Int32) + ((i3 &&& (2147483647 : Int32)) % (1113984 : Int32))) gf154) (i1 &&& (3 : Int32)) i5)), .unset, .unset] [(.int (-1 : Int32)), (.int (f2_0 gf149 (i1 &&& (3 : Int32)) i5))]))
  by_cases hB167_158 : (f2_0 gf149 (i1 &&& (3 : Int32)) i5) = (-1 : Int32)
  · refine own_step (fun t k => XS.icmpYes X157.here hx rfl (pc0 := 167) (pc' := 192) rfl (hb hby at_167) rfl (teq hB167_158).1 (by decide) (by decide) k) ?_
    show own_Fin p e below s Q 16 128 (T157.setTop (mkF m 192 #[.val (.int i0), .val (.int i1), .val (.int i2), .val (.int i3), .val (.int i4), .val (.int i5), .val (.int (i1 &&& (3 : Int32))), .val (.ref b145), .val (.int ((128 : Int32) + ((i3 &&& (2147483647 : Int32)) % (1113984 : Int32)))), .val (.ref b150), .val (.int (f2_0 gf149 (i1 &&& (3 : Int32)) i5)), .val (.int (f2_0 (own_put (i1 &&& (3 : Int32)) ((128 : Int32) + ((i3 &&& (2147483647 : Int32)) % (1113984 : Int32))) gf154) (i1 &&& (3 : Int32)) i5)), .unset, .unset] []))
    refine own_step (fun t k => XS.iconst X157.here hx rfl (hb hby at_192) k) ?_
    show own_Fin p e below s Q 16 128 (T157.setTop (mkF m 193 #[.val (.int i0), .val (.int i1), .val (.int i2), .val (.int i3), .val (.int i4), .val (.int i5), .val (.int (i1 &&& (3 : Int32))), .val (.ref b145), .val (.int ((128 : Int32) + ((i3 &&& (2147483647 : Int32)) % (1113984 : Int32)))), .val (.ref b150), .val (.int (f2_0 gf149 (i1 &&& (3 : Int32)) i5)), .val (.int (f2_0 (own_put (i1 &&& (3 : Int32)) ((128 : Int32) + ((i3 &&& (2147483647 : Int32)) % (1113984 : Int32))) gf154) (i1 &&& (3 : Int32)) i5)), .unset, .unset] [(.int (1 : Int32))]))
    refine own_step (fun t k => XS.goto X157.here hx rfl (pc0 := 193) (pc' := 197) rfl (hb hby at_193) (by decide) (by decide) k) ?_
    show own_Fin p e below s Q 16 128 (T157.setTop (mkF m 197 #[.val (.int i0), .val (.int i1), .val (.int i2), .val (.int i3), .val (.int i4), .val (.int i5), .val (.int (i1 &&& (3 : Int32))), .val (.ref b145), .val (.int ((128 : Int32) + ((i3 &&& (2147483647 : Int32)) % (1113984 : Int32)))), .val (.ref b150), .val (.int (f2_0 gf149 (i1 &&& (3 : Int32)) i5)), .val (.int (f2_0 (own_put (i1 &&& (3 : Int32)) ((128 : Int32) + ((i3 &&& (2147483647 : Int32)) % (1113984 : Int32))) gf154) (i1 &&& (3 : Int32)) i5)), .unset, .unset] [(.int (1 : Int32))]))
    refine own_step (fun t k => XS.istore X157.here hx rfl (hb hby at_197) rfl (l' := #[.val (.int i0), .val (.int i1), .val (.int i2), .val (.int i3), .val (.int i4), .val (.int i5), .val (.int (i1 &&& (3 : Int32))), .val (.ref b145), .val (.int ((128 : Int32) + ((i3 &&& (2147483647 : Int32)) % (1113984 : Int32)))), .val (.ref b150), .val (.int (f2_0 gf149 (i1 &&& (3 : Int32)) i5)), .val (.int (f2_0 (own_put (i1 &&& (3 : Int32)) ((128 : Int32) + ((i3 &&& (2147483647 : Int32)) % (1113984 : Int32))) gf154) (i1 &&& (3 : Int32)) i5)), .val (.int (1 : Int32)), .unset]) rfl k) ?_
    show own_Fin p e below s Q 16 128 (T157.setTop (mkF m 199 #[.val (.int i0), .val (.int i1), .val (.int i2), .val (.int i3), .val (.int i4), .val (.int i5), .val (.int (i1 &&& (3 : Int32))), .val (.ref b145), .val (.int ((128 : Int32) + ((i3 &&& (2147483647 : Int32)) % (1113984 : Int32)))), .val (.ref b150), .val (.int (f2_0 gf149 (i1 &&& (3 : Int32)) i5)), .val (.int (f2_0 (own_put (i1 &&& (3 : Int32)) ((128 : Int32) + ((i3 &&& (2147483647 : Int32)) % (1113984 : Int32))) gf154) (i1 &&& (3 : Int32)) i5)), .val (.int (1 : Int32)), .unset] []))
    refine own_step (fun t k => XS.iload X157.here hx rfl (hb hby at_199) rfl  k) ?_
    show own_Fin p e below s Q 16 128 (T157.setTop (mkF m 201 #[.val (.int i0), .val (.int i1), .val (.int i2), .val (.int i3), .val (.int i4), .val (.int i5), .val (.int (i1 &&& (3 : Int32))), .val (.ref b145), .val (.int ((128 : Int32) + ((i3 &&& (2147483647 : Int32)) % (1113984 : Int32)))), .val (.ref b150), .val (.int (f2_0 gf149 (i1 &&& (3 : Int32)) i5)), .val (.int (f2_0 (own_put (i1 &&& (3 : Int32)) ((128 : Int32) + ((i3 &&& (2147483647 : Int32)) % (1113984 : Int32))) gf154) (i1 &&& (3 : Int32)) i5)), .val (.int (1 : Int32)), .unset] [(.int ((128 : Int32) + ((i3 &&& (2147483647 : Int32)) % (1113984 : Int32))))]))
    refine own_step (fun t k => XS.iload X157.here hx rfl (hb hby at_201) rfl  k) ?_
    show own_Fin p e below s Q 16 128 (T157.setTop (mkF m 203 #[.val (.int i0), .val (.int i1), .val (.int i2), .val (.int i3), .val (.int i4), .val (.int i5), .val (.int (i1 &&& (3 : Int32))), .val (.ref b145), .val (.int ((128 : Int32) + ((i3 &&& (2147483647 : Int32)) % (1113984 : Int32)))), .val (.ref b150), .val (.int (f2_0 gf149 (i1 &&& (3 : Int32)) i5)), .val (.int (f2_0 (own_put (i1 &&& (3 : Int32)) ((128 : Int32) + ((i3 &&& (2147483647 : Int32)) % (1113984 : Int32))) gf154) (i1 &&& (3 : Int32)) i5)), .val (.int (1 : Int32)), .unset] [(.int i5), (.int ((128 : Int32) + ((i3 &&& (2147483647 : Int32)) % (1113984 : Int32))))]))
    obtain ⟨_, _, ⟨T159, L159, k159, n159⟩, -, X159, ⟨Lc159, hQ159, l159, y159, z159⟩, st159⟩ := Jvm.LawKit.callS X157 hx (y := (⟨"com/example/zoria/zoria/xml/XmlInputStandingCharacterPinLaw", "allowed", "(IZ)Z"⟩ : MethodName)) hown (mvT hZ (hw _ (List.mem_of_getElem? (i := 11) rfl))) (mvT hZ (hw _ (List.mem_of_getElem? (i := 12) rfl))) (mvT hZ (hw _ (List.mem_of_getElem? (i := 5) rfl))) (mvT hZ (hw _ (List.mem_of_getElem? (i := 13) rfl))) (by decide) (backOf (W := 0) (rm3 l Z a0 hw [] ((128 : Int32) + ((i3 &&& (2147483647 : Int32)) % (1113984 : Int32))) i5 T155.heap n0) hZ (hw _ (List.mem_of_getElem? (i := 13) rfl)) (hw _ (List.mem_of_getElem? (i := 5) rfl)) (by decide) (by decide)) (g := (mkF m 203 #[.val (.int i0), .val (.int i1), .val (.int i2), .val (.int i3), .val (.int i4), .val (.int i5), .val (.int (i1 &&& (3 : Int32))), .val (.ref b145), .val (.int ((128 : Int32) + ((i3 &&& (2147483647 : Int32)) % (1113984 : Int32)))), .val (.ref b150), .val (.int (f2_0 gf149 (i1 &&& (3 : Int32)) i5)), .val (.int (f2_0 (own_put (i1 &&& (3 : Int32)) ((128 : Int32) + ((i3 &&& (2147483647 : Int32)) % (1113984 : Int32))) gf154) (i1 &&& (3 : Int32)) i5)), .val (.int (1 : Int32)), .unset] [(.int i5), (.int ((128 : Int32) + ((i3 &&& (2147483647 : Int32)) % (1113984 : Int32))))])) rfl (by rw [hml]; rfl) (argsL := [(.int ((128 : Int32) + ((i3 &&& (2147483647 : Int32)) % (1113984 : Int32)))), (.int i5)]) (rest := []) (lenOf pdm_1 rfl) rfl (by show 2 * 0 + _ ≤ _; exact Nat.le_of_eq rfl) (hb hby at_203) (fun _ _ => ⟨rfl, e157, (show cells + 1 + 1 + 0 + 0 + 0 + 0 ≤ 16 from (Nat.le_trans (Nat.add_le_add_right hc 2) (by decide))), (show slots + 8 + 8 + 0 + 0 + 0 + 0 ≤ 128 from (Nat.le_trans (Nat.add_le_add_right hs 16) (by decide)))⟩)
    dsimp only [Pt.U, Pt.locs, Pt.cells, Pt.slots] at X159 l159 y159 z159 st159 hQ159
    have yy159 : k159 = cells + 1 + 1 + 0 + 0 + 0 + 0 := y159
    have zz159 : n159 = slots + 8 + 8 + 0 + 0 + 0 + 0 := z159
    rw [yy159, zz159] at X159
    subst l159
    obtain ⟨rfl, N159q, e159⟩ := hQ159
    have N159 := Fr.app N157 N159q
    refine own_step st159 ?_
    show own_Fin p e below s Q 16 128 (T159.setTop (mkF m 206 #[.val (.int i0), .val (.int i1), .val (.int i2), .val (.int i3), .val (.int i4), .val (.int i5), .val (.int (i1 &&& (3 : Int32))), .val (.ref b145), .val (.int ((128 : Int32) + ((i3 &&& (2147483647 : Int32)) % (1113984 : Int32)))), .val (.ref b150), .val (.int (f2_0 gf149 (i1 &&& (3 : Int32)) i5)), .val (.int (f2_0 (own_put (i1 &&& (3 : Int32)) ((128 : Int32) + ((i3 &&& (2147483647 : Int32)) % (1113984 : Int32))) gf154) (i1 &&& (3 : Int32)) i5)), .val (.int (1 : Int32)), .unset] [(.int (f3_0 ((128 : Int32) + ((i3 &&& (2147483647 : Int32)) % (1113984 : Int32))) i5))]))
    by_cases hB206_160 : (f3_0 ((128 : Int32) + ((i3 &&& (2147483647 : Int32)) % (1113984 : Int32))) i5) = (0 : Int32)
    · refine own_step (fun t k => XS.ifYes X159.here hx rfl (pc0 := 206) (pc' := 214) rfl (hb hby at_206) rfl ((if0 _ _).trans (teq hB206_160).1) (by decide) (by decide) k) ?_
      show own_Fin p e below s Q 16 128 (T159.setTop (mkF m 214 #[.val (.int i0), .val (.int i1), .val (.int i2), .val (.int i3), .val (.int i4), .val (.int i5), .val (.int (i1 &&& (3 : Int32))), .val (.ref b145), .val (.int ((128 : Int32) + ((i3 &&& (2147483647 : Int32)) % (1113984 : Int32)))), .val (.ref b150), .val (.int (f2_0 gf149 (i1 &&& (3 : Int32)) i5)), .val (.int (f2_0 (own_put (i1 &&& (3 : Int32)) ((128 : Int32) + ((i3 &&& (2147483647 : Int32)) % (1113984 : Int32))) gf154) (i1 &&& (3 : Int32)) i5)), .val (.int (1 : Int32)), .unset] []))
      refine own_step (fun t k => XS.iconst X159.here hx rfl (hb hby at_214) k) ?_
      show own_Fin p e below s Q 16 128 (T159.setTop (mkF m 215 #[.val (.int i0), .val (.int i1), .val (.int i2), .val (.int i3), .val (.int i4), .val (.int i5), .val (.int (i1 &&& (3 : Int32))), .val (.ref b145), .val (.int ((128 : Int32) + ((i3 &&& (2147483647 : Int32)) % (1113984 : Int32)))), .val (.ref b150), .val (.int (f2_0 gf149 (i1 &&& (3 : Int32)) i5)), .val (.int (f2_0 (own_put (i1 &&& (3 : Int32)) ((128 : Int32) + ((i3 &&& (2147483647 : Int32)) % (1113984 : Int32))) gf154) (i1 &&& (3 : Int32)) i5)), .val (.int (1 : Int32)), .unset] [(.int (-1 : Int32))]))
      refine own_step (fun t k => XS.istore X159.here hx rfl (hb hby at_215) rfl (l' := #[.val (.int i0), .val (.int i1), .val (.int i2), .val (.int i3), .val (.int i4), .val (.int i5), .val (.int (i1 &&& (3 : Int32))), .val (.ref b145), .val (.int ((128 : Int32) + ((i3 &&& (2147483647 : Int32)) % (1113984 : Int32)))), .val (.ref b150), .val (.int (f2_0 gf149 (i1 &&& (3 : Int32)) i5)), .val (.int (f2_0 (own_put (i1 &&& (3 : Int32)) ((128 : Int32) + ((i3 &&& (2147483647 : Int32)) % (1113984 : Int32))) gf154) (i1 &&& (3 : Int32)) i5)), .val (.int (1 : Int32)), .val (.int (-1 : Int32))]) rfl k) ?_
      show own_Fin p e below s Q 16 128 (T159.setTop (mkF m 217 #[.val (.int i0), .val (.int i1), .val (.int i2), .val (.int i3), .val (.int i4), .val (.int i5), .val (.int (i1 &&& (3 : Int32))), .val (.ref b145), .val (.int ((128 : Int32) + ((i3 &&& (2147483647 : Int32)) % (1113984 : Int32)))), .val (.ref b150), .val (.int (f2_0 gf149 (i1 &&& (3 : Int32)) i5)), .val (.int (f2_0 (own_put (i1 &&& (3 : Int32)) ((128 : Int32) + ((i3 &&& (2147483647 : Int32)) % (1113984 : Int32))) gf154) (i1 &&& (3 : Int32)) i5)), .val (.int (1 : Int32)), .val (.int (-1 : Int32))] []))
      refine own_step (fun t k => XS.iload X159.here hx rfl (hb hby at_217) rfl  k) ?_
      show own_Fin p e below s Q 16 128 (T159.setTop (mkF m 219 #[.val (.int i0), .val (.int i1), .val (.int i2), .val (.int i3), .val (.int i4), .val (.int i5), .val (.int (i1 &&& (3 : Int32))), .val (.ref b145), .val (.int ((128 : Int32) + ((i3 &&& (2147483647 : Int32)) % (1113984 : Int32)))), .val (.ref b150), .val (.int (f2_0 gf149 (i1 &&& (3 : Int32)) i5)), .val (.int (f2_0 (own_put (i1 &&& (3 : Int32)) ((128 : Int32) + ((i3 &&& (2147483647 : Int32)) % (1113984 : Int32))) gf154) (i1 &&& (3 : Int32)) i5)), .val (.int (1 : Int32)), .val (.int (-1 : Int32))] [(.int (1 : Int32))]))
      refine own_step (fun t k => XS.ifNo X159.here hx rfl (hb hby at_219) rfl ((if0 _ _).trans (feq (by decide : ¬ ((1 : Int32) = (0 : Int32)))).1) k) ?_
      show own_Fin p e below s Q 16 128 (T159.setTop (mkF m 222 #[.val (.int i0), .val (.int i1), .val (.int i2), .val (.int i3), .val (.int i4), .val (.int i5), .val (.int (i1 &&& (3 : Int32))), .val (.ref b145), .val (.int ((128 : Int32) + ((i3 &&& (2147483647 : Int32)) % (1113984 : Int32)))), .val (.ref b150), .val (.int (f2_0 gf149 (i1 &&& (3 : Int32)) i5)), .val (.int (f2_0 (own_put (i1 &&& (3 : Int32)) ((128 : Int32) + ((i3 &&& (2147483647 : Int32)) % (1113984 : Int32))) gf154) (i1 &&& (3 : Int32)) i5)), .val (.int (1 : Int32)), .val (.int (-1 : Int32))] []))
      refine own_step (fun t k => XS.iload X159.here hx rfl (hb hby at_222) rfl  k) ?_
      show own_Fin p e below s Q 16 128 (T159.setTop (mkF m 224 #[.val (.int i0), .val (.int i1), .val (.int i2), .val (.int i3), .val (.int i4), .val (.int i5), .val (.int (i1 &&& (3 : Int32))), .val (.ref b145), .val (.int ((128 : Int32) + ((i3 &&& (2147483647 : Int32)) % (1113984 : Int32)))), .val (.ref b150), .val (.int (f2_0 gf149 (i1 &&& (3 : Int32)) i5)), .val (.int (f2_0 (own_put (i1 &&& (3 : Int32)) ((128 : Int32) + ((i3 &&& (2147483647 : Int32)) % (1113984 : Int32))) gf154) (i1 &&& (3 : Int32)) i5)), .val (.int (1 : Int32)), .val (.int (-1 : Int32))] [(.int (f2_0 (own_put (i1 &&& (3 : Int32)) ((128 : Int32) + ((i3 &&& (2147483647 : Int32)) % (1113984 : Int32))) gf154) (i1 &&& (3 : Int32)) i5))]))
      refine own_step (fun t k => XS.iload X159.here hx rfl (hb hby at_224) rfl  k) ?_
      show own_Fin p e below s Q 16 128 (T159.setTop (mkF m 226 #[.val (.int i0), .val (.int i1), .val (.int i2), .val (.int i3), .val (.int i4), .val (.int i5), .val (.int (i1 &&& (3 : Int32))), .val (.ref b145), .val (.int ((128 : Int32) + ((i3 &&& (2147483647 : Int32)) % (1113984 : Int32)))), .val (.ref b150), .val (.int (f2_0 gf149 (i1 &&& (3 : Int32)) i5)), .val (.int (f2_0 (own_put (i1 &&& (3 : Int32)) ((128 : Int32) + ((i3 &&& (2147483647 : Int32)) % (1113984 : Int32))) gf154) (i1 &&& (3 : Int32)) i5)), .val (.int (1 : Int32)), .val (.int (-1 : Int32))] [(.int (-1 : Int32)), (.int (f2_0 (own_put (i1 &&& (3 : Int32)) ((128 : Int32) + ((i3 &&& (2147483647 : Int32)) % (1113984 : Int32))) gf154) (i1 &&& (3 : Int32)) i5))]))
      refine own_step (fun t k => XS.icmpNo X159.here hx rfl (hb hby at_226) rfl (teq ((own_full _ _ _ _ hx1 (own_m3 i1) (own_cp i3) (own_gbs hgf154 (own_gbs hgf153 (own_gbs hgf152 (own_gbs hgf151 own_gb0))))).1 hB206_160)).2 k) ?_
      show own_Fin p e below s Q 16 128 (T159.setTop (mkF m 229 #[.val (.int i0), .val (.int i1), .val (.int i2), .val (.int i3), .val (.int i4), .val (.int i5), .val (.int (i1 &&& (3 : Int32))), .val (.ref b145), .val (.int ((128 : Int32) + ((i3 &&& (2147483647 : Int32)) % (1113984 : Int32)))), .val (.ref b150), .val (.int (f2_0 gf149 (i1 &&& (3 : Int32)) i5)), .val (.int (f2_0 (own_put (i1 &&& (3 : Int32)) ((128 : Int32) + ((i3 &&& (2147483647 : Int32)) % (1113984 : Int32))) gf154) (i1 &&& (3 : Int32)) i5)), .val (.int (1 : Int32)), .val (.int (-1 : Int32))] []))
      refine own_step (fun t k => XS.iconst X159.here hx rfl (hb hby at_229) k) ?_
      show own_Fin p e below s Q 16 128 (T159.setTop (mkF m 230 #[.val (.int i0), .val (.int i1), .val (.int i2), .val (.int i3), .val (.int i4), .val (.int i5), .val (.int (i1 &&& (3 : Int32))), .val (.ref b145), .val (.int ((128 : Int32) + ((i3 &&& (2147483647 : Int32)) % (1113984 : Int32)))), .val (.ref b150), .val (.int (f2_0 gf149 (i1 &&& (3 : Int32)) i5)), .val (.int (f2_0 (own_put (i1 &&& (3 : Int32)) ((128 : Int32) + ((i3 &&& (2147483647 : Int32)) % (1113984 : Int32))) gf154) (i1 &&& (3 : Int32)) i5)), .val (.int (1 : Int32)), .val (.int (-1 : Int32))] [(.int (1 : Int32))]))
      refine own_step (fun t k => XS.goto X159.here hx rfl (pc0 := 230) (pc' := 234) rfl (hb hby at_230) (by decide) (by decide) k) ?_
      show own_Fin p e below s Q 16 128 (T159.setTop (mkF m 234 #[.val (.int i0), .val (.int i1), .val (.int i2), .val (.int i3), .val (.int i4), .val (.int i5), .val (.int (i1 &&& (3 : Int32))), .val (.ref b145), .val (.int ((128 : Int32) + ((i3 &&& (2147483647 : Int32)) % (1113984 : Int32)))), .val (.ref b150), .val (.int (f2_0 gf149 (i1 &&& (3 : Int32)) i5)), .val (.int (f2_0 (own_put (i1 &&& (3 : Int32)) ((128 : Int32) + ((i3 &&& (2147483647 : Int32)) % (1113984 : Int32))) gf154) (i1 &&& (3 : Int32)) i5)), .val (.int (1 : Int32)), .val (.int (-1 : Int32))] [(.int (1 : Int32))]))
      exact own_retN X159 hx hlk hret (by simp) (hb hby at_234) (Nat.le_trans (Nat.add_le_add_right hc 2) (by decide)) (Nat.le_trans (Nat.add_le_add_right hs 16) (by decide)) rfl N159 (fun L' n' => hQ _ L' n') (rfl)
    · refine own_step (fun t k => XS.ifNo X159.here hx rfl (hb hby at_206) rfl ((if0 _ _).trans (feq hB206_160).1) k) ?_
      show own_Fin p e below s Q 16 128 (T159.setTop (mkF m 209 #[.val (.int i0), .val (.int i1), .val (.int i2), .val (.int i3), .val (.int i4), .val (.int i5), .val (.int (i1 &&& (3 : Int32))), .val (.ref b145), .val (.int ((128 : Int32) + ((i3 &&& (2147483647 : Int32)) % (1113984 : Int32)))), .val (.ref b150), .val (.int (f2_0 gf149 (i1 &&& (3 : Int32)) i5)), .val (.int (f2_0 (own_put (i1 &&& (3 : Int32)) ((128 : Int32) + ((i3 &&& (2147483647 : Int32)) % (1113984 : Int32))) gf154) (i1 &&& (3 : Int32)) i5)), .val (.int (1 : Int32)), .unset] []))
      refine own_step (fun t k => XS.iload X159.here hx rfl (hb hby at_209) rfl  k) ?_
      show own_Fin p e below s Q 16 128 (T159.setTop (mkF m 211 #[.val (.int i0), .val (.int i1), .val (.int i2), .val (.int i3), .val (.int i4), .val (.int i5), .val (.int (i1 &&& (3 : Int32))), .val (.ref b145), .val (.int ((128 : Int32) + ((i3 &&& (2147483647 : Int32)) % (1113984 : Int32)))), .val (.ref b150), .val (.int (f2_0 gf149 (i1 &&& (3 : Int32)) i5)), .val (.int (f2_0 (own_put (i1 &&& (3 : Int32)) ((128 : Int32) + ((i3 &&& (2147483647 : Int32)) % (1113984 : Int32))) gf154) (i1 &&& (3 : Int32)) i5)), .val (.int (1 : Int32)), .unset] [(.int ((128 : Int32) + ((i3 &&& (2147483647 : Int32)) % (1113984 : Int32))))]))
      refine own_step (fun t k => XS.goto X159.here hx rfl (pc0 := 211) (pc' := 215) rfl (hb hby at_211) (by decide) (by decide) k) ?_
      show own_Fin p e below s Q 16 128 (T159.setTop (mkF m 215 #[.val (.int i0), .val (.int i1), .val (.int i2), .val (.int i3), .val (.int i4), .val (.int i5), .val (.int (i1 &&& (3 : Int32))), .val (.ref b145), .val (.int ((128 : Int32) + ((i3 &&& (2147483647 : Int32)) % (1113984 : Int32)))), .val (.ref b150), .val (.int (f2_0 gf149 (i1 &&& (3 : Int32)) i5)), .val (.int (f2_0 (own_put (i1 &&& (3 : Int32)) ((128 : Int32) + ((i3 &&& (2147483647 : Int32)) % (1113984 : Int32))) gf154) (i1 &&& (3 : Int32)) i5)), .val (.int (1 : Int32)), .unset] [(.int ((128 : Int32) + ((i3 &&& (2147483647 : Int32)) % (1113984 : Int32))))]))
      refine own_step (fun t k => XS.istore X159.here hx rfl (hb hby at_215) rfl (l' := #[.val (.int i0), .val (.int i1), .val (.int i2), .val (.int i3), .val (.int i4), .val (.int i5), .val (.int (i1 &&& (3 : Int32))), .val (.ref b145), .val (.int ((128 : Int32) + ((i3 &&& (2147483647 : Int32)) % (1113984 : Int32)))), .val (.ref b150), .val (.int (f2_0 gf149 (i1 &&& (3 : Int32)) i5)), .val (.int (f2_0 (own_put (i1 &&& (3 : Int32)) ((128 : Int32) + ((i3 &&& (2147483647 : Int32)) % (1113984 : Int32))) gf154) (i1 &&& (3 : Int32)) i5)), .val (.int (1 : Int32)), .val (.int ((128 : Int32) + ((i3 &&& (2147483647 : Int32)) % (1113984 : Int32))))]) rfl k) ?_
      show own_Fin p e below s Q 16 128 (T159.setTop (mkF m 217 #[.val (.int i0), .val (.int i1), .val (.int i2), .val (.int i3), .val (.int i4), .val (.int i5), .val (.int (i1 &&& (3 : Int32))), .val (.ref b145), .val (.int ((128 : Int32) + ((i3 &&& (2147483647 : Int32)) % (1113984 : Int32)))), .val (.ref b150), .val (.int (f2_0 gf149 (i1 &&& (3 : Int32)) i5)), .val (.int (f2_0 (own_put (i1 &&& (3 : Int32)) ((128 : Int32) + ((i3 &&& (2147483647 : Int32)) % (1113984 : Int32))) gf154) (i1 &&& (3 : Int32)) i5)), .val (.int (1 : Int32)), .val (.int ((128 : Int32) + ((i3 &&& (2147483647 : Int32)) % (1113984 : Int32))))] []))
      refine own_step (fun t k => XS.iload X159.here hx rfl (hb hby at_217) rfl  k) ?_
      show own_Fin p e below s Q 16 128 (T159.setTop (mkF m 219 #[.val (.int i0), .val (.int i1), .val (.int i2), .val (.int i3), .val (.int i4), .val (.int i5), .val (.int (i1 &&& (3 : Int32))), .val (.ref b145), .val (.int ((128 : Int32) + ((i3 &&& (2147483647 : Int32)) % (1113984 : Int32)))), .val (.ref b150), .val (.int (f2_0 gf149 (i1 &&& (3 : Int32)) i5)), .val (.int (f2_0 (own_put (i1 &&& (3 : Int32)) ((128 : Int32) + ((i3 &&& (2147483647 : Int32)) % (1113984 : Int32))) gf154) (i1 &&& (3 : Int32)) i5)), .val (.int (1 : Int32)), .val (.int ((128 : Int32) + ((i3 &&& (2147483647 : Int32)) % (1113984 : Int32))))] [(.int (1 : Int32))]))
      refine own_step (fun t k => XS.ifNo X159.here hx rfl (hb hby at_219) rfl ((if0 _ _).trans (feq (by decide : ¬ ((1 : Int32) = (0 : Int32)))).1) k) ?_
      show own_Fin p e below s Q 16 128 (T159.setTop (mkF m 222 #[.val (.int i0), .val (.int i1), .val (.int i2), .val (.int i3), .val (.int i4), .val (.int i5), .val (.int (i1 &&& (3 : Int32))), .val (.ref b145), .val (.int ((128 : Int32) + ((i3 &&& (2147483647 : Int32)) % (1113984 : Int32)))), .val (.ref b150), .val (.int (f2_0 gf149 (i1 &&& (3 : Int32)) i5)), .val (.int (f2_0 (own_put (i1 &&& (3 : Int32)) ((128 : Int32) + ((i3 &&& (2147483647 : Int32)) % (1113984 : Int32))) gf154) (i1 &&& (3 : Int32)) i5)), .val (.int (1 : Int32)), .val (.int ((128 : Int32) + ((i3 &&& (2147483647 : Int32)) % (1113984 : Int32))))] []))
      refine own_step (fun t k => XS.iload X159.here hx rfl (hb hby at_222) rfl  k) ?_
      show own_Fin p e below s Q 16 128 (T159.setTop (mkF m 224 #[.val (.int i0), .val (.int i1), .val (.int i2), .val (.int i3), .val (.int i4), .val (.int i5), .val (.int (i1 &&& (3 : Int32))), .val (.ref b145), .val (.int ((128 : Int32) + ((i3 &&& (2147483647 : Int32)) % (1113984 : Int32)))), .val (.ref b150), .val (.int (f2_0 gf149 (i1 &&& (3 : Int32)) i5)), .val (.int (f2_0 (own_put (i1 &&& (3 : Int32)) ((128 : Int32) + ((i3 &&& (2147483647 : Int32)) % (1113984 : Int32))) gf154) (i1 &&& (3 : Int32)) i5)), .val (.int (1 : Int32)), .val (.int ((128 : Int32) + ((i3 &&& (2147483647 : Int32)) % (1113984 : Int32))))] [(.int (f2_0 (own_put (i1 &&& (3 : Int32)) ((128 : Int32) + ((i3 &&& (2147483647 : Int32)) % (1113984 : Int32))) gf154) (i1 &&& (3 : Int32)) i5))]))
      refine own_step (fun t k => XS.iload X159.here hx rfl (hb hby at_224) rfl  k) ?_
      show own_Fin p e below s Q 16 128 (T159.setTop (mkF m 226 #[.val (.int i0), .val (.int i1), .val (.int i2), .val (.int i3), .val (.int i4), .val (.int i5), .val (.int (i1 &&& (3 : Int32))), .val (.ref b145), .val (.int ((128 : Int32) + ((i3 &&& (2147483647 : Int32)) % (1113984 : Int32)))), .val (.ref b150), .val (.int (f2_0 gf149 (i1 &&& (3 : Int32)) i5)), .val (.int (f2_0 (own_put (i1 &&& (3 : Int32)) ((128 : Int32) + ((i3 &&& (2147483647 : Int32)) % (1113984 : Int32))) gf154) (i1 &&& (3 : Int32)) i5)), .val (.int (1 : Int32)), .val (.int ((128 : Int32) + ((i3 &&& (2147483647 : Int32)) % (1113984 : Int32))))] [(.int ((128 : Int32) + ((i3 &&& (2147483647 : Int32)) % (1113984 : Int32)))), (.int (f2_0 (own_put (i1 &&& (3 : Int32)) ((128 : Int32) + ((i3 &&& (2147483647 : Int32)) % (1113984 : Int32))) gf154) (i1 &&& (3 : Int32)) i5))]))
      refine own_step (fun t k => XS.icmpNo X159.here hx rfl (hb hby at_226) rfl (teq ((own_full _ _ _ _ hx1 (own_m3 i1) (own_cp i3) (own_gbs hgf154 (own_gbs hgf153 (own_gbs hgf152 (own_gbs hgf151 own_gb0))))).2 hB206_160)).2 k) ?_
      show own_Fin p e below s Q 16 128 (T159.setTop (mkF m 229 #[.val (.int i0), .val (.int i1), .val (.int i2), .val (.int i3), .val (.int i4), .val (.int i5), .val (.int (i1 &&& (3 : Int32))), .val (.ref b145), .val (.int ((128 : Int32) + ((i3 &&& (2147483647 : Int32)) % (1113984 : Int32)))), .val (.ref b150), .val (.int (f2_0 gf149 (i1 &&& (3 : Int32)) i5)), .val (.int (f2_0 (own_put (i1 &&& (3 : Int32)) ((128 : Int32) + ((i3 &&& (2147483647 : Int32)) % (1113984 : Int32))) gf154) (i1 &&& (3 : Int32)) i5)), .val (.int (1 : Int32)), .val (.int ((128 : Int32) + ((i3 &&& (2147483647 : Int32)) % (1113984 : Int32))))] []))
      refine own_step (fun t k => XS.iconst X159.here hx rfl (hb hby at_229) k) ?_
      show own_Fin p e below s Q 16 128 (T159.setTop (mkF m 230 #[.val (.int i0), .val (.int i1), .val (.int i2), .val (.int i3), .val (.int i4), .val (.int i5), .val (.int (i1 &&& (3 : Int32))), .val (.ref b145), .val (.int ((128 : Int32) + ((i3 &&& (2147483647 : Int32)) % (1113984 : Int32)))), .val (.ref b150), .val (.int (f2_0 gf149 (i1 &&& (3 : Int32)) i5)), .val (.int (f2_0 (own_put (i1 &&& (3 : Int32)) ((128 : Int32) + ((i3 &&& (2147483647 : Int32)) % (1113984 : Int32))) gf154) (i1 &&& (3 : Int32)) i5)), .val (.int (1 : Int32)), .val (.int ((128 : Int32) + ((i3 &&& (2147483647 : Int32)) % (1113984 : Int32))))] [(.int (1 : Int32))]))
      refine own_step (fun t k => XS.goto X159.here hx rfl (pc0 := 230) (pc' := 234) rfl (hb hby at_230) (by decide) (by decide) k) ?_
      show own_Fin p e below s Q 16 128 (T159.setTop (mkF m 234 #[.val (.int i0), .val (.int i1), .val (.int i2), .val (.int i3), .val (.int i4), .val (.int i5), .val (.int (i1 &&& (3 : Int32))), .val (.ref b145), .val (.int ((128 : Int32) + ((i3 &&& (2147483647 : Int32)) % (1113984 : Int32)))), .val (.ref b150), .val (.int (f2_0 gf149 (i1 &&& (3 : Int32)) i5)), .val (.int (f2_0 (own_put (i1 &&& (3 : Int32)) ((128 : Int32) + ((i3 &&& (2147483647 : Int32)) % (1113984 : Int32))) gf154) (i1 &&& (3 : Int32)) i5)), .val (.int (1 : Int32)), .val (.int ((128 : Int32) + ((i3 &&& (2147483647 : Int32)) % (1113984 : Int32))))] [(.int (1 : Int32))]))
      exact own_retN X159 hx hlk hret (by simp) (hb hby at_234) (Nat.le_trans (Nat.add_le_add_right hc 2) (by decide)) (Nat.le_trans (Nat.add_le_add_right hs 16) (by decide)) rfl N159 (fun L' n' => hQ _ L' n') (rfl)
  · refine own_step (fun t k => XS.icmpNo X157.here hx rfl (hb hby at_167) rfl (feq hB167_158).1 k) ?_
    show own_Fin p e below s Q 16 128 (T157.setTop (mkF m 170 #[.val (.int i0), .val (.int i1), .val (.int i2), .val (.int i3), .val (.int i4), .val (.int i5), .val (.int (i1 &&& (3 : Int32))), .val (.ref b145), .val (.int ((128 : Int32) + ((i3 &&& (2147483647 : Int32)) % (1113984 : Int32)))), .val (.ref b150), .val (.int (f2_0 gf149 (i1 &&& (3 : Int32)) i5)), .val (.int (f2_0 (own_put (i1 &&& (3 : Int32)) ((128 : Int32) + ((i3 &&& (2147483647 : Int32)) % (1113984 : Int32))) gf154) (i1 &&& (3 : Int32)) i5)), .unset, .unset] []))
    refine own_step (fun t k => XS.iload X157.here hx rfl (hb hby at_170) rfl  k) ?_
    show own_Fin p e below s Q 16 128 (T157.setTop (mkF m 172 #[.val (.int i0), .val (.int i1), .val (.int i2), .val (.int i3), .val (.int i4), .val (.int i5), .val (.int (i1 &&& (3 : Int32))), .val (.ref b145), .val (.int ((128 : Int32) + ((i3 &&& (2147483647 : Int32)) % (1113984 : Int32)))), .val (.ref b150), .val (.int (f2_0 gf149 (i1 &&& (3 : Int32)) i5)), .val (.int (f2_0 (own_put (i1 &&& (3 : Int32)) ((128 : Int32) + ((i3 &&& (2147483647 : Int32)) % (1113984 : Int32))) gf154) (i1 &&& (3 : Int32)) i5)), .unset, .unset] [(.int (f2_0 gf149 (i1 &&& (3 : Int32)) i5))]))
    refine own_step (fun t k => XS.iload X157.here hx rfl (hb hby at_172) rfl  k) ?_
    show own_Fin p e below s Q 16 128 (T157.setTop (mkF m 174 #[.val (.int i0), .val (.int i1), .val (.int i2), .val (.int i3), .val (.int i4), .val (.int i5), .val (.int (i1 &&& (3 : Int32))), .val (.ref b145), .val (.int ((128 : Int32) + ((i3 &&& (2147483647 : Int32)) % (1113984 : Int32)))), .val (.ref b150), .val (.int (f2_0 gf149 (i1 &&& (3 : Int32)) i5)), .val (.int (f2_0 (own_put (i1 &&& (3 : Int32)) ((128 : Int32) + ((i3 &&& (2147483647 : Int32)) % (1113984 : Int32))) gf154) (i1 &&& (3 : Int32)) i5)), .unset, .unset] [(.int i5), (.int (f2_0 gf149 (i1 &&& (3 : Int32)) i5))]))
    obtain ⟨_, _, ⟨T161, L161, k161, n161⟩, -, X161, ⟨Lc161, hQ161, l161, y161, z161⟩, st161⟩ := Jvm.LawKit.callS X157 hx (y := (⟨"com/example/zoria/zoria/xml/XmlInputStandingCharacterPinLaw", "allowed", "(IZ)Z"⟩ : MethodName)) hown (mvT hZ (hw _ (List.mem_of_getElem? (i := 11) rfl))) (mvT hZ (hw _ (List.mem_of_getElem? (i := 12) rfl))) (mvT hZ (hw _ (List.mem_of_getElem? (i := 5) rfl))) (mvT hZ (hw _ (List.mem_of_getElem? (i := 13) rfl))) (by decide) (backOf (W := 0) (rm3 l Z a0 hw [] (f2_0 gf149 (i1 &&& (3 : Int32)) i5) i5 T155.heap n0) hZ (hw _ (List.mem_of_getElem? (i := 13) rfl)) (hw _ (List.mem_of_getElem? (i := 5) rfl)) (by decide) (by decide)) (g := (mkF m 174 #[.val (.int i0), .val (.int i1), .val (.int i2), .val (.int i3), .val (.int i4), .val (.int i5), .val (.int (i1 &&& (3 : Int32))), .val (.ref b145), .val (.int ((128 : Int32) + ((i3 &&& (2147483647 : Int32)) % (1113984 : Int32)))), .val (.ref b150), .val (.int (f2_0 gf149 (i1 &&& (3 : Int32)) i5)), .val (.int (f2_0 (own_put (i1 &&& (3 : Int32)) ((128 : Int32) + ((i3 &&& (2147483647 : Int32)) % (1113984 : Int32))) gf154) (i1 &&& (3 : Int32)) i5)), .unset, .unset] [(.int i5), (.int (f2_0 gf149 (i1 &&& (3 : Int32)) i5))])) rfl (by rw [hml]; rfl) (argsL := [(.int (f2_0 gf149 (i1 &&& (3 : Int32)) i5)), (.int i5)]) (rest := []) (lenOf pdm_1 rfl) rfl (by show 2 * 0 + _ ≤ _; exact Nat.le_of_eq rfl) (hb hby at_174) (fun _ _ => ⟨rfl, e157, (show cells + 1 + 1 + 0 + 0 + 0 + 0 ≤ 16 from (Nat.le_trans (Nat.add_le_add_right hc 2) (by decide))), (show slots + 8 + 8 + 0 + 0 + 0 + 0 ≤ 128 from (Nat.le_trans (Nat.add_le_add_right hs 16) (by decide)))⟩)
    dsimp only [Pt.U, Pt.locs, Pt.cells, Pt.slots] at X161 l161 y161 z161 st161 hQ161
    have yy161 : k161 = cells + 1 + 1 + 0 + 0 + 0 + 0 := y161
    have zz161 : n161 = slots + 8 + 8 + 0 + 0 + 0 + 0 := z161
    rw [yy161, zz161] at X161
    subst l161
    obtain ⟨rfl, N161q, e161⟩ := hQ161
    have N161 := Fr.app N157 N161q
    refine own_step st161 ?_
    show own_Fin p e below s Q 16 128 (T161.setTop (mkF m 177 #[.val (.int i0), .val (.int i1), .val (.int i2), .val (.int i3), .val (.int i4), .val (.int i5), .val (.int (i1 &&& (3 : Int32))), .val (.ref b145), .val (.int ((128 : Int32) + ((i3 &&& (2147483647 : Int32)) % (1113984 : Int32)))), .val (.ref b150), .val (.int (f2_0 gf149 (i1 &&& (3 : Int32)) i5)), .val (.int (f2_0 (own_put (i1 &&& (3 : Int32)) ((128 : Int32) + ((i3 &&& (2147483647 : Int32)) % (1113984 : Int32))) gf154) (i1 &&& (3 : Int32)) i5)), .unset, .unset] [(.int (f3_0 (f2_0 gf149 (i1 &&& (3 : Int32)) i5) i5))]))
    refine own_step (fun t k => XS.ifNo X161.here hx rfl (hb hby at_177) rfl ((if0 _ _).trans (feq (by rw [(own_sound _ _ _ hx1 ((own_gbs hgf149 (own_gbs hgf148 (own_gbs hgf147 (own_gbs hgf146 own_gb0)))) _) ((own_gbs hgf149 (own_gbs hgf148 (own_gbs hgf147 (own_gbs hgf146 own_gb0)))) _) ((own_gbs hgf149 (own_gbs hgf148 (own_gbs hgf147 (own_gbs hgf146 own_gb0)))) _) ((own_gbs hgf149 (own_gbs hgf148 (own_gbs hgf147 (own_gbs hgf146 own_gb0)))) _) hB167_158).1]; decide)).1) k) ?_
    show own_Fin p e below s Q 16 128 (T161.setTop (mkF m 180 #[.val (.int i0), .val (.int i1), .val (.int i2), .val (.int i3), .val (.int i4), .val (.int i5), .val (.int (i1 &&& (3 : Int32))), .val (.ref b145), .val (.int ((128 : Int32) + ((i3 &&& (2147483647 : Int32)) % (1113984 : Int32)))), .val (.ref b150), .val (.int (f2_0 gf149 (i1 &&& (3 : Int32)) i5)), .val (.int (f2_0 (own_put (i1 &&& (3 : Int32)) ((128 : Int32) + ((i3 &&& (2147483647 : Int32)) % (1113984 : Int32))) gf154) (i1 &&& (3 : Int32)) i5)), .unset, .unset] []))
    refine own_step (fun t k => XS.aload X161.here hx rfl (hb hby at_180) rfl rfl k) ?_
    show own_Fin p e below s Q 16 128 (T161.setTop (mkF m 182 #[.val (.int i0), .val (.int i1), .val (.int i2), .val (.int i3), .val (.int i4), .val (.int i5), .val (.int (i1 &&& (3 : Int32))), .val (.ref b145), .val (.int ((128 : Int32) + ((i3 &&& (2147483647 : Int32)) % (1113984 : Int32)))), .val (.ref b150), .val (.int (f2_0 gf149 (i1 &&& (3 : Int32)) i5)), .val (.int (f2_0 (own_put (i1 &&& (3 : Int32)) ((128 : Int32) + ((i3 &&& (2147483647 : Int32)) % (1113984 : Int32))) gf154) (i1 &&& (3 : Int32)) i5)), .unset, .unset] [(.ref b145)]))
    refine own_step (fun t k => XS.iload X161.here hx rfl (hb hby at_182) rfl  k) ?_
    show own_Fin p e below s Q 16 128 (T161.setTop (mkF m 184 #[.val (.int i0), .val (.int i1), .val (.int i2), .val (.int i3), .val (.int i4), .val (.int i5), .val (.int (i1 &&& (3 : Int32))), .val (.ref b145), .val (.int ((128 : Int32) + ((i3 &&& (2147483647 : Int32)) % (1113984 : Int32)))), .val (.ref b150), .val (.int (f2_0 gf149 (i1 &&& (3 : Int32)) i5)), .val (.int (f2_0 (own_put (i1 &&& (3 : Int32)) ((128 : Int32) + ((i3 &&& (2147483647 : Int32)) % (1113984 : Int32))) gf154) (i1 &&& (3 : Int32)) i5)), .unset, .unset] [(.int (i1 &&& (3 : Int32))), (.ref b145)]))
    refine own_step (fun t k => XS.iload X161.here hx rfl (hb hby at_184) rfl  k) ?_
    show own_Fin p e below s Q 16 128 (T161.setTop (mkF m 186 #[.val (.int i0), .val (.int i1), .val (.int i2), .val (.int i3), .val (.int i4), .val (.int i5), .val (.int (i1 &&& (3 : Int32))), .val (.ref b145), .val (.int ((128 : Int32) + ((i3 &&& (2147483647 : Int32)) % (1113984 : Int32)))), .val (.ref b150), .val (.int (f2_0 gf149 (i1 &&& (3 : Int32)) i5)), .val (.int (f2_0 (own_put (i1 &&& (3 : Int32)) ((128 : Int32) + ((i3 &&& (2147483647 : Int32)) % (1113984 : Int32))) gf154) (i1 &&& (3 : Int32)) i5)), .unset, .unset] [(.int (f2_0 gf149 (i1 &&& (3 : Int32)) i5)), (.int (i1 &&& (3 : Int32))), (.ref b145)]))
    obtain ⟨_, _, ⟨T162, L162, k162, n162⟩, -, X162, ⟨Lc162, hQ162, l162, y162, z162⟩, st162⟩ := Jvm.LawKit.callS X161 hx (y := (⟨"com/example/zoria/zoria/xml/XmlInputStandingCharacterPinLaw", "matches", "([BII)Z"⟩ : MethodName)) hown (mvT hZ (hw _ (List.mem_of_getElem? (i := 22) rfl))) (mvT hZ (hw _ (List.mem_of_getElem? (i := 23) rfl))) (mvT hZ (hw _ (List.mem_of_getElem? (i := 5) rfl))) (mvT hZ (hw _ (List.mem_of_getElem? (i := 24) rfl))) (by decide) (backOf (W := 0) (rm4 l Z a0 hw [] b145 gf149 8 (i1 &&& (3 : Int32)) (f2_0 gf149 (i1 &&& (3 : Int32)) i5) T155.heap n0 V155_b145 (own_o0 i1) (own_o1 i1) (own_o2 i1) (own_o3 i1)) hZ (hw _ (List.mem_of_getElem? (i := 24) rfl)) (hw _ (List.mem_of_getElem? (i := 5) rfl)) (by decide) (by decide)) (g := (mkF m 186 #[.val (.int i0), .val (.int i1), .val (.int i2), .val (.int i3), .val (.int i4), .val (.int i5), .val (.int (i1 &&& (3 : Int32))), .val (.ref b145), .val (.int ((128 : Int32) + ((i3 &&& (2147483647 : Int32)) % (1113984 : Int32)))), .val (.ref b150), .val (.int (f2_0 gf149 (i1 &&& (3 : Int32)) i5)), .val (.int (f2_0 (own_put (i1 &&& (3 : Int32)) ((128 : Int32) + ((i3 &&& (2147483647 : Int32)) % (1113984 : Int32))) gf154) (i1 &&& (3 : Int32)) i5)), .unset, .unset] [(.int (f2_0 gf149 (i1 &&& (3 : Int32)) i5)), (.int (i1 &&& (3 : Int32))), (.ref b145)])) rfl (by rw [hml]; rfl) (argsL := [(.ref b145), (.int (i1 &&& (3 : Int32))), (.int (f2_0 gf149 (i1 &&& (3 : Int32)) i5))]) (rest := []) (lenOf pdm_2 rfl) rfl (by show 2 * 0 + _ ≤ _; exact Nat.le_of_eq rfl) (hb hby at_186) (fun _ _ => ⟨rfl, e161, (show cells + 1 + 1 + 0 + 0 + 0 + 0 + 0 ≤ 16 from (Nat.le_trans (Nat.add_le_add_right hc 2) (by decide))), (show slots + 8 + 8 + 0 + 0 + 0 + 0 + 0 ≤ 128 from (Nat.le_trans (Nat.add_le_add_right hs 16) (by decide)))⟩)
    dsimp only [Pt.U, Pt.locs, Pt.cells, Pt.slots] at X162 l162 y162 z162 st162 hQ162
    have yy162 : k162 = cells + 1 + 1 + 0 + 0 + 0 + 0 + 0 := y162
    have zz162 : n162 = slots + 8 + 8 + 0 + 0 + 0 + 0 + 0 := z162
    rw [yy162, zz162] at X162
    subst l162
    obtain ⟨rfl, N162q, e162⟩ := hQ162
    have N162 := Fr.app N161 N162q
    refine own_step st162 ?_
    show own_Fin p e below s Q 16 128 (T162.setTop (mkF m 189 #[.val (.int i0), .val (.int i1), .val (.int i2), .val (.int i3), .val (.int i4), .val (.int i5), .val (.int (i1 &&& (3 : Int32))), .val (.ref b145), .val (.int ((128 : Int32) + ((i3 &&& (2147483647 : Int32)) % (1113984 : Int32)))), .val (.ref b150), .val (.int (f2_0 gf149 (i1 &&& (3 : Int32)) i5)), .val (.int (f2_0 (own_put (i1 &&& (3 : Int32)) ((128 : Int32) + ((i3 &&& (2147483647 : Int32)) % (1113984 : Int32))) gf154) (i1 &&& (3 : Int32)) i5)), .unset, .unset] [(.int (f4_0 gf149 (i1 &&& (3 : Int32)) (f2_0 gf149 (i1 &&& (3 : Int32)) i5)))]))
    refine own_step (fun t k => XS.ifNo X162.here hx rfl (hb hby at_189) rfl ((if0 _ _).trans (feq (by rw [(own_sound _ _ _ hx1 ((own_gbs hgf149 (own_gbs hgf148 (own_gbs hgf147 (own_gbs hgf146 own_gb0)))) _) ((own_gbs hgf149 (own_gbs hgf148 (own_gbs hgf147 (own_gbs hgf146 own_gb0)))) _) ((own_gbs hgf149 (own_gbs hgf148 (own_gbs hgf147 (own_gbs hgf146 own_gb0)))) _) ((own_gbs hgf149 (own_gbs hgf148 (own_gbs hgf147 (own_gbs hgf146 own_gb0)))) _) hB167_158).2]; decide)).1) k) ?_
    show own_Fin p e below s Q 16 128 (T162.setTop (mkF m 192 #[.val (.int i0), .val (.int i1), .val (.int i2), .val (.int i3), .val (.int i4), .val (.int i5), .val (.int (i1 &&& (3 : Int32))), .val (.ref b145), .val (.int ((128 : Int32) + ((i3 &&& (2147483647 : Int32)) % (1113984 : Int32)))), .val (.ref b150), .val (.int (f2_0 gf149 (i1 &&& (3 : Int32)) i5)), .val (.int (f2_0 (own_put (i1 &&& (3 : Int32)) ((128 : Int32) + ((i3 &&& (2147483647 : Int32)) % (1113984 : Int32))) gf154) (i1 &&& (3 : Int32)) i5)), .unset, .unset] []))
    refine own_step (fun t k => XS.iconst X162.here hx rfl (hb hby at_192) k) ?_
    show own_Fin p e below s Q 16 128 (T162.setTop (mkF m 193 #[.val (.int i0), .val (.int i1), .val (.int i2), .val (.int i3), .val (.int i4), .val (.int i5), .val (.int (i1 &&& (3 : Int32))), .val (.ref b145), .val (.int ((128 : Int32) + ((i3 &&& (2147483647 : Int32)) % (1113984 : Int32)))), .val (.ref b150), .val (.int (f2_0 gf149 (i1 &&& (3 : Int32)) i5)), .val (.int (f2_0 (own_put (i1 &&& (3 : Int32)) ((128 : Int32) + ((i3 &&& (2147483647 : Int32)) % (1113984 : Int32))) gf154) (i1 &&& (3 : Int32)) i5)), .unset, .unset] [(.int (1 : Int32))]))
    refine own_step (fun t k => XS.goto X162.here hx rfl (pc0 := 193) (pc' := 197) rfl (hb hby at_193) (by decide) (by decide) k) ?_
    show own_Fin p e below s Q 16 128 (T162.setTop (mkF m 197 #[.val (.int i0), .val (.int i1), .val (.int i2), .val (.int i3), .val (.int i4), .val (.int i5), .val (.int (i1 &&& (3 : Int32))), .val (.ref b145), .val (.int ((128 : Int32) + ((i3 &&& (2147483647 : Int32)) % (1113984 : Int32)))), .val (.ref b150), .val (.int (f2_0 gf149 (i1 &&& (3 : Int32)) i5)), .val (.int (f2_0 (own_put (i1 &&& (3 : Int32)) ((128 : Int32) + ((i3 &&& (2147483647 : Int32)) % (1113984 : Int32))) gf154) (i1 &&& (3 : Int32)) i5)), .unset, .unset] [(.int (1 : Int32))]))
    refine own_step (fun t k => XS.istore X162.here hx rfl (hb hby at_197) rfl (l' := #[.val (.int i0), .val (.int i1), .val (.int i2), .val (.int i3), .val (.int i4), .val (.int i5), .val (.int (i1 &&& (3 : Int32))), .val (.ref b145), .val (.int ((128 : Int32) + ((i3 &&& (2147483647 : Int32)) % (1113984 : Int32)))), .val (.ref b150), .val (.int (f2_0 gf149 (i1 &&& (3 : Int32)) i5)), .val (.int (f2_0 (own_put (i1 &&& (3 : Int32)) ((128 : Int32) + ((i3 &&& (2147483647 : Int32)) % (1113984 : Int32))) gf154) (i1 &&& (3 : Int32)) i5)), .val (.int (1 : Int32)), .unset]) rfl k) ?_
    show own_Fin p e below s Q 16 128 (T162.setTop (mkF m 199 #[.val (.int i0), .val (.int i1), .val (.int i2), .val (.int i3), .val (.int i4), .val (.int i5), .val (.int (i1 &&& (3 : Int32))), .val (.ref b145), .val (.int ((128 : Int32) + ((i3 &&& (2147483647 : Int32)) % (1113984 : Int32)))), .val (.ref b150), .val (.int (f2_0 gf149 (i1 &&& (3 : Int32)) i5)), .val (.int (f2_0 (own_put (i1 &&& (3 : Int32)) ((128 : Int32) + ((i3 &&& (2147483647 : Int32)) % (1113984 : Int32))) gf154) (i1 &&& (3 : Int32)) i5)), .val (.int (1 : Int32)), .unset] []))
    refine own_step (fun t k => XS.iload X162.here hx rfl (hb hby at_199) rfl  k) ?_
    show own_Fin p e below s Q 16 128 (T162.setTop (mkF m 201 #[.val (.int i0), .val (.int i1), .val (.int i2), .val (.int i3), .val (.int i4), .val (.int i5), .val (.int (i1 &&& (3 : Int32))), .val (.ref b145), .val (.int ((128 : Int32) + ((i3 &&& (2147483647 : Int32)) % (1113984 : Int32)))), .val (.ref b150), .val (.int (f2_0 gf149 (i1 &&& (3 : Int32)) i5)), .val (.int (f2_0 (own_put (i1 &&& (3 : Int32)) ((128 : Int32) + ((i3 &&& (2147483647 : Int32)) % (1113984 : Int32))) gf154) (i1 &&& (3 : Int32)) i5)), .val (.int (1 : Int32)), .unset] [(.int ((128 : Int32) + ((i3 &&& (2147483647 : Int32)) % (1113984 : Int32))))]))
    refine own_step (fun t k => XS.iload X162.here hx rfl (hb hby at_201) rfl  k) ?_
    show own_Fin p e below s Q 16 128 (T162.setTop (mkF m 203 #[.val (.int i0), .val (.int i1), .val (.int i2), .val (.int i3), .val (.int i4), .val (.int i5), .val (.int (i1 &&& (3 : Int32))), .val (.ref b145), .val (.int ((128 : Int32) + ((i3 &&& (2147483647 : Int32)) % (1113984 : Int32)))), .val (.ref b150), .val (.int (f2_0 gf149 (i1 &&& (3 : Int32)) i5)), .val (.int (f2_0 (own_put (i1 &&& (3 : Int32)) ((128 : Int32) + ((i3 &&& (2147483647 : Int32)) % (1113984 : Int32))) gf154) (i1 &&& (3 : Int32)) i5)), .val (.int (1 : Int32)), .unset] [(.int i5), (.int ((128 : Int32) + ((i3 &&& (2147483647 : Int32)) % (1113984 : Int32))))]))
    obtain ⟨_, _, ⟨T163, L163, k163, n163⟩, -, X163, ⟨Lc163, hQ163, l163, y163, z163⟩, st163⟩ := Jvm.LawKit.callS X162 hx (y := (⟨"com/example/zoria/zoria/xml/XmlInputStandingCharacterPinLaw", "allowed", "(IZ)Z"⟩ : MethodName)) hown (mvT hZ (hw _ (List.mem_of_getElem? (i := 11) rfl))) (mvT hZ (hw _ (List.mem_of_getElem? (i := 12) rfl))) (mvT hZ (hw _ (List.mem_of_getElem? (i := 5) rfl))) (mvT hZ (hw _ (List.mem_of_getElem? (i := 13) rfl))) (by decide) (backOf (W := 0) (rm3 l Z a0 hw [] ((128 : Int32) + ((i3 &&& (2147483647 : Int32)) % (1113984 : Int32))) i5 T155.heap n0) hZ (hw _ (List.mem_of_getElem? (i := 13) rfl)) (hw _ (List.mem_of_getElem? (i := 5) rfl)) (by decide) (by decide)) (g := (mkF m 203 #[.val (.int i0), .val (.int i1), .val (.int i2), .val (.int i3), .val (.int i4), .val (.int i5), .val (.int (i1 &&& (3 : Int32))), .val (.ref b145), .val (.int ((128 : Int32) + ((i3 &&& (2147483647 : Int32)) % (1113984 : Int32)))), .val (.ref b150), .val (.int (f2_0 gf149 (i1 &&& (3 : Int32)) i5)), .val (.int (f2_0 (own_put (i1 &&& (3 : Int32)) ((128 : Int32) + ((i3 &&& (2147483647 : Int32)) % (1113984 : Int32))) gf154) (i1 &&& (3 : Int32)) i5)), .val (.int (1 : Int32)), .unset] [(.int i5), (.int ((128 : Int32) + ((i3 &&& (2147483647 : Int32)) % (1113984 : Int32))))])) rfl (by rw [hml]; rfl) (argsL := [(.int ((128 : Int32) + ((i3 &&& (2147483647 : Int32)) % (1113984 : Int32)))), (.int i5)]) (rest := []) (lenOf pdm_1 rfl) rfl (by show 2 * 0 + _ ≤ _; exact Nat.le_of_eq rfl) (hb hby at_203) (fun _ _ => ⟨rfl, e162, (show cells + 1 + 1 + 0 + 0 + 0 + 0 + 0 + 0 ≤ 16 from (Nat.le_trans (Nat.add_le_add_right hc 2) (by decide))), (show slots + 8 + 8 + 0 + 0 + 0 + 0 + 0 + 0 ≤ 128 from (Nat.le_trans (Nat.add_le_add_right hs 16) (by decide)))⟩)
    dsimp only [Pt.U, Pt.locs, Pt.cells, Pt.slots] at X163 l163 y163 z163 st163 hQ163
    have yy163 : k163 = cells + 1 + 1 + 0 + 0 + 0 + 0 + 0 + 0 := y163
    have zz163 : n163 = slots + 8 + 8 + 0 + 0 + 0 + 0 + 0 + 0 := z163
    rw [yy163, zz163] at X163
    subst l163
    obtain ⟨rfl, N163q, e163⟩ := hQ163
    have N163 := Fr.app N162 N163q
    refine own_step st163 ?_
    show own_Fin p e below s Q 16 128 (T163.setTop (mkF m 206 #[.val (.int i0), .val (.int i1), .val (.int i2), .val (.int i3), .val (.int i4), .val (.int i5), .val (.int (i1 &&& (3 : Int32))), .val (.ref b145), .val (.int ((128 : Int32) + ((i3 &&& (2147483647 : Int32)) % (1113984 : Int32)))), .val (.ref b150), .val (.int (f2_0 gf149 (i1 &&& (3 : Int32)) i5)), .val (.int (f2_0 (own_put (i1 &&& (3 : Int32)) ((128 : Int32) + ((i3 &&& (2147483647 : Int32)) % (1113984 : Int32))) gf154) (i1 &&& (3 : Int32)) i5)), .val (.int (1 : Int32)), .unset] [(.int (f3_0 ((128 : Int32) + ((i3 &&& (2147483647 : Int32)) % (1113984 : Int32))) i5))]))
    by_cases hB206_164 : (f3_0 ((128 : Int32) + ((i3 &&& (2147483647 : Int32)) % (1113984 : Int32))) i5) = (0 : Int32)
    · refine own_step (fun t k => XS.ifYes X163.here hx rfl (pc0 := 206) (pc' := 214) rfl (hb hby at_206) rfl ((if0 _ _).trans (teq hB206_164).1) (by decide) (by decide) k) ?_
      show own_Fin p e below s Q 16 128 (T163.setTop (mkF m 214 #[.val (.int i0), .val (.int i1), .val (.int i2), .val (.int i3), .val (.int i4), .val (.int i5), .val (.int (i1 &&& (3 : Int32))), .val (.ref b145), .val (.int ((128 : Int32) + ((i3 &&& (2147483647 : Int32)) % (1113984 : Int32)))), .val (.ref b150), .val (.int (f2_0 gf149 (i1 &&& (3 : Int32)) i5)), .val (.int (f2_0 (own_put (i1 &&& (3 : Int32)) ((128 : Int32) + ((i3 &&& (2147483647 : Int32)) % (1113984 : Int32))) gf154) (i1 &&& (3 : Int32)) i5)), .val (.int (1 : Int32)), .unset] []))
      refine own_step (fun t k => XS.iconst X163.here hx rfl (hb hby at_214) k) ?_
      show own_Fin p e below s Q 16 128 (T163.setTop (mkF m 215 #[.val (.int i0), .val (.int i1), .val (.int i2), .val (.int i3), .val (.int i4), .val (.int i5), .val (.int (i1 &&& (3 : Int32))), .val (.ref b145), .val (.int ((128 : Int32) + ((i3 &&& (2147483647 : Int32)) % (1113984 : Int32)))), .val (.ref b150), .val (.int (f2_0 gf149 (i1 &&& (3 : Int32)) i5)), .val (.int (f2_0 (own_put (i1 &&& (3 : Int32)) ((128 : Int32) + ((i3 &&& (2147483647 : Int32)) % (1113984 : Int32))) gf154) (i1 &&& (3 : Int32)) i5)), .val (.int (1 : Int32)), .unset] [(.int (-1 : Int32))]))
      refine own_step (fun t k => XS.istore X163.here hx rfl (hb hby at_215) rfl (l' := #[.val (.int i0), .val (.int i1), .val (.int i2), .val (.int i3), .val (.int i4), .val (.int i5), .val (.int (i1 &&& (3 : Int32))), .val (.ref b145), .val (.int ((128 : Int32) + ((i3 &&& (2147483647 : Int32)) % (1113984 : Int32)))), .val (.ref b150), .val (.int (f2_0 gf149 (i1 &&& (3 : Int32)) i5)), .val (.int (f2_0 (own_put (i1 &&& (3 : Int32)) ((128 : Int32) + ((i3 &&& (2147483647 : Int32)) % (1113984 : Int32))) gf154) (i1 &&& (3 : Int32)) i5)), .val (.int (1 : Int32)), .val (.int (-1 : Int32))]) rfl k) ?_
      show own_Fin p e below s Q 16 128 (T163.setTop (mkF m 217 #[.val (.int i0), .val (.int i1), .val (.int i2), .val (.int i3), .val (.int i4), .val (.int i5), .val (.int (i1 &&& (3 : Int32))), .val (.ref b145), .val (.int ((128 : Int32) + ((i3 &&& (2147483647 : Int32)) % (1113984 : Int32)))), .val (.ref b150), .val (.int (f2_0 gf149 (i1 &&& (3 : Int32)) i5)), .val (.int (f2_0 (own_put (i1 &&& (3 : Int32)) ((128 : Int32) + ((i3 &&& (2147483647 : Int32)) % (1113984 : Int32))) gf154) (i1 &&& (3 : Int32)) i5)), .val (.int (1 : Int32)), .val (.int (-1 : Int32))] []))
      refine own_step (fun t k => XS.iload X163.here hx rfl (hb hby at_217) rfl  k) ?_
      show own_Fin p e below s Q 16 128 (T163.setTop (mkF m 219 #[.val (.int i0), .val (.int i1), .val (.int i2), .val (.int i3), .val (.int i4), .val (.int i5), .val (.int (i1 &&& (3 : Int32))), .val (.ref b145), .val (.int ((128 : Int32) + ((i3 &&& (2147483647 : Int32)) % (1113984 : Int32)))), .val (.ref b150), .val (.int (f2_0 gf149 (i1 &&& (3 : Int32)) i5)), .val (.int (f2_0 (own_put (i1 &&& (3 : Int32)) ((128 : Int32) + ((i3 &&& (2147483647 : Int32)) % (1113984 : Int32))) gf154) (i1 &&& (3 : Int32)) i5)), .val (.int (1 : Int32)), .val (.int (-1 : Int32))] [(.int (1 : Int32))]))
      refine own_step (fun t k => XS.ifNo X163.here hx rfl (hb hby at_219) rfl ((if0 _ _).trans (feq (by decide : ¬ ((1 : Int32) = (0 : Int32)))).1) k) ?_
      show own_Fin p e below s Q 16 128 (T163.setTop (mkF m 222 #[.val (.int i0), .val (.int i1), .val (.int i2), .val (.int i3), .val (.int i4), .val (.int i5), .val (.int (i1 &&& (3 : Int32))), .val (.ref b145), .val (.int ((128 : Int32) + ((i3 &&& (2147483647 : Int32)) % (1113984 : Int32)))), .val (.ref b150), .val (.int (f2_0 gf149 (i1 &&& (3 : Int32)) i5)), .val (.int (f2_0 (own_put (i1 &&& (3 : Int32)) ((128 : Int32) + ((i3 &&& (2147483647 : Int32)) % (1113984 : Int32))) gf154) (i1 &&& (3 : Int32)) i5)), .val (.int (1 : Int32)), .val (.int (-1 : Int32))] []))
      refine own_step (fun t k => XS.iload X163.here hx rfl (hb hby at_222) rfl  k) ?_
      show own_Fin p e below s Q 16 128 (T163.setTop (mkF m 224 #[.val (.int i0), .val (.int i1), .val (.int i2), .val (.int i3), .val (.int i4), .val (.int i5), .val (.int (i1 &&& (3 : Int32))), .val (.ref b145), .val (.int ((128 : Int32) + ((i3 &&& (2147483647 : Int32)) % (1113984 : Int32)))), .val (.ref b150), .val (.int (f2_0 gf149 (i1 &&& (3 : Int32)) i5)), .val (.int (f2_0 (own_put (i1 &&& (3 : Int32)) ((128 : Int32) + ((i3 &&& (2147483647 : Int32)) % (1113984 : Int32))) gf154) (i1 &&& (3 : Int32)) i5)), .val (.int (1 : Int32)), .val (.int (-1 : Int32))] [(.int (f2_0 (own_put (i1 &&& (3 : Int32)) ((128 : Int32) + ((i3 &&& (2147483647 : Int32)) % (1113984 : Int32))) gf154) (i1 &&& (3 : Int32)) i5))]))
      refine own_step (fun t k => XS.iload X163.here hx rfl (hb hby at_224) rfl  k) ?_
      show own_Fin p e below s Q 16 128 (T163.setTop (mkF m 226 #[.val (.int i0), .val (.int i1), .val (.int i2), .val (.int i3), .val (.int i4), .val (.int i5), .val (.int (i1 &&& (3 : Int32))), .val (.ref b145), .val (.int ((128 : Int32) + ((i3 &&& (2147483647 : Int32)) % (1113984 : Int32)))), .val (.ref b150), .val (.int (f2_0 gf149 (i1 &&& (3 : Int32)) i5)), .val (.int (f2_0 (own_put (i1 &&& (3 : Int32)) ((128 : Int32) + ((i3 &&& (2147483647 : Int32)) % (1113984 : Int32))) gf154) (i1 &&& (3 : Int32)) i5)), .val (.int (1 : Int32)), .val (.int (-1 : Int32))] [(.int (-1 : Int32)), (.int (f2_0 (own_put (i1 &&& (3 : Int32)) ((128 : Int32) + ((i3 &&& (2147483647 : Int32)) % (1113984 : Int32))) gf154) (i1 &&& (3 : Int32)) i5))]))
      refine own_step (fun t k => XS.icmpNo X163.here hx rfl (hb hby at_226) rfl (teq ((own_full _ _ _ _ hx1 (own_m3 i1) (own_cp i3) (own_gbs hgf154 (own_gbs hgf153 (own_gbs hgf152 (own_gbs hgf151 own_gb0))))).1 hB206_164)).2 k) ?_
      show own_Fin p e below s Q 16 128 (T163.setTop (mkF m 229 #[.val (.int i0), .val (.int i1), .val (.int i2), .val (.int i3), .val (.int i4), .val (.int i5), .val (.int (i1 &&& (3 : Int32))), .val (.ref b145), .val (.int ((128 : Int32) + ((i3 &&& (2147483647 : Int32)) % (1113984 : Int32)))), .val (.ref b150), .val (.int (f2_0 gf149 (i1 &&& (3 : Int32)) i5)), .val (.int (f2_0 (own_put (i1 &&& (3 : Int32)) ((128 : Int32) + ((i3 &&& (2147483647 : Int32)) % (1113984 : Int32))) gf154) (i1 &&& (3 : Int32)) i5)), .val (.int (1 : Int32)), .val (.int (-1 : Int32))] []))
      refine own_step (fun t k => XS.iconst X163.here hx rfl (hb hby at_229) k) ?_
      show own_Fin p e below s Q 16 128 (T163.setTop (mkF m 230 #[.val (.int i0), .val (.int i1), .val (.int i2), .val (.int i3), .val (.int i4), .val (.int i5), .val (.int (i1 &&& (3 : Int32))), .val (.ref b145), .val (.int ((128 : Int32) + ((i3 &&& (2147483647 : Int32)) % (1113984 : Int32)))), .val (.ref b150), .val (.int (f2_0 gf149 (i1 &&& (3 : Int32)) i5)), .val (.int (f2_0 (own_put (i1 &&& (3 : Int32)) ((128 : Int32) + ((i3 &&& (2147483647 : Int32)) % (1113984 : Int32))) gf154) (i1 &&& (3 : Int32)) i5)), .val (.int (1 : Int32)), .val (.int (-1 : Int32))] [(.int (1 : Int32))]))
      refine own_step (fun t k => XS.goto X163.here hx rfl (pc0 := 230) (pc' := 234) rfl (hb hby at_230) (by decide) (by decide) k) ?_
      show own_Fin p e below s Q 16 128 (T163.setTop (mkF m 234 #[.val (.int i0), .val (.int i1), .val (.int i2), .val (.int i3), .val (.int i4), .val (.int i5), .val (.int (i1 &&& (3 : Int32))), .val (.ref b145), .val (.int ((128 : Int32) + ((i3 &&& (2147483647 : Int32)) % (1113984 : Int32)))), .val (.ref b150), .val (.int (f2_0 gf149 (i1 &&& (3 : Int32)) i5)), .val (.int (f2_0 (own_put (i1 &&& (3 : Int32)) ((128 : Int32) + ((i3 &&& (2147483647 : Int32)) % (1113984 : Int32))) gf154) (i1 &&& (3 : Int32)) i5)), .val (.int (1 : Int32)), .val (.int (-1 : Int32))] [(.int (1 : Int32))]))
      exact own_retN X163 hx hlk hret (by simp) (hb hby at_234) (Nat.le_trans (Nat.add_le_add_right hc 2) (by decide)) (Nat.le_trans (Nat.add_le_add_right hs 16) (by decide)) rfl N163 (fun L' n' => hQ _ L' n') (rfl)
    · refine own_step (fun t k => XS.ifNo X163.here hx rfl (hb hby at_206) rfl ((if0 _ _).trans (feq hB206_164).1) k) ?_
      show own_Fin p e below s Q 16 128 (T163.setTop (mkF m 209 #[.val (.int i0), .val (.int i1), .val (.int i2), .val (.int i3), .val (.int i4), .val (.int i5), .val (.int (i1 &&& (3 : Int32))), .val (.ref b145), .val (.int ((128 : Int32) + ((i3 &&& (2147483647 : Int32)) % (1113984 : Int32)))), .val (.ref b150), .val (.int (f2_0 gf149 (i1 &&& (3 : Int32)) i5)), .val (.int (f2_0 (own_put (i1 &&& (3 : Int32)) ((128 : Int32) + ((i3 &&& (2147483647 : Int32)) % (1113984 : Int32))) gf154) (i1 &&& (3 : Int32)) i5)), .val (.int (1 : Int32)), .unset] []))
      refine own_step (fun t k => XS.iload X163.here hx rfl (hb hby at_209) rfl  k) ?_
      show own_Fin p e below s Q 16 128 (T163.setTop (mkF m 211 #[.val (.int i0), .val (.int i1), .val (.int i2), .val (.int i3), .val (.int i4), .val (.int i5), .val (.int (i1 &&& (3 : Int32))), .val (.ref b145), .val (.int ((128 : Int32) + ((i3 &&& (2147483647 : Int32)) % (1113984 : Int32)))), .val (.ref b150), .val (.int (f2_0 gf149 (i1 &&& (3 : Int32)) i5)), .val (.int (f2_0 (own_put (i1 &&& (3 : Int32)) ((128 : Int32) + ((i3 &&& (2147483647 : Int32)) % (1113984 : Int32))) gf154) (i1 &&& (3 : Int32)) i5)), .val (.int (1 : Int32)), .unset] [(.int ((128 : Int32) + ((i3 &&& (2147483647 : Int32)) % (1113984 : Int32))))]))
      refine own_step (fun t k => XS.goto X163.here hx rfl (pc0 := 211) (pc' := 215) rfl (hb hby at_211) (by decide) (by decide) k) ?_
      show own_Fin p e below s Q 16 128 (T163.setTop (mkF m 215 #[.val (.int i0), .val (.int i1), .val (.int i2), .val (.int i3), .val (.int i4), .val (.int i5), .val (.int (i1 &&& (3 : Int32))), .val (.ref b145), .val (.int ((128 : Int32) + ((i3 &&& (2147483647 : Int32)) % (1113984 : Int32)))), .val (.ref b150), .val (.int (f2_0 gf149 (i1 &&& (3 : Int32)) i5)), .val (.int (f2_0 (own_put (i1 &&& (3 : Int32)) ((128 : Int32) + ((i3 &&& (2147483647 : Int32)) % (1113984 : Int32))) gf154) (i1 &&& (3 : Int32)) i5)), .val (.int (1 : Int32)), .unset] [(.int ((128 : Int32) + ((i3 &&& (2147483647 : Int32)) % (1113984 : Int32))))]))
      refine own_step (fun t k => XS.istore X163.here hx rfl (hb hby at_215) rfl (l' := #[.val (.int i0), .val (.int i1), .val (.int i2), .val (.int i3), .val (.int i4), .val (.int i5), .val (.int (i1 &&& (3 : Int32))), .val (.ref b145), .val (.int ((128 : Int32) + ((i3 &&& (2147483647 : Int32)) % (1113984 : Int32)))), .val (.ref b150), .val (.int (f2_0 gf149 (i1 &&& (3 : Int32)) i5)), .val (.int (f2_0 (own_put (i1 &&& (3 : Int32)) ((128 : Int32) + ((i3 &&& (2147483647 : Int32)) % (1113984 : Int32))) gf154) (i1 &&& (3 : Int32)) i5)), .val (.int (1 : Int32)), .val (.int ((128 : Int32) + ((i3 &&& (2147483647 : Int32)) % (1113984 : Int32))))]) rfl k) ?_
      show own_Fin p e below s Q 16 128 (T163.setTop (mkF m 217 #[.val (.int i0), .val (.int i1), .val (.int i2), .val (.int i3), .val (.int i4), .val (.int i5), .val (.int (i1 &&& (3 : Int32))), .val (.ref b145), .val (.int ((128 : Int32) + ((i3 &&& (2147483647 : Int32)) % (1113984 : Int32)))), .val (.ref b150), .val (.int (f2_0 gf149 (i1 &&& (3 : Int32)) i5)), .val (.int (f2_0 (own_put (i1 &&& (3 : Int32)) ((128 : Int32) + ((i3 &&& (2147483647 : Int32)) % (1113984 : Int32))) gf154) (i1 &&& (3 : Int32)) i5)), .val (.int (1 : Int32)), .val (.int ((128 : Int32) + ((i3 &&& (2147483647 : Int32)) % (1113984 : Int32))))] []))
      refine own_step (fun t k => XS.iload X163.here hx rfl (hb hby at_217) rfl  k) ?_
      show own_Fin p e below s Q 16 128 (T163.setTop (mkF m 219 #[.val (.int i0), .val (.int i1), .val (.int i2), .val (.int i3), .val (.int i4), .val (.int i5), .val (.int (i1 &&& (3 : Int32))), .val (.ref b145), .val (.int ((128 : Int32) + ((i3 &&& (2147483647 : Int32)) % (1113984 : Int32)))), .val (.ref b150), .val (.int (f2_0 gf149 (i1 &&& (3 : Int32)) i5)), .val (.int (f2_0 (own_put (i1 &&& (3 : Int32)) ((128 : Int32) + ((i3 &&& (2147483647 : Int32)) % (1113984 : Int32))) gf154) (i1 &&& (3 : Int32)) i5)), .val (.int (1 : Int32)), .val (.int ((128 : Int32) + ((i3 &&& (2147483647 : Int32)) % (1113984 : Int32))))] [(.int (1 : Int32))]))
      refine own_step (fun t k => XS.ifNo X163.here hx rfl (hb hby at_219) rfl ((if0 _ _).trans (feq (by decide : ¬ ((1 : Int32) = (0 : Int32)))).1) k) ?_
      show own_Fin p e below s Q 16 128 (T163.setTop (mkF m 222 #[.val (.int i0), .val (.int i1), .val (.int i2), .val (.int i3), .val (.int i4), .val (.int i5), .val (.int (i1 &&& (3 : Int32))), .val (.ref b145), .val (.int ((128 : Int32) + ((i3 &&& (2147483647 : Int32)) % (1113984 : Int32)))), .val (.ref b150), .val (.int (f2_0 gf149 (i1 &&& (3 : Int32)) i5)), .val (.int (f2_0 (own_put (i1 &&& (3 : Int32)) ((128 : Int32) + ((i3 &&& (2147483647 : Int32)) % (1113984 : Int32))) gf154) (i1 &&& (3 : Int32)) i5)), .val (.int (1 : Int32)), .val (.int ((128 : Int32) + ((i3 &&& (2147483647 : Int32)) % (1113984 : Int32))))] []))
      refine own_step (fun t k => XS.iload X163.here hx rfl (hb hby at_222) rfl  k) ?_
      show own_Fin p e below s Q 16 128 (T163.setTop (mkF m 224 #[.val (.int i0), .val (.int i1), .val (.int i2), .val (.int i3), .val (.int i4), .val (.int i5), .val (.int (i1 &&& (3 : Int32))), .val (.ref b145), .val (.int ((128 : Int32) + ((i3 &&& (2147483647 : Int32)) % (1113984 : Int32)))), .val (.ref b150), .val (.int (f2_0 gf149 (i1 &&& (3 : Int32)) i5)), .val (.int (f2_0 (own_put (i1 &&& (3 : Int32)) ((128 : Int32) + ((i3 &&& (2147483647 : Int32)) % (1113984 : Int32))) gf154) (i1 &&& (3 : Int32)) i5)), .val (.int (1 : Int32)), .val (.int ((128 : Int32) + ((i3 &&& (2147483647 : Int32)) % (1113984 : Int32))))] [(.int (f2_0 (own_put (i1 &&& (3 : Int32)) ((128 : Int32) + ((i3 &&& (2147483647 : Int32)) % (1113984 : Int32))) gf154) (i1 &&& (3 : Int32)) i5))]))
      refine own_step (fun t k => XS.iload X163.here hx rfl (hb hby at_224) rfl  k) ?_
      show own_Fin p e below s Q 16 128 (T163.setTop (mkF m 226 #[.val (.int i0), .val (.int i1), .val (.int i2), .val (.int i3), .val (.int i4), .val (.int i5), .val (.int (i1 &&& (3 : Int32))), .val (.ref b145), .val (.int ((128 : Int32) + ((i3 &&& (2147483647 : Int32)) % (1113984 : Int32)))), .val (.ref b150), .val (.int (f2_0 gf149 (i1 &&& (3 : Int32)) i5)), .val (.int (f2_0 (own_put (i1 &&& (3 : Int32)) ((128 : Int32) + ((i3 &&& (2147483647 : Int32)) % (1113984 : Int32))) gf154) (i1 &&& (3 : Int32)) i5)), .val (.int (1 : Int32)), .val (.int ((128 : Int32) + ((i3 &&& (2147483647 : Int32)) % (1113984 : Int32))))] [(.int ((128 : Int32) + ((i3 &&& (2147483647 : Int32)) % (1113984 : Int32)))), (.int (f2_0 (own_put (i1 &&& (3 : Int32)) ((128 : Int32) + ((i3 &&& (2147483647 : Int32)) % (1113984 : Int32))) gf154) (i1 &&& (3 : Int32)) i5))]))
      refine own_step (fun t k => XS.icmpNo X163.here hx rfl (hb hby at_226) rfl (teq ((own_full _ _ _ _ hx1 (own_m3 i1) (own_cp i3) (own_gbs hgf154 (own_gbs hgf153 (own_gbs hgf152 (own_gbs hgf151 own_gb0))))).2 hB206_164)).2 k) ?_
      show own_Fin p e below s Q 16 128 (T163.setTop (mkF m 229 #[.val (.int i0), .val (.int i1), .val (.int i2), .val (.int i3), .val (.int i4), .val (.int i5), .val (.int (i1 &&& (3 : Int32))), .val (.ref b145), .val (.int ((128 : Int32) + ((i3 &&& (2147483647 : Int32)) % (1113984 : Int32)))), .val (.ref b150), .val (.int (f2_0 gf149 (i1 &&& (3 : Int32)) i5)), .val (.int (f2_0 (own_put (i1 &&& (3 : Int32)) ((128 : Int32) + ((i3 &&& (2147483647 : Int32)) % (1113984 : Int32))) gf154) (i1 &&& (3 : Int32)) i5)), .val (.int (1 : Int32)), .val (.int ((128 : Int32) + ((i3 &&& (2147483647 : Int32)) % (1113984 : Int32))))] []))
      refine own_step (fun t k => XS.iconst X163.here hx rfl (hb hby at_229) k) ?_
      show own_Fin p e below s Q 16 128 (T163.setTop (mkF m 230 #[.val (.int i0), .val (.int i1), .val (.int i2), .val (.int i3), .val (.int i4), .val (.int i5), .val (.int (i1 &&& (3 : Int32))), .val (.ref b145), .val (.int ((128 : Int32) + ((i3 &&& (2147483647 : Int32)) % (1113984 : Int32)))), .val (.ref b150), .val (.int (f2_0 gf149 (i1 &&& (3 : Int32)) i5)), .val (.int (f2_0 (own_put (i1 &&& (3 : Int32)) ((128 : Int32) + ((i3 &&& (2147483647 : Int32)) % (1113984 : Int32))) gf154) (i1 &&& (3 : Int32)) i5)), .val (.int (1 : Int32)), .val (.int ((128 : Int32) + ((i3 &&& (2147483647 : Int32)) % (1113984 : Int32))))] [(.int (1 : Int32))]))
      refine own_step (fun t k => XS.goto X163.here hx rfl (pc0 := 230) (pc' := 234) rfl (hb hby at_230) (by decide) (by decide) k) ?_
      show own_Fin p e below s Q 16 128 (T163.setTop (mkF m 234 #[.val (.int i0), .val (.int i1), .val (.int i2), .val (.int i3), .val (.int i4), .val (.int i5), .val (.int (i1 &&& (3 : Int32))), .val (.ref b145), .val (.int ((128 : Int32) + ((i3 &&& (2147483647 : Int32)) % (1113984 : Int32)))), .val (.ref b150), .val (.int (f2_0 gf149 (i1 &&& (3 : Int32)) i5)), .val (.int (f2_0 (own_put (i1 &&& (3 : Int32)) ((128 : Int32) + ((i3 &&& (2147483647 : Int32)) % (1113984 : Int32))) gf154) (i1 &&& (3 : Int32)) i5)), .val (.int (1 : Int32)), .val (.int ((128 : Int32) + ((i3 &&& (2147483647 : Int32)) % (1113984 : Int32))))] [(.int (1 : Int32))]))
      exact own_retN X163 hx hlk hret (by simp) (hb hby at_234) (Nat.le_trans (Nat.add_le_add_right hc 2) (by decide)) (Nat.le_trans (Nat.add_le_add_right hs 16) (by decide)) rfl N163 (fun L' n' => hQ _ L' n') (rfl)
set_option maxRecDepth 65536 in
set_option maxHeartbeats 40000000 in
theorem b0_0 {p : Program} {l : Launch} {e : Env} {s : State} {m : MethodId} {args : Array Value} {below : List Frame} {meth : Method} {c : Code} {T : State} {locs : List Loc} {cells slots : Nat} {Z : State} {a0 : Array Value} {h : Heap} {n0 : Nat} {Q : Option Value → Heap → List Loc → Prop} (i0 : Int32) (i1 : Int32) (i2 : Int32) (i3 : Int32) (i4 : Int32) (hw : ∀ d ∈ tables_1, d.before a0 Z = true) (X : Stand p l e room_1 s m args below meth c T locs cells slots) (hx : p.tables.exec = Jvm.exec) (hZ : Z.Warmed39 s.vm) (hby : c.code = code) (hml : c.maxLocals = 14) (hown : s.vm.findClass "com/example/zoria/zoria/xml/XmlInputStandingCharacterPinLaw" = some m.cls) (hret : meth.sig.returnType = some .boolean) (hlk : meth.locks = false) (eT : T.heap = h) (N : Fr n0 locs) (hc : cells ≤ 0) (hs : slots ≤ 0) (Z0 : n0 ≤ h.size) (hQ : ∀ H' L', Fr n0 L' → Q (some (.int 1)) H' L') :
    own_Fin p e below s Q 16 128 (T.setTop (mkF m 0 #[.val (.int i0), .val (.int i1), .val (.int i2), .val (.int i3), .val (.int i4), .unset, .unset, .unset, .unset, .unset, .unset, .unset, .unset, .unset] [])) := by
  refine own_step (fun t k => XS.iloadN X.here hx rfl (hb hby at_0) rfl  k) ?_
  show own_Fin p e below s Q 16 128 (T.setTop (mkF m 1 #[.val (.int i0), .val (.int i1), .val (.int i2), .val (.int i3), .val (.int i4), .unset, .unset, .unset, .unset, .unset, .unset, .unset, .unset, .unset] [(.int i0)]))
  refine own_step (fun t k => XS.iconst X.here hx rfl (hb hby at_1) k) ?_
  show own_Fin p e below s Q 16 128 (T.setTop (mkF m 2 #[.val (.int i0), .val (.int i1), .val (.int i2), .val (.int i3), .val (.int i4), .unset, .unset, .unset, .unset, .unset, .unset, .unset, .unset, .unset] [(.int (1 : Int32)), (.int i0)]))
  refine own_step (fun t k => XS.iand X.here hx rfl (hb hby at_2) rfl k) ?_
  show own_Fin p e below s Q 16 128 (T.setTop (mkF m 3 #[.val (.int i0), .val (.int i1), .val (.int i2), .val (.int i3), .val (.int i4), .unset, .unset, .unset, .unset, .unset, .unset, .unset, .unset, .unset] [(.int (i0 &&& (1 : Int32)))]))
  by_cases hB3_144 : (i0 &&& (1 : Int32)) = (0 : Int32)
  · refine own_step (fun t k => XS.ifYes X.here hx rfl (pc0 := 3) (pc' := 10) rfl (hb hby at_3) rfl ((if0 _ _).trans (teq hB3_144).1) (by decide) (by decide) k) ?_
    show own_Fin p e below s Q 16 128 (T.setTop (mkF m 10 #[.val (.int i0), .val (.int i1), .val (.int i2), .val (.int i3), .val (.int i4), .unset, .unset, .unset, .unset, .unset, .unset, .unset, .unset, .unset] []))
    refine own_step (fun t k => XS.iconst X.here hx rfl (hb hby at_10) k) ?_
    show own_Fin p e below s Q 16 128 (T.setTop (mkF m 11 #[.val (.int i0), .val (.int i1), .val (.int i2), .val (.int i3), .val (.int i4), .unset, .unset, .unset, .unset, .unset, .unset, .unset, .unset, .unset] [(.int (0 : Int32))]))
    refine own_step (fun t k => XS.istore X.here hx rfl (hb hby at_11) rfl (l' := #[.val (.int i0), .val (.int i1), .val (.int i2), .val (.int i3), .val (.int i4), .val (.int (0 : Int32)), .unset, .unset, .unset, .unset, .unset, .unset, .unset, .unset]) rfl k) ?_
    exact b0_13 i0 i1 i2 i3 i4 (0 : Int32) hw X hx hZ hby hml hown hret hlk eT N (Nat.le_trans (Nat.add_le_add_right hc 0) (by decide)) (Nat.le_trans (Nat.add_le_add_right hs 0) (by decide)) (by decide) Z0 hQ
  · refine own_step (fun t k => XS.ifNo X.here hx rfl (hb hby at_3) rfl ((if0 _ _).trans (feq hB3_144).1) k) ?_
    show own_Fin p e below s Q 16 128 (T.setTop (mkF m 6 #[.val (.int i0), .val (.int i1), .val (.int i2), .val (.int i3), .val (.int i4), .unset, .unset, .unset, .unset, .unset, .unset, .unset, .unset, .unset] []))
    refine own_step (fun t k => XS.iconst X.here hx rfl (hb hby at_6) k) ?_
    show own_Fin p e below s Q 16 128 (T.setTop (mkF m 7 #[.val (.int i0), .val (.int i1), .val (.int i2), .val (.int i3), .val (.int i4), .unset, .unset, .unset, .unset, .unset, .unset, .unset, .unset, .unset] [(.int (1 : Int32))]))
    refine own_step (fun t k => XS.goto X.here hx rfl (pc0 := 7) (pc' := 11) rfl (hb hby at_7) (by decide) (by decide) k) ?_
    show own_Fin p e below s Q 16 128 (T.setTop (mkF m 11 #[.val (.int i0), .val (.int i1), .val (.int i2), .val (.int i3), .val (.int i4), .unset, .unset, .unset, .unset, .unset, .unset, .unset, .unset, .unset] [(.int (1 : Int32))]))
    refine own_step (fun t k => XS.istore X.here hx rfl (hb hby at_11) rfl (l' := #[.val (.int i0), .val (.int i1), .val (.int i2), .val (.int i3), .val (.int i4), .val (.int (1 : Int32)), .unset, .unset, .unset, .unset, .unset, .unset, .unset, .unset]) rfl k) ?_
    exact b0_13 i0 i1 i2 i3 i4 (1 : Int32) hw X hx hZ hby hml hown hret hlk eT N (Nat.le_trans (Nat.add_le_add_right hc 0) (by decide)) (Nat.le_trans (Nat.add_le_add_right hs 0) (by decide)) (by decide) Z0 hQ
theorem pdm_4 : parseMethodDescriptor "(IIIII)Z" = some ⟨[.int, .int, .int, .int, .int], some .boolean⟩ := by decide +kernel
theorem ef_0 (m : MethodId) (i0 : Int32) (i1 : Int32) (i2 : Int32) (i3 : Int32) (i4 : Int32) : entryFrame m #[(.int i0), (.int i1), (.int i2), (.int i3), (.int i4)] maxLocals = (mkF m 0 #[.val (.int i0), .val (.int i1), .val (.int i2), .val (.int i3), .val (.int i4), .unset, .unset, .unset, .unset, .unset, .unset, .unset, .unset, .unset] []) := by first | (simp [entryFrame, mkF, argsToLocals, Value.category, maxLocals]; done) | rfl
def Q0 (i0 : Int32) (i1 : Int32) (i2 : Int32) (i3 : Int32) (i4 : Int32) (h0 : Heap) (n0 : Nat) (v : Option Value) (h : Heap) (L : List Loc) : Prop := v = some (.int 1) ∧ Fr n0 L
set_option maxRecDepth 65536 in
set_option maxHeartbeats 4000000 in
theorem rm0 (l : Launch) (Z : State) (a0 : Array Value) (hw : ∀ d ∈ tables_1, d.before a0 Z = true) (ws : List Jvm.Cond) (i0 : Int32) (i1 : Int32) (i2 : Int32) (i3 : Int32) (i4 : Int32) (h0 : Heap) (n0 : Nat) (Z0 : n0 ≤ h0.size) :
    MetFree l x (head1 (Jvm.Cond.code x code maxLocals ret :: ws) room_1) (fun a U => a = #[(.int i0), (.int i1), (.int i2), (.int i3), (.int i4)] ∧ Z.Warmed39 U.vm ∧ U.heap = h0) (fun _ _ _ _ _ => True) (fun _ U o U' => ∃ v L, o = .returned v ∧ Q0 i0 i1 i2 i3 i4 h0 n0 v U'.heap L ∧ FrameEnd U o U' L 16 128) := by
  refine MetFree.of_bodySF (plainFor_of_name pnm_1) hisR ?_
  intro p e s m args below meth c s₁ Bd hml0 hP hK
  obtain ⟨rfl, hZ, hh⟩ := hP
  have hx := Bd.exec
  have hby := Bd.bytes
  have hml : c.maxLocals = 14 := hml0
  have hown : s.vm.findClass "com/example/zoria/zoria/xml/XmlInputStandingCharacterPinLaw" = some m.cls := findClass_of_methodNamed Bd.named
  have X0 : Stand p l e room_1 s m #[(.int i0), (.int i1), (.int i2), (.int i3), (.int i4)] below meth c s₁ [] 0 0 := Stand.of_body Bd
  have e0 : s₁.heap = h0 := by rw [← hh, Bd.state]; rfl
  have fin := b0_0 i0 i1 i2 i3 i4 (Q := Q0 i0 i1 i2 i3 i4 h0 n0) hw X0 hx hZ hby hml hown Bd.returns (BodyLoose.notSynchronized Bd) e0 (Fr.nil n0) (Nat.zero_le _) (Nat.zero_le _) Z0 (fun H' L' n' => ⟨rfl, n'⟩)
  exact own_step (fun t k => castTop (ef_0 m i0 i1 i2 i3 i4) k) fin
set_option maxRecDepth 65536 in
set_option maxHeartbeats 40000000 in
theorem comes_1 {Post : Tables → Env → Array Value → State → Outcome → State → Prop} (hpost : ∀ tb e args s v u, (limb_1_1.after args s (.returned v) u = true ∧ limb_1_2.after args s (.returned v) u = true ∧ True) → FrameEnd s (.returned v) u (Jvm.fieldLocs frame_1_writes args s ++ Jvm.arrayLocs frame_1_arrays args s ++ Jvm.staticLocs frame_1_statics s) 16 128 → Post tb e args s (.returned v) u) :
    ArmFor flags0 classFile x code maxLocals ret World_1 tables_1 room_1 Calls_1 rest_1 Pre_1 Post := by
  intro l hfl _ _ p e ha hc hk s m args below hf hA hF happ hP
  obtain ⟨hcalls, hrest, hpre⟩ := hP
  obtain ⟨-, -, -, hnamed, -, -, -, hat⟩ := (Spec.applies_iff hf).mp happ
  obtain ⟨hg, hn⟩ := and_e (Cond.before_iff.mp (show (Jvm.Cond.and given_1 narrow_1).before args s = true from hpre))
  obtain ⟨g1, g2⟩ := and_e hg
  obtain ⟨g3, g4⟩ := and_e g2
  obtain ⟨g5, g6⟩ := and_e g4
  obtain ⟨g7, g8⟩ := and_e g6
  obtain ⟨g9, g10⟩ := and_e g8
  obtain ⟨w0, w1, w2, w3, w4, rfl⟩ : ∃ w0 w1 w2 w3 w4 : Value, args = #[w0, w1, w2, w3, w4] := by
    have hs : args.size = 5 := by simpa [Cond.value, given_1] using g1
    obtain ⟨L⟩ := args
    match L, hs with
    | [w0, w1, w2, w3, w4], _ => exact ⟨w0, w1, w2, w3, w4, rfl⟩
  have hw := fun d (hd : d ∈ tables_1) => atoms_spec (ws := Jvm.Cond.code x code maxLocals ret :: tables_1) hat d (List.mem_cons_of_mem _ hd)
  obtain ⟨i0, ei0⟩ := is_v g3
  obtain rfl : w0 = (.int i0) := Option.some.inj ei0
  obtain ⟨i1, ei1⟩ := is_v g5
  obtain rfl : w1 = (.int i1) := Option.some.inj ei1
  obtain ⟨i2, ei2⟩ := is_v g7
  obtain rfl : w2 = (.int i2) := Option.some.inj ei2
  obtain ⟨i3, ei3⟩ := is_v g9
  obtain rfl : w3 = (.int i3) := Option.some.inj ei3
  obtain ⟨i4, ei4⟩ := is_v g10
  obtain rfl : w4 = (.int i4) := Option.some.inj ei4
  obtain ⟨n, o, h1, h2, h3, _, L, rfl, ⟨hval, N⟩, hq⟩ := rm0 l s _ hw tables_1 i0 i1 i2 i3 i4 s.heap s.heap.size (Nat.le_refl _) p e ha hc hk s m _ below hf ((Spec.applies_iff_loose hf).mp happ).1 ⟨rfl, State.Warmed39.refl s, rfl⟩ trivial
  subst hval
  refine ⟨n, _, h1, h2, h3, hpost _ _ _ _ _ _ ⟨Cond.after_iff.mpr rfl, Cond.after_iff.mpr (eq_i res_at (Term.int_eval (1)) rfl), trivial⟩ ⟨hq.1, hq.2.1, (hq.2.2.sift fun y hy => Or.inr (N y hy)).mono (by decide) (by decide)⟩⟩
theorem main_1_1 : Claimed_1_1 := comes_1 fun _ _ _ _ _ _ h hF => ⟨h.1, hF⟩
theorem main_1_2 : Claimed_1_2 := comes_1 fun _ _ _ _ _ _ h hF => ⟨h.2.1, hF⟩
end Jvm.Pilot.@@N@@
namespace Jvm.Pilot.@@N@@
open Jvm Jvm.ClassFile Sem Op Lib Jvm.Free Jvm.Stand Jvm.Pilot.@@N@@.Jvm.D
/-! MADE BY PROGRAM (witnessworld.py) out of the Statement's table words and the real class files: 11 classes; the members and pool entries that the words name. The judged class is class 1, her method 4. -/
namespace start1
open Jvm.ClassFile
def u (s : String) : CpInfo := .utf8 (stringToUtf16 s)
/-- a pool by its gaps: so many unusable entries, then the entry; so many at the end -/
def gap : Nat → List CpInfo → List CpInfo
  | 0, r => r
  | n + 1, r => .unusable :: gap n r
def poolList (es : List (Nat × CpInfo)) (last : Nat) : List CpInfo := es.foldr (fun e r => gap e.1 (e.2 :: r)) (gap last [])
def pool (es : List (Nat × CpInfo)) (last : Nat) : Array CpInfo := ⟨poolList es last⟩
def fileOf (pool : Array CpInfo) (this : Nat) (attrs : Array Attribute := #[]) (ms : Array MethodInfo := #[]) (fl : Nat := 33) (sup : Nat := 0) (ifs : Array Nat := #[]) (fds : Array FieldInfo := #[]) : ClassFile where
  minorVersion := 0
  majorVersion := 65
  constantPool := pool
  accessFlags := fl
  thisClass := this
  superClass := sup
  interfaces := ifs
  fields := fds
  methods := ms
  attributes := attrs
def plain (name : String) (sup : Option ClassId) : Class where
  name := name
  kind := .ordinary
  loader := none
  accessFlags := 33
  super := sup
  interfaces := #[]
  cf := none
  fields := #[]
  methods := #[]
  instanceTypes := #[]
  staticTypes := #[]
  resolved := #[]
  callSites := []
  init := .initialized
  statics := none
  mirror := none

def pool0 : Array CpInfo := pool [(5, u "<init>"), (0, u "()V"), (1, .class_ 10), (1, u "java/lang/Object")] 113

def k0m0 : Method := { name := "<init>", desc := "()V", sig := { parameters := [], returnType := none }, accessFlags := 1, code := none }
/-- java/lang/Object -/
def k0 : Class := { plain "java/lang/Object" none with
  accessFlags := 33
  interfaces := #[]
  cf := some (fileOf pool0 8 #[] #[{ accessFlags := 1, nameIndex := 5, descriptorIndex := 6, attributes := #[] }] 33 0 #[] #[])
  fields := #[]
  methods := #[k0m0]
  instanceTypes := #[]
  staticTypes := #[]
  resolved := Array.replicate 124 none
  statics := none }

def pool1 : Array CpInfo := pool [(2, .class_ 4), (1, u "java/lang/Object"), (0, u "<init>"), (0, u "()V"), (0, .integer 1114111), (0, .integer 55296), (0, .integer 57343), (0, .integer 65534), (0, .integer 65535), (0, .integer 65536), (0, .integer 2097151), (0, .integer 2147483647), (0, .integer 1113984), (0, .methodref 17 18), (0, .class_ 19), (0, .nameAndType 20 21), (0, u "com/example/zoria/zoria/xml/XmlInputStandingCharacterPinLaw"), (0, u "put"), (0, u "([BII)V"), (0, .methodref 23 24), (0, .class_ 25), (0, .nameAndType 26 27), (0, u "com/example/zoria/zoria/xml/XmlInput"), (0, u "standingCharacter"), (0, u "([BIZ)I"), (0, .methodref 17 29), (0, .nameAndType 30 31), (0, u "allowed"), (0, u "(IZ)Z"), (0, .methodref 17 33), (0, .nameAndType 34 35), (0, u "matches"), (0, u "([BII)Z"), (3, u "law"), (0, u "(IIIII)Z")] 4

def k1m0 : Method := { name := "<init>", desc := "()V", sig := { parameters := [], returnType := none }, accessFlags := 2, code := none }
def k1c1 : Code := { maxStack := 2, maxLocals := 2, code := method_2_code, exceptionTable := #[], attributes := #[] }
def k1m1 : Method := { name := "allowed", desc := "(IZ)Z", sig := { parameters := [.int, .boolean], returnType := some .boolean }, accessFlags := 10, code := some k1c1 }
def k1c2 : Code := { maxStack := 4, maxLocals := 3, code := method_3_code, exceptionTable := #[], attributes := #[] }
def k1m2 : Method := { name := "matches", desc := "([BII)Z", sig := { parameters := [(.array .byte), .int, .int], returnType := some .boolean }, accessFlags := 10, code := some k1c2 }
def k1c3 : Code := { maxStack := 5, maxLocals := 3, code := method_4_code, exceptionTable := #[], attributes := #[] }
def k1m3 : Method := { name := "put", desc := "([BII)V", sig := { parameters := [(.array .byte), .int, .int], returnType := none }, accessFlags := 10, code := some k1c3 }
def k1c4 : Code := { maxStack := 4, maxLocals := 14, code := code, exceptionTable := #[], attributes := #[] }
def k1m4 : Method := { name := "law", desc := "(IIIII)Z", sig := { parameters := [.int, .int, .int, .int, .int], returnType := some .boolean }, accessFlags := 9, code := some k1c4 }
/-- com/example/zoria/zoria/xml/XmlInputStandingCharacterPinLaw -/
def k1 : Class := { plain "com/example/zoria/zoria/xml/XmlInputStandingCharacterPinLaw" (some 0) with
  accessFlags := 49
  interfaces := #[]
  cf := some (fileOf pool1 17 #[] #[{ accessFlags := 2, nameIndex := 5, descriptorIndex := 6, attributes := #[] }, { accessFlags := 10, nameIndex := 30, descriptorIndex := 31, attributes := #[] }, { accessFlags := 10, nameIndex := 34, descriptorIndex := 35, attributes := #[] }, { accessFlags := 10, nameIndex := 20, descriptorIndex := 21, attributes := #[] }, { accessFlags := 9, nameIndex := 39, descriptorIndex := 40, attributes := #[] }] 49 2 #[] #[])
  fields := #[]
  methods := #[k1m0, k1m1, k1m2, k1m3, k1m4]
  instanceTypes := #[]
  staticTypes := #[]
  resolved := Array.replicate 45 none
  statics := none }

def pool2 : Array CpInfo := pool [(1, .class_ 2), (0, u "java/lang/AutoCloseable"), (0, .class_ 4), (0, u "java/lang/Object")] 7

/-- java/lang/AutoCloseable -/
def k2 : Class := { plain "java/lang/AutoCloseable" (some 0) with
  accessFlags := 1537
  interfaces := #[]
  cf := some (fileOf pool2 1 #[] #[] 1537 3 #[] #[])
  fields := #[]
  methods := #[]
  instanceTypes := #[]
  staticTypes := #[]
  resolved := Array.replicate 12 none
  statics := none }

def pool3 : Array CpInfo := pool [(1, .class_ 2), (0, u "java/io/Closeable"), (0, .class_ 4), (0, u "java/lang/Object"), (0, .class_ 6), (0, u "java/lang/AutoCloseable")] 7

/-- java/io/Closeable -/
def k3 : Class := { plain "java/io/Closeable" (some 0) with
  accessFlags := 1537
  interfaces := #[2]
  cf := some (fileOf pool3 1 #[] #[] 1537 3 #[5] #[])
  fields := #[]
  methods := #[]
  instanceTypes := #[]
  staticTypes := #[]
  resolved := Array.replicate 14 none
  statics := none }

def pool4 : Array CpInfo := pool [(1, .class_ 2), (0, u "com/example/zoria/zoria/xml/XmlInput"), (1, .class_ 6), (1, u "java/lang/Object"), (5, u "bytes"), (0, u "[B"), (5, u "nameRead"), (0, u "Lcom/example/zoria/zoria/xml/NameRead;"), (4, u "names"), (0, u "[Lcom/example/zoria/zoria/xml/XmlName;"), (2, u "nameBytes"), (2, u "input"), (0, u "Ljava/io/InputStream;"), (2, u "discarded"), (0, u "J"), (7, u "pos"), (0, u "I"), (5, u "xml11"), (0, u "Z"), (17, .integer 55296), (0, .integer 57343), (0, .integer 65534), (2, .integer 65536), (0, .integer 1114111), (5, u "limit"), (60, u "nameCount"), (87, u "inputEnded"), (32, .class_ 266), (0, u "java/io/Closeable"), (0, u "MAX_NAME_LENGTH"), (2, u "BUFFER_SIZE"), (0, u "MAX_CHARACTER_BYTES"), (1, u "MAX_HELD"), (1, u "MAX_KEPT"), (1, u "NOT_UTF8"), (0, u "Ljava/lang/String;"), (0, u "NOT_ALLOWED"), (0, u "NAME_SLOTS"), (1, u "MAX_PROBES"), (10, u "standingCharacter"), (0, u "([BIZ)I")] 38

def k4c0 : Code := { maxStack := 4, maxLocals := 5, code := prog_131_method_7_code, exceptionTable := #[], attributes := #[] }
def k4m0 : Method := { name := "standingCharacter", desc := "([BIZ)I", sig := { parameters := [(.array .byte), .int, .boolean], returnType := some .int }, accessFlags := 8, code := some k4c0 }
/-- com/example/zoria/zoria/xml/XmlInput -/
def k4 : Class := { plain "com/example/zoria/zoria/xml/XmlInput" (some 0) with
  accessFlags := 1056
  interfaces := #[3]
  cf := some (fileOf pool4 1 #[] #[{ accessFlags := 8, nameIndex := 293, descriptorIndex := 294, attributes := #[] }] 1056 4 #[265] #[{ accessFlags := 24, nameIndex := 267, descriptorIndex := 46, attributes := #[] }, { accessFlags := 26, nameIndex := 270, descriptorIndex := 46, attributes := #[] }, { accessFlags := 26, nameIndex := 271, descriptorIndex := 46, attributes := #[] }, { accessFlags := 24, nameIndex := 273, descriptorIndex := 46, attributes := #[] }, { accessFlags := 24, nameIndex := 275, descriptorIndex := 46, attributes := #[] }, { accessFlags := 26, nameIndex := 277, descriptorIndex := 278, attributes := #[] }, { accessFlags := 26, nameIndex := 279, descriptorIndex := 278, attributes := #[] }, { accessFlags := 26, nameIndex := 280, descriptorIndex := 46, attributes := #[] }, { accessFlags := 26, nameIndex := 282, descriptorIndex := 46, attributes := #[] }, { accessFlags := 18, nameIndex := 32, descriptorIndex := 33, attributes := #[] }, { accessFlags := 16, nameIndex := 12, descriptorIndex := 13, attributes := #[] }, { accessFlags := 0, nameIndex := 45, descriptorIndex := 46, attributes := #[] }, { accessFlags := 0, nameIndex := 83, descriptorIndex := 46, attributes := #[] }, { accessFlags := 2, nameIndex := 36, descriptorIndex := 37, attributes := #[] }, { accessFlags := 2, nameIndex := 232, descriptorIndex := 53, attributes := #[] }, { accessFlags := 0, nameIndex := 52, descriptorIndex := 53, attributes := #[] }, { accessFlags := 16, nameIndex := 19, descriptorIndex := 20, attributes := #[] }, { accessFlags := 18, nameIndex := 25, descriptorIndex := 26, attributes := #[] }, { accessFlags := 2, nameIndex := 144, descriptorIndex := 46, attributes := #[] }, { accessFlags := 2, nameIndex := 29, descriptorIndex := 13, attributes := #[] }])
  fields := #[{ name := "MAX_NAME_LENGTH", type := .int, accessFlags := 24, slot := 0, constantValue := 0 }, { name := "BUFFER_SIZE", type := .int, accessFlags := 26, slot := 1, constantValue := 0 }, { name := "MAX_CHARACTER_BYTES", type := .int, accessFlags := 26, slot := 2, constantValue := 0 }, { name := "MAX_HELD", type := .int, accessFlags := 24, slot := 3, constantValue := 0 }, { name := "MAX_KEPT", type := .int, accessFlags := 24, slot := 4, constantValue := 0 }, { name := "NOT_UTF8", type := (.object "java/lang/String"), accessFlags := 26, slot := 5, constantValue := 0 }, { name := "NOT_ALLOWED", type := (.object "java/lang/String"), accessFlags := 26, slot := 6, constantValue := 0 }, { name := "NAME_SLOTS", type := .int, accessFlags := 26, slot := 7, constantValue := 0 }, { name := "MAX_PROBES", type := .int, accessFlags := 26, slot := 8, constantValue := 0 }, { name := "input", type := (.object "java/io/InputStream"), accessFlags := 18, slot := 0, constantValue := 0 }, { name := "bytes", type := (.array .byte), accessFlags := 16, slot := 1, constantValue := 0 }, { name := "pos", type := .int, accessFlags := 0, slot := 2, constantValue := 0 }, { name := "limit", type := .int, accessFlags := 0, slot := 3, constantValue := 0 }, { name := "discarded", type := .long, accessFlags := 2, slot := 4, constantValue := 0 }, { name := "inputEnded", type := .boolean, accessFlags := 2, slot := 5, constantValue := 0 }, { name := "xml11", type := .boolean, accessFlags := 0, slot := 6, constantValue := 0 }, { name := "nameRead", type := (.object "com/example/zoria/zoria/xml/NameRead"), accessFlags := 16, slot := 7, constantValue := 0 }, { name := "names", type := (.array (.object "com/example/zoria/zoria/xml/XmlName")), accessFlags := 18, slot := 8, constantValue := 0 }, { name := "nameCount", type := .int, accessFlags := 2, slot := 9, constantValue := 0 }, { name := "nameBytes", type := (.array .byte), accessFlags := 2, slot := 10, constantValue := 0 }]
  methods := #[k4m0]
  instanceTypes := #[(.object "java/io/InputStream"), (.array .byte), .int, .int, .long, .boolean, .boolean, (.object "com/example/zoria/zoria/xml/NameRead"), (.array (.object "com/example/zoria/zoria/xml/XmlName")), .int, (.array .byte)]
  staticTypes := #[.int, .int, .int, .int, .int, (.object "java/lang/String"), (.object "java/lang/String"), .int, .int]
  resolved := Array.replicate 333 none
  statics := none }

def pool5 : Array CpInfo := pool [(1, u "java/lang/Cloneable"), (0, .class_ 1), (0, u "java/lang/Object"), (0, .class_ 3)] 3

/-- java/lang/Cloneable -/
def k5 : Class := { plain "java/lang/Cloneable" (some 0) with
  accessFlags := 1537
  interfaces := #[]
  cf := some (fileOf pool5 2 #[] #[] 1537 4 #[] #[])
  fields := #[]
  methods := #[]
  instanceTypes := #[]
  staticTypes := #[]
  resolved := Array.replicate 8 none
  statics := none }

def pool6 : Array CpInfo := pool [(1, u "java/io/Serializable"), (0, .class_ 1), (0, u "java/lang/Object"), (0, .class_ 3)] 3

/-- java/io/Serializable -/
def k6 : Class := { plain "java/io/Serializable" (some 0) with
  accessFlags := 1537
  interfaces := #[]
  cf := some (fileOf pool6 2 #[] #[] 1537 4 #[] #[])
  fields := #[]
  methods := #[]
  instanceTypes := #[]
  staticTypes := #[]
  resolved := Array.replicate 8 none
  statics := none }

/-- the primitive byte -/
def k7 : Class := { plain "byte" none with kind := .primitive 'B', accessFlags := 0x411 }
/-- [B -/
def k8 : Class := { plain "[B" (some 0) with kind := .array 7 .byte, interfaces := #[5, 6], accessFlags := 1041 }

/-- the primitive int -/
def k9 : Class := { plain "int" none with kind := .primitive 'I', accessFlags := 0x411 }
/-- [I -/
def k10 : Class := { plain "[I" (some 0) with kind := .array 9 .int, interfaces := #[5, 6], accessFlags := 1041 }

def heap : Heap := #[]
def classes : Array Class := #[k0, k1, k2, k3, k4, k5, k6, k7, k8, k9, k10]
def interned : List (Array UInt16 × Addr) := []
def slotsUsed : Nat := 0
def theMethod : MethodId := ⟨1, 4⟩
def args0 : Array Value := #[.int 5, .int 5, .int 5, .int 5, .int 5]
def aboutOver (below : List Frame) : State where
  vm := { classes := classes, interned := interned.toArray }
  heap := heap
  slotsUsed := slotsUsed
  threads := #[{ frames := .invoking theMethod args0 :: below }]
def below0 : List Frame := [.native { method := ⟨0, 0⟩, args := #[] }]
def about1 : State := aboutOver below0
def p0 : Program := .bare "" "" ""
def e0 : Env := launch0.env 0 0 0
theorem w_frames : about1.frames = Frame.invoking theMethod args0 :: below0 := rfl
set_option maxRecDepth 65536 in
theorem w_args : argsFit about1.vm theMethod args0 = true := by decide +kernel
set_option maxRecDepth 65536 in
theorem w_heap : heapFits about1 = true := by decide +kernel
set_option maxRecDepth 65536 in
theorem w_runnable : about1.curStatus? = some .runnable := by decide +kernel
set_option maxRecDepth 65536 in
theorem w_alone : about1.alone = true := by decide +kernel
set_option maxRecDepth 65536 in
theorem w_named : about1.methodNamed? x = some theMethod := by decide +kernel
set_option maxRecDepth 65536 in
theorem w_hears : about1.hears theMethod below0 = true := by decide +kernel
set_option maxRecDepth 65536 in
theorem w_ripe : about1.ripe theMethod args0 below0 = true := by decide +kernel
theorem w_running : about1.status = .running := rfl
set_option maxRecDepth 65536 in
theorem w_room : about1.hasRoom e0.platform room_1 = true :=
  launch0.hasRoom_least _ room_1 (by decide +kernel) (by decide +kernel) (by decide +kernel) (by decide +kernel) (by decide +kernel) (by decide +kernel)
theorem allAtoms_all (ts : List Jvm.Cond) (a : Array Jvm.Value) (st : Jvm.State) : (allAtoms ts).before a st = ts.all (fun c => c.before a st) := by
  induction ts with
  | nil => rfl
  | cons c t ih =>
    show (Jvm.Cond.and c (allAtoms t)).before a st = _
    rw [Jvm.Cond.before_and, ih, List.all_cons]
def words1 : List Jvm.Cond := Jvm.Cond.code x code maxLocals ret :: tables_1
/-- a 'code' word, met by the world's own term for the bytes: nothing is compared byte by byte -/
theorem code_word {y : MethodName} {bytes : ByteArray} {mx : Nat} {rt : Option FieldType} {a : Array Value} {s : State} {m : MethodId} {meth : Method} {c : Code} (h1 : s.methodNamed? y = some m) (h2 : s.vm.method? m = some meth) (h3 : meth.code = some c) (h4 : c.code = bytes)
    (h5 : (c.maxLocals == mx && c.exceptionTable.isEmpty && decide (c.maxStack ≤ mostOperands) && decide (meth.sig.returnType = rt) && !meth.locks && decide (parseMethodDescriptor y.desc = some meth.sig)) = true) : (Jvm.Cond.code y bytes mx rt).before a s = true := by
  simp only [Bool.and_eq_true, beq_iff_eq, Bool.not_eq_true', decide_eq_true_eq] at h5
  obtain ⟨⟨⟨⟨⟨g1, g2⟩, g3⟩, g4⟩, g5⟩, g6⟩ := h5
  simp [Cond.before, Cond.holds, Cond.value, h1, h2, h3, h4, g1, g2, g3, g4, g5, g6]
def isCode : Jvm.Cond → Bool
  | .code _ _ _ _ => true
  | _ => false
theorem all_split {L : List Jvm.Cond} {P : Jvm.Cond → Bool} (h1 : L.all (fun c => isCode c || P c) = true) (h2 : ∀ c ∈ L.filter isCode, P c = true) : L.all P = true := by
  refine List.all_eq_true.mpr fun c hc => ?_
  have h := List.all_eq_true.mp h1 c hc
  rcases Bool.eq_false_or_eq_true (isCode c) with hi | hi
  · exact h2 c (List.mem_filter.mpr ⟨hc, hi⟩)
  · simpa [hi] using h
set_option maxRecDepth 65536 in
theorem w_c0 : (Jvm.Cond.code x code maxLocals ret).before args0 about1 = true := code_word (m := ⟨1, 4⟩) (meth := k1m4) (c := k1c4) (by decide +kernel) rfl rfl rfl (by decide +kernel)
set_option maxRecDepth 65536 in
theorem w_c1 : (Jvm.Cond.code ({ cls := "com/example/zoria/zoria/xml/XmlInputStandingCharacterPinLaw", name := "put", desc := "([BII)V" } : Jvm.MethodName) method_4_code (3 : Nat) (Option.none : Option Jvm.ClassFile.FieldType)).before args0 about1 = true := code_word (m := ⟨1, 3⟩) (meth := k1m3) (c := k1c3) (by decide +kernel) rfl rfl rfl (by decide +kernel)
set_option maxRecDepth 65536 in
theorem w_c2 : (Jvm.Cond.code ({ cls := "com/example/zoria/zoria/xml/XmlInput", name := "standingCharacter", desc := "([BIZ)I" } : Jvm.MethodName) prog_131_method_7_code (5 : Nat) (Option.some Jvm.ClassFile.FieldType.int)).before args0 about1 = true := code_word (m := ⟨4, 0⟩) (meth := k4m0) (c := k4c0) (by decide +kernel) rfl rfl rfl (by decide +kernel)
set_option maxRecDepth 65536 in
theorem w_c3 : (Jvm.Cond.code ({ cls := "com/example/zoria/zoria/xml/XmlInputStandingCharacterPinLaw", name := "allowed", desc := "(IZ)Z" } : Jvm.MethodName) method_2_code (2 : Nat) (Option.some Jvm.ClassFile.FieldType.boolean)).before args0 about1 = true := code_word (m := ⟨1, 1⟩) (meth := k1m1) (c := k1c1) (by decide +kernel) rfl rfl rfl (by decide +kernel)
set_option maxRecDepth 65536 in
theorem w_c4 : (Jvm.Cond.code ({ cls := "com/example/zoria/zoria/xml/XmlInputStandingCharacterPinLaw", name := "matches", desc := "([BII)Z" } : Jvm.MethodName) method_3_code (3 : Nat) (Option.some Jvm.ClassFile.FieldType.boolean)).before args0 about1 = true := code_word (m := ⟨1, 2⟩) (meth := k1m2) (c := k1c2) (by decide +kernel) rfl rfl rfl (by decide +kernel)
def codes1 : List Jvm.Cond := [Jvm.Cond.code x code maxLocals ret, Jvm.Cond.code ({ cls := "com/example/zoria/zoria/xml/XmlInputStandingCharacterPinLaw", name := "put", desc := "([BII)V" } : Jvm.MethodName) method_4_code (3 : Nat) (Option.none : Option Jvm.ClassFile.FieldType), Jvm.Cond.code ({ cls := "com/example/zoria/zoria/xml/XmlInput", name := "standingCharacter", desc := "([BIZ)I" } : Jvm.MethodName) prog_131_method_7_code (5 : Nat) (Option.some Jvm.ClassFile.FieldType.int), Jvm.Cond.code ({ cls := "com/example/zoria/zoria/xml/XmlInputStandingCharacterPinLaw", name := "allowed", desc := "(IZ)Z" } : Jvm.MethodName) method_2_code (2 : Nat) (Option.some Jvm.ClassFile.FieldType.boolean), Jvm.Cond.code ({ cls := "com/example/zoria/zoria/xml/XmlInputStandingCharacterPinLaw", name := "matches", desc := "([BII)Z" } : Jvm.MethodName) method_3_code (3 : Nat) (Option.some Jvm.ClassFile.FieldType.boolean)]
set_option maxRecDepth 65536 in
theorem codes_eq : words1.filter isCode = codes1 := rfl
theorem w_codes : ∀ c ∈ words1.filter isCode, c.before args0 about1 = true := by
  rw [codes_eq]
  intro c hc
  simp only [codes1, List.mem_cons, List.not_mem_nil, or_false] at hc
  rcases hc with rfl | rfl | rfl | rfl | rfl
  · exact w_c0
  · exact w_c1
  · exact w_c2
  · exact w_c3
  · exact w_c4
set_option maxRecDepth 65536 in
theorem w_t1 : (words1.take 24).all (fun c => isCode c || c.before args0 about1) = true := by decide +kernel
set_option maxRecDepth 65536 in
theorem w_t2 : (words1.drop 24).all (fun c => isCode c || c.before args0 about1) = true := by decide +kernel
theorem w_tables : (allAtoms (Jvm.Cond.code x code maxLocals ret :: tables_1)).before args0 about1 = true := by
  rw [allAtoms_all]
  show words1.all (fun c => c.before args0 about1) = true
  refine all_split ?_ w_codes
  rw [← List.take_append_drop 24 words1, List.all_append, w_t1, w_t2]
  rfl
set_option maxRecDepth 65536 in
theorem w_case : (Jvm.Cond.and given_1 narrow_1).before args0 about1 = true := by decide +kernel
theorem w_applies : (headSpec (Jvm.Cond.code x code maxLocals ret :: tables_1) room_1).applies x e0.platform about1 = true :=
  (Spec.applies_iff w_frames).mpr ⟨w_running, w_runnable, w_alone, w_named, w_hears, w_ripe, w_room, w_tables⟩
theorem atStart : AtStart classFile x code maxLocals ret World_1 tables_1 room_1 Calls_1 rest_1 Pre_1 launch0 p0 e0 about1 theMethod args0 below0 :=
  ⟨lists_1, trivial, launch0.admits_env _ _ _, launch0.least_env, fairChoices_fair.cas, fairChoices_fair.clock, w_frames, w_args, w_heap, w_applies, trivial, trivial, w_case⟩
end start1
theorem witness_1 : WitnessClaimed_1 := ⟨start1.p0, start1.e0, start1.about1, start1.theMethod, start1.args0, start1.below0, start1.atStart⟩
end Jvm.Pilot.@@N@@
